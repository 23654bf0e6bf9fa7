import PyProof.Rows.All
import Wide.All
import OpenK.AllK
import Wide.FinOn
import PySem.Challenge.RW_dm0066_02
open PySem PySem.W PyProof.Rows
set_option Elab.async false
set_option autoImplicit false
set_option linter.unusedVariables false
set_option linter.unusedSimpArgs false
set_option maxRecDepth 100000
namespace Mine
set_option maxHeartbeats 8000000 in
open_top hd02 for PySem.Challenge.rw_dm0066_02
set_option maxHeartbeats 4000000
section
/-- all of h stands in h' -/
def Keep (h h' : Heap) : Prop := ∀ b o, h.get? b = some o → h'.get? b = some o
theorem Keep.refl (h : Heap) : Keep h h := fun _ _ e => e
theorem Keep.trans {h h₁ h₂ : Heap} (x : Keep h h₁) (y : Keep h₁ h₂) : Keep h h₂ := fun b o e => y b o (x b o e)

/-- a value as the rules see it: plain frozen data, a range, or the value itself -/
inductive V where
  | dat (d : PyData)
  | val (v : Value)
  | rng (a b c : Int)

abbrev V.none : V := .dat .none
abbrev V.bool (b : Bool) : V := .dat (.bool b)
abbrev V.int (i : Int) : V := .dat (.int i)
abbrev V.str (s : Str) : V := .dat (.str s)
abbrev V.lst (l : List PyData) : V := .dat (.list l)
abbrev V.tup (l : List PyData) : V := .dat (.tuple l)
abbrev V.ref (a : Addr) : V := .val (.ref a)

inductive RV (fz : Heap) : V → Value → Prop
  | dat {d : PyData} {v : Value} {as : List Addr} : Reads fz v d as → RV fz (.dat d) v
  | val (v : Value) : RV fz (.val v) v
  | rng {r : Addr} {a b c : Int} {t u v : Tok} : IsRange fz r a b c t u v → RV fz (.rng a b c) (.ref r)

theorem IsRange_keep {h h' : Heap} {r : Addr} {a b c : Int} {t u v : Tok} (x : IsRange h r a b c t u v) (k : Keep h h') : IsRange h' r a b c t u v := by
  exact k _ _ x
theorem RV.mono {fz fz' : Heap} {a : V} {v : Value} (x : RV fz a v) (k : Keep fz fz') : RV fz' a v := by
  cases x with
  | dat r => exact .dat (Reads.keeps k r)
  | val v => exact .val v
  | rng r => exact .rng (IsRange_keep r k)

inductive RVs (fz : Heap) : List V → List Value → Prop
  | nil : RVs fz [] []
  | cons {a : V} {v : Value} {l : List V} {vs : List Value} : RV fz a v → RVs fz l vs → RVs fz (a :: l) (v :: vs)
theorem RVs.mono {fz fz' : Heap} {l : List V} {vs : List Value} (x : RVs fz l vs) (k : Keep fz fz') : RVs fz' l vs := by
  induction x with
  | nil => exact .nil
  | cons h _ ih => exact .cons (h.mono k) ih
theorem RVs.length {fz : Heap} {l : List V} {vs : List Value} (x : RVs fz l vs) : l.length = vs.length := by
  induction x with
  | nil => rfl
  | cons _ _ ih => simp [ih]
theorem RVs.append {fz : Heap} {l l' : List V} {vs vs' : List Value} (x : RVs fz l vs) (y : RVs fz l' vs') : RVs fz (l ++ l') (vs ++ vs') := by
  induction x with
  | nil => exact y
  | cons h _ ih => exact .cons h ih
theorem RVs.get {fz : Heap} {l : List V} {vs : List Value} (x : RVs fz l vs) : ∀ {i : Nat} {a : V}, l[i]? = some a → ∃ v, vs[i]? = some v ∧ RV fz a v := by
  induction x with
  | nil => intro i a e; simp at e
  | cons h _ ih =>
    intro i a e
    cases i with
    | zero => simp at e; subst e; exact ⟨_, rfl, h⟩
    | succ i => simp at e; simpa using ih e
theorem RVs.of_reads {fz : Heap} {vs : List Value} {ds : List PyData} {as : List Addr} (x : ReadsAll fz vs ds as) : RVs fz (ds.map V.dat) vs := by
  induction ds generalizing vs as with
  | nil => cases x; exact .nil
  | cons d ds ih => cases x with | cons h t => exact .cons (.dat h) (ih t)
theorem RVs.reads {fz : Heap} : ∀ {ds : List PyData} {vs : List Value}, RVs fz (ds.map V.dat) vs → ∃ as, ReadsAll fz vs ds as
  | [], _, x => by cases x; exact ⟨_, .nil⟩
  | d :: ds, _, x => by
    cases x with
    | cons h t =>
      cases h with
      | dat r => obtain ⟨as, ht⟩ := RVs.reads t; exact ⟨_, .cons r ht⟩

/-- what a made object is -/
inductive Ob where
  | ns (loc : List (Str × V))
  | cell (v : Option V)
  | list (l : List V)
  | tup (l : List V)
  | it (l : List V)
  | att (loc : List (Str × V))
  | obj (o : Obj)
  | prop (P : Heap → Obj → Prop)
  | gen (g : Nat) (P : GenState → Prop)
/-- a generator's number -/
def Ob.genOf : Ob → Option Nat
  | .gen g _ => some g
  | _ => none

def listObj (vs : List Value) (n : Nat) : Obj := { cls := .type "list", data := .seq vs.toArray n }
def tupObj (vs : List Value) (n : Nat) : Obj := { cls := .type "tuple", data := .seq vs.toArray n }

def NsIs (fz : Heap) (loc : List (Str × V)) (o : Obj) : Prop :=
  ∃ es ep, o.data = .dict es ep ∧ StrKeys es ∧ ∀ p ∈ loc, ∃ v, nsFind es p.1 = some v ∧ RV fz p.2 v

/-- a made thing's own attributes, all of them -/
def AttIs (fz : Heap) (loc : List (Str × V)) (o : Obj) : Prop :=
  ∃ es ep, o.data = .dict es ep ∧ StrKeys es ∧ es.size ≤ loc.length ∧ (∀ p ∈ loc, ∃ v, nsFind es p.1 = some v ∧ RV fz p.2 v) ∧ ∀ x, x ∉ loc.map (·.1) → nsFind es x = none

/-- an iterator that has just these still to give -/
inductive ItIs (fz : Heap) : List V → Obj → Prop
  | list {a : Addr} {vs : Array Value} {i : Nat} {l : List V} {o : Obj} : fz.IsList a vs → RVs fz l (vs.toList.drop i) → o.cls = .type "list_iterator" → o.data = .fields #[.ref a, .int i 0] → ItIs fz l o
  | tup {a : Addr} {vs : Array Value} {i : Nat} {l : List V} {o : Obj} : fz.IsTuple a vs → RVs fz l (vs.toList.drop i) → o.cls = .type "tuple_iterator" → o.data = .fields #[.ref a, .int i 0] → ItIs fz l o
  | range {x c : Int} {n : Nat} {l : List V} {o : Obj} : l = (List.range n).map (fun j : Nat => V.int (x + (j : Int) * c)) → o = { cls := .type "range_iterator", data := .fields #[rawInt x, rawInt n, rawInt c] } → ItIs fz l o
  | ascii {x : Str} {t : Tok} {i : Nat} {l : List V} {o : Obj} : l = (x.cps.toList.drop i).map (fun c => V.str ⟨#[c]⟩) → o.cls = .type "str_ascii_iterator" → o.data = .fields #[.str x t, .int i 0] → ItIs fz l o
  | wide {x : Str} {t : Tok} {i : Nat} {l : List V} {o : Obj} : l = (x.cps.toList.drop i).map (fun c => V.str ⟨#[c]⟩) → o.cls = .type "str_iterator" → o.data = .fields #[.str x t, .int i 0] → ItIs fz l o
  | over {o : Obj} {k : Value} : o.cls = .type "list_iterator" → o.data = .fields #[.none, k] → ItIs fz [] o
theorem ItIs.mono {fz fz' : Heap} {l : List V} {o : Obj} (x : ItIs fz l o) (k : Keep fz fz') : ItIs fz' l o := by
  cases x with
  | list h r c d => obtain ⟨ob, e, q⟩ := h; exact .list ⟨ob, k _ _ e, q⟩ (r.mono k) c d
  | tup h r c d => obtain ⟨ob, e, q⟩ := h; exact .tup ⟨ob, k _ _ e, q⟩ (r.mono k) c d
  | range e q => exact .range e q
  | ascii e c d => exact .ascii e c d
  | wide e c d => exact .wide e c d
  | over c d => exact .over c d

def ObIs (fz : Heap) : Ob → Obj → Prop
  | .ns loc, o => NsIs fz loc o
  | .cell none, o => o.data = .cell none
  | .cell (some a), o => ∃ v, o.data = .cell (some v) ∧ RV fz a v
  | .list l, o => ∃ vs n, o = listObj vs n ∧ RVs fz l vs
  | .tup l, o => ∃ vs n, o = tupObj vs n ∧ RVs fz l vs
  | .it l, o => ItIs fz l o
  | .att loc, o => AttIs fz loc o
  | .obj o', o => o = o'
  | .prop P, o => ∃ fz₀, Keep fz₀ fz ∧ P fz₀ o
  | .gen g _, o => o.cls = .type "generator" ∧ (∃ nm qn, o.data = .fields #[.int g 0, nm, qn]) ∧ o.slots = #[]

theorem ObIs.mono {fz fz' : Heap} {ob : Ob} {o : Obj} (x : ObIs fz ob o) (k : Keep fz fz') : ObIs fz' ob o := by
  cases ob with
  | ns loc => obtain ⟨es, ep, h1, h2, h3⟩ := x; exact ⟨es, ep, h1, h2, fun p hp => let ⟨v, e, r⟩ := h3 p hp; ⟨v, e, r.mono k⟩⟩
  | cell v => cases v with
    | none => exact x
    | some a => obtain ⟨v, e, r⟩ := x; exact ⟨v, e, r.mono k⟩
  | list l => obtain ⟨vs, n, e, r⟩ := x; exact ⟨vs, n, e, r.mono k⟩
  | tup l => obtain ⟨vs, n, e, r⟩ := x; exact ⟨vs, n, e, r.mono k⟩
  | it l => exact ItIs.mono x k
  | att loc => obtain ⟨es, ep, h1, h2, hz, h3, h4⟩ := x; exact ⟨es, ep, h1, h2, hz, fun p hp => let ⟨v, e, r⟩ := h3 p hp; ⟨v, e, r.mono k⟩, h4⟩
  | obj o' => exact x
  | prop P => obtain ⟨fz₀, k₀, h⟩ := x; exact ⟨fz₀, k₀.trans k, h⟩
  | gen g P => exact x

abbrev Own := List (Addr × Ob)

/-- what stays through the whole law -/
structure Wd where
  prog : Program
  w : World
  base : Heap
  os : OsState
  K : Frag
  p : Program
  loose : List Str
  mg : Str → Option Value
  mb : Str → Option Value
  kin : K.In base
  top : TopRead p loose mg mb base
  bm : ∃ bm ob, mg "__builtins__" = some (.ref bm) ∧ bm ≠ builtinsNs ∧ base.get? bm = some ob ∧ ob.cls = .type "module" ∧ ob.dict = some builtinsNs ∧ ob.data = .plain
  tk : Nat

/-- the generators are as told -/
structure GensIs (own : Own) (gs : Array GenState) : Prop where
  bare : AllBare gs
  st : ∀ p ∈ own, ∀ g P, p.2 = .gen g P → ∃ x, gs[g]? = some x ∧ P x
  nd : (own.filterMap fun p => p.2.genOf).Nodup
theorem GensIs.nil {gs : Array GenState} (h : AllBare gs) : GensIs [] gs := ⟨h, fun p hp => (nomatch hp), List.nodup_nil⟩
theorem GensIs.sub {own own' : Own} {gs : Array GenState} (x : GensIs own gs) (h : own'.Sublist own) : GensIs own' gs :=
  ⟨x.bare, fun p hp => x.st p (h.subset hp), x.nd.sublist (h.filterMap _)⟩
theorem GensIs.perm {own own' : Own} {gs : Array GenState} (x : GensIs own gs) (h : own.Perm own') : GensIs own' gs :=
  ⟨x.bare, fun p hp => x.st p (h.mem_iff.mpr hp), (h.filterMap _).nodup_iff.mp x.nd⟩
theorem GensIs.cons {own : Own} {gs : Array GenState} {a : Addr} {ob : Ob} (x : GensIs own gs) (h : ob.genOf = none) : GensIs ((a, ob) :: own) gs := by
  refine ⟨x.bare, fun p hp g P e => ?_, ?_⟩
  · rcases List.mem_cons.mp hp with rfl | hp
    · rw [show ob = .gen g P from e] at h; cases h
    · exact x.st p hp g P e
  · rw [List.filterMap_cons, show (a, ob).2.genOf = none from h]; exact x.nd

structure Hold (W : Wd) (fz : Heap) (own : Own) (s : Shared) : Prop where
  base : Keep W.base fz
  has : Keep fz s.heap
  obs : ∀ p ∈ own, ∃ o, s.heap.get? p.1 = some o ∧ ObIs fz p.2 o
  out : ∀ p ∈ own, fz.get? p.1 = none
  nd : (own.map (·.1)).Nodup
  gens : GensIs own s.gens
  os : s.os = W.os

variable {W : Wd}

theorem Hold.toks {fz : Heap} {own : Own} {s : Shared} (H : Hold W fz own s) (k : Nat) : Hold W fz own { s with toks := k } := ⟨H.base, H.has, H.obs, H.out, H.nd, H.gens, H.os⟩
theorem Hold.kin {fz : Heap} {own : Own} {s : Shared} (H : Hold W fz own s) : W.K.In s.heap := W.kin.keeps (H.base.trans H.has)
theorem Hold.keep {fz : Heap} {own : Own} {s : Shared} (H : Hold W fz own s) : Keep W.base s.heap := H.base.trans H.has
theorem Hold.get {fz : Heap} {own : Own} {s : Shared} (H : Hold W fz own s) {a : Addr} {ob : Ob} (h : (a, ob) ∈ own) : ∃ o, s.heap.get? a = some o ∧ ObIs fz ob o := H.obs _ h

theorem Hold.sub {fz : Heap} {own own' : Own} {s : Shared} (H : Hold W fz own s) (h : own'.Sublist own) : Hold W fz own' s :=
  ⟨H.base, H.has, fun p hp => H.obs p (h.subset hp), fun p hp => H.out p (h.subset hp), H.nd.sublist (h.map _), H.gens.sub h, H.os⟩
theorem Hold.tail {fz : Heap} {p : Addr × Ob} {own : Own} {s : Shared} (H : Hold W fz (p :: own) s) : Hold W fz own s := H.sub (List.sublist_cons_self _ _)
theorem Hold.perm {fz : Heap} {own own' : Own} {s : Shared} (H : Hold W fz own s) (h : own.Perm own') : Hold W fz own' s :=
  ⟨H.base, H.has, fun p hp => H.obs p (h.mem_iff.mpr hp), fun p hp => H.out p (h.mem_iff.mpr hp), (h.map _).nodup_iff.mp H.nd, H.gens.perm h, H.os⟩

/-- one entry is turned -/
inductive Upd (a : Addr) (ob ob' : Ob) : Own → Own → Prop
  | here {l : Own} : Upd a ob ob' ((a, ob) :: l) ((a, ob') :: l)
  | there {p : Addr × Ob} {l l' : Own} : Upd a ob ob' l l' → Upd a ob ob' (p :: l) (p :: l')
theorem Upd.mem {a : Addr} {ob ob' : Ob} {l l' : Own} (u : Upd a ob ob' l l') : (a, ob) ∈ l := by
  induction u with
  | here => exact List.mem_cons_self
  | there _ ih => exact List.mem_cons_of_mem _ ih
theorem Upd.keys {a : Addr} {ob ob' : Ob} {l l' : Own} (u : Upd a ob ob' l l') : l'.map (·.1) = l.map (·.1) := by
  induction u with
  | here => rfl
  | there _ ih => simp [ih]
theorem Upd.other {a : Addr} {ob ob' : Ob} {l l' : Own} (u : Upd a ob ob' l l') : ∀ p ∈ l', p = (a, ob') ∨ p ∈ l := by
  induction u with
  | here => intro p hp; rcases List.mem_cons.mp hp with h | h; exact .inl h; exact .inr (List.mem_cons_of_mem _ h)
  | there _ ih => intro p hp; rcases List.mem_cons.mp hp with h | h; exact .inr (h ▸ List.mem_cons_self); exact (ih p h).imp id (List.mem_cons_of_mem _)
theorem mem_unique {l : Own} (nd : (l.map (·.1)).Nodup) {p q : Addr × Ob} (hp : p ∈ l) (hq : q ∈ l) (e : p.1 = q.1) : p = q := by
  induction l with
  | nil => cases hp
  | cons x l ih =>
    rw [List.map_cons, List.nodup_cons] at nd
    rcases List.mem_cons.mp hp with h1 | h1 <;> rcases List.mem_cons.mp hq with h2 | h2
    · rw [h1, h2]
    · exact absurd (List.mem_map.mpr ⟨q, h2, by rw [← e, h1]⟩) nd.1
    · exact absurd (List.mem_map.mpr ⟨p, h1, by rw [e, h2]⟩) nd.1
    · exact ih nd.2 h1 h2
theorem Upd.other' {a : Addr} {ob ob' : Ob} {l l' : Own} (nd : (l.map (·.1)).Nodup) (u : Upd a ob ob' l l') : ∀ p ∈ l', p = (a, ob') ∨ (p ∈ l ∧ p.1 ≠ a) := by
  induction u with
  | here =>
    intro p hp
    rw [List.map_cons, List.nodup_cons] at nd
    rcases List.mem_cons.mp hp with h | h
    · exact .inl h
    · exact .inr ⟨List.mem_cons_of_mem _ h, fun e => nd.1 (List.mem_map.mpr ⟨p, h, e⟩)⟩
  | @there q l l' v ih =>
    intro p hp
    rw [List.map_cons, List.nodup_cons] at nd
    rcases List.mem_cons.mp hp with h | h
    · subst h
      exact .inr ⟨List.mem_cons_self, fun e => nd.1 (List.mem_map.mpr ⟨_, v.mem, e.symm⟩)⟩
    · exact (ih nd.2 p h).imp id fun x => ⟨List.mem_cons_of_mem _ x.1, x.2⟩

theorem GensIs.upd {own own' : Own} {gs : Array GenState} {a : Addr} {ob ob' : Ob} (x : GensIs own gs) (u : Upd a ob ob' own own') (h : ob'.genOf = none) : GensIs own' gs := by
  refine ⟨x.bare, fun p hp g P e => ?_, ?_⟩
  · rcases u.other p hp with rfl | hp
    · rw [show ob' = .gen g P from e] at h; cases h
    · exact x.st p hp g P e
  · have : (own'.filterMap fun p => p.2.genOf).Sublist (own.filterMap fun p => p.2.genOf) := by
      clear x
      induction u with
      | here =>
        rw [List.filterMap_cons, show (a, ob').2.genOf = none from h]
        exact (List.sublist_cons_self _ _).filterMap _
      | @there q l l' _ ih =>
        rw [List.filterMap_cons, List.filterMap_cons]
        cases q.2.genOf with
        | none => exact ih
        | some n => exact ih.cons_cons n
    exact x.nd.sublist this
theorem Hold.lt {fz : Heap} {own : Own} {s : Shared} (H : Hold W fz own s) {p : Addr × Ob} (h : p ∈ own) : p.1 < s.heap.objs.size := let ⟨_, e, _⟩ := H.obs p h; Heap.lt_size e

/-- an entry changes by a step that touches its object alone -/
theorem Hold.set {fz : Heap} {own own' : Own} {s : Shared} (H : Hold W fz own s) {a : Addr} {ob ob' : Ob} (u : Upd a ob ob' own own') {h' : Heap} {k : Nat} (hs : Heap.SameBut a s.heap h')
    {o : Obj} (ho : h'.get? a = some o) (hob : ObIs fz ob' o) (hg : ob'.genOf = none := by rfl) : Hold W fz own' { s with heap := h', toks := k } where
  base := H.base
  has := fun b o e => (hs.2 b (fun hb => by have := H.out _ u.mem; rw [hb] at e; exact absurd e (by rw [this]; exact fun x => nomatch x))).trans (H.has b o e)
  obs := fun p hp => by
    rcases u.other' H.nd p hp with rfl | ⟨h, hne⟩
    · exact ⟨o, ho, hob⟩
    · obtain ⟨o', e, r⟩ := H.obs p h
      exact ⟨o', (hs.2 p.1 hne).trans e, r⟩
  out := fun p hp => by
    rcases u.other' H.nd p hp with rfl | ⟨h, _⟩
    · exact H.out (a, ob) u.mem
    · exact H.out p h
  nd := by rw [u.keys]; exact H.nd
  gens := H.gens.upd u hg
  os := H.os

/-- a step that keeps all but what is not told -/
theorem Hold.grow {fz : Heap} {own : Own} {s : Shared} (H : Hold W fz own s) {h' : Heap} {k : Nat} (hk : Keep s.heap h') : Hold W fz own { s with heap := h', toks := k } where
  base := H.base
  has := H.has.trans hk
  obs := fun p hp => let ⟨o, e, r⟩ := H.obs p hp; ⟨o, hk _ _ e, r⟩
  out := H.out
  nd := H.nd
  gens := H.gens
  os := H.os

theorem get?_ge {h : Heap} {a : Addr} (x : h.objs.size ≤ a) : h.get? a = none := by
  cases e : h.get? a with
  | none => rfl
  | some o => exact absurd (Heap.lt_size e) (Nat.not_lt.mpr x)
theorem Keep.push (h : Heap) (o : Obj) : Keep h (h.push o) := fun _ _ e => Heap.get?_push_of_some o e

theorem base_le {h h' : Heap} (k : Keep h h') {a : Addr} (ha : h'.objs.size ≤ a) : h.get? a = none := by
  cases e : h.get? a with
  | none => rfl
  | some o => exact absurd (Heap.lt_size (k _ _ e)) (Nat.not_lt.mpr ha)

/-- a new object enters the list; the heap has grown -/
theorem Hold.new {fz : Heap} {own : Own} {s : Shared} (H : Hold W fz own s) {h' : Heap} {k : Nat} (hk : Keep s.heap h') {a : Addr} (ha : s.heap.get? a = none) {o : Obj} {ob : Ob}
    (ho : h'.get? a = some o) (hob : ObIs fz ob o) (hg : ob.genOf = none := by rfl) : Hold W fz ((a, ob) :: own) { s with heap := h', toks := k } where
  base := H.base
  has := H.has.trans hk
  obs := fun p hp => by
    rcases List.mem_cons.mp hp with rfl | hp
    · exact ⟨o, ho, hob⟩
    · obtain ⟨o', e, r⟩ := H.obs p hp
      exact ⟨o', hk _ _ e, r⟩
  out := fun p hp => by
    rcases List.mem_cons.mp hp with rfl | hp
    · cases e : fz.get? a with
      | none => rfl
      | some o' => exact absurd (H.has _ _ e) (by rw [ha]; exact fun x => nomatch x)
    · exact H.out p hp
  nd := by
    rw [List.map_cons, List.nodup_cons]
    refine ⟨fun hm => ?_, H.nd⟩
    obtain ⟨p, hp, e⟩ := List.mem_map.mp hm
    obtain ⟨o', e', _⟩ := H.obs p hp
    rw [e, ha] at e'
    cases e'
  gens := H.gens.cons hg
  os := H.os
end
section
/-- no way raises -/
abbrev NoX : Value → Shared → Prop := fun _ _ => False

def At {α β : Type} (W : Wd) (A : Around) (R : Heap → β → α → Prop) (t : Sem α) (Q : β → Own → Prop) (fz : Heap) (s : Shared) : Prop :=
  wpAny (model W.prog W.w) A t (fun a s' => ∃ fz' b own', Keep fz fz' ∧ Hold W fz' own' s' ∧ R fz' b a ∧ Q b own') NoX s

def SG {α β : Type} (W : Wd) (A : Around) (R : Heap → β → α → Prop) (t : Sem α) (own : Own) (Q : β → Own → Prop) : Prop :=
  ∀ fz s, Hold W fz own s → W.tk ≤ s.toks → At W A R t Q fz s

/-- of one value, of two, of a list -/
def S1 {α β : Type} (W : Wd) (A : Around) (R : Heap → β → α → Prop) (f : Value → Sem α) (a : V) (own : Own) (Q : β → Own → Prop) : Prop :=
  ∀ fz s v, Hold W fz own s → W.tk ≤ s.toks → RV fz a v → At W A R (f v) Q fz s
def S2 {α β : Type} (W : Wd) (A : Around) (R : Heap → β → α → Prop) (f : Value → Value → Sem α) (a b : V) (own : Own) (Q : β → Own → Prop) : Prop :=
  ∀ fz s v u, Hold W fz own s → W.tk ≤ s.toks → RV fz a v → RV fz b u → At W A R (f v u) Q fz s
def SL {α β : Type} (W : Wd) (A : Around) (R : Heap → β → α → Prop) (f : List Value → Sem α) (l : List V) (own : Own) (Q : β → Own → Prop) : Prop :=
  ∀ fz s vs, Hold W fz own s → W.tk ≤ s.toks → RVs fz l vs → At W A R (f vs) Q fz s

abbrev RB : Heap → Bool → Bool → Prop := fun _ b a => a = b
abbrev RU : Heap → Unit → Unit → Prop := fun _ _ _ => True

inductive Fl where
  | next | brk | cont
  | ret (v : V)
inductive RF (fz : Heap) : Fl → Flow → Prop
  | next : RF fz .next .next
  | brk : RF fz .brk .brk
  | cont : RF fz .cont .cont
  | ret {a : V} {v : Value} : RV fz a v → RF fz (.ret a) (.ret v)

variable {W : Wd} {A : Around} {env : Env} {own : Own}

theorem At.weak {α β : Type} {R : Heap → β → α → Prop} {t : Sem α} {Q : β → Own → Prop} {fz fz' : Heap} {s : Shared} (h : At W A R t Q fz' s) (k : Keep fz fz') : At W A R t Q fz s :=
  wpAny_mono h (fun _ _ ⟨fz₁, b, own', k', x⟩ => ⟨fz₁, b, own', k.trans k', x⟩) fun _ _ x => x
theorem At.mono {α β : Type} {R : Heap → β → α → Prop} {t : Sem α} {Q Q' : β → Own → Prop} {fz : Heap} {s : Shared} (h : At W A R t Q fz s) (q : ∀ b own', Q b own' → Q' b own') : At W A R t Q' fz s :=
  wpAny_mono h (fun _ _ ⟨fz₁, b, own', k', H, r, x⟩ => ⟨fz₁, b, own', k', H, r, q _ _ x⟩) fun _ _ x => x
theorem SG.mono {α β : Type} {R : Heap → β → α → Prop} {t : Sem α} {Q Q' : β → Own → Prop} (h : SG W A R t own Q) (q : ∀ b own', Q b own' → Q' b own') : SG W A R t own Q' :=
  fun fz s H ht => (h fz s H ht).mono q

/-- the one way to go on -/
theorem wp_then {α β : Type} {R : Heap → β → α → Prop} {t : Sem α} {Q : β → Own → Prop} {fz : Heap} {s : Shared} {P : α → Shared → Prop} (h : At W A R t Q fz s) (ht : W.tk ≤ s.toks)
    (q : ∀ fz' a b own' s', Keep fz fz' → Hold W fz' own' s' → W.tk ≤ s'.toks → R fz' b a → Q b own' → P a s') : wpAny (model W.prog W.w) A t P NoX s :=
  wpAny_mono (wpAny_toks_of ht h) (fun a s' ⟨t', fz', b, own', k, H, r, x⟩ => q fz' a b own' s' k H t' r x) fun _ _ x => x.2

abbrev SE (W : Wd) (A : Around) (env : Env) (e : Expr) (own : Own) (Q : V → Own → Prop) : Prop := SG W A RV (eval e env) own Q
abbrev ST (W : Wd) (A : Around) (env : Env) (e : Expr) (own : Own) (Q : Bool → Own → Prop) : Prop := SG W A RB (isTrue e env (eval e env)) own Q
abbrev SX (W : Wd) (A : Around) (env : Env) (st : Stmt) (own : Own) (Q : Fl → Own → Prop) : Prop := SG W A RF (exec st env) own Q
abbrev SXs (W : Wd) (A : Around) (env : Env) (l : List Stmt) (own : Own) (Q : Fl → Own → Prop) : Prop := SG W A RF (execs l env) own Q
abbrev SS (W : Wd) (A : Around) (env : Env) (x : Str) (a : V) (own : Own) (Q : Own → Prop) : Prop := S1 W A RU (storeName env x) a own (fun _ => Q)
abbrev SA (W : Wd) (A : Around) (env : Env) (t : Expr) (a : V) (own : Own) (Q : Own → Prop) : Prop := S1 W A RU (assign t env) a own (fun _ => Q)

/-! ### constants, names -/
theorem SE_int {i : Int} {k : Nat} {pos : Pos} {Q : V → Own → Prop} (h : Q (.int i) own) : SE W A env (.Constant (.int i) k pos) own Q :=
  fun fz s H _ => wpAny_Constant_int ⟨fz, _, own, .refl _, H.toks _, .dat (.int _ _), h⟩
theorem SE_str {x : Str} {k : Nat} {pos : Pos} {Q : V → Own → Prop} (h : Q (.str x) own) : SE W A env (.Constant (.str x) k pos) own Q :=
  fun fz s H _ => wpAny_Constant_str ⟨fz, _, own, .refl _, H.toks _, .dat (.str _ _), h⟩
theorem ns_of {h : Heap} {a : Addr} {o : Obj} {fz : Heap} {loc : List (Str × V)} (ho : h.get? a = some o) (x : NsIs fz loc o) :
    ∃ m, h.Ns a m ∧ ∀ p ∈ loc, ∃ v, m p.1 = some v ∧ RV fz p.2 v := by
  obtain ⟨es, ep, h1, h2, h3⟩ := x
  exact ⟨_, ⟨o, es, ep, ho, h1, h2, fun _ => rfl⟩, h3⟩
theorem of_ns {h : Heap} {a : Addr} {m : Str → Option Value} {fz : Heap} {loc : List (Str × V)} (x : h.Ns a m) (r : ∀ p ∈ loc, ∃ v, m p.1 = some v ∧ RV fz p.2 v) :
    ∃ o, h.get? a = some o ∧ NsIs fz loc o := by
  obtain ⟨o, es, ep, ho, h1, h2, h3⟩ := x
  exact ⟨o, ho, es, ep, h1, h2, fun p hp => by obtain ⟨v, e, q⟩ := r p hp; exact ⟨v, (h3 _).trans e, q⟩⟩

theorem SN_local {x : Str} {loc : List (Str × V)} {a : V} {Q : V → Own → Prop} (hk : env.scope.kind = .function) (hl : env.kindOf x = some .local) (hm : (env.locals, Ob.ns loc) ∈ own) (hx : (x, a) ∈ loc)
    (h : Q a own) : SG W A RV (loadName env x) own Q := fun fz s H _ => by
  obtain ⟨o, ho, x1⟩ := H.get hm
  obtain ⟨m, hn, hv⟩ := ns_of ho x1
  obtain ⟨v, e, r⟩ := hv _ hx
  exact wpAny_loadName_local hk hl hn e ⟨fz, a, own, .refl _, H, r, h⟩
theorem SN_cell {x : Str} {c : Addr} {a : V} {Q : V → Own → Prop} (hk : env.scope.kind = .function) (hl : env.kindOf x = some .cell) (hc : env.cells.lookup x = some c) (hm : (c, Ob.cell (some a)) ∈ own)
    (h : Q a own) : SG W A RV (loadName env x) own Q := fun fz s H _ => by
  obtain ⟨o, ho, v, e, r⟩ := H.get hm
  exact wpAny_loadName_cell hk hl hc ⟨o, ho, e⟩ ⟨fz, a, own, .refl _, H, r, h⟩
theorem SN_free {x : Str} {c : Addr} {a : V} {Q : V → Own → Prop} (hk : env.scope.kind = .function) (hl : env.kindOf x = some .free) (hc : env.cells.lookup x = some c) (hm : (c, Ob.cell (some a)) ∈ own)
    (h : Q a own) (hn : (x == ("__classdict__" : Str)) = false := by decide) : SG W A RV (loadName env x) own Q := fun fz s H _ => by
  obtain ⟨o, ho, v, e, r⟩ := H.get hm
  exact wpAny_loadName_free hk hl hc ⟨o, ho, e⟩ ⟨fz, a, own, .refl _, H, r, h⟩ hn
theorem SN_global {x : Str} {v : Value} {Q : V → Own → Prop} (hk : env.scope.kind = .function) (hg : env.globals = mainGlobals) (hl : env.kindOf x = some .globalImplicit) (e : nsIn W.K mainGlobals x = some (some v))
    (h : Q (.val v) own) : SG W A RV (loadName env x) own Q := fun fz s H _ => by
  unfold loadName
  simp only [Env.blockKind, hk, hl, ScopeKind.isAnnotationScope, Bool.false_and, Bool.false_eq_true, if_false]
  exact Calls.loadGlobal_global (by rw [hg]; exact W.top.g.keeps H.keep) (mg_of W.kin W.top.g e) ⟨fz, _, own, .refl _, H, .val v, h⟩
theorem SN_builtin {x : Str} {v : Value} {Q : V → Own → Prop} (hk : env.scope.kind = .function) (hg : env.globals = mainGlobals) (hb : env.builtins = builtinsNs) (hl : env.kindOf x = some .globalImplicit) (e : nsIn W.K mainGlobals x = some none)
    (hv : bootBuiltins x = some v) (hn : x ≠ "__name__") (h : Q (.val v) own) : SG W A RV (loadName env x) own Q := fun fz s H _ => by
  unfold loadName
  simp only [Env.blockKind, hk, hl, ScopeKind.isAnnotationScope, Bool.false_and, Bool.false_eq_true, if_false]
  exact Calls.loadGlobal_builtin (by rw [hg]; exact W.top.g.keeps H.keep) (mg_none_of W.kin W.top.g e) (by rw [hb]; exact W.top.b.keeps H.keep) ((W.top.builtins x hn).trans hv) ⟨fz, _, own, .refl _, H, .val v, h⟩
theorem SE_Name {x : Str} {pos : Pos} {Q : V → Own → Prop} (h : SG W A RV (loadName env x) own Q) (hd : (x == ("__debug__" : Str)) = false := by decide) : SE W A env (.Name x pos) own Q :=
  fun fz s H ht => wpAny_Name (h fz s H ht) hd

/-! ### stores -/
inductive Put (x : Str) (a : V) : List (Str × V) → List (Str × V) → Prop
  | new : Put x a [] [(x, a)]
  | here {b : V} {l : List (Str × V)} : Put x a ((x, b) :: l) ((x, a) :: l)
  | there {p : Str × V} {l l' : List (Str × V)} : Put x a l l' → Put x a (p :: l) (p :: l')
theorem Put.other {x : Str} {a : V} {l l' : List (Str × V)} (u : Put x a l l') (nd : (l'.map (·.1)).Nodup) : ∀ p ∈ l', p = (x, a) ∨ (p ∈ l ∧ p.1 ≠ x) := by
  have hin : ∀ {l l' : List (Str × V)}, Put x a l l' → (x, a) ∈ l' := by
    intro l l' u
    induction u with
    | new => exact List.mem_cons_self
    | here => exact List.mem_cons_self
    | there _ ih => exact List.mem_cons_of_mem _ ih
  induction u with
  | new => intro p hp; exact .inl (by simpa using hp)
  | here =>
    intro p hp
    rw [List.map_cons, List.nodup_cons] at nd
    rcases List.mem_cons.mp hp with h | h
    · exact .inl h
    · exact .inr ⟨List.mem_cons_of_mem _ h, fun e => nd.1 (List.mem_map.mpr ⟨p, h, e⟩)⟩
  | @there q l l' v ih =>
    intro p hp
    rw [List.map_cons, List.nodup_cons] at nd
    rcases List.mem_cons.mp hp with h | h
    · subst h
      exact .inr ⟨List.mem_cons_self, fun e => nd.1 (List.mem_map.mpr ⟨_, hin v, e.symm⟩)⟩
    · exact (ih nd.2 p h).imp id fun x => ⟨List.mem_cons_of_mem _ x.1, x.2⟩

theorem SS_local {x : Str} {loc loc' : List (Str × V)} {a : V} {own' : Own} {Q : Own → Prop} (hk : env.scope.kind = .function) (hl : env.kindOf x = some .local) (hu : Put x a loc loc') (nd : ((loc'.map (·.1)).Nodup))
    (u : Upd env.locals (.ns loc) (.ns loc') own own') (h : Q own') : SS W A env x a own Q := fun fz s v H _ r => by
  obtain ⟨o, ho, x1⟩ := H.get u.mem
  obtain ⟨m, hn, hv⟩ := ns_of ho x1
  refine wpAny_storeName_local hl hn (fun h' hn' hs' => ?_) (by rw [hk]; rfl)
  obtain ⟨o', ho', hob⟩ := of_ns (fz := fz) (loc := loc') hn' (fun p hp => by
    rcases hu.other nd p hp with rfl | ⟨hp', hne⟩
    · exact ⟨v, by simp, r⟩
    · obtain ⟨u, e, r'⟩ := hv p hp'; exact ⟨u, by simp [hne, e], r'⟩)
  exact ⟨fz, (), own', .refl _, H.set u hs' ho' hob, trivial, h⟩
theorem SS_cell {x : Str} {c : Addr} {a : V} {a₀ : Option V} {own' : Own} {Q : Own → Prop} (hk : env.scope.kind = .function) (hl : env.kindOf x = some .cell) (hc : env.cells.lookup x = some c)
    (u : Upd c (.cell a₀) (.cell (some a)) own own') (h : Q own') : SS W A env x a own Q := fun fz s v H _ r => by
  obtain ⟨o, ho, x1⟩ := H.get u.mem
  have hcell : ∃ v₀, s.heap.IsCell c v₀ := by
    cases a₀ with
    | none => exact ⟨none, o, ho, x1⟩
    | some b => obtain ⟨w, e, _⟩ := x1; exact ⟨some w, o, ho, e⟩
  obtain ⟨v₀, hc0⟩ := hcell
  refine wpAny_storeName_cell hk hl hc hc0 fun h' ⟨o', ho', e'⟩ hs' => ?_
  exact ⟨fz, (), own', .refl _, H.set (k := s.toks) u hs' ho' ⟨v, e', r⟩, trivial, h⟩

theorem SS_loc {x : Str} {L : Addr} {loc loc' : List (Str × V)} {a : V} {own' : Own} {Q : Own → Prop} (hk : env.scope.kind = .function) (hl : env.kindOf x = some .local) (hm : (L, Ob.ns loc) ∈ own) (hL : env.locals = L) (hu : Put x a loc loc') (nd : ((loc'.map (·.1)).Nodup))
    (u : Upd L (.ns loc) (.ns loc') own own') (h : Q own') : SS W A env x a own Q := SS_local hk hl hu nd (by rw [hL]; exact u) h
theorem SN_loc {x : Str} {L : Addr} {loc : List (Str × V)} {a : V} {Q : V → Own → Prop} (hk : env.scope.kind = .function) (hl : env.kindOf x = some .local) (hm : (L, Ob.ns loc) ∈ own) (hL : env.locals = L) (hx : (x, a) ∈ loc)
    (h : Q a own) : SG W A RV (loadName env x) own Q := SN_local hk hl (by rw [hL]; exact hm) hx h
theorem SA_Name {x : Str} {pos : Pos} {a : V} {Q : Own → Prop} (h : SS W A env x a own Q) : SA W A env (.Name x pos) a own Q :=
  fun fz s v H ht r => wpAny_assign_Name (h fz s v H ht r)

/-! ### expressions: the nodes -/
theorem SE_BinOp {l r : Expr} {op : Operator} {pos : Pos} {Q : V → Own → Prop} (h : SE W A env l own fun a o1 => SE W A env r o1 fun b o2 => S2 W A RV (binaryOp op) a b o2 Q) :
    SE W A env (.BinOp l op r pos) own Q := fun fz s H ht => by
  refine wpAny_BinOp (wp_then (h fz s H ht) ht fun fz1 va a o1 s1 k1 H1 t1 r1 q1 => wp_then (q1 fz1 s1 H1 t1) t1 fun fz2 vb b o2 s2 k2 H2 t2 r2 q2 => ?_)
  exact (q2 fz2 s2 va vb H2 t2 (r1.mono k2) r2).weak (k1.trans k2)
theorem SE_Compare {l r : Expr} {op : CmpOp} {pos : Pos} {Q : V → Own → Prop} (h : SE W A env l own fun a o1 => SE W A env r o1 fun b o2 => S2 W A RV (compareOp op) a b o2 Q)
    (hm : behindInMarks op r = false := by with_unfolding_all rfl) : SE W A env (.Compare l [op] [r] pos) own Q := fun fz s H ht => by
  refine wpAny_Compare1 (wp_then (h fz s H ht) ht fun fz1 va a o1 s1 k1 H1 t1 r1 q1 => wp_then (q1 fz1 s1 H1 t1) t1 fun fz2 vb b o2 s2 k2 H2 t2 r2 q2 => ?_) hm
  exact (q2 fz2 s2 va vb H2 t2 (r1.mono k2) r2).weak (k1.trans k2)
theorem SE_UnaryOp {x : Expr} {op : UnaryOp} {pos : Pos} {Q : V → Own → Prop} (h : SE W A env x own fun a o1 => S1 W A RV (unaryOp op) a o1 Q) : SE W A env (.UnaryOp op x pos) own Q := fun fz s H ht =>
  wpAny_UnaryOp (wp_then (h fz s H ht) ht fun fz1 va a o1 s1 k1 H1 t1 r1 q1 => (q1 fz1 s1 va H1 t1 r1).weak k1)
theorem SE_IfExp {t b o : Expr} {pos : Pos} {Q : V → Own → Prop} (h : ST W A env t own fun c o1 => if c then SE W A env b o1 Q else SE W A env o o1 Q) : SE W A env (.IfExp t b o pos) own Q := fun fz s H ht => by
  refine wpAny_IfExp (wp_then (h fz s H ht) ht fun fz1 va a o1 s1 k1 H1 t1 r1 q1 => ?_)
  subst r1
  cases va
  · exact (q1 fz1 s1 H1 t1).weak k1
  · exact (q1 fz1 s1 H1 t1).weak k1
theorem SE_Subscript {o i : Expr} {pos : Pos} {Q : V → Own → Prop} (h : SE W A env o own fun a o1 => SE W A env i o1 fun b o2 => S2 W A RV (subscriptTail o i) a b o2 Q) :
    SE W A env (.Subscript o i pos) own Q := fun fz s H ht => by
  refine Subscript_ (wp_then (h fz s H ht) ht fun fz1 va a o1 s1 k1 H1 t1 r1 q1 => wp_then (q1 fz1 s1 H1 t1) t1 fun fz2 vb b o2 s2 k2 H2 t2 r2 q2 => ?_)
  exact (q2 fz2 s2 va vb H2 t2 (r1.mono k2) r2).weak (k1.trans k2)
theorem SE_Attribute {o : Expr} {n : Str} {pos : Pos} {Q : V → Own → Prop} (h : SE W A env o own fun a o1 => S1 W A RV (fun v => getAttr v n true) a o1 Q)
    (he : eval (.Attribute o n pos) env = (do
      let v ← eval o env
      standAt pos.atName
      let r ← holding [v] (getAttr v n true)
      letTemporaryGo o v r
      pure r) := by with_unfolding_all rfl) : SE W A env (.Attribute o n pos) own Q := fun fz s H ht =>
  Attribute_any_ (wp_then (h fz s H ht) ht fun fz1 va a o1 s1 k1 H1 t1 r1 q1 => (q1 fz1 s1 va H1 t1 r1).weak k1) he

/-! ### tests -/
theorem ST_Compare {l r : Expr} {op : CmpOp} {pos : Pos} {Q : Bool → Own → Prop} (h : SE W A env l own fun a o1 => SE W A env r o1 fun b o2 => S2 W A RV (compareOp op) a b o2 fun c o3 => S1 W A RB truthy c o3 Q)
    (hm : behindInMarks op r = false := by with_unfolding_all rfl) : ST W A env (.Compare l [op] [r] pos) own Q := fun fz s H ht => by
  refine wpAny_isTrue_Compare1 (wp_then (h fz s H ht) ht fun fz1 va a o1 s1 k1 H1 t1 r1 q1 => wp_then (q1 fz1 s1 H1 t1) t1 fun fz2 vb b o2 s2 k2 H2 t2 r2 q2 =>
    wp_then (q2 fz2 s2 va vb H2 t2 (r1.mono k2) r2) t2 fun fz3 vc c o3 s3 k3 H3 t3 r3 q3 => ?_) hm
  exact (q3 fz3 s3 vc H3 t3 r3).weak (k1.trans (k2.trans k3))
theorem SG_and_nil {pos : Pos} {whole : Sem Value} {Q : Bool → Own → Prop} (h : Q true own) : SG W A RB (isTrue (.BoolOp .And [] pos) env whole) own Q := fun fz s H _ =>
  isTrue_and_nil ⟨fz, _, own, .refl _, H, rfl, h⟩
theorem SG_and {x : Expr} {rest : List Expr} {pos : Pos} {whole : Sem Value} {Q : Bool → Own → Prop}
    (h : ST W A env x own fun c o1 => if c then SG W A RB (isTrue (.BoolOp .And rest pos) env whole) o1 Q else Q false o1) : SG W A RB (isTrue (.BoolOp .And (x :: rest) pos) env whole) own Q := fun fz s H ht => by
  refine isTrue_and (wp_then (h fz s H ht) ht fun fz1 va a o1 s1 k1 H1 t1 r1 q1 => ?_)
  subst r1
  cases va
  · exact ⟨fz1, _, o1, k1, H1, rfl, q1⟩
  · exact (q1 fz1 s1 H1 t1).weak k1
/-! ### statements -/
theorem SXs_nil {Q : Fl → Own → Prop} (h : Q .next own) : SXs W A env [] own Q := fun fz s H _ => wpAny_execs_nil ⟨fz, _, own, .refl _, H, .next, h⟩
/-- on from a statement: only a plain end goes on -/
abbrev onNext (P : Own → Prop) (Q : Fl → Own → Prop) : Fl → Own → Prop
  | .next, o => P o
  | f, o => Q f o
theorem SXs_cons {st : Stmt} {rest : List Stmt} {Q : Fl → Own → Prop} (h : SX W A env st own (onNext (fun o1 => SXs W A env rest o1 Q) Q)) : SXs W A env (st :: rest) own Q := fun fz s H ht => by
  refine wpAny_execs_cons (wp_then (h fz s H ht) ht fun fz1 va a o1 s1 k1 H1 t1 r1 q1 => ?_)
  cases r1 with
  | next => exact At.weak (q1 fz1 s1 H1 t1) k1
  | brk => exact ⟨fz1, _, o1, k1, H1, .brk, q1⟩
  | cont => exact ⟨fz1, _, o1, k1, H1, .cont, q1⟩
  | ret r => exact ⟨fz1, _, o1, k1, H1, .ret r, q1⟩
theorem SX_If {t : Expr} {b o : List Stmt} {pos : Pos} {Q : Fl → Own → Prop} (h : ST W A env t own fun c o1 => if c then SXs W A env b o1 Q else SXs W A env o o1 Q) : SX W A env (.If t b o pos) own Q := fun fz s H ht => by
  refine wpAny_If (wp_then (h fz s H ht) ht fun fz1 va a o1 s1 k1 H1 t1 r1 q1 => ?_)
  subst r1
  cases va
  · exact At.weak (q1 fz1 s1 H1 t1) k1
  · exact At.weak (q1 fz1 s1 H1 t1) k1
theorem SX_Return {e : Expr} {pos : Pos} {Q : Fl → Own → Prop} (h : SE W A env e own fun a o1 => Q (.ret a) o1) : SX W A env (.Return (some e) pos) own Q := fun fz s H ht =>
  wpAny_Return_some (wp_then (h fz s H ht) ht fun fz1 va a o1 s1 k1 H1 t1 r1 q1 => ⟨fz1, _, o1, k1, H1, .ret r1, q1⟩)
theorem SX_Assign {x : Str} {p pos : Pos} {e : Expr} {Q : Fl → Own → Prop} (h : SE W A env e own fun a o1 => SS W A env x a o1 fun o2 => Q .next o2)
    (hs : swapsWith e (some (.Name x p)) pos.line env = pure false := by rfl) : SX W A env (.Assign [.Name x p] e pos) own Q := fun fz s H ht => by
  refine wpAny_Assign_Name (wp_then (h fz s H ht) ht fun fz1 va a o1 s1 k1 H1 t1 r1 q1 => wp_then (q1 fz1 s1 va H1 t1 r1) t1 fun fz2 _ _ o2 s2 k2 H2 t2 _ q2 => ?_) hs
  exact ⟨fz2, _, o2, k1.trans k2, H2, .next, q2⟩
theorem SX_Aug {x : Str} {p pos : Pos} {op : Operator} {e : Expr} {Q : Fl → Own → Prop}
    (h : SG W A RV (loadName env x) own fun a o1 => SE W A env e o1 fun b o2 => S2 W A RV (inplaceOp op) a b o2 fun c o3 => SS W A env x c o3 fun o4 => Q .next o4) : SX W A env (.AugAssign (.Name x p) op e pos) own Q := fun fz s H ht => by
  refine wpAny_AugAssign_Name (wp_then (h fz s H ht) ht fun fz1 va a o1 s1 k1 H1 t1 r1 q1 => wp_then (q1 fz1 s1 H1 t1) t1 fun fz2 vb b o2 s2 k2 H2 t2 r2 q2 =>
    wp_then (q2 fz2 s2 va vb H2 t2 (r1.mono k2) r2) t2 fun fz3 vc c o3 s3 k3 H3 t3 r3 q3 => wp_then (q3 fz3 s3 vc H3 t3 r3) t3 fun fz4 _ _ o4 s4 k4 H4 t4 _ q4 => ?_)
  exact ⟨fz4, _, o4, k1.trans (k2.trans (k3.trans k4)), H4, .next, q4⟩
theorem SX_Expr {e : Expr} {pos : Pos} {Q : Fl → Own → Prop} (h : SE W A env e own fun _ o1 => Q .next o1) (hi : interactive env = false := by rfl) (hs : swapsWith e none pos.line env = pure false := by rfl) :
    SX W A env (.Expr e pos) own Q := fun fz s H ht =>
  wpAny_Expr_any (wp_then (h fz s H ht) ht fun fz1 va a o1 s1 k1 H1 t1 r1 q1 => ⟨fz1, _, o1, k1, H1, .next, q1⟩) hi hs
end
section
variable {W : Wd} {A : Around} {env : Env} {own : Own}

/-! ### what a value is -/
theorem RV.int_inv {fz : Heap} {i : Int} {v : Value} (x : RV fz (.int i) v) : ∃ t, v = .int i t := by cases x with | dat r => cases r; exact ⟨_, rfl⟩
theorem RV.str_inv {fz : Heap} {x : Str} {v : Value} (h : RV fz (.str x) v) : ∃ t, v = .str x t := by cases h with | dat r => cases r; exact ⟨_, rfl⟩
theorem RV.bool_inv {fz : Heap} {b : Bool} {v : Value} (x : RV fz (.bool b) v) : v = .bool b := by cases x with | dat r => cases r; rfl
theorem RV.none_inv {fz : Heap} {v : Value} (x : RV fz .none v) : v = .none := by cases x with | dat r => cases r; rfl
theorem RV.val_inv {fz : Heap} {u v : Value} (x : RV fz (.val u) v) : v = u := by cases x; rfl
theorem RV.lst_inv {fz : Heap} {l : List PyData} {v : Value} (x : RV fz (.lst l) v) : ∃ a vs, v = .ref a ∧ fz.IsList a vs ∧ RVs fz (l.map V.dat) vs.toList := by
  cases x with
  | dat r => cases r with | @list a o vs n xs as ho hc hd hr => exact ⟨a, vs, rfl, ⟨o, ho, hc, n, hd⟩, .of_reads hr⟩
theorem RV.tup_inv {fz : Heap} {l : List PyData} {v : Value} (x : RV fz (.tup l) v) : ∃ a vs, v = .ref a ∧ fz.IsTuple a vs ∧ RVs fz (l.map V.dat) vs.toList := by
  cases x with
  | dat r => cases r with | @tuple a o vs n xs as ho hc hd hr => exact ⟨a, vs, rfl, ⟨o, ho, hc, n, hd⟩, .of_reads hr⟩
theorem IsList_keep {h h' : Heap} {a : Addr} {vs : Array Value} (x : h.IsList a vs) (k : Keep h h') : h'.IsList a vs := let ⟨o, ho, r⟩ := x; ⟨o, k _ _ ho, r⟩
theorem IsTuple_keep {h h' : Heap} {a : Addr} {vs : Array Value} (x : h.IsTuple a vs) (k : Keep h h') : h'.IsTuple a vs := let ⟨o, ho, r⟩ := x; ⟨o, k _ _ ho, r⟩

/-- an answer that is a token's matter alone -/
theorem at_tok {Q : V → Own → Prop} {fz : Heap} {s : Shared} {a : V} {v : Value} (H : Hold W fz own s) (k : Nat) (r : RV fz a v) (q : Q a own) :
    ∃ fz' b own', Keep fz fz' ∧ Hold W fz' own' { s with toks := k } ∧ RV fz' b v ∧ Q b own' := ⟨fz, a, own, .refl _, H.toks k, r, q⟩

/-! ### ints -/
theorem op_add {a b : Int} {Q : V → Own → Prop} (h : Q (.int (a + b)) own) : S2 W A RV (binaryOp .Add) (.int a) (.int b) own Q := fun fz s v u H _ r1 r2 => by
  obtain ⟨t, rfl⟩ := r1.int_inv; obtain ⟨t', rfl⟩ := r2.int_inv
  exact P.add_int (at_tok H _ (.dat (.int _ _)) h)
theorem op_iadd {a b : Int} {Q : V → Own → Prop} (h : Q (.int (a + b)) own) : S2 W A RV (inplaceOp .Add) (.int a) (.int b) own Q := fun fz s v u H _ r1 r2 => by
  obtain ⟨t, rfl⟩ := r1.int_inv; obtain ⟨t', rfl⟩ := r2.int_inv
  exact P.iadd_int (at_tok H _ (.dat (.int _ _)) h)
theorem op_sub {a b : Int} {Q : V → Own → Prop} (h : Q (.int (a - b)) own) : S2 W A RV (binaryOp .Sub) (.int a) (.int b) own Q := fun fz s v u H _ r1 r2 => by
  obtain ⟨t, rfl⟩ := r1.int_inv; obtain ⟨t', rfl⟩ := r2.int_inv
  exact P.sub_int (at_tok H _ (.dat (.int _ _)) h)
theorem op_mul {a b : Int} {Q : V → Own → Prop} (hm : IntMulOk a b) (h : Q (.int (a * b)) own) : S2 W A RV (binaryOp .Mult) (.int a) (.int b) own Q := fun fz s v u H _ r1 r2 => by
  obtain ⟨t, rfl⟩ := r1.int_inv; obtain ⟨t', rfl⟩ := r2.int_inv
  exact P.mul_int (at_tok H _ (.dat (.int _ _)) h) hm
theorem op_div {a b : Int} {Q : V → Own → Prop} (hb : 0 < b) (hz : b < 1073741824) (h : Q (.int (a / b)) own) : S2 W A RV (binaryOp .FloorDiv) (.int a) (.int b) own Q := fun fz s v u H _ r1 r2 => by
  obtain ⟨t, rfl⟩ := r1.int_inv; obtain ⟨t', rfl⟩ := r2.int_inv
  refine floordiv_int (by omega) (at_tok H _ ?_ h) (Or.inl (PyProof.noPylong_small (by omega)))
  rw [Int.fdiv_eq_ediv_of_nonneg a (by omega)]
  exact .dat (.int _ _)
theorem op_mod {a b : Int} {Q : V → Own → Prop} (hb : 0 < b) (h : Q (.int (a % b)) own) : S2 W A RV (binaryOp .Mod) (.int a) (.int b) own Q := fun fz s v u H _ r1 r2 => by
  obtain ⟨t, rfl⟩ := r1.int_inv; obtain ⟨t', rfl⟩ := r2.int_inv
  refine mod_int' (by omega) (at_tok H _ ?_ h)
  rw [Int.fmod_eq_emod_of_nonneg a (by omega)]
  exact .dat (.int _ _)
theorem op_neg {a : Int} {Q : V → Own → Prop} (h : Q (.int (-a)) own) : S1 W A RV (unaryOp .USub) (.int a) own Q := fun fz s v H _ r1 => by
  obtain ⟨t, rfl⟩ := r1.int_inv
  exact P.neg_int (at_tok H _ (.dat (.int _ _)) h)
theorem cmp_lt {a b : Int} {Q : V → Own → Prop} (h : Q (.bool (decide (a < b))) own) : S2 W A RV (compareOp .Lt) (.int a) (.int b) own Q := fun fz s v u H _ r1 r2 => by
  obtain ⟨t, rfl⟩ := r1.int_inv; obtain ⟨t', rfl⟩ := r2.int_inv
  exact P.lt_int (at_tok H _ (.dat (.bool _)) h)
theorem cmp_gt {a b : Int} {Q : V → Own → Prop} (h : Q (.bool (decide (b < a))) own) : S2 W A RV (compareOp .Gt) (.int a) (.int b) own Q := fun fz s v u H _ r1 r2 => by
  obtain ⟨t, rfl⟩ := r1.int_inv; obtain ⟨t', rfl⟩ := r2.int_inv
  exact P.gt_int (at_tok H _ (.dat (.bool _)) h)
/-! ### truth -/
theorem tr_bool {b : Bool} {Q : Bool → Own → Prop} (h : Q b own) : S1 W A RB truthy (.bool b) own Q := fun fz s v H _ r => by
  rw [r.bool_inv]; exact wpAny_truthy_bool ⟨fz, b, own, .refl _, H, rfl, h⟩
/-! ### texts -/
theorem op_cat {x y : Str} {Q : V → Own → Prop} (hz : x.length + y.length ≤ sizeLine) (h : Q (.str (x ++ y)) own) : S2 W A RV (binaryOp .Add) (.str x) (.str y) own Q := fun fz s v u H _ r1 r2 => by
  obtain ⟨t, rfl⟩ := r1.str_inv; obtain ⟨t', rfl⟩ := r2.str_inv
  exact SB.add (fun t' k => at_tok H _ (.dat (.str _ _)) h) hz
theorem op_icat {x y : Str} {Q : V → Own → Prop} (hz : x.length + y.length ≤ sizeLine) (h : Q (.str (x ++ y)) own) : S2 W A RV (inplaceOp .Add) (.str x) (.str y) own Q := fun fz s v u H _ r1 r2 => by
  obtain ⟨t, rfl⟩ := r1.str_inv; obtain ⟨t', rfl⟩ := r2.str_inv
  exact SB.iadd (fun t' k => at_tok H _ (.dat (.str _ _)) h) hz
theorem cmp_eqS {x y : Str} {Q : V → Own → Prop} (h : Q (.bool (decide (x = y))) own) : S2 W A RV (compareOp .Eq) (.str x) (.str y) own Q := fun fz s v u H _ r1 r2 => by
  obtain ⟨t, rfl⟩ := r1.str_inv; obtain ⟨t', rfl⟩ := r2.str_inv
  refine PyProof.Rows.eq_str ⟨fz, _, own, .refl _, H, ?_, h⟩
  have e : (x == y) = decide (x = y) := rfl
  rw [e]; exact .dat (.bool _)
theorem cmp_inS {x y : Str} {Q : V → Own → Prop} (h : Q (.bool (Txt.contains x y)) own) : S2 W A RV (compareOp .In) (.str y) (.str x) own Q := fun fz s v u H _ r1 r2 => by
  obtain ⟨t, rfl⟩ := r1.str_inv; obtain ⟨t', rfl⟩ := r2.str_inv
  exact SB.contains (at_tok H _ (.dat (.bool _)) h)

/-! ### data compared -/
end
section
variable {W : Wd} {A : Around} {env : Env} {own : Own}

/-! ### a heap with one object more -/
def freedO : Obj := { cls := .none, data := .freed }
def putH (h : Heap) (a : Addr) (o : Obj) : Heap := ⟨(h.objs ++ Array.replicate (a + 1 - h.objs.size) freedO).setIfInBounds a o, h.life⟩
theorem get?_of_objs {h : Heap} {b : Addr} : h.get? b = match h.objs[b]? with | some ⟨_, _, .freed, _⟩ => none | o => o := rfl
theorem putH_get {h : Heap} {a : Addr} {o : Obj} (ho : o.isFreed = false) (b : Addr) : (putH h a o).get? b = if b = a then some o else h.get? b := by
  have hsz : a < (h.objs ++ Array.replicate (a + 1 - h.objs.size) freedO).size := by
    have e : (h.objs ++ Array.replicate (a + 1 - h.objs.size) freedO).size = h.objs.size + (a + 1 - h.objs.size) := by rw [Array.size_append, Array.size_replicate]
    rw [e]; show a < h.objs.size + (a + 1 - h.objs.size); exact (by omega : ∀ x y : Nat, x < y + (x + 1 - y)) a h.objs.size
  have hne : ∀ b, b ≠ a → (putH h a o).objs[b]? = (h.objs ++ Array.replicate (a + 1 - h.objs.size) freedO)[b]? := fun b hb => by
    unfold putH; exact Array.getElem?_setIfInBounds_ne (Ne.symm hb)
  by_cases hb : b = a
  · subst hb
    rw [if_pos rfl, get?_of_objs]
    have : (putH h b o).objs[b]? = some o := by unfold putH; exact Array.getElem?_setIfInBounds_self_of_lt hsz
    rw [this]
    obtain ⟨c, d, dt, sl⟩ := o
    cases dt <;> first | rfl | cases ho
  · rw [if_neg hb, get?_of_objs, hne b hb, get?_of_objs]
    by_cases hlt : b < h.objs.size
    · rw [Array.getElem?_append_left hlt]
    · have e1 : h.objs[b]? = none := Array.getElem?_eq_none (Nat.not_lt.mp hlt)
      rw [e1, Array.getElem?_append_right (Nat.not_lt.mp hlt), Array.getElem?_replicate]
      by_cases hc : b - h.objs.size < a + 1 - h.objs.size
      · rw [if_pos hc]; rfl
      · rw [if_neg hc]
theorem putH_keep {h : Heap} {a : Addr} {o : Obj} (ho : o.isFreed = false) (hn : h.get? a = none) : Keep h (putH h a o) := fun b x e => by
  rw [putH_get ho]
  by_cases hb : b = a
  · subst hb; rw [hn] at e; cases e
  · rw [if_neg hb]; exact e
theorem putH_at {h : Heap} {a : Addr} {o : Obj} (ho : o.isFreed = false) : (putH h a o).get? a = some o := by rw [putH_get ho, if_pos rfl]

/-- a new object is frozen at once -/
theorem Hold.frz {fz : Heap} {s : Shared} (H : Hold W fz own s) {h' : Heap} {k : Nat} {a : Addr} {o : Obj} (ho : o.isFreed = false) (hk : Keep s.heap h') (ha : s.heap.get? a = none) (hh : h'.get? a = some o) :
    Keep fz (putH fz a o) ∧ Hold W (putH fz a o) own { s with heap := h', toks := k } := by
  have hn : fz.get? a = none := by
    cases e : fz.get? a with
    | none => rfl
    | some x => exact absurd (H.has _ _ e) (by rw [ha]; exact fun y => nomatch y)
  have kk := putH_keep (o := o) ho hn
  refine ⟨kk, ⟨H.base.trans kk, fun b x e => ?_, fun p hp => ?_, fun p hp => ?_, H.nd, H.gens, H.os⟩⟩
  · rw [putH_get ho] at e
    by_cases hb : b = a
    · subst hb; rw [if_pos rfl] at e; cases e; exact hh
    · rw [if_neg hb] at e; exact hk _ _ (H.has _ _ e)
  · obtain ⟨x, e, r⟩ := H.obs p hp
    exact ⟨x, hk _ _ e, r.mono kk⟩
  · rw [putH_get ho]
    have : p.1 ≠ a := fun e => by obtain ⟨x, e', _⟩ := H.obs p hp; rw [e, ha] at e'; cases e'
    rw [if_neg this]; exact H.out p hp

/-- an owned object is frozen -/
theorem Hold.freeze {fz : Heap} {s : Shared} {a : Addr} {ob : Ob} (H : Hold W fz ((a, ob) :: own) s) : ∃ o, s.heap.get? a = some o ∧ ObIs fz ob o ∧ o.isFreed = false ∧ Keep fz (putH fz a o) ∧ Hold W (putH fz a o) own s := by
  obtain ⟨o, ho, r⟩ := H.obs _ List.mem_cons_self
  have hf : o.isFreed = false := by
    have e := ho
    rw [get?_of_objs] at e
    obtain ⟨c, d, dt, sl⟩ := o
    cases dt <;> first | rfl | (exfalso; revert e; cases hq : s.heap.objs[a]? with
      | none => intro e; cases e
      | some x => obtain ⟨c', d', dt', sl'⟩ := x; cases dt' <;> intro e <;> cases e)
  have hn := H.out _ List.mem_cons_self
  have kk := putH_keep (o := o) hf hn
  refine ⟨o, ho, r, hf, kk, ⟨H.base.trans kk, fun b x e => ?_, fun p hp => ?_, fun p hp => ?_, ?_, H.gens.sub (List.sublist_cons_self _ _), H.os⟩⟩
  · rw [putH_get hf] at e
    by_cases hb : b = a
    · subst hb; rw [if_pos rfl] at e; cases e; exact ho
    · rw [if_neg hb] at e; exact H.has _ _ e
  · obtain ⟨x, e, r⟩ := H.obs p (List.mem_cons_of_mem _ hp)
    exact ⟨x, e, r.mono kk⟩
  · rw [putH_get hf]
    have : p.1 ≠ a := fun e => by
      have nd := H.nd
      rw [List.map_cons, List.nodup_cons] at nd
      exact nd.1 (List.mem_map.mpr ⟨p, hp, e⟩)
    rw [if_neg this]; exact H.out p (List.mem_cons_of_mem _ hp)
  · have nd := H.nd
    rw [List.map_cons, List.nodup_cons] at nd
    exact nd.2

/-! ### all data -/
inductive AllDat : List V → List PyData → Prop
  | nil : AllDat [] []
  | cons {d : PyData} {l : List V} {ds : List PyData} : AllDat l ds → AllDat (.dat d :: l) (d :: ds)
theorem AllDat.eq {l : List V} {ds : List PyData} (x : AllDat l ds) : l = ds.map V.dat := by
  induction x with
  | nil => rfl
  | cons _ ih => rw [ih]; rfl
theorem AllDat.map (ds : List PyData) : AllDat (ds.map V.dat) ds := by
  induction ds with
  | nil => exact .nil
  | cons d ds ih => exact .cons ih
theorem AllDat.length {l : List V} {ds : List PyData} (x : AllDat l ds) : l.length = ds.length := by rw [x.eq, List.length_map]

theorem rv_list {fz : Heap} {a : Addr} {vs : List Value} {n : Nat} {ds : List PyData} (h : fz.get? a = some (listObj vs n)) (r : RVs fz (ds.map V.dat) vs) : RV fz (.lst ds) (.ref a) := by
  obtain ⟨as, ra⟩ := r.reads
  exact .dat (.list h rfl rfl (by simpa using ra))
theorem rv_tuple {fz : Heap} {a : Addr} {vs : List Value} {n : Nat} {ds : List PyData} (h : fz.get? a = some (tupObj vs n)) (r : RVs fz (ds.map V.dat) vs) : RV fz (.tup ds) (.ref a) := by
  obtain ⟨as, ra⟩ := r.reads
  exact .dat (.tuple h rfl rfl (by simpa using ra))

/-! ### displays -/
abbrev SEs (W : Wd) (A : Around) (env : Env) (pos : Pos) (l : List Expr) (own : Own) (Q : List V → Own → Prop) : Prop := SG W A RVs (spliced (backTo pos (starEach l env))) own Q
theorem SEs_nil {pos : Pos} {Q : List V → Own → Prop} (h : Q [] own) : SEs W A env pos [] own Q := fun fz s H _ => Calls.spliced_nil ⟨fz, _, own, .refl _, H, .nil, h⟩
theorem SEs_cons {pos : Pos} {e : Expr} {rest : List Expr} {Q : List V → Own → Prop} (h : SE W A env e own fun a o1 => SEs W A env pos rest o1 fun l o2 => Q (a :: l) o2)
    (he : starEach (e :: rest) env = (false, eval e env) :: starEach rest env := by rfl) : SEs W A env pos (e :: rest) own Q := fun fz s H ht => by
  unfold At
  rw [he]
  show wpAny _ _ (spliced ((false, eval e env) :: backTo pos (starEach rest env))) _ _ _
  refine Calls.spliced_cons (wp_then (h fz s H ht) ht fun fz1 va a o1 s1 k1 H1 t1 r1 q1 => wp_then (q1 fz1 s1 H1 t1) t1 fun fz2 vl l o2 s2 k2 H2 t2 r2 q2 => ?_)
  exact ⟨fz2, _, o2, k1.trans k2, H2, .cons (r1.mono k2) r2, q2⟩

/-- a list that may be turned -/
theorem SE_List {elts : List Expr} {pos : Pos} {Q : V → Own → Prop} (hz : elts.length ≤ sizeLine) (h : SEs W A env pos elts own fun l o1 => l.length ≤ sizeLine ∧ ∀ a, Q (.ref a) ((a, .list l) :: o1)) : SE W A env (.List elts pos) own Q := fun fz s H ht => by
  refine List_ (wp_then (h fz s H ht) ht fun fz1 vs l o1 s1 k1 H1 t1 r1 q1 => ?_)
  refine wpAny_newObj_type ?_ (by show vs.toArray.size ≤ sizeLine; rw [List.size_toArray, ← r1.length]; exact q1.1)
  exact ⟨fz1, _, _, k1, H1.new (ob := .list l) (k := s1.toks) (Keep.push _ _) (get?_ge (Nat.le_refl _)) (Heap.get?_push_size _ rfl) ⟨vs, 0, rfl, r1⟩, .val _, q1.2 _⟩
/-- a list that stays as it is -/
theorem SE_ListF {elts : List Expr} {pos : Pos} {Q : V → Own → Prop} (h : SEs W A env pos elts own fun l o1 => ∃ ds, AllDat l ds ∧ ds.length ≤ sizeLine ∧ Q (.lst ds) o1) : SE W A env (.List elts pos) own Q := fun fz s H ht => by
  refine List_ (wp_then (h fz s H ht) ht fun fz1 vs l o1 s1 k1 H1 t1 r1 q1 => ?_)
  obtain ⟨ds, ad, hz, q⟩ := q1
  refine wpAny_newObj_type ?_ (by show vs.toArray.size ≤ sizeLine; rw [List.size_toArray, ← r1.length, ad.length]; exact hz)
  obtain ⟨kk, H'⟩ := H1.frz (k := s1.toks) (o := listObj vs 0) rfl (Keep.push _ _) (get?_ge (Nat.le_refl _)) (Heap.get?_push_size _ rfl)
  exact ⟨_, _, o1, k1.trans kk, H', rv_list (putH_at rfl) (by rw [← ad.eq]; exact r1.mono kk), q⟩
theorem SE_TupleF {elts : List Expr} {k : Nat} {pos : Pos} {Q : V → Own → Prop} (h : SEs W A env pos elts own fun l o1 => ∃ ds, AllDat l ds ∧ ds.length ≤ sizeLine ∧ Q (.tup ds) o1) : SE W A env (.Tuple elts k pos) own Q := fun fz s H ht => by
  refine Tuple_ (wp_then (h fz s H ht) ht fun fz1 vs l o1 s1 k1 H1 t1 r1 q1 => ?_)
  obtain ⟨ds, ad, hz, q⟩ := q1
  refine wpAny_newObj_type ?_ (by show vs.toArray.size ≤ sizeLine; rw [List.size_toArray, ← r1.length, ad.length]; exact hz)
  obtain ⟨kk, H'⟩ := H1.frz (k := s1.toks) (o := tupObj vs 0) rfl (Keep.push _ _) (get?_ge (Nat.le_refl _)) (Heap.get?_push_size _ rfl)
  exact ⟨_, _, o1, k1.trans kk, H', rv_tuple (putH_at rfl) (by rw [← ad.eq]; exact r1.mono kk), q⟩
/-! ### items -/
theorem rvs_dat_get {fz : Heap} {ds : List PyData} {vs : List Value} (r : RVs fz (ds.map V.dat) vs) {i : Nat} {d : PyData} (h : ds[i]? = some d) : ∃ v, vs[i]? = some v ∧ RV fz (.dat d) v :=
  r.get (by rw [List.getElem?_map, h]; rfl)

/-- the place of an index -/
def place (k : Int) (n : Nat) : Nat := if k < 0 then (k + n).toNat else k.toNat
theorem sub_lst {o i : Expr} {l : List PyData} {k : Int} {d : PyData} {Q : V → Own → Prop} (hlo : -(l.length : Int) ≤ k) (hhi : k < (l.length : Int)) (hz : l.length ≤ sizeLine) (hx : l[place k l.length]? = some d) (h : Q (.dat d) own)
    (hs : ∀ v u, subscripted i false v u = operate [v, u] (getItem v u) := by intro _ _; with_unfolding_all rfl) : S2 W A RV (subscriptTail o i) (.lst l) (.int k) own Q := fun fz s v u H _ r1 r2 => by
  obtain ⟨t, rfl⟩ := r2.int_inv
  obtain ⟨a, vs, rfl, hl, rs⟩ := r1.lst_inv
  obtain ⟨x, e, r⟩ := rvs_dat_get rs hx
  have hlen := rs.length
  rw [List.length_map] at hlen
  have hsz : vs.toList.length = vs.size := Array.length_toList
  rw [sizeLine_eq] at hz
  have hl' := IsList_keep hl H.has
  unfold place at e
  rw [hlen, hsz] at e
  by_cases hk : k < 0
  · rw [if_pos hk] at e
    exact tail_any hl'.typeIs slot_list_getitem.lookup (wpAny_getItem_list_neg hl' hk (by omega) (by omega) (by rw [← Array.getElem?_toList]; exact e) ⟨fz, _, own, .refl _, H, r, h⟩) (hs _ _)
  · rw [if_neg hk] at e
    exact tail_any hl'.typeIs slot_list_getitem.lookup (wpAny_getItem_list hl' (by omega) (by omega) (by rw [← Array.getElem?_toList]; exact e) ⟨fz, _, own, .refl _, H, r, h⟩) (hs _ _)
theorem sub_own {o i : Expr} {a : Addr} {l : List V} {k : Int} {d : V} {Q : V → Own → Prop} (hm : (a, Ob.list l) ∈ own) (hlo : -(l.length : Int) ≤ k) (hhi : k < (l.length : Int)) (hz : l.length ≤ sizeLine) (hx : l[place k l.length]? = some d) (h : Q d own)
    (hs : ∀ v u, subscripted i false v u = operate [v, u] (getItem v u) := by intro _ _; with_unfolding_all rfl) : S2 W A RV (subscriptTail o i) (.ref a) (.int k) own Q := fun fz s v u H _ r1 r2 => by
  obtain ⟨t, rfl⟩ := r2.int_inv
  cases r1.val_inv
  obtain ⟨ob, ho, vs, n, rfl, rs⟩ := H.get hm
  obtain ⟨x, e, r⟩ := rs.get hx
  have hlen := rs.length
  rw [sizeLine_eq] at hz
  have hl' : s.heap.IsList a vs.toArray := ⟨_, ho, rfl, n, rfl⟩
  unfold place at e
  rw [hlen] at e
  by_cases hk : k < 0
  · rw [if_pos hk] at e
    exact tail_any hl'.typeIs slot_list_getitem.lookup (wpAny_getItem_list_neg hl' hk (by simp only [List.size_toArray]; omega) (by omega) (by simpa using e) ⟨fz, _, own, .refl _, H, r, h⟩) (hs _ _)
  · rw [if_neg hk] at e
    exact tail_any hl'.typeIs slot_list_getitem.lookup (wpAny_getItem_list hl' (by omega) (by omega) (by simpa using e) ⟨fz, _, own, .refl _, H, r, h⟩) (hs _ _)
theorem seqIndex_place {k : Int} {n : Nat} (hlo : -(n : Int) ≤ k) (hhi : k < (n : Int)) : seqIndex? k n = some (place k n) := by
  unfold seqIndex? place
  by_cases hk : k < 0
  · have h1 : (0 : Int) ≤ k + n := by omega
    have h2 : k + n < (n : Int) := by omega
    simp [hk, h1, h2]
  · have h1 : (0 : Int) ≤ k := by omega
    simp [hk, h1, hhi]
theorem sub_tup {o i : Expr} {l : List PyData} {k : Int} {d : PyData} {Q : V → Own → Prop} (hlo : -(l.length : Int) ≤ k) (hhi : k < (l.length : Int)) (hz : l.length ≤ sizeLine) (hx : l[place k l.length]? = some d) (h : Q (.dat d) own)
    (hs : ∀ v u, subscripted i false v u = operate [v, u] (getItem v u) := by intro _ _; with_unfolding_all rfl) : S2 W A RV (subscriptTail o i) (.tup l) (.int k) own Q := fun fz s v u H _ r1 r2 => by
  obtain ⟨t, rfl⟩ := r2.int_inv
  obtain ⟨a, vs, rfl, hl, rs⟩ := r1.tup_inv
  obtain ⟨x, e, r⟩ := rvs_dat_get rs hx
  have hlen := rs.length
  rw [List.length_map] at hlen
  have hsz : vs.toList.length = vs.size := Array.length_toList
  rw [sizeLine_eq] at hz
  have hl' := IsTuple_keep hl H.has
  exact tail_any hl'.typeIs slot_tuple_getitem.lookup (getItem_tuple hl' (by omega) (by omega) (by rw [show vs.size = l.length by omega]; exact seqIndex_place hlo hhi) (by rw [← Array.getElem?_toList]; exact e) ⟨fz, _, own, .refl _, H, r, h⟩) (hs _ _)
/-! ### appending -/
theorem do_append {a : Addr} {l : List V} {x : V} {own' : Own} {Q : V → Own → Prop} (u : Upd a (.list l) (.list (l ++ [x])) own own') (hz : l.length ≤ sizeLine) (h : Q .none own') :
    S1 W A RV (fun v => call (.builtin "list.append") [.ref a, v]) x own Q := fun fz s v H _ r => by
  obtain ⟨ob, ho, vs, n, rfl, rs⟩ := H.get u.mem
  refine wpAny_list_append_plain (l := a) (items := vs.toArray) ⟨n, ho⟩ (fun h' ⟨n', hl'⟩ hs' => ?_) (hsz := by rw [List.size_toArray, ← rs.length]; exact hz)
  exact ⟨fz, _, own', .refl _, H.set (k := s.toks) u hs' hl' ⟨vs ++ [v], n', by simp [listObj], rs.append (.cons r .nil)⟩, .dat .none, h⟩
end
section
variable {W : Wd} {A : Around} {env : Env} {own : Own}

/-! ### forgetting -/
inductive ObW : Ob → Ob → Prop
  | refl {o : Ob} : ObW o o
  | ns {l l' : List (Str × V)} : l'.Sublist l → ObW (.ns l) (.ns l')
inductive Wk : Own → Own → Prop
  | nil {l : Own} : Wk l []
  | refl {l : Own} : Wk l l
  | keep {a : Addr} {ob ob' : Ob} {l l' : Own} : ObW ob ob' → Wk l l' → Wk ((a, ob) :: l) ((a, ob') :: l')
  | drop {p : Addr × Ob} {l l' : Own} : Wk l l' → Wk (p :: l) l'
theorem ObW.is {fz : Heap} {ob ob' : Ob} {o : Obj} (x : ObW ob ob') (h : ObIs fz ob o) : ObIs fz ob' o := by
  cases x with
  | refl => exact h
  | ns k => obtain ⟨es, ep, h1, h2, h3⟩ := h; exact ⟨es, ep, h1, h2, fun p hp => h3 p (k.subset hp)⟩
theorem Wk.gens {own own' : Own} (x : Wk own own') {gs : Array GenState} (G : GensIs own gs) : GensIs own' gs := by
  have key : ∀ {own own' : Own}, Wk own own' → (∀ p' ∈ own', ∀ g P, p'.2 = .gen g P → p' ∈ own) ∧ (own'.filterMap fun p => p.2.genOf).Sublist (own.filterMap fun p => p.2.genOf) := by
    intro own own' x
    induction x with
    | nil => exact ⟨fun p hp => (nomatch hp), List.nil_sublist _⟩
    | refl => exact ⟨fun p hp _ _ _ => hp, List.Sublist.refl _⟩
    | @keep a ob ob' l l' h _ ih =>
      refine ⟨fun p hp g P e => ?_, ?_⟩
      · rcases List.mem_cons.mp hp with rfl | hp
        · cases h with
          | refl => exact List.mem_cons_self
          | ns _ => cases e
        · exact List.mem_cons_of_mem _ (ih.1 p hp g P e)
      · have : ob'.genOf = ob.genOf := by cases h <;> rfl
        rw [List.filterMap_cons, List.filterMap_cons, show (a, ob').2.genOf = ob.genOf from this, show (a, ob).2.genOf = ob.genOf from rfl]
        cases ob.genOf with
        | none => exact ih.2
        | some n => exact ih.2.cons_cons n
    | @drop p l l' _ ih =>
      exact ⟨fun p hp g P e => List.mem_cons_of_mem _ (ih.1 p hp g P e), ih.2.trans ((List.sublist_cons_self _ _).filterMap _)⟩
  obtain ⟨k1, k2⟩ := key x
  exact ⟨G.bare, fun p hp g P e => G.st p (k1 p hp g P e) g P e, G.nd.sublist k2⟩
theorem Wk.hold {fz : Heap} {own own' : Own} (x : Wk own own') : ∀ {s : Shared}, Hold W fz own s → Hold W fz own' s := by
  have key : ∀ {own own' : Own}, Wk own own' → (∀ p' ∈ own', ∃ p ∈ own, p.1 = p'.1 ∧ ObW p.2 p'.2) ∧ (own'.map (·.1)).Sublist (own.map (·.1)) := by
    intro own own' x
    induction x with
    | nil => exact ⟨fun p hp => (nomatch hp), List.nil_sublist _⟩
    | refl => exact ⟨fun p hp => ⟨p, hp, rfl, .refl⟩, List.Sublist.refl _⟩
    | @keep a ob ob' l l' h _ ih =>
      refine ⟨fun p hp => ?_, by simpa using ih.2⟩
      rcases List.mem_cons.mp hp with rfl | hp
      · exact ⟨(a, ob), List.mem_cons_self, rfl, h⟩
      · obtain ⟨q, hq, r⟩ := ih.1 p hp; exact ⟨q, List.mem_cons_of_mem _ hq, r⟩
    | @drop p l l' _ ih =>
      refine ⟨fun p hp => ?_, ?_⟩
      · obtain ⟨q, hq, r⟩ := ih.1 p hp; exact ⟨q, List.mem_cons_of_mem _ hq, r⟩
      · exact ih.2.trans (by simp)
  intro s H
  obtain ⟨k1, k2⟩ := key x
  refine ⟨H.base, H.has, fun p hp => ?_, fun p hp => ?_, H.nd.sublist k2, x.gens H.gens, H.os⟩
  · obtain ⟨q, hq, e, w⟩ := k1 p hp
    obtain ⟨o, ho, r⟩ := H.obs q hq
    exact ⟨o, e ▸ ho, w.is r⟩
  · obtain ⟨q, hq, e, w⟩ := k1 p hp
    exact e ▸ H.out q hq
theorem Wk.trans {a b : Own} (x : Wk a b) : ∀ {c : Own}, Wk b c → Wk a c := by
  induction x with
  | nil => intro c y; cases y <;> exact .nil
  | refl => intro c y; exact y
  | keep h _ ih =>
    intro c y
    cases y with
    | nil => exact .nil
    | refl => exact .keep h (ih .refl)
    | keep h' y' =>
      refine .keep ?_ (ih y')
      cases h with
      | refl => exact h'
      | ns k => cases h' with
        | refl => exact .ns k
        | ns k' => exact .ns (k'.trans k)
    | drop y' => exact .drop (ih y')
  | drop _ ih => intro c y; exact .drop (ih y)

theorem SG.wk {α β : Type} {R : Heap → β → α → Prop} {t : Sem α} {own own' : Own} {Q : β → Own → Prop} (k : Wk own own') (h : SG W A R t own' Q) : SG W A R t own Q :=
  fun fz s H ht => h fz s (k.hold H) ht

/-! ### calls of the text's own -/
abbrev retTo (Q : V → Own → Prop) : Fl → Own → Prop := fun fl o => ∃ own', Wk o own' ∧ Q (match fl with | .ret v => v | _ => .none) own'

theorem zip_lookup {fz : Heap} : ∀ {names : List Str} {l : List V} {vs : List Value}, RVs fz l vs → names.Nodup → ∀ p ∈ names.zip l, ∃ v, (names.zip vs).lookup p.1 = some v ∧ RV fz p.2 v
  | [], _, _, _, _, p, hp => by simp at hp
  | n :: r, _, _, .nil, _, p, hp => by simp at hp
  | n :: r, _, _, .cons (a := a) (v := v) (l := l) (vs := vs) h t, nd, p, hp => by
    rw [List.nodup_cons] at nd
    rw [List.zip_cons_cons, List.mem_cons] at hp
    rcases hp with rfl | hp
    · exact ⟨v, by simp, h⟩
    · obtain ⟨u, e, q⟩ := zip_lookup t nd.2 p hp
      refine ⟨u, ?_, q⟩
      rw [List.zip_cons_cons, List.lookup_cons]
      have hne : p.1 ≠ n := fun e => nd.1 (e ▸ (List.of_mem_zip (show (p.1, p.2) ∈ r.zip l from hp)).1)
      have : (p.1 == n) = false := by simpa using hne
      rw [this]; exact e
theorem lookup_reverse {l : List (Str × Value)} (nd : (l.map (·.1)).Nodup) (x : Str) : l.reverse.lookup x = l.lookup x := by
  induction l with
  | nil => rfl
  | cons p l ih =>
    rw [List.map_cons, List.nodup_cons] at nd
    rw [List.reverse_cons, List.lookup_append, ih nd.2, List.lookup_cons]
    cases e : x == p.1 with
    | true =>
      have : l.lookup x = none := by
        rw [List.lookup_eq_none_iff]
        intro q hq
        have : x ≠ q.1 := fun e' => nd.1 (List.mem_map.mpr ⟨q, hq, by rw [← e', eq_of_beq e]⟩)
        simpa using this
      rw [this]
      obtain ⟨p1, p2⟩ := p
      have e' : (x == p1) = true := e
      simp [List.lookup_cons, e']
    | false =>
      obtain ⟨p1, p2⟩ := p
      have e' : (x == p1) = false := e
      simp [List.lookup_cons, e']

theorem zip_fst {α β : Type} : ∀ {a : List α} {b : List β}, ((a.zip b).map (·.1)).Sublist a
  | [], _ => by simp
  | _ :: _, [] => by simp
  | x :: a, y :: b => by simpa using zip_fst

/-- a call's own code -/
def SLC (W : Wd) (A : Around) (f : Value) (args : List V) (own : Own) (Q : V → Own → Prop) : Prop :=
  ∀ fz s vs, Hold W fz own s → W.tk ≤ s.toks → RVs fz args vs → codeAny (model W.prog W.w) A (.call f ⟨vs, []⟩)
    (fun r s' => match r with | .ok (.ret v) => ∃ fz' b own', Keep fz fz' ∧ Hold W fz' own' s' ∧ RV fz' b v ∧ Q b own' | .ok _ => False | .error _ => False) s
theorem SLC.call {f : Value} {args : List V} {Q : V → Own → Prop} (h : SLC W A f args own Q) : SL W A RV (fun vs => call f vs) args own Q := fun fz s vs H ht rs =>
  wpAny_call (codeAny_mono (h fz s vs H ht rs) fun r s' x => by rcases r with e | (v | _ | _ | _) <;> first | exact x | exact x.elim)
theorem SLC.mono {f : Value} {args : List V} {Q Q' : V → Own → Prop} (h : SLC W A f args own Q) (q : ∀ b o, Q b o → Q' b o) : SLC W A f args own Q' := fun fz s vs H ht rs =>
  codeAny_mono (h fz s vs H ht rs) fun r s' x => by
    rcases r with e | (v | _ | _ | _) <;> first | exact x.elim | skip
    obtain ⟨fz', b, own', k, H', r, x⟩ := x
    exact ⟨fz', b, own', k, H', r, q _ _ x⟩

theorem do_callC {f : Addr} {args : List V} {Q : V → Own → Prop} {name qual : Str} {params : Arguments} {body : List Stmt} {scope : Scope} {dV kV doc pm cdv ct oc : Value} {an od : Option Addr} {osl : Array (Option Value)}
    (names : List Str) (ho : W.K.lookup f = some ⟨oc, od, .func (fnOf name qual params body scope dV kV doc pm an cdv ct), osl⟩) (hcd : codeIn W.K cdv qual = true) (hroom : A.depth < recursionLimit)
    (hb : ∀ s vs, W.K.In s.heap → vs.length = args.length → BindsTo s (fnOf name qual params body scope dV kV doc pm an cdv ct) ⟨vs, []⟩ (names.zip vs))
    (hloc : ∀ y ∈ names, scope.names.lookup y = some .local) (nd : names.Nodup)
    (h : ∀ L, SXs W (A.deeper (envX qual scope L f cdv [])) (envX qual scope L f cdv []) body ((L, .ns (names.zip args)) :: own) (retTo Q))
    (hco : scope.isCoroutine = false := by rfl) (hgen : scope.isGenerator = false := by rfl) (hk : scope.kind = .function := by rfl)
    (hcell : ∀ x ∈ scope.names, x.2 ≠ .cell := by decide) : SLC W A (.ref f) args own Q := fun fz s vs H ht rs => by
  have ndz : ((names.zip vs).map (·.1)).Nodup := nd.sublist zip_fst
  refine (codeAny_call_def (fd := fnOf name qual params body scope dV kV doc pm an cdv ct) (body := body) (binds := names.zip vs) hroom (H.kin _ _ ho) rfl (W.top.nolimit.keeps H.keep) (codeRec_of H.kin hcd) rfl
    (hb s vs H.kin rs.length.symm) hcell (fun x hx => hloc _ (List.of_mem_zip (show (x.1, x.2) ∈ names.zip vs from hx)).1) (fun h₁ hns hk₁ => ?_) hco hgen hk)
  obtain ⟨o, ho', hob⟩ := of_ns (fz := fz) (loc := names.zip args) hns (fun p hp => by
    obtain ⟨v, e, r⟩ := zip_lookup rs nd p hp
    exact ⟨v, by rw [lookup_reverse ndz]; exact e, r⟩)
  have H₁ : Hold W fz ((s.heap.objs.size, .ns (names.zip args)) :: own) { s with heap := h₁, toks := s.toks + (names.zip vs).length } := H.new hk₁ (get?_ge (Nat.le_refl _)) ho' hob
  refine wpAny_mono (h s.heap.objs.size fz _ H₁ (Nat.le_trans ht (Nat.le_add_right _ _))) (fun fl s' x => ?_) fun _ _ x => x.elim
  obtain ⟨fz', b, own', k, H', r, own'', wk, q⟩ := x
  refine ⟨fz', _, own'', k, wk.hold H', ?_, q⟩
  cases r with
  | next => exact .dat .none
  | brk => exact .dat .none
  | cont => exact .dat .none
  | ret r => exact r

/-! ### iterators -/
theorem rvs_drop {fz : Heap} {x : V} {l : List V} {vs : List Value} {i : Nat} (r : RVs fz (x :: l) (vs.drop i)) : ∃ v, vs[i]? = some v ∧ RV fz x v ∧ RVs fz l (vs.drop (i + 1)) := by
  generalize e : vs.drop i = ws at r
  cases r with
  | cons h t =>
    refine ⟨_, by rw [← List.head?_drop, e]; rfl, h, ?_⟩
    rw [← List.tail_drop, e]; exact t
theorem rvs_drop_nil {fz : Heap} {vs : List Value} {i : Nat} (r : RVs fz [] (vs.drop i)) : vs[i]? = none := by
  generalize e : vs.drop i = ws at r
  cases r
  rw [← List.head?_drop, e]; rfl

theorem it_list {l : List PyData} {Q : V → Own → Prop} (h : ∀ a, Q (.ref a) ((a, .it (l.map V.dat)) :: own)) : S1 W A RV pyIter (.lst l) own Q := fun fz s v H _ r => by
  obtain ⟨a, vs, rfl, hl, rs⟩ := r.lst_inv
  refine wpAny_pyIter_list (IsList_keep hl H.has) ?_
  exact ⟨fz, _, _, .refl _, H.new (ob := .it (l.map V.dat)) (k := s.toks) (Keep.push _ _) (get?_ge (Nat.le_refl _)) (Heap.get?_push_size _ rfl) (.list hl (by simpa using rs) rfl rfl), .val _, h _⟩
theorem it_str {x : Str} {Q : V → Own → Prop} (h : ∀ a, Q (.ref a) ((a, .it (x.cps.toList.map fun c => V.str ⟨#[c]⟩)) :: own)) : S1 W A RV pyIter (.str x) own Q := fun fz s v H _ r => by
  obtain ⟨t, rfl⟩ := r.str_inv
  cases ha : x.cps.all (· < 128)
  · refine wpAny_pyIter_wide ha ?_
    exact ⟨fz, _, _, .refl _, H.new (ob := .it (x.cps.toList.map fun c => V.str ⟨#[c]⟩)) (k := s.toks) (Keep.push _ _) (get?_ge (Nat.le_refl _)) (Heap.get?_push_size _ rfl) (.wide rfl rfl rfl), .val _, h _⟩
  · refine wpAny_pyIter_ascii ha ?_
    exact ⟨fz, _, _, .refl _, H.new (ob := .it (x.cps.toList.map fun c => V.str ⟨#[c]⟩)) (k := s.toks) (Keep.push _ _) (get?_ge (Nat.le_refl _)) (Heap.get?_push_size _ rfl) (.ascii rfl rfl rfl), .val _, h _⟩
/-- one more is drawn -/
theorem next_some {a : Addr} {x : V} {l : List V} {fz : Heap} {s : Shared} {own' : Own} {P : Option Value → Shared → Prop} (H : Hold W fz own s) (u : Upd a (.it (x :: l)) (.it l) own own')
    (q : ∀ v s', Hold W fz own' s' → s.toks ≤ s'.toks → RV fz x v → P (some v) s') : wpAny (model W.prog W.w) A (pyNext (.ref a)) P NoX s := by
  obtain ⟨o, ho, hob⟩ := H.get u.mem
  cases hob with
  | @list b vs i _ _ hl rs hc hd =>
    obtain ⟨v, e, rx, rl⟩ := rvs_drop rs
    refine wpAny_pyNext_list_item (l := b) (i := i) ⟨o, ho, hc, hd⟩ (IsList_keep hl H.has) (by rw [← Array.getElem?_toList]; exact e) fun h' ⟨o', ho', hc', hd'⟩ hs' => ?_
    exact q v _ (H.set (k := s.toks) u hs' ho' (.list hl rl hc' (by exact hd'))) (Nat.le_refl _) rx
  | @tup b vs i _ _ hl rs hc hd =>
    obtain ⟨v, e, rx, rl⟩ := rvs_drop rs
    refine wpAny_pyNext_tuple_item (t := b) (i := i) ⟨o, ho, hc, hd⟩ (IsTuple_keep hl H.has) (by rw [← Array.getElem?_toList]; exact e) fun h' ⟨o', ho', hc', hd'⟩ hs' => ?_
    exact q v _ (H.set (k := s.toks) u hs' ho' (.tup hl rl hc' (by exact hd'))) (Nat.le_refl _) rx
  | @range y c n _ _ hl e =>
    subst e
    cases n with
    | zero => cases hl
    | succ n =>
      rw [List.range_succ_eq_map, List.map_cons, List.map_map] at hl
      injection hl with e1 e2
      refine wpAny_pyNext_range_item (x := y) (left := ((n + 1 : Nat) : Int)) (step := c) (by exact ho) (by omega) fun h' hit hs' => ?_
      refine q _ _ (H.set (k := s.toks + 1) u hs' (by exact hit) (.range (x := y + c) (n := n) (c := c) ?_ ?_)) (Nat.le_succ _) ?_
      · rw [e2]; apply List.map_congr_left; intro j _
        have : y + ((Nat.succ j : Nat) : Int) * c = y + c + (j : Int) * c := by
          rw [Nat.succ_eq_add_one]; push_cast; rw [Int.add_mul, Int.one_mul]; omega
        show V.int (y + ((Nat.succ j : Nat) : Int) * c) = _
        rw [this]
      · have : (((n + 1 : Nat) : Int) - 1) = (n : Int) := by push_cast; omega
        rw [this]
      · rw [e1]; simp; exact .dat (.int _ _)
  | @ascii y t i _ _ hl hc hd =>
    have e : y.cps[i]? = (y.cps.toList.drop i).head? := by rw [List.head?_drop, Array.getElem?_toList]
    have tl : y.cps.toList.drop (i + 1) = (y.cps.toList.drop i).tail := (List.tail_drop ..).symm
    cases hq : y.cps.toList.drop i with
    | nil => rw [hq] at hl; cases hl
    | cons c r =>
      rw [hq] at hl e tl
      injection hl with e1 e2
      refine wpAny_pyNext_ascii_item (x := y) (t := t) (i := i) (c := c) ⟨o, ho, hc, hd⟩ e fun h' ⟨o', ho', hc', hd'⟩ hs' => ?_
      exact q _ _ (H.set (k := s.toks + 1) u hs' ho' (.ascii (by rw [tl]; exact e2) hc' (by exact hd'))) (Nat.le_succ _) (by rw [e1]; exact .dat (.str _ _))
  | @wide y t i _ _ hl hc hd =>
    have e : y.cps[i]? = (y.cps.toList.drop i).head? := by rw [List.head?_drop, Array.getElem?_toList]
    have tl : y.cps.toList.drop (i + 1) = (y.cps.toList.drop i).tail := (List.tail_drop ..).symm
    cases hq : y.cps.toList.drop i with
    | nil => rw [hq] at hl; cases hl
    | cons c r =>
      rw [hq] at hl e tl
      injection hl with e1 e2
      refine wpAny_pyNext_wide_item (x := y) (t := t) (i := i) (c := c) ⟨o, ho, hc, hd⟩ e fun h' ⟨o', ho', hc', hd'⟩ hs' => ?_
      exact q _ _ (H.set (k := s.toks + 1) u hs' ho' (.wide (by rw [tl]; exact e2) hc' (by exact hd'))) (Nat.le_succ _) (by rw [e1]; exact .dat (.str _ _))

theorem Hold.extBut {fz : Heap} {s : Shared} {a : Addr} {ob : Ob} (H : Hold W fz ((a, ob) :: own) s) {h' : Heap} {k : Nat} (he : Heap.ExtBut a s.heap h') : Hold W fz own { s with heap := h', toks := k } where
  base := H.base
  has := fun b o e => he b o (fun hb => by have := H.out _ List.mem_cons_self; rw [hb] at e; exact absurd e (by rw [this]; exact fun x => nomatch x)) (H.has b o e)
  obs := fun p hp => by
    obtain ⟨o, e, r⟩ := H.obs p (List.mem_cons_of_mem _ hp)
    have nd := H.nd
    rw [List.map_cons, List.nodup_cons] at nd
    exact ⟨o, he _ _ (fun hb => nd.1 (List.mem_map.mpr ⟨p, hp, hb⟩)) e, r⟩
  out := fun p hp => H.out p (List.mem_cons_of_mem _ hp)
  nd := by have nd := H.nd; rw [List.map_cons, List.nodup_cons] at nd; exact nd.2
  gens := H.gens.sub (List.sublist_cons_self _ _)
  os := H.os

theorem next_over {prog : Program} {w : World} {E : Value → Shared → Prop} {s : Shared} {it : Addr} {o : Obj} {k : Value} {Q : Option Value → Shared → Prop} (hh : A.handled = none)
    (ho : s.heap.get? it = some o) (hc : o.cls = .type "list_iterator") (hd : o.data = .fields #[.none, k])
    (hQ : ∀ h', Keep s.heap h' → Q none { s with heap := h' }) : wpAny (model prog w) A (pyNext (.ref it)) Q E s := by
  have hT : s.TypeIs (.ref it) "list_iterator" := ⟨o, ho, hc⟩
  unfold pyNext
  refine wpAny_bind (wpAny_attempt (wpAny_callSpecial?_slot (name := Str.ofString "__next__") hT slot_listiter_next
    (wpAny_call_entry slot_listiter_next hT entry_listiter_next ?_ (args_listiter_next _))))
  show wpAny _ _ (field (.ref it) 0 >>= _) _ _ s
  refine wpAny_bind (wpAny_field ho hd (x := .none) rfl ?_)
  show wpAny _ _ (if (Value.none == Value.none) = true then _ else _) _ _ s
  rw [if_pos (show ((Value.none == Value.none) = true) from rfl)]
  refine wpAny_bind (wpAny_rule ?_)
  refine wpAny_bind ?_
  show wpAny _ _ (newExc (.type "StopIteration") [] >>= _) _ _ _
  refine wpAny_bind ?_
  simp only [newExc, newTuple]
  refine wpAny_bind (wpAny_newObj_type ?_ (by size_fits))
  refine wpAny_bind (m := firstArgMember _ _) (wpAny_of_eq (a := Value.none) (by first | rfl | (simp only [firstArgMember]; rfl)) ?_)
  refine wpAny_newObj_type ?_ (by size_fits)
  simp only [raiseNew]
  refine wpAny_bind (wpAny_handled ?_)
  rw [show A.in1.handled = none from hh]
  refine wpAny_bind (wpAny_pure (wpAny_throw ?_))
  refine wpAny_bind (wpAny_isInstance (T := "StopIteration") (b := true) ⟨_, Heap.get?_push_size _ rfl, rfl⟩ isSubtype_stop ?_)
  exact wpAny_pure (hQ _ ((Keep.push _ _).trans (Keep.push _ _)))

theorem next_none {a : Addr} {fz : Heap} {s : Shared} {P : Option Value → Shared → Prop} (hh : A.handled = none) (H : Hold W fz ((a, .it []) :: own) s)
    (q : ∀ s', Hold W fz own s' → s.toks ≤ s'.toks → P none s') : wpAny (model W.prog W.w) A (pyNext (.ref a)) P NoX s := by
  obtain ⟨o, ho, hob⟩ := H.get List.mem_cons_self
  cases hob with
  | @list b vs i _ _ hl rs hc hd =>
    refine wpAny_pyNext_list_end hh (l := b) (i := i) ⟨o, ho, hc, hd⟩ (IsList_keep hl H.has) (by rw [← Array.getElem?_toList]; exact rvs_drop_nil rs) fun h' he => ?_
    exact q _ (H.extBut (k := s.toks) he) (Nat.le_refl _)
  | @tup b vs i _ _ hl rs hc hd =>
    refine wpAny_pyNext_tuple_end hh (t := b) (i := i) ⟨o, ho, hc, hd⟩ (IsTuple_keep hl H.has) (by rw [← Array.getElem?_toList]; exact rvs_drop_nil rs) fun h' he => ?_
    exact q _ (H.extBut (k := s.toks) he) (Nat.le_refl _)
  | @range y c n _ _ hl e =>
    subst e
    cases n with
    | zero =>
      refine wpAny_pyNext_range_end hh (x := y) (left := ((0 : Nat) : Int)) (step := c) (by exact ho) (by omega) fun h' he => ?_
      exact q _ (H.extBut (k := s.toks) he) (Nat.le_refl _)
    | succ n => rw [List.range_succ_eq_map, List.map_cons] at hl; cases hl
  | @ascii y t i _ _ hl hc hd =>
    have e : y.cps[i]? = none := by
      have : y.cps.toList.drop i = [] := by simpa using hl.symm
      rw [← Array.getElem?_toList, ← List.head?_drop, this]; rfl
    refine wpAny_pyNext_ascii_end hh (x := y) (t := t) (i := i) ⟨o, ho, hc, hd⟩ e fun h' he => ?_
    exact q _ (H.extBut (k := s.toks) he) (Nat.le_refl _)
  | @wide y t i _ _ hl hc hd =>
    have e : y.cps[i]? = none := by
      have : y.cps.toList.drop i = [] := by simpa using hl.symm
      rw [← Array.getElem?_toList, ← List.head?_drop, this]; rfl
    refine wpAny_pyNext_wide_end hh (x := y) (t := t) (i := i) ⟨o, ho, hc, hd⟩ e fun h' he => ?_
    exact q _ (H.extBut (k := s.toks) he) (Nat.le_refl _)
  | over hc hd => exact next_over hh ho hc hd fun h' hk => q _ (H.tail.grow (k := s.toks) hk) (Nat.le_refl _)

/-! ### targets -/
theorem it_cls {fz : Heap} {l : List V} {o : Obj} (x : ItIs fz l o) : ∃ n, o.cls = .type n ∧ ["enumerate", "zip", "dict_itemiterator", "dict_reverseitemiterator", "odict_iterator", "itertools.zip_longest", "itertools.pairwise"].contains n = false := by
  cases x with
  | list _ _ c _ => exact ⟨_, c, by decide⟩
  | tup _ _ c _ => exact ⟨_, c, by decide⟩
  | range _ e => subst e; exact ⟨_, rfl, by decide⟩
  | ascii _ c _ => exact ⟨_, c, by decide⟩
  | wide _ c _ => exact ⟨_, c, by decide⟩
  | over c _ => exact ⟨_, c, by decide⟩
theorem let_go {prog : Program} {w : World} {E : Value → Shared → Prop} {s : Shared} {fz : Heap} {l : List V} {o : Obj} {it : Addr} {v : Value} {target : Expr} {Q : Unit → Shared → Prop} (ho : s.heap.get? it = some o) (x : ItIs fz l o) (h : Q () s) :
    wpAny (model prog w) A (letOwnedTupleGo target (.ref it) v) Q E s := by
  obtain ⟨n, hc, hn⟩ := it_cls x
  unfold letOwnedTupleGo
  have key : wpAny (model prog w) A (do
      let (.ref r, .ref a) := ((Value.ref it), v) | return
      let o ← load r
      match o.cls, o.data with
      | .type n, .fields vs =>
        if ["enumerate", "zip", "dict_itemiterator", "dict_reverseitemiterator", "odict_iterator", "itertools.zip_longest", "itertools.pairwise"].contains n && vs[0]? == some (rawInt a) then
          rule "for.unpacks-the-owned-tuple"
          updateField r 0 .none
      | _, _ => pure ()) Q E s := by
    cases v with
    | ref a =>
      show wpAny _ _ (load it >>= _) _ _ _
      refine wpAny_bind (wpAny_load ho ?_)
      obtain ⟨c, d, dt, sl⟩ := o
      cases hc
      cases dt <;> first
        | exact wpAny_pure h
        | (dsimp only; rw [hn, Bool.false_and, if_neg Bool.false_ne_true]; exact wpAny_pure h)
    | _ => exact wpAny_pure h
  cases target <;> first | exact key | exact wpAny_pure h

/-! ### loops -/
abbrev turnEnd (it : Addr) (r : List V) (I : List V → Own → Prop) (Q : Fl → Own → Prop) : Fl → Own → Prop
  | .next, o | .cont, o => ∃ o', Wk o ((it, .it r) :: o') ∧ I r o'
  | .brk, o => Q .next o
  | .ret v, o => Q (.ret v) o

theorem for_core {target : Expr} {body : List Stmt} {Q : Fl → Own → Prop} {it : Addr} (hh : A.handled = none) (I : List V → Own → Prop)
    (turn : ∀ x r o, I (x :: r) o → SA W A env target x ((it, .it r) :: o) fun o' => SXs W A env body o' (turnEnd it r I Q)) (last : ∀ o, I [] o → Q .next o) :
    ∀ (l : List V) (own : Own) (fz : Heap) (s : Shared), Hold W fz ((it, .it l) :: own) s → W.tk ≤ s.toks → I l own →
      codeAny (model W.prog W.w) A (.forLoop target (.ref it) body [] env) (fun r s' => match r with | .ok f => ∃ fz' b own', Keep fz fz' ∧ Hold W fz' own' s' ∧ RF fz' b f ∧ Q b own' | .error _ => False) s := by
  intro l own fz s H ht hI
  refine codeAny_loop' rfl (fun n s' => ∃ fz' l own, l.length = n ∧ Keep fz fz' ∧ Hold W fz' ((it, .it l) :: own) s' ∧ W.tk ≤ s'.toks ∧ I l own) (fun n s' hJ => ?_) l.length ⟨fz, l, own, rfl, .refl _, H, ht, hI⟩
  obtain ⟨fz₁, l₁, own₁, rfl, k₁, H₁, t₁, I₁⟩ := hJ
  show wpAny _ _ ((forTurn target (.ref it) body [] env).onRaise (fun x => do noteFrame x env; theTreesLotGoes x)) _ _ s'
  refine wpAny_onRaise (wpAny_mono (E := NoX) ?_ (fun _ _ q => q) fun _ _ x => x.elim)
  simp only [forTurn]
  refine wpAny_bind (wpAny_standAt (wpAny_bind (wpAny_onRaise (wpAny_mono (E := NoX) (Q := fun r s₁ => match r with
    | none => ∃ o, I [] o ∧ Hold W fz₁ o s₁ ∧ W.tk ≤ s₁.toks
    | some v => ∃ x r o, l₁ = x :: r ∧ I (x :: r) o ∧ Hold W fz₁ ((it, .it r) :: o) s₁ ∧ W.tk ≤ s₁.toks ∧ RV fz₁ x v) ?_ (fun r s₁ h₁ => ?_) fun _ _ x => x.elim))))
  · cases l₁ with
    | nil => exact next_none hh H₁ fun s'' H'' t'' => ⟨own₁, I₁, H'', Nat.le_trans t₁ t''⟩
    | cons x r => exact next_some H₁ .here fun v s'' H'' t'' rx => ⟨x, r, own₁, rfl, I₁, H'', Nat.le_trans t₁ t'', rx⟩
  · cases r with
    | none =>
      obtain ⟨o, Io, Ho, to⟩ := h₁
      refine wpAny_pure (.inr ⟨rfl, codeAny_block (wpAny_execs_nil ?_)⟩)
      exact ⟨fz₁, .next, o, k₁, Ho, .next, last o Io⟩
    | some v =>
      obtain ⟨x, r, o, rfl, Io, Ho, to, rx⟩ := h₁
      obtain ⟨ob, hob, hit⟩ := Ho.get List.mem_cons_self
      refine wpAny_bind (let_go hob hit ?_)
      refine wpAny_bind (wp_then (turn x r o Io fz₁ _ v Ho to rx) to fun fz₂ _ _ o₂ s₂ k₂ H₂ t₂ _ q₂ => wpAny_bind (wp_then (q₂ fz₂ s₂ H₂ t₂) t₂ fun fz₃ f b o₃ s₃ k₃ H₃ t₃ r₃ q₃ => ?_))
      cases r₃ with
      | next =>
        obtain ⟨o', wk, I'⟩ := q₃
        exact wpAny_pure (.inl ⟨rfl, r.length, by simp, fz₃, r, o', rfl, k₁.trans (k₂.trans k₃), wk.hold H₃, t₃, I'⟩)
      | cont =>
        obtain ⟨o', wk, I'⟩ := q₃
        exact wpAny_pure (.inl ⟨rfl, r.length, by simp, fz₃, r, o', rfl, k₁.trans (k₂.trans k₃), wk.hold H₃, t₃, I'⟩)
      | brk => exact wpAny_pure ⟨fz₃, _, o₃, k₁.trans (k₂.trans k₃), H₃, .next, q₃⟩
      | ret rv => exact wpAny_pure ⟨fz₃, _, o₃, k₁.trans (k₂.trans k₃), H₃, .ret rv, q₃⟩

/-- what a for wants of its iterator -/
abbrev Fors (W : Wd) (A : Around) (env : Env) (target : Expr) (body : List Stmt) (Q : Fl → Own → Prop) (b : V) (o : Own) : Prop :=
  ∃ it l o', b = .ref it ∧ o = (it, .it l) :: o' ∧ ∃ I : List V → Own → Prop, I l o' ∧ (∀ x r o, I (x :: r) o → SA W A env target x ((it, .it r) :: o) fun o' => SXs W A env body o' (turnEnd it r I Q)) ∧ (∀ o, I [] o → Q .next o)
theorem SX_For {target iter : Expr} {body : List Stmt} {pos : Pos} {Q : Fl → Own → Prop} (hh : A.handled = none) (h : SE W A env iter own fun a o1 => S1 W A RV pyIter a o1 (Fors W A env target body Q))
    (hs : ∀ x, foldedSetIterable iter env x = pure x := by intro _; rfl) : SX W A env (.For target iter body [] pos) own Q := fun fz s H ht => by
  refine wpAny_For (wp_then (h fz s H ht) ht fun fz1 va a o1 s1 k1 H1 t1 r1 q1 => wp_then (q1 fz1 s1 va H1 t1 r1) t1 fun fz2 vb b o2 s2 k2 H2 t2 r2 q2 => ?_) hs
  obtain ⟨it, l, o', rfl, rfl, I, Il, turn, last⟩ := q2
  cases r2.val_inv
  refine codeAny_mono (for_core hh I turn last l o' fz2 s2 H2 t2 Il) fun r s' x => ?_
  cases r with
  | ok f => obtain ⟨fz', b, own', k, rest⟩ := x; exact ⟨fz', b, own', k1.trans (k2.trans k), rest⟩
  | error e => exact x.elim

theorem SX_While {test : Expr} {body : List Stmt} {pos : Pos} {Q : Fl → Own → Prop} (J : Nat → Own → Prop) (n : Nat) (h0 : J n own)
    (turn : ∀ n o, J n o → ST W A env test o fun b o1 => if b then SXs W A env body o1 (fun fl o2 => match fl with
      | .next | .cont => ∃ o' m, Wk o2 o' ∧ m < n ∧ J m o'
      | .brk => Q .next o2
      | .ret v => Q (.ret v) o2) else Q .next o1) : SX W A env (.While test body [] pos) own Q := fun fz s H ht => by
  refine wpAny_While (codeAny_mono (codeAny_whileLoop (R := fun r s' => match r with | .ok f => ∃ fz' b own', Keep fz fz' ∧ Hold W fz' own' s' ∧ RF fz' b f ∧ Q b own' | .error _ => False)
    (fun n s' => ∃ fz' own, Keep fz fz' ∧ Hold W fz' own s' ∧ W.tk ≤ s'.toks ∧ J n own) (fun n s' hJ => ?_) n ⟨fz, own, .refl _, H, ht, h0⟩) fun r s' x => ?_)
  · obtain ⟨fz₁, own₁, k₁, H₁, t₁, J₁⟩ := hJ
    refine wpAny_mono (E := NoX) (wp_then (turn n own₁ J₁ fz₁ s' H₁ t₁) t₁ fun fz2 va b o2 s2 k2 H2 t2 r2 q2 => ?_) (fun _ _ x => x) fun _ _ x => x.elim
    subst r2
    cases va
    · exact wpAny_execs_nil ⟨fz2, .next, o2, k₁.trans k2, H2, .next, q2⟩
    · refine wpAny_mono (E := NoX) (wp_then (q2 fz2 s2 H2 t2) t2 fun fz₃ f b o₃ s₃ k₃ H₃ t₃ r₃ q₃ => ?_) (fun _ _ x => x) fun _ _ x => x.elim
      cases r₃ with
      | next => obtain ⟨o', m, wk, hm, J'⟩ := q₃; exact ⟨m, hm, fz₃, o', k₁.trans (k2.trans k₃), wk.hold H₃, t₃, J'⟩
      | cont => obtain ⟨o', m, wk, hm, J'⟩ := q₃; exact ⟨m, hm, fz₃, o', k₁.trans (k2.trans k₃), wk.hold H₃, t₃, J'⟩
      | brk => exact ⟨fz₃, .next, o₃, k₁.trans (k2.trans k₃), H₃, .next, q₃⟩
      | ret rv => exact ⟨fz₃, _, o₃, k₁.trans (k2.trans k₃), H₃, .ret rv, q₃⟩
  · cases r with
    | ok f => exact x
    | error e => exact x.elim

/-! ### unpacking -/
end
section
variable {W : Wd} {A : Around} {env : Env} {own : Own}

theorem it_self {fz : Heap} {s : Shared} {it : Addr} {l : List V} {Q : Value → Shared → Prop} {E : Value → Shared → Prop} (H : Hold W fz own s) (hm : (it, Ob.it l) ∈ own) (h : Q (.ref it) s) :
    wpAny (model W.prog W.w) A (pyIter (.ref it)) Q E s := by
  obtain ⟨o, ho, hob⟩ := H.get hm
  cases hob with
  | list _ _ hc hd => exact wpAny_pyIter_listiter ⟨o, ho, hc, hd⟩ h
  | tup _ _ hc hd => exact wpAny_pyIter_tupleiter ⟨o, ho, hc, hd⟩ h
  | range _ e => subst e; exact wpAny_pyIter_rangeiter (by exact ho) h
  | ascii _ hc hd => exact wpAny_pyIter_striter_ascii ⟨o, ho, hc, hd⟩ h
  | wide _ hc hd => exact wpAny_pyIter_striter_wide ⟨o, ho, hc, hd⟩ h
  | over hc hd =>
    have hT : s.TypeIs (.ref it) "list_iterator" := ⟨o, ho, hc⟩
    refine wpAny_pyIter_slot hT slot_listiter_iter (wpAny_call_entry slot_listiter_iter hT entry_listiter_iter ?_ (args_listiter_iter _))
    show wpAny _ _ (ret (.ref it)) _ _ s
    exact wpAny_pure ⟨_, rfl, "list_iterator", _, hT, slot_listiter_next.lookup, h⟩
/-! ### comprehensions -/
def testsSem (ifs : List Expr) (cenv : Env) : Sem Bool := forIn ifs true fun c r => if r = true then do let ok ← isTrue c cenv (eval c cenv); pure (ForInStep.yield ok) else pure (ForInStep.yield r)
abbrev STs (W : Wd) (A : Around) (cenv : Env) (ifs : List Expr) (own : Own) (Q : Bool → Own → Prop) : Prop := SG W A RB (testsSem ifs cenv) own Q
theorem STs_nil {Q : Bool → Own → Prop} (h : Q true own) : STs W A env [] own Q := fun fz s H ht => wpAny_tests_nil ⟨fz, _, own, .refl _, H, rfl, h⟩
/-- one clause's turns -/
def turnSem (e : Expr) (d : Nat) (p : Pos) (target : Expr) (ifs : List Expr) (inner : Sem Unit) (it acc : Value) (cenv : Env) : Sem Fin := do
  standAt p
  match ← pyNext it with
  | none => pure (.done .next)
  | some v =>
    letOwnedTupleGo target it v
    assign target cenv v
    let ok ← testsSem ifs cenv
    if ok then
      inner
    again (.compLoop e d it acc cenv)

theorem comp_core {e : Expr} {d : Nat} {p : Pos} {target : Expr} {ifs : List Expr} {inner : Sem Unit} {acc : Value} {cenv : Env} {it : Addr} (hh : A.handled = none)
    (heq : compTurn e d (.ref it) acc cenv = turnSem e d p target ifs inner (.ref it) acc cenv)
    (hden : denote table (.compLoop e d (.ref it) acc cenv) = (compTurn e d (.ref it) acc cenv).onRaise (fun x => do noteFrame x cenv; theTreesLotGoes x))
    (hu : A.under (.compLoop e d (.ref it) acc cenv) = A) (I : List V → Own → Prop)
    (turn : ∀ x r o, I (x :: r) o → SA W A cenv target x ((it, .it r) :: o) fun o1 => STs W A cenv ifs o1 fun ok o2 =>
      if ok then SG W A RU inner o2 (fun _ o3 => ∃ o', Wk o3 ((it, .it r) :: o') ∧ I r o') else ∃ o', Wk o2 ((it, .it r) :: o') ∧ I r o') :
    ∀ (l : List V) (own : Own) (fz : Heap) (s : Shared), Hold W fz ((it, .it l) :: own) s → W.tk ≤ s.toks → I l own →
      codeAny (model W.prog W.w) A (.compLoop e d (.ref it) acc cenv) (fun r s' => match r with | .ok _ => ∃ fz' own', Keep fz fz' ∧ Hold W fz' own' s' ∧ W.tk ≤ s'.toks ∧ I [] own' | .error _ => False) s := by
  intro l own fz s H ht hI
  refine codeAny_loop' rfl (fun n s' => ∃ fz' l own, l.length = n ∧ Keep fz fz' ∧ Hold W fz' ((it, .it l) :: own) s' ∧ W.tk ≤ s'.toks ∧ I l own) (fun n s' hJ => ?_) l.length ⟨fz, l, own, rfl, .refl _, H, ht, hI⟩
  obtain ⟨fz₁, l₁, own₁, rfl, k₁, H₁, t₁, I₁⟩ := hJ
  rw [hu]
  show wpAny _ _ (denote table (.compLoop e d (.ref it) acc cenv)) _ _ s'
  rw [hden]
  refine wpAny_onRaise (wpAny_mono (E := NoX) ?_ (fun _ _ q => q) fun _ _ x => x.elim)
  rw [heq]
  unfold turnSem
  refine wpAny_bind (wpAny_standAt (wpAny_bind (wpAny_mono (E := NoX) (Q := fun r s₁ => match r with
    | none => ∃ o, I [] o ∧ Hold W fz₁ o s₁ ∧ W.tk ≤ s₁.toks
    | some v => ∃ x r o, l₁ = x :: r ∧ I (x :: r) o ∧ Hold W fz₁ ((it, .it r) :: o) s₁ ∧ W.tk ≤ s₁.toks ∧ RV fz₁ x v) ?_ (fun r s₁ h₁ => ?_) fun _ _ x => x.elim)))
  · cases l₁ with
    | nil => exact next_none hh H₁ fun s'' H'' t'' => ⟨own₁, I₁, H'', Nat.le_trans t₁ t''⟩
    | cons x r => exact next_some H₁ .here fun v s'' H'' t'' rx => ⟨x, r, own₁, rfl, I₁, H'', Nat.le_trans t₁ t'', rx⟩
  · cases r with
    | none =>
      obtain ⟨o, Io, Ho, to⟩ := h₁
      exact wpAny_pure ⟨fz₁, o, k₁, Ho, to, Io⟩
    | some v =>
      obtain ⟨x, r, o, rfl, Io, Ho, to, rx⟩ := h₁
      obtain ⟨ob, hob, hit⟩ := Ho.get List.mem_cons_self
      refine wpAny_bind (let_go hob hit ?_)
      refine wpAny_bind (wp_then (turn x r o Io fz₁ _ v Ho to rx) to fun fz₂ _ _ o₂ s₂ k₂ H₂ t₂ _ q₂ => wpAny_bind (wp_then (q₂ fz₂ s₂ H₂ t₂) t₂ fun fz₃ ok b o₃ s₃ k₃ H₃ t₃ r₃ q₃ => ?_))
      subst r₃
      cases ok with
      | false =>
        obtain ⟨o', wk, I'⟩ := q₃
        exact wpAny_pure (.inl ⟨rfl, r.length, by simp, fz₃, r, o', rfl, k₁.trans (k₂.trans k₃), wk.hold H₃, t₃, I'⟩)
      | true =>
        refine wpAny_bind (wp_then (q₃ fz₃ s₃ H₃ t₃) t₃ fun fz₄ _ _ o₄ s₄ k₄ H₄ t₄ _ q₄ => ?_)
        obtain ⟨o', wk, I'⟩ := q₄
        exact wpAny_pure (.inl ⟨rfl, r.length, by simp, fz₄, r, o', rfl, k₁.trans (k₂.trans (k₃.trans k₄)), wk.hold H₄, t₄, I'⟩)

def emitSem (elt : Expr) (acc : Value) (cenv : Env) : Sem Unit := do let _ ← call (.builtin "list.append") [acc, ← eval elt cenv]
theorem turn_one (elt target iter : Expr) (ifs : List Expr) (scope : Scope) (pos : Pos) (it acc : Value) (cenv : Env) :
    compTurn (.ListComp elt [⟨target, iter, ifs, 0⟩] scope pos) 0 it acc cenv = turnSem (.ListComp elt [⟨target, iter, ifs, 0⟩] scope pos) 0 iter.pos target ifs (emitSem elt acc cenv) it acc cenv := by rfl
theorem emit_list {elt : Expr} {D : Addr} {Q : Own → Prop} (h : SE W A env elt own fun a o1 => ∃ o1' ys o2, Wk o1 o1' ∧ Upd D (.list ys) (.list (ys ++ [a])) o1' o2 ∧ ys.length ≤ sizeLine ∧ Q o2) : SG W A RU (emitSem elt (.ref D) env) own fun _ => Q := fun fz s H ht => by
  unfold emitSem
  refine wpAny_bind (wp_then (h fz s H ht) ht fun fz1 va a o1 s1 k1 H1 t1 r1 q1 => ?_)
  obtain ⟨o1', ys, o2, wk, u, hz, q⟩ := q1
  refine wpAny_bind (wp_then (do_append (Q := fun _ => Q) u hz q fz1 s1 va (wk.hold H1) t1 r1) t1 fun fz2 _ _ o3 s2 k2 H2 t2 _ q2 => wpAny_pure ⟨fz2, (), o3, k1.trans k2, H2, trivial, q2⟩)

theorem compStart_any {e : Expr} {d : Nat} {g : Comprehension} {it : Addr} {l : List V} {acc : Value} {cenv : Env} {fz : Heap} {s : Shared} {R : Result → Shared → Prop} (H : Hold W fz own s) (hm : (it, Ob.it l) ∈ own)
    (hg : (clausesOf e)[d]? = some g) (ha : (g.is_async != 0) = false)
    (hden : denote table (.compStart e d (.ref it) acc cenv) = (compStart e d (.ref it) acc cenv).onRaise (fun x => do noteFrame x cenv; standAt theWindowsPlace))
    (h : codeAny (model W.prog W.w) A (.compLoop e d (.ref it) acc cenv) R s) : codeAny (model W.prog W.w) A (.compStart e d (.ref it) acc cenv) R s := by
  refine codeAny_of_tree ?_
  show wpAny _ _ (denote table (.compStart e d (.ref it) acc cenv)) _ _ s
  rw [hden]
  refine wpAny_onRaise (wpAny_mono (E := NoX) ?_ (fun _ _ q => q) fun _ _ x => x.elim)
  unfold compStart
  rw [hg]
  simp only [Option.elim, ha, Bool.false_eq_true, if_false]
  refine wpAny_bind (wpAny_askSetting (wpAny_ite ?_))
  split
  · first
      | exact wpAny_bind (wpAny_pure (wpAny_pure (And.intro rfl h)))
      | exact wpAny_pure (And.intro rfl h)
  · exact wpAny_bind (wpAny_rule (wpAny_bind (wpAny_standAt (wpAny_bind (it_self H hm (wpAny_pure (And.intro rfl h)))))))

/-- a clause's loop -/
def CL (W : Wd) (A : Around) (e : Expr) (d : Nat) (D : Addr) (cenv : Env) (it : Addr) (l : List V) (own : Own) (Q : Own → Prop) : Prop :=
  ∀ fz s, Hold W fz ((it, .it l) :: own) s → W.tk ≤ s.toks → codeAny (model W.prog W.w) A (.compLoop e d (.ref it) (.ref D) cenv)
    (fun r s' => match r with | .ok _ => ∃ fz' own', Keep fz fz' ∧ Hold W fz' own' s' ∧ W.tk ≤ s'.toks ∧ Q own' | .error _ => False) s
/-- one turn of a clause -/
abbrev CT (W : Wd) (A : Around) (cenv : Env) (target : Expr) (ifs : List Expr) (inner : Sem Unit) (it : Addr) (I : List V → Own → Prop) : Prop :=
  ∀ x r o, I (x :: r) o → SA W A cenv target x ((it, .it r) :: o) fun o1 => STs W A cenv ifs o1 fun ok o2 =>
      if ok then SG W A RU inner o2 (fun _ o3 => ∃ o', Wk o3 ((it, .it r) :: o') ∧ I r o') else ∃ o', Wk o2 ((it, .it r) :: o') ∧ I r o'

theorem CL_one {elt target iter : Expr} {ifs : List Expr} {scope : Scope} {pos : Pos} {D : Addr} {cenv : Env} {it : Addr} {l : List V} {Q : Own → Prop} (hh : A.handled = none) (I : List V → Own → Prop) (h0 : I l own)
    (turn : CT W A cenv target ifs (emitSem elt (.ref D) cenv) it I) (last : ∀ o, I [] o → Q o) : CL W A (.ListComp elt [⟨target, iter, ifs, 0⟩] scope pos) 0 D cenv it l own Q := fun fz s H ht => by
  refine codeAny_mono (comp_core hh (turn_one elt target iter ifs scope pos (.ref it) (.ref D) cenv) rfl (Around.under_of_weight rfl) I turn l own fz s H ht h0) fun r s' x => ?_
  cases r with
  | ok f => obtain ⟨fz', own', k, H', t', i⟩ := x; exact ⟨fz', own', k, H', t', last _ i⟩
  | error e => exact x.elim
/-- a comprehension's own frame -/
abbrev cEnv (scope : Scope) (cl : List (Str × Addr)) (C : Addr) (env : Env) : Env :=
  { scope := relabel scope env, locals := C, globals := env.globals, cells := cl, qual := env.qual, func := none, code := env.code, frame := env.frame, builtins := env.builtins }
/-- what a list comprehension wants of its source -/
abbrev Comps (W : Wd) (A : Around) (env : Env) (e : Expr) (scope : Scope) (cl : List (Str × Addr)) (Fin : Addr → Addr → Own → Prop) (b : V) (o : Own) : Prop :=
  ∃ it l o3, b = .ref it ∧ o = (it, .it l) :: o3 ∧ ∀ C D, CL W A e 0 D (cEnv scope cl C env) it l ((C, .ns []) :: (D, .list []) :: o3) (Fin C D)

theorem comp_made {e : Expr} {scope : Scope} {cl : List (Str × Addr)} {Fin : Addr → Addr → Own → Prop} {b : V} {g : Comprehension} {gs : List Comprehension} {elt : Expr} {pos : Pos} {fz : Heap} {s : Shared} {RR : Value → Addr → Result → Shared → Prop} {vb : Value}
    (he : e = .ListComp elt (g :: gs) scope pos) (ha : (g.is_async != 0) = false) (hcell : ∀ y ∈ scope.names, y.2 ≠ .cell) (hkind : scope.kind = .function)
    (H : Hold W fz own s) (ht : W.tk ≤ s.toks) (r : RV fz b vb) (q : Comps W A env e scope cl Fin b own)
    (hR : ∀ C D fz' o s', Keep fz fz' → Hold W fz' o s' → W.tk ≤ s'.toks → Fin C D o → RR (.ref D) C (.ok .next) s') (hok : ∀ acc C f s', RR acc C (.ok .next) s' → RR acc C (.ok f) s') :
    wpAny (model W.prog W.w) A (newList []) (fun acc s₃ => wpAny (model W.prog W.w) A (newFunctionEnv scope env.globals cl [] env.qual none .none (some env)) (fun cenv s₄ =>
      codeAny (model W.prog W.w) A (.compStart e 0 vb acc { cenv with scope := relabel scope env }) (RR acc cenv.locals) s₄) NoX s₃) NoX s := by
  obtain ⟨it, l, o3, rfl, rfl, core⟩ := q
  cases r.val_inv
  subst he
  refine wpAny_newObj_type (wpAny_newFunctionEnv hcell (by intro y hy; simp at hy) (fun h₁ hns₁ hsb₁ => ?_) hkind)
  dsimp only at hns₁ hsb₁ ⊢
  have H₁ : Hold W fz ((s.heap.objs.size, .list []) :: (it, .it l) :: o3) { s with heap := s.heap.push (listObj [] 0), toks := s.toks } := H.new (Keep.push _ _) (get?_ge (Nat.le_refl _)) (Heap.get?_push_size _ rfl) ⟨[], 0, rfl, .nil⟩
  obtain ⟨o, ho, hob⟩ := of_ns (fz := fz) (loc := []) hns₁ (fun p hp => (nomatch hp))
  have hk₁ : Keep (s.heap.push (listObj [] 0)) h₁ := fun b o e => hsb₁.extBut b o (Nat.ne_of_lt (Heap.lt_size e)) (Heap.get?_push_of_some _ e)
  have H₂ : Hold W fz (((s.heap.push (listObj [] 0)).objs.size, .ns []) :: (s.heap.objs.size, .list []) :: (it, .it l) :: o3) { s with heap := h₁, toks := s.toks } :=
    H₁.new (k := s.toks) hk₁ (get?_ge (Nat.le_refl _)) ho hob
  have H₃ := H₂.perm (own' := (it, .it l) :: ((s.heap.push (listObj [] 0)).objs.size, .ns []) :: (s.heap.objs.size, .list []) :: o3)
    ((List.Perm.cons _ (List.Perm.swap ..)).trans (List.Perm.swap ..))
  refine compStart_any (H₃ : Hold W fz _ { s with heap := h₁, toks := s.toks + ([] : List (Str × Value)).length }) List.mem_cons_self rfl ha rfl ?_
  refine codeAny_mono (core (s.heap.push (listObj [] 0)).objs.size s.heap.objs.size fz _ H₃ ht) fun r s' x => ?_
  cases r with
  | ok f => obtain ⟨fz', own', k, H', t', i⟩ := x; exact hok _ _ _ _ (hR _ _ fz' own' s' k H' t' i)
  | error e => exact x.elim

theorem Hold.sameBut {fz : Heap} {s : Shared} {a : Addr} {ob : Ob} (H : Hold W fz ((a, ob) :: own) s) {h' : Heap} (hs : Heap.SameBut a s.heap h') : Hold W fz own { s with heap := h' } := H.extBut (k := s.toks) hs.extBut

theorem SE_Comp {elt target iter : Expr} {ifs : List Expr} {gs : List Comprehension} {scope : Scope} {pos : Pos} {cl : List (Str × Addr)} {Q : V → Own → Prop}
    (hclos : closureFor scope env = pure cl) (hcell : ∀ y ∈ scope.names, y.2 ≠ .cell) (hkind : scope.kind = .function) (hnames : ∀ y ∈ scope.names, y.2 = .local → scope.names.lookup y.1 = some .local)
    (h : SE W A env iter own fun a o1 => S1 W A RV pyIter a o1 (Comps W A env (.ListComp elt (⟨target, iter, ifs, 0⟩ :: gs) scope pos) scope cl fun C D o => ∃ ys o4, Wk o ((C, .ns []) :: (D, .list ys) :: o4) ∧ Q (.ref D) ((D, .list ys) :: o4)))
    (hs : ∀ x, foldedSetIterable iter env x = pure x := by intro _; rfl) : SE W A env (.ListComp elt (⟨target, iter, ifs, 0⟩ :: gs) scope pos) own Q := fun fz s H ht => by
  unfold At
  rw [eval_ListComp]
  refine wpAny_comprehension_free (use := none) rfl hs hclos hkind hnames (wp_then (h fz s H ht) ht fun fz1 va a o1 s1 k1 H1 t1 r1 q1 => wp_then (q1 fz1 s1 va H1 t1 r1) t1 fun fz2 vb b o2 s2 k2 H2 t2 r2 q2 => ?_)
  refine comp_made (RR := fun acc C => compPost (model W.prog W.w) A NoX none _ acc C) rfl rfl hcell hkind H2 t2 r2 q2 (fun C D fz3 o s3 k3 H3 t3 fin => ?_) fun acc C f s' x => x
  obtain ⟨ys, o4, wk, q⟩ := fin
  have H4 := wk.hold H3
  obtain ⟨oC, hoC, hns⟩ := H4.get List.mem_cons_self
  obtain ⟨m, hm, _⟩ := ns_of hoC hns
  exact ⟨m, hm, fun h' hs' => ⟨fz3, _, _, k1.trans (k2.trans k3), H4.sameBut hs', .val _, q⟩⟩

theorem SX_AssignComp {y : Str} {py spos : Pos} {elt target iter : Expr} {ifs : List Expr} {gs : List Comprehension} {scope : Scope} {pos : Pos} {cl : List (Str × Addr)} {Q : Fl → Own → Prop}
    (hclos : closureFor scope env = pure cl) (hcell : ∀ y ∈ scope.names, y.2 ≠ .cell) (hkind : scope.kind = .function) (hnames : ∀ y ∈ scope.names, y.2 = .local → scope.names.lookup y.1 = some .local)
    (hsw : swapsWith (.ListComp elt (⟨target, iter, ifs, 0⟩ :: gs) scope pos) (some (.Name y py)) spos.line env = pure true)
    (h : SE W A env iter own fun a o1 => S1 W A RV pyIter a o1 (Comps W A env (.ListComp elt (⟨target, iter, ifs, 0⟩ :: gs) scope pos) scope cl fun C D o =>
      ∃ ys o4, Wk o ((C, .ns []) :: (D, .list ys) :: o4) ∧ ∀ fz s, Hold W fz ((C, .ns []) :: (D, .list ys) :: o4) s → W.tk ≤ s.toks →
        wpAny (model W.prog W.w) A (assign (.Name y py) env (.ref D)) (fun _ s' => ∃ fz' o5, Keep fz fz' ∧ Hold W fz' ((C, .ns []) :: o5) s' ∧ Q .next o5) NoX s))
    (hs : ∀ x, foldedSetIterable iter env x = pure x := by intro _; rfl) : SX W A env (.Assign [.Name y py] (.ListComp elt (⟨target, iter, ifs, 0⟩ :: gs) scope pos) spos) own Q := fun fz s H ht => by
  unfold At
  rw [exec_Assign_Name_used _ _ _ _ hsw]
  refine wpAny_bind (wpAny_standAt (wpAny_bind ?_))
  show wpAny _ A (do let _ ← comprehension (.ListComp elt (⟨target, iter, ifs, 0⟩ :: gs) scope pos) scope env _ (newList []) false (eval iter env) (some (assign (.Name y py) env))) _ _ s
  refine wpAny_bind (wpAny_mono (E := NoX) (wpAny_comprehension_free (use := some (assign (.Name y py) env)) (Q := fun _ s' => ∃ fz' own', Keep fz fz' ∧ Hold W fz' own' s' ∧ Q .next own') rfl hs hclos hkind hnames
    (wp_then (h fz s H ht) ht fun fz1 va a o1 s1 k1 H1 t1 r1 q1 => wp_then (q1 fz1 s1 va H1 t1 r1) t1 fun fz2 vb b o2 s2 k2 H2 t2 r2 q2 => ?_))
    (fun _ s' hq => wpAny_pure (wpAny_pure (by obtain ⟨fz', o', k, H', q⟩ := hq; exact ⟨fz', .next, o', k, H', .next, q⟩))) fun _ _ e => e)
  refine comp_made (RR := fun acc C => compPost (model W.prog W.w) A NoX (some (assign (.Name y py) env)) _ acc C) rfl rfl hcell hkind H2 t2 r2 q2 (fun C D fz3 o s3 k3 H3 t3 fin => ?_) fun acc C f s' x => x
  obtain ⟨ys, o4, wk, q⟩ := fin
  have H4 := wk.hold H3
  refine wpAny_mono (q fz3 s3 H4 t3) (fun _ s4 x => ?_) fun _ _ e => e
  obtain ⟨fz4, o5, k4, H5, q5⟩ := x
  obtain ⟨oC, hoC, hns⟩ := H5.get List.mem_cons_self
  obtain ⟨m, hm, _⟩ := ns_of hoC hns
  exact ⟨m, hm, fun h' hs' => ⟨fz4, _, k1.trans (k2.trans (k3.trans k4)), H5.sameBut hs', q5⟩⟩

theorem S1.mono {α β : Type} {R : Heap → β → α → Prop} {f : Value → Sem α} {a : V} {Q Q' : β → Own → Prop} (h : S1 W A R f a own Q) (q : ∀ b own', Q b own' → Q' b own') : S1 W A R f a own Q' :=
  fun fz s v H ht r => (h fz s v H ht r).mono q
/-! ### the plain use: a list of data out of a list -/
theorem Hold.freezeList {fz : Heap} {s : Shared} {D : Addr} {ys : List V} {ds : List PyData} (H : Hold W fz ((D, .list ys) :: own) s) (had : AllDat ys ds) : ∃ fz', Keep fz fz' ∧ Hold W fz' own s ∧ RV fz' (.lst ds) (.ref D) := by
  obtain ⟨o, ho, r, hf, kk, H'⟩ := H.freeze
  obtain ⟨vs, n, rfl, rs⟩ := r
  exact ⟨_, kk, H', rv_list (putH_at hf) (by rw [← had.eq]; exact rs.mono kk)⟩
theorem AllDat.append {l l' : List V} {ds ds' : List PyData} (x : AllDat l ds) (y : AllDat l' ds') : AllDat (l ++ l') (ds ++ ds') := by
  induction x with
  | nil => exact y
  | cons _ ih => exact .cons ih

/-- a turn that makes one datum, or none -/
abbrev MapTurn {α : Type} (W : Wd) (A : Around) (cenv : Env) (target elt : Expr) (ifs : List Expr) (g : α → V) (p : α → Bool) (out : α → PyData) (xs : List α) (o3 : Own) (C D : Addr) : Prop :=
  ∀ it x r ys, x ∈ xs → SA W A cenv target (g x) ((it, .it r) :: (C, .ns []) :: (D, .list ys) :: o3) fun o1 => STs W A cenv ifs o1 fun ok o2 =>
    ok = p x ∧ if p x then SE W A cenv elt o2 (fun a o4 => a = .dat (out x) ∧ Wk o4 ((it, .it r) :: (C, .ns []) :: (D, .list ys) :: o3)) else Wk o2 ((it, .it r) :: (C, .ns []) :: (D, .list ys) :: o3)

theorem CL_map {α : Type} {elt target iter : Expr} {ifs : List Expr} {scope : Scope} {pos : Pos} {C D : Addr} {cenv : Env} {it : Addr} {g : α → V} {p : α → Bool} {out : α → PyData} {xs : List α} {o3 : Own} {Q : Own → Prop} (hh : A.handled = none)
    (hz : xs.length ≤ sizeLine) (turn : MapTurn W A cenv target elt ifs g p out xs o3 C D) (last : Q ((C, .ns []) :: (D, .list (((xs.filter p).map out).map V.dat)) :: o3)) :
    CL W A (.ListComp elt [⟨target, iter, ifs, 0⟩] scope pos) 0 D cenv it (xs.map g) ((C, .ns []) :: (D, .list []) :: o3) Q := by
  refine CL_one hh (fun l o => ∃ pre post, xs = pre ++ post ∧ l = post.map g ∧ o = (C, .ns []) :: (D, .list (((pre.filter p).map out).map V.dat)) :: o3) ⟨[], xs, rfl, rfl, rfl⟩ ?_ ?_
  · rintro x r o ⟨pre, post, e, hl, rfl⟩
    cases post with
    | nil => cases hl
    | cons z post =>
      injection hl with e1 e2
      subst e1 e2
      refine S1.mono (turn it z (post.map g) _ (by rw [e]; simp)) ?_
      intro _ o1 h1
      refine SG.mono h1 ?_
      intro ok o2 ⟨hok, h2⟩
      subst hok
      have hlen : ((pre.filter p).map out).length ≤ sizeLine := by
        have := List.length_filter_le p pre
        have : pre.length ≤ xs.length := by rw [e]; simp
        rw [List.length_map]; omega
      cases hp : p z with
      | false =>
        rw [hp] at h2
        exact ⟨_, h2, pre ++ [z], post, by simp [e], rfl, by simp [List.filter_append, hp]⟩
      | true =>
        rw [hp] at h2
        refine emit_list (SG.mono h2 ?_)
        rintro a o4 ⟨rfl, wk⟩
        refine ⟨_, _, _, wk, .there (.there .here), by rw [List.length_map]; exact hlen, _, .refl, pre ++ [z], post, by simp [e], rfl, ?_⟩
        simp [List.filter_append, hp]
  · rintro o ⟨pre, post, e, hl, rfl⟩
    cases post with
    | nil => rw [List.append_nil] at e; subst e; exact last
    | cons z post => cases hl

theorem SE_freeze {e : Expr} {Q : V → Own → Prop} (h : SE W A env e own fun a o => ∃ D ys ds o4, a = .ref D ∧ o = (D, .list ys) :: o4 ∧ AllDat ys ds ∧ Q (.lst ds) o4) : SE W A env e own Q := fun fz s H ht => by
  refine wp_then (h fz s H ht) ht fun fz1 va a o1 s1 k1 H1 t1 r1 q1 => ?_
  obtain ⟨D, ys, ds, o4, rfl, rfl, ad, q⟩ := q1
  cases r1.val_inv
  obtain ⟨fz', k, H', r⟩ := H1.freezeList ad
  exact ⟨fz', _, o4, k1.trans k, H', r, q⟩

/-- a list of data, read off a source -/
theorem SE_CompMap {α : Type} {elt target iter : Expr} {ifs : List Expr} {scope : Scope} {pos : Pos} {cl : List (Str × Addr)} {Q : V → Own → Prop}
    (hh : A.handled = none) (hclos : closureFor scope env = pure cl) (hcell : ∀ y ∈ scope.names, y.2 ≠ .cell) (hkind : scope.kind = .function) (hnames : ∀ y ∈ scope.names, y.2 = .local → scope.names.lookup y.1 = some .local)
    (h : SE W A env iter own fun a o1 => S1 W A RV pyIter a o1 fun b o2 => ∃ it l o3, b = .ref it ∧ o2 = (it, .it l) :: o3 ∧ ∃ (g : α → V) (p : α → Bool) (out : α → PyData) (xs : List α), l = xs.map g ∧ xs.length ≤ sizeLine ∧
      (∀ C D, MapTurn W A (cEnv scope cl C env) target elt ifs g p out xs o3 C D) ∧ Q (.lst ((xs.filter p).map out)) o3)
    (hs : ∀ x, foldedSetIterable iter env x = pure x := by intro _; rfl) : SE W A env (.ListComp elt [⟨target, iter, ifs, 0⟩] scope pos) own Q := by
  refine SE_freeze (SE_Comp hclos hcell hkind hnames (SG.mono h fun a o1 h1 => S1.mono h1 fun b o2 h2 => ?_) hs)
  obtain ⟨it, l, o3, rfl, rfl, g, p, out, xs, rfl, hz, turn, q⟩ := h2
  refine ⟨it, _, o3, rfl, rfl, fun C D => CL_map hh hz (turn C D) ⟨_, _, .refl, D, _, _, o3, rfl, rfl, AllDat.map _, q⟩⟩

/-- the same, held by a name; the list may be turned later -/
theorem SX_AssignCompMap {α : Type} {y : Str} {py spos : Pos} {elt target iter : Expr} {ifs : List Expr} {scope : Scope} {pos : Pos} {cl : List (Str × Addr)} {Q : Fl → Own → Prop}
    (hh : A.handled = none) (hclos : closureFor scope env = pure cl) (hcell : ∀ y ∈ scope.names, y.2 ≠ .cell) (hkind : scope.kind = .function) (hnames : ∀ y ∈ scope.names, y.2 = .local → scope.names.lookup y.1 = some .local)
    (hsw : swapsWith (.ListComp elt [⟨target, iter, ifs, 0⟩] scope pos) (some (.Name y py)) spos.line env = pure true)
    (h : SE W A env iter own fun a o1 => S1 W A RV pyIter a o1 fun b o2 => ∃ it l o3, b = .ref it ∧ o2 = (it, .it l) :: o3 ∧ ∃ (g : α → V) (p : α → Bool) (out : α → PyData) (xs : List α), l = xs.map g ∧ xs.length ≤ sizeLine ∧
      (∀ C D, MapTurn W A (cEnv scope cl C env) target elt ifs g p out xs o3 C D) ∧ ∀ C, SS W A env y (.lst ((xs.filter p).map out)) ((C, .ns []) :: o3) (fun o5 => ∃ o6, Wk o5 ((C, .ns []) :: o6) ∧ Q .next o6))
    (hs : ∀ x, foldedSetIterable iter env x = pure x := by intro _; rfl) : SX W A env (.Assign [.Name y py] (.ListComp elt [⟨target, iter, ifs, 0⟩] scope pos) spos) own Q := by
  refine SX_AssignComp hclos hcell hkind hnames hsw (SG.mono h fun a o1 h1 => S1.mono h1 fun b o2 h2 => ?_) hs
  obtain ⟨it, l, o3, rfl, rfl, g, p, out, xs, rfl, hz, turn, q⟩ := h2
  refine ⟨it, _, o3, rfl, rfl, fun C D => CL_map hh hz (turn C D) ⟨_, _, .refl, fun fz s H ht => ?_⟩⟩
  obtain ⟨fz', k, H', r⟩ := (H.perm (List.Perm.swap ..)).freezeList (AllDat.map _)
  refine wpAny_assign_Name (wp_then (q C fz' s _ H' ht r) ht fun fz1 _ _ o5 s1 k1 H1 t1 _ q1 => ?_)
  obtain ⟨o6, wk, q6⟩ := q1
  exact ⟨fz1, o6, k.trans k1, wk.hold H1, q6⟩
end
section
variable {W : Wd} {A : Around} {env : Env} {own : Own}

/-! ### calls: the glue -/
def KpO (W : Wd) (own : Own) (f : Value) : Prop := ∀ fz s, Hold W fz own s → ∃ k, (k = Keeper.frame ∨ k = Keeper.machine ∨ k = Keeper.boundFrame) ∧ Looks (model W.prog W.w) s.heap (keeperOf f) k
theorem kp_builtin {id : String} : KpO W own (.builtin id) := fun fz s H => ⟨.machine, .inr (.inl rfl), Looks.of_pure rfl⟩
theorem kp_type {T : String} : KpO W own (.type T) := fun fz s H => ⟨.machine, .inr (.inl rfl), Looks.of_pure rfl⟩
theorem kp_K {f : Value} (h : keepIn W.K f = true) : KpO W own f := fun fz s H => keeps_K h s.heap H.kin
theorem callWith_any {pos : Pos} {f : Value} {first : List V} {firstV : List Value} {args : List Expr} {fz : Heap} {s : Shared} {Q : V → Own → Prop} (H : Hold W fz own s) (ht : W.tk ≤ s.toks) (rf : RVs fz first firstV)
    (hp : (backTo pos (starEach args env)).any (·.1) = false) (h : SEs W A env pos args own fun l o2 => KpO W o2 f ∧ SL W A RV (fun vs => call f vs) (first ++ l) o2 Q) :
    At W A RV (callWith pos f firstV (backTo pos (starEach args env)) []) Q fz s := by
  have key : wpAny (model W.prog W.w) A (evalArgs f true (backTo pos (starEach args env)) []) (fun a s₁ => (∃ k, (k = Keeper.frame ∨ k = Keeper.machine ∨ k = Keeper.boundFrame) ∧ Looks (model W.prog W.w) s₁.heap (keeperOf f) k) ∧
      wpAny (model W.prog W.w) A (call f (firstV ++ a.pos) a.kw) (fun a s' => ∃ fz' b own', Keep fz fz' ∧ Hold W fz' own' s' ∧ RV fz' b a ∧ Q b own') NoX s₁) NoX s := by
    have h1 : wpAny (model W.prog W.w) A (spliced (backTo pos (starEach args env))) (fun vs s₁ => (∃ k, (k = Keeper.frame ∨ k = Keeper.machine ∨ k = Keeper.boundFrame) ∧ Looks (model W.prog W.w) s₁.heap (keeperOf f) k) ∧
      wpAny (model W.prog W.w) A (call f (firstV ++ vs) []) (fun a s' => ∃ fz' b own', Keep fz fz' ∧ Hold W fz' own' s' ∧ RV fz' b a ∧ Q b own') NoX s₁) NoX s := by
      refine wp_then (h fz s H ht) ht fun fz1 vs l o1 s1 k1 H1 t1 r1 q1 => ⟨q1.1 fz1 s1 H1, ?_⟩
      exact (q1.2 fz1 s1 _ H1 t1 ((rf.mono k1).append r1)).weak k1
    generalize backTo pos (starEach args env) = trees at hp h1 ⊢
    cases trees with
    | nil =>
      unfold evalArgs
      show wpAny _ _ (spliced [] >>= _) _ _ _
      refine wpAny_bind (wpAny_mono h1 (fun vs s' h' => wpAny_bind (wpAny_pure ?_)) fun _ _ x => x)
      refine wpAny_holding ?_
      exact wpAny_bind (wpAny_pure (wpAny_bind (wpAny_pure (wpAny_pure h'))))
    | cons t rest =>
      obtain ⟨b, t⟩ := t
      cases b with
      | false => exact Calls.evalArgs_plain h1
      | true => simp at hp
  exact callWith_of (P := fun h => ∃ k, (k = Keeper.frame ∨ k = Keeper.machine ∨ k = Keeper.boundFrame) ∧ Looks (model W.prog W.w) h (keeperOf f) k) (by simpa using hp) (fun h x => x) key

theorem SE_Call {func : Expr} {args : List Expr} {pos : Pos} {Q : V → Own → Prop}
    (h : SE W A env func own fun fv o1 => ∃ f, fv = .val f ∧ SEs W A env pos args o1 fun l o2 => KpO W o2 f ∧ SL W A RV (fun vs => call f vs) l o2 Q)
    (he : eval (.Call func args [] pos) env = (do callWith pos (← eval func env) [] (backTo pos (starEach args env)) (backToKw pos (keywordEach [] env))) := by rfl)
    (hp : (backTo pos (starEach args env)).any (·.1) = false := by rfl) : SE W A env (.Call func args [] pos) own Q := fun fz s H ht => by
  refine Call_ (wp_then (h fz s H ht) ht fun fz1 va a o1 s1 k1 H1 t1 r1 q1 => ?_) he
  obtain ⟨f, rfl, q⟩ := q1
  cases r1.val_inv
  exact (callWith_any (first := []) H1 t1 .nil hp q).weak k1

abbrev RM : Heap → (Value × List V) → (Value × List Value) → Prop := fun fz b a => a.1 = b.1 ∧ RVs fz b.2 a.2
abbrev SMth (W : Wd) (A : Around) (name : Str) (pl : Sem Bool) (a : V) (own : Own) (Q : Value × List V → Own → Prop) : Prop := S1 W A RM (fun v => getMethod v name pl) a own Q
theorem SE_Meth {o : Expr} {name : Str} {apos pos : Pos} {args : List Expr} {pl : Sem Bool} {Q : V → Own → Prop}
    (h : SE W A env o own fun a o1 => SMth W A name pl a o1 fun fx o2 => SEs W A env pos args o2 fun l o3 => KpO W o3 fx.1 ∧ SL W A RV (fun vs => call fx.1 vs) (fx.2 ++ l) o3 Q)
    (he : eval (.Call (.Attribute o name apos) args [] pos) env = (do
      let ov ← eval o env
      standAt apos.atName
      let (f, first) ← holding [ov] (getMethod ov name pl)
      callWith pos f first (backTo pos (starEach args env)) []) := by rfl)
    (hp : (backTo pos (starEach args env)).any (·.1) = false := by rfl) : SE W A env (.Call (.Attribute o name apos) args [] pos) own Q := fun fz s H ht => by
  refine MethodCall_ (wp_then (h fz s H ht) ht fun fz1 va a o1 s1 k1 H1 t1 r1 q1 => wp_then (q1 fz1 s1 va H1 t1 r1) t1 fun fz2 vb b o2 s2 k2 H2 t2 r2 q2 => ?_) he
  obtain ⟨f, fs⟩ := vb
  obtain ⟨e1, e2⟩ := r2
  dsimp only at e1 e2 ⊢
  subst e1
  exact (callWith_any H2 t2 e2 hp q2).weak (k1.trans k2)

/-- a method of a text -/
theorem mth_str {x : Str} {name : Str} {id : String} {pl : Sem Bool} {Q : Value × List V → Own → Prop}
    (hg : ∀ (t : Tok) (s : Shared) (P : Value × List Value → Shared → Prop), P (.builtin id, [.str x t]) s → wpAny (model W.prog W.w) A (getMethod (.str x t) name pl) P NoX s)
    (h : Q (.builtin id, [.str x]) own) : SMth W A name pl (.str x) own Q := fun fz s v H ht r => by
  obtain ⟨t, rfl⟩ := r.str_inv
  exact hg t s _ ⟨fz, _, own, .refl _, H, ⟨rfl, .cons (.dat (.str _ _)) .nil⟩, h⟩
/-- a method of a list of one's own -/
theorem mth_list {D : Addr} {l : List V} {name : Str} {id : String} {pl : Sem Bool} {Q : Value × List V → Own → Prop} (hm : (D, Ob.list l) ∈ own) (slot : Slot "list" name id) (hty : typeOf (.builtin id) = pure (.type "method_descriptor"))
    (h : Q (.builtin id, [.ref D]) own) : SMth W A name pl (.ref D) own Q := fun fz s v H ht r => by
  cases r.val_inv
  obtain ⟨o, ho, vs, n, rfl, rs⟩ := H.get hm
  refine getMethod_builtin ⟨_, ho, rfl⟩ PySem.F.plainAttrs_list slot hty (fun a e => by cases e; exact ⟨_, ho, rfl⟩) ?_
  exact ⟨fz, _, own, .refl _, H, ⟨rfl, .cons (.val _) .nil⟩, h⟩

theorem SL1 {α β : Type} {R : Heap → β → α → Prop} {f : List Value → Sem α} {a : V} {Q : β → Own → Prop} (h : S1 W A R (fun v => f [v]) a own Q) : SL W A R f [a] own Q := fun fz s vs H ht r => by
  cases r with | cons r1 r => cases r; exact h fz s _ H ht r1
theorem SL2 {α β : Type} {R : Heap → β → α → Prop} {f : List Value → Sem α} {a b : V} {Q : β → Own → Prop} (h : S2 W A R (fun v u => f [v, u]) a b own Q) : SL W A R f [a, b] own Q := fun fz s vs H ht r => by
  cases r with | cons r1 r => cases r with | cons r2 r => cases r; exact h fz s _ _ H ht r1 r2

/-! ### built-ins -/
theorem call_append {a : Addr} {l : List V} {x : V} {own' : Own} {Q : V → Own → Prop} (u : Upd a (.list l) (.list (l ++ [x])) own own') (hz : l.length ≤ sizeLine) (h : Q .none own') :
    SL W A RV (fun vs => call (.builtin "list.append") vs) [.ref a, x] own Q := SL2 fun fz s v w H ht r1 r2 => by
  cases r1.val_inv
  exact do_append u hz h fz s w H ht r2
theorem call_len_lst {l : List PyData} {Q : V → Own → Prop} (hz : l.length ≤ sizeLine) (h : Q (.int l.length) own) : SL W A RV (fun vs => call (.builtin "len") vs) [.lst l] own Q := SL1 fun fz s v H ht r => by
  obtain ⟨a, vs, rfl, hl, rs⟩ := r.lst_inv
  have hlen := rs.length
  rw [List.length_map] at hlen
  have hsz : vs.toList.length = vs.size := Array.length_toList
  rw [sizeLine_eq] at hz
  refine Calls.call_len_list (IsList_keep hl H.has) (by omega) ?_
  rw [show vs.size = l.length by omega]
  exact at_tok H _ (.dat (.int _ _)) h
/-! ### lists joined, repeated -/
theorem new_list {fz : Heap} {s : Shared} {vs : List Value} {ds : List PyData} {n : Nat} {Q : V → Own → Prop} (H : Hold W fz own s) (rs : RVs fz (ds.map V.dat) vs) (h : Q (.lst ds) own) :
    ∃ fz' b own', Keep fz fz' ∧ Hold W fz' own' { s with heap := s.heap.push { cls := .type "list", data := .seq vs.toArray n } } ∧ RV fz' b (.ref s.heap.objs.size) ∧ Q b own' := by
  obtain ⟨kk, H'⟩ := H.frz (k := s.toks) (o := listObj vs n) rfl (Keep.push _ _) (get?_ge (Nat.le_refl _)) (Heap.get?_push_size _ rfl)
  exact ⟨_, _, own, kk, H', rv_list (putH_at rfl) (rs.mono kk), h⟩
theorem op_addL {a b : List PyData} {Q : V → Own → Prop} (hz : a.length + b.length ≤ sizeLine) (h : Q (.lst (a ++ b)) own) : S2 W A RV (binaryOp .Add) (.lst a) (.lst b) own Q := fun fz s v u H ht r1 r2 => by
  obtain ⟨x, vs, rfl, hl, rs⟩ := r1.lst_inv
  obtain ⟨y, ws, rfl, hm, rt⟩ := r2.lst_inv
  have h1 := rs.length
  have h2 := rt.length
  rw [List.length_map] at h1 h2
  obtain ⟨⟨cls, dd, data, sl⟩, ho, hc, n, hd⟩ := IsList_keep hl H.has
  obtain ⟨⟨cls2, dd2, data2, sl2⟩, ho2, hc2, n2, hd2⟩ := IsList_keep hm H.has
  simp only at hc hd hc2 hd2
  subst hc hd hc2 hd2
  have q1 : vs.toList.length = vs.size := Array.length_toList
  have q2 : ws.toList.length = ws.size := Array.length_toList
  refine concat_meets ⟨_, ho, rfl⟩ ⟨_, ho2, rfl⟩ noFill_list_add seq_list_add PySem.F.slot_list_add PySem.F.entry_list_add (PySem.F.args_list_add_2 _ _) (list_addW x y vs ws n n2 dd dd2 sl sl2 (by omega)) ⟨ho, ho2, ?_⟩
  have e : vs ++ ws = (vs.toList ++ ws.toList).toArray := by simp
  rw [e]
  exact new_list H (by rw [List.map_append]; exact rs.append rt) h

/-! ### slices -/
def cutL {α : Type} (l : List α) (lo hi : Option Int) : List α := (l.drop (lo.elim 0 (clipAt l.length))).take (hi.elim l.length (clipAt l.length) - lo.elim 0 (clipAt l.length))
def cutS (x : Str) (lo hi : Option Int) : Str := ⟨(cutL x.cps.toList lo hi).toArray⟩
theorem cutL_map {α β : Type} (f : α → β) (l : List α) (lo hi : Option Int) : (cutL l lo hi).map f = cutL (l.map f) lo hi := by
  unfold cutL; rw [List.map_take, List.map_drop, List.length_map]
theorem rvs_cut {fz : Heap} {l : List V} {vs : List Value} (r : RVs fz l vs) (lo hi : Option Int) : RVs fz (cutL l lo hi) (cutL vs lo hi) := by
  have drop : ∀ {l : List V} {vs : List Value}, RVs fz l vs → ∀ n : Nat, RVs fz (l.drop n) (vs.drop n) := by
    intro l vs r
    induction r with
    | nil => intro n; cases n <;> exact .nil
    | cons h t ih => intro n; cases n with
      | zero => exact .cons h t
      | succ n => exact ih n
  have take : ∀ {l : List V} {vs : List Value}, RVs fz l vs → ∀ n : Nat, RVs fz (l.take n) (vs.take n) := by
    intro l vs r
    induction r with
    | nil => intro n; cases n <;> exact .nil
    | cons h t ih => intro n; cases n with
      | zero => exact .nil
      | succ n => exact .cons h (ih n)
  unfold cutL
  rw [r.length]
  exact take (drop r _) _
theorem strSlice_is (x : Str) (lo hi : Option Int) : Txt.slice x lo hi = cutS x lo hi := by
  have e : (Builtin.Str.strSliceIndices lo hi 1 x.length) = (List.range (hi.elim x.length (clipAt x.length) - lo.elim 0 (clipAt x.length))).map (lo.elim 0 (clipAt x.length) + ·) := by
    rw [← sliceRange_one]
    have b := sliceBounds_plain lo hi x.length
    have b1 := congrArg (·.1) b
    have b2 := congrArg (·.2.1) b
    dsimp only at b1 b2
    rw [← b1, ← b2]
    cases lo <;> cases hi <;> rfl
  have e2 : ((Builtin.Str.strSliceIndices lo hi 1 x.length).filterMap (x.cps[·]?)) = cutL x.cps.toList lo hi := by
    rw [e, pick_run]
    unfold cutL
    rw [Array.length_toList]; rfl
  unfold Txt.slice cutS
  rw [e2]
  split
  · rename_i h
    simp only [beq_self_eq_true, Bool.true_and, beq_iff_eq] at h
    have h3 : (cutL x.cps.toList lo hi).length = x.length := by
      rw [e, List.length_map, List.length_range] at h
      have h4 : x.cps.toList.length = x.length := Array.length_toList
      have hb : hi.elim x.length (clipAt x.length) ≤ x.length := by cases hi <;> simp only [Option.elim, clipAt] <;> omega
      unfold cutL
      rw [List.length_take, List.length_drop, h4]
      omega
    have h5 : cutL x.cps.toList lo hi = x.cps.toList := by
      have hs : (cutL x.cps.toList lo hi).Sublist x.cps.toList := by unfold cutL; exact (List.take_sublist _ _).trans (List.drop_sublist _ _)
      exact hs.eq_of_length (by rw [h3, Array.length_toList]; rfl)
    rw [h5]
  · rfl

abbrev SPt (W : Wd) (A : Around) (env : Env) (p : Option Expr) (own : Own) (Q : Option Int → Own → Prop) : Prop := SG W A (fun _ k v => IsPart v k) (evalPart p env) own Q
theorem SPt_none {Q : Option Int → Own → Prop} (h : Q none own) : SPt W A env none own Q := fun fz s H ht => wpAny_pure ⟨fz, _, own, .refl _, H, .none, h⟩
theorem SPt_some {e : Expr} {Q : Option Int → Own → Prop} (h : SE W A env e own fun a o1 => ∃ i, a = .int i ∧ Q (some i) o1) : SPt W A env (some e) own Q := fun fz s H ht =>
  wp_then (h fz s H ht) ht fun fz1 va a o1 s1 k1 H1 t1 r1 q1 => by
    obtain ⟨i, rfl, q⟩ := q1
    obtain ⟨t, rfl⟩ := r1.int_inv
    exact ⟨fz1, _, o1, k1, H1, .int _ _, q⟩
theorem SE_SliceL {value : Expr} {lower upper : Option Expr} {p pos : Pos} {Q : V → Own → Prop}
    (h : SE W A env value own fun a o1 => SPt W A env lower o1 fun lo o2 => SPt W A env upper o2 fun hi o3 => ∃ l, a = .lst l ∧ l.length ≤ sizeLine ∧ Q (.lst (cutL l lo hi)) o3)
    (ht : ∀ o r, letTemporaryGo value o r = pure () := by intro _ _; rfl) : SE W A env (.Subscript value (.Slice lower upper none p) pos) own Q := fun fz s H tk => by
  refine wpAny_Subscript_list_slice (wp_then (h fz s H tk) tk fun fz1 va a o1 s1 k1 H1 t1 r1 q1 => wp_then (q1 fz1 s1 H1 t1) t1 fun fz2 vl lo o2 s2 k2 H2 t2 r2 q2 => wp_then (q2 fz2 s2 H2 t2) t2 fun fz3 vu hi o3 s3 k3 H3 t3 r3 q3 => ?_) ht
  obtain ⟨l, rfl, hz, q⟩ := q3
  obtain ⟨x, vs, rfl, hl, rs⟩ := (r1.mono (k2.trans k3)).lst_inv
  have h1 := rs.length
  rw [List.length_map] at h1
  have qs : vs.toList.length = vs.size := Array.length_toList
  refine ⟨x, vs, lo, hi, rfl, IsList_keep hl H3.has, by omega, r2, r3, ?_⟩
  have e : slicePick vs lo hi none = (cutL vs.toList lo hi).toArray := by rw [slicePick_plain]; unfold cutL; rw [Array.length_toList]
  rw [e]
  have H4 := H3.grow (k := s3.toks) (Keep.push s3.heap { cls := .type "slice", data := .fields #[vl, vu, .none] })
  obtain ⟨fz', b, own', kk, H', r, qq⟩ := new_list (n := 0) (vs := cutL vs.toList lo hi) (ds := cutL l lo hi) H4 (by rw [cutL_map]; exact rvs_cut rs lo hi) q
  rw [show ({ s3 with heap := s3.heap.push { cls := .type "slice", data := .fields #[vl, vu, .none] }, toks := s3.toks } : Shared).heap.objs.size = s3.heap.objs.size + 1 from Heap.size_push ..] at r
  exact ⟨fz', b, own', k1.trans (k2.trans (k3.trans kk)), H', r, qq⟩
theorem part_value {v : Value} {k : Option Int} (h : IsPart v k) : ∃ l : Option (Int × Tok), v = partValue l ∧ l.map (·.1) = k := by
  cases h with
  | none => exact ⟨none, rfl, rfl⟩
  | int i t => exact ⟨some (i, t), rfl, rfl⟩
theorem SE_SliceS {value : Expr} {lower upper : Option Expr} {p pos : Pos} {Q : V → Own → Prop}
    (h : SE W A env value own fun a o1 => SPt W A env lower o1 fun lo o2 => SPt W A env upper o2 fun hi o3 => ∃ x, a = .str x ∧ x.length ≤ sizeLine ∧ Q (.str (cutS x lo hi)) o3)
    (ht : ∀ o r, letTemporaryGo value o r = pure () := by intro _ _; rfl) : SE W A env (.Subscript value (.Slice lower upper none p) pos) own Q := fun fz s H tk => by
  refine wpAny_Subscript_str_slice (wp_then (h fz s H tk) tk fun fz1 va a o1 s1 k1 H1 t1 r1 q1 => wp_then (q1 fz1 s1 H1 t1) t1 fun fz2 vl lo o2 s2 k2 H2 t2 r2 q2 => wp_then (q2 fz2 s2 H2 t2) t2 fun fz3 vu hi o3 s3 k3 H3 t3 r3 q3 => ?_) ht
  obtain ⟨x, rfl, hz, q⟩ := q3
  obtain ⟨t, rfl⟩ := r1.str_inv
  obtain ⟨pl, rfl, e1⟩ := part_value r2
  obtain ⟨pu, rfl, e2⟩ := part_value r3
  refine ⟨x, t, pl, pu, rfl, rfl, rfl, ?_⟩
  have hs := strSlice_is x lo hi
  have H4 := H3.grow (k := s3.toks) (Keep.push s3.heap { cls := .type "slice", data := .fields #[partValue pl, partValue pu, .none] })
  have key : ∀ (t' : Tok) (k : Nat), ∃ fz' b own', Keep fz fz' ∧ Hold W fz' own' { s3 with heap := s3.heap.push { cls := .type "slice", data := .fields #[partValue pl, partValue pu, .none] }, toks := k } ∧ RV fz' b (.str (Txt.slice x lo hi) t') ∧ Q b own' := fun t' k =>
    ⟨fz3, _, o3, k1.trans (k2.trans k3), H4.toks k, by rw [hs]; exact .dat (.str _ _), q⟩
  unfold Txt.slice at key
  unfold sliceMade slicePicked
  rw [e1, e2]
  dsimp only [Option.map, Option.getD]
  split
  · rename_i hc
    rw [if_pos hc] at key
    exact key t _
  · rename_i hc
    rw [if_neg hc] at key
    refine ⟨?_, key _ _⟩
    have := Txt.slice_le x lo hi
    unfold Txt.slice at this
    rw [if_neg hc] at this
    exact Nat.le_trans this hz
end
section
variable {W : Wd} {A : Around} {env : Env} {own : Own}

/-! ### attributes of a made thing -/
theorem putNs {o : Obj} {es : Array DictEntry} {ep : Nat} {name : Str} {h : Int} {t : Tok} {v : Value} (hd : o.data = .dict es ep) (hk : StrKeys es) :
    ∃ es' ep', (o.putName name h (.str name t) v).data = .dict es' ep' ∧ StrKeys es' ∧ es'.size ≤ es.size + 1 ∧ (nsFind es name ≠ none → es'.size = es.size) ∧ ∀ x, nsFind es' x = if x = name then some v else nsFind es x := by
  obtain ⟨c, d, dt, sl⟩ := o
  subst hd
  cases hi : es.findIdx? (·.key.isStr name) with
  | some i =>
    refine ⟨es.modify i fun e => { e with val := v }, ep, by simp only [Obj.putName_eq, Obj.putNameByArray, hi], hk.modify _ _, by simp, fun _ => by simp, fun x => ?_⟩
    exact findBy_modify (fun n v => v.isStr n) Value.isStr_inj es name x v i hi
  | none =>
    refine ⟨es.push ⟨h, .str name t, v⟩, ep + 1, by simp only [Obj.putName_eq, Obj.putNameByArray, hi], hk.push _ _ _ _, by simp, fun hne => ?_, fun x => ?_⟩
    · exfalso; apply hne
      unfold nsFind findBy
      rw [Option.map_eq_none_iff, Array.find?_eq_none]
      intro e he
      rw [Array.findIdx?_eq_none_iff] at hi
      simpa using hi e he
    · exact findBy_push (fun n v => v.isStr n) es name x _ _ v (fun y => by
        show (name == y) = decide (y = name)
        by_cases h : y = name
        · subst h; simp
        · have : ¬ name = y := fun e => h e.symm
          simp [h, this]) hi

theorem Put.keys {x : Str} {a : V} {l l' : List (Str × V)} (u : Put x a l l') : (x ∈ l.map (·.1) ∧ l'.map (·.1) = l.map (·.1)) ∨ (l'.map (·.1) = l.map (·.1) ++ [x]) := by
  induction u with
  | new => exact .inr rfl
  | here => exact .inl ⟨by simp, by simp⟩
  | there _ ih =>
    rcases ih with ⟨h1, h2⟩ | h
    · exact .inl ⟨by simp only [List.map_cons, List.mem_cons]; exact .inr h1, by simp only [List.map_cons, h2]⟩
    · exact .inr (by simp only [List.map_cons, h, List.cons_append])
theorem att_put {fz : Heap} {loc loc' : List (Str × V)} {o : Obj} {x : Str} {a : V} {v : Value} {h : Int} {t : Tok} (H : AttIs fz loc o) (u : Put x a loc loc') (nd : (loc'.map (·.1)).Nodup) (r : RV fz a v) :
    AttIs fz loc' (o.putName x h (.str x t) v) := by
  obtain ⟨es, ep, hd, hk, hz, h1, h2⟩ := H
  obtain ⟨es', ep', hd', hk', hz', hz2, hf⟩ := putNs (name := x) (h := h) (t := t) (v := v) hd hk
  have kk := u.keys
  refine ⟨es', ep', hd', hk', ?_, fun p hp => ?_, fun y hy => ?_⟩
  · rcases kk with ⟨m, e⟩ | e
    · have : nsFind es x ≠ none := by
        obtain ⟨p, hp, e'⟩ := List.mem_map.mp m
        obtain ⟨w, e2, _⟩ := h1 p hp
        rw [← e', e2]; exact fun z => nomatch z
      rw [hz2 this]
      have := congrArg List.length e
      simp only [List.length_map] at this
      omega
    · have := congrArg List.length e
      simp only [List.length_map, List.length_append, List.length_cons, List.length_nil] at this
      omega
  · rcases u.other nd p hp with rfl | ⟨hp', hne⟩
    · exact ⟨v, by rw [hf, if_pos rfl], r⟩
    · obtain ⟨w, e, r'⟩ := h1 p hp'; exact ⟨w, by rw [hf, if_neg hne]; exact e, r'⟩
  · rw [hf]
    rcases kk with ⟨m, e⟩ | e
    · rw [e] at hy
      rw [if_neg (fun q : y = x => hy (q ▸ m))]; exact h2 y hy
    · rw [e, List.mem_append] at hy
      rw [if_neg (fun q => hy (.inr (by simp [q])))]; exact h2 y (fun q => hy (.inl q))

theorem lookIn_of {o : Obj} {es : Array DictEntry} {ep : Nat} {name : Str} (hd : o.data = .dict es ep) (hk : StrKeys es) : lookIn name o = some (nsFind es name) := by
  unfold lookIn
  rw [hd]
  dsimp only
  have e : nsFind es name = (es.toList.find? (·.key.isStr name)).map (·.val) := by unfold nsFind findBy; rw [Array.find?_toList]
  rw [e]
  cases q : es.toList.find? (·.key.isStr name) with
  | some en => rfl
  | none =>
    have : es.toList.any (·.refKey) = false := by
      rw [List.any_eq_false]; intro z hz; obtain ⟨n, t, h⟩ := hk z (by simpa using hz); simp [DictEntry.refKey, h]
    simp [this]

theorem inst_at {fz : Heap} {s : Shared} {x dx C : Addr} {loc : List (Str × V)} (H : Hold W fz own s) (h1 : (x, Ob.obj (instObj C dx)) ∈ own) (h2 : (dx, Ob.att loc) ∈ own) :
    ∃ od, s.heap.get? dx = some od ∧ AttIs fz loc od ∧ InstAt s.heap x (instObj C dx) C (some od) := by
  obtain ⟨o, ho, e⟩ := H.get h1
  have e' : o = instObj C dx := e
  subst e'
  obtain ⟨od, hd, a⟩ := H.get h2
  exact ⟨od, hd, a, ho, rfl, rfl, hd⟩

/-- what the text's class must be -/
structure ClsOk (K : Frag) (C : Addr) : Prop where
  makes : makesIn K C = true
  ga : findIn K (.ref C) "__getattribute__" = some (some (.builtin "object.__getattribute__"))
  gattr : findIn K (.ref C) "__getattr__" = some none
  sa : findIn K (.ref C) "__setattr__" = some (some (.builtin "object.__setattr__"))
  plain : plainOver K C = true
  dict : (clsIn K C).any (·.hasDict) = true

theorem do_setattr {x dx C : Addr} {loc loc' : List (Str × V)} {name : Str} {a : V} {own' : Own} {Q : Own → Prop} (hc : ClsOk W.K C) (ht : takerIn W.K C name = some none) (h1 : (x, Ob.obj (instObj C dx)) ∈ own) (h2 : (dx, Ob.att loc) ∈ own)
    (u : Put name a loc loc') (nd : (loc'.map (·.1)).Nodup) (hz : loc'.length ≤ 1000) (up : Upd dx (.att loc) (.att loc') own own') (h : Q own') :
    S1 W A RU (fun v => setAttr (.ref x) name v) a own fun _ => Q := fun fz s v H tk r => by
  obtain ⟨od, hod, ha, I⟩ := inst_at H h1 up.mem
  refine set_plain H.kin I hc.sa ?_
  refine osa_open (s := { s with toks := s.toks + 1 }) H.kin I hc.plain ht fun b => ?_
  obtain ⟨cd, hcd, hdict⟩ := any_some hc.dict
  have ha' := att_put (h := PyData.keyHash W.w.params name) (t := s.toks + 1) ha u nd r
  have hhas := ha
  obtain ⟨es, ep, hd, hk, hsz, _, _⟩ := ha
  obtain ⟨hx, _, _, _⟩ := I
  have hnf : (Obj.putName name (PyData.keyHash W.w.params name) (.str name (s.toks + 1)) v od).isFreed = false := by
    obtain ⟨es', ep', hd', _⟩ := ha'
    have g : ∀ o : Obj, o.data = .dict es' ep' → o.isFreed = false := by rintro ⟨_, _, dt, _⟩ e; cases e; rfl
    exact g _ hd'
  refine wpAny_bind (wpAny_pure (wpAny_bind (wpAny_bind (wpAny_loadPart hx (wpAny_bind ((looks_clsIn (H.toks (s.toks + 1)).kin hcd).here ?_))))))
  rw [hdict]
  refine wpAny_pure (a := some dx) (wpAny_bind (wpAny_pure (wpAny_bind ?_)))
  unfold nsSet
  refine wpAny_bind (wpAny_bind (wpAny_askSetting (wpAny_pure (wpAny_bind (wpAny_mkText (wpAny_bind (wpAny_loadPart hod ?_)))))))
  have hany : es.any (·.refKey) = false := by
    rw [Array.any_eq_false']; intro e he; obtain ⟨n, t, h⟩ := hk e he; simp [DictEntry.refKey, h]
  rw [hd]
  dsimp only
  have c : (!es.any (·.key.isStr name) && es.any (·.refKey)) = false := by rw [hany, Bool.and_false]
  rw [aRefKeyMayBeTheName_at, c]
  refine wpAny_updatePart hod ?_
  have D' := Heap.get?_update_self (Obj.putName name (PyData.keyHash W.w.params name) (.str name (s.toks + 1)) v) hod hnf
  refine wpAny_bind (wpAny_lookBehind D' ?_ ?_)
  · obtain ⟨es', ep', hd', _, hz', _⟩ := ha'
    rw [hd']; exact pastItsLine_dict (by rw [sizeLine_eq]; omega)
  · refine wpAny_pure ?_
    exact ⟨fz, (), own', .refl _, H.set (k := s.toks + 1 + 1) up (Heap.SameBut.update ..) D' ha', trivial, h⟩

theorem SX_AssignAttr {o : Expr} {name : Str} {pos' pos : Pos} {value : Expr} {Q : Fl → Own → Prop}
    (h : SE W A env value own fun a o1 => SE W A env o o1 fun b o2 => ∃ x, b = .ref x ∧ S1 W A RU (fun v => setAttr (.ref x) name v) a o2 fun _ o3 => Q .next o3)
    (hs : swapsWith value (some (.Attribute o name pos')) pos.line env = pure false := by rfl) : SX W A env (.Assign [.Attribute o name pos'] value pos) own Q := fun fz s H ht => by
  refine plainObj_wpAny_Assign_Attribute (wp_then (h fz s H ht) ht fun fz1 va a o1 s1 k1 H1 t1 r1 q1 => wp_then (q1 fz1 s1 H1 t1) t1 fun fz2 vb b o2 s2 k2 H2 t2 r2 q2 => ?_) hs
  obtain ⟨x, rfl, q⟩ := q2
  cases r2.val_inv
  refine wp_then (q fz2 s2 va H2 t2 (r1.mono k2)) t2 fun fz3 _ _ o3 s3 k3 H3 t3 _ q3 => ?_
  exact ⟨fz3, .next, o3, k1.trans (k2.trans k3), H3, .next, q3⟩

theorem get_att {x dx C : Addr} {loc : List (Str × V)} {name : Str} {a : V} {Q : V → Own → Prop} (hc : ClsOk W.K C) (h1 : (x, Ob.obj (instObj C dx)) ∈ own) (h2 : (dx, Ob.att loc) ∈ own) (hx : (name, a) ∈ loc)
    (hf : findIn W.K (.ref C) name = some none) (hv : ∀ fz v, RV fz a v → handedIn v = true) (h : Q a own) : S1 W A RV (fun v => getAttr v name true) (.ref x) own Q := fun fz s v H tk r => by
  cases r.val_inv
  obtain ⟨od, hod, ha, I⟩ := inst_at H h1 h2
  obtain ⟨es, ep, hd, hk, hsz, h3, _⟩ := ha
  obtain ⟨u, e, ru⟩ := h3 _ hx
  obtain ⟨cd, hcd, hdict⟩ := any_some hc.dict
  refine get_value (v := u) H.kin I hc.ga ?_ (hv _ _ ru) ⟨fz, a, own, .refl _, H.toks _, ru, h⟩
  unfold findObj
  rw [hcd, Option.bind_some, hf, Option.bind_some]
  dsimp only
  rw [Option.bind_some, Option.bind_some]
  dsimp only
  unfold PySem.W.ownOf
  rw [hdict, if_pos rfl]
  dsimp only
  rw [lookIn_of hd hk, e]
  rfl

theorem handed_int {i : Int} : ∀ fz v, RV fz (.int i) v → handedIn v = true := fun fz v r => by obtain ⟨t, rfl⟩ := r.int_inv; rfl
/-- a method of the class -/
theorem mth_inst {x dx C f : Addr} {loc : List (Str × V)} {name : Str} {pl : Sem Bool} {Q : Value × List V → Own → Prop} (hc : ClsOk W.K C) (h1 : (x, Ob.obj (instObj C dx)) ∈ own) (h2 : (dx, Ob.att loc) ∈ own)
    (hf : findIn W.K (.ref C) name = some (some (.ref f))) (hty : typeIn W.K (.ref f) = some (.type "function")) (hn : name ∉ loc.map (·.1)) (h : Q (.ref f, [.ref x]) own) : SMth W A name pl (.ref x) own Q := fun fz s v H tk r => by
  cases r.val_inv
  obtain ⟨od, hod, ha, I⟩ := inst_at H h1 h2
  obtain ⟨es, ep, hd, hk, hsz, _, h4⟩ := ha
  refine method_fn H.kin I hc.ga hc.gattr hf hty ?_ ⟨fz, _, own, .refl _, H, ⟨rfl, .cons (.val _) .nil⟩, h⟩
  unfold shadowIn
  dsimp only
  rw [lookIn_of hd hk, h4 _ hn]
  rfl

/-- making a thing -/
theorem do_make {C fI : Addr} {args : List V} {Q : V → Own → Prop} (hc : ClsOk W.K C) (hi : findIn W.K (.ref C) "__init__" = some (some (.ref fI))) (hf : typeIn W.K (.ref fI) = some (.type "function"))
    (h : ∀ A' : Around, A'.handled = A.handled → A'.depth = A.depth + 1 → A'.units = A.units + 1 → ∀ x dx, SLC W A' (.ref fI) (.ref x :: args) ((x, .obj (instObj C dx)) :: (dx, .att []) :: own) fun r o => r = .none ∧ Q (.ref x) o) :
    SL W A RV (fun vs => call (.ref C) vs) args own Q := fun fz s vs H ht rs => by
  refine wpAny_call ?_
  have k : Keep s.heap ((s.heap.push emptyDict).push (instObj C s.heap.objs.size)) := (Keep.push _ _).trans (Keep.push _ _)
  have H1 : Hold W fz ((s.heap.objs.size, .att []) :: own) { s with heap := s.heap.push emptyDict, toks := s.toks } := H.new (Keep.push _ _) (get?_ge (Nat.le_refl _)) (Heap.get?_push_size _ rfl)
    ⟨#[], 0, rfl, fun e he => by simp at he, by simp, fun p hp => (nomatch hp), fun x _ => rfl⟩
  have H2 : Hold W fz ((s.heap.objs.size + 1, .obj (instObj C s.heap.objs.size)) :: (s.heap.objs.size, .att []) :: own) { s with heap := (s.heap.push emptyDict).push (instObj C s.heap.objs.size), toks := s.toks } := by
    have := H1.new (k := s.toks) (ob := .obj (instObj C s.heap.objs.size)) (Keep.push _ (instObj C s.heap.objs.size)) (get?_ge (Nat.le_refl _)) (Heap.get?_push_size _ rfl) rfl
    rw [show ({ s with heap := s.heap.push emptyDict, toks := s.toks } : Shared).heap.objs.size = s.heap.objs.size + 1 from Heap.size_push ..] at this
    exact this
  obtain ⟨hh, g, d, t, os⟩ := s
  refine make_core (makes_of H.kin hc.makes) (looks_findIn H.kin hi) (fun self => bind_fn H.kin self hf) (.inl rfl) ?_
  have key := h (A.under (.builtin "type.__call__" ⟨.ref C :: vs, []⟩)) rfl rfl rfl (hh.objs.size + 1) hh.objs.size fz _ _ H2 ht (.cons (.val _) rs)
  refine codeAny_mono key fun r s' x => ?_
  rcases r with e | (v | _ | _ | _) <;> first | exact x.elim | skip
  obtain ⟨fz', b, own', k', H', rb, rfl, q⟩ := x
  exact ⟨rb.none_inv, fz', _, own', k', H', .val _, q⟩
end
section
variable {W : Wd} {A : Around} {env : Env} {own : Own}

theorem ite_dec {p : Prop} [Decidable p] {P Q : Prop} (h1 : p → P) (h2 : ¬ p → Q) : if decide p = true then P else Q := by
  by_cases h : p
  · rw [if_pos (decide_eq_true h)]; exact h1 h
  · rw [if_neg (by simpa using h)]; exact h2 h
theorem ite_tt' {P Q : Prop} (h : P) : if true = true then P else Q := by rw [if_pos rfl]; exact h
theorem ite_ff' {P Q : Prop} (h : Q) : if false = true then P else Q := by rw [if_neg (by decide)]; exact h
theorem K_of {K K' : Frag} {a : Addr} {o : Obj} (hK : K = K') (h : K'.lookup a = some o) : K.lookup a = some o := hK ▸ h
theorem nsIn_of {K K' : Frag} {x : Str} {r : Option (Option Value)} (hK : K = K') (h : nsIn K' mainGlobals x = r) : nsIn K mainGlobals x = r := hK ▸ h
/-! ### texts as lists of signs -/
def S (l : List Nat) : Str := ⟨l.toArray⟩
def lit (x : Str) : List Nat := x.cps.toList
theorem S_lit (x : Str) : S (lit x) = x := by unfold S lit; simp
theorem S_len (l : List Nat) : (S l).length = l.length := by show l.toArray.size = _; simp
theorem S_cat (a b : List Nat) : S a ++ S b = S (a ++ b) := by
  show (⟨(S a).cps ++ (S b).cps⟩ : Str) = S (a ++ b)
  simp [S]
theorem S_inj {a b : List Nat} : S a = S b ↔ a = b := by
  constructor
  · intro h; have := congrArg (fun x : Str => x.cps.toList) h; simpa [S] using this
  · intro h; rw [h]

theorem SE_strS {x : Str} {k : Nat} {pos : Pos} {Q : V → Own → Prop} (h : Q (.str (S (lit x))) own) : SE W A env (.Constant (.str x) k pos) own Q := SE_str (by rw [S_lit] at h; exact h)
theorem SE_strL {x : Str} {l : List Nat} {k : Nat} {pos : Pos} {Q : V → Own → Prop} (hx : lit x = l) (h : Q (.str (S l)) own) : SE W A env (.Constant (.str x) k pos) own Q := SE_strS (by rw [hx]; exact h)
theorem op_catS {a b : List Nat} {Q : V → Own → Prop} (hz : a.length + b.length ≤ sizeLine) (h : Q (.str (S (a ++ b))) own) : S2 W A RV (binaryOp .Add) (.str (S a)) (.str (S b)) own Q := op_cat (by rw [S_len, S_len]; exact hz) (by rw [S_cat]; exact h)
theorem op_icatS {a b : List Nat} {Q : V → Own → Prop} (hz : a.length + b.length ≤ sizeLine) (h : Q (.str (S (a ++ b))) own) : S2 W A RV (inplaceOp .Add) (.str (S a)) (.str (S b)) own Q := op_icat (by rw [S_len, S_len]; exact hz) (by rw [S_cat]; exact h)
theorem cmp_eqSS {a b : List Nat} {Q : V → Own → Prop} (h : Q (.bool (decide (a = b))) own) : S2 W A RV (compareOp .Eq) (.str (S a)) (.str (S b)) own Q := cmp_eqS (by
  have : decide (S a = S b) = decide (a = b) := by simp only [S_inj]
  rw [this]; exact h)
theorem cutS_S (a : List Nat) (lo hi : Option Int) : cutS (S a) lo hi = S (cutL a lo hi) := by unfold cutS S; simp
theorem it_strS {a : List Nat} {Q : V → Own → Prop} (h : ∀ i, Q (.ref i) ((i, .it (a.map fun c => V.str (S [c]))) :: own)) : S1 W A RV pyIter (.str (S a)) own Q := it_str h
theorem SE_SliceSS {value : Expr} {lower upper : Option Expr} {p pos : Pos} {Q : V → Own → Prop}
    (h : SE W A env value own fun a o1 => SPt W A env lower o1 fun lo o2 => SPt W A env upper o2 fun hi o3 => ∃ l, a = .str (S l) ∧ l.length ≤ sizeLine ∧ Q (.str (S (cutL l lo hi))) o3)
    (ht : ∀ o r, letTemporaryGo value o r = pure () := by intro _ _; rfl) : SE W A env (.Subscript value (.Slice lower upper none p) pos) own Q :=
  SE_SliceS (SG.mono h fun a o1 h1 => SG.mono h1 fun lo o2 h2 => SG.mono h2 fun hi o3 ⟨l, e, hz, q⟩ => ⟨S l, e, by rw [S_len]; exact hz, by rw [cutS_S]; exact q⟩) ht

/-! ### a list of one's own handed on as data -/
inductive Take (D : Addr) (ob : Ob) : Own → Own → Prop
  | here {l : Own} : Take D ob ((D, ob) :: l) l
  | there {p : Addr × Ob} {l l' : Own} : Take D ob l l' → Take D ob (p :: l) (p :: l')
theorem Take.perm {D : Addr} {ob : Ob} {l l' : Own} (t : Take D ob l l') : l.Perm ((D, ob) :: l') := by
  induction t with
  | here => exact .refl _
  | there _ ih => exact (ih.cons _).trans (.swap ..)
theorem op_mulR {a b : Int} {Q : V → Own → Prop} (hm : Builtin.Int.intBits b ≤ 64) (h : Q (.int (a * b)) own) : S2 W A RV (binaryOp .Mult) (.int a) (.int b) own Q := op_mul (.of_right hm) h
end
section
variable {W : Wd} {A : Around} {env : Env} {own : Own}

theorem GensIs.more {gs : Array GenState} (x : GensIs own gs) : ∀ {nw : Own}, (∀ p ∈ nw, p.2.genOf = none) → GensIs (nw ++ own) gs
  | [], _ => x
  | p :: nw, h => (GensIs.more x fun q hq => h q (List.mem_cons_of_mem _ hq)).cons (a := p.1) (h p List.mem_cons_self)
theorem Hold.more {fz : Heap} {s : Shared} (H : Hold W fz own s) {h' : Heap} {k : Nat} (hk : Keep s.heap h') {nw : Own} (hn : ∀ p ∈ nw, s.heap.get? p.1 = none) (ho : ∀ p ∈ nw, ∃ o, h'.get? p.1 = some o ∧ ObIs fz p.2 o)
    (nd : (nw.map (·.1)).Nodup) (hg : ∀ p ∈ nw, p.2.genOf = none) : Hold W fz (nw ++ own) { s with heap := h', toks := k } where
  base := H.base
  has := H.has.trans hk
  obs := fun p hp => by
    rcases List.mem_append.mp hp with hp | hp
    · exact ho p hp
    · obtain ⟨o', e, r⟩ := H.obs p hp; exact ⟨o', hk _ _ e, r⟩
  out := fun p hp => by
    rcases List.mem_append.mp hp with hp | hp
    · cases e : fz.get? p.1 with
      | none => rfl
      | some o' => exact absurd (H.has _ _ e) (by rw [hn p hp]; exact fun x => nomatch x)
    · exact H.out p hp
  nd := by
    rw [List.map_append, List.nodup_append]
    refine ⟨nd, H.nd, fun a ha b hb e => ?_⟩
    subst e
    obtain ⟨p, hp, rfl⟩ := List.mem_map.mp ha
    obtain ⟨q, hq, e⟩ := List.mem_map.mp hb
    obtain ⟨o', e', _⟩ := H.obs q hq
    rw [e, hn p hp] at e'
    cases e'
  gens := GensIs.more H.gens hg
  os := H.os

/-! ### calls with defaults -/
theorem do_callD {f : Addr} {args : List V} {Q : V → Own → Prop} {name qual : Str} {params : Arguments} {body : List Stmt} {scope : Scope} {dV kV doc pm cdv ct oc : Value} {an od : Option Addr} {osl : Array (Option Value)}
    (names : List Str) (dfl : List Value) (dfv : List V) (hdf : ∀ fz, RVs fz dfv dfl)
    (ho : W.K.lookup f = some ⟨oc, od, .func (fnOf name qual params body scope dV kV doc pm an cdv ct), osl⟩) (hcd : codeIn W.K cdv qual = true) (hroom : A.depth < recursionLimit)
    (hb : ∀ s vs, W.K.In s.heap → vs.length = args.length → BindsTo s (fnOf name qual params body scope dV kV doc pm an cdv ct) ⟨vs, []⟩ (names.zip (vs ++ dfl)))
    (hloc : ∀ y ∈ names, scope.names.lookup y = some .local) (nd : names.Nodup)
    (h : ∀ L, SXs W (A.deeper (envX qual scope L f cdv [])) (envX qual scope L f cdv []) body ((L, .ns (names.zip (args ++ dfv))) :: own) (retTo Q))
    (hco : scope.isCoroutine = false) (hgen : scope.isGenerator = false) (hk : scope.kind = .function)
    (hcell : ∀ x ∈ scope.names, x.2 ≠ .cell) : SLC W A (.ref f) args own Q := fun fz s vs H ht rs => by
  have ndz : ((names.zip (vs ++ dfl)).map (·.1)).Nodup := nd.sublist zip_fst
  refine (codeAny_call_def (fd := fnOf name qual params body scope dV kV doc pm an cdv ct) (body := body) (binds := names.zip (vs ++ dfl)) hroom (H.kin _ _ ho) rfl (W.top.nolimit.keeps H.keep) (codeRec_of H.kin hcd) rfl
    (hb s vs H.kin rs.length.symm) hcell (fun x hx => hloc _ (List.of_mem_zip (show (x.1, x.2) ∈ names.zip (vs ++ dfl) from hx)).1) (fun h₁ hns hk₁ => ?_) hco hgen hk)
  obtain ⟨o, ho', hob⟩ := of_ns (fz := fz) (loc := names.zip (args ++ dfv)) hns (fun p hp => by
    obtain ⟨v, e, r⟩ := zip_lookup (rs.append (hdf fz)) nd p hp
    exact ⟨v, by rw [lookup_reverse ndz]; exact e, r⟩)
  have H₁ : Hold W fz ((s.heap.objs.size, .ns (names.zip (args ++ dfv))) :: own) { s with heap := h₁, toks := s.toks + (names.zip (vs ++ dfl)).length } := H.new hk₁ (get?_ge (Nat.le_refl _)) ho' hob
  refine wpAny_mono (h s.heap.objs.size fz _ H₁ (Nat.le_trans ht (Nat.le_add_right _ _))) (fun fl s' x => ?_) fun _ _ x => x.elim
  obtain ⟨fz', b, own', k, H', r, own'', wk, q⟩ := x
  refine ⟨fz', _, own'', k, wk.hold H', ?_, q⟩
  cases r with
  | next => exact .dat .none
  | brk => exact .dat .none
  | cont => exact .dat .none
  | ret r => exact r

/-! ### calls of a def whose names are captured -/
def AllL (fz : Heap) (m : Str → Option Value) : List (Str × V) → Prop
  | [] => True
  | p :: r => (∃ v, m p.1 = some v ∧ RV fz p.2 v) ∧ AllL fz m r
theorem AllL.get {fz : Heap} {m : Str → Option Value} : ∀ {l : List (Str × V)}, AllL fz m l → ∀ p ∈ l, ∃ v, m p.1 = some v ∧ RV fz p.2 v
  | _ :: _, h, p, hp => by
    rcases List.mem_cons.mp hp with rfl | hp
    · exact h.1
    · exact AllL.get h.2 p hp
def AllC (fz : Heap) (m : Str → Option Value) : List (Str × Nat × Option V) → Prop
  | [] => True
  | (x, _, none) :: r => m x = none ∧ AllC fz m r
  | (x, _, some a) :: r => (∃ v, m x = some v ∧ RV fz a v) ∧ AllC fz m r
theorem AllC.get {fz : Heap} {m : Str → Option Value} : ∀ {l : List (Str × Nat × Option V)}, AllC fz m l → ∀ p ∈ l, match p.2.2 with | none => m p.1 = none | some a => ∃ v, m p.1 = some v ∧ RV fz a v
  | (x, n, o) :: r, h, p, hp => by
    cases o with
    | none =>
      rcases List.mem_cons.mp hp with rfl | hp
      · exact h.1
      · exact AllC.get h.2 p hp
    | some a =>
      rcases List.mem_cons.mp hp with rfl | hp
      · exact h.1
      · exact AllC.get h.2 p hp
theorem lookup_mem_nodup {α : Type} : ∀ {l : List (Str × α)}, (l.map (·.1)).Nodup → ∀ {n : Str} {c : α}, (n, c) ∈ l → l.lookup n = some c
  | (k, v) :: r, nd, n, c, h => by
    rw [List.map_cons, List.nodup_cons] at nd
    rw [List.lookup_cons]
    rcases List.mem_cons.mp h with e | h
    · cases e; simp
    · have : n ≠ k := fun e => nd.1 (List.mem_map.mpr ⟨_, h, e⟩)
      have : (n == k) = false := by simpa using this
      rw [this]; exact lookup_mem_nodup nd.2 h

abbrev cellsOwn (L : Addr) (ce : List (Str × Nat × Option V)) : Own := ce.map fun p => (L + p.2.1, Ob.cell p.2.2)
theorem do_callE {f : Addr} {args : List V} {Q : V → Own → Prop} {name qual : Str} {params : Arguments} {body : List Stmt} {scope : Scope} {dV kV doc pm cdv ct oc : Value} {an od : Option Addr} {osl : Array (Option Value)}
    (names : List Str) (loc : List (Str × V)) (ce : List (Str × Nat × Option V))
    (ho : W.K.lookup f = some ⟨oc, od, .func (fnOf name qual params body scope dV kV doc pm an cdv ct), osl⟩) (hcd : codeIn W.K cdv qual = true) (hroom : A.depth < recursionLimit)
    (hb : ∀ s vs, W.K.In s.heap → vs.length = args.length → BindsTo s (fnOf name qual params body scope dV kV doc pm an cdv ct) ⟨vs, []⟩ (names.zip vs))
    (hcl : ∀ L, cellsFrom (L + 1) scope.names [] = ce.map fun p => (p.1, L + p.2.1)) (ndc : (ce.map (·.1)).Nodup)
    (hkind : ∀ y ∈ names, scope.names.lookup y = some .local ∨ (scope.names.lookup y = some .cell ∧ y ∈ ce.map (·.1)))
    (hbind : ∀ fz vs L, RVs fz args vs → AllL fz (bindL (envX qual scope L f cdv (ce.map fun p => (p.1, L + p.2.1))).kindOf (names.zip vs) fun _ => none) loc ∧ AllC fz (bindC (envX qual scope L f cdv (ce.map fun p => (p.1, L + p.2.1))).kindOf (names.zip vs) fun _ => none) ce)
    (h : ∀ L, SXs W (A.deeper (envX qual scope L f cdv (ce.map fun p => (p.1, L + p.2.1)))) (envX qual scope L f cdv (ce.map fun p => (p.1, L + p.2.1))) body ((L, .ns loc) :: (cellsOwn L ce ++ own)) (retTo Q))
    (hco : scope.isCoroutine = false) (hgen : scope.isGenerator = false) (hk : scope.kind = .function) : SLC W A (.ref f) args own Q := fun fz s vs H ht rs => by
  have hlk : ∀ L, ∀ y ∈ ce.map (·.1), (((ce.map fun p => (p.1, L + p.2.1)) : List (Str × Addr)).lookup y).isSome = true := fun L y hy => by
    obtain ⟨p, hp, rfl⟩ := List.mem_map.mp hy
    rw [lookup_mem_nodup (l := ce.map fun p => (p.1, L + p.2.1)) (by rw [List.map_map]; exact ndc) (List.mem_map.mpr ⟨p, hp, rfl⟩)]; rfl
  refine codeAny_call_function hroom (H.kin _ _ ho) rfl hco hgen rfl (codeRec_of H.kin hcd) (hb s vs H.kin rs.length.symm _ _ _ _ ?_)
  have base := wpAny_newFunctionEnv_cells (M := model W.prog W.w) (A := A.in1) (E := fun e s' => False) (s := s) (scope := scope) (globals := mainGlobals) (binds := names.zip vs) (qual := qual ++ ".<locals>.") (func := some f) (code := cdv) (builtins := builtinsNs)
    (Q := fun env s' => env = newEnv scope s.heap.objs.size mainGlobals (cellsFrom (s.heap.objs.size + 1) scope.names []) (qual ++ ".<locals>.") (some f) cdv none builtinsNs ∧
      InCallC s env.locals (bindL env.kindOf (names.zip vs) fun _ => none) env.cells (bindC env.kindOf (names.zip vs) fun _ => none) s') hk (fun x hx => by
      rcases hkind _ (List.of_mem_zip (show (x.1, x.2) ∈ names.zip vs from hx)).1 with e | ⟨e, m⟩
      · exact .inl e
      · refine .inr ⟨e, ?_⟩
        rw [hcl]; exact hlk _ _ m) (fun env he s' x => ⟨he, x⟩)
  refine wpAny_mono (wpAny_toks_of ht base) (fun env' s' x => ?_) fun _ _ e => e.2.elim
  obtain ⟨t1, he, x⟩ := x
  have he' : env' = envX qual scope s.heap.objs.size f cdv (ce.map fun p => (p.1, s.heap.objs.size + p.2.1)) := by rw [he, hcl]; rfl
  subst he'
  clear he
  refine ⟨(W.top.nolimit.keeps H.keep).keeps x.toInCall.keep, codeAny_func ?_⟩
  have hk₁ := x.toInCall.keep
  obtain ⟨hL, hC⟩ := hbind fz vs s.heap.objs.size rs
  obtain ⟨o, ho', hob⟩ := of_ns (fz := fz) (loc := loc) x.toInCall.ns hL.get
  have hcells : ∀ p ∈ ce, ((ce.map fun p => (p.1, s.heap.objs.size + p.2.1)) : List (Str × Addr)).lookup p.1 = some (s.heap.objs.size + p.2.1) := fun p hp =>
    lookup_mem_nodup (l := ce.map fun p => (p.1, s.heap.objs.size + p.2.1)) (by rw [List.map_map]; exact ndc) (List.mem_map.mpr ⟨p, hp, rfl⟩)
  have habove : ∀ p ∈ ce, s.heap.objs.size < s.heap.objs.size + p.2.1 := fun p hp => x.above _ _ (List.mem_map.mpr ⟨p, hp, rfl⟩)
  obtain ⟨h₁, tk, rfl⟩ := x.toInCall.same
  have H₁ : Hold W fz ((s.heap.objs.size, .ns loc) :: cellsOwn s.heap.objs.size ce ++ own) { s with heap := h₁, toks := tk } := by
    refine H.more hk₁ (fun p hp => ?_) (fun p hp => ?_) ?_ (fun p hp => by rcases List.mem_cons.mp hp with rfl | hp; rfl; obtain ⟨q, _, rfl⟩ := List.mem_map.mp hp; rfl)
    · rcases List.mem_cons.mp hp with rfl | hp
      · exact get?_ge (Nat.le_refl _)
      · obtain ⟨q, hq, rfl⟩ := List.mem_map.mp hp
        exact get?_ge (Nat.le_of_lt (habove q hq))
    · rcases List.mem_cons.mp hp with rfl | hp
      · exact ⟨o, ho', hob⟩
      · obtain ⟨q, hq, rfl⟩ := List.mem_map.mp hp
        obtain ⟨oc', e, d⟩ := x.cell _ _ (hcells q hq)
        have g := hC.get q hq
        obtain ⟨qx, qn, qo⟩ := q
        cases qo with
        | none => exact ⟨oc', e, by dsimp only at g d; rw [g] at d; exact d⟩
        | some a =>
          obtain ⟨v, e2, r⟩ := g
          exact ⟨oc', e, v, by dsimp only at e2 d; rw [e2] at d; exact d, r⟩
    · rw [List.map_cons, List.nodup_cons]
      refine ⟨fun hm => ?_, ?_⟩
      · obtain ⟨q, hq, e⟩ := List.mem_map.mp hm
        obtain ⟨q', hq', rfl⟩ := List.mem_map.mp hq
        exact absurd (habove q' hq') (by rw [show s.heap.objs.size + q'.2.1 = s.heap.objs.size from e]; exact Nat.lt_irrefl _)
      · have ap := x.apart
        rw [List.pairwise_map] at ap
        rw [List.map_map, List.Nodup, List.pairwise_map]
        exact ap
  refine wpAny_mono (h s.heap.objs.size fz _ H₁ t1) (fun fl s' x => ?_) fun _ _ x => x.elim
  obtain ⟨fz', b, own', k, H', r, own'', wk, q⟩ := x
  refine ⟨fz', _, own'', k, wk.hold H', ?_, q⟩
  cases r with
  | next => exact .dat .none
  | brk => exact .dat .none
  | cont => exact .dat .none
  | ret r => exact r

/-! ### two clauses -/
theorem CL.wk {e : Expr} {d : Nat} {D : Addr} {cenv : Env} {it : Addr} {l : List V} {o o' : Own} {Q : Own → Prop} (k : Wk o o') (h : CL W A e d D cenv it l o' Q) : CL W A e d D cenv it l o Q :=
  fun fz s H ht => h fz s ((Wk.keep .refl k).hold H) ht

end
section
variable {W : Wd} {A : Around} {env : Env} {own : Own}

/-! ### equal data -/
def Ok (n : Nat) (d : PyData) : Prop := d.canLay0 = true ∧ d.depth ≤ n
theorem Ok.mono {n m : Nat} {d : PyData} (h : Ok n d) (k : n ≤ m) : Ok m d := ⟨h.1, Nat.le_trans h.2 k⟩
theorem ok_str {n : Nat} {l : List Nat} (h : ∀ c ∈ l, c < 1114112) : Ok (n + 1) (.str (S l)) := by
  refine ⟨?_, by simp [PyData.depth]⟩
  show PyData.strOk (S l) = true
  unfold PyData.strOk S
  simp only [List.all_toArray, List.all_eq_true]
  intro c hc; simpa using h c hc
theorem okAll {n : Nat} : ∀ {l : List PyData}, (∀ d ∈ l, Ok n d) → PyData.canLayAll0 l = true ∧ PyData.depthAll l ≤ n
  | [], _ => ⟨rfl, by simp [PyData.depthAll]⟩
  | d :: l, h => by
    obtain ⟨h1, h2⟩ := okAll (l := l) fun e he => h e (List.mem_cons_of_mem _ he)
    obtain ⟨k1, k2⟩ := h d List.mem_cons_self
    refine ⟨by simp [PyData.canLayAll0, h1, k1], ?_⟩
    simp only [PyData.depthAll]; omega
theorem ok_list {n : Nat} {l : List PyData} (h : ∀ d ∈ l, Ok n d) : Ok (n + 1) (.list l) := by
  obtain ⟨h1, h2⟩ := okAll h
  exact ⟨by simpa [PyData.canLay0] using h1, by simp only [PyData.depth]; omega⟩
theorem ok_tuple {n : Nat} {l : List PyData} (h : ∀ d ∈ l, Ok n d) : Ok (n + 1) (.tuple l) := by
  obtain ⟨h1, h2⟩ := okAll h
  exact ⟨by simpa [PyData.canLay0] using h1, by simp only [PyData.depth]; omega⟩

theorem cmp_eqR {a b : PyData} {Q : V → Own → Prop} (e : a = b) (ok : Ok 60 a) (hu : A.units + 60 < cLine) (h : Q (.bool true) own) : S2 W A RV (compareOp .Eq) (.dat a) (.dat b) own Q := fun fz s v u H _ r1 r2 => by
  subst e
  cases r1 with | dat r1 => cases r2 with | dat r2 =>
  refine SeqAt.compareEq_reads (Reads.keeps H.has r1) (Reads.keeps H.has r2) ok.1 ok.1 (by have := ok.2; omega) ?_
  rw [SeqAt.eqv_refl a ok.1]
  exact at_tok H _ (.dat (.bool _)) h
/-! ### a list of one's own becomes data where it is named -/
inductive VF (D : Addr) (d : PyData) : V → V → Prop
  | at_ : VF D d (.ref D) (.dat d)
  | same {v : V} : VF D d v v
inductive NF (D : Addr) (d : PyData) : List (Str × V) → List (Str × V) → Prop
  | nil : NF D d [] []
  | cons {x : Str} {v v' : V} {l l' : List (Str × V)} : VF D d v v' → NF D d l l' → NF D d ((x, v) :: l) ((x, v') :: l')
inductive LF (D : Addr) (d : PyData) : List V → List V → Prop
  | nil : LF D d [] []
  | cons {v v' : V} {l l' : List V} : VF D d v v' → LF D d l l' → LF D d (v :: l) (v' :: l')
  | refl {l : List V} : LF D d l l
inductive OF (D : Addr) (d : PyData) : Own → Own → Prop
  | refl {l : Own} : OF D d l l
  | ns {a : Addr} {loc loc' : List (Str × V)} {l l' : Own} : NF D d loc loc' → OF D d l l' → OF D d ((a, .ns loc) :: l) ((a, .ns loc') :: l')
  | cell {a : Addr} {v v' : V} {l l' : Own} : VF D d v v' → OF D d l l' → OF D d ((a, .cell (some v)) :: l) ((a, .cell (some v')) :: l')
  | list {a : Addr} {loc loc' : List V} {l l' : Own} : LF D d loc loc' → OF D d l l' → OF D d ((a, .list loc) :: l) ((a, .list loc') :: l')
  | same {p : Addr × Ob} {l l' : Own} : OF D d l l' → OF D d (p :: l) (p :: l')
theorem VF.rv {D : Addr} {d : PyData} {fz : Heap} (hD : RV fz (.dat d) (.ref D)) {a a' : V} (x : VF D d a a') {v : Value} (r : RV fz a v) : RV fz a' v := by
  cases x with
  | at_ => rw [r.val_inv]; exact hD
  | same => exact r
theorem LF.rv {D : Addr} {d : PyData} {fz : Heap} (hD : RV fz (.dat d) (.ref D)) {l l' : List V} (x : LF D d l l') : ∀ {vs : List Value}, RVs fz l vs → RVs fz l' vs := by
  induction x with
  | nil => intro vs r; exact r
  | refl => intro vs r; exact r
  | cons h _ ih => intro vs r; cases r with | cons r1 r2 => exact .cons (h.rv hD r1) (ih r2)
theorem NF.is {D : Addr} {d : PyData} {fz : Heap} (hD : RV fz (.dat d) (.ref D)) {l l' : List (Str × V)} (x : NF D d l l') {es : Array DictEntry} (h : ∀ p ∈ l, ∃ v, nsFind es p.1 = some v ∧ RV fz p.2 v) :
    ∀ p ∈ l', ∃ v, nsFind es p.1 = some v ∧ RV fz p.2 v := by
  induction x with
  | nil => exact h
  | cons hv _ ih =>
    intro p hp
    rcases List.mem_cons.mp hp with rfl | hp
    · obtain ⟨v, e, r⟩ := h _ List.mem_cons_self; exact ⟨v, e, hv.rv hD r⟩
    · exact ih (fun q hq => h q (List.mem_cons_of_mem _ hq)) p hp
theorem OF.is {D : Addr} {d : PyData} {fz : Heap} (hD : RV fz (.dat d) (.ref D)) {l l' : Own} (x : OF D d l l') : (l'.map (·.1) = l.map (·.1)) ∧ ∀ p' ∈ l', ∃ p ∈ l, p.1 = p'.1 ∧ ∀ o, ObIs fz p.2 o → ObIs fz p'.2 o := by
  induction x with
  | refl => exact ⟨rfl, fun p hp => ⟨p, hp, rfl, fun _ h => h⟩⟩
  | ns h _ ih =>
    refine ⟨by simp [ih.1], fun p hp => ?_⟩
    rcases List.mem_cons.mp hp with rfl | hp
    · exact ⟨_, List.mem_cons_self, rfl, fun o ⟨es, ep, h1, h2, h3⟩ => ⟨es, ep, h1, h2, h.is hD h3⟩⟩
    · obtain ⟨q, hq, r⟩ := ih.2 p hp; exact ⟨q, List.mem_cons_of_mem _ hq, r⟩
  | cell h _ ih =>
    refine ⟨by simp [ih.1], fun p hp => ?_⟩
    rcases List.mem_cons.mp hp with rfl | hp
    · exact ⟨_, List.mem_cons_self, rfl, fun o ⟨v, e, r⟩ => ⟨v, e, h.rv hD r⟩⟩
    · obtain ⟨q, hq, r⟩ := ih.2 p hp; exact ⟨q, List.mem_cons_of_mem _ hq, r⟩
  | list h _ ih =>
    refine ⟨by simp [ih.1], fun p hp => ?_⟩
    rcases List.mem_cons.mp hp with rfl | hp
    · exact ⟨_, List.mem_cons_self, rfl, fun o ⟨vs, n, e, r⟩ => ⟨vs, n, e, h.rv hD r⟩⟩
    · obtain ⟨q, hq, r⟩ := ih.2 p hp; exact ⟨q, List.mem_cons_of_mem _ hq, r⟩
  | same _ ih =>
    refine ⟨by simp [ih.1], fun p hp => ?_⟩
    rcases List.mem_cons.mp hp with rfl | hp
    · exact ⟨_, List.mem_cons_self, rfl, fun _ h => h⟩
    · obtain ⟨q, hq, r⟩ := ih.2 p hp; exact ⟨q, List.mem_cons_of_mem _ hq, r⟩
theorem OF.gens {D : Addr} {d : PyData} {l l' : Own} (x : OF D d l l') {gs : Array GenState} (G : GensIs l gs) : GensIs l' gs := by
  have key : (l'.filterMap fun p => p.2.genOf) = (l.filterMap fun p => p.2.genOf) ∧ ∀ p ∈ l', ∀ g P, p.2 = .gen g P → p ∈ l := by
    clear G
    induction x with
    | refl => exact ⟨rfl, fun p hp _ _ _ => hp⟩
    | ns _ _ ih =>
      refine ⟨by simpa [List.filterMap_cons, Ob.genOf] using ih.1, fun p hp g P e => ?_⟩
      rcases List.mem_cons.mp hp with rfl | hp
      · cases e
      · exact List.mem_cons_of_mem _ (ih.2 p hp g P e)
    | cell _ _ ih =>
      refine ⟨by simpa [List.filterMap_cons, Ob.genOf] using ih.1, fun p hp g P e => ?_⟩
      rcases List.mem_cons.mp hp with rfl | hp
      · cases e
      · exact List.mem_cons_of_mem _ (ih.2 p hp g P e)
    | list _ _ ih =>
      refine ⟨by simpa [List.filterMap_cons, Ob.genOf] using ih.1, fun p hp g P e => ?_⟩
      rcases List.mem_cons.mp hp with rfl | hp
      · cases e
      · exact List.mem_cons_of_mem _ (ih.2 p hp g P e)
    | same _ ih =>
      refine ⟨by rw [List.filterMap_cons, List.filterMap_cons, ih.1], fun p hp g P e => ?_⟩
      rcases List.mem_cons.mp hp with rfl | hp
      · exact List.mem_cons_self
      · exact List.mem_cons_of_mem _ (ih.2 p hp g P e)
  exact ⟨G.bare, fun p hp g P e => G.st p (key.2 p hp g P e) g P e, by rw [key.1]; exact G.nd⟩
theorem SG_frz {α β : Type} {R : Heap → β → α → Prop} {t : Sem α} {own₁ own' : Own} {Q : β → Own → Prop} {D : Addr} {ys : List V} {ds : List PyData} (tk : Take D (.list ys) own own₁) (ad : AllDat ys ds) (x : OF D (.list ds) own₁ own')
    (h : SG W A R t own' Q) : SG W A R t own Q := fun fz s H ht => by
  obtain ⟨fz', k, H', r⟩ := (H.perm tk.perm).freezeList ad
  obtain ⟨k1, k2⟩ := x.is r
  refine (h fz' s ⟨H'.base, H'.has, fun p hp => ?_, fun p hp => ?_, by rw [k1]; exact H'.nd, x.gens H'.gens, H'.os⟩ ht).weak k
  · obtain ⟨q, hq, e, f⟩ := k2 p hp
    obtain ⟨o, ho, i⟩ := H'.obs q hq
    exact ⟨o, e ▸ ho, f o i⟩
  · obtain ⟨q, hq, e, f⟩ := k2 p hp
    exact e ▸ H'.out q hq

theorem bits_small {n : Int} (h : n.natAbs < 2 ^ 60) : Builtin.Int.intBits n ≤ 64 := by
  unfold Builtin.Int.intBits
  split
  · omega
  · rename_i hx
    have hx' : n.natAbs ≠ 0 := by simpa using hx
    have := (Nat.log2_lt hx').mpr h
    omega

theorem deeper_gen {body : List Stmt} {e : Env} {Q : Fl → Own → Prop} (hh : A.handled = none) (h : ∀ A' : Around, A'.handled = none → A'.depth = A.depth + 1 → A'.units = A.units + 3 → SXs W A' env body own Q) : SXs W (A.deeper e) env body own Q :=
  h _ hh rfl rfl
end
section
variable {W : Wd} {A : Around} {env : Env} {own : Own}

/-! ### small calls -/
/-! ### texts made of texts -/
/-! ### lists that grow -/
/-! ### replaced signs -/
def repl (c : Nat) (z l : List Nat) : List Nat := l.flatMap fun d => if d = c then z else [d]
theorem repl_free {c : Nat} {z : List Nat} : ∀ {l : List Nat}, c ∉ l → repl c z l = l
  | [], _ => rfl
  | d :: l, h => by
    have h1 : ¬ d = c := fun e => h (e ▸ List.mem_cons_self)
    have ih := repl_free (z := z) (l := l) fun m => h (List.mem_cons_of_mem _ m)
    unfold repl at ih ⊢
    rw [List.flatMap_cons, if_neg h1, ih]; rfl
theorem repl_join (c : Nat) (z : List Nat) : ∀ parts : List Str, (∀ p ∈ parts, c ∉ p.cps.toList) → repl c z (Str.join ⟨#[c]⟩ parts).cps.toList = (Str.join (S z) parts).cps.toList
  | [], _ => rfl
  | [p], h => repl_free (h p (List.mem_singleton.mpr rfl))
  | p :: q :: r, h => by
    have ih := repl_join c z (q :: r) fun a ha => h a (List.mem_cons_of_mem _ ha)
    show repl c z (p ++ ⟨#[c]⟩ ++ Str.join ⟨#[c]⟩ (q :: r)).cps.toList = (p ++ S z ++ Str.join (S z) (q :: r)).cps.toList
    simp only [Str.cps_append, Array.toList_append]
    have e1 := repl_free (z := z) (h p List.mem_cons_self)
    unfold repl at e1 ih ⊢
    rw [List.flatMap_append, List.flatMap_append, ih, e1]
    simp [S]
theorem replace_S (l z : List Nat) (c : Nat) : Txt.replace (S l) (S [c]) (S z) = S (repl c z l) := by
  have e : (S [c] : Str) = ⟨#[c]⟩ := rfl
  rw [e, StrLaws.replace_one]
  have h2 := repl_join c z _ (StrLaws.split_free (S l) c)
  rw [StrLaws.join_split] at h2
  have h3 : (S l).cps.toList = l := by simp [S]
  rw [h3] at h2
  rw [h2]
  simp [S]
/-- two texts written out: their tokens stand apart -/
theorem SEs_two {pos : Pos} {y z : Str} {k k' : Nat} {p p' : Pos} {Q : List V → Own → Prop} (h : ∀ t, W.tk ≤ t → Q [.val (.str y t), .val (.str z (t + 1))] own) : SEs W A env pos [.Constant (.str y) k p, .Constant (.str z) k' p'] own Q := fun fz s H ht => by
  show wpAny _ _ (spliced ((false, eval (.Constant (.str y) k p) env) :: (false, eval (.Constant (.str z) k' p') env) :: [])) _ _ _
  refine Calls.spliced_cons (wpAny_Constant_str ?_)
  refine Calls.spliced_cons (wpAny_Constant_str ?_)
  refine Calls.spliced_nil ?_
  exact ⟨fz, _, own, .refl _, (H.toks _).toks _, .cons (.val _) (.cons (.val _) .nil), h _ ht⟩
theorem call_replace {l y z : List Nat} {c : Nat} {u v : Tok} {Q : V → Own → Prop} (hu : u ≠ 0) (hv : v ≠ 0) (huv : u ≠ v) (hyz : ([c] == z) = false) (hx : l.length ≤ 100000) (hz : z.length ≤ 14) (h : Q (.str (S (repl c z l))) own) :
    SL W A RV (fun vs => call (.builtin "str.replace") vs) [.str (S l), .val (.str (S [c]) u), .val (.str (S z) v)] own Q := fun fz s vs H ht r => by
  cases r with | cons r1 r => cases r with | cons r2 r => cases r with | cons r3 r =>
  cases r
  obtain ⟨t, rfl⟩ := r1.str_inv
  cases r2.val_inv
  cases r3.val_inv
  refine SC.replaceW hu hv huv ?_ (by rw [S_len]; omega) (by rw [S_len]; exact hz) fun t' k => ?_
  · have : ([c] : List Nat) ≠ z := by simpa using hyz
    have h2 : S [c] ≠ S z := fun e => this (S_inj.mp e)
    simpa using h2
  · rw [replace_S]; exact at_tok H _ (.dat (.str _ _)) h
theorem SE_Replace {o : Expr} {apos pos p p' : Pos} {k k' : Nat} {y z : Str} {c : Nat} {zl : List Nat} {pl : Sem Bool} {Q : V → Own → Prop} (h1 : 1 ≤ W.tk) (hy : lit y = [c]) (hz : lit z = zl) (hyz : ([c] == zl) = false) (hzl : zl.length ≤ 14)
    (h : SE W A env o own fun a o1 => ∃ l, a = .str (S l) ∧ l.length ≤ 100000 ∧ Q (.str (S (repl c zl l))) o1)
    (he : eval (.Call (.Attribute o (Str.ofString "replace") apos) [.Constant (.str y) k p, .Constant (.str z) k' p'] [] pos) env = (do
      let ov ← eval o env
      standAt apos.atName
      let (f, first) ← holding [ov] (getMethod ov (Str.ofString "replace") pl)
      callWith pos f first (backTo pos (starEach [.Constant (.str y) k p, .Constant (.str z) k' p'] env)) []) := by rfl) : SE W A env (.Call (.Attribute o (Str.ofString "replace") apos) [.Constant (.str y) k p, .Constant (.str z) k' p'] [] pos) own Q := by
  refine SE_Meth (pl := pl) (SG.mono h fun a o1 hx => ?_) he
  obtain ⟨l, rfl, hl, q⟩ := hx
  refine mth_str (id := "str.replace") (fun t s P h => GM.replace h) ?_
  refine SEs_two fun t ht => ⟨kp_builtin, ?_⟩
  have ey : y = S [c] := by rw [← hy, S_lit]
  have ez : z = S zl := by rw [← hz, S_lit]
  subst ey ez
  exact call_replace (y := []) (by have : 1 ≤ t := Nat.le_trans h1 ht; exact fun e => by subst e; exact absurd this (by decide)) (Nat.succ_ne_zero _) (Nat.ne_of_lt (Nat.lt_succ_self t)) hyz hl hzl q

/-! ### the end struck off -/
def rstripL (p : Nat → Bool) (l : List Nat) : List Nat := l.take (l.length - (l.reverse.takeWhile p).length)
theorem rstrip_S (p : Nat → Bool) (l : List Nat) : Txt.stripBy p false true (S l) = S (rstripL p l) := by
  have e1 : stripLo p false (S l) = 0 := rfl
  have e2 : stripHi p true (S l) 0 = l.length - (l.reverse.takeWhile p).length := by unfold stripHi; simp [S, Str.length]
  unfold Txt.stripBy stripSame PySem.stripped
  rw [e1, e2]
  split
  · rename_i h
    simp only [beq_self_eq_true, Bool.true_and, beq_iff_eq, S_len] at h
    unfold rstripL
    rw [h, List.take_length]
  · unfold Builtin.Str.strSub rstripL S; simp
end
section
variable {W : Wd} {A : Around} {env : Env} {own : Own}

/-! ### formats -/
end
section
variable {W : Wd} {A : Around} {env : Env} {own : Own}

/-! ### raised and caught in one frame -/
def FrO (own : Own) : List Env → Prop
  | [] => True
  | e :: l => e.scope.kind ≠ .module ∧ (∃ L loc, e.frame = some L ∧ (L, Ob.ns loc) ∈ own) ∧ FrO own l
theorem FrO.mem {l : List Env} (h : FrO own l) {b : Addr} (hb : b ∈ l.filterMap (·.frame)) : ∃ loc, (b, Ob.ns loc) ∈ own := by
  induction l with
  | nil => simp at hb
  | cons e r ih =>
    obtain ⟨_, ⟨L, loc, hf, hm⟩, hr⟩ := h
    rw [List.filterMap_cons, hf] at hb
    rcases List.mem_cons.mp hb with e | hb
    · subst e; exact ⟨loc, hm⟩
    · exact ih hr hb
theorem Hold.slots {fz : Heap} {s : Shared} (H : Hold W fz own s) {h' : Heap} {S : List Addr} (hs : Heap.SlotsOnly S s.heap h') (hS : ∀ b ∈ S, ∃ loc, (b, Ob.ns loc) ∈ own) : Hold W fz own { s with heap := h' } where
  base := H.base
  has := fun b o e => by
    have : b ∉ S := fun hb => by obtain ⟨loc, hm⟩ := hS b hb; have := H.out _ hm; rw [this] at e; cases e
    rw [hs.2.1 b this]; exact H.has b o e
  obs := fun p hp => by
    obtain ⟨o, ho, hob⟩ := H.obs p hp
    by_cases hb : p.1 ∈ S
    · obtain ⟨loc, hm⟩ := hS _ hb
      obtain ⟨sl, e⟩ := hs.2.2 _ _ ho
      have := mem_unique H.nd hp hm rfl
      rw [this] at hob ⊢
      exact ⟨_, e, hob⟩
    · exact ⟨o, by rw [hs.2.1 _ hb]; exact ho, hob⟩
  out := H.out
  nd := H.nd
  gens := H.gens
  os := H.os
/-! ### calls whose parameters have drawn tokens -/
abbrev Wd.up (W : Wd) : Wd := { W with tk := 1 }
theorem hold_up {fz : Heap} {s : Shared} (H : Hold W fz own s) : Hold W.up fz own s := ⟨H.base, H.has, H.obs, H.out, H.nd, H.gens, H.os⟩
theorem hold_dn {fz : Heap} {s : Shared} (H : Hold W.up fz own s) : Hold W fz own s := ⟨H.base, H.has, H.obs, H.out, H.nd, H.gens, H.os⟩
/-! ### texts with fields -/
end
section
variable {W : Wd} {A : Around} {env : Env} {own : Own}
/-! ### a block in two parts -/
end
section
variable {W : Wd} {A : Around} {env : Env} {own : Own}
/-! ### a def within a def -/
/-- a code object's table: empty, or the one code made so far -/
def TabP (pos : Pos) (qual : Str) : Heap → Obj → Prop := fun fz o => o = tabObj #[] ∨ ∃ c', o = tabObj #[rawInt pos.line, rawInt pos.col, .ref c'] ∧ fz.CodeRec (.ref c') qual
/-- a made function -/
def FnP (name qual : Str) (params : Arguments) (body : List Stmt) (scope : Scope) (clos : List (Str × Addr)) : Heap → Obj → Prop := fun fz o =>
  ∃ doc pm c' ctv, o = fnMade name qual params body scope clos doc pm c' ctv ∧ fz.CodeRec (.ref c') qual
theorem Hold.prop {fz : Heap} {s : Shared} (H : Hold W fz own s) {a : Addr} {P : Heap → Obj → Prop} (hm : (a, Ob.prop P) ∈ own) : ∃ o fz₀, s.heap.get? a = some o ∧ Keep fz₀ fz ∧ P fz₀ o :=
  let ⟨o, e, fz₀, k, p⟩ := H.get hm; ⟨o, fz₀, e, k, p⟩
theorem kp_fn {f : Addr} {name qual : Str} {params : Arguments} {body : List Stmt} {scope : Scope} {clos : List (Str × Addr)} (hm : (f, Ob.prop (FnP name qual params body scope clos)) ∈ own) : KpO W own (.ref f) := fun fz s H => by
  obtain ⟨o, fz₀, ho, k, doc, pm, c', ctv, rfl, _⟩ := H.prop hm
  exact ⟨.frame, .inl rfl, (Looks.ld (part := none) ho).andThen .now⟩

/-- what a step that made a code has left -/
theorem Hold.made {fz : Heap} {s : Shared} {own' : Own} {P c' : Addr} {ob ob' : Ob} {h' : Heap} {oP oc : Obj} {k : Nat} (H : Hold W fz own s) (u : Upd P ob ob' own own') (hx : Heap.ExtBut P s.heap h') (hge : s.heap.objs.size ≤ c')
    (hoc : h'.get? c' = some oc) (hf : oc.isFreed = false) (hP : h'.get? P = some oP) (hob : ObIs (putH fz c' oc) ob' oP) (hg : ob'.genOf = none) :
    Keep fz (putH fz c' oc) ∧ Hold W (putH fz c' oc) own' { s with heap := h', toks := k } := by
  have hn : fz.get? c' = none := base_le H.has hge
  have kk := putH_keep (o := oc) hf hn
  refine ⟨kk, ⟨H.base.trans kk, fun b o e => ?_, fun p hp => ?_, fun p hp => ?_, by rw [u.keys]; exact H.nd, H.gens.upd u hg, H.os⟩⟩
  · rw [putH_get hf] at e
    by_cases hb : b = c'
    · subst hb; rw [if_pos rfl] at e; cases e; exact hoc
    · rw [if_neg hb] at e
      exact hx b o (fun q => by have := H.out _ u.mem; rw [q] at e; exact absurd e (by rw [this]; exact fun x => nomatch x)) (H.has b o e)
  · rcases u.other' H.nd p hp with rfl | ⟨h, hne⟩
    · exact ⟨oP, hP, hob⟩
    · obtain ⟨o', e, r⟩ := H.obs p h
      exact ⟨o', hx _ _ hne e, r.mono kk⟩
  · have hlt : p.1 < s.heap.objs.size := by
      rcases u.other' H.nd p hp with rfl | ⟨h, _⟩
      · exact H.lt (p := (P, ob)) u.mem
      · exact H.lt h
    rw [putH_get hf, if_neg (Nat.ne_of_lt (Nat.lt_of_lt_of_le hlt hge))]
    rcases u.other' H.nd p hp with rfl | ⟨h, _⟩
    · exact H.out (P, ob) u.mem
    · exact H.out _ h

theorem notFreed {h : Heap} {a : Addr} {o : Obj} (ho : h.get? a = some o) : o.isFreed = false := by
  have e := ho
  rw [get?_of_objs] at e
  obtain ⟨c, d, dt, sl⟩ := o
  cases dt <;> first | rfl | (exfalso; revert e; cases hq : h.objs[a]? with
    | none => intro e; cases e
    | some x => obtain ⟨c', d', dt', sl'⟩ := x; cases dt' <;> intro e <;> cases e)

theorem make_fn {name qual : Str} {params : Arguments} {body : List Stmt} {scope : Scope} {clos : List (Str × Addr)} {c P : Addr} {pos : Pos} {firstLine : Nat} {own' : Own} {Q : V → Own → Prop}
    (hcl : closureFor scope env = pure clos) (hg : env.globals = mainGlobals) (hcode : env.code = .ref c) (hC : codeHdIn W.K c P = true) (u : Upd P (.prop (TabP pos qual)) (.prop (TabP pos qual)) own own')
    (h : ∀ f, Q (.ref f) ((f, .prop (FnP name qual params body scope clos)) :: own')) :
    SG W A RV (makeFunction name qual params (.stmts body) scope env [] [] [] pos firstLine) own Q := fun fz s H ht => by
  obtain ⟨oP, fz₀, hP, k₀, hp⟩ := H.prop u.mem
  have hgs := W.top.g.keeps H.keep
  obtain ⟨bm, ob, b1, b2, b3, b4, b5, b6⟩ := W.bm
  have b3' := H.keep _ _ b3
  have hcls : oP.cls = .none := by rcases hp with rfl | ⟨c', rfl, _⟩ <;> rfl
  have hdt : ∃ vs, oP.data = .fields vs := by rcases hp with rfl | ⟨c', rfl, _⟩ <;> exact ⟨_, rfl⟩
  have hgP : mainGlobals ≠ P := fun q => by
    obtain ⟨o, es, ep, e, hd, _⟩ := hgs
    obtain ⟨vs, hv⟩ := hdt
    rw [q, hP] at e; cases e; rw [hd] at hv; cases hv
  have hbP : bm ≠ P := fun q => by
    rw [q, hP] at b3'; cases b3'; rw [hcls] at b4; cases b4
  have hbG : bm ≠ mainGlobals := fun q => by
    obtain ⟨o, es, ep, e, hd, _⟩ := hgs
    rw [q, e] at b3'; cases b3'; rw [hd] at b6; cases b6
  have C := codeHd_of_K H.kin hC
  rcases hp with rfl | ⟨c', rfl, hrec⟩
  · refine makeFunction_K (mg := W.mg) hcl hg hgs hcode C hP trivial rfl hgP ⟨bm, ob, b1, b2, hbG, hbP, b3', b4, b5, b6⟩ fun c' ctv doc h' tk hx hge hlt hrec htb => ?_
    have hrec' := hrec
    obtain ⟨c₂, oc, vs, t, e2, hoc, hd, hv⟩ := hrec
    cases e2
    have hcr : (putH fz c' oc).CodeRec (.ref c') qual := ⟨c', oc, vs, t, rfl, putH_at (notFreed hoc), hd, hv⟩
    obtain ⟨kk, H'⟩ := H.made (k := tk) u hx hge hoc (notFreed hoc) htb ⟨_, Keep.refl _, .inr ⟨c', rfl, hcr⟩⟩ rfl
    refine ⟨_, _, _, kk, H'.new (ob := .prop (FnP name qual params body scope clos)) (k := tk) (Keep.push _ _) (get?_ge (Nat.le_refl _)) (Heap.get?_push_size _ rfl) ?_, .val _, h _⟩
    exact ⟨_, Keep.refl _, doc, _, c', ctv, rfl, hcr⟩
  · have hrec2 := hrec.keeps k₀
    refine makeFunction_hit (mg := W.mg) (cv := .ref c') hcl hg hgs hcode C hP trivial (by simp [codeAmong, rawInt]) ⟨bm, ob, b1, b2, hbG, hbP, b3', b4, b5, b6⟩ fun ctv doc h' tk hk hsz => ?_
    have H' : Hold W fz own' { s with heap := h', toks := tk } := by
      have H1 := H.grow (k := tk) hk
      refine ⟨H1.base, H1.has, fun p hp => ?_, fun p hp => ?_, by rw [u.keys]; exact H1.nd, H1.gens.upd u rfl, H1.os⟩
      · rcases u.other p hp with rfl | hp
        · exact ⟨_, hk _ _ hP, fz, Keep.refl _, .inr ⟨c', rfl, hrec2⟩⟩
        · exact H1.obs p hp
      · rcases u.other p hp with rfl | hp
        · exact H1.out _ u.mem
        · exact H1.out p hp
    refine ⟨fz, _, _, Keep.refl _, H'.new (ob := .prop (FnP name qual params body scope clos)) (k := tk) (Keep.push _ _) (get?_ge (Nat.le_refl _)) (Heap.get?_push_size _ rfl) ?_, .val _, h _⟩
    exact ⟨fz, Keep.refl _, doc, _, c', ctv, rfl, hrec2⟩

theorem Upd.self {a : Addr} {ob : Ob} : ∀ {l : Own}, (a, ob) ∈ l → Upd a ob ob l l
  | p :: l, h => by
    by_cases e : p = (a, ob)
    · subst e; exact .here
    · exact .there (Upd.self (by rcases List.mem_cons.mp h with h | h; exact absurd h.symm e; exact h))
theorem SX_Def {name qual : Str} {params : Arguments} {body : List Stmt} {scope : Scope} {pos : Pos} {Q : Fl → Own → Prop}
    (hq : qualnameIn env name name = qual) (h : SG W A RV (makeFunction name qual params (.stmts body) scope env [] [] [] pos pos.line) own fun a o1 => SS W A env name a o1 fun o2 => Q .next o2)
    (hd0 : params.defaults = [] := by rfl) (hk0 : params.kw_defaults = [] := by rfl) (ha : annTrees params none env = [] := by rfl) : SX W A env (.FunctionDef name params body [] none [] scope none name pos) own Q := fun fz s H ht => by
  subst hq
  refine nestDef_K hd0 hk0 ha (wp_then (h fz s H ht) ht fun fz1 va a o1 s1 k1 H1 t1 r1 q1 => wp_then (q1 fz1 s1 va H1 t1 r1) t1 fun fz2 _ _ o2 s2 k2 H2 t2 _ q2 => ?_)
  exact ⟨fz2, _, o2, k1.trans k2, H2, .next, q2⟩

/-- a call of a made function -/
theorem do_callN {f : Addr} {args : List V} {Q : V → Own → Prop} {name qual : Str} {params : Arguments} {body : List Stmt} {scope : Scope} {clos : List (Str × Addr)}
    (names : List Str) (hne : 1 ≤ names.length) (hna : 1 ≤ args.length) (hm : (f, Ob.prop (FnP name qual params body scope clos)) ∈ own) (hroom : A.depth < recursionLimit)
    (hb : ∀ s vs doc pm c' ctv, vs.length = args.length → BindsTo s (fnX name qual params body scope clos .none .none doc pm none (.ref c') ctv) ⟨vs, []⟩ (names.zip vs))
    (hloc : ∀ y ∈ names, scope.names.lookup y = some .local) (nd : names.Nodup)
    (h : ∀ L cdv, SXs W.up (A.deeper (envX qual scope L f cdv clos)) (envX qual scope L f cdv clos) body ((L, .ns (names.zip args)) :: own) (retTo Q))
    (hco : scope.isCoroutine = false) (hgen : scope.isGenerator = false) (hk : scope.kind = .function)
    (hcell : ∀ x ∈ scope.names, x.2 ≠ .cell) : SLC W A (.ref f) args own Q := fun fz s vs H ht rs => by
  have ndz : ((names.zip vs).map (·.1)).Nodup := nd.sublist zip_fst
  obtain ⟨o, fz₀, ho, k₀, doc, pm, c', ctv, rfl, hrec⟩ := H.prop hm
  refine (codeAny_call_def (fd := fnX name qual params body scope clos .none .none doc pm none (.ref c') ctv) (body := body) (binds := names.zip vs) hroom ho rfl (W.top.nolimit.keeps H.keep) (hrec.keeps (k₀.trans H.has)) rfl
    (hb s vs doc pm c' ctv rs.length.symm) hcell (fun x hx => hloc _ (List.of_mem_zip (show (x.1, x.2) ∈ names.zip vs from hx)).1) (fun h₁ hns hk₁ => ?_) hco hgen hk)
  obtain ⟨o, ho', hob⟩ := of_ns (fz := fz) (loc := names.zip args) hns (fun p hp => by
    obtain ⟨v, e, r⟩ := zip_lookup rs nd p hp
    exact ⟨v, by rw [lookup_reverse ndz]; exact e, r⟩)
  have H₁ : Hold W fz ((s.heap.objs.size, .ns (names.zip args)) :: own) { s with heap := h₁, toks := s.toks + (names.zip vs).length } := H.new hk₁ (get?_ge (Nat.le_refl _)) ho' hob
  have h1 : 1 ≤ s.toks + (names.zip vs).length := by rw [List.length_zip, ← rs.length]; omega
  refine wpAny_mono (h s.heap.objs.size _ fz _ (hold_up H₁) h1) (fun fl s' x => ?_) fun _ _ x => x.elim
  obtain ⟨fz', b, own', k, H', r, own'', wk, q⟩ := x
  refine ⟨fz', _, own'', k, hold_dn (wk.hold H'), ?_, q⟩
  cases r with
  | next => exact .dat .none
  | brk => exact .dat .none
  | cont => exact .dat .none
  | ret r => exact r
end
section
variable {W : Wd} {A : Around} {env : Env} {own : Own}
/-! ### tabs to blanks -/
def expandL (n : Nat) : Nat → List Nat → List Nat
  | _, [] => []
  | col, c :: l => if c = 9 then List.replicate (if 0 < n then n - col % n else 0) 32 ++ expandL n (col + (if 0 < n then n - col % n else 0)) l
    else c :: expandL n (if c = 10 ∨ c = 13 then 0 else col + 1) l
theorem slot_expandtabs : Slot "str" "expandtabs" "str.expandtabs" :=
  .of (owner := "str") (n := "expandtabs") (by rw [typeLookup_type, builtinLookup_eq_fast]; kernel_rfl) (by decide +kernel) (by decide +kernel) (by decide +kernel)
    (by first | exact .inl (by decide +kernel) | exact .inr (by decide +kernel)) (by rw [isSubtype_type]; kernel_rfl)
theorem type_expandtabs : typeOf (.builtin "str.expandtabs") = pure (.type "method_descriptor") := by show builtinType _ = _; rw [builtinType_eq_fast]; kernel_rfl
theorem entry_expandtabs : entryFor table "str.expandtabs" = some Builtin.«str.expandtabs» := entryFor_of_tree (by kernel_rfl)
theorem args_expandtabs (a b : Value) : argsOk "str.expandtabs" ⟨[a, b], []⟩ := by
  unfold argsOk; rw [signature?_of (id := "str.expandtabs") (n := ['s', 'b', 'a', 't', 'd', 'n', 'a', 'p', 'x', 'e']) (o := ['r', 't', 's']) (by kernel_rfl) F.owner_str]; kernel_rfl
def expStep (n : Int) (c : Nat) (r : Array Nat × Nat) : Sem (ForInStep (Array Nat × Nat)) :=
  if (c == 9) = true then
    if Builtin.Str.tooLong (r.1.size + if n > 0 then n.toNat - r.2 % n.toNat else 0) = true then do
      unsupported "str.expandtabs:memory"
      pure (ForInStep.yield (r.1 ++ Array.replicate (if n > 0 then n.toNat - r.2 % n.toNat else 0) 32, r.2 + if n > 0 then n.toNat - r.2 % n.toNat else 0))
    else pure (ForInStep.yield (r.1 ++ Array.replicate (if n > 0 then n.toNat - r.2 % n.toNat else 0) 32, r.2 + if n > 0 then n.toNat - r.2 % n.toNat else 0))
  else pure (ForInStep.yield (r.1.push c, if (c == 10 || c == 13) = true then 0 else r.2 + 1))
theorem exp_loop (n : Int) : ∀ (l : List Nat) (out : Array Nat) (col : Nat), out.size + (expandL n.toNat col l).length ≤ sizeLine → ∃ e, forIn l (out, col) (expStep n) = pure (out ++ (expandL n.toNat col l).toArray, e)
  | [], out, col, _ => ⟨col, by simp [expandL]⟩
  | c :: l, out, col, hz => by
    rw [List.forIn_cons]
    rw [expandL] at hz ⊢
    have hn : (if n > 0 then n.toNat - col % n.toNat else 0) = (if 0 < n.toNat then n.toNat - col % n.toNat else 0) := by
      by_cases h : n > 0
      · rw [if_pos h, if_pos (by omega)]
      · rw [if_neg h, if_neg (by omega)]
    by_cases h9 : c = 9
    · rw [if_pos h9] at hz ⊢
      simp only [List.length_append, List.length_replicate] at hz
      have e1 : expStep n c (out, col) = pure (ForInStep.yield (out ++ Array.replicate (if 0 < n.toNat then n.toNat - col % n.toNat else 0) 32, col + if 0 < n.toNat then n.toNat - col % n.toNat else 0)) := by
        unfold expStep
        rw [if_pos (by simp [h9])]
        simp only [hn]
        rw [if_neg]
        unfold Builtin.Str.tooLong
        simp only [decide_eq_true_eq, Nat.not_lt]
        omega
      rw [e1, pure_bind]
      obtain ⟨e, he⟩ := exp_loop n l (out ++ Array.replicate (if 0 < n.toNat then n.toNat - col % n.toNat else 0) 32) (col + if 0 < n.toNat then n.toNat - col % n.toNat else 0) (by simp only [Array.size_append, Array.size_replicate]; omega)
      refine ⟨e, he.trans ?_⟩
      congr 2
      rw [Array.append_assoc]
      congr 1
      rw [← List.toArray_replicate, List.append_toArray]
    · rw [if_neg h9] at hz ⊢
      have e1 : expStep n c (out, col) = pure (ForInStep.yield (out.push c, if c = 10 ∨ c = 13 then 0 else col + 1)) := by
        unfold expStep
        rw [if_neg (by simp [h9])]
        congr 3
        simp
      rw [e1, pure_bind]
      obtain ⟨e, he⟩ := exp_loop n l (out.push c) (if c = 10 ∨ c = 13 then 0 else col + 1) (by simp only [Array.size_push]; simp only [List.length_cons] at hz; omega)
      refine ⟨e, he.trans ?_⟩
      congr 2
      simp
theorem expand_eq (x : Str) (n : Int) (t u : Tok) (h1 : -(2 ^ 31 : Int) ≤ n) (h2 : n < 2 ^ 31) (h9 : x.cps.contains 9 = true) (hz : (expandL n.toNat 0 x.cps.toList).length ≤ sizeLine) :
    Builtin.«str.expandtabs» ⟨[.str x t, .int n u], []⟩ = retStr ⟨(expandL n.toNat 0 x.cps.toList).toArray⟩ := by
  have c1 : (decide (n < -(2 ^ 31 : Int)) || decide (n ≥ 2 ^ 31)) = false := by
    rw [Bool.or_eq_false_iff]; exact ⟨decide_eq_false (by omega), decide_eq_false (by omega)⟩
  obtain ⟨e, he⟩ := exp_loop n x.cps.toList #[] 0 (by simpa using hz)
  have hb : Builtin.Str.bindOptional "str.expandtabs" "expandtabs" 0 ["tabsize"] [Value.int n u] [] = pure [some (.int n u)] := by rfl
  have hs : Builtin.Str.strSelf ⟨[.str x t, .int n u], []⟩ = pure (.str x t, x, [.int n u]) := by rfl
  unfold Builtin.«str.expandtabs»
  rw [hs, pure_bind]
  dsimp only
  rw [hb, pure_bind]
  have ea : asIndex (.int n u) = pure n := by rfl
  simp only [ea, pure_bind, c1, Bool.false_eq_true, if_false, h9, Bool.not_true]
  show (forIn x.cps (#[], 0) (expStep n) >>= fun r => retStr ⟨r.1⟩) = _
  rw [← Array.forIn_toList, he, pure_bind]
  simp
theorem expand_same : ∀ (l : List Nat) (n col : Nat), 9 ∉ l → expandL n col l = l
  | [], _, _, _ => rfl
  | c :: l, n, col, h => by
    have hc : c ≠ 9 := fun e => h (by rw [e]; exact List.mem_cons_self)
    rw [expandL, if_neg hc, expand_same l n _ fun h' => h (List.mem_cons_of_mem _ h')]
theorem gives_expand (x : Str) (n : Int) (t u : Tok) (h1 : -(2 ^ 31 : Int) ≤ n) (h2 : n < 2 ^ 31) (hz : (expandL n.toNat 0 x.cps.toList).length ≤ sizeLine) :
    Gives (Builtin.«str.expandtabs» ⟨[.str x t, .int n u], []⟩) (if x.cps.contains 9 = false then .val (.str x t) else .str ⟨(expandL n.toNat 0 x.cps.toList).toArray⟩) := by
  cases h9 : x.cps.contains 9 with
  | true =>
    rw [expand_eq x n t u h1 h2 h9 hz]
    exact .of_eq rfl
  | false =>
    have c1 : (decide (n < -(2 ^ 31 : Int)) || decide (n ≥ 2 ^ 31)) = false := by
      rw [Bool.or_eq_false_iff]; exact ⟨decide_eq_false (by omega), decide_eq_false (by omega)⟩
    have hb : Builtin.Str.bindOptional "str.expandtabs" "expandtabs" 0 ["tabsize"] [Value.int n u] [] = pure [some (.int n u)] := by rfl
    have hs : Builtin.Str.strSelf ⟨[.str x t, .int n u], []⟩ = pure (.str x t, x, [.int n u]) := by rfl
    unfold Builtin.«str.expandtabs»
    rw [hs, pure_bind]
    dsimp only
    rw [hb, pure_bind]
    have ea : asIndex (.int n u) = pure n := by rfl
    simp only [ea, pure_bind, c1, Bool.false_eq_true, if_false, h9, Bool.not_false, if_true]
    exact .rule (.of_eq rfl)
theorem call_expand {l : List Nat} {n : Int} {Q : V → Own → Prop} (h1 : -(2 ^ 31 : Int) ≤ n) (h2 : n < 2 ^ 31) (hz : (expandL n.toNat 0 l).length ≤ sizeLine) (h : Q (.str (S (expandL n.toNat 0 l))) own) :
    SL W A RV (fun vs => call (.builtin "str.expandtabs") vs) [.str (S l), .int n] own Q := fun fz s vs H ht r => by
  obtain ⟨v1, v2, rfl, r1, r2⟩ : ∃ v1 v2, vs = [v1, v2] ∧ RV fz (.str (S l)) v1 ∧ RV fz (.int n) v2 := by
    cases r with | cons r1 r => cases r with | cons r2 r => cases r; exact ⟨_, _, rfl, r1, r2⟩
  obtain ⟨t, rfl⟩ := r1.str_inv
  obtain ⟨u, rfl⟩ := r2.int_inv
  have e0 : (S l).cps.toList = l := by unfold S; simp
  refine call_gives slot_expandtabs (typeIs_str _ _ _) entry_expandtabs (args_expandtabs _ _) (gives_expand (S l) n t u h1 h2 (by rw [e0]; exact hz)) (post_val_or_made (fun _ => ?_) fun t' k => ?_)
  · show (expandL n.toNat 0 (S l).cps.toList).toArray.size ≤ _
    rw [e0]; simpa using hz
  · have : (if (S l).cps.contains 9 = false then S l else ⟨(expandL n.toNat 0 (S l).cps.toList).toArray⟩) = S (expandL n.toNat 0 l) := by
      rw [e0]
      cases h9 : (S l).cps.contains 9 with
      | true => rfl
      | false =>
        rw [if_pos rfl, expand_same]
        intro hm
        have : (S l).cps.contains 9 = true := by unfold S; simpa using hm
        rw [h9] at this; cases this
    rw [this]
    exact at_tok H _ (.dat (.str _ _)) h
theorem gm_expand {M : Model} {E : Value → Shared → Prop} {s : Shared} {x : Str} {t : Tok} {pl : Sem Bool} {Q : Value × List Value → Shared → Prop} (h : Q (.builtin "str.expandtabs", [.str x t]) s) : wpAny M A (getMethod (.str x t) "expandtabs" pl) Q E s := by
  with_reducible exact GM.of (.str x t) (typeIs_str _ _ _) slot_expandtabs type_expandtabs GM.noRef h
end
section
variable {W : Wd} {A : Around} {env : Env} {own : Own}
/-! ### a sign in a text, a text's end struck off, a text repeated, a list copied -/
theorem contains_S (l : List Nat) (c : Nat) : Txt.contains (S l) (S [c]) = decide (c ∈ l) := by
  have h := PySem.StrLaws.found_one (S l) c
  have e : (S l).cps.toList = l := by unfold S; simp
  rw [e] at h
  exact h
theorem cmp_inC {l : List Nat} {c : Nat} {Q : V → Own → Prop} (h : Q (.bool (decide (c ∈ l))) own) : S2 W A RV (compareOp .In) (.str (S [c])) (.str (S l)) own Q := cmp_inS (by rw [contains_S]; exact h)
theorem call_rstripC {l y : List Nat} {Q : V → Own → Prop} (hz : l.length ≤ sizeLine) (h : Q (.str (S (rstripL (fun c => y.contains c) l))) own) : SL W A RV (fun vs => call (.builtin "str.rstrip") vs) [.str (S l), .str (S y)] own Q := SL2 fun fz s v u H ht r1 r2 => by
  obtain ⟨t, rfl⟩ := r1.str_inv
  obtain ⟨t', rfl⟩ := r2.str_inv
  refine SC.rstripChars (fun t' k => ?_) (by rw [S_len]; exact hz)
  have e : Txt.rstripChars (S l) (S y) = S (rstripL (fun c => y.contains c) l) := by
    unfold Txt.rstripChars
    rw [rstrip_S]
    congr 2
    funext c
    unfold S; simp
  rw [e]
  exact at_tok H _ (.dat (.str _ _)) h
theorem fold_rep (c : Nat) : ∀ (k : Nat) (acc : Array Nat), (List.replicate k #[c]).foldl (· ++ ·) acc = acc ++ (List.replicate k c).toArray
  | 0, acc => by simp
  | k + 1, acc => by
    rw [List.replicate_succ, List.foldl_cons, fold_rep c k, List.replicate_succ, Array.append_assoc]
    congr 1
    rw [show (#[c] : Array Nat) = [c].toArray from rfl, List.append_toArray]; rfl
theorem op_mulS {c : Nat} {n : Int} {Q : V → Own → Prop} (h0 : 0 ≤ n) (h1 : n ≤ 100000) (h : Q (.str (S (List.replicate n.toNat c))) own) : S2 W A RV (binaryOp .Mult) (.str (S [c])) (.int n) own Q := fun fz s v u H ht r1 r2 => by
  obtain ⟨t, rfl⟩ := r1.str_inv
  obtain ⟨t', rfl⟩ := r2.int_inv
  refine SB.mul ⟨?_, fun h2 h3 => ?_, fun h2 h3 => ?_⟩ fun t' k => ?_
  · rw [Bool.or_eq_false_iff]; exact ⟨decide_eq_false (by omega), decide_eq_false (by omega)⟩
  · rw [S_len]
    have : (1 : Int) ≤ (2 ^ 63 - 1) / n := by
      rw [Int.le_ediv_iff_mul_le (by omega)]; omega
    simp only [List.length_cons, List.length_nil]; omega
  · rw [S_len]
    unfold Builtin.Str.tooLong
    rw [sizeLine_eq]
    simp only [List.length_cons, List.length_nil, decide_eq_false_iff_not]; omega
  · have e : Txt.mul (S [c]) n = S (List.replicate n.toNat c) := by
      unfold Txt.mul
      by_cases h2 : n < 1
      · rw [if_pos h2]
        have : n.toNat = 0 := by omega
        rw [this]; rfl
      · rw [if_neg h2]
        by_cases h3 : n = 1
        · subst h3; rfl
        · rw [if_neg (by rw [S_len]; simp [h3])]
          have := fold_rep c n.toNat #[]
          unfold S
          rw [show ([c] : List Nat).toArray = #[c] from rfl, this]
          simp
    rw [e]
    exact at_tok H _ (.dat (.str _ _)) h
theorem call_listL {l : List PyData} {Q : V → Own → Prop} (hz : l.length ≤ sizeLine) (h : Q (.lst l) own) : SL W A RV (fun vs => call (.type "list") vs) [.lst l] own Q := SL1 fun fz s v H ht r => by
  obtain ⟨a, vs, rfl, hl, rs⟩ := r.lst_inv
  have hlen := rs.length
  rw [List.length_map] at hlen
  have hsz : vs.toList.length = vs.size := Array.length_toList
  obtain ⟨o, ho, hc, n, hd⟩ := IsList_keep hl H.has
  refine call_list_seq (hsz := by omega) a (.inl rfl) ho hc hd fun h' c' hk hD => ?_
  obtain ⟨kk, H'⟩ := H.frz (k := s.toks) (h' := h') (o := listObj vs.toList c') rfl hk (get?_ge (Nat.le_refl _)) (by rw [hD]; simp [listObj])
  exact ⟨_, _, own, kk, H', rv_list (putH_at rfl) (rs.mono kk), h⟩
end
section
theorem reads_ints {h h' : Heap} : ∀ {ns : List Int} {vs : List Value} {as : List Addr}, ReadsAll h vs (ns.map .int) as → ReadsAll h' vs (ns.map .int) as
  | [], _, _, .nil => .nil
  | _ :: _, _, _, .cons (.int _ _) t => .cons (.int _ _) (reads_ints t)
/-- the same, with one code object's table laid aside -/
theorem join_lawT {prog : Program} {w : World} {s₁ : Shared} {K : Frag} {p : Program} {loose : List Str} {mean : ExcName → Option Value} {mg mb : Str → Option Value} {fa f a c P : Addr} {ns : List Int} {as : List Addr} {pos : Pos} {qual : Str}
    (T : Top p loose mean mg mb s₁.heap) (KX : K.In s₁.heap) (hKt : noTabs K = true) (hC : codeHdIn K c P = true) (hP : s₁.heap.get? P = some (tabObj #[]))
    (hmg : mg (Str.ofString "law") = some (.ref fa)) (hg : s₁.gens = #[]) (hns : nsIn K mainGlobals (Str.ofString "law") = some (some (.ref f)))
    (r0 : Reads s₁.heap (.ref a) (.list (ns.map .int)) as)
    (h : ∀ W : Wd, W.w = w → W.K = K → SLC W callerA (.ref f) [.lst (ns.map .int)] [(P, .prop (TabP pos qual))] (fun r o => r = .bool true ∧ (P, .prop (TabP pos qual)) ∈ o)) :
    codeAny (model prog w) callerA (.call (.ref fa) ⟨[.ref a], []⟩) (fun r s' => r = .ok (.ret (.bool true)) ∧ OldK s₁.heap s'.heap ∧ s'.os = s₁.os ∧ AllBare s'.gens) s₁ := by
  have e := mg_of KX T.g hns
  rw [hmg] at e
  cases e
  have CH := codeHd_of_K KX hC
  have hT : TabsAt [(c, P)] s₁.heap := fun q hq => by
    rcases List.mem_cons.mp hq with rfl | hq
    · exact ⟨CH, hP⟩
    · cases hq
  have T' := ghost_top hT T
  have KX' := ghost_K hT KX hKt
  have kb : Keep (ghostOf s₁.heap [(c, P)]) s₁.heap := fun b o e => of_hideAll _ e
  let W : Wd := { prog := prog, w := w, base := ghostOf s₁.heap [(c, P)], os := s₁.os, K := K, p := _, loose := _, mg := mg, mb := mb, kin := KX', top := topRead_of T', bm := T'.bmain, tk := 0 }
  have H : Hold W (ghostOf s₁.heap [(c, P)]) [(P, .prop (TabP pos qual))] s₁ := by
    refine ⟨.refl _, kb, fun p hp => ?_, fun p hp => ?_, by simp, .cons (.nil (.of_eq hg)) rfl, rfl⟩
    · rcases List.mem_cons.mp hp with rfl | hp
      · exact ⟨_, hP, _, Keep.refl _, .inl rfl⟩
      · cases hp
    · rcases List.mem_cons.mp hp with rfl | hp
      · exact hideAll_none _ (by simp)
      · cases hp
  have r0' : Reads (ghostOf s₁.heap [(c, P)]) (.ref a) (.list (ns.map .int)) as := by
    cases r0 with
    | @list a o vs n xs as ho hc hd hr =>
      refine .list (ghost_get hT ho (fun q => by rw [q] at hc; cases hc)) hc hd ?_
      exact reads_ints hr
  refine codeAny_mono (h W rfl rfl _ s₁ [.ref a] H (Nat.zero_le _) (.cons (.dat r0') .nil)) fun r s' x => ?_
  rcases r with e | (v | _ | _ | _) <;> first | exact x.elim | skip
  obtain ⟨fz', b, own', k, H', rb, rfl, hm⟩ := x
  rw [rb.bool_inv]
  obtain ⟨oP, fz₀, hoP, _, hp⟩ := H'.prop hm
  obtain ⟨ps, rfl⟩ : ∃ ps, oP = tabObj ps := by rcases hp with rfl | ⟨c', rfl, _⟩ <;> exact ⟨_, rfl⟩
  have keep : ∀ b o, b ≠ P → s₁.heap.get? b = some o → s'.heap.get? b = some o := fun b o hb e => (k.trans H'.has) b o (ghost_ne e (by simpa using hb))
  refine ⟨rfl, ⟨fun b o e => ?_, fun b o e => ?_⟩, H'.os, H'.gens.bare⟩
  · by_cases hb : b = P
    · subst hb
      rw [hP] at e; cases e
      exact .inr (.inl ⟨(CH.tab hP).isCodeTable, rfl, #[], ps, rfl, by rw [Array.empty_append]; exact hoP⟩)
    · exact .inl (keep b o hb e)
  · by_cases hb : b = P
    · subst hb; exact ⟨_, hoP⟩
    · exact ⟨o, keep b o hb e⟩
end
local macro_rules | `(tactic| walk_at "mem") => `(tactic| (repeat (first | with_reducible exact List.mem_cons_self | with_reducible refine List.mem_cons_of_mem _ ?_ | with_reducible assumption | with_reducible exact mem_mid' | with_reducible exact mem_mid (by assumption))))
local macro_rules | `(tactic| walk_at "put") => `(tactic| (repeat (first | with_reducible exact Put.here | with_reducible exact Put.new | with_reducible apply Put.there)))
local macro_rules | `(tactic| walk_at "upd") => `(tactic| (repeat (first | with_reducible exact Upd.here | with_reducible exact Upd.mid | with_reducible apply Upd.there)))
local macro_rules | `(tactic| walk_at "nd") => `(tactic| (simp only [List.map_cons, List.map_nil]; decide +kernel))
local macro_rules | `(tactic| walk_at "notin") => `(tactic| (simp only [List.map_cons, List.map_nil]; decide +kernel))
local macro_rules | `(tactic| walk_at "frz") => `(tactic| (repeat (first | with_reducible exact NF.nil | with_reducible apply NF.cons VF.at_ | with_reducible apply NF.cons VF.same | with_reducible apply OF.ns | with_reducible apply OF.cell VF.at_ | with_reducible apply OF.cell VF.same | with_reducible apply OF.list | with_reducible exact LF.nil | with_reducible apply LF.cons VF.at_ | with_reducible apply LF.cons VF.same | with_reducible exact LF.refl | with_reducible apply OF.same | with_reducible exact OF.refl)))
local macro_rules | `(tactic| walk_at "subl") => `(tactic| (repeat (first | with_reducible exact List.Sublist.refl _ | with_reducible exact List.nil_sublist _ | with_reducible apply List.Sublist.cons_cons | with_reducible apply List.Sublist.cons)))
local macro_rules | `(tactic| walk_at "wk") => `(tactic| (repeat (first | with_reducible exact Wk.refl | with_reducible exact Wk.nil | with_reducible refine Wk.keep ObW.refl ?_ | with_reducible refine Wk.keep (ObW.ns (by walk_at "subl")) ?_ | with_reducible apply Wk.drop)))
local macro_rules | `(tactic| walk_at "take") => `(tactic| (repeat (first | with_reducible exact Take.here | with_reducible apply Take.there)))
local macro_rules | `(tactic| walk_at "dat") => `(tactic| first | exact AllDat.map _ | (repeat (first | exact AllDat.nil | with_reducible apply AllDat.cons)))
local macro_rules | `(tactic| walk_at "small") => `(tactic| (rw [sizeLine_eq]; simp))
local macro_rules | `(tactic| walk_at "meth") => `(tactic| first
  | ((with_reducible show SMth _ _ (Str.ofString "append") _ _ _ _); refine mth_list (by walk_at "mem") PySem.F.slot_list_append PySem.F.type_list_append ?_)
  | ((with_reducible show SMth _ _ (Str.ofString "count") _ _ _ _); refine mth_str (fun t s P h => GM.count h) ?_))
local macro_rules | `(tactic| walk_at "call") => `(tactic| first
  | (refine call_append (by walk_at "upd") (by walk_at "size") ?_)
  | (refine call_lenS (by walk_at "size") ?_)
  | (refine call_len_lst (by walk_at "size") ?_)
  | (refine call_len_own (by walk_at "mem") (by walk_at "size") ?_)
  | (refine call_countS ?_)
  | (refine call_range1 ?_)
  | (refine call_ordS ?_))
local macro_rules | `(tactic| walk_at "name") => `(tactic| first
  | (refine SN_loc rfl rfl (by walk_at "mem") (by with_reducible rfl) (by walk_at "mem") ?_)
  | (refine SN_global rfl rfl rfl (nsIn_of (by assumption) rfl) ?_)
  | (refine SN_builtin rfl rfl rfl rfl (nsIn_of (by assumption) rfl) rfl (by decide +kernel) ?_)
  | (refine SN_cell rfl rfl rfl (by walk_at "mem") ?_)
  | (refine SN_free rfl rfl rfl (by walk_at "mem") ?_ (by decide +kernel)))
local macro_rules | `(tactic| walk_at "store") => `(tactic| first
  | (refine SS_loc rfl rfl (by walk_at "mem") (by with_reducible rfl) (by walk_at "put") (by walk_at "nd") (by walk_at "upd") ?_)
  | (refine SS_cell rfl rfl rfl (by walk_at "upd") ?_))
local macro_rules | `(tactic| walk_at "go") => `(tactic| first
  | ((with_reducible show SXs _ _ _ (_ :: _) _ _); refine SXs_cons ?_)
  | ((with_reducible show SXs _ _ _ [] _ _); refine SXs_nil ?_)
  | ((with_reducible show SX _ _ _ (Stmt.Assign [Expr.Name _ _] _ _) _ _); (fail_if_success (with_reducible show SX _ _ _ (Stmt.Assign [Expr.Name _ _] (Expr.ListComp _ _ _ _) _) _ _)); refine SX_Assign ?_)
  | ((with_reducible show SX _ _ _ (Stmt.Assign [Expr.Attribute _ _ _] _ _) _ _); refine SX_AssignAttr ?_)
  | ((with_reducible show SX _ _ _ (Stmt.AugAssign (Expr.Name _ _) _ _ _) _ _); refine SX_Aug ?_)
  | ((with_reducible show SX _ _ _ (Stmt.If _ _ _ _) _ _); refine SX_If ?_)
  | ((with_reducible show SX _ _ _ (Stmt.Return (some _) _) _ _); refine SX_Return ?_)
  | ((with_reducible show SX _ _ _ (Stmt.Return none _) _ _); refine SX_Return0 ?_)
  | ((with_reducible show SX _ _ _ (Stmt.Expr _ _) _ _); refine SX_Expr ?_)
  | ((with_reducible show SE _ _ _ (Expr.Name _ _) _ _); refine SE_Name ?_ (by decide +kernel))
  | ((with_reducible show SE _ _ _ (Expr.Constant (Const.int _) _ _) _ _); refine SE_int ?_)
  | ((with_reducible show SE _ _ _ (Expr.Constant (Const.str _) _ _) _ _); refine SE_strL (by walk_at "lit") ?_)
  | ((with_reducible show SE _ _ _ (Expr.Constant (Const.bool _) _ _) _ _); refine SE_bool ?_)
  | ((with_reducible show SE _ _ _ (Expr.Constant Const.none _ _) _ _); refine SE_none ?_)
  | ((with_reducible show SE _ _ _ (Expr.BinOp _ _ _ _) _ _); refine SE_BinOp ?_)
  | ((with_reducible show SE _ _ _ (Expr.UnaryOp _ _ _) _ _); refine SE_UnaryOp ?_)
  | ((with_reducible show SE _ _ _ (Expr.IfExp _ _ _ _) _ _); refine SE_IfExp ?_)
  | ((with_reducible show SE _ _ _ (Expr.Compare _ [_] [_] _) _ _); refine SE_Compare ?_)
  | ((with_reducible show SE _ _ _ (Expr.Subscript _ _ _) _ _); (fail_if_success (with_reducible show SE _ _ _ (Expr.Subscript _ (Expr.Slice _ _ _ _) _) _ _)); refine SE_Subscript ?_)
  | ((with_reducible show SE _ _ _ (Expr.Call (Expr.Attribute _ _ _) _ [] _) _ _); refine SE_Meth ?_)
  | ((with_reducible show SE _ _ _ (Expr.Call (Expr.Name _ _) _ [] _) _ _); refine SE_Call ?_)
  | ((with_reducible show SE _ _ _ (Expr.Attribute _ _ _) _ _); refine SE_Attribute ?_)
  | ((with_reducible show SE _ _ _ (Expr.Tuple _ _ _) _ _); refine SE_TupleF ?_)
  | (with_reducible refine ⟨_, by with_reducible (walk_at "dat"), by walk_at "small", ?_⟩)
  | ((with_reducible show SMth _ _ _ _ _ _ _); walk_at "meth")
  | (with_reducible refine ⟨kp_builtin, ?_⟩)
  | (with_reducible refine ⟨kp_type, ?_⟩)
  | (with_reducible refine ⟨_, rfl, ?_⟩)
  | ((with_reducible show SL _ _ _ _ _ _ _); walk_at "call")
  | ((with_reducible show SEs _ _ _ _ [] _ _); refine SEs_nil ?_)
  | ((with_reducible show SEs _ _ _ _ (_ :: _) _ _); refine SEs_cons ?_)
  | ((with_reducible show ST _ _ _ (Expr.Compare _ [_] [_] _) _ _); refine ST_Compare ?_)
  | ((with_reducible show ST _ _ _ (Expr.UnaryOp UnaryOp.Not _ _) _ _); refine ST_not ?_)
  | ((with_reducible show SG _ _ _ (isTrue (Expr.BoolOp BoolOp.And (_ :: _) _) _ _) _ _); refine SG_and ?_)
  | ((with_reducible show SG _ _ _ (isTrue (Expr.BoolOp BoolOp.Or (_ :: _) _) _ _) _ _); refine SG_or ?_)
  | ((with_reducible show SG _ _ _ (isTrue (Expr.BoolOp BoolOp.And [] _) _ _) _ _); refine SG_and_nil ?_)
  | ((with_reducible show SG _ _ _ (isTrue (Expr.BoolOp BoolOp.Or [] _) _ _) _ _); refine SG_or_nil ?_)
  | ((with_reducible show ST _ _ _ (Expr.Name _ _) _ _); refine ST_plain ?_)
  | ((with_reducible show SG _ _ _ (loadName _ _) _ _); walk_at "name")
  | ((with_reducible show SS _ _ _ _ _ _ _); walk_at "store")
  | ((with_reducible show SA _ _ _ (Expr.Name _ _) _ _ _); refine SA_Name ?_)
  | ((with_reducible show SA _ _ _ (Expr.Tuple _ _ _) _ _ _); refine SA_Tuple (by assumption) rfl ?_)
  | ((with_reducible show SAs _ _ _ (_ :: _) _ _ _); refine SAs_cons ?_)
  | ((with_reducible show SAs _ _ _ [] _ _ _); refine SAs_nil ?_)
  | ((with_reducible show STs _ _ _ [] _ _); refine STs_nil ?_)
  | ((with_reducible show STs _ _ _ [_] _ _); refine STs_one ?_)
  | ((with_reducible show SPt _ _ _ none _ _); refine SPt_none ?_)
  | ((with_reducible show SPt _ _ _ (some _) _ _); refine SPt_some ?_)
  | (with_reducible refine op_add ?_) | (with_reducible refine op_sub ?_) | (with_reducible refine op_iadd ?_) | (with_reducible refine op_isub ?_) | (with_reducible refine op_neg ?_)
  | (with_reducible refine cmp_eqI ?_) | (with_reducible refine cmp_neI ?_) | (with_reducible refine cmp_lt ?_) | (with_reducible refine cmp_le ?_) | (with_reducible refine cmp_gt ?_) | (with_reducible refine cmp_ge ?_)
  | (with_reducible refine op_catS (by walk_at "size") ?_) | (with_reducible refine op_icatS (by walk_at "size") ?_)
  | (with_reducible refine cmp_eqSS ?_) | (with_reducible refine cmp_neSS ?_)
  | (with_reducible refine tr_bool ?_) | (with_reducible refine tr_int ?_) | (with_reducible refine tr_none ?_)
  | (with_reducible refine ite_nt ?_) | (with_reducible refine ite_nf ?_)
  | (with_reducible refine op_mulR (by decide) ?_)
  | (with_reducible refine ite_tt' ?_) | (with_reducible refine ite_ff' ?_))
section
variable {W : Wd} {A : Around} {env : Env} {own : Own}
abbrev K02 (W : Wd) : Prop := W.K = hd02.heap_39 W.w.params
theorem l02_0 : lit (Str.ofString "") = [] := by decide +kernel
theorem l02_1 : lit (Str.ofString "\t") = [9] := by decide +kernel
theorem l02_2 : lit (Str.ofString "a") = [97] := by decide +kernel
theorem l02_3 : lit (Str.ofString " ") = [32] := by decide +kernel
theorem l02_4 : lit (Str.ofString "bcd") = [98, 99, 100] := by decide +kernel
theorem l02_5 : lit (Str.ofString "\n") = [10] := by decide +kernel
theorem l02_6 : lit (Str.ofString "\r") = [13] := by decide +kernel
theorem l02_7 : lit (Str.ofString "\x00") = [0] := by decide +kernel
theorem l02_8 : lit (Str.ofString "\x0c") = [12] := by decide +kernel
theorem l02_9 : lit (Str.ofString "\n\r") = [10, 13] := by decide +kernel

local macro_rules | `(tactic| walk_at "lit") => `(tactic| first | exact l02_0 | exact l02_1 | exact l02_2 | exact l02_3 | exact l02_4 | exact l02_5 | exact l02_6 | exact l02_7 | exact l02_8 | exact l02_9)
local macro_rules | `(tactic| walk_at "size") => `(tactic| (rw [sizeLine_eq]; (try simp only [List.length_append, List.length_cons, List.length_nil, List.length_map]); omega))
/-! ### the tabs of a line -/
theorem cls02 (hK : K02 W) : ClsOk W.K 111 := by
  rw [hK]
  exact ⟨rfl, rfl, rfl, rfl, rfl, rfl⟩
/-- what expand_tabs gives -/
def expT (n : Int) (l : List Nat) : List Nat := rstripL (fun c => [10].contains c) (repl 0 [32] (repl 32 [9] (expandL n.toNat 0 (repl 32 [0] l))))
theorem expandL_len (n : Nat) : ∀ (l : List Nat) (col : Nat), (expandL n col l).length ≤ l.length * max n 1
  | [], _ => by simp [expandL]
  | c :: l, col => by
    rw [expandL, List.length_cons, Nat.add_mul, Nat.one_mul]
    split
    · have h1 : (if 0 < n then n - col % n else 0) ≤ max n 1 := by split <;> omega
      have := expandL_len n l (col + if 0 < n then n - col % n else 0)
      rw [List.length_append, List.length_replicate]; omega
    · have := expandL_len n l (if c = 10 ∨ c = 13 then 0 else col + 1)
      rw [List.length_cons]; omega
theorem repl1_len (c d : Nat) (l : List Nat) : (repl c [d] l).length = l.length := by
  unfold repl
  induction l with
  | nil => rfl
  | cons a l ih => rw [List.flatMap_cons, List.length_append, ih, List.length_cons]; split <;> simp <;> omega
theorem rstripL_len (p : Nat → Bool) (l : List Nat) : (rstripL p l).length ≤ l.length := by unfold rstripL; rw [List.length_take]; omega
theorem expT_len (n : Int) (l : List Nat) : (expT n l).length ≤ l.length * max n.toNat 1 := by
  unfold expT
  refine Nat.le_trans (rstripL_len _ _) ?_
  rw [repl1_len, repl1_len]
  refine Nat.le_trans (expandL_len _ _ _) ?_
  rw [repl1_len]; omega
abbrev tabsPos : Pos := ⟨29, 8, 33, 57⟩
abbrev tabsQual : Str := Str.ofString "HtmlDiff._tab_newline_replace.<locals>.expand_tabs"
local macro_rules | `(tactic| walk_at "go") => `(tactic| ((with_reducible show SE _ _ _ (Expr.Call (Expr.Attribute _ (Str.ofString "replace") _) [Expr.Constant _ _ _, Expr.Constant _ _ _] [] _) _ _); refine SE_Replace (Nat.le_refl _) (by walk_at "lit") (by walk_at "lit") (by decide +kernel) (by decide +kernel) ?_))
local macro_rules | `(tactic| walk_at "go") => `(tactic| ((with_reducible show (_ : Nat) ≤ 100000 ∧ _); refine ⟨by (first | omega | (simp only [List.length_append, List.length_cons, List.length_nil, repl1_len]; omega)), ?_⟩))
local macro_rules | `(tactic| walk_at "meth") => `(tactic| ((with_reducible show SMth _ _ (Str.ofString "rstrip") _ _ _ _); refine mth_str (fun t s P h => GM.rstrip h) ?_))
local macro_rules | `(tactic| walk_at "meth") => `(tactic| ((with_reducible show SMth _ _ (Str.ofString "expandtabs") _ _ _ _); refine mth_str (fun t s P h => gm_expand h) ?_))
theorem c_tabs (hK : K02 W) (hh : A.handled = none) (hd : A.depth + 2 < recursionLimit) {x dx : Addr} {loc : List (Str × V)} {n : Int} (hx : (x, Ob.obj (instObj 111 dx)) ∈ own) (hdx : (dx, Ob.att loc) ∈ own) (hn : (Str.ofString "_tabsize", V.int n) ∈ loc)
    (htab : (55, Ob.prop (TabP tabsPos tabsQual)) ∈ own) (hn1 : -(100 : Int) ≤ n) (hn2 : n ≤ 100) {N : Nat} {ls1 ls2 : List (List Nat)} (h1 : ∀ l ∈ ls1, l.length ≤ N) (h2 : ∀ l ∈ ls2, l.length ≤ N) (hN : N * max n.toNat 1 ≤ 100000) (hl1 : ls1.length ≤ 1000) (hl2 : ls2.length ≤ 1000) :
    SLC W A (.ref 58) [.ref x, .lst (ls1.map fun l => .str (S l)), .lst (ls2.map fun l => .str (S l))] own (fun r o => r = .tup [.list (ls1.map fun l => .str (S (expT n l))), .list (ls2.map fun l => .str (S (expT n l)))] ∧ o = own) := by
  refine' do_callE [Str.ofString "self", Str.ofString "fromlines", Str.ofString "tolines"] [(Str.ofString "fromlines", .lst (ls1.map fun l => .str (S l))), (Str.ofString "tolines", .lst (ls2.map fun l => .str (S l)))]
    [(Str.ofString "expand_tabs", 2, none), (Str.ofString "self", 1, some (.ref x))] ?ho ?hcd (by omega) ?hb ?hcl ?ndc ?hkind ?hbind ?h ?c1 ?c2 ?c3
  case ho => exact K_of hK rfl
  case hcd => rw [hK]; rfl
  case hb => intro s vs _ hl; exact BindsTo.of_eq (by match vs, hl with | [_, _, _], _ => rfl)
  case hcl => intro L; rfl
  case ndc => simp only [List.map_cons, List.map_nil]; decide +kernel
  case hkind => simp only [List.map_cons, List.map_nil]; decide +kernel
  case hbind =>
    intro fz vs L r
    cases r with | cons r1 r => cases r with | cons r2 r => cases r with | cons r3 r => cases r; exact ⟨⟨⟨_, rfl, r2⟩, ⟨_, rfl, r3⟩, trivial⟩, rfl, ⟨_, rfl, r1⟩, trivial⟩
  case c1 => rfl
  case c2 => rfl
  case c3 => rfl
  intro L
  simp only [List.map_cons, List.map_nil, List.cons_append, List.nil_append]
  refine @deeper_gen W A _ _ _ _ _ hh ?_
  intro A' hh' hd' hu'
  repeat walk_at "go"
  refine SX_Def (qual := tabsQual) (by kernel_rfl) ?_
  refine make_fn (clos := [(Str.ofString "self", L + 1)]) rfl rfl rfl (by rw [hK]; rfl) (P := 55) (Upd.self (by walk_at "mem")) fun f => ?_
  repeat walk_at "go"
  refine SX_AssignCompMap (α := List Nat) hh' rfl (by decide +kernel) rfl (by decide +kernel) rfl ?_
  repeat walk_at "go"
  refine it_list fun it => ⟨it, _, _, rfl, rfl, fun l => V.str (S l), fun _ => true, fun l => .str (S (expT n l)), ls1, by rw [List.map_map]; rfl, by walk_at "size", ?_, ?_⟩
  · intro C D it3 l r ys hl
    have hl1 := h1 l hl
    have e1 : l.length * max n.toNat 1 ≤ 100000 := Nat.le_trans (Nat.mul_le_mul_right _ hl1) hN
    have e2 : l.length ≤ 100000 := by
      have h1 : l.length * 1 ≤ l.length * max n.toNat 1 := Nat.mul_le_mul_left _ (by omega)
      omega
    have e3 := expandL_len n.toNat (repl 32 [0] l) 0
    rw [repl1_len] at e3
    repeat walk_at "go"
    refine ⟨rfl, ?_⟩
    rw [if_pos rfl]
    repeat walk_at "go"
    refine ⟨kp_fn (by walk_at "mem"), SLC.call ?_⟩
    refine' do_callN [Str.ofString "line"] (by decide) (by simp) (by walk_at "mem") (by omega) ?hb ?hloc ?nd ?h ?c1 ?c2 ?c3 ?c4
    case hb => intro s vs doc pm c' ctv hl; exact BindsTo.of_eq (by match vs, hl with | [_], _ => rfl)
    case hloc => decide +kernel
    case nd => decide +kernel
    case c1 => rfl
    case c2 => rfl
    case c3 => rfl
    case c4 => decide +kernel
    intro L2 cdv
    simp only [List.zip_cons_cons, List.zip_nil_right]
    have hK' : K02 W.up := hK
    repeat walk_at "go"
    refine get_att (cls02 hK') (by walk_at "mem") (by walk_at "mem") hn (by rw [hK']; rfl) handed_int ?_
    repeat walk_at "go"
    refine call_expand (by omega) (by omega) (by rw [sizeLine_eq]; omega) ?_
    repeat walk_at "go"
    refine call_rstripC (by rw [sizeLine_eq]; simp only [repl1_len]; omega) ?_
    exact ⟨_, .drop .refl, rfl, by walk_at "wk"⟩
  rw [show ls1.filter (fun _ => true) = ls1 from List.filter_eq_self.mpr fun _ _ => rfl]
  intro C
  refine SS_loc (L := L) rfl rfl (by walk_at "mem") rfl (by walk_at "put") (by walk_at "nd") (by walk_at "upd") ?_
  refine ⟨_, by walk_at "wk", ?_⟩
  repeat walk_at "go"
  refine SX_AssignCompMap (α := List Nat) hh' rfl (by decide +kernel) rfl (by decide +kernel) rfl ?_
  repeat walk_at "go"
  refine it_list fun it => ⟨it, _, _, rfl, rfl, fun l => V.str (S l), fun _ => true, fun l => .str (S (expT n l)), ls2, by rw [List.map_map]; rfl, by walk_at "size", ?_, ?_⟩
  · intro C D it3 l r ys hl
    have hl1 := h2 l hl
    have e1 : l.length * max n.toNat 1 ≤ 100000 := Nat.le_trans (Nat.mul_le_mul_right _ hl1) hN
    have e2 : l.length ≤ 100000 := by
      have h1 : l.length * 1 ≤ l.length * max n.toNat 1 := Nat.mul_le_mul_left _ (by omega)
      omega
    have e3 := expandL_len n.toNat (repl 32 [0] l) 0
    rw [repl1_len] at e3
    repeat walk_at "go"
    refine ⟨rfl, ?_⟩
    rw [if_pos rfl]
    repeat walk_at "go"
    refine ⟨kp_fn (by walk_at "mem"), SLC.call ?_⟩
    refine' do_callN [Str.ofString "line"] (by decide) (by simp) (by walk_at "mem") (by omega) ?hb ?hloc ?nd ?h ?c1 ?c2 ?c3 ?c4
    case hb => intro s vs doc pm c' ctv hl; exact BindsTo.of_eq (by match vs, hl with | [_], _ => rfl)
    case hloc => decide +kernel
    case nd => decide +kernel
    case c1 => rfl
    case c2 => rfl
    case c3 => rfl
    case c4 => decide +kernel
    intro L2 cdv
    simp only [List.zip_cons_cons, List.zip_nil_right]
    have hK' : K02 W.up := hK
    repeat walk_at "go"
    refine get_att (cls02 hK') (by walk_at "mem") (by walk_at "mem") hn (by rw [hK']; rfl) handed_int ?_
    repeat walk_at "go"
    refine call_expand (by omega) (by omega) (by rw [sizeLine_eq]; omega) ?_
    repeat walk_at "go"
    refine call_rstripC (by rw [sizeLine_eq]; simp only [repl1_len]; omega) ?_
    exact ⟨_, .drop .refl, rfl, by walk_at "wk"⟩
  rw [show ls2.filter (fun _ => true) = ls2 from List.filter_eq_self.mpr fun _ _ => rfl]
  intro C
  refine SS_loc (L := L) rfl rfl (by walk_at "mem") rfl (by walk_at "put") (by walk_at "nd") (by walk_at "upd") ?_
  refine ⟨_, by walk_at "wk", ?_⟩
  repeat walk_at "go"
  exact ⟨_, by walk_at "wk", rfl, rfl⟩
end
section
variable {W : Wd} {A : Around} {env : Env} {own : Own}
local macro_rules | `(tactic| walk_at "lit") => `(tactic| first | exact l02_0 | exact l02_1 | exact l02_2 | exact l02_3 | exact l02_4 | exact l02_5 | exact l02_6 | exact l02_7 | exact l02_8 | exact l02_9)
local macro_rules | `(tactic| walk_at "size") => `(tactic| (rw [sizeLine_eq]; (try simp only [List.length_append, List.length_cons, List.length_nil, List.length_map]); omega))
/-! ### making a sheet -/
abbrev attrT (n : Int) : List (Str × V) := [(Str.ofString "_tabsize", V.int n), (Str.ofString "_wrapcolumn", V.none), (Str.ofString "_linejunk", V.none), (Str.ofString "_charjunk", V.ref 29)]
theorem c_init1 (hK : K02 W) (hh : A.handled = none) (hd : A.depth < recursionLimit) {x dx : Addr} {n : Int} :
    SLC W A (.ref 44) [.ref x, .int n] ((x, .obj (instObj 111 dx)) :: (dx, .att []) :: own) (fun r o => r = .none ∧ o = (x, .obj (instObj 111 dx)) :: (dx, .att (attrT n)) :: own) := by
  refine' do_callD [Str.ofString "self", Str.ofString "tabsize", Str.ofString "wrapcolumn", Str.ofString "linejunk", Str.ofString "charjunk"] [.none, .none, .ref 29] [V.none, V.none, V.ref 29] ?hdf ?ho ?hcd hd ?hb ?hloc ?nd ?h ?c1 ?c2 ?c3 ?c4
  case ho => exact K_of hK rfl
  case hcd => rw [hK]; rfl
  case hb => intro s vs X hl; match vs, hl with | [_, _], _ => exact binds_K X rfl (K_of hK rfl) rfl rfl rfl
  case hdf => intro fz; exact .cons (.dat .none) (.cons (.dat .none) (.cons (.val _) .nil))
  case hloc => decide +kernel
  case nd => decide +kernel
  case c1 => rfl
  case c2 => rfl
  case c3 => rfl
  case c4 => decide +kernel
  intro L
  simp only [List.zip_cons_cons, List.zip_nil_right, List.cons_append, List.nil_append]
  repeat walk_at "go"
  refine do_setattr (cls02 hK) (by rw [hK]; rfl) (by walk_at "mem") (by walk_at "mem") (by walk_at "put") (by walk_at "nd") (by simp) (by walk_at "upd") ?_
  repeat walk_at "go"
  refine do_setattr (cls02 hK) (by rw [hK]; rfl) (by walk_at "mem") (by walk_at "mem") (by walk_at "put") (by walk_at "nd") (by simp) (by walk_at "upd") ?_
  repeat walk_at "go"
  refine do_setattr (cls02 hK) (by rw [hK]; rfl) (by walk_at "mem") (by walk_at "mem") (by walk_at "put") (by walk_at "nd") (by simp) (by walk_at "upd") ?_
  repeat walk_at "go"
  refine do_setattr (cls02 hK) (by rw [hK]; rfl) (by walk_at "mem") (by walk_at "mem") (by walk_at "put") (by walk_at "nd") (by simp) (by walk_at "upd") ?_
  repeat walk_at "go"
  exact ⟨_, .drop .refl, rfl, rfl⟩
theorem do_sheet1 (hK : K02 W) (hh : A.handled = none) (hd : A.depth + 1 < recursionLimit) {n : Int} {Q : V → Own → Prop} (h : ∀ x dx, Q (.ref x) ((x, .obj (instObj 111 dx)) :: (dx, .att (attrT n)) :: own)) :
    SL W A RV (fun vs => call (.ref 111) vs) [.int n] own Q :=
  do_make (cls02 hK) (by rw [hK]; rfl) (by rw [hK]; rfl) fun A' e1 e2 e3 x dx => (c_init1 hK (e1.trans hh) (by omega)).mono (by rintro r o ⟨rfl, rfl⟩; exact ⟨rfl, h x dx⟩)
/-! ### the lists -/
abbrev strD (l : List Nat) : PyData := .str (S l)
def LineOk (N : Nat) (l : List Nat) : Prop := l.length ≤ N ∧ ∀ c ∈ l, c < 128
theorem c_lists (hK : K02 W) (hh : A.handled = none) (hd : A.depth < recursionLimit) (xs : List Int) (hn : xs.length ≤ 100) :
    SLC W A (.ref 122) [.lst (xs.map .int)] own (fun r o => ∃ l0 l1 : List (List Nat), r = .lst [.list (l0.map strD), .list (l1.map strD)] ∧ o = own ∧ (∀ l ∈ l0, LineOk 300 l) ∧ (∀ l ∈ l1, LineOk 300 l) ∧ l0.length ≤ 100 ∧ l1.length ≤ 100) := by
  refine' do_callC [Str.ofString "numbers"] ?ho ?hcd hd ?hb ?hloc ?nd ?h ?c1 ?c2 ?c3 ?c4
  case ho => exact K_of hK rfl
  case hcd => rw [hK]; rfl
  case hb => intro s vs _ hl; exact BindsTo.of_eq (by obtain ⟨v, rfl⟩ := List.length_eq_one_iff.mp hl; rfl)
  case hloc => decide +kernel
  case nd => decide +kernel
  case c1 => rfl
  case c2 => rfl
  case c3 => rfl
  case c4 => decide +kernel
  intro L
  simp only [List.zip_cons_cons, List.zip_nil_right]
  repeat walk_at "go"
  refine SE_List (by walk_at "small") ?_
  repeat walk_at "go"
  refine SE_List (by walk_at "small") ?_
  repeat walk_at "go"
  refine ⟨by walk_at "small", fun D0 => ?_⟩
  repeat walk_at "go"
  refine SE_List (by walk_at "small") ?_
  repeat walk_at "go"
  refine ⟨by walk_at "small", fun D1 => ?_⟩
  repeat walk_at "go"
  refine ⟨by walk_at "small", fun D => ?_⟩
  repeat walk_at "go"
  refine SX_For hh ?_
  repeat walk_at "go"
  refine it_list fun it => ⟨it, _, _, rfl, rfl, fun l o => ∃ (post : List Int) (l0 l1 : List (List Nat)) (line : List Nat), l = (post.map PyData.int).map V.dat ∧
    o = (D, Ob.list [.ref D0, .ref D1]) :: (D1, Ob.list ((l1.map strD).map V.dat)) :: (D0, Ob.list ((l0.map strD).map V.dat)) :: (L, Ob.ns [(Str.ofString "numbers", .lst (xs.map .int)), (Str.ofString "lists", .ref D), (Str.ofString "line", .str (S line))]) :: own ∧
    (∀ l ∈ l0, LineOk 300 l) ∧ (∀ l ∈ l1, LineOk 300 l) ∧ LineOk 300 line ∧ line.length + 3 * post.length ≤ 3 * xs.length ∧ l0.length + l1.length + post.length ≤ xs.length, ?_, ?_, ?_⟩
  · exact ⟨xs, [], [], [], rfl, rfl, by simp, by simp, ⟨by simp, by simp⟩, by simp, by simp⟩
  · rintro v r o ⟨post, l0, l1, line, hl, rfl, ok0, ok1, okl, hln, hlen⟩
    cases post with
    | nil => cases hl
    | cons n post =>
      injection hl with e1 e2
      subst e1 e2
      simp only [List.length_cons] at hln hlen
      have okl1 := okl.1
      have b7 : 0 ≤ n % 7 ∧ n % 7 < 7 := by omega
      repeat walk_at "go"
      refine op_mod (by decide) ?_
      repeat walk_at "go"
      refine ite_dec (fun h1 => ?_) (fun h1 => ?_)
      · obtain ⟨sg, hsg, hs1, hs2⟩ : ∃ sg : List Nat, ([strD [10], strD [13], strD [0], strD [12]] : List PyData)[place (n / 7 % 4) 4]? = some (strD sg) ∧ sg.length ≤ 3 ∧ ∀ c ∈ sg, c < 128 := by
          rcases (by omega : n / 7 % 4 = 0 ∨ n / 7 % 4 = 1 ∨ n / 7 % 4 = 2 ∨ n / 7 % 4 = 3) with h | h | h | h <;> rw [h] <;> exact ⟨_, rfl, by decide, by decide⟩
        obtain ⟨sn, hsn, hn1, hn2⟩ : ∃ sn : List Nat, ([strD [9], strD [9], strD [97], strD [32], strD [98, 99, 100], strD sg] : List PyData)[place (n % 7) 6]? = some (strD sn) ∧ sn.length ≤ 3 ∧ ∀ c ∈ sn, c < 128 := by
          rcases (by omega : n % 7 = 0 ∨ n % 7 = 1 ∨ n % 7 = 2 ∨ n % 7 = 3 ∨ n % 7 = 4 ∨ n % 7 = 5) with h | h | h | h | h | h <;> rw [h]
          · exact ⟨_, rfl, by decide, by decide⟩
          · exact ⟨_, rfl, by decide, by decide⟩
          · exact ⟨_, rfl, by decide, by decide⟩
          · exact ⟨_, rfl, by decide, by decide⟩
          · exact ⟨_, rfl, by decide, by decide⟩
          · exact ⟨_, rfl, hs1, hs2⟩
        repeat walk_at "go"
        refine SE_ListF ?_
        repeat walk_at "go"
        refine SE_ListF ?_
        repeat walk_at "go"
        refine op_div (by decide) (by decide) ?_
        repeat walk_at "go"
        refine op_mod (by decide) ?_
        refine sub_lst (by simp only [List.length_cons, List.length_nil]; omega) (by simp only [List.length_cons, List.length_nil]; omega) (by walk_at "small") hsg ?_
        repeat walk_at "go"
        refine op_mod (by decide) ?_
        refine sub_lst (by simp only [List.length_cons, List.length_nil]; omega) (by simp only [List.length_cons, List.length_nil]; omega) (by walk_at "small") hsn ?_
        repeat walk_at "go"
        refine ⟨_, by walk_at "wk", post, l0, l1, line ++ sn, rfl, rfl, ok0, ok1, ⟨?_, ?_⟩, ?_, ?_⟩
        · rw [List.length_append]; omega
        · intro c hc; rcases List.mem_append.mp hc with hc | hc; exact okl.2 c hc; exact hn2 c hc
        · rw [List.length_append]; omega
        · omega
      · repeat walk_at "go"
        refine op_div (by decide) (by decide) ?_
        repeat walk_at "go"
        refine op_mod (by decide) ?_
        rcases (by omega : n / 7 % 2 = 0 ∨ n / 7 % 2 = 1) with h | h
        · refine sub_own (d := .ref D0) (by walk_at "mem") (by simp only [List.length_cons, List.length_nil]; omega) (by simp only [List.length_cons, List.length_nil]; omega) (by walk_at "small") (by rw [h]; rfl) ?_
          repeat walk_at "go"
          rw [show (l0.map strD).map V.dat ++ [V.str (S line)] = ((l0 ++ [line]).map strD).map V.dat by simp only [List.map_append, List.map_cons, List.map_nil]]
          refine ⟨_, by walk_at "wk", post, l0 ++ [line], l1, [], rfl, rfl, ?_, ok1, ⟨by simp, by simp⟩, by simp only [List.length_nil]; omega, by simp only [List.length_append, List.length_cons, List.length_nil]; omega⟩
          intro l hl; rcases List.mem_append.mp hl with hl | hl; exact ok0 l hl; rw [List.mem_singleton.mp hl]; exact okl
        · refine sub_own (d := .ref D1) (by walk_at "mem") (by simp only [List.length_cons, List.length_nil]; omega) (by simp only [List.length_cons, List.length_nil]; omega) (by walk_at "small") (by rw [h]; rfl) ?_
          repeat walk_at "go"
          rw [show (l1.map strD).map V.dat ++ [V.str (S line)] = ((l1 ++ [line]).map strD).map V.dat by simp only [List.map_append, List.map_cons, List.map_nil]]
          refine ⟨_, by walk_at "wk", post, l0, l1 ++ [line], [], rfl, rfl, ok0, ?_, ⟨by simp, by simp⟩, by simp only [List.length_nil]; omega, by simp only [List.length_append, List.length_cons, List.length_nil]; omega⟩
          intro l hl; rcases List.mem_append.mp hl with hl | hl; exact ok1 l hl; rw [List.mem_singleton.mp hl]; exact okl
  · rintro o ⟨post, l0, l1, line, hl, rfl, ok0, ok1, okl, hln, hlen⟩
    cases post with
    | cons p post => cases hl
    | nil =>
      simp only [List.length_nil] at hlen
      refine SG_frz (D := D0) (ds := l0.map strD) (by walk_at "take") (AllDat.map _) (by walk_at "frz") ?_
      refine SG_frz (D := D1) (ds := l1.map strD) (by walk_at "take") (AllDat.map _) (by walk_at "frz") ?_
      refine SG_frz (D := D) (ds := [.list (l0.map strD), .list (l1.map strD)]) (by walk_at "take") (.cons (.cons .nil)) (by walk_at "frz") ?_
      repeat walk_at "go"
      exact ⟨_, .drop .refl, l0, l1, rfl, rfl, ok0, ok1, by omega, by omega⟩
end
section
variable {W : Wd} {A : Around} {env : Env} {own : Own}
local macro_rules | `(tactic| walk_at "lit") => `(tactic| first | exact l02_0 | exact l02_1 | exact l02_2 | exact l02_3 | exact l02_4 | exact l02_5 | exact l02_6 | exact l02_7 | exact l02_8 | exact l02_9)
local macro_rules | `(tactic| walk_at "size") => `(tactic| (rw [sizeLine_eq]; (try simp only [List.length_append, List.length_cons, List.length_nil, List.length_map]); omega))
/-! ### what is due -/
def fT (since : Int) : List Int → Int → Int
  | [], t => t
  | s :: r, t => fT since r (if 0 < s ∧ 0 < t then t * s - since % s else 0)
def prodM : List Int → Nat
  | [] => 1
  | s :: r => max s.toNat 1 * prodM r
theorem prodM_pos : ∀ l : List Int, 1 ≤ prodM l
  | [] => Nat.le_refl _
  | s :: r => by
    have := prodM_pos r
    have h : 1 * 1 ≤ max s.toNat 1 * prodM r := Nat.mul_le_mul (by omega) this
    rw [prodM]; omega
theorem step_le {s t since : Int} (h0 : 0 ≤ t) (hs : 0 ≤ since) : 0 ≤ (if 0 < s ∧ 0 < t then t * s - since % s else 0) ∧ (if 0 < s ∧ 0 < t then t * s - since % s else 0) ≤ t * (max s.toNat 1 : Nat) := by
  by_cases h : 0 < s ∧ 0 < t
  · rw [if_pos h]
    have h1 := Int.emod_lt_of_pos since h.1
    have h2 := Int.emod_nonneg since (Int.ne_of_gt h.1)
    have h3 : (1 : Int) * s ≤ t * s := Int.mul_le_mul_of_nonneg_right (by omega) (by omega)
    have h4 : ((max s.toNat 1 : Nat) : Int) = s := by omega
    rw [h4]; omega
  · rw [if_neg h]
    exact ⟨by omega, Int.mul_nonneg h0 (by omega)⟩
theorem fT_le {since : Int} (hs : 0 ≤ since) : ∀ (l : List Int) (t : Int), 0 ≤ t → 0 ≤ fT since l t ∧ fT since l t ≤ t * (prodM l : Nat)
  | [], t, h => by rw [fT, prodM]; omega
  | s :: r, t, h => by
    obtain ⟨h1, h2⟩ := step_le (s := s) (since := since) h hs
    obtain ⟨h3, h4⟩ := fT_le hs r _ h1
    rw [fT, prodM]
    refine ⟨h3, Int.le_trans h4 ?_⟩
    rw [Int.natCast_mul, ← Int.mul_assoc]
    exact Int.mul_le_mul_of_nonneg_right h2 (by omega)
/-- the loop over the line: what is told, the tabs that wait, the signs since -/
def dgo (stops : List Int) : List Nat → List Nat → Nat → Nat → List Nat
  | [], due, _, _ => due
  | c :: l, due, tabs, since => if c = 9 then dgo stops l due (tabs + 1) since
    else dgo stops l (due ++ (if 0 < tabs then List.replicate (fT since stops tabs).toNat 9 else []) ++ [if c = 0 then 32 else c]) 0 (if c = 10 ∨ c = 13 then 0 else (if 0 < tabs then 0 else since) + 1)
def dueT (stops : List Int) (l : List Nat) : List Nat := rstripL (fun c => [10].contains c) (dgo stops (l ++ [10]) [] 0 0)
theorem rstrip_snoc (d : List Nat) : rstripL (fun c => [10].contains c) (d ++ [10]) = rstripL (fun c => [10].contains c) d := by
  unfold rstripL
  rw [List.reverse_append, List.reverse_singleton, List.singleton_append, List.takeWhile_cons, if_pos (by decide), List.length_append, List.length_cons, List.length_cons, List.length_nil]
  have h : (d.reverse.takeWhile fun c => [10].contains c).length ≤ d.length := by
    have := (List.takeWhile_sublist (fun c => [10].contains c) (l := d.reverse)).length_le
    rwa [List.length_reverse] at this
  rw [show d.length + (0 + 1) - ((d.reverse.takeWhile fun c => [10].contains c).length + 1) = d.length - (d.reverse.takeWhile fun c => [10].contains c).length by omega]
  rw [List.take_append_of_le_length (by omega)]
theorem rstrip_keep {d : List Nat} (h : d.getLast? ≠ some 10) : rstripL (fun c => [10].contains c) d = d := by
  unfold rstripL
  have : d.reverse.takeWhile (fun c => [10].contains c) = [] := by
    cases e : d.reverse with
    | nil => rfl
    | cons a r =>
      have : d.getLast? = some a := by rw [← List.head?_reverse, e]; rfl
      rw [this] at h
      rw [List.takeWhile_cons, if_neg]
      simp only [List.contains_cons, List.contains_nil, Bool.or_false, beq_iff_eq]
      exact fun e => h (by rw [e])
  rw [this]; simp
theorem cut_last (d : List Nat) : cutL d (some (-1)) none = (match d.getLast? with | some c => [c] | none => []) := by
  cases hd : d.getLast? with
  | none => rw [List.getLast?_eq_none_iff] at hd; subst hd; rfl
  | some c =>
    obtain ⟨e, rfl⟩ : ∃ e, d = e ++ [c] := List.getLast?_eq_some_iff.mp hd
    unfold cutL clipAt
    simp only [Option.elim_none, Option.elim_some, List.length_append, List.length_cons, List.length_nil]
    have : (max 0 (min (if (-1 : Int) < 0 then (-1 : Int) + ((e.length + (0 + 1) : Nat) : Int) else (-1 : Int)) ((e.length + (0 + 1) : Nat) : Int))).toNat = e.length := by rw [if_pos (by omega)]; omega
    rw [this, List.drop_left]
    exact List.take_of_length_le (by simp)
theorem cut_init (e : List Nat) (c : Nat) : cutL (e ++ [c]) none (some (-1)) = e := by
  unfold cutL clipAt
  simp only [Option.elim_none, Option.elim_some, List.length_append, List.length_cons, List.length_nil, List.drop_zero, Nat.sub_zero]
  have : (max 0 (min (if (-1 : Int) < 0 then (-1 : Int) + ((e.length + (0 + 1) : Nat) : Int) else (-1 : Int)) ((e.length + (0 + 1) : Nat) : Int))).toNat = e.length := by rw [if_pos (by omega)]; omega
  rw [this, List.take_left]
theorem c_due (hK : K02 W) (hh : A.handled = none) (hd : A.depth < recursionLimit) (l : List Nat) (hl : l.length ≤ 300) (stops : List Int) (hs : ∀ s ∈ stops, -100 ≤ s ∧ s ≤ 100) (hp : prodM stops ≤ 100) (hsl : stops.length ≤ 100) :
    SLC W A (.ref 129) [.str (S l), .lst (stops.map .int)] own (fun r o => r = .str (S (dueT stops l)) ∧ o = own) := by
  refine' do_callC [Str.ofString "line", Str.ofString "stops"] ?ho ?hcd hd ?hb ?hloc ?nd ?h ?c1 ?c2 ?c3 ?c4
  case ho => exact K_of hK rfl
  case hcd => rw [hK]; rfl
  case hb => intro s vs _ hl; exact BindsTo.of_eq (by match vs, hl with | [_, _], _ => rfl)
  case hloc => decide +kernel
  case nd => decide +kernel
  case c1 => rfl
  case c2 => rfl
  case c3 => rfl
  case c4 => decide +kernel
  intro L
  simp only [List.zip_cons_cons, List.zip_nil_right]
  repeat walk_at "go"
  refine SX_For hh ?_
  repeat walk_at "go"
  refine it_strS fun it => ⟨it, _, _, rfl, rfl, fun r o => ∃ (post due : List Nat) (tabs since : Nat), r = post.map (fun c => V.str (S [c])) ∧
    o = (L, Ob.ns [(Str.ofString "line", .str (S l)), (Str.ofString "stops", .lst (stops.map .int)), (Str.ofString "due", .str (S due)), (Str.ofString "tabs", .int tabs), (Str.ofString "since", .int since)]) :: own ∧
    dgo stops post due tabs since = dgo stops (l ++ [10]) [] 0 0 ∧ due.length + tabs * 101 + post.length * 101 ≤ 301 * 101, ?_, ?_, ?_⟩
  · exact ⟨l ++ [10], [], 0, 0, rfl, rfl, rfl, by simp only [List.length_append, List.length_cons, List.length_nil]; omega⟩
  · rintro v r o ⟨post, due, tabs, since, hr, rfl, inv, hlen⟩
    cases post with
    | nil => cases hr
    | cons c post =>
      injection hr with e1 e2
      subst e1 e2
      have ex : ∀ d : Nat, ([c] = [d]) = (c = d) := fun d => by simp
      simp only [List.length_cons] at hlen
      repeat walk_at "go"
      refine ite_dec (fun h9 => ?_) (fun h9 => ?_)
      · rw [ex] at h9; subst h9
        repeat walk_at "go"
        rw [show ((tabs : Int) + 1) = ((tabs + 1 : Nat) : Int) by omega]
        exact ⟨_, by walk_at "wk", post, due, tabs + 1, since, rfl, rfl, by rw [← inv, dgo, if_pos rfl], by omega⟩
      · rw [ex] at h9
        (first | walk_at "go" | skip)
        refine SG.mono (Q := fun fl o => fl = Fl.next ∧ Wk o ((it, Ob.it (post.map fun c => V.str (S [c]))) :: (L, Ob.ns [(Str.ofString "line", .str (S l)), (Str.ofString "stops", .lst (stops.map .int)), (Str.ofString "due", .str (S (due ++ (if 0 < tabs then List.replicate (fT since stops tabs).toNat 9 else [])))), (Str.ofString "tabs", .int 0), (Str.ofString "since", .int (if 0 < tabs then 0 else since : Nat)), (Str.ofString "sign", .str (S [c]))]) :: own)) ?_ ?_
        · repeat walk_at "go"
          refine ite_dec (fun ht => ?_) (fun ht => ?_)
          · have ht' : 0 < tabs := by omega
            obtain ⟨f1, f2⟩ := fT_le (since := since) (by omega) stops tabs (by omega)
            have f3 : (tabs : Int) * (prodM stops : Nat) ≤ tabs * 100 := Int.mul_le_mul_of_nonneg_left (by omega) (by omega)
            repeat walk_at "go"
            refine SX_For hh ?_
            repeat walk_at "go"
            refine it_list fun it2 => ⟨it2, _, _, rfl, rfl, fun r o => ∃ (ps : List Int) (t : Int), r = (ps.map PyData.int).map V.dat ∧
              o = (it, Ob.it (post.map fun c => V.str (S [c]))) :: (L, Ob.ns [(Str.ofString "line", .str (S l)), (Str.ofString "stops", .lst (stops.map .int)), (Str.ofString "due", .str (S due)), (Str.ofString "tabs", .int t), (Str.ofString "since", .int since), (Str.ofString "sign", .str (S [c]))]) :: own ∧
              fT since ps t = fT since stops tabs ∧ 0 ≤ t ∧ (∀ s ∈ ps, -100 ≤ s ∧ s ≤ 100), ?_, ?_, ?_⟩
            · exact ⟨stops, tabs, rfl, rfl, rfl, by omega, hs⟩
            · rintro v r o ⟨ps, t, hr, rfl, inv2, ht0, hps⟩
              cases ps with
              | nil => cases hr
              | cons s ps =>
                injection hr with e1 e2
                subst e1 e2
                have hsb := hps s List.mem_cons_self
                have hps' : ∀ s ∈ ps, -100 ≤ s ∧ s ≤ 100 := fun x hx => hps x (List.mem_cons_of_mem _ hx)
                obtain ⟨g1, _⟩ := step_le (s := s) (t := t) (since := since) ht0 (by omega)
                repeat walk_at "go"
                refine ite_dec (fun hs1 => ?_) (fun hs1 => ?_)
                · repeat walk_at "go"
                  refine ite_dec (fun hs2 => ?_) (fun hs2 => ?_)
                  · rw [if_pos ⟨hs1, hs2⟩] at g1
                    repeat walk_at "go"
                    refine op_mulR (bits_small (by omega)) ?_
                    repeat walk_at "go"
                    refine op_mod hs1 ?_
                    repeat walk_at "go"
                    exact ⟨_, by walk_at "wk", ps, t * s - since % s, rfl, rfl, by rw [← inv2, fT, if_pos ⟨hs1, hs2⟩], g1, hps'⟩
                  · repeat walk_at "go"
                    exact ⟨_, by walk_at "wk", ps, 0, rfl, rfl, by rw [← inv2, fT, if_neg (fun h => hs2 h.2)], by omega, hps'⟩
                · repeat walk_at "go"
                  exact ⟨_, by walk_at "wk", ps, 0, rfl, rfl, by rw [← inv2, fT, if_neg (fun h => hs1 h.1)], by omega, hps'⟩
            · rintro o ⟨ps, t, hr, rfl, inv2, ht0, hps⟩
              cases ps with
              | cons _ _ => cases hr
              | nil =>
                rw [fT] at inv2
                rw [← inv2] at f1 f2 ⊢
                repeat walk_at "go"
                refine op_mulS f1 (by omega) ?_
                refine op_icatS (by rw [sizeLine_eq, List.length_replicate]; omega) ?_
                repeat walk_at "go"
                rw [if_pos ht', if_pos ht']
                exact ⟨rfl, by walk_at "wk"⟩
          · have ht' : ¬ 0 < tabs := by omega
            have ht0 : tabs = 0 := by omega
            subst ht0
            repeat walk_at "go"
            rw [if_neg ht', if_neg ht', List.append_nil]
            exact ⟨rfl, by walk_at "wk"⟩
        rintro fl o ⟨rfl, wk⟩
        refine SG.wk wk ?_
        clear wk
        obtain ⟨f1, f2⟩ := fT_le (since := since) (by omega) stops tabs (by omega)
        have f3 : (tabs : Int) * (prodM stops : Nat) ≤ tabs * 100 := Int.mul_le_mul_of_nonneg_left (by omega) (by omega)
        have hrun : (if 0 < tabs then List.replicate (fT since stops tabs).toNat 9 else []).length ≤ tabs * 100 := by
          split
          · rw [List.length_replicate]; omega
          · simp
        have inv' := inv
        rw [dgo, if_neg h9] at inv'
        clear inv
        generalize (if 0 < tabs then List.replicate (fT since stops tabs).toNat 9 else []) = run at hrun inv' ⊢
        generalize (if 0 < tabs then 0 else since : Nat) = since' at inv' ⊢
        (first | walk_at "go" | skip)
        refine SG.mono (Q := fun fl o => fl = Fl.next ∧ Wk o ((it, Ob.it (post.map fun c => V.str (S [c]))) :: (L, Ob.ns [(Str.ofString "line", .str (S l)), (Str.ofString "stops", .lst (stops.map .int)), (Str.ofString "due", .str (S (due ++ run ++ [if c = 0 then 32 else c]))), (Str.ofString "tabs", .int 0), (Str.ofString "since", .int since'), (Str.ofString "sign", .str (S [c]))]) :: own)) ?_ ?_
        · repeat walk_at "go"
          refine ite_dec (fun h0 => ?_) (fun h0 => ?_)
          · rw [ex] at h0
            repeat walk_at "go"
            rw [if_pos h0]
            exact ⟨rfl, by walk_at "wk"⟩
          · rw [ex] at h0
            repeat walk_at "go"
            rw [if_neg h0]
            exact ⟨rfl, by walk_at "wk"⟩
        rintro fl o ⟨rfl, wk⟩
        refine SG.wk wk ?_
        clear wk
        generalize hrun2 : due ++ run ++ [if c = 0 then 32 else c] = due' at inv' ⊢
        have hdl : due'.length = due.length + run.length + 1 := by rw [← hrun2]; simp only [List.length_append, List.length_cons, List.length_nil]
        repeat walk_at "go"
        refine cmp_inC ?_
        repeat walk_at "go"
        refine ite_dec (fun h0 => ?_) (fun h0 => ?_)
        · have h1 : c = 10 ∨ c = 13 := by simpa using h0
          repeat walk_at "go"
          rw [if_pos h1] at inv'
          rw [show V.int 0 = V.int ((0 : Nat) : Int) from rfl]
          exact ⟨_, by walk_at "wk", post, due', 0, 0, rfl, rfl, inv', by omega⟩
        · have h1 : ¬ (c = 10 ∨ c = 13) := by simpa using h0
          repeat walk_at "go"
          rw [if_neg h1] at inv'
          rw [show ((since' : Int) + 1) = ((since' + 1 : Nat) : Int) by omega, show V.int 0 = V.int ((0 : Nat) : Int) from rfl]
          exact ⟨_, by walk_at "wk", post, due', 0, since' + 1, rfl, rfl, inv', by omega⟩
  · rintro o ⟨post, due, tabs, since, hr, rfl, inv, hlen⟩
    cases post with
    | cons _ _ => cases hr
    | nil =>
      rw [dgo] at inv
      have hdl : due.length ≤ 31000 := by omega
      have e0 : rstripL (fun c => [10].contains c) due = dueT stops l := by rw [inv]; rfl
      clear inv hlen
      (first | walk_at "go" | skip)
      refine SG.wk (own' := (L, Ob.ns [(Str.ofString "line", .str (S l)), (Str.ofString "stops", .lst (stops.map .int)), (Str.ofString "due", .str (S due))]) :: own) (by walk_at "wk") ?_
      refine SX_While (J := fun n o => ∃ due : List Nat, due.length = n ∧ n ≤ 31000 ∧ rstripL (fun c => [10].contains c) due = dueT stops l ∧ o = (L, Ob.ns [(Str.ofString "line", .str (S l)), (Str.ofString "stops", .lst (stops.map .int)), (Str.ofString "due", .str (S due))]) :: own) due.length ?_ ?_
      · exact ⟨due, rfl, hdl, e0, rfl⟩
      · rintro n o ⟨due, rfl, hdl, e0, rfl⟩
        repeat walk_at "go"
        refine SE_SliceSS ?_
        repeat walk_at "go"
        refine ⟨by rw [sizeLine_eq]; omega, ?_⟩
        rw [cut_last]
        cases hq : due.getLast? with
        | none =>
          dsimp only
          repeat walk_at "go"
          refine ite_dec (fun h => absurd h (by simp)) (fun _ => ?_)
          rw [rstrip_keep (by rw [hq]; exact fun h => nomatch h)] at e0
          rw [e0]
          repeat walk_at "go"
          exact ⟨_, .drop .refl, rfl, rfl⟩
        | some c =>
          dsimp only
          repeat walk_at "go"
          refine ite_dec (fun h0 => ?_) (fun h0 => ?_)
          · have hc : c = 10 := by simpa using h0
            subst hc
            obtain ⟨e, rfl⟩ := List.getLast?_eq_some_iff.mp hq
            rw [rstrip_snoc] at e0
            simp only [List.length_append, List.length_cons, List.length_nil] at hdl
            repeat walk_at "go"
            refine SE_SliceSS ?_
            repeat walk_at "go"
            refine ⟨by rw [sizeLine_eq]; simp only [List.length_append, List.length_cons, List.length_nil]; omega, ?_⟩
            rw [cut_init]
            repeat walk_at "go"
            exact ⟨_, e.length, by walk_at "wk", by simp, e, rfl, by omega, e0, rfl⟩
          · have hc : due.getLast? ≠ some 10 := by rw [hq]; intro h; apply h0; cases h; rfl
            repeat walk_at "go"
            rw [rstrip_keep hc] at e0
            rw [e0]
            repeat walk_at "go"
            exact ⟨_, .drop .refl, rfl, rfl⟩
end
section
variable {W : Wd} {A : Around} {env : Env} {own : Own}
/-! ### plain: tabs to runs, pass by pass -/
abbrev nl (c : Nat) : Bool := [10].contains c
def mS (c : Nat) : Nat := if c = 0 then 32 else c
theorem mS9 {c : Nat} (h : c ≠ 9) : mS c ≠ 9 := by unfold mS; split <;> omega
theorem mSm (c : Nat) : mS (mS c) = mS c := by unfold mS; split <;> simp_all
theorem mSn (c : Nat) : (mS c = 10 ∨ mS c = 13) = (c = 10 ∨ c = 13) := by unfold mS; split <;> simp_all
def bl (n col : Nat) : Nat := if 0 < n then n - col % n else 0
def eT (n : Nat) : Nat → List Nat → List Nat
  | _, [] => []
  | col, c :: l => if c = 9 then List.replicate (bl n col) 9 ++ eT n (col + bl n col) l else mS c :: eT n (if c = 10 ∨ c = 13 then 0 else col + 1) l
theorem repl_app (c : Nat) (z a b : List Nat) : repl c z (a ++ b) = repl c z a ++ repl c z b := List.flatMap_append
theorem repl_cons (c d : Nat) (z l : List Nat) : repl c z (d :: l) = (if d = c then z else [d]) ++ repl c z l := by
  unfold repl; rw [List.flatMap_cons]
theorem repl_rep (c d : Nat) (k : Nat) : repl c [d] (List.replicate k c) = List.replicate k d := by
  induction k with
  | zero => rfl
  | succ k ih => rw [List.replicate_succ, repl_cons, if_pos rfl, ih]; rfl
theorem repl_none {c d e : Nat} (h : e ≠ c) (k : Nat) : repl c [d] (List.replicate k e) = List.replicate k e := by
  induction k with
  | zero => rfl
  | succ k ih => rw [List.replicate_succ, repl_cons, if_neg h, ih]; rfl
theorem expT_eq (n : Nat) : ∀ (l : List Nat) (col : Nat), repl 0 [32] (repl 32 [9] (expandL n col (repl 32 [0] l))) = eT n col l
  | [], _ => rfl
  | c :: l, col => by
    rw [repl_cons, eT]
    by_cases h9 : c = 9
    · subst h9
      rw [if_neg (by decide), if_pos rfl, List.singleton_append, expandL, if_pos rfl, repl_app, repl_app, repl_rep, repl_none (by decide), expT_eq n l]
      rfl
    · rw [if_neg h9]
      by_cases h32 : c = 32
      · subst h32
        rw [if_pos rfl, List.singleton_append, expandL, if_neg (by decide), repl_cons, if_neg (by decide), List.singleton_append, repl_cons, if_pos rfl, expT_eq n l]
        rfl
      · rw [if_neg h32, List.singleton_append, expandL, if_neg h9, repl_cons, if_neg h32, List.singleton_append, repl_cons, expT_eq n l]
        unfold mS
        split <;> rfl
theorem expT_is (s : Int) (l : List Nat) : expT s l = rstripL nl (eT s.toNat 0 l) := by
  unfold expT; rw [expT_eq]
theorem fT_zero (since : Int) : ∀ l : List Int, fT since l 0 = 0
  | [] => rfl
  | s :: r => by rw [fT, if_neg (by omega)]; exact fT_zero since r
theorem fT_app (since s : Int) : ∀ (l : List Int) (t : Int), fT since (l ++ [s]) t = (if 0 < s ∧ 0 < fT since l t then fT since l t * s - since % s else 0)
  | [], t => rfl
  | a :: r, t => by rw [List.cons_append, fT, fT, fT_app since s r]
theorem fT_bad {since : Int} : ∀ {l : List Int} {t : Int}, 0 ≤ t → (∃ x ∈ l, x ≤ 0) → fT since l t = 0
  | s :: r, t, h0, ⟨x, hx, hx0⟩ => by
    rw [fT]
    by_cases hs : 0 < s
    · rcases List.mem_cons.mp hx with rfl | hx
      · omega
      · by_cases ht : 0 < t
        · rw [if_pos ⟨hs, ht⟩]
          have h1 := Int.emod_lt_of_pos since hs
          have h3 : (1 : Int) * s ≤ t * s := Int.mul_le_mul_of_nonneg_right (by omega) (by omega)
          exact fT_bad (by omega) ⟨x, hx, hx0⟩
        · rw [if_neg (by omega)]; exact fT_zero since r
    · rw [if_neg (by omega)]; exact fT_zero since r
theorem fT_good {since : Int} : ∀ {l : List Int} {t : Int}, 0 < t → (∀ x ∈ l, 0 < x) → 0 < fT since l t
  | [], t, h0, _ => h0
  | s :: r, t, h0, hg => by
    have hs := hg s List.mem_cons_self
    rw [fT, if_pos ⟨hs, h0⟩]
    have h1 := Int.emod_lt_of_pos since hs
    have h3 : (1 : Int) * s ≤ t * s := Int.mul_le_mul_of_nonneg_right (by omega) (by omega)
    exact fT_good (by omega) fun x hx => hg x (List.mem_cons_of_mem _ hx)
def dT (stops : List Int) : Nat → Nat → List Nat → List Nat
  | tabs, since, [] => List.replicate (fT since stops tabs).toNat 9
  | tabs, since, c :: l => if c = 9 then dT stops (tabs + 1) since l
    else List.replicate (fT since stops tabs).toNat 9 ++ mS c :: dT stops 0 (if c = 10 ∨ c = 13 then 0 else (if 0 < tabs then 0 else since) + 1) l
theorem run_if (stops : List Int) (since tabs : Nat) : (if 0 < tabs then List.replicate (fT since stops tabs).toNat 9 else ([] : List Nat)) = List.replicate (fT since stops tabs).toNat 9 := by
  by_cases h : 0 < tabs
  · rw [if_pos h]
  · rw [if_neg h, show tabs = 0 by omega]
    show [] = List.replicate (fT since stops 0).toNat 9
    rw [fT_zero]; rfl
theorem dgo_eq (stops : List Int) : ∀ (l due : List Nat) (tabs since : Nat), dgo stops (l ++ [10]) due tabs since = due ++ dT stops tabs since l ++ [10]
  | [], due, tabs, since => by
    rw [List.nil_append, dgo, if_neg (by decide), dgo, dT, run_if]; rfl
  | c :: l, due, tabs, since => by
    rw [List.cons_append, dgo, dT]
    by_cases h9 : c = 9
    · rw [if_pos h9, if_pos h9, dgo_eq stops l]
    · rw [if_neg h9, if_neg h9, dgo_eq stops l, run_if]
      show due ++ List.replicate (fT since stops tabs).toNat 9 ++ [mS c] ++ _ ++ [10] = _
      simp only [List.append_assoc, List.cons_append, List.nil_append]
theorem dueT_is (stops : List Int) (l : List Nat) : dueT stops l = rstripL nl (dT stops 0 0 l) := by
  unfold dueT; rw [dgo_eq, List.nil_append, rstrip_snoc]
/-- a run of tabs -/
theorem eT_run (n : Nat) (hn : 0 < n) (rest : List Nat) : ∀ (k col : Nat), eT n col (List.replicate k 9 ++ rest) = List.replicate (if k = 0 then 0 else k * n - col % n) 9 ++ eT n (if k = 0 then col else col + (k * n - col % n)) rest
  | 0, col => by simp
  | k + 1, col => by
    have hb : bl n col = n - col % n := by unfold bl; rw [if_pos hn]
    have hm := Nat.mod_lt col hn
    rw [List.replicate_succ, List.cons_append, eT, if_pos rfl, hb, eT_run n hn rest k, if_neg (Nat.succ_ne_zero k), if_neg (Nat.succ_ne_zero k)]
    have h0 : (col + (n - col % n)) % n = 0 := by
      have e := Nat.div_add_mod col n
      have : col + (n - col % n) = n * (col / n + 1) := by rw [Nat.mul_add, Nat.mul_one]; omega
      rw [this]; exact Nat.mul_mod_right _ _
    by_cases hk : k = 0
    · subst hk; simp
    · rw [if_neg hk, if_neg hk, h0, ← List.append_assoc, List.replicate_append_replicate]
      have hkn : (k + 1) * n = k * n + n := by rw [Nat.add_mul, Nat.one_mul]
      rw [hkn, show n - col % n + (k * n - 0) = k * n + n - col % n by omega, show col + (n - col % n) + (k * n - 0) = col + (k * n + n - col % n) by omega]
theorem eT_run0 (rest : List Nat) : ∀ (k col : Nat), eT 0 col (List.replicate k 9 ++ rest) = eT 0 col rest
  | 0, col => by simp
  | k + 1, col => by
    rw [List.replicate_succ, List.cons_append, eT, if_pos rfl, show bl 0 col = 0 from rfl]
    exact eT_run0 rest k col
theorem eT_sign (n col c : Nat) (l : List Nat) (h : c ≠ 9) : eT n col (mS c :: l) = mS c :: eT n (if c = 10 ∨ c = 13 then 0 else col + 1) l := by
  rw [eT, if_neg (mS9 h), mSm]
  simp only [mSn]
theorem main_bad {stops : List Int} (s : Int) (hb : ∃ x ∈ stops, x ≤ 0) : ∀ (l : List Nat) (col tabs since : Nat), eT s.toNat col (dT stops tabs since l) = dT (stops ++ [s]) tabs since l
  | [], col, tabs, since => by
    rw [dT, dT, fT_app, fT_bad (by omega) hb, if_neg (show ¬ (0 < s ∧ (0 : Int) < 0) by omega)]; rfl
  | c :: l, col, tabs, since => by
    rw [dT, dT]
    by_cases h9 : c = 9
    · rw [if_pos h9, if_pos h9, main_bad s hb l]
    · rw [if_neg h9, if_neg h9, fT_app, fT_bad (by omega) hb, if_neg (show ¬ (0 < s ∧ (0 : Int) < 0) by omega)]
      show eT s.toNat col (mS c :: _) = mS c :: _
      rw [eT_sign _ _ _ _ h9, main_bad s hb l]
theorem mod_nat (a n : Nat) : ((a : Int) % (n : Int)) = ((a % n : Nat) : Int) := by rw [Int.natCast_emod]
theorem run_len {n k col since : Nat} (hn : 0 < n) (hc : col % n = since % n) : (if 0 < (n : Int) ∧ 0 < (k : Int) then (k : Int) * (n : Int) - (since : Int) % (n : Int) else 0).toNat = if k = 0 then 0 else k * n - col % n := by
  by_cases hk : k = 0
  · rw [if_pos hk, if_neg (show ¬ (0 < (n : Int) ∧ 0 < (k : Int)) by omega)]; rfl
  · rw [if_neg hk, if_pos (show 0 < (n : Int) ∧ 0 < (k : Int) by omega), mod_nat, ← Int.natCast_mul, hc]
    have h1 := Nat.mod_lt since hn
    have h2 : 1 * n ≤ k * n := Nat.mul_le_mul_right _ (by omega)
    omega
theorem main_good {stops : List Int} (s : Int) (hg : ∀ x ∈ stops, 0 < x) : ∀ (l : List Nat) (col tabs since : Nat), (0 < s.toNat → col % s.toNat = since % s.toNat) → eT s.toNat col (dT stops tabs since l) = dT (stops ++ [s]) tabs since l := by
  intro l
  by_cases hs : 0 < s
  · obtain ⟨n, rfl⟩ : ∃ n : Nat, s = (n : Int) := ⟨s.toNat, by omega⟩
    have hn : 0 < n := by omega
    rw [Int.toNat_natCast]
    have key : ∀ tabs since : Nat, ∃ k : Nat, fT since stops tabs = (k : Int) ∧ (k = 0 ↔ tabs = 0) := fun tabs since => by
      refine ⟨(fT since stops tabs).toNat, ?_, ?_⟩
      · have := (fT_le (since := since) (by omega) stops tabs (by omega)).1; omega
      · constructor
        · intro h
          by_cases ht : tabs = 0
          · exact ht
          · have := fT_good (since := since) (l := stops) (t := tabs) (by omega) hg; omega
        · intro h; subst h
          show (fT since stops 0).toNat = 0
          rw [fT_zero]; rfl
    induction l with
    | nil =>
      intro col tabs since hc
      obtain ⟨k, hk, _⟩ := key tabs since
      rw [dT, dT, fT_app, hk, run_len hn (hc hn), Int.toNat_natCast]
      have := eT_run n hn [] k col
      rw [List.append_nil] at this
      rw [this]; simp [eT]
    | cons c l ih =>
      intro col tabs since hc
      rw [dT, dT]
      by_cases h9 : c = 9
      · rw [if_pos h9, if_pos h9, ih col (tabs + 1) since hc]
      · obtain ⟨k, hk, hk0⟩ := key tabs since
        rw [if_neg h9, if_neg h9, fT_app, hk, run_len hn (hc hn), Int.toNat_natCast, eT_run n hn, eT_sign _ _ _ _ h9]
        congr 2
        refine ih _ 0 _ fun _ => ?_
        by_cases hcn : c = 10 ∨ c = 13
        · rw [if_pos hcn, if_pos hcn]
        · rw [if_neg hcn, if_neg hcn]
          by_cases hk1 : k = 0
          · rw [if_pos hk1, if_neg (show ¬ 0 < tabs by rw [hk0.mp hk1]; omega), Nat.add_mod, hc hn, ← Nat.add_mod]
          · have ht : 0 < tabs := Nat.pos_of_ne_zero fun h => hk1 (hk0.mpr h)
            have h2 : 1 * n ≤ k * n := Nat.mul_le_mul_right _ (by omega)
            have h3 := Nat.mod_lt col hn
            have e := Nat.div_add_mod col n
            have : col + (k * n - col % n) = n * (col / n + k) := by rw [Nat.mul_add, Nat.mul_comm n k]; omega
            rw [if_neg hk1, if_pos ht, this, Nat.mul_add_mod, Nat.zero_add]
  · have h0 : s.toNat = 0 := by omega
    rw [h0]
    induction l with
    | nil =>
      intro col tabs since hc
      rw [dT, dT, fT_app, if_neg (fun h => hs h.1)]
      have := eT_run0 [] (fT since stops tabs).toNat col
      rw [List.append_nil] at this
      rw [this]; rfl
    | cons c l ih =>
      intro col tabs since hc
      rw [dT, dT]
      by_cases h9 : c = 9
      · rw [if_pos h9, if_pos h9, ih col (tabs + 1) since hc]
      · rw [if_neg h9, if_neg h9, fT_app, if_neg (show ¬ (0 < s ∧ 0 < fT since stops tabs) from fun h => hs h.1), eT_run0, eT_sign _ _ _ _ h9]
        show _ = mS c :: _
        congr 1
        exact ih _ 0 _ fun h => absurd h (by omega)
theorem main_step (stops : List Int) (s : Int) (l : List Nat) : eT s.toNat 0 (dT stops 0 0 l) = dT (stops ++ [s]) 0 0 l := by
  by_cases hb : ∃ x ∈ stops, x ≤ 0
  · exact main_bad s hb l 0 0 0
  · exact main_good s (fun x hx => by have : ¬ x ≤ 0 := fun h => hb ⟨x, hx, h⟩; omega) l 0 0 0 fun _ => rfl
theorem dT_nil : ∀ (l : List Nat) (tabs since : Nat), dT [] tabs since l = List.replicate tabs 9 ++ l.map mS
  | [], tabs, since => by rw [dT, fT]; simp
  | c :: l, tabs, since => by
    rw [dT, dT_nil, dT_nil, fT, List.map_cons, Int.toNat_natCast]
    by_cases h9 : c = 9
    · rw [if_pos h9, h9, List.replicate_succ', List.append_assoc]; rfl
    · rw [if_neg h9]; rfl
theorem eT_map (n : Nat) : ∀ (l : List Nat) (col : Nat), eT n col (l.map mS) = eT n col l
  | [], _ => rfl
  | c :: l, col => by
    by_cases h9 : c = 9
    · subst h9; rw [List.map_cons, show mS 9 = 9 from rfl, eT, eT, if_pos rfl, if_pos rfl, eT_map n l]
    · rw [List.map_cons, eT_sign _ _ _ _ h9, eT_map n l, eT, if_neg h9]
theorem strip_rep (a : List Nat) : ∀ k : Nat, rstripL nl (a ++ List.replicate k 10) = rstripL nl a
  | 0 => by simp
  | k + 1 => by rw [List.replicate_succ', ← List.append_assoc, rstrip_snoc, strip_rep a k]
theorem eT_nls (n : Nat) (k : Nat) : ∀ (a : List Nat) (col : Nat), eT n col (a ++ List.replicate k 10) = eT n col a ++ List.replicate k 10
  | [], col => by
    rw [List.nil_append, eT, List.nil_append]
    induction k generalizing col with
    | zero => rfl
    | succ k ih => rw [List.replicate_succ, eT, if_neg (by decide), ih]; rfl
  | c :: a, col => by
    rw [List.cons_append, eT, eT]
    by_cases h9 : c = 9
    · rw [if_pos h9, if_pos h9, eT_nls n k a, List.append_assoc]
    · rw [if_neg h9, if_neg h9, eT_nls n k a]; rfl
theorem strip_is (x : List Nat) : ∃ k, x = rstripL nl x ++ List.replicate k 10 := by
  induction h : x.length generalizing x with
  | zero => exact ⟨0, by rw [List.length_eq_zero_iff] at h; subst h; rfl⟩
  | succ m ih =>
    by_cases hl : x.getLast? = some 10
    · obtain ⟨e, rfl⟩ := List.getLast?_eq_some_iff.mp hl
      obtain ⟨k, hk⟩ := ih e (by simpa using h)
      refine ⟨k + 1, ?_⟩
      rw [rstrip_snoc, List.replicate_succ', ← List.append_assoc, ← hk]
    · exact ⟨0, by rw [rstrip_keep hl]; simp⟩
theorem strip_eT (n : Nat) (x : List Nat) : rstripL nl (eT n 0 (rstripL nl x)) = rstripL nl (eT n 0 x) := by
  obtain ⟨k, hk⟩ := strip_is x
  have h : eT n 0 x = eT n 0 (rstripL nl x) ++ List.replicate k 10 := by
    rw [← eT_nls, ← hk]
  rw [h, strip_rep]
def passes (stops : List Int) (l : List Nat) : List Nat := stops.foldl (fun x s => expT s x) l
theorem passes_snoc (stops : List Int) (s : Int) (l : List Nat) : passes (stops ++ [s]) l = expT s (passes stops l) := by unfold passes; rw [List.foldl_append]; rfl
theorem passes_due (l : List Nat) : ∀ (stops : List Int) (s : Int), passes (stops ++ [s]) l = dueT (stops ++ [s]) l := by
  intro stops
  have key : ∀ (r : List Int) (s : Int), passes (r.reverse ++ [s]) l = dueT (r.reverse ++ [s]) l := by
    intro r
    induction r with
    | nil =>
      intro s
      rw [List.reverse_nil, passes_snoc, dueT_is, expT_is, ← main_step, dT_nil]
      show rstripL nl (eT s.toNat 0 l) = rstripL nl (eT s.toNat 0 (l.map mS))
      rw [eT_map]
    | cons a r ih =>
      intro s
      rw [List.reverse_cons, passes_snoc, ih a, dueT_is, dueT_is, expT_is, strip_eT, main_step]
  intro s
  have := key stops.reverse s
  rwa [List.reverse_reverse] at this
end
section
variable {W : Wd} {A : Around} {env : Env} {own : Own}
local macro_rules | `(tactic| walk_at "lit") => `(tactic| first | exact l02_0 | exact l02_1 | exact l02_2 | exact l02_3 | exact l02_4 | exact l02_5 | exact l02_6 | exact l02_7 | exact l02_8 | exact l02_9)
local macro_rules | `(tactic| walk_at "size") => `(tactic| (rw [sizeLine_eq]; (try simp only [List.length_append, List.length_cons, List.length_nil, List.length_map]); omega))
theorem prodM_app : ∀ (a b : List Int), prodM (a ++ b) = prodM a * prodM b
  | [], b => by rw [List.nil_append, prodM, Nat.one_mul]
  | s :: a, b => by rw [List.cons_append, prodM, prodM, prodM_app a b, Nat.mul_assoc]
theorem eT_mem (n : Nat) : ∀ (l : List Nat) (col c : Nat), c ∈ eT n col l → c = 9 ∨ c = 32 ∨ c ∈ l
  | [], _, _, h => by cases h
  | d :: l, col, c, h => by
    rw [eT] at h
    split at h
    · rcases List.mem_append.mp h with h | h
      · exact .inl (List.eq_of_mem_replicate h)
      · rcases eT_mem n l _ c h with h | h | h
        · exact .inl h
        · exact .inr (.inl h)
        · exact .inr (.inr (List.mem_cons_of_mem _ h))
    · rcases List.mem_cons.mp h with h | h
      · unfold mS at h
        split at h
        · exact .inr (.inl h)
        · exact .inr (.inr (h ▸ List.mem_cons_self))
      · rcases eT_mem n l _ c h with h | h | h
        · exact .inl h
        · exact .inr (.inl h)
        · exact .inr (.inr (List.mem_cons_of_mem _ h))
theorem expT_ok {N : Nat} {l : List Nat} (s : Int) (h : LineOk N l) : LineOk (N * max s.toNat 1) (expT s l) := by
  refine ⟨Nat.le_trans (expT_len s l) (Nat.mul_le_mul_right _ h.1), fun c hc => ?_⟩
  rw [expT_is] at hc
  unfold rstripL at hc
  rcases eT_mem _ _ _ _ (List.mem_of_mem_take hc) with rfl | rfl | hc
  · decide
  · decide
  · exact h.2 c hc
theorem passes_ok {l : List Nat} (h : LineOk 300 l) (done : List Int) : LineOk (300 * prodM done) (passes done l) := by
  have key : ∀ r : List Int, LineOk (300 * prodM r.reverse) (passes r.reverse l) := by
    intro r
    induction r with
    | nil => simpa [passes, prodM] using h
    | cons a r ih =>
      rw [List.reverse_cons, passes_snoc, prodM_app, prodM, prodM, Nat.mul_one, ← Nat.mul_assoc]
      exact expT_ok a ih
  have := key done.reverse
  rwa [List.reverse_reverse] at this
/-- the rows of tab stops -/
def rowsI : List (List Int) := [[2, 3], [3, 2], [4, 3], [2, 2, 3], [3, 1, 4], [5, 2], [8], [1, 2, 2], [3, 0], [-1, 2]]
theorem row_at {k : Int} (h0 : 0 ≤ k) (h1 : k < 10) : ∃ stops : List Int, (rowsI.map fun r => PyData.list (r.map .int))[place k 10]? = some (.list (stops.map .int)) ∧ prodM stops ≤ 12 ∧ (∀ s ∈ stops, -100 ≤ s ∧ s ≤ 100) ∧ stops.length ≤ 3 ∧ ∃ a s, stops = a ++ [s] := by
  have key : ∀ m : Fin 10, ∃ stops : List Int, rowsI[m.val]? = some stops ∧ prodM stops ≤ 12 ∧ (∀ s ∈ stops, -100 ≤ s ∧ s ≤ 100) ∧ stops.length ≤ 3 ∧ ∃ a s, stops = a ++ [s] := by
    intro m
    have h2 : ∀ m : Fin 10, prodM (rowsI.getD m.val []) ≤ 12 ∧ (∀ s ∈ rowsI.getD m.val [], -100 ≤ s ∧ s ≤ 100) ∧ (rowsI.getD m.val []).length ≤ 3 ∧ (rowsI.getD m.val []) = (rowsI.getD m.val []).dropLast ++ [(rowsI.getD m.val []).getLastD 0] := by decide +kernel
    have h3 : m.val < rowsI.length := m.isLt
    have e : rowsI.getD m.val [] = rowsI[m.val] := by rw [List.getD_eq_getElem?_getD, List.getElem?_eq_getElem h3]; rfl
    obtain ⟨g1, g2, g3, g4⟩ := h2 m
    rw [e] at g1 g2 g3 g4
    exact ⟨rowsI[m.val], List.getElem?_eq_getElem h3, g1, g2, g3, _, _, g4⟩
  obtain ⟨stops, hs, r⟩ := key ⟨k.toNat, by omega⟩
  refine ⟨stops, ?_, r⟩
  unfold place
  rw [if_neg (by omega), List.getElem?_map, hs]; rfl
theorem cut_one (ns : List Int) : cutL (ns.map PyData.int) (some 1) none = (ns.drop 1).map PyData.int := by
  unfold cutL clipAt
  simp only [Option.elim_none, Option.elim_some, List.length_map]
  have : (max 0 (min (if (1 : Int) < 0 then (1 : Int) + (ns.length : Int) else (1 : Int)) (ns.length : Int))).toNat = min 1 ns.length := by rw [if_neg (by omega)]; omega
  rw [this]
  cases ns with
  | nil => rfl
  | cons a r =>
    have : min 1 (a :: r).length = 1 := by simp only [List.length_cons]; omega
    rw [this]
    simp only [List.map_cons, List.drop_succ_cons, List.drop_zero, List.length_cons, Nat.add_sub_cancel]
    exact List.take_of_length_le (by simp)
theorem first_at (ns : List Int) : ∃ n0 : Int, (ns.map PyData.int ++ [PyData.int 3])[place 0 (ns.map PyData.int ++ [PyData.int 3]).length]? = some (.int n0) := by
  cases ns with
  | nil => exact ⟨3, rfl⟩
  | cons a r => exact ⟨a, rfl⟩
abbrev toldT (done : List Int) (l0 l1 : List (List Nat)) : PyData := .tuple [.list (l0.map fun l => strD (passes done l)), .list (l1.map fun l => strD (passes done l))]
def sw (n : Nat) (a b : List (List Nat)) : List (List Nat) := if n % 2 = 0 then a else b
set_option maxHeartbeats 4000000 in
theorem c_law (hK : K02 W) (hh : A.handled = none) (hd : A.depth < 320) (hu : A.units < 100) (htab : (55, Ob.prop (TabP tabsPos tabsQual)) ∈ own) (ns : List Int) (hn : ns.length ≤ 63) :
    SLC W A (.ref 134) [.lst (ns.map .int)] own (fun r o => r = .bool true ∧ o = own) := by
  refine' do_callE [Str.ofString "script"] [(Str.ofString "script", .lst (ns.map .int))] [(Str.ofString "stops", 1, none)] ?ho ?hcd (by have : recursionLimit = 1000 := rfl; omega) ?hb ?hcl ?ndc ?hkind ?hbind ?h ?c1 ?c2 ?c3
  case ho => exact K_of hK rfl
  case hcd => rw [hK]; rfl
  case hb => intro s vs _ hl; exact BindsTo.of_eq (by match vs, hl with | [_], _ => rfl)
  case hcl => intro L; rfl
  case ndc => simp only [List.map_cons, List.map_nil]; decide +kernel
  case hkind => simp only [List.map_cons, List.map_nil]; decide +kernel
  case hbind =>
    intro fz vs L r
    cases r with | cons r1 r => cases r; exact ⟨⟨⟨_, rfl, r1⟩, trivial⟩, rfl, trivial⟩
  case c1 => rfl
  case c2 => rfl
  case c3 => rfl
  intro L
  simp only [List.map_cons, List.map_nil, List.cons_append, List.nil_append]
  refine @deeper_gen W A _ _ _ _ _ hh ?_
  intro A' hh' hd' hu'
  have hrec : recursionLimit = 1000 := rfl
  have hcl : cLine = 9900 := rfl
  repeat walk_at "go"
  repeat (refine SE_ListF ?_; repeat walk_at "go")
  obtain ⟨n0, hn0⟩ := first_at ns
  refine op_addL (by rw [sizeLine_eq]; simp only [List.length_map, List.length_cons, List.length_nil]; omega) ?_
  repeat walk_at "go"
  refine sub_lst (by simp only [List.length_append, List.length_cons, List.length_nil]; omega) (by simp only [List.length_append, List.length_cons, List.length_nil]; omega) (by rw [sizeLine_eq]; simp only [List.length_append, List.length_map, List.length_cons, List.length_nil]; omega) hn0 ?_
  repeat walk_at "go"
  refine op_mod (by decide) ?_
  obtain ⟨stops, hst, hp, hsb, hsl, aa, ss, hss⟩ := row_at (k := n0 % 10) (by omega) (by omega)
  refine sub_lst (d := .list (stops.map .int)) (by simp only [List.length_cons, List.length_nil]; omega) (by simp only [List.length_cons, List.length_nil]; omega) (by walk_at "small") hst ?_
  repeat walk_at "go"
  refine SE_SliceL ?_
  repeat walk_at "go"
  refine ⟨by rw [sizeLine_eq]; simp only [List.length_map]; omega, ?_⟩
  rw [cut_one]
  repeat (refine SE_ListF ?_; repeat walk_at "go")
  refine op_addL (by rw [sizeLine_eq]; simp only [List.length_map, List.length_cons, List.length_nil, List.length_drop]; omega) ?_
  rw [show (ns.drop 1).map PyData.int ++ [PyData.int 2, PyData.int 0, PyData.int 3, PyData.int 5, PyData.int 0, PyData.int 6, PyData.int 4, PyData.int 1, PyData.int 7, PyData.int 12, PyData.int 5, PyData.int 13] = (ns.drop 1 ++ [2, 0, 3, 5, 0, 6, 4, 1, 7, 12, 5, 13]).map PyData.int by rw [List.map_append]; rfl]
  repeat walk_at "go"
  refine ⟨kp_K (by rw [hK]; rfl), SLC.call ((c_lists hK hh' (by omega) _ (by simp only [List.length_append, List.length_drop, List.length_cons, List.length_nil]; omega)).mono ?_)⟩
  rintro r o ⟨l0, l1, rfl, rfl, ok0, ok1, hl0, hl1⟩
  repeat walk_at "go"
  refine sub_lst (d := .list (l0.map strD)) (by simp only [List.length_cons, List.length_nil]; omega) (by simp only [List.length_cons, List.length_nil]; omega) (by walk_at "small") rfl ?_
  repeat walk_at "go"
  refine call_listL (by walk_at "size") ?_
  repeat walk_at "go"
  refine sub_lst (d := .list (l1.map strD)) (by simp only [List.length_cons, List.length_nil]; omega) (by simp only [List.length_cons, List.length_nil]; omega) (by walk_at "small") rfl ?_
  repeat walk_at "go"
  refine call_listL (by walk_at "size") ?_
  repeat walk_at "go"
  rw [show V.tup [.list (l0.map strD), .list (l1.map strD)] = V.dat (toldT [] l0 l1) from rfl]
  refine SG.wk (own' := (L, Ob.ns [(Str.ofString "lists", .lst [.list (l0.map strD), .list (l1.map strD)]), (Str.ofString "told", .dat (toldT [] l0 l1))]) :: (L + 1, Ob.cell (some (.lst (stops.map .int)))) :: own) (by walk_at "wk") ?_
  refine SX_For hh' ?_
  repeat walk_at "go"
  refine it_list fun it => ⟨it, _, _, rfl, rfl, fun l o => ∃ done post : List Int, stops = done ++ post ∧ l = (post.map PyData.int).map V.dat ∧
    o = (L, Ob.ns [(Str.ofString "lists", .lst [.list (l0.map strD), .list (l1.map strD)]), (Str.ofString "told", .dat (toldT done (sw done.length l0 l1) (sw done.length l1 l0)))]) :: (L + 1, Ob.cell (some (.lst (stops.map .int)))) :: own, ?_, ?_, ?_⟩
  · exact ⟨[], stops, rfl, rfl, rfl⟩
  · rintro v r o ⟨done, post, hst2, hl, rfl⟩
    cases post with
    | nil => cases hl
    | cons s post =>
      injection hl with e1 e2
      subst e1 e2
      have okx : ∀ l ∈ sw done.length l0 l1, LineOk 300 l := by unfold sw; split <;> assumption
      have oky : ∀ l ∈ sw done.length l1 l0, LineOk 300 l := by unfold sw; split <;> assumption
      have hlx : (sw done.length l0 l1).length ≤ 100 := by unfold sw; split <;> assumption
      have hly : (sw done.length l1 l0).length ≤ 100 := by unfold sw; split <;> assumption
      have hsx : sw (done ++ [s]).length l0 l1 = sw done.length l1 l0 := by
        unfold sw; rw [List.length_append, List.length_cons, List.length_nil]
        by_cases h : done.length % 2 = 0
        · rw [if_pos h, if_neg (by omega)]
        · rw [if_neg h, if_pos (by omega)]
      have hsy : sw (done ++ [s]).length l1 l0 = sw done.length l0 l1 := by
        unfold sw; rw [List.length_append, List.length_cons, List.length_nil]
        by_cases h : done.length % 2 = 0
        · rw [if_pos h, if_neg (by omega)]
        · rw [if_neg h, if_pos (by omega)]
      have hsm := hsb s (by rw [hst2]; exact List.mem_append_right _ List.mem_cons_self)
      have hpd : prodM done * max s.toNat 1 ≤ 12 := by
        have h1 : prodM stops = prodM done * (max s.toNat 1 * prodM post) := by rw [hst2, prodM_app, prodM]
        have h2 := prodM_pos post
        have h3 : prodM done * (max s.toNat 1 * 1) ≤ prodM done * (max s.toNat 1 * prodM post) := Nat.mul_le_mul_left _ (Nat.mul_le_mul_left _ h2)
        rw [Nat.mul_one] at h3; omega
      have hst3 : stops = (done ++ [s]) ++ post := by rw [hst2, List.append_assoc]; rfl
      generalize sw done.length l0 l1 = xs at okx hlx hsy
      generalize sw done.length l1 l0 = ys at oky hly hsx
      repeat walk_at "go"
      refine ⟨kp_K (by rw [hK]; rfl), do_sheet1 hK hh' (by omega) fun x dx => ?_⟩
      repeat walk_at "go"
      refine mth_inst (cls02 hK) (by walk_at "mem") (by walk_at "mem") (by rw [hK]; rfl) (by rw [hK]; rfl) (by walk_at "notin") ?_
      repeat walk_at "go"
      refine sub_tup (d := .list (ys.map fun l => strD (passes done l))) (by simp only [List.length_cons, List.length_nil]; omega) (by simp only [List.length_cons, List.length_nil]; omega) (by walk_at "small") rfl ?_
      repeat walk_at "go"
      refine sub_tup (d := .list (xs.map fun l => strD (passes done l))) (by simp only [List.length_cons, List.length_nil]; omega) (by simp only [List.length_cons, List.length_nil]; omega) (by walk_at "small") rfl ?_
      repeat walk_at "go"
      have e3 : ∀ zs : List (List Nat), (zs.map fun l => strD (passes done l)) = (zs.map fun l => passes done l).map fun l => PyData.str (S l) := fun zs => by rw [List.map_map]; rfl
      rw [e3 xs, e3 ys]
      refine ⟨kp_K (by rw [hK]; rfl), SLC.call ((c_tabs hK hh' (by omega) (loc := attrT s) (n := s) (N := 300 * prodM done) (by walk_at "mem") (by walk_at "mem") (by walk_at "mem") (by walk_at "mem") (by omega) (by omega) ?_ ?_ (by rw [Nat.mul_assoc]; omega) (by simp only [List.length_map]; omega) (by simp only [List.length_map]; omega)).mono ?_)⟩
      · intro l hl; obtain ⟨l', hl', rfl⟩ := List.mem_map.mp hl; exact (passes_ok (oky l' hl') done).1
      · intro l hl; obtain ⟨l', hl', rfl⟩ := List.mem_map.mp hl; exact (passes_ok (okx l' hl') done).1
      rintro r o ⟨rfl, rfl⟩
      have e4 : ∀ zs : List (List Nat), ((zs.map fun l => passes done l).map fun l => PyData.str (S (expT s l))) = zs.map fun l => strD (passes (done ++ [s]) l) := fun zs => by
        rw [List.map_map]; exact List.map_congr_left fun l _ => by rw [passes_snoc]; rfl
      rw [e4 xs, e4 ys]
      repeat walk_at "go"
      exact ⟨(L, Ob.ns [(Str.ofString "lists", .lst [.list (l0.map strD), .list (l1.map strD)]), (Str.ofString "told", .dat (toldT (done ++ [s]) ys xs))]) :: (L + 1, Ob.cell (some (.lst (stops.map .int)))) :: own, by walk_at "wk", done ++ [s], post, hst3, rfl, by rw [hsx, hsy]⟩
  · rintro o ⟨done, post, hst2, hl, rfl⟩
    cases post with
    | cons _ _ => cases hl
    | nil =>
      rw [List.append_nil] at hst2
      subst hst2
      repeat walk_at "go"
      refine SX_AssignCompMap (α := List (List Nat)) hh' rfl (by decide +kernel) rfl (by decide +kernel) rfl ?_
      repeat walk_at "go"
      refine it_list fun it2 => ⟨it2, _, _, rfl, rfl, fun ls => V.lst (ls.map strD), fun _ => true, fun ls => .list (ls.map fun l => strD (dueT stops l)), [l0, l1], rfl, by walk_at "small", ?_, ?_⟩
      · intro C D it3 ls r ys hls
        have okz : ∀ l ∈ ls, LineOk 300 l := by
          rcases List.mem_cons.mp hls with rfl | hls
          · exact ok0
          · rw [List.mem_singleton.mp hls]; exact ok1
        have hlz : ls.length ≤ 100 := by
          rcases List.mem_cons.mp hls with rfl | hls
          · exact hl0
          · rw [List.mem_singleton.mp hls]; exact hl1
        repeat walk_at "go"
        refine ⟨rfl, ?_⟩
        rw [if_pos rfl]
        refine SE_CompMap (α := List Nat) hh' rfl (by decide +kernel) rfl (by decide +kernel) ?_
        repeat walk_at "go"
        refine it_list fun it4 => ⟨it4, _, _, rfl, rfl, fun l => V.str (S l), fun _ => true, fun l => strD (dueT stops l), ls, by rw [List.map_map]; rfl, by walk_at "size", ?_, ?_⟩
        · intro C2 D2 it5 l r2 ys2 hl2
          repeat walk_at "go"
          refine ⟨rfl, ?_⟩
          rw [if_pos rfl]
          repeat walk_at "go"
          refine ⟨kp_K (by rw [hK]; rfl), SLC.call ((c_due hK hh' (by omega) l (okz l hl2).1 stops hsb (by omega) (by omega)).mono ?_)⟩
          rintro r o ⟨rfl, rfl⟩
          exact ⟨rfl, by walk_at "wk"⟩
        rw [show ls.filter (fun _ => true) = ls from List.filter_eq_self.mpr fun _ _ => rfl]
        exact ⟨rfl, by walk_at "wk"⟩
      rw [show [l0, l1].filter (fun _ => true) = [l0, l1] from rfl]
      intro C
      refine SS_loc (L := L) rfl rfl (by walk_at "mem") rfl (by walk_at "put") (by walk_at "nd") (by walk_at "upd") ?_
      refine ⟨_, by walk_at "wk", ?_⟩
      simp only [List.map_cons, List.map_nil]
      repeat walk_at "go"
      refine op_mod (by decide) ?_
      have hpd : ∀ l, passes stops l = dueT stops l := fun l => by rw [hss]; exact passes_due l aa ss
      have hpdm : ∀ zs : List (List Nat), (zs.map fun l => strD (passes stops l)) = zs.map fun l => strD (dueT stops l) := fun zs => List.map_congr_left fun l _ => by rw [hpd]
      have hokd : ∀ zs : List (List Nat), (∀ l ∈ zs, LineOk 300 l) → Ok 59 (.list (zs.map fun l => strD (passes stops l))) := fun zs hz => ok_list (n := 58) fun d hd => by
        obtain ⟨l, hl, rfl⟩ := List.mem_map.mp hd
        exact ok_str (n := 57) fun c hc => Nat.lt_trans ((passes_ok (hz l hl) stops).2 c hc) (by decide)
      have okx : ∀ l ∈ sw stops.length l0 l1, LineOk 300 l := by unfold sw; split <;> assumption
      have oky : ∀ l ∈ sw stops.length l1 l0, LineOk 300 l := by unfold sw; split <;> assumption
      have hmod : (((stops.map PyData.int).length : Int) % 2) = ((stops.length % 2 : Nat) : Int) := by rw [List.length_map]; omega
      rw [hmod]
      have hx : [PyData.list (l0.map fun l => strD (dueT stops l)), PyData.list (l1.map fun l => strD (dueT stops l))][place ((stops.length % 2 : Nat) : Int) 2]? = some (.list ((sw stops.length l0 l1).map fun l => strD (dueT stops l))) := by
        unfold sw
        rcases (by omega : stops.length % 2 = 0 ∨ stops.length % 2 = 1) with h | h
        · rw [if_pos h, h]; rfl
        · rw [if_neg (by omega), h]; rfl
      have hy : [PyData.list (l0.map fun l => strD (dueT stops l)), PyData.list (l1.map fun l => strD (dueT stops l))][place (1 - ((stops.length % 2 : Nat) : Int)) 2]? = some (.list ((sw stops.length l1 l0).map fun l => strD (dueT stops l))) := by
        unfold sw
        rcases (by omega : stops.length % 2 = 0 ∨ stops.length % 2 = 1) with h | h
        · rw [if_pos h, h]; rfl
        · rw [if_neg (by omega), h]; rfl
      refine sub_lst (by simp only [List.length_cons, List.length_nil]; omega) (by simp only [List.length_cons, List.length_nil]; omega) (by walk_at "small") hx ?_
      repeat walk_at "go"
      refine op_mod (by decide) ?_
      rw [hmod]
      repeat walk_at "go"
      refine sub_lst (by simp only [List.length_cons, List.length_nil]; omega) (by simp only [List.length_cons, List.length_nil]; omega) (by walk_at "small") hy ?_
      repeat walk_at "go"
      refine cmp_eqR (by rw [toldT, hpdm, hpdm]) (ok_tuple (n := 59) ?_) (by omega) ?_
      · intro d hd
        simp only [List.mem_cons, List.not_mem_nil, or_false] at hd
        rcases hd with rfl | rfl
        · exact hokd _ okx
        · exact hokd _ oky
      exact ⟨_, by walk_at "wk", rfl, rfl⟩
end
section
variable {W : Wd} {A : Around} {env : Env} {own : Own}
theorem law_true {W : Wd} (hK : K02 W) (ns : List Int) (hn : ns.length ≤ 63) : SLC W callerA (.ref 134) [.lst (ns.map .int)] [(55, .prop (TabP tabsPos tabsQual))] (fun r o => r = .bool true ∧ (55, .prop (TabP tabsPos tabsQual)) ∈ o) :=
  (c_law hK rfl (by rw [depth_caller]; decide) (by rw [units_caller]; decide) List.mem_cons_self ns hn).mono (by rintro r o ⟨rfl, rfl⟩; exact ⟨rfl, List.mem_cons_self⟩)
end
end Mine
open Mine in
set_option maxHeartbeats 8000000 in
theorem PySem.Challenge.cw_dm0066_02_holds : PySem.Challenge.rw_dm0066_02.Holds := by
  refine Mine.hd02 ?_
  k_fill
  intro w s₀ s₁ mg mb G Y fa o pm cd doc dV kV ho hd hcd hD hmg hg args vals as hpre hlay hrd hwl hlo
  have KX := km_in_of Y
  have hT8 := km_tabs_of Y
  refine Ground.open G ?_
  intro T B D TE TW
  clear ho hd hcd hD
  wrow_args hpre hlay hrd hwl hlo
  all_goals (
    first | refine callC_kw (enter_call ?_) | refine enter_call ?_ | refine callC_kw (enter_callW ?_) | refine enter_callW ?_ | w_how
    w_top on
    (rename Reads _ _ (PyData.list (List.map PyData.int _)) _ => r0)
    (rename ¬ ((_ : Int) < _) => hlen)
    refine codeAny_mono (Mine.join_lawT (c := 57) (P := 55) T KX (by kernel_rfl) (by kernel_rfl) (hT8 55 List.mem_cons_self) hmg hg rfl r0 fun W e1 e2 => Mine.law_true (show W.K = _ by rw [e2, e1]) _ (by omega)) ?_
    rintro r s' ⟨rfl, k, e1, e2⟩
    refine ⟨.inl ⟨_, _, [], rfl, fun cls => ?_, ReadsW.bool true, ?_, fun _ => ⟨List.nodup_nil, fun a ha => (nomatch ha)⟩⟩, k, e1, e2⟩
    · rfl
    · exact postW_of rfl (w_eq_bool (w_res rfl) w_lit) rfl)
