import PyProof.Rows.All
import Wide.All
import OpenK.AllK
import Wide.FinOn
import PySem.Challenge.RW_dm0066_05
open PySem PySem.W PyProof.Rows
set_option Elab.async false
set_option autoImplicit false
set_option linter.unusedVariables false
set_option linter.unusedSimpArgs false
set_option maxRecDepth 100000
namespace Mine
set_option maxHeartbeats 8000000 in
open_top hd05 for PySem.Challenge.rw_dm0066_05
set_option maxHeartbeats 4000000
section
/-- all of h stands in h' -/
def Keep (h h' : Heap) : Prop := ∀ b o, h.get? b = some o → h'.get? b = some o
theorem Keep.refl (h : Heap) : Keep h h := fun _ _ e => e
theorem Keep.trans {h h₁ h₂ : Heap} (x : Keep h h₁) (y : Keep h₁ h₂) : Keep h h₂ := fun b o e => y b o (x b o e)

/-- a value as the rules see it: plain frozen data, a range, or the value itself -/
inductive V where
  | dat (d : PyData)
  | val (v : Value)
  | rng (a b c : Int)

abbrev V.none : V := .dat .none
abbrev V.bool (b : Bool) : V := .dat (.bool b)
abbrev V.int (i : Int) : V := .dat (.int i)
abbrev V.str (s : Str) : V := .dat (.str s)
abbrev V.lst (l : List PyData) : V := .dat (.list l)
abbrev V.tup (l : List PyData) : V := .dat (.tuple l)
abbrev V.ref (a : Addr) : V := .val (.ref a)

inductive RV (fz : Heap) : V → Value → Prop
  | dat {d : PyData} {v : Value} {as : List Addr} : Reads fz v d as → RV fz (.dat d) v
  | val (v : Value) : RV fz (.val v) v
  | rng {r : Addr} {a b c : Int} {t u v : Tok} : IsRange fz r a b c t u v → RV fz (.rng a b c) (.ref r)

theorem IsRange_keep {h h' : Heap} {r : Addr} {a b c : Int} {t u v : Tok} (x : IsRange h r a b c t u v) (k : Keep h h') : IsRange h' r a b c t u v := by
  exact k _ _ x
theorem RV.mono {fz fz' : Heap} {a : V} {v : Value} (x : RV fz a v) (k : Keep fz fz') : RV fz' a v := by
  cases x with
  | dat r => exact .dat (Reads.keeps k r)
  | val v => exact .val v
  | rng r => exact .rng (IsRange_keep r k)

inductive RVs (fz : Heap) : List V → List Value → Prop
  | nil : RVs fz [] []
  | cons {a : V} {v : Value} {l : List V} {vs : List Value} : RV fz a v → RVs fz l vs → RVs fz (a :: l) (v :: vs)
theorem RVs.mono {fz fz' : Heap} {l : List V} {vs : List Value} (x : RVs fz l vs) (k : Keep fz fz') : RVs fz' l vs := by
  induction x with
  | nil => exact .nil
  | cons h _ ih => exact .cons (h.mono k) ih
theorem RVs.length {fz : Heap} {l : List V} {vs : List Value} (x : RVs fz l vs) : l.length = vs.length := by
  induction x with
  | nil => rfl
  | cons _ _ ih => simp [ih]
theorem RVs.append {fz : Heap} {l l' : List V} {vs vs' : List Value} (x : RVs fz l vs) (y : RVs fz l' vs') : RVs fz (l ++ l') (vs ++ vs') := by
  induction x with
  | nil => exact y
  | cons h _ ih => exact .cons h ih
theorem RVs.get {fz : Heap} {l : List V} {vs : List Value} (x : RVs fz l vs) : ∀ {i : Nat} {a : V}, l[i]? = some a → ∃ v, vs[i]? = some v ∧ RV fz a v := by
  induction x with
  | nil => intro i a e; simp at e
  | cons h _ ih =>
    intro i a e
    cases i with
    | zero => simp at e; subst e; exact ⟨_, rfl, h⟩
    | succ i => simp at e; simpa using ih e
theorem RVs.get' {fz : Heap} {l : List V} {vs : List Value} (x : RVs fz l vs) : ∀ {i : Nat} {v : Value}, vs[i]? = some v → ∃ a, l[i]? = some a ∧ RV fz a v := by
  induction x with
  | nil => intro i a e; simp at e
  | cons h _ ih =>
    intro i a e
    cases i with
    | zero => simp at e; subst e; exact ⟨_, rfl, h⟩
    | succ i => simp at e; simpa using ih e
theorem RVs.of_reads {fz : Heap} {vs : List Value} {ds : List PyData} {as : List Addr} (x : ReadsAll fz vs ds as) : RVs fz (ds.map V.dat) vs := by
  induction ds generalizing vs as with
  | nil => cases x; exact .nil
  | cons d ds ih => cases x with | cons h t => exact .cons (.dat h) (ih t)
theorem RVs.reads {fz : Heap} : ∀ {ds : List PyData} {vs : List Value}, RVs fz (ds.map V.dat) vs → ∃ as, ReadsAll fz vs ds as
  | [], _, x => by cases x; exact ⟨_, .nil⟩
  | d :: ds, _, x => by
    cases x with
    | cons h t =>
      cases h with
      | dat r => obtain ⟨as, ht⟩ := RVs.reads t; exact ⟨_, .cons r ht⟩

/-- what a made object is -/
inductive Ob where
  | ns (loc : List (Str × V))
  | cell (v : Option V)
  | list (l : List V)
  | tup (l : List V)
  | it (l : List V)
  | att (loc : List (Str × V))
  | obj (o : Obj)

def listObj (vs : List Value) (n : Nat) : Obj := { cls := .type "list", data := .seq vs.toArray n }
def tupObj (vs : List Value) (n : Nat) : Obj := { cls := .type "tuple", data := .seq vs.toArray n }

def NsIs (fz : Heap) (loc : List (Str × V)) (o : Obj) : Prop :=
  ∃ es ep, o.data = .dict es ep ∧ StrKeys es ∧ ∀ p ∈ loc, ∃ v, nsFind es p.1 = some v ∧ RV fz p.2 v

/-- a made thing's own attributes, all of them -/
def AttIs (fz : Heap) (loc : List (Str × V)) (o : Obj) : Prop :=
  ∃ es ep, o.data = .dict es ep ∧ StrKeys es ∧ es.size ≤ loc.length ∧ (∀ p ∈ loc, ∃ v, nsFind es p.1 = some v ∧ RV fz p.2 v) ∧ ∀ x, x ∉ loc.map (·.1) → nsFind es x = none

/-- an iterator that has just these still to give -/
inductive ItIs (fz : Heap) : List V → Obj → Prop
  | list {a : Addr} {vs : Array Value} {i : Nat} {l : List V} {o : Obj} : fz.IsList a vs → RVs fz l (vs.toList.drop i) → o.cls = .type "list_iterator" → o.data = .fields #[.ref a, .int i 0] → ItIs fz l o
  | tup {a : Addr} {vs : Array Value} {i : Nat} {l : List V} {o : Obj} : fz.IsTuple a vs → RVs fz l (vs.toList.drop i) → o.cls = .type "tuple_iterator" → o.data = .fields #[.ref a, .int i 0] → ItIs fz l o
  | range {x c : Int} {n : Nat} {l : List V} {o : Obj} : l = (List.range n).map (fun j : Nat => V.int (x + (j : Int) * c)) → o = { cls := .type "range_iterator", data := .fields #[rawInt x, rawInt n, rawInt c] } → ItIs fz l o
  | ascii {x : Str} {t : Tok} {i : Nat} {l : List V} {o : Obj} : l = (x.cps.toList.drop i).map (fun c => V.str ⟨#[c]⟩) → o.cls = .type "str_ascii_iterator" → o.data = .fields #[.str x t, .int i 0] → ItIs fz l o
  | wide {x : Str} {t : Tok} {i : Nat} {l : List V} {o : Obj} : l = (x.cps.toList.drop i).map (fun c => V.str ⟨#[c]⟩) → o.cls = .type "str_iterator" → o.data = .fields #[.str x t, .int i 0] → ItIs fz l o
  | over {o : Obj} {k : Value} : o.cls = .type "list_iterator" → o.data = .fields #[.none, k] → ItIs fz [] o
theorem ItIs.mono {fz fz' : Heap} {l : List V} {o : Obj} (x : ItIs fz l o) (k : Keep fz fz') : ItIs fz' l o := by
  cases x with
  | list h r c d => obtain ⟨ob, e, q⟩ := h; exact .list ⟨ob, k _ _ e, q⟩ (r.mono k) c d
  | tup h r c d => obtain ⟨ob, e, q⟩ := h; exact .tup ⟨ob, k _ _ e, q⟩ (r.mono k) c d
  | range e q => exact .range e q
  | ascii e c d => exact .ascii e c d
  | wide e c d => exact .wide e c d
  | over c d => exact .over c d

def ObIs (fz : Heap) : Ob → Obj → Prop
  | .ns loc, o => NsIs fz loc o
  | .cell none, o => o.data = .cell none
  | .cell (some a), o => ∃ v, o.data = .cell (some v) ∧ RV fz a v
  | .list l, o => ∃ vs n, o = listObj vs n ∧ RVs fz l vs
  | .tup l, o => ∃ vs n, o = tupObj vs n ∧ RVs fz l vs
  | .it l, o => ItIs fz l o
  | .att loc, o => AttIs fz loc o
  | .obj o', o => o = o'

theorem ObIs.mono {fz fz' : Heap} {ob : Ob} {o : Obj} (x : ObIs fz ob o) (k : Keep fz fz') : ObIs fz' ob o := by
  cases ob with
  | ns loc => obtain ⟨es, ep, h1, h2, h3⟩ := x; exact ⟨es, ep, h1, h2, fun p hp => let ⟨v, e, r⟩ := h3 p hp; ⟨v, e, r.mono k⟩⟩
  | cell v => cases v with
    | none => exact x
    | some a => obtain ⟨v, e, r⟩ := x; exact ⟨v, e, r.mono k⟩
  | list l => obtain ⟨vs, n, e, r⟩ := x; exact ⟨vs, n, e, r.mono k⟩
  | tup l => obtain ⟨vs, n, e, r⟩ := x; exact ⟨vs, n, e, r.mono k⟩
  | it l => exact ItIs.mono x k
  | att loc => obtain ⟨es, ep, h1, h2, hz, h3, h4⟩ := x; exact ⟨es, ep, h1, h2, hz, fun p hp => let ⟨v, e, r⟩ := h3 p hp; ⟨v, e, r.mono k⟩, h4⟩
  | obj o' => exact x

abbrev Own := List (Addr × Ob)

/-- what stays through the whole law -/
structure Wd where
  prog : Program
  w : World
  base : Heap
  gens : Array GenState
  os : OsState
  K : Frag
  p : Program
  loose : List Str
  mg : Str → Option Value
  mb : Str → Option Value
  kin : K.In base
  top : TopRead p loose mg mb base
  tk : Nat

structure Hold (W : Wd) (fz : Heap) (own : Own) (s : Shared) : Prop where
  base : Keep W.base fz
  has : Keep fz s.heap
  obs : ∀ p ∈ own, ∃ o, s.heap.get? p.1 = some o ∧ ObIs fz p.2 o
  out : ∀ p ∈ own, fz.get? p.1 = none
  nd : (own.map (·.1)).Nodup
  gens : s.gens = W.gens
  os : s.os = W.os

variable {W : Wd}

theorem Hold.toks {fz : Heap} {own : Own} {s : Shared} (H : Hold W fz own s) (k : Nat) : Hold W fz own { s with toks := k } := ⟨H.base, H.has, H.obs, H.out, H.nd, H.gens, H.os⟩
theorem Hold.drawn {fz : Heap} {own : Own} {s : Shared} (H : Hold W fz own s) (k : Nat) (d : Drawn) : Hold W fz own { s with toks := k, drawn := d } := ⟨H.base, H.has, H.obs, H.out, H.nd, H.gens, H.os⟩
theorem Hold.kin {fz : Heap} {own : Own} {s : Shared} (H : Hold W fz own s) : W.K.In s.heap := W.kin.keeps (H.base.trans H.has)
theorem Hold.keep {fz : Heap} {own : Own} {s : Shared} (H : Hold W fz own s) : Keep W.base s.heap := H.base.trans H.has
theorem Hold.get {fz : Heap} {own : Own} {s : Shared} (H : Hold W fz own s) {a : Addr} {ob : Ob} (h : (a, ob) ∈ own) : ∃ o, s.heap.get? a = some o ∧ ObIs fz ob o := H.obs _ h

theorem Hold.sub {fz : Heap} {own own' : Own} {s : Shared} (H : Hold W fz own s) (h : own'.Sublist own) : Hold W fz own' s :=
  ⟨H.base, H.has, fun p hp => H.obs p (h.subset hp), fun p hp => H.out p (h.subset hp), H.nd.sublist (h.map _), H.gens, H.os⟩
theorem Hold.tail {fz : Heap} {p : Addr × Ob} {own : Own} {s : Shared} (H : Hold W fz (p :: own) s) : Hold W fz own s := H.sub (List.sublist_cons_self _ _)
theorem Hold.perm {fz : Heap} {own own' : Own} {s : Shared} (H : Hold W fz own s) (h : own.Perm own') : Hold W fz own' s :=
  ⟨H.base, H.has, fun p hp => H.obs p (h.mem_iff.mpr hp), fun p hp => H.out p (h.mem_iff.mpr hp), (h.map _).nodup_iff.mp H.nd, H.gens, H.os⟩

/-- one entry is turned -/
inductive Upd (a : Addr) (ob ob' : Ob) : Own → Own → Prop
  | here {l : Own} : Upd a ob ob' ((a, ob) :: l) ((a, ob') :: l)
  | there {p : Addr × Ob} {l l' : Own} : Upd a ob ob' l l' → Upd a ob ob' (p :: l) (p :: l')
theorem Upd.mem {a : Addr} {ob ob' : Ob} {l l' : Own} (u : Upd a ob ob' l l') : (a, ob) ∈ l := by
  induction u with
  | here => exact List.mem_cons_self
  | there _ ih => exact List.mem_cons_of_mem _ ih
theorem Upd.mem' {a : Addr} {ob ob' : Ob} {l l' : Own} (u : Upd a ob ob' l l') : (a, ob') ∈ l' := by
  induction u with
  | here => exact List.mem_cons_self
  | there _ ih => exact List.mem_cons_of_mem _ ih
theorem Upd.keys {a : Addr} {ob ob' : Ob} {l l' : Own} (u : Upd a ob ob' l l') : l'.map (·.1) = l.map (·.1) := by
  induction u with
  | here => rfl
  | there _ ih => simp [ih]
theorem Upd.other {a : Addr} {ob ob' : Ob} {l l' : Own} (u : Upd a ob ob' l l') : ∀ p ∈ l', p = (a, ob') ∨ p ∈ l := by
  induction u with
  | here => intro p hp; rcases List.mem_cons.mp hp with h | h; exact .inl h; exact .inr (List.mem_cons_of_mem _ h)
  | there _ ih => intro p hp; rcases List.mem_cons.mp hp with h | h; exact .inr (h ▸ List.mem_cons_self); exact (ih p h).imp id (List.mem_cons_of_mem _)
theorem mem_unique {l : Own} (nd : (l.map (·.1)).Nodup) {p q : Addr × Ob} (hp : p ∈ l) (hq : q ∈ l) (e : p.1 = q.1) : p = q := by
  induction l with
  | nil => cases hp
  | cons x l ih =>
    rw [List.map_cons, List.nodup_cons] at nd
    rcases List.mem_cons.mp hp with h1 | h1 <;> rcases List.mem_cons.mp hq with h2 | h2
    · rw [h1, h2]
    · exact absurd (List.mem_map.mpr ⟨q, h2, by rw [← e, h1]⟩) nd.1
    · exact absurd (List.mem_map.mpr ⟨p, h1, by rw [e, h2]⟩) nd.1
    · exact ih nd.2 h1 h2
theorem Upd.other' {a : Addr} {ob ob' : Ob} {l l' : Own} (nd : (l.map (·.1)).Nodup) (u : Upd a ob ob' l l') : ∀ p ∈ l', p = (a, ob') ∨ (p ∈ l ∧ p.1 ≠ a) := by
  induction u with
  | here =>
    intro p hp
    rw [List.map_cons, List.nodup_cons] at nd
    rcases List.mem_cons.mp hp with h | h
    · exact .inl h
    · exact .inr ⟨List.mem_cons_of_mem _ h, fun e => nd.1 (List.mem_map.mpr ⟨p, h, e⟩)⟩
  | @there q l l' v ih =>
    intro p hp
    rw [List.map_cons, List.nodup_cons] at nd
    rcases List.mem_cons.mp hp with h | h
    · subst h
      exact .inr ⟨List.mem_cons_self, fun e => nd.1 (List.mem_map.mpr ⟨_, v.mem, e.symm⟩)⟩
    · exact (ih nd.2 p h).imp id fun x => ⟨List.mem_cons_of_mem _ x.1, x.2⟩

theorem Hold.lt {fz : Heap} {own : Own} {s : Shared} (H : Hold W fz own s) {p : Addr × Ob} (h : p ∈ own) : p.1 < s.heap.objs.size := let ⟨_, e, _⟩ := H.obs p h; Heap.lt_size e

/-- an entry changes by a step that touches its object alone -/
theorem Hold.set {fz : Heap} {own own' : Own} {s : Shared} (H : Hold W fz own s) {a : Addr} {ob ob' : Ob} (u : Upd a ob ob' own own') {h' : Heap} {k : Nat} (hs : Heap.SameBut a s.heap h')
    {o : Obj} (ho : h'.get? a = some o) (hob : ObIs fz ob' o) : Hold W fz own' { s with heap := h', toks := k } where
  base := H.base
  has := fun b o e => (hs.2 b (fun hb => by have := H.out _ u.mem; rw [hb] at e; exact absurd e (by rw [this]; exact fun x => nomatch x))).trans (H.has b o e)
  obs := fun p hp => by
    rcases u.other' H.nd p hp with rfl | ⟨h, hne⟩
    · exact ⟨o, ho, hob⟩
    · obtain ⟨o', e, r⟩ := H.obs p h
      exact ⟨o', (hs.2 p.1 hne).trans e, r⟩
  out := fun p hp => by
    rcases u.other' H.nd p hp with rfl | ⟨h, _⟩
    · exact H.out (a, ob) u.mem
    · exact H.out p h
  nd := by rw [u.keys]; exact H.nd
  gens := H.gens
  os := H.os

/-- a step that keeps all but what is not told -/
theorem Hold.grow {fz : Heap} {own : Own} {s : Shared} (H : Hold W fz own s) {h' : Heap} {k : Nat} (hk : Keep s.heap h') : Hold W fz own { s with heap := h', toks := k } where
  base := H.base
  has := H.has.trans hk
  obs := fun p hp => let ⟨o, e, r⟩ := H.obs p hp; ⟨o, hk _ _ e, r⟩
  out := H.out
  nd := H.nd
  gens := H.gens
  os := H.os

theorem get?_ge {h : Heap} {a : Addr} (x : h.objs.size ≤ a) : h.get? a = none := by
  cases e : h.get? a with
  | none => rfl
  | some o => exact absurd (Heap.lt_size e) (Nat.not_lt.mpr x)
theorem Keep.push (h : Heap) (o : Obj) : Keep h (h.push o) := fun _ _ e => Heap.get?_push_of_some o e

theorem base_le {h h' : Heap} (k : Keep h h') {a : Addr} (ha : h'.objs.size ≤ a) : h.get? a = none := by
  cases e : h.get? a with
  | none => rfl
  | some o => exact absurd (Heap.lt_size (k _ _ e)) (Nat.not_lt.mpr ha)

/-- a new object enters the list; the heap has grown -/
theorem Hold.new {fz : Heap} {own : Own} {s : Shared} (H : Hold W fz own s) {h' : Heap} {k : Nat} (hk : Keep s.heap h') {a : Addr} (ha : s.heap.get? a = none) {o : Obj} {ob : Ob}
    (ho : h'.get? a = some o) (hob : ObIs fz ob o) : Hold W fz ((a, ob) :: own) { s with heap := h', toks := k } where
  base := H.base
  has := H.has.trans hk
  obs := fun p hp => by
    rcases List.mem_cons.mp hp with rfl | hp
    · exact ⟨o, ho, hob⟩
    · obtain ⟨o', e, r⟩ := H.obs p hp
      exact ⟨o', hk _ _ e, r⟩
  out := fun p hp => by
    rcases List.mem_cons.mp hp with rfl | hp
    · cases e : fz.get? a with
      | none => rfl
      | some o' => exact absurd (H.has _ _ e) (by rw [ha]; exact fun x => nomatch x)
    · exact H.out p hp
  nd := by
    rw [List.map_cons, List.nodup_cons]
    refine ⟨fun hm => ?_, H.nd⟩
    obtain ⟨p, hp, e⟩ := List.mem_map.mp hm
    obtain ⟨o', e', _⟩ := H.obs p hp
    rw [e, ha] at e'
    cases e'
  gens := H.gens
  os := H.os
end
section
/-- no way raises -/
abbrev NoX : Value → Shared → Prop := fun _ _ => False

def At {α β : Type} (W : Wd) (A : Around) (R : Heap → β → α → Prop) (t : Sem α) (Q : β → Own → Prop) (fz : Heap) (s : Shared) : Prop :=
  wpAny (model W.prog W.w) A t (fun a s' => ∃ fz' b own', Keep fz fz' ∧ Hold W fz' own' s' ∧ R fz' b a ∧ Q b own') NoX s

def SG {α β : Type} (W : Wd) (A : Around) (R : Heap → β → α → Prop) (t : Sem α) (own : Own) (Q : β → Own → Prop) : Prop :=
  ∀ fz s, Hold W fz own s → W.tk ≤ s.toks → At W A R t Q fz s

/-- of one value, of two, of a list -/
def S1 {α β : Type} (W : Wd) (A : Around) (R : Heap → β → α → Prop) (f : Value → Sem α) (a : V) (own : Own) (Q : β → Own → Prop) : Prop :=
  ∀ fz s v, Hold W fz own s → W.tk ≤ s.toks → RV fz a v → At W A R (f v) Q fz s
def S2 {α β : Type} (W : Wd) (A : Around) (R : Heap → β → α → Prop) (f : Value → Value → Sem α) (a b : V) (own : Own) (Q : β → Own → Prop) : Prop :=
  ∀ fz s v u, Hold W fz own s → W.tk ≤ s.toks → RV fz a v → RV fz b u → At W A R (f v u) Q fz s
def SL {α β : Type} (W : Wd) (A : Around) (R : Heap → β → α → Prop) (f : List Value → Sem α) (l : List V) (own : Own) (Q : β → Own → Prop) : Prop :=
  ∀ fz s vs, Hold W fz own s → W.tk ≤ s.toks → RVs fz l vs → At W A R (f vs) Q fz s

abbrev RB : Heap → Bool → Bool → Prop := fun _ b a => a = b
abbrev RU : Heap → Unit → Unit → Prop := fun _ _ _ => True

inductive Fl where
  | next | brk | cont
  | ret (v : V)
inductive RF (fz : Heap) : Fl → Flow → Prop
  | next : RF fz .next .next
  | brk : RF fz .brk .brk
  | cont : RF fz .cont .cont
  | ret {a : V} {v : Value} : RV fz a v → RF fz (.ret a) (.ret v)

variable {W : Wd} {A : Around} {env : Env} {own : Own}

theorem At.weak {α β : Type} {R : Heap → β → α → Prop} {t : Sem α} {Q : β → Own → Prop} {fz fz' : Heap} {s : Shared} (h : At W A R t Q fz' s) (k : Keep fz fz') : At W A R t Q fz s :=
  wpAny_mono h (fun _ _ ⟨fz₁, b, own', k', x⟩ => ⟨fz₁, b, own', k.trans k', x⟩) fun _ _ x => x
theorem At.mono {α β : Type} {R : Heap → β → α → Prop} {t : Sem α} {Q Q' : β → Own → Prop} {fz : Heap} {s : Shared} (h : At W A R t Q fz s) (q : ∀ b own', Q b own' → Q' b own') : At W A R t Q' fz s :=
  wpAny_mono h (fun _ _ ⟨fz₁, b, own', k', H, r, x⟩ => ⟨fz₁, b, own', k', H, r, q _ _ x⟩) fun _ _ x => x
theorem SG.mono {α β : Type} {R : Heap → β → α → Prop} {t : Sem α} {Q Q' : β → Own → Prop} (h : SG W A R t own Q) (q : ∀ b own', Q b own' → Q' b own') : SG W A R t own Q' :=
  fun fz s H ht => (h fz s H ht).mono q

/-- the one way to go on -/
theorem wp_then {α β : Type} {R : Heap → β → α → Prop} {t : Sem α} {Q : β → Own → Prop} {fz : Heap} {s : Shared} {P : α → Shared → Prop} (h : At W A R t Q fz s) (ht : W.tk ≤ s.toks)
    (q : ∀ fz' a b own' s', Keep fz fz' → Hold W fz' own' s' → W.tk ≤ s'.toks → R fz' b a → Q b own' → P a s') : wpAny (model W.prog W.w) A t P NoX s :=
  wpAny_mono (wpAny_toks_of ht h) (fun a s' ⟨t', fz', b, own', k, H, r, x⟩ => q fz' a b own' s' k H t' r x) fun _ _ x => x.2

theorem at_pure {α β : Type} {R : Heap → β → α → Prop} {a : α} {b : β} {Q : β → Own → Prop} {fz : Heap} {s : Shared} (H : Hold W fz own s) (r : R fz b a) (q : Q b own) : At W A R (pure a) Q fz s :=
  wpAny_pure ⟨fz, b, own, .refl _, H, r, q⟩

abbrev SE (W : Wd) (A : Around) (env : Env) (e : Expr) (own : Own) (Q : V → Own → Prop) : Prop := SG W A RV (eval e env) own Q
abbrev ST (W : Wd) (A : Around) (env : Env) (e : Expr) (own : Own) (Q : Bool → Own → Prop) : Prop := SG W A RB (isTrue e env (eval e env)) own Q
abbrev SX (W : Wd) (A : Around) (env : Env) (st : Stmt) (own : Own) (Q : Fl → Own → Prop) : Prop := SG W A RF (exec st env) own Q
abbrev SXs (W : Wd) (A : Around) (env : Env) (l : List Stmt) (own : Own) (Q : Fl → Own → Prop) : Prop := SG W A RF (execs l env) own Q
abbrev SS (W : Wd) (A : Around) (env : Env) (x : Str) (a : V) (own : Own) (Q : Own → Prop) : Prop := S1 W A RU (storeName env x) a own (fun _ => Q)
abbrev SA (W : Wd) (A : Around) (env : Env) (t : Expr) (a : V) (own : Own) (Q : Own → Prop) : Prop := S1 W A RU (assign t env) a own (fun _ => Q)

/-! ### constants, names -/
theorem SE_int {i : Int} {k : Nat} {pos : Pos} {Q : V → Own → Prop} (h : Q (.int i) own) : SE W A env (.Constant (.int i) k pos) own Q :=
  fun fz s H _ => wpAny_Constant_int ⟨fz, _, own, .refl _, H.toks _, .dat (.int _ _), h⟩
theorem SE_str {x : Str} {k : Nat} {pos : Pos} {Q : V → Own → Prop} (h : Q (.str x) own) : SE W A env (.Constant (.str x) k pos) own Q :=
  fun fz s H _ => wpAny_Constant_str ⟨fz, _, own, .refl _, H.toks _, .dat (.str _ _), h⟩
theorem SE_bool {b : Bool} {k : Nat} {pos : Pos} {Q : V → Own → Prop} (h : Q (.bool b) own) : SE W A env (.Constant (.bool b) k pos) own Q :=
  fun fz s H _ => wpAny_Constant_bool ⟨fz, _, own, .refl _, H, .dat (.bool _), h⟩
theorem SE_none {k : Nat} {pos : Pos} {Q : V → Own → Prop} (h : Q .none own) : SE W A env (.Constant .none k pos) own Q :=
  fun fz s H _ => wpAny_Constant_none ⟨fz, _, own, .refl _, H, .dat .none, h⟩

theorem ns_of {h : Heap} {a : Addr} {o : Obj} {fz : Heap} {loc : List (Str × V)} (ho : h.get? a = some o) (x : NsIs fz loc o) :
    ∃ m, h.Ns a m ∧ ∀ p ∈ loc, ∃ v, m p.1 = some v ∧ RV fz p.2 v := by
  obtain ⟨es, ep, h1, h2, h3⟩ := x
  exact ⟨_, ⟨o, es, ep, ho, h1, h2, fun _ => rfl⟩, h3⟩
theorem of_ns {h : Heap} {a : Addr} {m : Str → Option Value} {fz : Heap} {loc : List (Str × V)} (x : h.Ns a m) (r : ∀ p ∈ loc, ∃ v, m p.1 = some v ∧ RV fz p.2 v) :
    ∃ o, h.get? a = some o ∧ NsIs fz loc o := by
  obtain ⟨o, es, ep, ho, h1, h2, h3⟩ := x
  exact ⟨o, ho, es, ep, h1, h2, fun p hp => by obtain ⟨v, e, q⟩ := r p hp; exact ⟨v, (h3 _).trans e, q⟩⟩

theorem SN_local {x : Str} {loc : List (Str × V)} {a : V} {Q : V → Own → Prop} (hk : env.scope.kind = .function) (hl : env.kindOf x = some .local) (hm : (env.locals, Ob.ns loc) ∈ own) (hx : (x, a) ∈ loc)
    (h : Q a own) : SG W A RV (loadName env x) own Q := fun fz s H _ => by
  obtain ⟨o, ho, x1⟩ := H.get hm
  obtain ⟨m, hn, hv⟩ := ns_of ho x1
  obtain ⟨v, e, r⟩ := hv _ hx
  exact wpAny_loadName_local hk hl hn e ⟨fz, a, own, .refl _, H, r, h⟩
theorem SN_cell {x : Str} {c : Addr} {a : V} {Q : V → Own → Prop} (hk : env.scope.kind = .function) (hl : env.kindOf x = some .cell) (hc : env.cells.lookup x = some c) (hm : (c, Ob.cell (some a)) ∈ own)
    (h : Q a own) : SG W A RV (loadName env x) own Q := fun fz s H _ => by
  obtain ⟨o, ho, v, e, r⟩ := H.get hm
  exact wpAny_loadName_cell hk hl hc ⟨o, ho, e⟩ ⟨fz, a, own, .refl _, H, r, h⟩
theorem SN_free {x : Str} {c : Addr} {a : V} {Q : V → Own → Prop} (hk : env.scope.kind = .function) (hl : env.kindOf x = some .free) (hc : env.cells.lookup x = some c) (hm : (c, Ob.cell (some a)) ∈ own)
    (h : Q a own) (hn : (x == ("__classdict__" : Str)) = false := by decide) : SG W A RV (loadName env x) own Q := fun fz s H _ => by
  obtain ⟨o, ho, v, e, r⟩ := H.get hm
  exact wpAny_loadName_free hk hl hc ⟨o, ho, e⟩ ⟨fz, a, own, .refl _, H, r, h⟩ hn
theorem SN_global {x : Str} {v : Value} {Q : V → Own → Prop} (hk : env.scope.kind = .function) (hg : env.globals = mainGlobals) (hl : env.kindOf x = some .globalImplicit) (e : nsIn W.K mainGlobals x = some (some v))
    (h : Q (.val v) own) : SG W A RV (loadName env x) own Q := fun fz s H _ => by
  unfold loadName
  simp only [Env.blockKind, hk, hl, ScopeKind.isAnnotationScope, Bool.false_and, Bool.false_eq_true, if_false]
  exact Calls.loadGlobal_global (by rw [hg]; exact W.top.g.keeps H.keep) (mg_of W.kin W.top.g e) ⟨fz, _, own, .refl _, H, .val v, h⟩
theorem SN_builtin {x : Str} {v : Value} {Q : V → Own → Prop} (hk : env.scope.kind = .function) (hg : env.globals = mainGlobals) (hb : env.builtins = builtinsNs) (hl : env.kindOf x = some .globalImplicit) (e : nsIn W.K mainGlobals x = some none)
    (hv : bootBuiltins x = some v) (hn : x ≠ "__name__") (h : Q (.val v) own) : SG W A RV (loadName env x) own Q := fun fz s H _ => by
  unfold loadName
  simp only [Env.blockKind, hk, hl, ScopeKind.isAnnotationScope, Bool.false_and, Bool.false_eq_true, if_false]
  exact Calls.loadGlobal_builtin (by rw [hg]; exact W.top.g.keeps H.keep) (mg_none_of W.kin W.top.g e) (by rw [hb]; exact W.top.b.keeps H.keep) ((W.top.builtins x hn).trans hv) ⟨fz, _, own, .refl _, H, .val v, h⟩
theorem SE_Name {x : Str} {pos : Pos} {Q : V → Own → Prop} (h : SG W A RV (loadName env x) own Q) (hd : (x == ("__debug__" : Str)) = false := by decide) : SE W A env (.Name x pos) own Q :=
  fun fz s H ht => wpAny_Name (h fz s H ht) hd

/-! ### stores -/
inductive Put (x : Str) (a : V) : List (Str × V) → List (Str × V) → Prop
  | new : Put x a [] [(x, a)]
  | here {b : V} {l : List (Str × V)} : Put x a ((x, b) :: l) ((x, a) :: l)
  | there {p : Str × V} {l l' : List (Str × V)} : Put x a l l' → Put x a (p :: l) (p :: l')
theorem Put.other {x : Str} {a : V} {l l' : List (Str × V)} (u : Put x a l l') (nd : (l'.map (·.1)).Nodup) : ∀ p ∈ l', p = (x, a) ∨ (p ∈ l ∧ p.1 ≠ x) := by
  have hin : ∀ {l l' : List (Str × V)}, Put x a l l' → (x, a) ∈ l' := by
    intro l l' u
    induction u with
    | new => exact List.mem_cons_self
    | here => exact List.mem_cons_self
    | there _ ih => exact List.mem_cons_of_mem _ ih
  induction u with
  | new => intro p hp; exact .inl (by simpa using hp)
  | here =>
    intro p hp
    rw [List.map_cons, List.nodup_cons] at nd
    rcases List.mem_cons.mp hp with h | h
    · exact .inl h
    · exact .inr ⟨List.mem_cons_of_mem _ h, fun e => nd.1 (List.mem_map.mpr ⟨p, h, e⟩)⟩
  | @there q l l' v ih =>
    intro p hp
    rw [List.map_cons, List.nodup_cons] at nd
    rcases List.mem_cons.mp hp with h | h
    · subst h
      exact .inr ⟨List.mem_cons_self, fun e => nd.1 (List.mem_map.mpr ⟨_, hin v, e.symm⟩)⟩
    · exact (ih nd.2 p h).imp id fun x => ⟨List.mem_cons_of_mem _ x.1, x.2⟩

theorem SS_local {x : Str} {loc loc' : List (Str × V)} {a : V} {own' : Own} {Q : Own → Prop} (hk : env.scope.kind = .function) (hl : env.kindOf x = some .local) (hu : Put x a loc loc') (nd : ((loc'.map (·.1)).Nodup))
    (u : Upd env.locals (.ns loc) (.ns loc') own own') (h : Q own') : SS W A env x a own Q := fun fz s v H _ r => by
  obtain ⟨o, ho, x1⟩ := H.get u.mem
  obtain ⟨m, hn, hv⟩ := ns_of ho x1
  refine wpAny_storeName_local hl hn (fun h' hn' hs' => ?_) (by rw [hk]; rfl)
  obtain ⟨o', ho', hob⟩ := of_ns (fz := fz) (loc := loc') hn' (fun p hp => by
    rcases hu.other nd p hp with rfl | ⟨hp', hne⟩
    · exact ⟨v, by simp, r⟩
    · obtain ⟨u, e, r'⟩ := hv p hp'; exact ⟨u, by simp [hne, e], r'⟩)
  exact ⟨fz, (), own', .refl _, H.set u hs' ho' hob, trivial, h⟩
theorem SS_cell {x : Str} {c : Addr} {a : V} {a₀ : Option V} {own' : Own} {Q : Own → Prop} (hk : env.scope.kind = .function) (hl : env.kindOf x = some .cell) (hc : env.cells.lookup x = some c)
    (u : Upd c (.cell a₀) (.cell (some a)) own own') (h : Q own') : SS W A env x a own Q := fun fz s v H _ r => by
  obtain ⟨o, ho, x1⟩ := H.get u.mem
  have hcell : ∃ v₀, s.heap.IsCell c v₀ := by
    cases a₀ with
    | none => exact ⟨none, o, ho, x1⟩
    | some b => obtain ⟨w, e, _⟩ := x1; exact ⟨some w, o, ho, e⟩
  obtain ⟨v₀, hc0⟩ := hcell
  refine wpAny_storeName_cell hk hl hc hc0 fun h' ⟨o', ho', e'⟩ hs' => ?_
  exact ⟨fz, (), own', .refl _, H.set (k := s.toks) u hs' ho' ⟨v, e', r⟩, trivial, h⟩

theorem SS_loc {x : Str} {L : Addr} {loc loc' : List (Str × V)} {a : V} {own' : Own} {Q : Own → Prop} (hk : env.scope.kind = .function) (hl : env.kindOf x = some .local) (hm : (L, Ob.ns loc) ∈ own) (hL : env.locals = L) (hu : Put x a loc loc') (nd : ((loc'.map (·.1)).Nodup))
    (u : Upd L (.ns loc) (.ns loc') own own') (h : Q own') : SS W A env x a own Q := SS_local hk hl hu nd (by rw [hL]; exact u) h
theorem SN_loc {x : Str} {L : Addr} {loc : List (Str × V)} {a : V} {Q : V → Own → Prop} (hk : env.scope.kind = .function) (hl : env.kindOf x = some .local) (hm : (L, Ob.ns loc) ∈ own) (hL : env.locals = L) (hx : (x, a) ∈ loc)
    (h : Q a own) : SG W A RV (loadName env x) own Q := SN_local hk hl (by rw [hL]; exact hm) hx h
theorem SA_Name {x : Str} {pos : Pos} {a : V} {Q : Own → Prop} (h : SS W A env x a own Q) : SA W A env (.Name x pos) a own Q :=
  fun fz s v H ht r => wpAny_assign_Name (h fz s v H ht r)

/-! ### expressions: the nodes -/
theorem SE_BinOp {l r : Expr} {op : Operator} {pos : Pos} {Q : V → Own → Prop} (h : SE W A env l own fun a o1 => SE W A env r o1 fun b o2 => S2 W A RV (binaryOp op) a b o2 Q) :
    SE W A env (.BinOp l op r pos) own Q := fun fz s H ht => by
  refine wpAny_BinOp (wp_then (h fz s H ht) ht fun fz1 va a o1 s1 k1 H1 t1 r1 q1 => wp_then (q1 fz1 s1 H1 t1) t1 fun fz2 vb b o2 s2 k2 H2 t2 r2 q2 => ?_)
  exact (q2 fz2 s2 va vb H2 t2 (r1.mono k2) r2).weak (k1.trans k2)
theorem SE_Compare {l r : Expr} {op : CmpOp} {pos : Pos} {Q : V → Own → Prop} (h : SE W A env l own fun a o1 => SE W A env r o1 fun b o2 => S2 W A RV (compareOp op) a b o2 Q)
    (hm : behindInMarks op r = false := by with_unfolding_all rfl) : SE W A env (.Compare l [op] [r] pos) own Q := fun fz s H ht => by
  refine wpAny_Compare1 (wp_then (h fz s H ht) ht fun fz1 va a o1 s1 k1 H1 t1 r1 q1 => wp_then (q1 fz1 s1 H1 t1) t1 fun fz2 vb b o2 s2 k2 H2 t2 r2 q2 => ?_) hm
  exact (q2 fz2 s2 va vb H2 t2 (r1.mono k2) r2).weak (k1.trans k2)
theorem SE_UnaryOp {x : Expr} {op : UnaryOp} {pos : Pos} {Q : V → Own → Prop} (h : SE W A env x own fun a o1 => S1 W A RV (unaryOp op) a o1 Q) : SE W A env (.UnaryOp op x pos) own Q := fun fz s H ht =>
  wpAny_UnaryOp (wp_then (h fz s H ht) ht fun fz1 va a o1 s1 k1 H1 t1 r1 q1 => (q1 fz1 s1 va H1 t1 r1).weak k1)
theorem SE_IfExp {t b o : Expr} {pos : Pos} {Q : V → Own → Prop} (h : ST W A env t own fun c o1 => if c then SE W A env b o1 Q else SE W A env o o1 Q) : SE W A env (.IfExp t b o pos) own Q := fun fz s H ht => by
  refine wpAny_IfExp (wp_then (h fz s H ht) ht fun fz1 va a o1 s1 k1 H1 t1 r1 q1 => ?_)
  subst r1
  cases va
  · exact (q1 fz1 s1 H1 t1).weak k1
  · exact (q1 fz1 s1 H1 t1).weak k1
theorem SE_Subscript {o i : Expr} {pos : Pos} {Q : V → Own → Prop} (h : SE W A env o own fun a o1 => SE W A env i o1 fun b o2 => S2 W A RV (subscriptTail o i) a b o2 Q) :
    SE W A env (.Subscript o i pos) own Q := fun fz s H ht => by
  refine Subscript_ (wp_then (h fz s H ht) ht fun fz1 va a o1 s1 k1 H1 t1 r1 q1 => wp_then (q1 fz1 s1 H1 t1) t1 fun fz2 vb b o2 s2 k2 H2 t2 r2 q2 => ?_)
  exact (q2 fz2 s2 va vb H2 t2 (r1.mono k2) r2).weak (k1.trans k2)
theorem SE_Attribute {o : Expr} {n : Str} {pos : Pos} {Q : V → Own → Prop} (h : SE W A env o own fun a o1 => S1 W A RV (fun v => getAttr v n true) a o1 Q)
    (he : eval (.Attribute o n pos) env = (do
      let v ← eval o env
      standAt pos.atName
      let r ← holding [v] (getAttr v n true)
      letTemporaryGo o v r
      pure r) := by with_unfolding_all rfl) : SE W A env (.Attribute o n pos) own Q := fun fz s H ht =>
  Attribute_any_ (wp_then (h fz s H ht) ht fun fz1 va a o1 s1 k1 H1 t1 r1 q1 => (q1 fz1 s1 va H1 t1 r1).weak k1) he

/-! ### tests -/
theorem ST_Compare {l r : Expr} {op : CmpOp} {pos : Pos} {Q : Bool → Own → Prop} (h : SE W A env l own fun a o1 => SE W A env r o1 fun b o2 => S2 W A RV (compareOp op) a b o2 fun c o3 => S1 W A RB truthy c o3 Q)
    (hm : behindInMarks op r = false := by with_unfolding_all rfl) : ST W A env (.Compare l [op] [r] pos) own Q := fun fz s H ht => by
  refine wpAny_isTrue_Compare1 (wp_then (h fz s H ht) ht fun fz1 va a o1 s1 k1 H1 t1 r1 q1 => wp_then (q1 fz1 s1 H1 t1) t1 fun fz2 vb b o2 s2 k2 H2 t2 r2 q2 =>
    wp_then (q2 fz2 s2 va vb H2 t2 (r1.mono k2) r2) t2 fun fz3 vc c o3 s3 k3 H3 t3 r3 q3 => ?_) hm
  exact (q3 fz3 s3 vc H3 t3 r3).weak (k1.trans (k2.trans k3))
theorem ST_not {x : Expr} {pos : Pos} {Q : Bool → Own → Prop} (h : ST W A env x own fun c o1 => Q (!c) o1) : ST W A env (.UnaryOp .Not x pos) own Q := fun fz s H ht =>
  isTrue_not (wp_then (h fz s H ht) ht fun fz1 va a o1 s1 k1 H1 t1 r1 q1 => by subst r1; exact ⟨fz1, _, o1, k1, H1, rfl, q1⟩)
theorem SG_and_nil {pos : Pos} {whole : Sem Value} {Q : Bool → Own → Prop} (h : Q true own) : SG W A RB (isTrue (.BoolOp .And [] pos) env whole) own Q := fun fz s H _ =>
  isTrue_and_nil ⟨fz, _, own, .refl _, H, rfl, h⟩
theorem SG_or_nil {pos : Pos} {whole : Sem Value} {Q : Bool → Own → Prop} (h : Q false own) : SG W A RB (isTrue (.BoolOp .Or [] pos) env whole) own Q := fun fz s H _ =>
  isTrue_or_nil ⟨fz, _, own, .refl _, H, rfl, h⟩
theorem SG_and {x : Expr} {rest : List Expr} {pos : Pos} {whole : Sem Value} {Q : Bool → Own → Prop}
    (h : ST W A env x own fun c o1 => if c then SG W A RB (isTrue (.BoolOp .And rest pos) env whole) o1 Q else Q false o1) : SG W A RB (isTrue (.BoolOp .And (x :: rest) pos) env whole) own Q := fun fz s H ht => by
  refine isTrue_and (wp_then (h fz s H ht) ht fun fz1 va a o1 s1 k1 H1 t1 r1 q1 => ?_)
  subst r1
  cases va
  · exact ⟨fz1, _, o1, k1, H1, rfl, q1⟩
  · exact (q1 fz1 s1 H1 t1).weak k1
theorem SG_or {x : Expr} {rest : List Expr} {pos : Pos} {whole : Sem Value} {Q : Bool → Own → Prop}
    (h : ST W A env x own fun c o1 => if c then Q true o1 else SG W A RB (isTrue (.BoolOp .Or rest pos) env whole) o1 Q) : SG W A RB (isTrue (.BoolOp .Or (x :: rest) pos) env whole) own Q := fun fz s H ht => by
  refine isTrue_or (wp_then (h fz s H ht) ht fun fz1 va a o1 s1 k1 H1 t1 r1 q1 => ?_)
  subst r1
  cases va
  · exact (q1 fz1 s1 H1 t1).weak k1
  · exact ⟨fz1, _, o1, k1, H1, rfl, q1⟩
theorem ST_plain {e : Expr} {Q : Bool → Own → Prop} (h : SE W A env e own fun a o1 => S1 W A RB truthy a o1 Q)
    (he : isTrue e env (eval e env) = (do let v ← eval e env; standAt e.pos; holding [v] (truthy v)) := by rfl) : ST W A env e own Q := fun fz s H ht =>
  isTrue_plain (wp_then (h fz s H ht) ht fun fz1 va a o1 s1 k1 H1 t1 r1 q1 => (q1 fz1 s1 va H1 t1 r1).weak k1) he

/-! ### statements -/
theorem SXs_nil {Q : Fl → Own → Prop} (h : Q .next own) : SXs W A env [] own Q := fun fz s H _ => wpAny_execs_nil ⟨fz, _, own, .refl _, H, .next, h⟩
/-- on from a statement: only a plain end goes on -/
abbrev onNext (P : Own → Prop) (Q : Fl → Own → Prop) : Fl → Own → Prop
  | .next, o => P o
  | f, o => Q f o
theorem SXs_cons {st : Stmt} {rest : List Stmt} {Q : Fl → Own → Prop} (h : SX W A env st own (onNext (fun o1 => SXs W A env rest o1 Q) Q)) : SXs W A env (st :: rest) own Q := fun fz s H ht => by
  refine wpAny_execs_cons (wp_then (h fz s H ht) ht fun fz1 va a o1 s1 k1 H1 t1 r1 q1 => ?_)
  cases r1 with
  | next => exact At.weak (q1 fz1 s1 H1 t1) k1
  | brk => exact ⟨fz1, _, o1, k1, H1, .brk, q1⟩
  | cont => exact ⟨fz1, _, o1, k1, H1, .cont, q1⟩
  | ret r => exact ⟨fz1, _, o1, k1, H1, .ret r, q1⟩
theorem SX_If {t : Expr} {b o : List Stmt} {pos : Pos} {Q : Fl → Own → Prop} (h : ST W A env t own fun c o1 => if c then SXs W A env b o1 Q else SXs W A env o o1 Q) : SX W A env (.If t b o pos) own Q := fun fz s H ht => by
  refine wpAny_If (wp_then (h fz s H ht) ht fun fz1 va a o1 s1 k1 H1 t1 r1 q1 => ?_)
  subst r1
  cases va
  · exact At.weak (q1 fz1 s1 H1 t1) k1
  · exact At.weak (q1 fz1 s1 H1 t1) k1
theorem SX_Return {e : Expr} {pos : Pos} {Q : Fl → Own → Prop} (h : SE W A env e own fun a o1 => Q (.ret a) o1) : SX W A env (.Return (some e) pos) own Q := fun fz s H ht =>
  wpAny_Return_some (wp_then (h fz s H ht) ht fun fz1 va a o1 s1 k1 H1 t1 r1 q1 => ⟨fz1, _, o1, k1, H1, .ret r1, q1⟩)
theorem SX_Return0 {pos : Pos} {Q : Fl → Own → Prop} (h : Q (.ret .none) own) : SX W A env (.Return none pos) own Q := fun fz s H _ =>
  wpAny_Return_none ⟨fz, _, own, .refl _, H, .ret (.dat .none), h⟩
theorem SX_Assign {x : Str} {p pos : Pos} {e : Expr} {Q : Fl → Own → Prop} (h : SE W A env e own fun a o1 => SS W A env x a o1 fun o2 => Q .next o2)
    (hs : swapsWith e (some (.Name x p)) pos.line env = pure false := by rfl) : SX W A env (.Assign [.Name x p] e pos) own Q := fun fz s H ht => by
  refine wpAny_Assign_Name (wp_then (h fz s H ht) ht fun fz1 va a o1 s1 k1 H1 t1 r1 q1 => wp_then (q1 fz1 s1 va H1 t1 r1) t1 fun fz2 _ _ o2 s2 k2 H2 t2 _ q2 => ?_) hs
  exact ⟨fz2, _, o2, k1.trans k2, H2, .next, q2⟩
theorem SX_Aug {x : Str} {p pos : Pos} {op : Operator} {e : Expr} {Q : Fl → Own → Prop}
    (h : SG W A RV (loadName env x) own fun a o1 => SE W A env e o1 fun b o2 => S2 W A RV (inplaceOp op) a b o2 fun c o3 => SS W A env x c o3 fun o4 => Q .next o4) : SX W A env (.AugAssign (.Name x p) op e pos) own Q := fun fz s H ht => by
  refine wpAny_AugAssign_Name (wp_then (h fz s H ht) ht fun fz1 va a o1 s1 k1 H1 t1 r1 q1 => wp_then (q1 fz1 s1 H1 t1) t1 fun fz2 vb b o2 s2 k2 H2 t2 r2 q2 =>
    wp_then (q2 fz2 s2 va vb H2 t2 (r1.mono k2) r2) t2 fun fz3 vc c o3 s3 k3 H3 t3 r3 q3 => wp_then (q3 fz3 s3 vc H3 t3 r3) t3 fun fz4 _ _ o4 s4 k4 H4 t4 _ q4 => ?_)
  exact ⟨fz4, _, o4, k1.trans (k2.trans (k3.trans k4)), H4, .next, q4⟩
theorem SX_Expr {e : Expr} {pos : Pos} {Q : Fl → Own → Prop} (h : SE W A env e own fun _ o1 => Q .next o1) (hi : interactive env = false := by rfl) (hs : swapsWith e none pos.line env = pure false := by rfl) :
    SX W A env (.Expr e pos) own Q := fun fz s H ht =>
  wpAny_Expr_any (wp_then (h fz s H ht) ht fun fz1 va a o1 s1 k1 H1 t1 r1 q1 => ⟨fz1, _, o1, k1, H1, .next, q1⟩) hi hs
end
section
variable {W : Wd} {A : Around} {env : Env} {own : Own}

/-! ### what a value is -/
theorem RV.int_inv {fz : Heap} {i : Int} {v : Value} (x : RV fz (.int i) v) : ∃ t, v = .int i t := by cases x with | dat r => cases r; exact ⟨_, rfl⟩
theorem RV.str_inv {fz : Heap} {x : Str} {v : Value} (h : RV fz (.str x) v) : ∃ t, v = .str x t := by cases h with | dat r => cases r; exact ⟨_, rfl⟩
theorem RV.bool_inv {fz : Heap} {b : Bool} {v : Value} (x : RV fz (.bool b) v) : v = .bool b := by cases x with | dat r => cases r; rfl
theorem RV.none_inv {fz : Heap} {v : Value} (x : RV fz .none v) : v = .none := by cases x with | dat r => cases r; rfl
theorem RV.val_inv {fz : Heap} {u v : Value} (x : RV fz (.val u) v) : v = u := by cases x; rfl
theorem RV.lst_inv {fz : Heap} {l : List PyData} {v : Value} (x : RV fz (.lst l) v) : ∃ a vs, v = .ref a ∧ fz.IsList a vs ∧ RVs fz (l.map V.dat) vs.toList := by
  cases x with
  | dat r => cases r with | @list a o vs n xs as ho hc hd hr => exact ⟨a, vs, rfl, ⟨o, ho, hc, n, hd⟩, .of_reads hr⟩
theorem RV.tup_inv {fz : Heap} {l : List PyData} {v : Value} (x : RV fz (.tup l) v) : ∃ a vs, v = .ref a ∧ fz.IsTuple a vs ∧ RVs fz (l.map V.dat) vs.toList := by
  cases x with
  | dat r => cases r with | @tuple a o vs n xs as ho hc hd hr => exact ⟨a, vs, rfl, ⟨o, ho, hc, n, hd⟩, .of_reads hr⟩
theorem IsList_keep {h h' : Heap} {a : Addr} {vs : Array Value} (x : h.IsList a vs) (k : Keep h h') : h'.IsList a vs := let ⟨o, ho, r⟩ := x; ⟨o, k _ _ ho, r⟩
theorem IsTuple_keep {h h' : Heap} {a : Addr} {vs : Array Value} (x : h.IsTuple a vs) (k : Keep h h') : h'.IsTuple a vs := let ⟨o, ho, r⟩ := x; ⟨o, k _ _ ho, r⟩

/-- an answer that is a token's matter alone -/
theorem at_tok {Q : V → Own → Prop} {fz : Heap} {s : Shared} {a : V} {v : Value} (H : Hold W fz own s) (k : Nat) (r : RV fz a v) (q : Q a own) :
    ∃ fz' b own', Keep fz fz' ∧ Hold W fz' own' { s with toks := k } ∧ RV fz' b v ∧ Q b own' := ⟨fz, a, own, .refl _, H.toks k, r, q⟩

/-! ### ints -/
theorem op_add {a b : Int} {Q : V → Own → Prop} (h : Q (.int (a + b)) own) : S2 W A RV (binaryOp .Add) (.int a) (.int b) own Q := fun fz s v u H _ r1 r2 => by
  obtain ⟨t, rfl⟩ := r1.int_inv; obtain ⟨t', rfl⟩ := r2.int_inv
  exact P.add_int (at_tok H _ (.dat (.int _ _)) h)
theorem op_iadd {a b : Int} {Q : V → Own → Prop} (h : Q (.int (a + b)) own) : S2 W A RV (inplaceOp .Add) (.int a) (.int b) own Q := fun fz s v u H _ r1 r2 => by
  obtain ⟨t, rfl⟩ := r1.int_inv; obtain ⟨t', rfl⟩ := r2.int_inv
  exact P.iadd_int (at_tok H _ (.dat (.int _ _)) h)
theorem op_sub {a b : Int} {Q : V → Own → Prop} (h : Q (.int (a - b)) own) : S2 W A RV (binaryOp .Sub) (.int a) (.int b) own Q := fun fz s v u H _ r1 r2 => by
  obtain ⟨t, rfl⟩ := r1.int_inv; obtain ⟨t', rfl⟩ := r2.int_inv
  exact P.sub_int (at_tok H _ (.dat (.int _ _)) h)
theorem op_isub {a b : Int} {Q : V → Own → Prop} (h : Q (.int (a - b)) own) : S2 W A RV (inplaceOp .Sub) (.int a) (.int b) own Q := fun fz s v u H _ r1 r2 => by
  obtain ⟨t, rfl⟩ := r1.int_inv; obtain ⟨t', rfl⟩ := r2.int_inv
  exact P.isub_int (at_tok H _ (.dat (.int _ _)) h)
theorem op_mul {a b : Int} {Q : V → Own → Prop} (hm : IntMulOk a b) (h : Q (.int (a * b)) own) : S2 W A RV (binaryOp .Mult) (.int a) (.int b) own Q := fun fz s v u H _ r1 r2 => by
  obtain ⟨t, rfl⟩ := r1.int_inv; obtain ⟨t', rfl⟩ := r2.int_inv
  exact P.mul_int (at_tok H _ (.dat (.int _ _)) h) hm
theorem op_div {a b : Int} {Q : V → Own → Prop} (hb : 0 < b) (hz : b < 1073741824) (h : Q (.int (a / b)) own) : S2 W A RV (binaryOp .FloorDiv) (.int a) (.int b) own Q := fun fz s v u H _ r1 r2 => by
  obtain ⟨t, rfl⟩ := r1.int_inv; obtain ⟨t', rfl⟩ := r2.int_inv
  refine floordiv_int (by omega) (at_tok H _ ?_ h) (Or.inl (PyProof.noPylong_small (by omega)))
  rw [Int.fdiv_eq_ediv_of_nonneg a (by omega)]
  exact .dat (.int _ _)
theorem op_mod {a b : Int} {Q : V → Own → Prop} (hb : 0 < b) (h : Q (.int (a % b)) own) : S2 W A RV (binaryOp .Mod) (.int a) (.int b) own Q := fun fz s v u H _ r1 r2 => by
  obtain ⟨t, rfl⟩ := r1.int_inv; obtain ⟨t', rfl⟩ := r2.int_inv
  refine mod_int' (by omega) (at_tok H _ ?_ h)
  rw [Int.fmod_eq_emod_of_nonneg a (by omega)]
  exact .dat (.int _ _)
theorem op_pow {a b : Int} {Q : V → Own → Prop} (h0 : 0 ≤ b) (h1 : b ≤ 1000000) (ha : a.natAbs < 2 ^ 64) (h : Q (.int (a ^ b.toNat)) own) : S2 W A RV (binaryOp .Pow) (.int a) (.int b) own Q := fun fz s v u H _ r1 r2 => by
  obtain ⟨t, rfl⟩ := r1.int_inv; obtain ⟨t', rfl⟩ := r2.int_inv
  exact pow_int_small h0 h1 ha (at_tok H _ (.dat (.int _ _)) h)
theorem op_neg {a : Int} {Q : V → Own → Prop} (h : Q (.int (-a)) own) : S1 W A RV (unaryOp .USub) (.int a) own Q := fun fz s v H _ r1 => by
  obtain ⟨t, rfl⟩ := r1.int_inv
  exact P.neg_int (at_tok H _ (.dat (.int _ _)) h)
theorem op_not {a : V} {Q : V → Own → Prop} (h : S1 W A RB truthy a own fun c o1 => Q (.bool (!c)) o1) : S1 W A RV (unaryOp .Not) a own Q := fun fz s v H ht r1 =>
  not_of (wp_then (h fz s v H ht r1) ht fun fz1 va a o1 s1 k1 H1 t1 r q => by subst r; exact ⟨fz1, _, o1, k1, H1, .dat (.bool _), q⟩)
theorem cmp_eqI {a b : Int} {Q : V → Own → Prop} (h : Q (.bool (decide (a = b))) own) : S2 W A RV (compareOp .Eq) (.int a) (.int b) own Q := fun fz s v u H _ r1 r2 => by
  obtain ⟨t, rfl⟩ := r1.int_inv; obtain ⟨t', rfl⟩ := r2.int_inv
  exact P.eq_int (at_tok H _ (.dat (.bool _)) h)
theorem cmp_neI {a b : Int} {Q : V → Own → Prop} (h : Q (.bool (decide (a ≠ b))) own) : S2 W A RV (compareOp .NotEq) (.int a) (.int b) own Q := fun fz s v u H _ r1 r2 => by
  obtain ⟨t, rfl⟩ := r1.int_inv; obtain ⟨t', rfl⟩ := r2.int_inv
  refine P.ne_int ⟨fz, _, own, .refl _, H, ?_, h⟩
  have e : (a != b) = decide (a ≠ b) := by simp only [bne, ne_eq, decide_not]; rfl
  rw [e]; exact .dat (.bool _)
theorem cmp_lt {a b : Int} {Q : V → Own → Prop} (h : Q (.bool (decide (a < b))) own) : S2 W A RV (compareOp .Lt) (.int a) (.int b) own Q := fun fz s v u H _ r1 r2 => by
  obtain ⟨t, rfl⟩ := r1.int_inv; obtain ⟨t', rfl⟩ := r2.int_inv
  exact P.lt_int (at_tok H _ (.dat (.bool _)) h)
theorem cmp_le {a b : Int} {Q : V → Own → Prop} (h : Q (.bool (decide (a ≤ b))) own) : S2 W A RV (compareOp .LtE) (.int a) (.int b) own Q := fun fz s v u H _ r1 r2 => by
  obtain ⟨t, rfl⟩ := r1.int_inv; obtain ⟨t', rfl⟩ := r2.int_inv
  exact P.le_int (at_tok H _ (.dat (.bool _)) h)
theorem cmp_gt {a b : Int} {Q : V → Own → Prop} (h : Q (.bool (decide (b < a))) own) : S2 W A RV (compareOp .Gt) (.int a) (.int b) own Q := fun fz s v u H _ r1 r2 => by
  obtain ⟨t, rfl⟩ := r1.int_inv; obtain ⟨t', rfl⟩ := r2.int_inv
  exact P.gt_int (at_tok H _ (.dat (.bool _)) h)
theorem cmp_ge {a b : Int} {Q : V → Own → Prop} (h : Q (.bool (decide (b ≤ a))) own) : S2 W A RV (compareOp .GtE) (.int a) (.int b) own Q := fun fz s v u H _ r1 r2 => by
  obtain ⟨t, rfl⟩ := r1.int_inv; obtain ⟨t', rfl⟩ := r2.int_inv
  exact P.ge_int (at_tok H _ (.dat (.bool _)) h)

/-! ### truth -/
theorem tr_bool {b : Bool} {Q : Bool → Own → Prop} (h : Q b own) : S1 W A RB truthy (.bool b) own Q := fun fz s v H _ r => by
  rw [r.bool_inv]; exact wpAny_truthy_bool ⟨fz, b, own, .refl _, H, rfl, h⟩
theorem tr_none {Q : Bool → Own → Prop} (h : Q false own) : S1 W A RB truthy .none own Q := fun fz s v H _ r => by
  rw [r.none_inv]; exact truthy_none ⟨fz, _, own, .refl _, H, rfl, h⟩
theorem tr_int {i : Int} {Q : Bool → Own → Prop} (h : Q (decide (i ≠ 0)) own) : S1 W A RB truthy (.int i) own Q := fun fz s v H _ r => by
  obtain ⟨t, rfl⟩ := r.int_inv
  exact P.truthy_int ⟨fz, _, own, .refl _, H, by simp only [RB, bne, ne_eq, decide_not]; rfl, h⟩
theorem tr_str {x : Str} {Q : Bool → Own → Prop} (hx : x.length ≤ sizeLine) (h : Q (decide (x.length ≠ 0)) own) : S1 W A RB truthy (.str x) own Q := fun fz s v H _ r => by
  obtain ⟨t, rfl⟩ := r.str_inv
  rw [sizeLine_eq] at hx
  refine P.truthy_str (by omega) ⟨fz, _, own, .refl _, H.toks _, ?_, h⟩
  show (((x.length : Int)) != 0) = decide (x.length ≠ 0)
  by_cases e : x.length = 0
  · rw [e]; rfl
  · have e' : (x.length : Int) ≠ 0 := by omega
    simp [e, e']
theorem tr_lst {l : List PyData} {Q : Bool → Own → Prop} (hx : l.length ≤ sizeLine) (h : Q (decide (l ≠ [])) own) : S1 W A RB truthy (.lst l) own Q := fun fz s v H _ r => by
  obtain ⟨a, vs, rfl, hl, rs⟩ := r.lst_inv
  have hlen := rs.length
  rw [List.length_map] at hlen
  have hsz : vs.toList.length = vs.size := Array.length_toList
  rw [sizeLine_eq] at hx
  refine wpAny_truthy_list (IsList_keep hl H.has) (by omega) ⟨fz, _, own, .refl _, H.toks _, ?_, h⟩
  show (!vs.isEmpty) = decide (l ≠ [])
  have hz : vs.size = l.length := by omega
  cases l with
  | nil => simp [Array.isEmpty, hz]
  | cons _ _ => simp [Array.isEmpty, hz]
theorem tr_own {l : List V} {a : Addr} {Q : Bool → Own → Prop} (hm : (a, Ob.list l) ∈ own) (hx : l.length ≤ sizeLine) (h : Q (decide (l ≠ [])) own) : S1 W A RB truthy (.ref a) own Q := fun fz s v H _ r => by
  cases r.val_inv
  obtain ⟨o, ho, vs, n, rfl, rs⟩ := H.get hm
  have hlen := rs.length
  rw [sizeLine_eq] at hx
  refine wpAny_truthy_list (items := vs.toArray) ⟨_, ho, rfl, n, rfl⟩ (by simp only [List.size_toArray]; omega) ⟨fz, _, own, .refl _, H.toks _, ?_, h⟩
  show (!vs.toArray.isEmpty) = decide (l ≠ [])
  cases rs <;> simp

/-! ### texts -/
theorem op_cat {x y : Str} {Q : V → Own → Prop} (hz : x.length + y.length ≤ sizeLine) (h : Q (.str (x ++ y)) own) : S2 W A RV (binaryOp .Add) (.str x) (.str y) own Q := fun fz s v u H _ r1 r2 => by
  obtain ⟨t, rfl⟩ := r1.str_inv; obtain ⟨t', rfl⟩ := r2.str_inv
  exact SB.add (fun t' k => at_tok H _ (.dat (.str _ _)) h) hz
theorem op_icat {x y : Str} {Q : V → Own → Prop} (hz : x.length + y.length ≤ sizeLine) (h : Q (.str (x ++ y)) own) : S2 W A RV (inplaceOp .Add) (.str x) (.str y) own Q := fun fz s v u H _ r1 r2 => by
  obtain ⟨t, rfl⟩ := r1.str_inv; obtain ⟨t', rfl⟩ := r2.str_inv
  exact SB.iadd (fun t' k => at_tok H _ (.dat (.str _ _)) h) hz
theorem cmp_eqS {x y : Str} {Q : V → Own → Prop} (h : Q (.bool (decide (x = y))) own) : S2 W A RV (compareOp .Eq) (.str x) (.str y) own Q := fun fz s v u H _ r1 r2 => by
  obtain ⟨t, rfl⟩ := r1.str_inv; obtain ⟨t', rfl⟩ := r2.str_inv
  refine PyProof.Rows.eq_str ⟨fz, _, own, .refl _, H, ?_, h⟩
  have e : (x == y) = decide (x = y) := rfl
  rw [e]; exact .dat (.bool _)
theorem cmp_neS {x y : Str} {Q : V → Own → Prop} (h : Q (.bool (decide (x ≠ y))) own) : S2 W A RV (compareOp .NotEq) (.str x) (.str y) own Q := fun fz s v u H _ r1 r2 => by
  obtain ⟨t, rfl⟩ := r1.str_inv; obtain ⟨t', rfl⟩ := r2.str_inv
  refine PyProof.Rows.ne_str ⟨fz, _, own, .refl _, H, ?_, h⟩
  have e : (x != y) = decide (x ≠ y) := by simp only [bne, ne_eq, decide_not]; rfl
  rw [e]; exact .dat (.bool _)
theorem cmp_inS {x y : Str} {Q : V → Own → Prop} (h : Q (.bool (Txt.contains x y)) own) : S2 W A RV (compareOp .In) (.str y) (.str x) own Q := fun fz s v u H _ r1 r2 => by
  obtain ⟨t, rfl⟩ := r1.str_inv; obtain ⟨t', rfl⟩ := r2.str_inv
  exact SB.contains (at_tok H _ (.dat (.bool _)) h)

/-! ### data compared -/
theorem cmp_eqD {a b : PyData} {Q : V → Own → Prop} (ha : SeqAt.shaped a = true) (hb : SeqAt.shaped b = true) (hu : A.units + 64 < cLine) (h : Q (.bool (PyData.eqv a b)) own) :
    S2 W A RV (compareOp .Eq) (.dat a) (.dat b) own Q := fun fz s v u H _ r1 r2 => by
  cases r1 with | dat r1 => cases r2 with | dat r2 =>
  exact SeqAt.compareEq_shaped (Reads.keeps H.has r1) (Reads.keeps H.has r2) ha hb hu (at_tok H _ (.dat (.bool _)) h)
theorem cmp_neD {a b : PyData} {Q : V → Own → Prop} (ha : SeqAt.shaped a = true) (hb : SeqAt.shaped b = true) (hu : A.units + 64 < cLine) (h : Q (.bool (!PyData.eqv a b)) own) :
    S2 W A RV (compareOp .NotEq) (.dat a) (.dat b) own Q := fun fz s v u H _ r1 r2 => by
  cases r1 with | dat r1 => cases r2 with | dat r2 =>
  exact SeqAt.compareNe_shaped (Reads.keeps H.has r1) (Reads.keeps H.has r2) ha hb hu (at_tok H _ (.dat (.bool _)) h)
end
section
variable {W : Wd} {A : Around} {env : Env} {own : Own}

/-! ### a heap with one object more -/
def freedO : Obj := { cls := .none, data := .freed }
def putH (h : Heap) (a : Addr) (o : Obj) : Heap := ⟨(h.objs ++ Array.replicate (a + 1 - h.objs.size) freedO).setIfInBounds a o, h.life⟩
theorem get?_of_objs {h : Heap} {b : Addr} : h.get? b = match h.objs[b]? with | some ⟨_, _, .freed, _⟩ => none | o => o := rfl
theorem putH_get {h : Heap} {a : Addr} {o : Obj} (ho : o.isFreed = false) (b : Addr) : (putH h a o).get? b = if b = a then some o else h.get? b := by
  have hsz : a < (h.objs ++ Array.replicate (a + 1 - h.objs.size) freedO).size := by
    have e : (h.objs ++ Array.replicate (a + 1 - h.objs.size) freedO).size = h.objs.size + (a + 1 - h.objs.size) := by rw [Array.size_append, Array.size_replicate]
    rw [e]; show a < h.objs.size + (a + 1 - h.objs.size); exact (by omega : ∀ x y : Nat, x < y + (x + 1 - y)) a h.objs.size
  have hne : ∀ b, b ≠ a → (putH h a o).objs[b]? = (h.objs ++ Array.replicate (a + 1 - h.objs.size) freedO)[b]? := fun b hb => by
    unfold putH; exact Array.getElem?_setIfInBounds_ne (Ne.symm hb)
  by_cases hb : b = a
  · subst hb
    rw [if_pos rfl, get?_of_objs]
    have : (putH h b o).objs[b]? = some o := by unfold putH; exact Array.getElem?_setIfInBounds_self_of_lt hsz
    rw [this]
    obtain ⟨c, d, dt, sl⟩ := o
    cases dt <;> first | rfl | cases ho
  · rw [if_neg hb, get?_of_objs, hne b hb, get?_of_objs]
    by_cases hlt : b < h.objs.size
    · rw [Array.getElem?_append_left hlt]
    · have e1 : h.objs[b]? = none := Array.getElem?_eq_none (Nat.not_lt.mp hlt)
      rw [e1, Array.getElem?_append_right (Nat.not_lt.mp hlt), Array.getElem?_replicate]
      by_cases hc : b - h.objs.size < a + 1 - h.objs.size
      · rw [if_pos hc]; rfl
      · rw [if_neg hc]
theorem putH_keep {h : Heap} {a : Addr} {o : Obj} (ho : o.isFreed = false) (hn : h.get? a = none) : Keep h (putH h a o) := fun b x e => by
  rw [putH_get ho]
  by_cases hb : b = a
  · subst hb; rw [hn] at e; cases e
  · rw [if_neg hb]; exact e
theorem putH_at {h : Heap} {a : Addr} {o : Obj} (ho : o.isFreed = false) : (putH h a o).get? a = some o := by rw [putH_get ho, if_pos rfl]

/-- a new object is frozen at once -/
theorem Hold.frz {fz : Heap} {s : Shared} (H : Hold W fz own s) {h' : Heap} {k : Nat} {a : Addr} {o : Obj} (ho : o.isFreed = false) (hk : Keep s.heap h') (ha : s.heap.get? a = none) (hh : h'.get? a = some o) :
    Keep fz (putH fz a o) ∧ Hold W (putH fz a o) own { s with heap := h', toks := k } := by
  have hn : fz.get? a = none := by
    cases e : fz.get? a with
    | none => rfl
    | some x => exact absurd (H.has _ _ e) (by rw [ha]; exact fun y => nomatch y)
  have kk := putH_keep (o := o) ho hn
  refine ⟨kk, ⟨H.base.trans kk, fun b x e => ?_, fun p hp => ?_, fun p hp => ?_, H.nd, H.gens, H.os⟩⟩
  · rw [putH_get ho] at e
    by_cases hb : b = a
    · subst hb; rw [if_pos rfl] at e; cases e; exact hh
    · rw [if_neg hb] at e; exact hk _ _ (H.has _ _ e)
  · obtain ⟨x, e, r⟩ := H.obs p hp
    exact ⟨x, hk _ _ e, r.mono kk⟩
  · rw [putH_get ho]
    have : p.1 ≠ a := fun e => by obtain ⟨x, e', _⟩ := H.obs p hp; rw [e, ha] at e'; cases e'
    rw [if_neg this]; exact H.out p hp

/-- an owned object is frozen -/
theorem Hold.freeze {fz : Heap} {s : Shared} {a : Addr} {ob : Ob} (H : Hold W fz ((a, ob) :: own) s) : ∃ o, s.heap.get? a = some o ∧ ObIs fz ob o ∧ o.isFreed = false ∧ Keep fz (putH fz a o) ∧ Hold W (putH fz a o) own s := by
  obtain ⟨o, ho, r⟩ := H.obs _ List.mem_cons_self
  have hf : o.isFreed = false := by
    have e := ho
    rw [get?_of_objs] at e
    obtain ⟨c, d, dt, sl⟩ := o
    cases dt <;> first | rfl | (exfalso; revert e; cases hq : s.heap.objs[a]? with
      | none => intro e; cases e
      | some x => obtain ⟨c', d', dt', sl'⟩ := x; cases dt' <;> intro e <;> cases e)
  have hn := H.out _ List.mem_cons_self
  have kk := putH_keep (o := o) hf hn
  refine ⟨o, ho, r, hf, kk, ⟨H.base.trans kk, fun b x e => ?_, fun p hp => ?_, fun p hp => ?_, ?_, H.gens, H.os⟩⟩
  · rw [putH_get hf] at e
    by_cases hb : b = a
    · subst hb; rw [if_pos rfl] at e; cases e; exact ho
    · rw [if_neg hb] at e; exact H.has _ _ e
  · obtain ⟨x, e, r⟩ := H.obs p (List.mem_cons_of_mem _ hp)
    exact ⟨x, e, r.mono kk⟩
  · rw [putH_get hf]
    have : p.1 ≠ a := fun e => by
      have nd := H.nd
      rw [List.map_cons, List.nodup_cons] at nd
      exact nd.1 (List.mem_map.mpr ⟨p, hp, e⟩)
    rw [if_neg this]; exact H.out p (List.mem_cons_of_mem _ hp)
  · have nd := H.nd
    rw [List.map_cons, List.nodup_cons] at nd
    exact nd.2

/-! ### all data -/
inductive AllDat : List V → List PyData → Prop
  | nil : AllDat [] []
  | cons {d : PyData} {l : List V} {ds : List PyData} : AllDat l ds → AllDat (.dat d :: l) (d :: ds)
theorem AllDat.eq {l : List V} {ds : List PyData} (x : AllDat l ds) : l = ds.map V.dat := by
  induction x with
  | nil => rfl
  | cons _ ih => rw [ih]; rfl
theorem AllDat.map (ds : List PyData) : AllDat (ds.map V.dat) ds := by
  induction ds with
  | nil => exact .nil
  | cons d ds ih => exact .cons ih
theorem AllDat.length {l : List V} {ds : List PyData} (x : AllDat l ds) : l.length = ds.length := by rw [x.eq, List.length_map]

theorem rv_list {fz : Heap} {a : Addr} {vs : List Value} {n : Nat} {ds : List PyData} (h : fz.get? a = some (listObj vs n)) (r : RVs fz (ds.map V.dat) vs) : RV fz (.lst ds) (.ref a) := by
  obtain ⟨as, ra⟩ := r.reads
  exact .dat (.list h rfl rfl (by simpa using ra))
theorem rv_tuple {fz : Heap} {a : Addr} {vs : List Value} {n : Nat} {ds : List PyData} (h : fz.get? a = some (tupObj vs n)) (r : RVs fz (ds.map V.dat) vs) : RV fz (.tup ds) (.ref a) := by
  obtain ⟨as, ra⟩ := r.reads
  exact .dat (.tuple h rfl rfl (by simpa using ra))

/-- freezing an owned list: the rest of the proof may see it as data -/
theorem SG_freeze {α β : Type} {R : Heap → β → α → Prop} {t : Sem α} {a : Addr} {ob : Ob} {own own' : Own} {Q : β → Own → Prop} (hp : own.Perm ((a, ob) :: own'))
    (h : ∀ fz s o, Hold W fz own' s → W.tk ≤ s.toks → fz.get? a = some o → ObIs fz ob o → At W A R t Q fz s) : SG W A R t own Q := fun fz s H ht => by
  obtain ⟨o, ho, r, hf, kk, H'⟩ := (H.perm hp).freeze
  exact (h _ s o H' ht (putH_at hf) (r.mono kk)).weak kk

/-! ### displays -/
abbrev SEs (W : Wd) (A : Around) (env : Env) (pos : Pos) (l : List Expr) (own : Own) (Q : List V → Own → Prop) : Prop := SG W A RVs (spliced (backTo pos (starEach l env))) own Q
theorem SEs_nil {pos : Pos} {Q : List V → Own → Prop} (h : Q [] own) : SEs W A env pos [] own Q := fun fz s H _ => Calls.spliced_nil ⟨fz, _, own, .refl _, H, .nil, h⟩
theorem SEs_cons {pos : Pos} {e : Expr} {rest : List Expr} {Q : List V → Own → Prop} (h : SE W A env e own fun a o1 => SEs W A env pos rest o1 fun l o2 => Q (a :: l) o2)
    (he : starEach (e :: rest) env = (false, eval e env) :: starEach rest env := by rfl) : SEs W A env pos (e :: rest) own Q := fun fz s H ht => by
  unfold At
  rw [he]
  show wpAny _ _ (spliced ((false, eval e env) :: backTo pos (starEach rest env))) _ _ _
  refine Calls.spliced_cons (wp_then (h fz s H ht) ht fun fz1 va a o1 s1 k1 H1 t1 r1 q1 => wp_then (q1 fz1 s1 H1 t1) t1 fun fz2 vl l o2 s2 k2 H2 t2 r2 q2 => ?_)
  exact ⟨fz2, _, o2, k1.trans k2, H2, .cons (r1.mono k2) r2, q2⟩

/-- a list that may be turned -/
theorem SE_List {elts : List Expr} {pos : Pos} {Q : V → Own → Prop} (hz : elts.length ≤ sizeLine) (h : SEs W A env pos elts own fun l o1 => l.length ≤ sizeLine ∧ ∀ a, Q (.ref a) ((a, .list l) :: o1)) : SE W A env (.List elts pos) own Q := fun fz s H ht => by
  refine List_ (wp_then (h fz s H ht) ht fun fz1 vs l o1 s1 k1 H1 t1 r1 q1 => ?_)
  refine wpAny_newObj_type ?_ (by show vs.toArray.size ≤ sizeLine; rw [List.size_toArray, ← r1.length]; exact q1.1)
  exact ⟨fz1, _, _, k1, H1.new (ob := .list l) (k := s1.toks) (Keep.push _ _) (get?_ge (Nat.le_refl _)) (Heap.get?_push_size _ rfl) ⟨vs, 0, rfl, r1⟩, .val _, q1.2 _⟩
/-- a list that stays as it is -/
theorem SE_ListF {elts : List Expr} {pos : Pos} {Q : V → Own → Prop} (h : SEs W A env pos elts own fun l o1 => ∃ ds, AllDat l ds ∧ ds.length ≤ sizeLine ∧ Q (.lst ds) o1) : SE W A env (.List elts pos) own Q := fun fz s H ht => by
  refine List_ (wp_then (h fz s H ht) ht fun fz1 vs l o1 s1 k1 H1 t1 r1 q1 => ?_)
  obtain ⟨ds, ad, hz, q⟩ := q1
  refine wpAny_newObj_type ?_ (by show vs.toArray.size ≤ sizeLine; rw [List.size_toArray, ← r1.length, ad.length]; exact hz)
  obtain ⟨kk, H'⟩ := H1.frz (k := s1.toks) (o := listObj vs 0) rfl (Keep.push _ _) (get?_ge (Nat.le_refl _)) (Heap.get?_push_size _ rfl)
  exact ⟨_, _, o1, k1.trans kk, H', rv_list (putH_at rfl) (by rw [← ad.eq]; exact r1.mono kk), q⟩
theorem SE_TupleF {elts : List Expr} {k : Nat} {pos : Pos} {Q : V → Own → Prop} (h : SEs W A env pos elts own fun l o1 => ∃ ds, AllDat l ds ∧ ds.length ≤ sizeLine ∧ Q (.tup ds) o1) : SE W A env (.Tuple elts k pos) own Q := fun fz s H ht => by
  refine Tuple_ (wp_then (h fz s H ht) ht fun fz1 vs l o1 s1 k1 H1 t1 r1 q1 => ?_)
  obtain ⟨ds, ad, hz, q⟩ := q1
  refine wpAny_newObj_type ?_ (by show vs.toArray.size ≤ sizeLine; rw [List.size_toArray, ← r1.length, ad.length]; exact hz)
  obtain ⟨kk, H'⟩ := H1.frz (k := s1.toks) (o := tupObj vs 0) rfl (Keep.push _ _) (get?_ge (Nat.le_refl _)) (Heap.get?_push_size _ rfl)
  exact ⟨_, _, o1, k1.trans kk, H', rv_tuple (putH_at rfl) (by rw [← ad.eq]; exact r1.mono kk), q⟩
/-- a tuple that holds made things -/
theorem SE_Tuple {elts : List Expr} {k : Nat} {pos : Pos} {Q : V → Own → Prop} (h : SEs W A env pos elts own fun l o1 => l.length ≤ sizeLine ∧ ∀ a, Q (.ref a) ((a, .tup l) :: o1)) : SE W A env (.Tuple elts k pos) own Q := fun fz s H ht => by
  refine Tuple_ (wp_then (h fz s H ht) ht fun fz1 vs l o1 s1 k1 H1 t1 r1 q1 => ?_)
  refine wpAny_newObj_type ?_ (by show vs.toArray.size ≤ sizeLine; rw [List.size_toArray, ← r1.length]; exact q1.1)
  exact ⟨fz1, _, _, k1, H1.new (ob := .tup l) (k := s1.toks) (Keep.push _ _) (get?_ge (Nat.le_refl _)) (Heap.get?_push_size _ rfl) ⟨vs, 0, rfl, r1⟩, .val _, q1.2 _⟩

/-! ### items -/
theorem rvs_dat_get {fz : Heap} {ds : List PyData} {vs : List Value} (r : RVs fz (ds.map V.dat) vs) {i : Nat} {d : PyData} (h : ds[i]? = some d) : ∃ v, vs[i]? = some v ∧ RV fz (.dat d) v :=
  r.get (by rw [List.getElem?_map, h]; rfl)

/-- the place of an index -/
def place (k : Int) (n : Nat) : Nat := if k < 0 then (k + n).toNat else k.toNat
theorem sub_lst {o i : Expr} {l : List PyData} {k : Int} {d : PyData} {Q : V → Own → Prop} (hlo : -(l.length : Int) ≤ k) (hhi : k < (l.length : Int)) (hz : l.length ≤ sizeLine) (hx : l[place k l.length]? = some d) (h : Q (.dat d) own)
    (hs : ∀ v u, subscripted i false v u = operate [v, u] (getItem v u) := by intro _ _; with_unfolding_all rfl) : S2 W A RV (subscriptTail o i) (.lst l) (.int k) own Q := fun fz s v u H _ r1 r2 => by
  obtain ⟨t, rfl⟩ := r2.int_inv
  obtain ⟨a, vs, rfl, hl, rs⟩ := r1.lst_inv
  obtain ⟨x, e, r⟩ := rvs_dat_get rs hx
  have hlen := rs.length
  rw [List.length_map] at hlen
  have hsz : vs.toList.length = vs.size := Array.length_toList
  rw [sizeLine_eq] at hz
  have hl' := IsList_keep hl H.has
  unfold place at e
  rw [hlen, hsz] at e
  by_cases hk : k < 0
  · rw [if_pos hk] at e
    exact tail_any hl'.typeIs slot_list_getitem.lookup (wpAny_getItem_list_neg hl' hk (by omega) (by omega) (by rw [← Array.getElem?_toList]; exact e) ⟨fz, _, own, .refl _, H, r, h⟩) (hs _ _)
  · rw [if_neg hk] at e
    exact tail_any hl'.typeIs slot_list_getitem.lookup (wpAny_getItem_list hl' (by omega) (by omega) (by rw [← Array.getElem?_toList]; exact e) ⟨fz, _, own, .refl _, H, r, h⟩) (hs _ _)
theorem sub_own {o i : Expr} {a : Addr} {l : List V} {k : Int} {d : V} {Q : V → Own → Prop} (hm : (a, Ob.list l) ∈ own) (hlo : -(l.length : Int) ≤ k) (hhi : k < (l.length : Int)) (hz : l.length ≤ sizeLine) (hx : l[place k l.length]? = some d) (h : Q d own)
    (hs : ∀ v u, subscripted i false v u = operate [v, u] (getItem v u) := by intro _ _; with_unfolding_all rfl) : S2 W A RV (subscriptTail o i) (.ref a) (.int k) own Q := fun fz s v u H _ r1 r2 => by
  obtain ⟨t, rfl⟩ := r2.int_inv
  cases r1.val_inv
  obtain ⟨ob, ho, vs, n, rfl, rs⟩ := H.get hm
  obtain ⟨x, e, r⟩ := rs.get hx
  have hlen := rs.length
  rw [sizeLine_eq] at hz
  have hl' : s.heap.IsList a vs.toArray := ⟨_, ho, rfl, n, rfl⟩
  unfold place at e
  rw [hlen] at e
  by_cases hk : k < 0
  · rw [if_pos hk] at e
    exact tail_any hl'.typeIs slot_list_getitem.lookup (wpAny_getItem_list_neg hl' hk (by simp only [List.size_toArray]; omega) (by omega) (by simpa using e) ⟨fz, _, own, .refl _, H, r, h⟩) (hs _ _)
  · rw [if_neg hk] at e
    exact tail_any hl'.typeIs slot_list_getitem.lookup (wpAny_getItem_list hl' (by omega) (by omega) (by simpa using e) ⟨fz, _, own, .refl _, H, r, h⟩) (hs _ _)
theorem seqIndex_place {k : Int} {n : Nat} (hlo : -(n : Int) ≤ k) (hhi : k < (n : Int)) : seqIndex? k n = some (place k n) := by
  unfold seqIndex? place
  by_cases hk : k < 0
  · have h1 : (0 : Int) ≤ k + n := by omega
    have h2 : k + n < (n : Int) := by omega
    simp [hk, h1, h2]
  · have h1 : (0 : Int) ≤ k := by omega
    simp [hk, h1, hhi]
theorem sub_tup {o i : Expr} {l : List PyData} {k : Int} {d : PyData} {Q : V → Own → Prop} (hlo : -(l.length : Int) ≤ k) (hhi : k < (l.length : Int)) (hz : l.length ≤ sizeLine) (hx : l[place k l.length]? = some d) (h : Q (.dat d) own)
    (hs : ∀ v u, subscripted i false v u = operate [v, u] (getItem v u) := by intro _ _; with_unfolding_all rfl) : S2 W A RV (subscriptTail o i) (.tup l) (.int k) own Q := fun fz s v u H _ r1 r2 => by
  obtain ⟨t, rfl⟩ := r2.int_inv
  obtain ⟨a, vs, rfl, hl, rs⟩ := r1.tup_inv
  obtain ⟨x, e, r⟩ := rvs_dat_get rs hx
  have hlen := rs.length
  rw [List.length_map] at hlen
  have hsz : vs.toList.length = vs.size := Array.length_toList
  rw [sizeLine_eq] at hz
  have hl' := IsTuple_keep hl H.has
  exact tail_any hl'.typeIs slot_tuple_getitem.lookup (getItem_tuple hl' (by omega) (by omega) (by rw [show vs.size = l.length by omega]; exact seqIndex_place hlo hhi) (by rw [← Array.getElem?_toList]; exact e) ⟨fz, _, own, .refl _, H, r, h⟩) (hs _ _)
theorem sub_str {o i : Expr} {x : Str} {k : Int} {c : Nat} {Q : V → Own → Prop} (hlo : -(x.length : Int) ≤ k) (hhi : k < (x.length : Int)) (hz : x.length ≤ sizeLine) (hx : x.cps[place k x.length]? = some c) (h : Q (.str ⟨#[c]⟩) own)
    (hs : ∀ v u, subscripted i false v u = operate [v, u] (getItem v u) := by intro _ _; with_unfolding_all rfl) : S2 W A RV (subscriptTail o i) (.str x) (.int k) own Q := fun fz s v u H _ r1 r2 => by
  obtain ⟨t, rfl⟩ := r2.int_inv
  obtain ⟨t', rfl⟩ := r1.str_inv
  rw [sizeLine_eq] at hz
  have hc : Txt.charAt x k = some c := by unfold Txt.charAt; rw [seqIndex_place hlo hhi]; exact hx
  refine tail_any (typeIs_str s x t') F.slot_str_getitem.lookup (SB.getItem ?_ (by rw [hc]; rfl) ?_) (hs _ _)
  · unfold fitsSsize; simp; omega
  · have e : Txt.item x k = ⟨#[c]⟩ := by unfold Txt.item; rw [hc]; rfl
    rw [e]; exact at_tok H _ (.dat (.str _ _)) h

/-! ### appending -/
theorem do_append {a : Addr} {l : List V} {x : V} {own' : Own} {Q : V → Own → Prop} (u : Upd a (.list l) (.list (l ++ [x])) own own') (hz : l.length ≤ sizeLine) (h : Q .none own') :
    S1 W A RV (fun v => call (.builtin "list.append") [.ref a, v]) x own Q := fun fz s v H _ r => by
  obtain ⟨ob, ho, vs, n, rfl, rs⟩ := H.get u.mem
  refine wpAny_list_append_plain (l := a) (items := vs.toArray) ⟨n, ho⟩ (fun h' ⟨n', hl'⟩ hs' => ?_) (hsz := by rw [List.size_toArray, ← rs.length]; exact hz)
  exact ⟨fz, _, own', .refl _, H.set (k := s.toks) u hs' hl' ⟨vs ++ [v], n', by simp [listObj], rs.append (.cons r .nil)⟩, .dat .none, h⟩
end
section
variable {W : Wd} {A : Around} {env : Env} {own : Own}

/-! ### forgetting -/
inductive ObW : Ob → Ob → Prop
  | refl {o : Ob} : ObW o o
  | ns {l l' : List (Str × V)} : l'.Sublist l → ObW (.ns l) (.ns l')
inductive Wk : Own → Own → Prop
  | nil {l : Own} : Wk l []
  | refl {l : Own} : Wk l l
  | keep {a : Addr} {ob ob' : Ob} {l l' : Own} : ObW ob ob' → Wk l l' → Wk ((a, ob) :: l) ((a, ob') :: l')
  | drop {p : Addr × Ob} {l l' : Own} : Wk l l' → Wk (p :: l) l'
theorem ObW.is {fz : Heap} {ob ob' : Ob} {o : Obj} (x : ObW ob ob') (h : ObIs fz ob o) : ObIs fz ob' o := by
  cases x with
  | refl => exact h
  | ns k => obtain ⟨es, ep, h1, h2, h3⟩ := h; exact ⟨es, ep, h1, h2, fun p hp => h3 p (k.subset hp)⟩
theorem Wk.hold {fz : Heap} {own own' : Own} (x : Wk own own') : ∀ {s : Shared}, Hold W fz own s → Hold W fz own' s := by
  have key : ∀ {own own' : Own}, Wk own own' → (∀ p' ∈ own', ∃ p ∈ own, p.1 = p'.1 ∧ ObW p.2 p'.2) ∧ (own'.map (·.1)).Sublist (own.map (·.1)) := by
    intro own own' x
    induction x with
    | nil => exact ⟨fun p hp => (nomatch hp), List.nil_sublist _⟩
    | refl => exact ⟨fun p hp => ⟨p, hp, rfl, .refl⟩, List.Sublist.refl _⟩
    | @keep a ob ob' l l' h _ ih =>
      refine ⟨fun p hp => ?_, by simpa using ih.2⟩
      rcases List.mem_cons.mp hp with rfl | hp
      · exact ⟨(a, ob), List.mem_cons_self, rfl, h⟩
      · obtain ⟨q, hq, r⟩ := ih.1 p hp; exact ⟨q, List.mem_cons_of_mem _ hq, r⟩
    | @drop p l l' _ ih =>
      refine ⟨fun p hp => ?_, ?_⟩
      · obtain ⟨q, hq, r⟩ := ih.1 p hp; exact ⟨q, List.mem_cons_of_mem _ hq, r⟩
      · exact ih.2.trans (by simp)
  intro s H
  obtain ⟨k1, k2⟩ := key x
  refine ⟨H.base, H.has, fun p hp => ?_, fun p hp => ?_, H.nd.sublist k2, H.gens, H.os⟩
  · obtain ⟨q, hq, e, w⟩ := k1 p hp
    obtain ⟨o, ho, r⟩ := H.obs q hq
    exact ⟨o, e ▸ ho, w.is r⟩
  · obtain ⟨q, hq, e, w⟩ := k1 p hp
    exact e ▸ H.out q hq
theorem Wk.trans {a b : Own} (x : Wk a b) : ∀ {c : Own}, Wk b c → Wk a c := by
  induction x with
  | nil => intro c y; cases y <;> exact .nil
  | refl => intro c y; exact y
  | keep h _ ih =>
    intro c y
    cases y with
    | nil => exact .nil
    | refl => exact .keep h (ih .refl)
    | keep h' y' =>
      refine .keep ?_ (ih y')
      cases h with
      | refl => exact h'
      | ns k => cases h' with
        | refl => exact .ns k
        | ns k' => exact .ns (k'.trans k)
    | drop y' => exact .drop (ih y')
  | drop _ ih => intro c y; exact .drop (ih y)

theorem SG.wk {α β : Type} {R : Heap → β → α → Prop} {t : Sem α} {own own' : Own} {Q : β → Own → Prop} (k : Wk own own') (h : SG W A R t own' Q) : SG W A R t own Q :=
  fun fz s H ht => h fz s (k.hold H) ht

/-! ### calls of the text's own -/
abbrev retTo (Q : V → Own → Prop) : Fl → Own → Prop := fun fl o => ∃ own', Wk o own' ∧ Q (match fl with | .ret v => v | _ => .none) own'

theorem zip_lookup {fz : Heap} : ∀ {names : List Str} {l : List V} {vs : List Value}, RVs fz l vs → names.Nodup → ∀ p ∈ names.zip l, ∃ v, (names.zip vs).lookup p.1 = some v ∧ RV fz p.2 v
  | [], _, _, _, _, p, hp => by simp at hp
  | n :: r, _, _, .nil, _, p, hp => by simp at hp
  | n :: r, _, _, .cons (a := a) (v := v) (l := l) (vs := vs) h t, nd, p, hp => by
    rw [List.nodup_cons] at nd
    rw [List.zip_cons_cons, List.mem_cons] at hp
    rcases hp with rfl | hp
    · exact ⟨v, by simp, h⟩
    · obtain ⟨u, e, q⟩ := zip_lookup t nd.2 p hp
      refine ⟨u, ?_, q⟩
      rw [List.zip_cons_cons, List.lookup_cons]
      have hne : p.1 ≠ n := fun e => nd.1 (e ▸ (List.of_mem_zip (show (p.1, p.2) ∈ r.zip l from hp)).1)
      have : (p.1 == n) = false := by simpa using hne
      rw [this]; exact e
theorem lookup_reverse {l : List (Str × Value)} (nd : (l.map (·.1)).Nodup) (x : Str) : l.reverse.lookup x = l.lookup x := by
  induction l with
  | nil => rfl
  | cons p l ih =>
    rw [List.map_cons, List.nodup_cons] at nd
    rw [List.reverse_cons, List.lookup_append, ih nd.2, List.lookup_cons]
    cases e : x == p.1 with
    | true =>
      have : l.lookup x = none := by
        rw [List.lookup_eq_none_iff]
        intro q hq
        have : x ≠ q.1 := fun e' => nd.1 (List.mem_map.mpr ⟨q, hq, by rw [← e', eq_of_beq e]⟩)
        simpa using this
      rw [this]
      obtain ⟨p1, p2⟩ := p
      have e' : (x == p1) = true := e
      simp [List.lookup_cons, e']
    | false =>
      obtain ⟨p1, p2⟩ := p
      have e' : (x == p1) = false := e
      simp [List.lookup_cons, e']

theorem zip_fst {α β : Type} : ∀ {a : List α} {b : List β}, ((a.zip b).map (·.1)).Sublist a
  | [], _ => by simp
  | _ :: _, [] => by simp
  | x :: a, y :: b => by simpa using zip_fst

/-- a call's own code -/
def SLC (W : Wd) (A : Around) (f : Value) (args : List V) (own : Own) (Q : V → Own → Prop) : Prop :=
  ∀ fz s vs, Hold W fz own s → W.tk ≤ s.toks → RVs fz args vs → codeAny (model W.prog W.w) A (.call f ⟨vs, []⟩)
    (fun r s' => match r with | .ok (.ret v) => ∃ fz' b own', Keep fz fz' ∧ Hold W fz' own' s' ∧ RV fz' b v ∧ Q b own' | .ok _ => False | .error _ => False) s
theorem SLC.call {f : Value} {args : List V} {Q : V → Own → Prop} (h : SLC W A f args own Q) : SL W A RV (fun vs => call f vs) args own Q := fun fz s vs H ht rs =>
  wpAny_call (codeAny_mono (h fz s vs H ht rs) fun r s' x => by rcases r with e | (v | _ | _ | _) <;> first | exact x | exact x.elim)
theorem SLC.mono {f : Value} {args : List V} {Q Q' : V → Own → Prop} (h : SLC W A f args own Q) (q : ∀ b o, Q b o → Q' b o) : SLC W A f args own Q' := fun fz s vs H ht rs =>
  codeAny_mono (h fz s vs H ht rs) fun r s' x => by
    rcases r with e | (v | _ | _ | _) <;> first | exact x.elim | skip
    obtain ⟨fz', b, own', k, H', r, x⟩ := x
    exact ⟨fz', b, own', k, H', r, q _ _ x⟩

theorem do_callC {f : Addr} {args : List V} {Q : V → Own → Prop} {name qual : Str} {params : Arguments} {body : List Stmt} {scope : Scope} {dV kV doc pm cdv ct oc : Value} {an od : Option Addr} {osl : Array (Option Value)}
    (names : List Str) (ho : W.K.lookup f = some ⟨oc, od, .func (fnOf name qual params body scope dV kV doc pm an cdv ct), osl⟩) (hcd : codeIn W.K cdv qual = true) (hroom : A.depth < recursionLimit)
    (hb : ∀ s vs, W.K.In s.heap → vs.length = args.length → BindsTo s (fnOf name qual params body scope dV kV doc pm an cdv ct) ⟨vs, []⟩ (names.zip vs))
    (hloc : ∀ y ∈ names, scope.names.lookup y = some .local) (nd : names.Nodup)
    (h : ∀ L, SXs W (A.deeper (envX qual scope L f cdv [])) (envX qual scope L f cdv []) body ((L, .ns (names.zip args)) :: own) (retTo Q))
    (hco : scope.isCoroutine = false := by rfl) (hgen : scope.isGenerator = false := by rfl) (hk : scope.kind = .function := by rfl)
    (hcell : ∀ x ∈ scope.names, x.2 ≠ .cell := by decide) : SLC W A (.ref f) args own Q := fun fz s vs H ht rs => by
  have ndz : ((names.zip vs).map (·.1)).Nodup := nd.sublist zip_fst
  refine (codeAny_call_def (fd := fnOf name qual params body scope dV kV doc pm an cdv ct) (body := body) (binds := names.zip vs) hroom (H.kin _ _ ho) rfl (W.top.nolimit.keeps H.keep) (codeRec_of H.kin hcd) rfl
    (hb s vs H.kin rs.length.symm) hcell (fun x hx => hloc _ (List.of_mem_zip (show (x.1, x.2) ∈ names.zip vs from hx)).1) (fun h₁ hns hk₁ => ?_) hco hgen hk)
  obtain ⟨o, ho', hob⟩ := of_ns (fz := fz) (loc := names.zip args) hns (fun p hp => by
    obtain ⟨v, e, r⟩ := zip_lookup rs nd p hp
    exact ⟨v, by rw [lookup_reverse ndz]; exact e, r⟩)
  have H₁ : Hold W fz ((s.heap.objs.size, .ns (names.zip args)) :: own) { s with heap := h₁, toks := s.toks + (names.zip vs).length } := H.new hk₁ (get?_ge (Nat.le_refl _)) ho' hob
  refine wpAny_mono (h s.heap.objs.size fz _ H₁ (Nat.le_trans ht (Nat.le_add_right _ _))) (fun fl s' x => ?_) fun _ _ x => x.elim
  obtain ⟨fz', b, own', k, H', r, own'', wk, q⟩ := x
  refine ⟨fz', _, own'', k, wk.hold H', ?_, q⟩
  cases r with
  | next => exact .dat .none
  | brk => exact .dat .none
  | cont => exact .dat .none
  | ret r => exact r

/-! ### iterators -/
theorem rvs_drop {fz : Heap} {x : V} {l : List V} {vs : List Value} {i : Nat} (r : RVs fz (x :: l) (vs.drop i)) : ∃ v, vs[i]? = some v ∧ RV fz x v ∧ RVs fz l (vs.drop (i + 1)) := by
  generalize e : vs.drop i = ws at r
  cases r with
  | cons h t =>
    refine ⟨_, by rw [← List.head?_drop, e]; rfl, h, ?_⟩
    rw [← List.tail_drop, e]; exact t
theorem rvs_drop_nil {fz : Heap} {vs : List Value} {i : Nat} (r : RVs fz [] (vs.drop i)) : vs[i]? = none := by
  generalize e : vs.drop i = ws at r
  cases r
  rw [← List.head?_drop, e]; rfl

theorem it_list {l : List PyData} {Q : V → Own → Prop} (h : ∀ a, Q (.ref a) ((a, .it (l.map V.dat)) :: own)) : S1 W A RV pyIter (.lst l) own Q := fun fz s v H _ r => by
  obtain ⟨a, vs, rfl, hl, rs⟩ := r.lst_inv
  refine wpAny_pyIter_list (IsList_keep hl H.has) ?_
  exact ⟨fz, _, _, .refl _, H.new (ob := .it (l.map V.dat)) (k := s.toks) (Keep.push _ _) (get?_ge (Nat.le_refl _)) (Heap.get?_push_size _ rfl) (.list hl (by simpa using rs) rfl rfl), .val _, h _⟩
theorem it_tup {l : List PyData} {Q : V → Own → Prop} (h : ∀ a, Q (.ref a) ((a, .it (l.map V.dat)) :: own)) : S1 W A RV pyIter (.tup l) own Q := fun fz s v H _ r => by
  obtain ⟨a, vs, rfl, hl, rs⟩ := r.tup_inv
  refine wpAny_pyIter_tuple (IsTuple_keep hl H.has) ?_
  exact ⟨fz, _, _, .refl _, H.new (ob := .it (l.map V.dat)) (k := s.toks) (Keep.push _ _) (get?_ge (Nat.le_refl _)) (Heap.get?_push_size _ rfl) (.tup hl (by simpa using rs) rfl rfl), .val _, h _⟩
theorem it_str {x : Str} {Q : V → Own → Prop} (h : ∀ a, Q (.ref a) ((a, .it (x.cps.toList.map fun c => V.str ⟨#[c]⟩)) :: own)) : S1 W A RV pyIter (.str x) own Q := fun fz s v H _ r => by
  obtain ⟨t, rfl⟩ := r.str_inv
  cases ha : x.cps.all (· < 128)
  · refine wpAny_pyIter_wide ha ?_
    exact ⟨fz, _, _, .refl _, H.new (ob := .it (x.cps.toList.map fun c => V.str ⟨#[c]⟩)) (k := s.toks) (Keep.push _ _) (get?_ge (Nat.le_refl _)) (Heap.get?_push_size _ rfl) (.wide rfl rfl rfl), .val _, h _⟩
  · refine wpAny_pyIter_ascii ha ?_
    exact ⟨fz, _, _, .refl _, H.new (ob := .it (x.cps.toList.map fun c => V.str ⟨#[c]⟩)) (k := s.toks) (Keep.push _ _) (get?_ge (Nat.le_refl _)) (Heap.get?_push_size _ rfl) (.ascii rfl rfl rfl), .val _, h _⟩
theorem it_range {a b c : Int} {n : Nat} {Q : V → Own → Prop} (hs : Builtin.Range.small a b c = true) (hn : Builtin.Range.rangeSize a b c = (n : Int)) (h : ∀ i, Q (.ref i) ((i, .it ((List.range n).map fun j : Nat => V.int (a + (j : Int) * c))) :: own)) :
    S1 W A RV pyIter (.rng a b c) own Q := fun fz s v H _ r => by
  cases r with
  | rng r =>
  refine wpAny_pyIter_range (IsRange_keep r H.has) hs ?_
  rw [hn]
  exact ⟨fz, _, _, .refl _, H.new (ob := .it ((List.range n).map fun j : Nat => V.int (a + (j : Int) * c))) (k := s.toks) (Keep.push _ _) (get?_ge (Nat.le_refl _)) (Heap.get?_push_size _ rfl) (.range rfl rfl), .val _, h _⟩

theorem Upd.cons' {a : Addr} {ob ob' : Ob} {l : Own} : Upd a ob ob' ((a, ob) :: l) ((a, ob') :: l) := .here

/-- one more is drawn -/
theorem next_some {a : Addr} {x : V} {l : List V} {fz : Heap} {s : Shared} {own' : Own} {P : Option Value → Shared → Prop} (H : Hold W fz own s) (u : Upd a (.it (x :: l)) (.it l) own own')
    (q : ∀ v s', Hold W fz own' s' → s.toks ≤ s'.toks → RV fz x v → P (some v) s') : wpAny (model W.prog W.w) A (pyNext (.ref a)) P NoX s := by
  obtain ⟨o, ho, hob⟩ := H.get u.mem
  cases hob with
  | @list b vs i _ _ hl rs hc hd =>
    obtain ⟨v, e, rx, rl⟩ := rvs_drop rs
    refine wpAny_pyNext_list_item (l := b) (i := i) ⟨o, ho, hc, hd⟩ (IsList_keep hl H.has) (by rw [← Array.getElem?_toList]; exact e) fun h' ⟨o', ho', hc', hd'⟩ hs' => ?_
    exact q v _ (H.set (k := s.toks) u hs' ho' (.list hl rl hc' (by exact hd'))) (Nat.le_refl _) rx
  | @tup b vs i _ _ hl rs hc hd =>
    obtain ⟨v, e, rx, rl⟩ := rvs_drop rs
    refine wpAny_pyNext_tuple_item (t := b) (i := i) ⟨o, ho, hc, hd⟩ (IsTuple_keep hl H.has) (by rw [← Array.getElem?_toList]; exact e) fun h' ⟨o', ho', hc', hd'⟩ hs' => ?_
    exact q v _ (H.set (k := s.toks) u hs' ho' (.tup hl rl hc' (by exact hd'))) (Nat.le_refl _) rx
  | @range y c n _ _ hl e =>
    subst e
    cases n with
    | zero => cases hl
    | succ n =>
      rw [List.range_succ_eq_map, List.map_cons, List.map_map] at hl
      injection hl with e1 e2
      refine wpAny_pyNext_range_item (x := y) (left := ((n + 1 : Nat) : Int)) (step := c) (by exact ho) (by omega) fun h' hit hs' => ?_
      refine q _ _ (H.set (k := s.toks + 1) u hs' (by exact hit) (.range (x := y + c) (n := n) (c := c) ?_ ?_)) (Nat.le_succ _) ?_
      · rw [e2]; apply List.map_congr_left; intro j _
        have : y + ((Nat.succ j : Nat) : Int) * c = y + c + (j : Int) * c := by
          rw [Nat.succ_eq_add_one]; push_cast; rw [Int.add_mul, Int.one_mul]; omega
        show V.int (y + ((Nat.succ j : Nat) : Int) * c) = _
        rw [this]
      · have : (((n + 1 : Nat) : Int) - 1) = (n : Int) := by push_cast; omega
        rw [this]
      · rw [e1]; simp; exact .dat (.int _ _)
  | @ascii y t i _ _ hl hc hd =>
    have e : y.cps[i]? = (y.cps.toList.drop i).head? := by rw [List.head?_drop, Array.getElem?_toList]
    have tl : y.cps.toList.drop (i + 1) = (y.cps.toList.drop i).tail := (List.tail_drop ..).symm
    cases hq : y.cps.toList.drop i with
    | nil => rw [hq] at hl; cases hl
    | cons c r =>
      rw [hq] at hl e tl
      injection hl with e1 e2
      refine wpAny_pyNext_ascii_item (x := y) (t := t) (i := i) (c := c) ⟨o, ho, hc, hd⟩ e fun h' ⟨o', ho', hc', hd'⟩ hs' => ?_
      exact q _ _ (H.set (k := s.toks + 1) u hs' ho' (.ascii (by rw [tl]; exact e2) hc' (by exact hd'))) (Nat.le_succ _) (by rw [e1]; exact .dat (.str _ _))
  | @wide y t i _ _ hl hc hd =>
    have e : y.cps[i]? = (y.cps.toList.drop i).head? := by rw [List.head?_drop, Array.getElem?_toList]
    have tl : y.cps.toList.drop (i + 1) = (y.cps.toList.drop i).tail := (List.tail_drop ..).symm
    cases hq : y.cps.toList.drop i with
    | nil => rw [hq] at hl; cases hl
    | cons c r =>
      rw [hq] at hl e tl
      injection hl with e1 e2
      refine wpAny_pyNext_wide_item (x := y) (t := t) (i := i) (c := c) ⟨o, ho, hc, hd⟩ e fun h' ⟨o', ho', hc', hd'⟩ hs' => ?_
      exact q _ _ (H.set (k := s.toks + 1) u hs' ho' (.wide (by rw [tl]; exact e2) hc' (by exact hd'))) (Nat.le_succ _) (by rw [e1]; exact .dat (.str _ _))

theorem Hold.extBut {fz : Heap} {s : Shared} {a : Addr} {ob : Ob} (H : Hold W fz ((a, ob) :: own) s) {h' : Heap} {k : Nat} (he : Heap.ExtBut a s.heap h') : Hold W fz own { s with heap := h', toks := k } where
  base := H.base
  has := fun b o e => he b o (fun hb => by have := H.out _ List.mem_cons_self; rw [hb] at e; exact absurd e (by rw [this]; exact fun x => nomatch x)) (H.has b o e)
  obs := fun p hp => by
    obtain ⟨o, e, r⟩ := H.obs p (List.mem_cons_of_mem _ hp)
    have nd := H.nd
    rw [List.map_cons, List.nodup_cons] at nd
    exact ⟨o, he _ _ (fun hb => nd.1 (List.mem_map.mpr ⟨p, hp, hb⟩)) e, r⟩
  out := fun p hp => H.out p (List.mem_cons_of_mem _ hp)
  nd := by have nd := H.nd; rw [List.map_cons, List.nodup_cons] at nd; exact nd.2
  gens := H.gens
  os := H.os

theorem next_over {prog : Program} {w : World} {E : Value → Shared → Prop} {s : Shared} {it : Addr} {o : Obj} {k : Value} {Q : Option Value → Shared → Prop} (hh : A.handled = none)
    (ho : s.heap.get? it = some o) (hc : o.cls = .type "list_iterator") (hd : o.data = .fields #[.none, k])
    (hQ : ∀ h', Keep s.heap h' → Q none { s with heap := h' }) : wpAny (model prog w) A (pyNext (.ref it)) Q E s := by
  have hT : s.TypeIs (.ref it) "list_iterator" := ⟨o, ho, hc⟩
  unfold pyNext
  refine wpAny_bind (wpAny_attempt (wpAny_callSpecial?_slot (name := Str.ofString "__next__") hT slot_listiter_next
    (wpAny_call_entry slot_listiter_next hT entry_listiter_next ?_ (args_listiter_next _))))
  show wpAny _ _ (field (.ref it) 0 >>= _) _ _ s
  refine wpAny_bind (wpAny_field ho hd (x := .none) rfl ?_)
  show wpAny _ _ (if (Value.none == Value.none) = true then _ else _) _ _ s
  rw [if_pos (show ((Value.none == Value.none) = true) from rfl)]
  refine wpAny_bind (wpAny_rule ?_)
  refine wpAny_bind ?_
  show wpAny _ _ (newExc (.type "StopIteration") [] >>= _) _ _ _
  refine wpAny_bind ?_
  simp only [newExc, newTuple]
  refine wpAny_bind (wpAny_newObj_type ?_ (by size_fits))
  refine wpAny_bind (m := firstArgMember _ _) (wpAny_of_eq (a := Value.none) (by first | rfl | (simp only [firstArgMember]; rfl)) ?_)
  refine wpAny_newObj_type ?_ (by size_fits)
  simp only [raiseNew]
  refine wpAny_bind (wpAny_handled ?_)
  rw [show A.in1.handled = none from hh]
  refine wpAny_bind (wpAny_pure (wpAny_throw ?_))
  refine wpAny_bind (wpAny_isInstance (T := "StopIteration") (b := true) ⟨_, Heap.get?_push_size _ rfl, rfl⟩ isSubtype_stop ?_)
  exact wpAny_pure (hQ _ ((Keep.push _ _).trans (Keep.push _ _)))

theorem next_none {a : Addr} {fz : Heap} {s : Shared} {P : Option Value → Shared → Prop} (hh : A.handled = none) (H : Hold W fz ((a, .it []) :: own) s)
    (q : ∀ s', Hold W fz own s' → s.toks ≤ s'.toks → P none s') : wpAny (model W.prog W.w) A (pyNext (.ref a)) P NoX s := by
  obtain ⟨o, ho, hob⟩ := H.get List.mem_cons_self
  cases hob with
  | @list b vs i _ _ hl rs hc hd =>
    refine wpAny_pyNext_list_end hh (l := b) (i := i) ⟨o, ho, hc, hd⟩ (IsList_keep hl H.has) (by rw [← Array.getElem?_toList]; exact rvs_drop_nil rs) fun h' he => ?_
    exact q _ (H.extBut (k := s.toks) he) (Nat.le_refl _)
  | @tup b vs i _ _ hl rs hc hd =>
    refine wpAny_pyNext_tuple_end hh (t := b) (i := i) ⟨o, ho, hc, hd⟩ (IsTuple_keep hl H.has) (by rw [← Array.getElem?_toList]; exact rvs_drop_nil rs) fun h' he => ?_
    exact q _ (H.extBut (k := s.toks) he) (Nat.le_refl _)
  | @range y c n _ _ hl e =>
    subst e
    cases n with
    | zero =>
      refine wpAny_pyNext_range_end hh (x := y) (left := ((0 : Nat) : Int)) (step := c) (by exact ho) (by omega) fun h' he => ?_
      exact q _ (H.extBut (k := s.toks) he) (Nat.le_refl _)
    | succ n => rw [List.range_succ_eq_map, List.map_cons] at hl; cases hl
  | @ascii y t i _ _ hl hc hd =>
    have e : y.cps[i]? = none := by
      have : y.cps.toList.drop i = [] := by simpa using hl.symm
      rw [← Array.getElem?_toList, ← List.head?_drop, this]; rfl
    refine wpAny_pyNext_ascii_end hh (x := y) (t := t) (i := i) ⟨o, ho, hc, hd⟩ e fun h' he => ?_
    exact q _ (H.extBut (k := s.toks) he) (Nat.le_refl _)
  | @wide y t i _ _ hl hc hd =>
    have e : y.cps[i]? = none := by
      have : y.cps.toList.drop i = [] := by simpa using hl.symm
      rw [← Array.getElem?_toList, ← List.head?_drop, this]; rfl
    refine wpAny_pyNext_wide_end hh (x := y) (t := t) (i := i) ⟨o, ho, hc, hd⟩ e fun h' he => ?_
    exact q _ (H.extBut (k := s.toks) he) (Nat.le_refl _)
  | over hc hd => exact next_over hh ho hc hd fun h' hk => q _ (H.tail.grow (k := s.toks) hk) (Nat.le_refl _)

/-! ### targets -/
theorem it_cls {fz : Heap} {l : List V} {o : Obj} (x : ItIs fz l o) : ∃ n, o.cls = .type n ∧ ["enumerate", "zip", "dict_itemiterator", "dict_reverseitemiterator", "odict_iterator", "itertools.zip_longest", "itertools.pairwise"].contains n = false := by
  cases x with
  | list _ _ c _ => exact ⟨_, c, by decide⟩
  | tup _ _ c _ => exact ⟨_, c, by decide⟩
  | range _ e => subst e; exact ⟨_, rfl, by decide⟩
  | ascii _ c _ => exact ⟨_, c, by decide⟩
  | wide _ c _ => exact ⟨_, c, by decide⟩
  | over c _ => exact ⟨_, c, by decide⟩
theorem let_go {prog : Program} {w : World} {E : Value → Shared → Prop} {s : Shared} {fz : Heap} {l : List V} {o : Obj} {it : Addr} {v : Value} {target : Expr} {Q : Unit → Shared → Prop} (ho : s.heap.get? it = some o) (x : ItIs fz l o) (h : Q () s) :
    wpAny (model prog w) A (letOwnedTupleGo target (.ref it) v) Q E s := by
  obtain ⟨n, hc, hn⟩ := it_cls x
  unfold letOwnedTupleGo
  have key : wpAny (model prog w) A (do
      let (.ref r, .ref a) := ((Value.ref it), v) | return
      let o ← load r
      match o.cls, o.data with
      | .type n, .fields vs =>
        if ["enumerate", "zip", "dict_itemiterator", "dict_reverseitemiterator", "odict_iterator", "itertools.zip_longest", "itertools.pairwise"].contains n && vs[0]? == some (rawInt a) then
          rule "for.unpacks-the-owned-tuple"
          updateField r 0 .none
      | _, _ => pure ()) Q E s := by
    cases v with
    | ref a =>
      show wpAny _ _ (load it >>= _) _ _ _
      refine wpAny_bind (wpAny_load ho ?_)
      obtain ⟨c, d, dt, sl⟩ := o
      cases hc
      cases dt <;> first
        | exact wpAny_pure h
        | (dsimp only; rw [hn, Bool.false_and, if_neg Bool.false_ne_true]; exact wpAny_pure h)
    | _ => exact wpAny_pure h
  cases target <;> first | exact key | exact wpAny_pure h

/-! ### loops -/
abbrev turnEnd (it : Addr) (r : List V) (I : List V → Own → Prop) (Q : Fl → Own → Prop) : Fl → Own → Prop
  | .next, o | .cont, o => ∃ o', Wk o ((it, .it r) :: o') ∧ I r o'
  | .brk, o => Q .next o
  | .ret v, o => Q (.ret v) o

theorem for_core {target : Expr} {body : List Stmt} {Q : Fl → Own → Prop} {it : Addr} (hh : A.handled = none) (I : List V → Own → Prop)
    (turn : ∀ x r o, I (x :: r) o → SA W A env target x ((it, .it r) :: o) fun o' => SXs W A env body o' (turnEnd it r I Q)) (last : ∀ o, I [] o → Q .next o) :
    ∀ (l : List V) (own : Own) (fz : Heap) (s : Shared), Hold W fz ((it, .it l) :: own) s → W.tk ≤ s.toks → I l own →
      codeAny (model W.prog W.w) A (.forLoop target (.ref it) body [] env) (fun r s' => match r with | .ok f => ∃ fz' b own', Keep fz fz' ∧ Hold W fz' own' s' ∧ RF fz' b f ∧ Q b own' | .error _ => False) s := by
  intro l own fz s H ht hI
  refine codeAny_loop' rfl (fun n s' => ∃ fz' l own, l.length = n ∧ Keep fz fz' ∧ Hold W fz' ((it, .it l) :: own) s' ∧ W.tk ≤ s'.toks ∧ I l own) (fun n s' hJ => ?_) l.length ⟨fz, l, own, rfl, .refl _, H, ht, hI⟩
  obtain ⟨fz₁, l₁, own₁, rfl, k₁, H₁, t₁, I₁⟩ := hJ
  show wpAny _ _ ((forTurn target (.ref it) body [] env).onRaise (fun x => do noteFrame x env; theTreesLotGoes x)) _ _ s'
  refine wpAny_onRaise (wpAny_mono (E := NoX) ?_ (fun _ _ q => q) fun _ _ x => x.elim)
  simp only [forTurn]
  refine wpAny_bind (wpAny_standAt (wpAny_bind (wpAny_onRaise (wpAny_mono (E := NoX) (Q := fun r s₁ => match r with
    | none => ∃ o, I [] o ∧ Hold W fz₁ o s₁ ∧ W.tk ≤ s₁.toks
    | some v => ∃ x r o, l₁ = x :: r ∧ I (x :: r) o ∧ Hold W fz₁ ((it, .it r) :: o) s₁ ∧ W.tk ≤ s₁.toks ∧ RV fz₁ x v) ?_ (fun r s₁ h₁ => ?_) fun _ _ x => x.elim))))
  · cases l₁ with
    | nil => exact next_none hh H₁ fun s'' H'' t'' => ⟨own₁, I₁, H'', Nat.le_trans t₁ t''⟩
    | cons x r => exact next_some H₁ .here fun v s'' H'' t'' rx => ⟨x, r, own₁, rfl, I₁, H'', Nat.le_trans t₁ t'', rx⟩
  · cases r with
    | none =>
      obtain ⟨o, Io, Ho, to⟩ := h₁
      refine wpAny_pure (.inr ⟨rfl, codeAny_block (wpAny_execs_nil ?_)⟩)
      exact ⟨fz₁, .next, o, k₁, Ho, .next, last o Io⟩
    | some v =>
      obtain ⟨x, r, o, rfl, Io, Ho, to, rx⟩ := h₁
      obtain ⟨ob, hob, hit⟩ := Ho.get List.mem_cons_self
      refine wpAny_bind (let_go hob hit ?_)
      refine wpAny_bind (wp_then (turn x r o Io fz₁ _ v Ho to rx) to fun fz₂ _ _ o₂ s₂ k₂ H₂ t₂ _ q₂ => wpAny_bind (wp_then (q₂ fz₂ s₂ H₂ t₂) t₂ fun fz₃ f b o₃ s₃ k₃ H₃ t₃ r₃ q₃ => ?_))
      cases r₃ with
      | next =>
        obtain ⟨o', wk, I'⟩ := q₃
        exact wpAny_pure (.inl ⟨rfl, r.length, by simp, fz₃, r, o', rfl, k₁.trans (k₂.trans k₃), wk.hold H₃, t₃, I'⟩)
      | cont =>
        obtain ⟨o', wk, I'⟩ := q₃
        exact wpAny_pure (.inl ⟨rfl, r.length, by simp, fz₃, r, o', rfl, k₁.trans (k₂.trans k₃), wk.hold H₃, t₃, I'⟩)
      | brk => exact wpAny_pure ⟨fz₃, _, o₃, k₁.trans (k₂.trans k₃), H₃, .next, q₃⟩
      | ret rv => exact wpAny_pure ⟨fz₃, _, o₃, k₁.trans (k₂.trans k₃), H₃, .ret rv, q₃⟩

/-- what a for wants of its iterator -/
abbrev Fors (W : Wd) (A : Around) (env : Env) (target : Expr) (body : List Stmt) (Q : Fl → Own → Prop) (b : V) (o : Own) : Prop :=
  ∃ it l o', b = .ref it ∧ o = (it, .it l) :: o' ∧ ∃ I : List V → Own → Prop, I l o' ∧ (∀ x r o, I (x :: r) o → SA W A env target x ((it, .it r) :: o) fun o' => SXs W A env body o' (turnEnd it r I Q)) ∧ (∀ o, I [] o → Q .next o)
theorem SX_For {target iter : Expr} {body : List Stmt} {pos : Pos} {Q : Fl → Own → Prop} (hh : A.handled = none) (h : SE W A env iter own fun a o1 => S1 W A RV pyIter a o1 (Fors W A env target body Q))
    (hs : ∀ x, foldedSetIterable iter env x = pure x := by intro _; rfl) : SX W A env (.For target iter body [] pos) own Q := fun fz s H ht => by
  refine wpAny_For (wp_then (h fz s H ht) ht fun fz1 va a o1 s1 k1 H1 t1 r1 q1 => wp_then (q1 fz1 s1 va H1 t1 r1) t1 fun fz2 vb b o2 s2 k2 H2 t2 r2 q2 => ?_) hs
  obtain ⟨it, l, o', rfl, rfl, I, Il, turn, last⟩ := q2
  cases r2.val_inv
  refine codeAny_mono (for_core hh I turn last l o' fz2 s2 H2 t2 Il) fun r s' x => ?_
  cases r with
  | ok f => obtain ⟨fz', b, own', k, rest⟩ := x; exact ⟨fz', b, own', k1.trans (k2.trans k), rest⟩
  | error e => exact x.elim

theorem SX_While {test : Expr} {body : List Stmt} {pos : Pos} {Q : Fl → Own → Prop} (J : Nat → Own → Prop) (n : Nat) (h0 : J n own)
    (turn : ∀ n o, J n o → ST W A env test o fun b o1 => if b then SXs W A env body o1 (fun fl o2 => match fl with
      | .next | .cont => ∃ o' m, Wk o2 o' ∧ m < n ∧ J m o'
      | .brk => Q .next o2
      | .ret v => Q (.ret v) o2) else Q .next o1) : SX W A env (.While test body [] pos) own Q := fun fz s H ht => by
  refine wpAny_While (codeAny_mono (codeAny_whileLoop (R := fun r s' => match r with | .ok f => ∃ fz' b own', Keep fz fz' ∧ Hold W fz' own' s' ∧ RF fz' b f ∧ Q b own' | .error _ => False)
    (fun n s' => ∃ fz' own, Keep fz fz' ∧ Hold W fz' own s' ∧ W.tk ≤ s'.toks ∧ J n own) (fun n s' hJ => ?_) n ⟨fz, own, .refl _, H, ht, h0⟩) fun r s' x => ?_)
  · obtain ⟨fz₁, own₁, k₁, H₁, t₁, J₁⟩ := hJ
    refine wpAny_mono (E := NoX) (wp_then (turn n own₁ J₁ fz₁ s' H₁ t₁) t₁ fun fz2 va b o2 s2 k2 H2 t2 r2 q2 => ?_) (fun _ _ x => x) fun _ _ x => x.elim
    subst r2
    cases va
    · exact wpAny_execs_nil ⟨fz2, .next, o2, k₁.trans k2, H2, .next, q2⟩
    · refine wpAny_mono (E := NoX) (wp_then (q2 fz2 s2 H2 t2) t2 fun fz₃ f b o₃ s₃ k₃ H₃ t₃ r₃ q₃ => ?_) (fun _ _ x => x) fun _ _ x => x.elim
      cases r₃ with
      | next => obtain ⟨o', m, wk, hm, J'⟩ := q₃; exact ⟨m, hm, fz₃, o', k₁.trans (k2.trans k₃), wk.hold H₃, t₃, J'⟩
      | cont => obtain ⟨o', m, wk, hm, J'⟩ := q₃; exact ⟨m, hm, fz₃, o', k₁.trans (k2.trans k₃), wk.hold H₃, t₃, J'⟩
      | brk => exact ⟨fz₃, .next, o₃, k₁.trans (k2.trans k₃), H₃, .next, q₃⟩
      | ret rv => exact ⟨fz₃, _, o₃, k₁.trans (k2.trans k₃), H₃, .ret rv, q₃⟩
  · cases r with
    | ok f => exact x
    | error e => exact x.elim

/-! ### unpacking -/
def SAs (W : Wd) (A : Around) (env : Env) (ts : List Expr) (l : List V) (own : Own) (Q : Own → Prop) : Prop :=
  SL W A RU (fun vs => assignInOrder ((assignEach ts env).map (·.2)) vs) l own fun _ => Q
theorem SAs_nil {Q : Own → Prop} (h : Q own) : SAs W A env [] [] own Q := fun fz s vs H ht r => by
  cases r
  exact wpAny_pure ⟨fz, (), own, .refl _, H, trivial, h⟩
theorem SAs_cons {t : Expr} {ts : List Expr} {x : V} {l : List V} {Q : Own → Prop} (h : SA W A env t x own fun o1 => SAs W A env ts l o1 Q)
    (he : assignEach (t :: ts) env = (false, assign t env) :: assignEach ts env := by rfl) : SAs W A env (t :: ts) (x :: l) own Q := fun fz s vs H ht r => by
  cases r with
  | cons r rs =>
  unfold At
  rw [he]
  show wpAny _ _ (holding _ (assign t env _) >>= fun _ => assignInOrder ((assignEach ts env).map (·.2)) _) _ _ _
  refine wpAny_bind (wpAny_holding (wp_then (h fz s _ H ht r) ht fun fz1 _ _ o1 s1 k1 H1 t1 _ q1 => ?_))
  exact (q1 fz1 s1 _ H1 t1 (rs.mono k1)).weak k1
theorem SA_Tuple {ts : List Expr} {x1 : Nat} {pos : Pos} {l : List PyData} {Q : Own → Prop} (hh : A.handled = none) (hn : (assignEach ts env).length = l.length) (h : SAs W A env ts (l.map V.dat) own Q)
    (hstar : (assignEach ts env).findIdx? (·.1) = none := by rfl) : SA W A env (.Tuple ts x1 pos) (.tup l) own Q := fun fz s v H ht r => by
  obtain ⟨a, vs, rfl, hl, rs⟩ := r.tup_inv
  have hlen := rs.length
  rw [List.length_map] at hlen
  have hsz : vs.toList.length = vs.size := Array.length_toList
  refine wpAny_assign_Tuple hh (IsTuple_keep hl H.has) (by omega) hstar fun h' he => ?_
  exact h fz _ _ (H.grow (k := s.toks) fun b o e => he b o (Nat.ne_of_lt (Heap.lt_size e)) e) ht rs
theorem SX_AssignT {elts : List Expr} {k : Nat} {tpos pos : Pos} {value : Expr} {Q : Fl → Own → Prop} (h : SE W A env value own fun a o1 => SA W A env (.Tuple elts k tpos) a o1 fun o2 => Q .next o2)
    (hs : swapsWithSole [.Tuple elts k tpos] value pos.line env = pure false := by rfl)
    (hw : swappedStores [.Tuple elts k tpos] value env = pure none := by rfl) : SX W A env (.Assign [.Tuple elts k tpos] value pos) own Q := fun fz s H ht => by
  refine Assign_Tuple (wp_then (h fz s H ht) ht fun fz1 va a o1 s1 k1 H1 t1 r1 q1 => wp_then (q1 fz1 s1 va H1 t1 r1) t1 fun fz2 _ _ o2 s2 k2 H2 t2 _ q2 => ?_) hs hw
  exact ⟨fz2, _, o2, k1.trans k2, H2, .next, q2⟩
end
section
variable {W : Wd} {A : Around} {env : Env} {own : Own}

theorem it_self {fz : Heap} {s : Shared} {it : Addr} {l : List V} {Q : Value → Shared → Prop} {E : Value → Shared → Prop} (H : Hold W fz own s) (hm : (it, Ob.it l) ∈ own) (h : Q (.ref it) s) :
    wpAny (model W.prog W.w) A (pyIter (.ref it)) Q E s := by
  obtain ⟨o, ho, hob⟩ := H.get hm
  cases hob with
  | list _ _ hc hd => exact wpAny_pyIter_listiter ⟨o, ho, hc, hd⟩ h
  | tup _ _ hc hd => exact wpAny_pyIter_tupleiter ⟨o, ho, hc, hd⟩ h
  | range _ e => subst e; exact wpAny_pyIter_rangeiter (by exact ho) h
  | ascii _ hc hd => exact wpAny_pyIter_striter_ascii ⟨o, ho, hc, hd⟩ h
  | wide _ hc hd => exact wpAny_pyIter_striter_wide ⟨o, ho, hc, hd⟩ h
  | over hc hd =>
    have hT : s.TypeIs (.ref it) "list_iterator" := ⟨o, ho, hc⟩
    refine wpAny_pyIter_slot hT slot_listiter_iter (wpAny_call_entry slot_listiter_iter hT entry_listiter_iter ?_ (args_listiter_iter _))
    show wpAny _ _ (ret (.ref it)) _ _ s
    exact wpAny_pure ⟨_, rfl, "list_iterator", _, hT, slot_listiter_next.lookup, h⟩
theorem it_it {it : Addr} {l : List V} {Q : V → Own → Prop} (hm : (it, Ob.it l) ∈ own) (h : Q (.ref it) own) : S1 W A RV pyIter (.ref it) own Q := fun fz s v H ht r => by
  cases r.val_inv
  exact it_self H hm ⟨fz, _, own, .refl _, H, .val _, h⟩

/-! ### comprehensions -/
def testsSem (ifs : List Expr) (cenv : Env) : Sem Bool := forIn ifs true fun c r => if r = true then do let ok ← isTrue c cenv (eval c cenv); pure (ForInStep.yield ok) else pure (ForInStep.yield r)
abbrev STs (W : Wd) (A : Around) (cenv : Env) (ifs : List Expr) (own : Own) (Q : Bool → Own → Prop) : Prop := SG W A RB (testsSem ifs cenv) own Q
theorem STs_nil {Q : Bool → Own → Prop} (h : Q true own) : STs W A env [] own Q := fun fz s H ht => wpAny_tests_nil ⟨fz, _, own, .refl _, H, rfl, h⟩
theorem STs_one {c : Expr} {Q : Bool → Own → Prop} (h : ST W A env c own Q) : STs W A env [c] own Q := fun fz s H ht => wpAny_tests_one (h fz s H ht)

/-- one clause's turns -/
def turnSem (e : Expr) (d : Nat) (p : Pos) (target : Expr) (ifs : List Expr) (inner : Sem Unit) (it acc : Value) (cenv : Env) : Sem Fin := do
  standAt p
  match ← pyNext it with
  | none => pure (.done .next)
  | some v =>
    letOwnedTupleGo target it v
    assign target cenv v
    let ok ← testsSem ifs cenv
    if ok then
      inner
    again (.compLoop e d it acc cenv)

theorem comp_core {e : Expr} {d : Nat} {p : Pos} {target : Expr} {ifs : List Expr} {inner : Sem Unit} {acc : Value} {cenv : Env} {it : Addr} (hh : A.handled = none)
    (heq : compTurn e d (.ref it) acc cenv = turnSem e d p target ifs inner (.ref it) acc cenv)
    (hden : denote table (.compLoop e d (.ref it) acc cenv) = (compTurn e d (.ref it) acc cenv).onRaise (fun x => do noteFrame x cenv; theTreesLotGoes x))
    (hu : A.under (.compLoop e d (.ref it) acc cenv) = A) (I : List V → Own → Prop)
    (turn : ∀ x r o, I (x :: r) o → SA W A cenv target x ((it, .it r) :: o) fun o1 => STs W A cenv ifs o1 fun ok o2 =>
      if ok then SG W A RU inner o2 (fun _ o3 => ∃ o', Wk o3 ((it, .it r) :: o') ∧ I r o') else ∃ o', Wk o2 ((it, .it r) :: o') ∧ I r o') :
    ∀ (l : List V) (own : Own) (fz : Heap) (s : Shared), Hold W fz ((it, .it l) :: own) s → W.tk ≤ s.toks → I l own →
      codeAny (model W.prog W.w) A (.compLoop e d (.ref it) acc cenv) (fun r s' => match r with | .ok _ => ∃ fz' own', Keep fz fz' ∧ Hold W fz' own' s' ∧ W.tk ≤ s'.toks ∧ I [] own' | .error _ => False) s := by
  intro l own fz s H ht hI
  refine codeAny_loop' rfl (fun n s' => ∃ fz' l own, l.length = n ∧ Keep fz fz' ∧ Hold W fz' ((it, .it l) :: own) s' ∧ W.tk ≤ s'.toks ∧ I l own) (fun n s' hJ => ?_) l.length ⟨fz, l, own, rfl, .refl _, H, ht, hI⟩
  obtain ⟨fz₁, l₁, own₁, rfl, k₁, H₁, t₁, I₁⟩ := hJ
  rw [hu]
  show wpAny _ _ (denote table (.compLoop e d (.ref it) acc cenv)) _ _ s'
  rw [hden]
  refine wpAny_onRaise (wpAny_mono (E := NoX) ?_ (fun _ _ q => q) fun _ _ x => x.elim)
  rw [heq]
  unfold turnSem
  refine wpAny_bind (wpAny_standAt (wpAny_bind (wpAny_mono (E := NoX) (Q := fun r s₁ => match r with
    | none => ∃ o, I [] o ∧ Hold W fz₁ o s₁ ∧ W.tk ≤ s₁.toks
    | some v => ∃ x r o, l₁ = x :: r ∧ I (x :: r) o ∧ Hold W fz₁ ((it, .it r) :: o) s₁ ∧ W.tk ≤ s₁.toks ∧ RV fz₁ x v) ?_ (fun r s₁ h₁ => ?_) fun _ _ x => x.elim)))
  · cases l₁ with
    | nil => exact next_none hh H₁ fun s'' H'' t'' => ⟨own₁, I₁, H'', Nat.le_trans t₁ t''⟩
    | cons x r => exact next_some H₁ .here fun v s'' H'' t'' rx => ⟨x, r, own₁, rfl, I₁, H'', Nat.le_trans t₁ t'', rx⟩
  · cases r with
    | none =>
      obtain ⟨o, Io, Ho, to⟩ := h₁
      exact wpAny_pure ⟨fz₁, o, k₁, Ho, to, Io⟩
    | some v =>
      obtain ⟨x, r, o, rfl, Io, Ho, to, rx⟩ := h₁
      obtain ⟨ob, hob, hit⟩ := Ho.get List.mem_cons_self
      refine wpAny_bind (let_go hob hit ?_)
      refine wpAny_bind (wp_then (turn x r o Io fz₁ _ v Ho to rx) to fun fz₂ _ _ o₂ s₂ k₂ H₂ t₂ _ q₂ => wpAny_bind (wp_then (q₂ fz₂ s₂ H₂ t₂) t₂ fun fz₃ ok b o₃ s₃ k₃ H₃ t₃ r₃ q₃ => ?_))
      subst r₃
      cases ok with
      | false =>
        obtain ⟨o', wk, I'⟩ := q₃
        exact wpAny_pure (.inl ⟨rfl, r.length, by simp, fz₃, r, o', rfl, k₁.trans (k₂.trans k₃), wk.hold H₃, t₃, I'⟩)
      | true =>
        refine wpAny_bind (wp_then (q₃ fz₃ s₃ H₃ t₃) t₃ fun fz₄ _ _ o₄ s₄ k₄ H₄ t₄ _ q₄ => ?_)
        obtain ⟨o', wk, I'⟩ := q₄
        exact wpAny_pure (.inl ⟨rfl, r.length, by simp, fz₄, r, o', rfl, k₁.trans (k₂.trans (k₃.trans k₄)), wk.hold H₄, t₄, I'⟩)

def emitSem (elt : Expr) (acc : Value) (cenv : Env) : Sem Unit := do let _ ← call (.builtin "list.append") [acc, ← eval elt cenv]
theorem turn_one (elt target iter : Expr) (ifs : List Expr) (scope : Scope) (pos : Pos) (it acc : Value) (cenv : Env) :
    compTurn (.ListComp elt [⟨target, iter, ifs, 0⟩] scope pos) 0 it acc cenv = turnSem (.ListComp elt [⟨target, iter, ifs, 0⟩] scope pos) 0 iter.pos target ifs (emitSem elt acc cenv) it acc cenv := by rfl
def nestSem (e : Expr) (iter : Expr) (d : Nat) (acc : Value) (cenv : Env) : Sem Unit := do
  let x ← eval iter cenv
  standAt iter.pos
  let x ← foldedSetIterable iter cenv x
  let _ ← runOwn (.compStart e d (← holding [x] (pyIter x)) acc cenv) cenv
theorem turn_two0 (elt target iter : Expr) (ifs : List Expr) (target' iter' : Expr) (ifs' : List Expr) (scope : Scope) (pos : Pos) (it acc : Value) (cenv : Env) :
    compTurn (.ListComp elt [⟨target, iter, ifs, 0⟩, ⟨target', iter', ifs', 0⟩] scope pos) 0 it acc cenv =
      turnSem (.ListComp elt [⟨target, iter, ifs, 0⟩, ⟨target', iter', ifs', 0⟩] scope pos) 0 iter.pos target ifs (nestSem (.ListComp elt [⟨target, iter, ifs, 0⟩, ⟨target', iter', ifs', 0⟩] scope pos) iter' 1 acc cenv) it acc cenv := by
  show _ = turnSem _ _ _ _ _ _ _ _ _
  unfold turnSem nestSem
  simp only [bind_assoc]
  rfl
theorem turn_two1 (elt target iter : Expr) (ifs : List Expr) (target' iter' : Expr) (ifs' : List Expr) (scope : Scope) (pos : Pos) (it acc : Value) (cenv : Env) :
    compTurn (.ListComp elt [⟨target, iter, ifs, 0⟩, ⟨target', iter', ifs', 0⟩] scope pos) 1 it acc cenv =
      turnSem (.ListComp elt [⟨target, iter, ifs, 0⟩, ⟨target', iter', ifs', 0⟩] scope pos) 1 iter'.pos target' ifs' (emitSem elt acc cenv) it acc cenv := by rfl

theorem emit_list {elt : Expr} {D : Addr} {Q : Own → Prop} (h : SE W A env elt own fun a o1 => ∃ o1' ys o2, Wk o1 o1' ∧ Upd D (.list ys) (.list (ys ++ [a])) o1' o2 ∧ ys.length ≤ sizeLine ∧ Q o2) : SG W A RU (emitSem elt (.ref D) env) own fun _ => Q := fun fz s H ht => by
  unfold emitSem
  refine wpAny_bind (wp_then (h fz s H ht) ht fun fz1 va a o1 s1 k1 H1 t1 r1 q1 => ?_)
  obtain ⟨o1', ys, o2, wk, u, hz, q⟩ := q1
  refine wpAny_bind (wp_then (do_append (Q := fun _ => Q) u hz q fz1 s1 va (wk.hold H1) t1 r1) t1 fun fz2 _ _ o3 s2 k2 H2 t2 _ q2 => wpAny_pure ⟨fz2, (), o3, k1.trans k2, H2, trivial, q2⟩)

theorem compStart_any {e : Expr} {d : Nat} {g : Comprehension} {it : Addr} {l : List V} {acc : Value} {cenv : Env} {fz : Heap} {s : Shared} {R : Result → Shared → Prop} (H : Hold W fz own s) (hm : (it, Ob.it l) ∈ own)
    (hg : (clausesOf e)[d]? = some g) (ha : (g.is_async != 0) = false)
    (hden : denote table (.compStart e d (.ref it) acc cenv) = (compStart e d (.ref it) acc cenv).onRaise (fun x => do noteFrame x cenv; standAt theWindowsPlace))
    (h : codeAny (model W.prog W.w) A (.compLoop e d (.ref it) acc cenv) R s) : codeAny (model W.prog W.w) A (.compStart e d (.ref it) acc cenv) R s := by
  refine codeAny_of_tree ?_
  show wpAny _ _ (denote table (.compStart e d (.ref it) acc cenv)) _ _ s
  rw [hden]
  refine wpAny_onRaise (wpAny_mono (E := NoX) ?_ (fun _ _ q => q) fun _ _ x => x.elim)
  unfold compStart
  rw [hg]
  simp only [Option.elim, ha, Bool.false_eq_true, if_false]
  refine wpAny_bind (wpAny_askSetting (wpAny_ite ?_))
  split
  · first
      | exact wpAny_bind (wpAny_pure (wpAny_pure (And.intro rfl h)))
      | exact wpAny_pure (And.intro rfl h)
  · exact wpAny_bind (wpAny_rule (wpAny_bind (wpAny_standAt (wpAny_bind (it_self H hm (wpAny_pure (And.intro rfl h)))))))

/-- a clause's loop -/
def CL (W : Wd) (A : Around) (e : Expr) (d : Nat) (D : Addr) (cenv : Env) (it : Addr) (l : List V) (own : Own) (Q : Own → Prop) : Prop :=
  ∀ fz s, Hold W fz ((it, .it l) :: own) s → W.tk ≤ s.toks → codeAny (model W.prog W.w) A (.compLoop e d (.ref it) (.ref D) cenv)
    (fun r s' => match r with | .ok _ => ∃ fz' own', Keep fz fz' ∧ Hold W fz' own' s' ∧ W.tk ≤ s'.toks ∧ Q own' | .error _ => False) s
/-- one turn of a clause -/
abbrev CT (W : Wd) (A : Around) (cenv : Env) (target : Expr) (ifs : List Expr) (inner : Sem Unit) (it : Addr) (I : List V → Own → Prop) : Prop :=
  ∀ x r o, I (x :: r) o → SA W A cenv target x ((it, .it r) :: o) fun o1 => STs W A cenv ifs o1 fun ok o2 =>
      if ok then SG W A RU inner o2 (fun _ o3 => ∃ o', Wk o3 ((it, .it r) :: o') ∧ I r o') else ∃ o', Wk o2 ((it, .it r) :: o') ∧ I r o'

theorem CL_one {elt target iter : Expr} {ifs : List Expr} {scope : Scope} {pos : Pos} {D : Addr} {cenv : Env} {it : Addr} {l : List V} {Q : Own → Prop} (hh : A.handled = none) (I : List V → Own → Prop) (h0 : I l own)
    (turn : CT W A cenv target ifs (emitSem elt (.ref D) cenv) it I) (last : ∀ o, I [] o → Q o) : CL W A (.ListComp elt [⟨target, iter, ifs, 0⟩] scope pos) 0 D cenv it l own Q := fun fz s H ht => by
  refine codeAny_mono (comp_core hh (turn_one elt target iter ifs scope pos (.ref it) (.ref D) cenv) rfl (Around.under_of_weight rfl) I turn l own fz s H ht h0) fun r s' x => ?_
  cases r with
  | ok f => obtain ⟨fz', own', k, H', t', i⟩ := x; exact ⟨fz', own', k, H', t', last _ i⟩
  | error e => exact x.elim
theorem CL_two1 {elt target iter : Expr} {ifs : List Expr} {target' iter' : Expr} {ifs' : List Expr} {scope : Scope} {pos : Pos} {D : Addr} {cenv : Env} {it : Addr} {l : List V} {Q : Own → Prop} (hh : A.handled = none) (I : List V → Own → Prop) (h0 : I l own)
    (turn : CT W A cenv target' ifs' (emitSem elt (.ref D) cenv) it I) (last : ∀ o, I [] o → Q o) : CL W A (.ListComp elt [⟨target, iter, ifs, 0⟩, ⟨target', iter', ifs', 0⟩] scope pos) 1 D cenv it l own Q := fun fz s H ht => by
  refine codeAny_mono (comp_core hh (turn_two1 elt target iter ifs target' iter' ifs' scope pos (.ref it) (.ref D) cenv) rfl (Around.under_of_weight rfl) I turn l own fz s H ht h0) fun r s' x => ?_
  cases r with
  | ok f => obtain ⟨fz', own', k, H', t', i⟩ := x; exact ⟨fz', own', k, H', t', last _ i⟩
  | error e => exact x.elim
theorem CL_two0 {elt target iter : Expr} {ifs : List Expr} {target' iter' : Expr} {ifs' : List Expr} {scope : Scope} {pos : Pos} {D : Addr} {cenv : Env} {it : Addr} {l : List V} {Q : Own → Prop} (hh : A.handled = none) (I : List V → Own → Prop) (h0 : I l own)
    (turn : CT W A cenv target ifs (nestSem (.ListComp elt [⟨target, iter, ifs, 0⟩, ⟨target', iter', ifs', 0⟩] scope pos) iter' 1 (.ref D) cenv) it I) (last : ∀ o, I [] o → Q o) :
    CL W A (.ListComp elt [⟨target, iter, ifs, 0⟩, ⟨target', iter', ifs', 0⟩] scope pos) 0 D cenv it l own Q := fun fz s H ht => by
  refine codeAny_mono (comp_core hh (turn_two0 elt target iter ifs target' iter' ifs' scope pos (.ref it) (.ref D) cenv) rfl (Around.under_of_weight rfl) I turn l own fz s H ht h0) fun r s' x => ?_
  cases r with
  | ok f => obtain ⟨fz', own', k, H', t', i⟩ := x; exact ⟨fz', own', k, H', t', last _ i⟩
  | error e => exact x.elim
theorem nest_list {elt : Expr} {g g' : Comprehension} {gs : List Comprehension} {scope : Scope} {pos : Pos} {D : Addr} {Q : Own → Prop}
    (h : SE W A env g'.iter own fun a o1 => S1 W A RV pyIter a o1 fun b o2 => ∃ it l o3, b = .ref it ∧ o2 = (it, .it l) :: o3 ∧ CL W A (.ListComp elt [g, g'] scope pos) 1 D env it l o3 Q)
    (ha : (g'.is_async != 0) = false) (hs : ∀ x, foldedSetIterable g'.iter env x = pure x) :
    SG W A RU (nestSem (.ListComp elt [g, g'] scope pos) g'.iter 1 (.ref D) env) own fun _ => Q := fun fz s H ht => by
  unfold nestSem
  refine wpAny_bind (wp_then (h fz s H ht) ht fun fz1 va a o1 s1 k1 H1 t1 r1 q1 => wpAny_bind (wpAny_standAt (wpAny_bind (wpAny_of_eq (hs va) (wpAny_bind (wpAny_holding
    (wp_then (q1 fz1 s1 va H1 t1 r1) t1 fun fz2 vb b o2 s2 k2 H2 t2 r2 q2 => ?_)))))))
  obtain ⟨it, l, o3, rfl, rfl, cl⟩ := q2
  cases r2.val_inv
  refine wpAny_bind (wpAny_runOwn (compStart_any H2 List.mem_cons_self rfl ha rfl (codeAny_mono (cl fz2 s2 H2 t2) fun r s' x => ?_)))
  cases r with
  | ok f => obtain ⟨fz', own', k, H', t', q⟩ := x; exact wpAny_pure ⟨fz', (), own', k1.trans (k2.trans k), H', trivial, q⟩
  | error e => exact x.elim

/-- a comprehension's own frame -/
abbrev cEnv (scope : Scope) (cl : List (Str × Addr)) (C : Addr) (env : Env) : Env :=
  { scope := relabel scope env, locals := C, globals := env.globals, cells := cl, qual := env.qual, func := none, code := env.code, frame := env.frame, builtins := env.builtins }
/-- what a list comprehension wants of its source -/
abbrev Comps (W : Wd) (A : Around) (env : Env) (e : Expr) (scope : Scope) (cl : List (Str × Addr)) (Fin : Addr → Addr → Own → Prop) (b : V) (o : Own) : Prop :=
  ∃ it l o3, b = .ref it ∧ o = (it, .it l) :: o3 ∧ ∀ C D, CL W A e 0 D (cEnv scope cl C env) it l ((C, .ns []) :: (D, .list []) :: o3) (Fin C D)

theorem comp_made {e : Expr} {scope : Scope} {cl : List (Str × Addr)} {Fin : Addr → Addr → Own → Prop} {b : V} {g : Comprehension} {gs : List Comprehension} {elt : Expr} {pos : Pos} {fz : Heap} {s : Shared} {RR : Value → Addr → Result → Shared → Prop} {vb : Value}
    (he : e = .ListComp elt (g :: gs) scope pos) (ha : (g.is_async != 0) = false) (hcell : ∀ y ∈ scope.names, y.2 ≠ .cell) (hkind : scope.kind = .function)
    (H : Hold W fz own s) (ht : W.tk ≤ s.toks) (r : RV fz b vb) (q : Comps W A env e scope cl Fin b own)
    (hR : ∀ C D fz' o s', Keep fz fz' → Hold W fz' o s' → W.tk ≤ s'.toks → Fin C D o → RR (.ref D) C (.ok .next) s') (hok : ∀ acc C f s', RR acc C (.ok .next) s' → RR acc C (.ok f) s') :
    wpAny (model W.prog W.w) A (newList []) (fun acc s₃ => wpAny (model W.prog W.w) A (newFunctionEnv scope env.globals cl [] env.qual none .none (some env)) (fun cenv s₄ =>
      codeAny (model W.prog W.w) A (.compStart e 0 vb acc { cenv with scope := relabel scope env }) (RR acc cenv.locals) s₄) NoX s₃) NoX s := by
  obtain ⟨it, l, o3, rfl, rfl, core⟩ := q
  cases r.val_inv
  subst he
  refine wpAny_newObj_type (wpAny_newFunctionEnv hcell (by intro y hy; simp at hy) (fun h₁ hns₁ hsb₁ => ?_) hkind)
  dsimp only at hns₁ hsb₁ ⊢
  have H₁ : Hold W fz ((s.heap.objs.size, .list []) :: (it, .it l) :: o3) { s with heap := s.heap.push (listObj [] 0), toks := s.toks } := H.new (Keep.push _ _) (get?_ge (Nat.le_refl _)) (Heap.get?_push_size _ rfl) ⟨[], 0, rfl, .nil⟩
  obtain ⟨o, ho, hob⟩ := of_ns (fz := fz) (loc := []) hns₁ (fun p hp => (nomatch hp))
  have hk₁ : Keep (s.heap.push (listObj [] 0)) h₁ := fun b o e => hsb₁.extBut b o (Nat.ne_of_lt (Heap.lt_size e)) (Heap.get?_push_of_some _ e)
  have H₂ : Hold W fz (((s.heap.push (listObj [] 0)).objs.size, .ns []) :: (s.heap.objs.size, .list []) :: (it, .it l) :: o3) { s with heap := h₁, toks := s.toks } :=
    H₁.new (k := s.toks) hk₁ (get?_ge (Nat.le_refl _)) ho hob
  have H₃ := H₂.perm (own' := (it, .it l) :: ((s.heap.push (listObj [] 0)).objs.size, .ns []) :: (s.heap.objs.size, .list []) :: o3)
    ((List.Perm.cons _ (List.Perm.swap ..)).trans (List.Perm.swap ..))
  refine compStart_any (H₃ : Hold W fz _ { s with heap := h₁, toks := s.toks + ([] : List (Str × Value)).length }) List.mem_cons_self rfl ha rfl ?_
  refine codeAny_mono (core (s.heap.push (listObj [] 0)).objs.size s.heap.objs.size fz _ H₃ ht) fun r s' x => ?_
  cases r with
  | ok f => obtain ⟨fz', own', k, H', t', i⟩ := x; exact hok _ _ _ _ (hR _ _ fz' own' s' k H' t' i)
  | error e => exact x.elim

theorem Hold.sameBut {fz : Heap} {s : Shared} {a : Addr} {ob : Ob} (H : Hold W fz ((a, ob) :: own) s) {h' : Heap} (hs : Heap.SameBut a s.heap h') : Hold W fz own { s with heap := h' } := H.extBut (k := s.toks) hs.extBut

theorem SE_Comp {elt target iter : Expr} {ifs : List Expr} {gs : List Comprehension} {scope : Scope} {pos : Pos} {cl : List (Str × Addr)} {Q : V → Own → Prop}
    (hclos : closureFor scope env = pure cl) (hcell : ∀ y ∈ scope.names, y.2 ≠ .cell) (hkind : scope.kind = .function) (hnames : ∀ y ∈ scope.names, y.2 = .local → scope.names.lookup y.1 = some .local)
    (h : SE W A env iter own fun a o1 => S1 W A RV pyIter a o1 (Comps W A env (.ListComp elt (⟨target, iter, ifs, 0⟩ :: gs) scope pos) scope cl fun C D o => ∃ ys o4, Wk o ((C, .ns []) :: (D, .list ys) :: o4) ∧ Q (.ref D) ((D, .list ys) :: o4)))
    (hs : ∀ x, foldedSetIterable iter env x = pure x := by intro _; rfl) : SE W A env (.ListComp elt (⟨target, iter, ifs, 0⟩ :: gs) scope pos) own Q := fun fz s H ht => by
  unfold At
  rw [eval_ListComp]
  refine wpAny_comprehension_free (use := none) rfl hs hclos hkind hnames (wp_then (h fz s H ht) ht fun fz1 va a o1 s1 k1 H1 t1 r1 q1 => wp_then (q1 fz1 s1 va H1 t1 r1) t1 fun fz2 vb b o2 s2 k2 H2 t2 r2 q2 => ?_)
  refine comp_made (RR := fun acc C => compPost (model W.prog W.w) A NoX none _ acc C) rfl rfl hcell hkind H2 t2 r2 q2 (fun C D fz3 o s3 k3 H3 t3 fin => ?_) fun acc C f s' x => x
  obtain ⟨ys, o4, wk, q⟩ := fin
  have H4 := wk.hold H3
  obtain ⟨oC, hoC, hns⟩ := H4.get List.mem_cons_self
  obtain ⟨m, hm, _⟩ := ns_of hoC hns
  exact ⟨m, hm, fun h' hs' => ⟨fz3, _, _, k1.trans (k2.trans k3), H4.sameBut hs', .val _, q⟩⟩

theorem SX_AssignComp {y : Str} {py spos : Pos} {elt target iter : Expr} {ifs : List Expr} {gs : List Comprehension} {scope : Scope} {pos : Pos} {cl : List (Str × Addr)} {Q : Fl → Own → Prop}
    (hclos : closureFor scope env = pure cl) (hcell : ∀ y ∈ scope.names, y.2 ≠ .cell) (hkind : scope.kind = .function) (hnames : ∀ y ∈ scope.names, y.2 = .local → scope.names.lookup y.1 = some .local)
    (hsw : swapsWith (.ListComp elt (⟨target, iter, ifs, 0⟩ :: gs) scope pos) (some (.Name y py)) spos.line env = pure true)
    (h : SE W A env iter own fun a o1 => S1 W A RV pyIter a o1 (Comps W A env (.ListComp elt (⟨target, iter, ifs, 0⟩ :: gs) scope pos) scope cl fun C D o =>
      ∃ ys o4, Wk o ((C, .ns []) :: (D, .list ys) :: o4) ∧ ∀ fz s, Hold W fz ((C, .ns []) :: (D, .list ys) :: o4) s → W.tk ≤ s.toks →
        wpAny (model W.prog W.w) A (assign (.Name y py) env (.ref D)) (fun _ s' => ∃ fz' o5, Keep fz fz' ∧ Hold W fz' ((C, .ns []) :: o5) s' ∧ Q .next o5) NoX s))
    (hs : ∀ x, foldedSetIterable iter env x = pure x := by intro _; rfl) : SX W A env (.Assign [.Name y py] (.ListComp elt (⟨target, iter, ifs, 0⟩ :: gs) scope pos) spos) own Q := fun fz s H ht => by
  unfold At
  rw [exec_Assign_Name_used _ _ _ _ hsw]
  refine wpAny_bind (wpAny_standAt (wpAny_bind ?_))
  show wpAny _ A (do let _ ← comprehension (.ListComp elt (⟨target, iter, ifs, 0⟩ :: gs) scope pos) scope env _ (newList []) false (eval iter env) (some (assign (.Name y py) env))) _ _ s
  refine wpAny_bind (wpAny_mono (E := NoX) (wpAny_comprehension_free (use := some (assign (.Name y py) env)) (Q := fun _ s' => ∃ fz' own', Keep fz fz' ∧ Hold W fz' own' s' ∧ Q .next own') rfl hs hclos hkind hnames
    (wp_then (h fz s H ht) ht fun fz1 va a o1 s1 k1 H1 t1 r1 q1 => wp_then (q1 fz1 s1 va H1 t1 r1) t1 fun fz2 vb b o2 s2 k2 H2 t2 r2 q2 => ?_))
    (fun _ s' hq => wpAny_pure (wpAny_pure (by obtain ⟨fz', o', k, H', q⟩ := hq; exact ⟨fz', .next, o', k, H', .next, q⟩))) fun _ _ e => e)
  refine comp_made (RR := fun acc C => compPost (model W.prog W.w) A NoX (some (assign (.Name y py) env)) _ acc C) rfl rfl hcell hkind H2 t2 r2 q2 (fun C D fz3 o s3 k3 H3 t3 fin => ?_) fun acc C f s' x => x
  obtain ⟨ys, o4, wk, q⟩ := fin
  have H4 := wk.hold H3
  refine wpAny_mono (q fz3 s3 H4 t3) (fun _ s4 x => ?_) fun _ _ e => e
  obtain ⟨fz4, o5, k4, H5, q5⟩ := x
  obtain ⟨oC, hoC, hns⟩ := H5.get List.mem_cons_self
  obtain ⟨m, hm, _⟩ := ns_of hoC hns
  exact ⟨m, hm, fun h' hs' => ⟨fz4, _, k1.trans (k2.trans (k3.trans k4)), H5.sameBut hs', q5⟩⟩

theorem S1.mono {α β : Type} {R : Heap → β → α → Prop} {f : Value → Sem α} {a : V} {Q Q' : β → Own → Prop} (h : S1 W A R f a own Q) (q : ∀ b own', Q b own' → Q' b own') : S1 W A R f a own Q' :=
  fun fz s v H ht r => (h fz s v H ht r).mono q
/-! ### the plain use: a list of data out of a list -/
theorem Hold.freezeList {fz : Heap} {s : Shared} {D : Addr} {ys : List V} {ds : List PyData} (H : Hold W fz ((D, .list ys) :: own) s) (had : AllDat ys ds) : ∃ fz', Keep fz fz' ∧ Hold W fz' own s ∧ RV fz' (.lst ds) (.ref D) := by
  obtain ⟨o, ho, r, hf, kk, H'⟩ := H.freeze
  obtain ⟨vs, n, rfl, rs⟩ := r
  exact ⟨_, kk, H', rv_list (putH_at hf) (by rw [← had.eq]; exact rs.mono kk)⟩
theorem AllDat.append {l l' : List V} {ds ds' : List PyData} (x : AllDat l ds) (y : AllDat l' ds') : AllDat (l ++ l') (ds ++ ds') := by
  induction x with
  | nil => exact y
  | cons _ ih => exact .cons ih

/-- a turn that makes one datum, or none -/
abbrev MapTurn {α : Type} (W : Wd) (A : Around) (cenv : Env) (target elt : Expr) (ifs : List Expr) (g : α → V) (p : α → Bool) (out : α → PyData) (xs : List α) (o3 : Own) (C D : Addr) : Prop :=
  ∀ it x r ys, x ∈ xs → SA W A cenv target (g x) ((it, .it r) :: (C, .ns []) :: (D, .list ys) :: o3) fun o1 => STs W A cenv ifs o1 fun ok o2 =>
    ok = p x ∧ if p x then SE W A cenv elt o2 (fun a o4 => a = .dat (out x) ∧ Wk o4 ((it, .it r) :: (C, .ns []) :: (D, .list ys) :: o3)) else Wk o2 ((it, .it r) :: (C, .ns []) :: (D, .list ys) :: o3)

theorem CL_map {α : Type} {elt target iter : Expr} {ifs : List Expr} {scope : Scope} {pos : Pos} {C D : Addr} {cenv : Env} {it : Addr} {g : α → V} {p : α → Bool} {out : α → PyData} {xs : List α} {o3 : Own} {Q : Own → Prop} (hh : A.handled = none)
    (hz : xs.length ≤ sizeLine) (turn : MapTurn W A cenv target elt ifs g p out xs o3 C D) (last : Q ((C, .ns []) :: (D, .list (((xs.filter p).map out).map V.dat)) :: o3)) :
    CL W A (.ListComp elt [⟨target, iter, ifs, 0⟩] scope pos) 0 D cenv it (xs.map g) ((C, .ns []) :: (D, .list []) :: o3) Q := by
  refine CL_one hh (fun l o => ∃ pre post, xs = pre ++ post ∧ l = post.map g ∧ o = (C, .ns []) :: (D, .list (((pre.filter p).map out).map V.dat)) :: o3) ⟨[], xs, rfl, rfl, rfl⟩ ?_ ?_
  · rintro x r o ⟨pre, post, e, hl, rfl⟩
    cases post with
    | nil => cases hl
    | cons z post =>
      injection hl with e1 e2
      subst e1 e2
      refine S1.mono (turn it z (post.map g) _ (by rw [e]; simp)) ?_
      intro _ o1 h1
      refine SG.mono h1 ?_
      intro ok o2 ⟨hok, h2⟩
      subst hok
      have hlen : ((pre.filter p).map out).length ≤ sizeLine := by
        have := List.length_filter_le p pre
        have : pre.length ≤ xs.length := by rw [e]; simp
        rw [List.length_map]; omega
      cases hp : p z with
      | false =>
        rw [hp] at h2
        exact ⟨_, h2, pre ++ [z], post, by simp [e], rfl, by simp [List.filter_append, hp]⟩
      | true =>
        rw [hp] at h2
        refine emit_list (SG.mono h2 ?_)
        rintro a o4 ⟨rfl, wk⟩
        refine ⟨_, _, _, wk, .there (.there .here), by rw [List.length_map]; exact hlen, _, .refl, pre ++ [z], post, by simp [e], rfl, ?_⟩
        simp [List.filter_append, hp]
  · rintro o ⟨pre, post, e, hl, rfl⟩
    cases post with
    | nil => rw [List.append_nil] at e; subst e; exact last
    | cons z post => cases hl

theorem SE_freeze {e : Expr} {Q : V → Own → Prop} (h : SE W A env e own fun a o => ∃ D ys ds o4, a = .ref D ∧ o = (D, .list ys) :: o4 ∧ AllDat ys ds ∧ Q (.lst ds) o4) : SE W A env e own Q := fun fz s H ht => by
  refine wp_then (h fz s H ht) ht fun fz1 va a o1 s1 k1 H1 t1 r1 q1 => ?_
  obtain ⟨D, ys, ds, o4, rfl, rfl, ad, q⟩ := q1
  cases r1.val_inv
  obtain ⟨fz', k, H', r⟩ := H1.freezeList ad
  exact ⟨fz', _, o4, k1.trans k, H', r, q⟩

/-- a list of data, read off a source -/
theorem SE_CompMap {α : Type} {elt target iter : Expr} {ifs : List Expr} {scope : Scope} {pos : Pos} {cl : List (Str × Addr)} {Q : V → Own → Prop}
    (hh : A.handled = none) (hclos : closureFor scope env = pure cl) (hcell : ∀ y ∈ scope.names, y.2 ≠ .cell) (hkind : scope.kind = .function) (hnames : ∀ y ∈ scope.names, y.2 = .local → scope.names.lookup y.1 = some .local)
    (h : SE W A env iter own fun a o1 => S1 W A RV pyIter a o1 fun b o2 => ∃ it l o3, b = .ref it ∧ o2 = (it, .it l) :: o3 ∧ ∃ (g : α → V) (p : α → Bool) (out : α → PyData) (xs : List α), l = xs.map g ∧ xs.length ≤ sizeLine ∧
      (∀ C D, MapTurn W A (cEnv scope cl C env) target elt ifs g p out xs o3 C D) ∧ Q (.lst ((xs.filter p).map out)) o3)
    (hs : ∀ x, foldedSetIterable iter env x = pure x := by intro _; rfl) : SE W A env (.ListComp elt [⟨target, iter, ifs, 0⟩] scope pos) own Q := by
  refine SE_freeze (SE_Comp hclos hcell hkind hnames (SG.mono h fun a o1 h1 => S1.mono h1 fun b o2 h2 => ?_) hs)
  obtain ⟨it, l, o3, rfl, rfl, g, p, out, xs, rfl, hz, turn, q⟩ := h2
  refine ⟨it, _, o3, rfl, rfl, fun C D => CL_map hh hz (turn C D) ⟨_, _, .refl, D, _, _, o3, rfl, rfl, AllDat.map _, q⟩⟩

/-- the same, held by a name; the list may be turned later -/
theorem SX_AssignCompMap {α : Type} {y : Str} {py spos : Pos} {elt target iter : Expr} {ifs : List Expr} {scope : Scope} {pos : Pos} {cl : List (Str × Addr)} {Q : Fl → Own → Prop}
    (hh : A.handled = none) (hclos : closureFor scope env = pure cl) (hcell : ∀ y ∈ scope.names, y.2 ≠ .cell) (hkind : scope.kind = .function) (hnames : ∀ y ∈ scope.names, y.2 = .local → scope.names.lookup y.1 = some .local)
    (hsw : swapsWith (.ListComp elt [⟨target, iter, ifs, 0⟩] scope pos) (some (.Name y py)) spos.line env = pure true)
    (h : SE W A env iter own fun a o1 => S1 W A RV pyIter a o1 fun b o2 => ∃ it l o3, b = .ref it ∧ o2 = (it, .it l) :: o3 ∧ ∃ (g : α → V) (p : α → Bool) (out : α → PyData) (xs : List α), l = xs.map g ∧ xs.length ≤ sizeLine ∧
      (∀ C D, MapTurn W A (cEnv scope cl C env) target elt ifs g p out xs o3 C D) ∧ ∀ C, SS W A env y (.lst ((xs.filter p).map out)) ((C, .ns []) :: o3) (fun o5 => ∃ o6, Wk o5 ((C, .ns []) :: o6) ∧ Q .next o6))
    (hs : ∀ x, foldedSetIterable iter env x = pure x := by intro _; rfl) : SX W A env (.Assign [.Name y py] (.ListComp elt [⟨target, iter, ifs, 0⟩] scope pos) spos) own Q := by
  refine SX_AssignComp hclos hcell hkind hnames hsw (SG.mono h fun a o1 h1 => S1.mono h1 fun b o2 h2 => ?_) hs
  obtain ⟨it, l, o3, rfl, rfl, g, p, out, xs, rfl, hz, turn, q⟩ := h2
  refine ⟨it, _, o3, rfl, rfl, fun C D => CL_map hh hz (turn C D) ⟨_, _, .refl, fun fz s H ht => ?_⟩⟩
  obtain ⟨fz', k, H', r⟩ := (H.perm (List.Perm.swap ..)).freezeList (AllDat.map _)
  refine wpAny_assign_Name (wp_then (q C fz' s _ H' ht r) ht fun fz1 _ _ o5 s1 k1 H1 t1 _ q1 => ?_)
  obtain ⟨o6, wk, q6⟩ := q1
  exact ⟨fz1, o6, k.trans k1, wk.hold H1, q6⟩
end
section
variable {W : Wd} {A : Around} {env : Env} {own : Own}

/-! ### calls: the glue -/
def KpO (W : Wd) (own : Own) (f : Value) : Prop := ∀ fz s, Hold W fz own s → ∃ k, (k = Keeper.frame ∨ k = Keeper.machine ∨ k = Keeper.boundFrame) ∧ Looks (model W.prog W.w) s.heap (keeperOf f) k
theorem kp_builtin {id : String} : KpO W own (.builtin id) := fun fz s H => ⟨.machine, .inr (.inl rfl), Looks.of_pure rfl⟩
theorem kp_type {T : String} : KpO W own (.type T) := fun fz s H => ⟨.machine, .inr (.inl rfl), Looks.of_pure rfl⟩
theorem kp_K {f : Value} (h : keepIn W.K f = true) : KpO W own f := fun fz s H => keeps_K h s.heap H.kin
theorem kp_own {f : Addr} {o : Obj} {fd : FuncData} (hm : (f, Ob.obj o) ∈ own) (hd : o.data = .func fd) : KpO W own (.ref f) := fun fz s H => by
  obtain ⟨o', ho, e⟩ := H.get hm
  have e' : o' = o := e
  subst e'
  refine ⟨.frame, .inl rfl, ?_⟩
  refine (Looks.ld (part := none) ho).andThen ?_
  rw [hd]; exact .now

def plainArgs (l : List Expr) : Bool := l.all fun | .Starred .. => false | _ => true
theorem callWith_any {pos : Pos} {f : Value} {first : List V} {firstV : List Value} {args : List Expr} {fz : Heap} {s : Shared} {Q : V → Own → Prop} (H : Hold W fz own s) (ht : W.tk ≤ s.toks) (rf : RVs fz first firstV)
    (hp : (backTo pos (starEach args env)).any (·.1) = false) (h : SEs W A env pos args own fun l o2 => KpO W o2 f ∧ SL W A RV (fun vs => call f vs) (first ++ l) o2 Q) :
    At W A RV (callWith pos f firstV (backTo pos (starEach args env)) []) Q fz s := by
  have key : wpAny (model W.prog W.w) A (evalArgs f true (backTo pos (starEach args env)) []) (fun a s₁ => (∃ k, (k = Keeper.frame ∨ k = Keeper.machine ∨ k = Keeper.boundFrame) ∧ Looks (model W.prog W.w) s₁.heap (keeperOf f) k) ∧
      wpAny (model W.prog W.w) A (call f (firstV ++ a.pos) a.kw) (fun a s' => ∃ fz' b own', Keep fz fz' ∧ Hold W fz' own' s' ∧ RV fz' b a ∧ Q b own') NoX s₁) NoX s := by
    have h1 : wpAny (model W.prog W.w) A (spliced (backTo pos (starEach args env))) (fun vs s₁ => (∃ k, (k = Keeper.frame ∨ k = Keeper.machine ∨ k = Keeper.boundFrame) ∧ Looks (model W.prog W.w) s₁.heap (keeperOf f) k) ∧
      wpAny (model W.prog W.w) A (call f (firstV ++ vs) []) (fun a s' => ∃ fz' b own', Keep fz fz' ∧ Hold W fz' own' s' ∧ RV fz' b a ∧ Q b own') NoX s₁) NoX s := by
      refine wp_then (h fz s H ht) ht fun fz1 vs l o1 s1 k1 H1 t1 r1 q1 => ⟨q1.1 fz1 s1 H1, ?_⟩
      exact (q1.2 fz1 s1 _ H1 t1 ((rf.mono k1).append r1)).weak k1
    generalize backTo pos (starEach args env) = trees at hp h1 ⊢
    cases trees with
    | nil =>
      unfold evalArgs
      show wpAny _ _ (spliced [] >>= _) _ _ _
      refine wpAny_bind (wpAny_mono h1 (fun vs s' h' => wpAny_bind (wpAny_pure ?_)) fun _ _ x => x)
      refine wpAny_holding ?_
      exact wpAny_bind (wpAny_pure (wpAny_bind (wpAny_pure (wpAny_pure h'))))
    | cons t rest =>
      obtain ⟨b, t⟩ := t
      cases b with
      | false => exact Calls.evalArgs_plain h1
      | true => simp at hp
  exact callWith_of (P := fun h => ∃ k, (k = Keeper.frame ∨ k = Keeper.machine ∨ k = Keeper.boundFrame) ∧ Looks (model W.prog W.w) h (keeperOf f) k) (by simpa using hp) (fun h x => x) key

theorem SE_Call {func : Expr} {args : List Expr} {pos : Pos} {Q : V → Own → Prop}
    (h : SE W A env func own fun fv o1 => ∃ f, fv = .val f ∧ SEs W A env pos args o1 fun l o2 => KpO W o2 f ∧ SL W A RV (fun vs => call f vs) l o2 Q)
    (he : eval (.Call func args [] pos) env = (do callWith pos (← eval func env) [] (backTo pos (starEach args env)) (backToKw pos (keywordEach [] env))) := by rfl)
    (hp : (backTo pos (starEach args env)).any (·.1) = false := by rfl) : SE W A env (.Call func args [] pos) own Q := fun fz s H ht => by
  refine Call_ (wp_then (h fz s H ht) ht fun fz1 va a o1 s1 k1 H1 t1 r1 q1 => ?_) he
  obtain ⟨f, rfl, q⟩ := q1
  cases r1.val_inv
  exact (callWith_any (first := []) H1 t1 .nil hp q).weak k1

abbrev RM : Heap → (Value × List V) → (Value × List Value) → Prop := fun fz b a => a.1 = b.1 ∧ RVs fz b.2 a.2
abbrev SMth (W : Wd) (A : Around) (name : Str) (pl : Sem Bool) (a : V) (own : Own) (Q : Value × List V → Own → Prop) : Prop := S1 W A RM (fun v => getMethod v name pl) a own Q
theorem SE_Meth {o : Expr} {name : Str} {apos pos : Pos} {args : List Expr} {pl : Sem Bool} {Q : V → Own → Prop}
    (h : SE W A env o own fun a o1 => SMth W A name pl a o1 fun fx o2 => SEs W A env pos args o2 fun l o3 => KpO W o3 fx.1 ∧ SL W A RV (fun vs => call fx.1 vs) (fx.2 ++ l) o3 Q)
    (he : eval (.Call (.Attribute o name apos) args [] pos) env = (do
      let ov ← eval o env
      standAt apos.atName
      let (f, first) ← holding [ov] (getMethod ov name pl)
      callWith pos f first (backTo pos (starEach args env)) []) := by rfl)
    (hp : (backTo pos (starEach args env)).any (·.1) = false := by rfl) : SE W A env (.Call (.Attribute o name apos) args [] pos) own Q := fun fz s H ht => by
  refine MethodCall_ (wp_then (h fz s H ht) ht fun fz1 va a o1 s1 k1 H1 t1 r1 q1 => wp_then (q1 fz1 s1 va H1 t1 r1) t1 fun fz2 vb b o2 s2 k2 H2 t2 r2 q2 => ?_) he
  obtain ⟨f, fs⟩ := vb
  obtain ⟨e1, e2⟩ := r2
  dsimp only at e1 e2 ⊢
  subst e1
  exact (callWith_any H2 t2 e2 hp q2).weak (k1.trans k2)

/-- a method of a text -/
theorem mth_str {x : Str} {name : Str} {id : String} {pl : Sem Bool} {Q : Value × List V → Own → Prop}
    (hg : ∀ (t : Tok) (s : Shared) (P : Value × List Value → Shared → Prop), P (.builtin id, [.str x t]) s → wpAny (model W.prog W.w) A (getMethod (.str x t) name pl) P NoX s)
    (h : Q (.builtin id, [.str x]) own) : SMth W A name pl (.str x) own Q := fun fz s v H ht r => by
  obtain ⟨t, rfl⟩ := r.str_inv
  exact hg t s _ ⟨fz, _, own, .refl _, H, ⟨rfl, .cons (.dat (.str _ _)) .nil⟩, h⟩
/-- a method of a list of one's own -/
theorem mth_list {D : Addr} {l : List V} {name : Str} {id : String} {pl : Sem Bool} {Q : Value × List V → Own → Prop} (hm : (D, Ob.list l) ∈ own) (slot : Slot "list" name id) (hty : typeOf (.builtin id) = pure (.type "method_descriptor"))
    (h : Q (.builtin id, [.ref D]) own) : SMth W A name pl (.ref D) own Q := fun fz s v H ht r => by
  cases r.val_inv
  obtain ⟨o, ho, vs, n, rfl, rs⟩ := H.get hm
  refine getMethod_builtin ⟨_, ho, rfl⟩ PySem.F.plainAttrs_list slot hty (fun a e => by cases e; exact ⟨_, ho, rfl⟩) ?_
  exact ⟨fz, _, own, .refl _, H, ⟨rfl, .cons (.val _) .nil⟩, h⟩

theorem SL1 {α β : Type} {R : Heap → β → α → Prop} {f : List Value → Sem α} {a : V} {Q : β → Own → Prop} (h : S1 W A R (fun v => f [v]) a own Q) : SL W A R f [a] own Q := fun fz s vs H ht r => by
  cases r with | cons r1 r => cases r; exact h fz s _ H ht r1
theorem SL2 {α β : Type} {R : Heap → β → α → Prop} {f : List Value → Sem α} {a b : V} {Q : β → Own → Prop} (h : S2 W A R (fun v u => f [v, u]) a b own Q) : SL W A R f [a, b] own Q := fun fz s vs H ht r => by
  cases r with | cons r1 r => cases r with | cons r2 r => cases r; exact h fz s _ _ H ht r1 r2

/-! ### built-ins -/
theorem call_append {a : Addr} {l : List V} {x : V} {own' : Own} {Q : V → Own → Prop} (u : Upd a (.list l) (.list (l ++ [x])) own own') (hz : l.length ≤ sizeLine) (h : Q .none own') :
    SL W A RV (fun vs => call (.builtin "list.append") vs) [.ref a, x] own Q := SL2 fun fz s v w H ht r1 r2 => by
  cases r1.val_inv
  exact do_append u hz h fz s w H ht r2
theorem call_len_own {a : Addr} {l : List V} {Q : V → Own → Prop} (hm : (a, Ob.list l) ∈ own) (hz : l.length ≤ sizeLine) (h : Q (.int l.length) own) : SL W A RV (fun vs => call (.builtin "len") vs) [.ref a] own Q := SL1 fun fz s v H ht r => by
  cases r.val_inv
  obtain ⟨o, ho, vs, n, rfl, rs⟩ := H.get hm
  have hlen := rs.length
  rw [sizeLine_eq] at hz
  refine Calls.call_len_list (items := vs.toArray) ⟨_, ho, rfl, n, rfl⟩ (by simp only [List.size_toArray]; omega) ?_
  simp only [List.size_toArray, ← hlen]
  exact at_tok H _ (.dat (.int _ _)) h
theorem call_len_lst {l : List PyData} {Q : V → Own → Prop} (hz : l.length ≤ sizeLine) (h : Q (.int l.length) own) : SL W A RV (fun vs => call (.builtin "len") vs) [.lst l] own Q := SL1 fun fz s v H ht r => by
  obtain ⟨a, vs, rfl, hl, rs⟩ := r.lst_inv
  have hlen := rs.length
  rw [List.length_map] at hlen
  have hsz : vs.toList.length = vs.size := Array.length_toList
  rw [sizeLine_eq] at hz
  refine Calls.call_len_list (IsList_keep hl H.has) (by omega) ?_
  rw [show vs.size = l.length by omega]
  exact at_tok H _ (.dat (.int _ _)) h
theorem call_len_str {x : Str} {Q : V → Own → Prop} (hz : x.length ≤ sizeLine) (h : Q (.int x.length) own) : SL W A RV (fun vs => call (.builtin "len") vs) [.str x] own Q := SL1 fun fz s v H ht r => by
  obtain ⟨t, rfl⟩ := r.str_inv
  rw [sizeLine_eq] at hz
  exact P.len_str (by omega) (at_tok H _ (.dat (.int _ _)) h)
theorem call_chr {i : Int} {Q : V → Own → Prop} (h0 : 0 ≤ i) (h1 : i < 1114112) (h : Q (.str ⟨#[i.toNat]⟩) own) : SL W A RV (fun vs => call (.builtin "chr") vs) [.int i] own Q := SL1 fun fz s v H ht r => by
  obtain ⟨t, rfl⟩ := r.int_inv
  exact P.chr_of_int (by simp; omega) (at_tok H _ (.dat (.str _ _)) h)
theorem call_ord {c : Nat} {Q : V → Own → Prop} (h : Q (.int c) own) : SL W A RV (fun vs => call (.builtin "ord") vs) [.str ⟨#[c]⟩] own Q := SL1 fun fz s v H ht r => by
  obtain ⟨t, rfl⟩ := r.str_inv
  exact P.ord_of_char (at_tok H _ (.dat (.int _ _)) h)
theorem call_range1 {n : Int} {Q : V → Own → Prop} (h : Q (.rng 0 n 1) own) : SL W A RV (fun vs => call (.type "range") vs) [.int n] own Q := SL1 fun fz s v H ht r => by
  obtain ⟨t, rfl⟩ := r.int_inv
  refine call_range_1 ?_
  obtain ⟨kk, H'⟩ := H.frz (k := s.toks + 1 + 1) (o := { cls := .type "range", data := .fields #[.int 0 s.toks, .int n t, .int 1 (s.toks + 1)] }) rfl (Keep.push _ _) (get?_ge (Nat.le_refl _)) (Heap.get?_push_size _ rfl)
  exact ⟨_, _, own, kk, H', .rng (putH_at rfl), h⟩
theorem call_count {x y : Str} {Q : V → Own → Prop} (h : Q (.int (Txt.count x y)) own) : SL W A RV (fun vs => call (.builtin "str.count") vs) [.str x, .str y] own Q := SL2 fun fz s v u H ht r1 r2 => by
  obtain ⟨t, rfl⟩ := r1.str_inv; obtain ⟨t', rfl⟩ := r2.str_inv
  exact SC.count (at_tok H _ (.dat (.int _ _)) h)

/-! ### lists joined, repeated -/
theorem new_list {fz : Heap} {s : Shared} {vs : List Value} {ds : List PyData} {n : Nat} {Q : V → Own → Prop} (H : Hold W fz own s) (rs : RVs fz (ds.map V.dat) vs) (h : Q (.lst ds) own) :
    ∃ fz' b own', Keep fz fz' ∧ Hold W fz' own' { s with heap := s.heap.push { cls := .type "list", data := .seq vs.toArray n } } ∧ RV fz' b (.ref s.heap.objs.size) ∧ Q b own' := by
  obtain ⟨kk, H'⟩ := H.frz (k := s.toks) (o := listObj vs n) rfl (Keep.push _ _) (get?_ge (Nat.le_refl _)) (Heap.get?_push_size _ rfl)
  exact ⟨_, _, own, kk, H', rv_list (putH_at rfl) (rs.mono kk), h⟩
theorem op_addL {a b : List PyData} {Q : V → Own → Prop} (hz : a.length + b.length ≤ sizeLine) (h : Q (.lst (a ++ b)) own) : S2 W A RV (binaryOp .Add) (.lst a) (.lst b) own Q := fun fz s v u H ht r1 r2 => by
  obtain ⟨x, vs, rfl, hl, rs⟩ := r1.lst_inv
  obtain ⟨y, ws, rfl, hm, rt⟩ := r2.lst_inv
  have h1 := rs.length
  have h2 := rt.length
  rw [List.length_map] at h1 h2
  obtain ⟨⟨cls, dd, data, sl⟩, ho, hc, n, hd⟩ := IsList_keep hl H.has
  obtain ⟨⟨cls2, dd2, data2, sl2⟩, ho2, hc2, n2, hd2⟩ := IsList_keep hm H.has
  simp only at hc hd hc2 hd2
  subst hc hd hc2 hd2
  have q1 : vs.toList.length = vs.size := Array.length_toList
  have q2 : ws.toList.length = ws.size := Array.length_toList
  refine concat_meets ⟨_, ho, rfl⟩ ⟨_, ho2, rfl⟩ noFill_list_add seq_list_add PySem.F.slot_list_add PySem.F.entry_list_add (PySem.F.args_list_add_2 _ _) (list_addW x y vs ws n n2 dd dd2 sl sl2 (by omega)) ⟨ho, ho2, ?_⟩
  have e : vs ++ ws = (vs.toList ++ ws.toList).toArray := by simp
  rw [e]
  exact new_list H (by rw [List.map_append]; exact rs.append rt) h

theorem rvs_rep {fz : Heap} {l : List V} {vs : List Value} (r : RVs fz l vs) : ∀ n : Nat, RVs fz (List.replicate n l).flatten (List.replicate n vs).flatten
  | 0 => .nil
  | n + 1 => by rw [List.replicate_succ, List.replicate_succ, List.flatten_cons, List.flatten_cons]; exact r.append (rvs_rep r n)
theorem op_mulL {a : List PyData} {x : Int} {Q : V → Own → Prop} (hlo : -(2 ^ 63 : Int) ≤ x) (hhi : x < 2 ^ 63) (hz : a.length * x.toNat ≤ 2 ^ 24) (h : Q (.lst (List.replicate x.toNat a).flatten) own) : S2 W A RV (binaryOp .Mult) (.lst a) (.int x) own Q := fun fz s v u' H ht r1 r2 => by
  obtain ⟨l, vs, rfl, hl, rs⟩ := r1.lst_inv
  obtain ⟨u, rfl⟩ := r2.int_inv
  have h1 := rs.length
  rw [List.length_map] at h1
  have q1 : vs.toList.length = vs.size := Array.length_toList
  obtain ⟨⟨cls, d, data, sl⟩, ho, hcl, k, hd⟩ := IsList_keep hl H.has
  simp only at hcl hd
  subst hcl hd
  have hsz' : vs.size * x.toNat ≤ 2 ^ 24 := by rw [← q1, ← h1]; exact hz
  refine wpAny_binaryOp_repeat_ref (T := "list") (U := "int") (by decide) ⟨_, ho, rfl⟩ (fun s' => typeIs_int s' x u) noFill_list_mul F.fills_int_mul F.slot_int_rmul repeat_list F.slot_int_index.lookup
    (call_meets F.slot_int_rmul (typeIs_int s x u) F.entry_int_rmul (F.args_int_rmul_2 _ _) (lm_int_rmul_list_any x u l vs k d sl)
      ⟨ho, rfl, ⟨_, ho, rfl⟩, call_meets F.slot_list_mul ⟨_, ho, rfl⟩ F.entry_list_mul (F.args_list_mul_2 _ _)
        (lm_list_mul_any l vs k d sl x u (by simp [Builtin.List.listFitsIndex]; omega) (by omega) (by simp [Builtin.List.listTooLong, sizeLine]; omega))
        ⟨ho, ?_⟩⟩)
  have e : vs = vs.toList.toArray := by simp
  rw [e, listMul_foldl_if]
  exact new_list H (by
    have := rvs_rep rs x.toNat
    have e2 : ((List.replicate x.toNat a).flatten).map V.dat = (List.replicate x.toNat (a.map V.dat)).flatten := by rw [List.map_flatten, List.map_replicate]
    rw [e2]; exact this) h

/-! ### slices -/
def cutL {α : Type} (l : List α) (lo hi : Option Int) : List α := (l.drop (lo.elim 0 (clipAt l.length))).take (hi.elim l.length (clipAt l.length) - lo.elim 0 (clipAt l.length))
def cutS (x : Str) (lo hi : Option Int) : Str := ⟨(cutL x.cps.toList lo hi).toArray⟩
theorem cutL_len {α : Type} (l : List α) (lo hi : Option Int) : (cutL l lo hi).length ≤ l.length := by
  unfold cutL; rw [List.length_take, List.length_drop]; omega
theorem cutL_map {α β : Type} (f : α → β) (l : List α) (lo hi : Option Int) : (cutL l lo hi).map f = cutL (l.map f) lo hi := by
  unfold cutL; rw [List.map_take, List.map_drop, List.length_map]
theorem rvs_cut {fz : Heap} {l : List V} {vs : List Value} (r : RVs fz l vs) (lo hi : Option Int) : RVs fz (cutL l lo hi) (cutL vs lo hi) := by
  have drop : ∀ {l : List V} {vs : List Value}, RVs fz l vs → ∀ n : Nat, RVs fz (l.drop n) (vs.drop n) := by
    intro l vs r
    induction r with
    | nil => intro n; cases n <;> exact .nil
    | cons h t ih => intro n; cases n with
      | zero => exact .cons h t
      | succ n => exact ih n
  have take : ∀ {l : List V} {vs : List Value}, RVs fz l vs → ∀ n : Nat, RVs fz (l.take n) (vs.take n) := by
    intro l vs r
    induction r with
    | nil => intro n; cases n <;> exact .nil
    | cons h t ih => intro n; cases n with
      | zero => exact .nil
      | succ n => exact .cons h (ih n)
  unfold cutL
  rw [r.length]
  exact take (drop r _) _
theorem strSlice_is (x : Str) (lo hi : Option Int) : Txt.slice x lo hi = cutS x lo hi := by
  have e : (Builtin.Str.strSliceIndices lo hi 1 x.length) = (List.range (hi.elim x.length (clipAt x.length) - lo.elim 0 (clipAt x.length))).map (lo.elim 0 (clipAt x.length) + ·) := by
    rw [← sliceRange_one]
    have b := sliceBounds_plain lo hi x.length
    have b1 := congrArg (·.1) b
    have b2 := congrArg (·.2.1) b
    dsimp only at b1 b2
    rw [← b1, ← b2]
    cases lo <;> cases hi <;> rfl
  have e2 : ((Builtin.Str.strSliceIndices lo hi 1 x.length).filterMap (x.cps[·]?)) = cutL x.cps.toList lo hi := by
    rw [e, pick_run]
    unfold cutL
    rw [Array.length_toList]; rfl
  unfold Txt.slice cutS
  rw [e2]
  split
  · rename_i h
    simp only [beq_self_eq_true, Bool.true_and, beq_iff_eq] at h
    have h3 : (cutL x.cps.toList lo hi).length = x.length := by
      rw [e, List.length_map, List.length_range] at h
      have h4 : x.cps.toList.length = x.length := Array.length_toList
      have hb : hi.elim x.length (clipAt x.length) ≤ x.length := by cases hi <;> simp only [Option.elim, clipAt] <;> omega
      unfold cutL
      rw [List.length_take, List.length_drop, h4]
      omega
    have h5 : cutL x.cps.toList lo hi = x.cps.toList := by
      have hs : (cutL x.cps.toList lo hi).Sublist x.cps.toList := by unfold cutL; exact (List.take_sublist _ _).trans (List.drop_sublist _ _)
      exact hs.eq_of_length (by rw [h3, Array.length_toList]; rfl)
    rw [h5]
  · rfl

abbrev SPt (W : Wd) (A : Around) (env : Env) (p : Option Expr) (own : Own) (Q : Option Int → Own → Prop) : Prop := SG W A (fun _ k v => IsPart v k) (evalPart p env) own Q
theorem SPt_none {Q : Option Int → Own → Prop} (h : Q none own) : SPt W A env none own Q := fun fz s H ht => wpAny_pure ⟨fz, _, own, .refl _, H, .none, h⟩
theorem SPt_some {e : Expr} {Q : Option Int → Own → Prop} (h : SE W A env e own fun a o1 => ∃ i, a = .int i ∧ Q (some i) o1) : SPt W A env (some e) own Q := fun fz s H ht =>
  wp_then (h fz s H ht) ht fun fz1 va a o1 s1 k1 H1 t1 r1 q1 => by
    obtain ⟨i, rfl, q⟩ := q1
    obtain ⟨t, rfl⟩ := r1.int_inv
    exact ⟨fz1, _, o1, k1, H1, .int _ _, q⟩
theorem SE_SliceL {value : Expr} {lower upper : Option Expr} {p pos : Pos} {Q : V → Own → Prop}
    (h : SE W A env value own fun a o1 => SPt W A env lower o1 fun lo o2 => SPt W A env upper o2 fun hi o3 => ∃ l, a = .lst l ∧ l.length ≤ sizeLine ∧ Q (.lst (cutL l lo hi)) o3)
    (ht : ∀ o r, letTemporaryGo value o r = pure () := by intro _ _; rfl) : SE W A env (.Subscript value (.Slice lower upper none p) pos) own Q := fun fz s H tk => by
  refine wpAny_Subscript_list_slice (wp_then (h fz s H tk) tk fun fz1 va a o1 s1 k1 H1 t1 r1 q1 => wp_then (q1 fz1 s1 H1 t1) t1 fun fz2 vl lo o2 s2 k2 H2 t2 r2 q2 => wp_then (q2 fz2 s2 H2 t2) t2 fun fz3 vu hi o3 s3 k3 H3 t3 r3 q3 => ?_) ht
  obtain ⟨l, rfl, hz, q⟩ := q3
  obtain ⟨x, vs, rfl, hl, rs⟩ := (r1.mono (k2.trans k3)).lst_inv
  have h1 := rs.length
  rw [List.length_map] at h1
  have qs : vs.toList.length = vs.size := Array.length_toList
  refine ⟨x, vs, lo, hi, rfl, IsList_keep hl H3.has, by omega, r2, r3, ?_⟩
  have e : slicePick vs lo hi none = (cutL vs.toList lo hi).toArray := by rw [slicePick_plain]; unfold cutL; rw [Array.length_toList]
  rw [e]
  have H4 := H3.grow (k := s3.toks) (Keep.push s3.heap { cls := .type "slice", data := .fields #[vl, vu, .none] })
  obtain ⟨fz', b, own', kk, H', r, qq⟩ := new_list (n := 0) (vs := cutL vs.toList lo hi) (ds := cutL l lo hi) H4 (by rw [cutL_map]; exact rvs_cut rs lo hi) q
  rw [show ({ s3 with heap := s3.heap.push { cls := .type "slice", data := .fields #[vl, vu, .none] }, toks := s3.toks } : Shared).heap.objs.size = s3.heap.objs.size + 1 from Heap.size_push ..] at r
  exact ⟨fz', b, own', k1.trans (k2.trans (k3.trans kk)), H', r, qq⟩
theorem SE_SliceO {value : Expr} {lower upper : Option Expr} {p pos : Pos} {Q : V → Own → Prop}
    (h : SE W A env value own fun a o1 => SPt W A env lower o1 fun lo o2 => SPt W A env upper o2 fun hi o3 => ∃ D l ds, a = .ref D ∧ (D, Ob.list l) ∈ o3 ∧ AllDat l ds ∧ ds.length ≤ sizeLine ∧ Q (.lst (cutL ds lo hi)) o3)
    (ht : ∀ o r, letTemporaryGo value o r = pure () := by intro _ _; rfl) : SE W A env (.Subscript value (.Slice lower upper none p) pos) own Q := fun fz s H tk => by
  refine wpAny_Subscript_list_slice (wp_then (h fz s H tk) tk fun fz1 va a o1 s1 k1 H1 t1 r1 q1 => wp_then (q1 fz1 s1 H1 t1) t1 fun fz2 vl lo o2 s2 k2 H2 t2 r2 q2 => wp_then (q2 fz2 s2 H2 t2) t2 fun fz3 vu hi o3 s3 k3 H3 t3 r3 q3 => ?_) ht
  obtain ⟨D, l, ds, rfl, hm, ad, hz, q⟩ := q3
  cases r1.val_inv
  obtain ⟨o, ho, vs, n, rfl, rs⟩ := H3.get hm
  rw [ad.eq] at rs
  have h1 := rs.length
  rw [List.length_map] at h1
  refine ⟨D, vs.toArray, lo, hi, rfl, ⟨_, ho, rfl, n, rfl⟩, by rw [List.size_toArray]; omega, r2, r3, ?_⟩
  have e : slicePick vs.toArray lo hi none = (cutL vs lo hi).toArray := by rw [slicePick_plain]; unfold cutL; simp
  rw [e]
  have H4 := H3.grow (k := s3.toks) (Keep.push s3.heap { cls := .type "slice", data := .fields #[vl, vu, .none] })
  obtain ⟨fz', b, own', kk, H', r, qq⟩ := new_list (n := 0) (vs := cutL vs lo hi) (ds := cutL ds lo hi) H4 (by rw [cutL_map]; exact rvs_cut rs lo hi) q
  rw [show ({ s3 with heap := s3.heap.push { cls := .type "slice", data := .fields #[vl, vu, .none] }, toks := s3.toks } : Shared).heap.objs.size = s3.heap.objs.size + 1 from Heap.size_push ..] at r
  exact ⟨fz', b, own', k1.trans (k2.trans (k3.trans kk)), H', r, qq⟩
theorem part_value {v : Value} {k : Option Int} (h : IsPart v k) : ∃ l : Option (Int × Tok), v = partValue l ∧ l.map (·.1) = k := by
  cases h with
  | none => exact ⟨none, rfl, rfl⟩
  | int i t => exact ⟨some (i, t), rfl, rfl⟩
theorem SE_SliceS {value : Expr} {lower upper : Option Expr} {p pos : Pos} {Q : V → Own → Prop}
    (h : SE W A env value own fun a o1 => SPt W A env lower o1 fun lo o2 => SPt W A env upper o2 fun hi o3 => ∃ x, a = .str x ∧ x.length ≤ sizeLine ∧ Q (.str (cutS x lo hi)) o3)
    (ht : ∀ o r, letTemporaryGo value o r = pure () := by intro _ _; rfl) : SE W A env (.Subscript value (.Slice lower upper none p) pos) own Q := fun fz s H tk => by
  refine wpAny_Subscript_str_slice (wp_then (h fz s H tk) tk fun fz1 va a o1 s1 k1 H1 t1 r1 q1 => wp_then (q1 fz1 s1 H1 t1) t1 fun fz2 vl lo o2 s2 k2 H2 t2 r2 q2 => wp_then (q2 fz2 s2 H2 t2) t2 fun fz3 vu hi o3 s3 k3 H3 t3 r3 q3 => ?_) ht
  obtain ⟨x, rfl, hz, q⟩ := q3
  obtain ⟨t, rfl⟩ := r1.str_inv
  obtain ⟨pl, rfl, e1⟩ := part_value r2
  obtain ⟨pu, rfl, e2⟩ := part_value r3
  refine ⟨x, t, pl, pu, rfl, rfl, rfl, ?_⟩
  have hs := strSlice_is x lo hi
  have H4 := H3.grow (k := s3.toks) (Keep.push s3.heap { cls := .type "slice", data := .fields #[partValue pl, partValue pu, .none] })
  have key : ∀ (t' : Tok) (k : Nat), ∃ fz' b own', Keep fz fz' ∧ Hold W fz' own' { s3 with heap := s3.heap.push { cls := .type "slice", data := .fields #[partValue pl, partValue pu, .none] }, toks := k } ∧ RV fz' b (.str (Txt.slice x lo hi) t') ∧ Q b own' := fun t' k =>
    ⟨fz3, _, o3, k1.trans (k2.trans k3), H4.toks k, by rw [hs]; exact .dat (.str _ _), q⟩
  unfold Txt.slice at key
  unfold sliceMade slicePicked
  rw [e1, e2]
  dsimp only [Option.map, Option.getD]
  split
  · rename_i hc
    rw [if_pos hc] at key
    exact key t _
  · rename_i hc
    rw [if_neg hc] at key
    refine ⟨?_, key _ _⟩
    have := Txt.slice_le x lo hi
    unfold Txt.slice at this
    rw [if_neg hc] at this
    exact Nat.le_trans this hz
end
section
variable {W : Wd} {A : Around} {env : Env} {own : Own}

/-! ### attributes of a made thing -/
theorem putNs {o : Obj} {es : Array DictEntry} {ep : Nat} {name : Str} {h : Int} {t : Tok} {v : Value} (hd : o.data = .dict es ep) (hk : StrKeys es) :
    ∃ es' ep', (o.putName name h (.str name t) v).data = .dict es' ep' ∧ StrKeys es' ∧ es'.size ≤ es.size + 1 ∧ (nsFind es name ≠ none → es'.size = es.size) ∧ ∀ x, nsFind es' x = if x = name then some v else nsFind es x := by
  obtain ⟨c, d, dt, sl⟩ := o
  subst hd
  cases hi : es.findIdx? (·.key.isStr name) with
  | some i =>
    refine ⟨es.modify i fun e => { e with val := v }, ep, by simp only [Obj.putName_eq, Obj.putNameByArray, hi], hk.modify _ _, by simp, fun _ => by simp, fun x => ?_⟩
    exact findBy_modify (fun n v => v.isStr n) Value.isStr_inj es name x v i hi
  | none =>
    refine ⟨es.push ⟨h, .str name t, v⟩, ep + 1, by simp only [Obj.putName_eq, Obj.putNameByArray, hi], hk.push _ _ _ _, by simp, fun hne => ?_, fun x => ?_⟩
    · exfalso; apply hne
      unfold nsFind findBy
      rw [Option.map_eq_none_iff, Array.find?_eq_none]
      intro e he
      rw [Array.findIdx?_eq_none_iff] at hi
      simpa using hi e he
    · exact findBy_push (fun n v => v.isStr n) es name x _ _ v (fun y => by
        show (name == y) = decide (y = name)
        by_cases h : y = name
        · subst h; simp
        · have : ¬ name = y := fun e => h e.symm
          simp [h, this]) hi

theorem Put.keys {x : Str} {a : V} {l l' : List (Str × V)} (u : Put x a l l') : (x ∈ l.map (·.1) ∧ l'.map (·.1) = l.map (·.1)) ∨ (l'.map (·.1) = l.map (·.1) ++ [x]) := by
  induction u with
  | new => exact .inr rfl
  | here => exact .inl ⟨by simp, by simp⟩
  | there _ ih =>
    rcases ih with ⟨h1, h2⟩ | h
    · exact .inl ⟨by simp only [List.map_cons, List.mem_cons]; exact .inr h1, by simp only [List.map_cons, h2]⟩
    · exact .inr (by simp only [List.map_cons, h, List.cons_append])
theorem att_put {fz : Heap} {loc loc' : List (Str × V)} {o : Obj} {x : Str} {a : V} {v : Value} {h : Int} {t : Tok} (H : AttIs fz loc o) (u : Put x a loc loc') (nd : (loc'.map (·.1)).Nodup) (r : RV fz a v) :
    AttIs fz loc' (o.putName x h (.str x t) v) := by
  obtain ⟨es, ep, hd, hk, hz, h1, h2⟩ := H
  obtain ⟨es', ep', hd', hk', hz', hz2, hf⟩ := putNs (name := x) (h := h) (t := t) (v := v) hd hk
  have kk := u.keys
  refine ⟨es', ep', hd', hk', ?_, fun p hp => ?_, fun y hy => ?_⟩
  · rcases kk with ⟨m, e⟩ | e
    · have : nsFind es x ≠ none := by
        obtain ⟨p, hp, e'⟩ := List.mem_map.mp m
        obtain ⟨w, e2, _⟩ := h1 p hp
        rw [← e', e2]; exact fun z => nomatch z
      rw [hz2 this]
      have := congrArg List.length e
      simp only [List.length_map] at this
      omega
    · have := congrArg List.length e
      simp only [List.length_map, List.length_append, List.length_cons, List.length_nil] at this
      omega
  · rcases u.other nd p hp with rfl | ⟨hp', hne⟩
    · exact ⟨v, by rw [hf, if_pos rfl], r⟩
    · obtain ⟨w, e, r'⟩ := h1 p hp'; exact ⟨w, by rw [hf, if_neg hne]; exact e, r'⟩
  · rw [hf]
    rcases kk with ⟨m, e⟩ | e
    · rw [e] at hy
      rw [if_neg (fun q : y = x => hy (q ▸ m))]; exact h2 y hy
    · rw [e, List.mem_append] at hy
      rw [if_neg (fun q => hy (.inr (by simp [q])))]; exact h2 y (fun q => hy (.inl q))

theorem lookIn_of {o : Obj} {es : Array DictEntry} {ep : Nat} {name : Str} (hd : o.data = .dict es ep) (hk : StrKeys es) : lookIn name o = some (nsFind es name) := by
  unfold lookIn
  rw [hd]
  dsimp only
  have e : nsFind es name = (es.toList.find? (·.key.isStr name)).map (·.val) := by unfold nsFind findBy; rw [Array.find?_toList]
  rw [e]
  cases q : es.toList.find? (·.key.isStr name) with
  | some en => rfl
  | none =>
    have : es.toList.any (·.refKey) = false := by
      rw [List.any_eq_false]; intro z hz; obtain ⟨n, t, h⟩ := hk z (by simpa using hz); simp [DictEntry.refKey, h]
    simp [this]

def instO (x dx C : Addr) : Addr × Ob := (x, .obj (instObj C dx))
theorem inst_at {fz : Heap} {s : Shared} {x dx C : Addr} {loc : List (Str × V)} (H : Hold W fz own s) (h1 : (x, Ob.obj (instObj C dx)) ∈ own) (h2 : (dx, Ob.att loc) ∈ own) :
    ∃ od, s.heap.get? dx = some od ∧ AttIs fz loc od ∧ InstAt s.heap x (instObj C dx) C (some od) := by
  obtain ⟨o, ho, e⟩ := H.get h1
  have e' : o = instObj C dx := e
  subst e'
  obtain ⟨od, hd, a⟩ := H.get h2
  exact ⟨od, hd, a, ho, rfl, rfl, hd⟩

/-- what the text's class must be -/
structure ClsOk (K : Frag) (C : Addr) : Prop where
  makes : makesIn K C = true
  ga : findIn K (.ref C) "__getattribute__" = some (some (.builtin "object.__getattribute__"))
  gattr : findIn K (.ref C) "__getattr__" = some none
  sa : findIn K (.ref C) "__setattr__" = some (some (.builtin "object.__setattr__"))
  plain : plainOver K C = true
  dict : (clsIn K C).any (·.hasDict) = true

theorem do_setattr {x dx C : Addr} {loc loc' : List (Str × V)} {name : Str} {a : V} {own' : Own} {Q : Own → Prop} (hc : ClsOk W.K C) (ht : takerIn W.K C name = some none) (h1 : (x, Ob.obj (instObj C dx)) ∈ own) (h2 : (dx, Ob.att loc) ∈ own)
    (u : Put name a loc loc') (nd : (loc'.map (·.1)).Nodup) (hz : loc'.length ≤ 1000) (up : Upd dx (.att loc) (.att loc') own own') (h : Q own') :
    S1 W A RU (fun v => setAttr (.ref x) name v) a own fun _ => Q := fun fz s v H tk r => by
  obtain ⟨od, hod, ha, I⟩ := inst_at H h1 up.mem
  refine set_plain H.kin I hc.sa ?_
  refine osa_open (s := { s with toks := s.toks + 1 }) H.kin I hc.plain ht fun b => ?_
  obtain ⟨cd, hcd, hdict⟩ := any_some hc.dict
  have ha' := att_put (h := PyData.keyHash W.w.params name) (t := s.toks + 1) ha u nd r
  have hhas := ha
  obtain ⟨es, ep, hd, hk, hsz, _, _⟩ := ha
  obtain ⟨hx, _, _, _⟩ := I
  have hnf : (Obj.putName name (PyData.keyHash W.w.params name) (.str name (s.toks + 1)) v od).isFreed = false := by
    obtain ⟨es', ep', hd', _⟩ := ha'
    have g : ∀ o : Obj, o.data = .dict es' ep' → o.isFreed = false := by rintro ⟨_, _, dt, _⟩ e; cases e; rfl
    exact g _ hd'
  refine wpAny_bind (wpAny_pure (wpAny_bind (wpAny_bind (wpAny_loadPart hx (wpAny_bind ((looks_clsIn (H.toks (s.toks + 1)).kin hcd).here ?_))))))
  rw [hdict]
  refine wpAny_pure (a := some dx) (wpAny_bind (wpAny_pure (wpAny_bind ?_)))
  unfold nsSet
  refine wpAny_bind (wpAny_bind (wpAny_askSetting (wpAny_pure (wpAny_bind (wpAny_mkText (wpAny_bind (wpAny_loadPart hod ?_)))))))
  have hany : es.any (·.refKey) = false := by
    rw [Array.any_eq_false']; intro e he; obtain ⟨n, t, h⟩ := hk e he; simp [DictEntry.refKey, h]
  rw [hd]
  dsimp only
  have c : (!es.any (·.key.isStr name) && es.any (·.refKey)) = false := by rw [hany, Bool.and_false]
  rw [aRefKeyMayBeTheName_at, c]
  refine wpAny_updatePart hod ?_
  have D' := Heap.get?_update_self (Obj.putName name (PyData.keyHash W.w.params name) (.str name (s.toks + 1)) v) hod hnf
  refine wpAny_bind (wpAny_lookBehind D' ?_ ?_)
  · obtain ⟨es', ep', hd', _, hz', _⟩ := ha'
    rw [hd']; exact pastItsLine_dict (by rw [sizeLine_eq]; omega)
  · refine wpAny_pure ?_
    exact ⟨fz, (), own', .refl _, H.set (k := s.toks + 1 + 1) up (Heap.SameBut.update ..) D' ha', trivial, h⟩

theorem SX_AssignAttr {o : Expr} {name : Str} {pos' pos : Pos} {value : Expr} {Q : Fl → Own → Prop}
    (h : SE W A env value own fun a o1 => SE W A env o o1 fun b o2 => ∃ x, b = .ref x ∧ S1 W A RU (fun v => setAttr (.ref x) name v) a o2 fun _ o3 => Q .next o3)
    (hs : swapsWith value (some (.Attribute o name pos')) pos.line env = pure false := by rfl) : SX W A env (.Assign [.Attribute o name pos'] value pos) own Q := fun fz s H ht => by
  refine plainObj_wpAny_Assign_Attribute (wp_then (h fz s H ht) ht fun fz1 va a o1 s1 k1 H1 t1 r1 q1 => wp_then (q1 fz1 s1 H1 t1) t1 fun fz2 vb b o2 s2 k2 H2 t2 r2 q2 => ?_) hs
  obtain ⟨x, rfl, q⟩ := q2
  cases r2.val_inv
  refine wp_then (q fz2 s2 va H2 t2 (r1.mono k2)) t2 fun fz3 _ _ o3 s3 k3 H3 t3 _ q3 => ?_
  exact ⟨fz3, .next, o3, k1.trans (k2.trans k3), H3, .next, q3⟩

theorem get_att {x dx C : Addr} {loc : List (Str × V)} {name : Str} {a : V} {Q : V → Own → Prop} (hc : ClsOk W.K C) (h1 : (x, Ob.obj (instObj C dx)) ∈ own) (h2 : (dx, Ob.att loc) ∈ own) (hx : (name, a) ∈ loc)
    (hf : findIn W.K (.ref C) name = some none) (hv : ∀ fz v, RV fz a v → handedIn v = true) (h : Q a own) : S1 W A RV (fun v => getAttr v name true) (.ref x) own Q := fun fz s v H tk r => by
  cases r.val_inv
  obtain ⟨od, hod, ha, I⟩ := inst_at H h1 h2
  obtain ⟨es, ep, hd, hk, hsz, h3, _⟩ := ha
  obtain ⟨u, e, ru⟩ := h3 _ hx
  obtain ⟨cd, hcd, hdict⟩ := any_some hc.dict
  refine get_value (v := u) H.kin I hc.ga ?_ (hv _ _ ru) ⟨fz, a, own, .refl _, H.toks _, ru, h⟩
  unfold findObj
  rw [hcd, Option.bind_some, hf, Option.bind_some]
  dsimp only
  rw [Option.bind_some, Option.bind_some]
  dsimp only
  unfold PySem.W.ownOf
  rw [hdict, if_pos rfl]
  dsimp only
  rw [lookIn_of hd hk, e]
  rfl

theorem handed_int {i : Int} : ∀ fz v, RV fz (.int i) v → handedIn v = true := fun fz v r => by obtain ⟨t, rfl⟩ := r.int_inv; rfl
theorem handed_str {x : Str} : ∀ fz v, RV fz (.str x) v → handedIn v = true := fun fz v r => by obtain ⟨t, rfl⟩ := r.str_inv; rfl
theorem handed_lst {l : List PyData} : ∀ fz v, RV fz (.lst l) v → handedIn v = true := fun fz v r => by obtain ⟨a, _, rfl, _⟩ := r.lst_inv; rfl
theorem handed_ref {a : Addr} : ∀ fz v, RV fz (.ref a) v → handedIn v = true := fun fz v r => by cases r.val_inv; rfl

/-- a method of the class -/
theorem mth_inst {x dx C f : Addr} {loc : List (Str × V)} {name : Str} {pl : Sem Bool} {Q : Value × List V → Own → Prop} (hc : ClsOk W.K C) (h1 : (x, Ob.obj (instObj C dx)) ∈ own) (h2 : (dx, Ob.att loc) ∈ own)
    (hf : findIn W.K (.ref C) name = some (some (.ref f))) (hty : typeIn W.K (.ref f) = some (.type "function")) (hn : name ∉ loc.map (·.1)) (h : Q (.ref f, [.ref x]) own) : SMth W A name pl (.ref x) own Q := fun fz s v H tk r => by
  cases r.val_inv
  obtain ⟨od, hod, ha, I⟩ := inst_at H h1 h2
  obtain ⟨es, ep, hd, hk, hsz, _, h4⟩ := ha
  refine method_fn H.kin I hc.ga hc.gattr hf hty ?_ ⟨fz, _, own, .refl _, H, ⟨rfl, .cons (.val _) .nil⟩, h⟩
  unfold shadowIn
  dsimp only
  rw [lookIn_of hd hk, h4 _ hn]
  rfl

/-- making a thing -/
theorem do_make {C fI : Addr} {args : List V} {Q : V → Own → Prop} (hc : ClsOk W.K C) (hi : findIn W.K (.ref C) "__init__" = some (some (.ref fI))) (hf : typeIn W.K (.ref fI) = some (.type "function"))
    (h : ∀ A' : Around, A'.handled = A.handled → A'.depth = A.depth + 1 → A'.units = A.units + 1 → ∀ x dx, SLC W A' (.ref fI) (.ref x :: args) ((x, .obj (instObj C dx)) :: (dx, .att []) :: own) fun r o => r = .none ∧ Q (.ref x) o) :
    SL W A RV (fun vs => call (.ref C) vs) args own Q := fun fz s vs H ht rs => by
  refine wpAny_call ?_
  have k : Keep s.heap ((s.heap.push emptyDict).push (instObj C s.heap.objs.size)) := (Keep.push _ _).trans (Keep.push _ _)
  have H1 : Hold W fz ((s.heap.objs.size, .att []) :: own) { s with heap := s.heap.push emptyDict, toks := s.toks } := H.new (Keep.push _ _) (get?_ge (Nat.le_refl _)) (Heap.get?_push_size _ rfl)
    ⟨#[], 0, rfl, fun e he => by simp at he, by simp, fun p hp => (nomatch hp), fun x _ => rfl⟩
  have H2 : Hold W fz ((s.heap.objs.size + 1, .obj (instObj C s.heap.objs.size)) :: (s.heap.objs.size, .att []) :: own) { s with heap := (s.heap.push emptyDict).push (instObj C s.heap.objs.size), toks := s.toks } := by
    have := H1.new (k := s.toks) (ob := .obj (instObj C s.heap.objs.size)) (Keep.push _ (instObj C s.heap.objs.size)) (get?_ge (Nat.le_refl _)) (Heap.get?_push_size _ rfl) rfl
    rw [show ({ s with heap := s.heap.push emptyDict, toks := s.toks } : Shared).heap.objs.size = s.heap.objs.size + 1 from Heap.size_push ..] at this
    exact this
  obtain ⟨hh, g, d, t, os⟩ := s
  refine make_core (makes_of H.kin hc.makes) (looks_findIn H.kin hi) (fun self => bind_fn H.kin self hf) (.inl rfl) ?_
  have key := h (A.under (.builtin "type.__call__" ⟨.ref C :: vs, []⟩)) rfl rfl rfl (hh.objs.size + 1) hh.objs.size fz _ _ H2 ht (.cons (.val _) rs)
  refine codeAny_mono key fun r s' x => ?_
  rcases r with e | (v | _ | _ | _) <;> first | exact x.elim | skip
  obtain ⟨fz', b, own', k', H', rb, rfl, q⟩ := x
  exact ⟨rb.none_inv, fz', _, own', k', H', .val _, q⟩
end
section
variable {W : Wd} {A : Around} {env : Env} {own : Own}

theorem ite_dec {p : Prop} [Decidable p] {P Q : Prop} (h1 : p → P) (h2 : ¬ p → Q) : if decide p = true then P else Q := by
  by_cases h : p
  · rw [if_pos (decide_eq_true h)]; exact h1 h
  · rw [if_neg (by simpa using h)]; exact h2 h
theorem ite_ndec {p : Prop} [Decidable p] {P Q : Prop} (h1 : ¬ p → P) (h2 : p → Q) : if (!decide p) = true then P else Q := by
  by_cases h : p
  · rw [if_neg (by simpa using h)]; exact h2 h
  · rw [if_pos (by simpa using h)]; exact h1 h
theorem ite_tt' {P Q : Prop} (h : P) : if true = true then P else Q := by rw [if_pos rfl]; exact h
theorem ite_ff' {P Q : Prop} (h : Q) : if false = true then P else Q := by rw [if_neg (by decide)]; exact h
theorem ite_bool {b : Bool} {P Q : Prop} (h1 : b = true → P) (h2 : b = false → Q) : if b = true then P else Q := by cases b <;> simp_all

theorem K_of {K K' : Frag} {a : Addr} {o : Obj} (hK : K = K') (h : K'.lookup a = some o) : K.lookup a = some o := hK ▸ h
theorem nsIn_of {K K' : Frag} {x : Str} {r : Option (Option Value)} (hK : K = K') (h : nsIn K' mainGlobals x = r) : nsIn K mainGlobals x = r := hK ▸ h
theorem retTo_ret {Q : V → Own → Prop} {v : V} {o own' : Own} (k : Wk o own') (h : Q v own') : retTo Q (.ret v) o := ⟨own', k, h⟩
theorem retTo_next {Q : V → Own → Prop} {o own' : Own} (k : Wk o own') (h : Q .none own') : retTo Q .next o := ⟨own', k, h⟩

/-! ### texts as lists of signs -/
def S (l : List Nat) : Str := ⟨l.toArray⟩
def lit (x : Str) : List Nat := x.cps.toList
theorem S_lit (x : Str) : S (lit x) = x := by unfold S lit; simp
theorem S_len (l : List Nat) : (S l).length = l.length := by show l.toArray.size = _; simp
theorem S_cat (a b : List Nat) : S a ++ S b = S (a ++ b) := by
  show (⟨(S a).cps ++ (S b).cps⟩ : Str) = S (a ++ b)
  simp [S]
theorem S_inj {a b : List Nat} : S a = S b ↔ a = b := by
  constructor
  · intro h; have := congrArg (fun x : Str => x.cps.toList) h; simpa [S] using this
  · intro h; rw [h]

theorem SE_strS {x : Str} {k : Nat} {pos : Pos} {Q : V → Own → Prop} (h : Q (.str (S (lit x))) own) : SE W A env (.Constant (.str x) k pos) own Q := SE_str (by rw [S_lit] at h; exact h)
theorem SE_strL {x : Str} {l : List Nat} {k : Nat} {pos : Pos} {Q : V → Own → Prop} (hx : lit x = l) (h : Q (.str (S l)) own) : SE W A env (.Constant (.str x) k pos) own Q := SE_strS (by rw [hx]; exact h)
theorem op_catS {a b : List Nat} {Q : V → Own → Prop} (hz : a.length + b.length ≤ sizeLine) (h : Q (.str (S (a ++ b))) own) : S2 W A RV (binaryOp .Add) (.str (S a)) (.str (S b)) own Q := op_cat (by rw [S_len, S_len]; exact hz) (by rw [S_cat]; exact h)
theorem op_icatS {a b : List Nat} {Q : V → Own → Prop} (hz : a.length + b.length ≤ sizeLine) (h : Q (.str (S (a ++ b))) own) : S2 W A RV (inplaceOp .Add) (.str (S a)) (.str (S b)) own Q := op_icat (by rw [S_len, S_len]; exact hz) (by rw [S_cat]; exact h)
theorem cmp_eqSS {a b : List Nat} {Q : V → Own → Prop} (h : Q (.bool (decide (a = b))) own) : S2 W A RV (compareOp .Eq) (.str (S a)) (.str (S b)) own Q := cmp_eqS (by
  have : decide (S a = S b) = decide (a = b) := by simp only [S_inj]
  rw [this]; exact h)
theorem cmp_neSS {a b : List Nat} {Q : V → Own → Prop} (h : Q (.bool (decide (a ≠ b))) own) : S2 W A RV (compareOp .NotEq) (.str (S a)) (.str (S b)) own Q := cmp_neS (by
  have : decide (S a ≠ S b) = decide (a ≠ b) := by simp only [ne_eq, S_inj]
  rw [this]; exact h)
theorem tr_strS {a : List Nat} {Q : Bool → Own → Prop} (hx : a.length ≤ sizeLine) (h : Q (decide (a ≠ [])) own) : S1 W A RB truthy (.str (S a)) own Q := tr_str (by rw [S_len]; exact hx) (by
  have : decide ((S a).length ≠ 0) = decide (a ≠ []) := by rw [S_len]; cases a <;> simp
  rw [this]; exact h)
theorem call_lenS {a : List Nat} {Q : V → Own → Prop} (hz : a.length ≤ sizeLine) (h : Q (.int a.length) own) : SL W A RV (fun vs => call (.builtin "len") vs) [.str (S a)] own Q := call_len_str (by rw [S_len]; exact hz) (by rw [S_len]; exact h)
theorem call_chrS {i : Int} {Q : V → Own → Prop} (h0 : 0 ≤ i) (h1 : i < 1114112) (h : Q (.str (S [i.toNat])) own) : SL W A RV (fun vs => call (.builtin "chr") vs) [.int i] own Q := call_chr h0 h1 h
theorem call_ordS {c : Nat} {Q : V → Own → Prop} (h : Q (.int c) own) : SL W A RV (fun vs => call (.builtin "ord") vs) [.str (S [c])] own Q := call_ord h
theorem sub_strS {o i : Expr} {a : List Nat} {k : Int} {c : Nat} {Q : V → Own → Prop} (hlo : -(a.length : Int) ≤ k) (hhi : k < (a.length : Int)) (hz : a.length ≤ sizeLine) (hx : a[place k a.length]? = some c) (h : Q (.str (S [c])) own)
    (hs : ∀ v u, subscripted i false v u = operate [v, u] (getItem v u) := by intro _ _; with_unfolding_all rfl) : S2 W A RV (subscriptTail o i) (.str (S a)) (.int k) own Q :=
  sub_str (by rw [S_len]; exact hlo) (by rw [S_len]; exact hhi) (by rw [S_len]; exact hz) (by rw [S_len]; show a.toArray[_]? = _; simpa using hx) h hs
theorem cutS_S (a : List Nat) (lo hi : Option Int) : cutS (S a) lo hi = S (cutL a lo hi) := by unfold cutS S; simp
theorem it_strS {a : List Nat} {Q : V → Own → Prop} (h : ∀ i, Q (.ref i) ((i, .it (a.map fun c => V.str (S [c]))) :: own)) : S1 W A RV pyIter (.str (S a)) own Q := it_str h
theorem SE_SliceSS {value : Expr} {lower upper : Option Expr} {p pos : Pos} {Q : V → Own → Prop}
    (h : SE W A env value own fun a o1 => SPt W A env lower o1 fun lo o2 => SPt W A env upper o2 fun hi o3 => ∃ l, a = .str (S l) ∧ l.length ≤ sizeLine ∧ Q (.str (S (cutL l lo hi))) o3)
    (ht : ∀ o r, letTemporaryGo value o r = pure () := by intro _ _; rfl) : SE W A env (.Subscript value (.Slice lower upper none p) pos) own Q :=
  SE_SliceS (SG.mono h fun a o1 h1 => SG.mono h1 fun lo o2 h2 => SG.mono h2 fun hi o3 ⟨l, e, hz, q⟩ => ⟨S l, e, by rw [S_len]; exact hz, by rw [cutS_S]; exact q⟩) ht

/-! ### a list of one's own handed on as data -/
inductive Take (D : Addr) (ob : Ob) : Own → Own → Prop
  | here {l : Own} : Take D ob ((D, ob) :: l) l
  | there {p : Addr × Ob} {l l' : Own} : Take D ob l l' → Take D ob (p :: l) (p :: l')
theorem Take.perm {D : Addr} {ob : Ob} {l l' : Own} (t : Take D ob l l') : l.Perm ((D, ob) :: l') := by
  induction t with
  | here => exact .refl _
  | there _ ih => exact (ih.cons _).trans (.swap ..)
theorem SE_freezeT {e : Expr} {Q : V → Own → Prop} (h : SE W A env e own fun a o => ∃ D ys ds o4, a = .ref D ∧ Take D (.list ys) o o4 ∧ AllDat ys ds ∧ Q (.lst ds) o4) : SE W A env e own Q := fun fz s H ht => by
  refine wp_then (h fz s H ht) ht fun fz1 va a o1 s1 k1 H1 t1 r1 q1 => ?_
  obtain ⟨D, ys, ds, o4, rfl, tk, ad, q⟩ := q1
  cases r1.val_inv
  obtain ⟨fz', k, H', r⟩ := (H1.perm tk.perm).freezeList ad
  exact ⟨fz', _, o4, k1.trans k, H', r, q⟩

theorem Upd.mid {D : Addr} {ob ob' : Ob} {post : Own} : ∀ {pre : Own}, Upd D ob ob' (pre ++ (D, ob) :: post) (pre ++ (D, ob') :: post)
  | [] => .here
  | _ :: _ => .there Upd.mid
theorem mem_mid {p q : Addr × Ob} {pre post : Own} (h : p ∈ pre ++ post) : p ∈ pre ++ q :: post := by
  rcases List.mem_append.mp h with h | h
  · exact List.mem_append_left _ h
  · exact List.mem_append_right _ (List.mem_cons_of_mem _ h)
theorem mem_mid' {q : Addr × Ob} {pre post : Own} : q ∈ pre ++ q :: post := List.mem_append_right _ List.mem_cons_self
theorem ite_nt {P Q : Prop} (h : Q) : if (!true) = true then P else Q := by rw [if_neg (by decide)]; exact h
theorem ite_nf {P Q : Prop} (h : P) : if (!false) = true then P else Q := by rw [if_pos (by decide)]; exact h
theorem count_S (l : List Nat) (c : Nat) : Txt.count (S l) (S [c]) = (l.count c : Int) := by
  have h := PyProof.Rows.count_cnt (S l) c
  have e : (⟨#[c]⟩ : Str) = S [c] := rfl
  rw [e] at h
  rw [h]
  show cnt c l = _
  induction l with
  | nil => rw [cnt_nil]; rfl
  | cons d l ih =>
    rw [cnt_cons, ih (count_cnt (S l) c), List.count_cons]
    by_cases hd : d = c
    · subst hd; simp; omega
    · simp [hd]
theorem call_countS {l : List Nat} {c : Nat} {Q : V → Own → Prop} (h : Q (.int (l.count c)) own) : SL W A RV (fun vs => call (.builtin "str.count") vs) [.str (S l), .str (S [c])] own Q := call_count (by rw [count_S]; exact h)
theorem op_mulR {a b : Int} {Q : V → Own → Prop} (hm : Builtin.Int.intBits b ≤ 64) (h : Q (.int (a * b)) own) : S2 W A RV (binaryOp .Mult) (.int a) (.int b) own Q := op_mul (.of_right hm) h
theorem tr_true {d : PyData} (h : ∀ (W : Wd) (A : Around) (own : Own) (Q : Bool → Own → Prop), Q true own → S1 W A RB truthy (.dat d) own Q) {Q : Bool → Own → Prop} (q : Q true own) : S1 W A RB truthy (.dat d) own Q := h W A own Q q
end
section
variable {W : Wd} {A : Around} {env : Env} {own : Own}

theorem Hold.more {fz : Heap} {s : Shared} (H : Hold W fz own s) {h' : Heap} {k : Nat} (hk : Keep s.heap h') {nw : Own} (hn : ∀ p ∈ nw, s.heap.get? p.1 = none) (ho : ∀ p ∈ nw, ∃ o, h'.get? p.1 = some o ∧ ObIs fz p.2 o)
    (nd : (nw.map (·.1)).Nodup) : Hold W fz (nw ++ own) { s with heap := h', toks := k } where
  base := H.base
  has := H.has.trans hk
  obs := fun p hp => by
    rcases List.mem_append.mp hp with hp | hp
    · exact ho p hp
    · obtain ⟨o', e, r⟩ := H.obs p hp; exact ⟨o', hk _ _ e, r⟩
  out := fun p hp => by
    rcases List.mem_append.mp hp with hp | hp
    · cases e : fz.get? p.1 with
      | none => rfl
      | some o' => exact absurd (H.has _ _ e) (by rw [hn p hp]; exact fun x => nomatch x)
    · exact H.out p hp
  nd := by
    rw [List.map_append, List.nodup_append]
    refine ⟨nd, H.nd, fun a ha b hb e => ?_⟩
    subst e
    obtain ⟨p, hp, rfl⟩ := List.mem_map.mp ha
    obtain ⟨q, hq, e⟩ := List.mem_map.mp hb
    obtain ⟨o', e', _⟩ := H.obs q hq
    rw [e, hn p hp] at e'
    cases e'
  gens := H.gens
  os := H.os

/-! ### calls with defaults -/
theorem do_callD {f : Addr} {args : List V} {Q : V → Own → Prop} {name qual : Str} {params : Arguments} {body : List Stmt} {scope : Scope} {dV kV doc pm cdv ct oc : Value} {an od : Option Addr} {osl : Array (Option Value)}
    (names : List Str) (dfl : List Value) (dfv : List V) (hdf : ∀ fz, RVs fz dfv dfl)
    (ho : W.K.lookup f = some ⟨oc, od, .func (fnOf name qual params body scope dV kV doc pm an cdv ct), osl⟩) (hcd : codeIn W.K cdv qual = true) (hroom : A.depth < recursionLimit)
    (hb : ∀ s vs, W.K.In s.heap → vs.length = args.length → BindsTo s (fnOf name qual params body scope dV kV doc pm an cdv ct) ⟨vs, []⟩ (names.zip (vs ++ dfl)))
    (hloc : ∀ y ∈ names, scope.names.lookup y = some .local) (nd : names.Nodup)
    (h : ∀ L, SXs W (A.deeper (envX qual scope L f cdv [])) (envX qual scope L f cdv []) body ((L, .ns (names.zip (args ++ dfv))) :: own) (retTo Q))
    (hco : scope.isCoroutine = false) (hgen : scope.isGenerator = false) (hk : scope.kind = .function)
    (hcell : ∀ x ∈ scope.names, x.2 ≠ .cell) : SLC W A (.ref f) args own Q := fun fz s vs H ht rs => by
  have ndz : ((names.zip (vs ++ dfl)).map (·.1)).Nodup := nd.sublist zip_fst
  refine (codeAny_call_def (fd := fnOf name qual params body scope dV kV doc pm an cdv ct) (body := body) (binds := names.zip (vs ++ dfl)) hroom (H.kin _ _ ho) rfl (W.top.nolimit.keeps H.keep) (codeRec_of H.kin hcd) rfl
    (hb s vs H.kin rs.length.symm) hcell (fun x hx => hloc _ (List.of_mem_zip (show (x.1, x.2) ∈ names.zip (vs ++ dfl) from hx)).1) (fun h₁ hns hk₁ => ?_) hco hgen hk)
  obtain ⟨o, ho', hob⟩ := of_ns (fz := fz) (loc := names.zip (args ++ dfv)) hns (fun p hp => by
    obtain ⟨v, e, r⟩ := zip_lookup (rs.append (hdf fz)) nd p hp
    exact ⟨v, by rw [lookup_reverse ndz]; exact e, r⟩)
  have H₁ : Hold W fz ((s.heap.objs.size, .ns (names.zip (args ++ dfv))) :: own) { s with heap := h₁, toks := s.toks + (names.zip (vs ++ dfl)).length } := H.new hk₁ (get?_ge (Nat.le_refl _)) ho' hob
  refine wpAny_mono (h s.heap.objs.size fz _ H₁ (Nat.le_trans ht (Nat.le_add_right _ _))) (fun fl s' x => ?_) fun _ _ x => x.elim
  obtain ⟨fz', b, own', k, H', r, own'', wk, q⟩ := x
  refine ⟨fz', _, own'', k, wk.hold H', ?_, q⟩
  cases r with
  | next => exact .dat .none
  | brk => exact .dat .none
  | cont => exact .dat .none
  | ret r => exact r

/-! ### calls of a def whose names are captured -/
def AllL (fz : Heap) (m : Str → Option Value) : List (Str × V) → Prop
  | [] => True
  | p :: r => (∃ v, m p.1 = some v ∧ RV fz p.2 v) ∧ AllL fz m r
theorem AllL.get {fz : Heap} {m : Str → Option Value} : ∀ {l : List (Str × V)}, AllL fz m l → ∀ p ∈ l, ∃ v, m p.1 = some v ∧ RV fz p.2 v
  | _ :: _, h, p, hp => by
    rcases List.mem_cons.mp hp with rfl | hp
    · exact h.1
    · exact AllL.get h.2 p hp
def AllC (fz : Heap) (m : Str → Option Value) : List (Str × Nat × Option V) → Prop
  | [] => True
  | (x, _, none) :: r => m x = none ∧ AllC fz m r
  | (x, _, some a) :: r => (∃ v, m x = some v ∧ RV fz a v) ∧ AllC fz m r
theorem AllC.get {fz : Heap} {m : Str → Option Value} : ∀ {l : List (Str × Nat × Option V)}, AllC fz m l → ∀ p ∈ l, match p.2.2 with | none => m p.1 = none | some a => ∃ v, m p.1 = some v ∧ RV fz a v
  | (x, n, o) :: r, h, p, hp => by
    cases o with
    | none =>
      rcases List.mem_cons.mp hp with rfl | hp
      · exact h.1
      · exact AllC.get h.2 p hp
    | some a =>
      rcases List.mem_cons.mp hp with rfl | hp
      · exact h.1
      · exact AllC.get h.2 p hp
theorem lookup_mem_nodup {α : Type} : ∀ {l : List (Str × α)}, (l.map (·.1)).Nodup → ∀ {n : Str} {c : α}, (n, c) ∈ l → l.lookup n = some c
  | (k, v) :: r, nd, n, c, h => by
    rw [List.map_cons, List.nodup_cons] at nd
    rw [List.lookup_cons]
    rcases List.mem_cons.mp h with e | h
    · cases e; simp
    · have : n ≠ k := fun e => nd.1 (List.mem_map.mpr ⟨_, h, e⟩)
      have : (n == k) = false := by simpa using this
      rw [this]; exact lookup_mem_nodup nd.2 h

abbrev cellsOwn (L : Addr) (ce : List (Str × Nat × Option V)) : Own := ce.map fun p => (L + p.2.1, Ob.cell p.2.2)
theorem do_callE {f : Addr} {args : List V} {Q : V → Own → Prop} {name qual : Str} {params : Arguments} {body : List Stmt} {scope : Scope} {dV kV doc pm cdv ct oc : Value} {an od : Option Addr} {osl : Array (Option Value)}
    (names : List Str) (loc : List (Str × V)) (ce : List (Str × Nat × Option V))
    (ho : W.K.lookup f = some ⟨oc, od, .func (fnOf name qual params body scope dV kV doc pm an cdv ct), osl⟩) (hcd : codeIn W.K cdv qual = true) (hroom : A.depth < recursionLimit)
    (hb : ∀ s vs, W.K.In s.heap → vs.length = args.length → BindsTo s (fnOf name qual params body scope dV kV doc pm an cdv ct) ⟨vs, []⟩ (names.zip vs))
    (hcl : ∀ L, cellsFrom (L + 1) scope.names [] = ce.map fun p => (p.1, L + p.2.1)) (ndc : (ce.map (·.1)).Nodup)
    (hkind : ∀ y ∈ names, scope.names.lookup y = some .local ∨ (scope.names.lookup y = some .cell ∧ y ∈ ce.map (·.1)))
    (hbind : ∀ fz vs L, RVs fz args vs → AllL fz (bindL (envX qual scope L f cdv (ce.map fun p => (p.1, L + p.2.1))).kindOf (names.zip vs) fun _ => none) loc ∧ AllC fz (bindC (envX qual scope L f cdv (ce.map fun p => (p.1, L + p.2.1))).kindOf (names.zip vs) fun _ => none) ce)
    (h : ∀ L, SXs W (A.deeper (envX qual scope L f cdv (ce.map fun p => (p.1, L + p.2.1)))) (envX qual scope L f cdv (ce.map fun p => (p.1, L + p.2.1))) body ((L, .ns loc) :: (cellsOwn L ce ++ own)) (retTo Q))
    (hco : scope.isCoroutine = false) (hgen : scope.isGenerator = false) (hk : scope.kind = .function) : SLC W A (.ref f) args own Q := fun fz s vs H ht rs => by
  have hlk : ∀ L, ∀ y ∈ ce.map (·.1), (((ce.map fun p => (p.1, L + p.2.1)) : List (Str × Addr)).lookup y).isSome = true := fun L y hy => by
    obtain ⟨p, hp, rfl⟩ := List.mem_map.mp hy
    rw [lookup_mem_nodup (l := ce.map fun p => (p.1, L + p.2.1)) (by rw [List.map_map]; exact ndc) (List.mem_map.mpr ⟨p, hp, rfl⟩)]; rfl
  refine codeAny_call_function hroom (H.kin _ _ ho) rfl hco hgen rfl (codeRec_of H.kin hcd) (hb s vs H.kin rs.length.symm _ _ _ _ ?_)
  have base := wpAny_newFunctionEnv_cells (M := model W.prog W.w) (A := A.in1) (E := fun e s' => False) (s := s) (scope := scope) (globals := mainGlobals) (binds := names.zip vs) (qual := qual ++ ".<locals>.") (func := some f) (code := cdv) (builtins := builtinsNs)
    (Q := fun env s' => env = newEnv scope s.heap.objs.size mainGlobals (cellsFrom (s.heap.objs.size + 1) scope.names []) (qual ++ ".<locals>.") (some f) cdv none builtinsNs ∧
      InCallC s env.locals (bindL env.kindOf (names.zip vs) fun _ => none) env.cells (bindC env.kindOf (names.zip vs) fun _ => none) s') hk (fun x hx => by
      rcases hkind _ (List.of_mem_zip (show (x.1, x.2) ∈ names.zip vs from hx)).1 with e | ⟨e, m⟩
      · exact .inl e
      · refine .inr ⟨e, ?_⟩
        rw [hcl]; exact hlk _ _ m) (fun env he s' x => ⟨he, x⟩)
  refine wpAny_mono (wpAny_toks_of ht base) (fun env' s' x => ?_) fun _ _ e => e.2.elim
  obtain ⟨t1, he, x⟩ := x
  have he' : env' = envX qual scope s.heap.objs.size f cdv (ce.map fun p => (p.1, s.heap.objs.size + p.2.1)) := by rw [he, hcl]; rfl
  subst he'
  clear he
  refine ⟨(W.top.nolimit.keeps H.keep).keeps x.toInCall.keep, codeAny_func ?_⟩
  have hk₁ := x.toInCall.keep
  obtain ⟨hL, hC⟩ := hbind fz vs s.heap.objs.size rs
  obtain ⟨o, ho', hob⟩ := of_ns (fz := fz) (loc := loc) x.toInCall.ns hL.get
  have hcells : ∀ p ∈ ce, ((ce.map fun p => (p.1, s.heap.objs.size + p.2.1)) : List (Str × Addr)).lookup p.1 = some (s.heap.objs.size + p.2.1) := fun p hp =>
    lookup_mem_nodup (l := ce.map fun p => (p.1, s.heap.objs.size + p.2.1)) (by rw [List.map_map]; exact ndc) (List.mem_map.mpr ⟨p, hp, rfl⟩)
  have habove : ∀ p ∈ ce, s.heap.objs.size < s.heap.objs.size + p.2.1 := fun p hp => x.above _ _ (List.mem_map.mpr ⟨p, hp, rfl⟩)
  obtain ⟨h₁, tk, rfl⟩ := x.toInCall.same
  have H₁ : Hold W fz ((s.heap.objs.size, .ns loc) :: cellsOwn s.heap.objs.size ce ++ own) { s with heap := h₁, toks := tk } := by
    refine H.more hk₁ (fun p hp => ?_) (fun p hp => ?_) ?_
    · rcases List.mem_cons.mp hp with rfl | hp
      · exact get?_ge (Nat.le_refl _)
      · obtain ⟨q, hq, rfl⟩ := List.mem_map.mp hp
        exact get?_ge (Nat.le_of_lt (habove q hq))
    · rcases List.mem_cons.mp hp with rfl | hp
      · exact ⟨o, ho', hob⟩
      · obtain ⟨q, hq, rfl⟩ := List.mem_map.mp hp
        obtain ⟨oc', e, d⟩ := x.cell _ _ (hcells q hq)
        have g := hC.get q hq
        obtain ⟨qx, qn, qo⟩ := q
        cases qo with
        | none => exact ⟨oc', e, by dsimp only at g d; rw [g] at d; exact d⟩
        | some a =>
          obtain ⟨v, e2, r⟩ := g
          exact ⟨oc', e, v, by dsimp only at e2 d; rw [e2] at d; exact d, r⟩
    · rw [List.map_cons, List.nodup_cons]
      refine ⟨fun hm => ?_, ?_⟩
      · obtain ⟨q, hq, e⟩ := List.mem_map.mp hm
        obtain ⟨q', hq', rfl⟩ := List.mem_map.mp hq
        exact absurd (habove q' hq') (by rw [show s.heap.objs.size + q'.2.1 = s.heap.objs.size from e]; exact Nat.lt_irrefl _)
      · have ap := x.apart
        rw [List.pairwise_map] at ap
        rw [List.map_map, List.Nodup, List.pairwise_map]
        exact ap
  refine wpAny_mono (h s.heap.objs.size fz _ H₁ t1) (fun fl s' x => ?_) fun _ _ x => x.elim
  obtain ⟨fz', b, own', k, H', r, own'', wk, q⟩ := x
  refine ⟨fz', _, own'', k, wk.hold H', ?_, q⟩
  cases r with
  | next => exact .dat .none
  | brk => exact .dat .none
  | cont => exact .dat .none
  | ret r => exact r

/-! ### two clauses -/
def Map2 {α β : Type} (W : Wd) (A : Around) (cenv : Env) (target iter' target' elt : Expr) (g : α → V) (ys : α → List β) (g' : β → V) (out : α → β → PyData) (xs : List α) (o3 : Own) (C D : Addr) : Prop :=
  ∀ it x r, x ∈ xs → ∃ loc : List (Str × V), ∀ acc, SA W A cenv target (g x) ((it, .it r) :: (C, .ns []) :: (D, .list acc) :: o3) fun o1 => SE W A cenv iter' o1 fun a o2 => S1 W A RV pyIter a o2 fun b o4 =>
    ∃ it' o5, b = .ref it' ∧ o4 = (it', .it ((ys x).map g')) :: o5 ∧ Wk o5 ((it, .it r) :: (C, .ns loc) :: (D, .list acc) :: o3) ∧
      ∀ y r' acc', y ∈ ys x → SA W A cenv target' (g' y) ((it', .it r') :: (it, .it r) :: (C, .ns loc) :: (D, .list acc') :: o3) fun o1 => SE W A cenv elt o1 fun a o2 => a = .dat (out x y) ∧ Wk o2 ((it', .it r') :: (it, .it r) :: (C, .ns loc) :: (D, .list acc') :: o3)

theorem CL.wk {e : Expr} {d : Nat} {D : Addr} {cenv : Env} {it : Addr} {l : List V} {o o' : Own} {Q : Own → Prop} (k : Wk o o') (h : CL W A e d D cenv it l o' Q) : CL W A e d D cenv it l o Q :=
  fun fz s H ht => h fz s ((Wk.keep .refl k).hold H) ht

theorem CL_map2 {α β : Type} {elt target iter target' iter' : Expr} {scope : Scope} {pos : Pos} {C D : Addr} {cenv : Env} {it : Addr} {g : α → V} {ys : α → List β} {g' : β → V} {out : α → β → PyData} {xs : List α} {o3 : Own} {Q : Own → Prop} (hh : A.handled = none)
    (hz : ((xs.flatMap fun x => (ys x).map (out x))).length ≤ sizeLine) (turn : Map2 W A cenv target iter' target' elt g ys g' out xs o3 C D) (hs : ∀ x, foldedSetIterable iter' cenv x = pure x)
    (last : Q ((C, .ns []) :: (D, .list ((xs.flatMap fun x => (ys x).map (out x)).map V.dat)) :: o3)) :
    CL W A (.ListComp elt [⟨target, iter, [], 0⟩, ⟨target', iter', [], 0⟩] scope pos) 0 D cenv it (xs.map g) ((C, .ns []) :: (D, .list []) :: o3) Q := by
  refine CL_two0 hh (fun l o => ∃ pre post, xs = pre ++ post ∧ l = post.map g ∧ o = (C, .ns []) :: (D, .list ((pre.flatMap fun x => (ys x).map (out x)).map V.dat)) :: o3) ⟨[], xs, rfl, rfl, rfl⟩ ?_ ?_
  · rintro x r o ⟨pre, post, e, hl, rfl⟩
    cases post with
    | nil => cases hl
    | cons z post =>
      injection hl with e1 e2
      subst e1 e2
      obtain ⟨loc, turn⟩ := turn it z (post.map g) (by rw [e]; simp)
      refine S1.mono (turn _) ?_
      intro _ o1 h1
      refine STs_nil ?_
      rw [if_pos rfl]
      refine nest_list (g := ⟨target, iter, [], 0⟩) (g' := ⟨target', iter', [], 0⟩) (gs := []) (SG.mono h1 fun a o2 h2 => S1.mono h2 fun b o4 h4 => ?_) rfl hs
      obtain ⟨it', o5, rfl, rfl, wk, inner⟩ := h4
      refine ⟨it', _, o5, rfl, rfl, CL.wk wk ?_⟩
      refine CL_two1 hh (fun l o => ∃ pre' post', ys z = pre' ++ post' ∧ l = post'.map g' ∧ o = (it, .it (post.map g)) :: (C, .ns loc) :: (D, .list (((pre.flatMap fun x => (ys x).map (out x)) ++ pre'.map (out z)).map V.dat)) :: o3) ⟨[], ys z, rfl, rfl, by simp⟩ ?_ ?_
      · rintro y r' o ⟨pre', post', e', hl', rfl⟩
        cases post' with
        | nil => cases hl'
        | cons w post' =>
          injection hl' with e1 e2
          subst e1 e2
          refine S1.mono (inner w (post'.map g') _ (by rw [e']; simp)) ?_
          intro _ o1 h1
          refine STs_nil ?_
          rw [if_pos rfl]
          refine emit_list (SG.mono h1 ?_)
          rintro a o2 ⟨rfl, wk⟩
          refine ⟨_, _, _, wk, .there (.there (.there .here)), ?_, _, .refl, pre' ++ [w], post', by simp [e'], rfl, by simp⟩
          rw [List.length_map]
          refine Nat.le_trans ?_ hz
          rw [e, List.flatMap_append, List.flatMap_cons, e']
          simp only [List.length_append, List.length_map, List.map_append, List.length_cons, List.map_cons]
          omega
      · rintro o ⟨pre', post', e', hl', rfl⟩
        cases post' with
        | cons _ _ => cases hl'
        | nil =>
          rw [List.append_nil] at e'
          subst e'
          exact ⟨_, .keep .refl (.keep (.ns (List.nil_sublist _)) .refl), pre ++ [z], post, by simp [e], rfl, by simp⟩
  · rintro o ⟨pre, post, e, hl, rfl⟩
    cases post with
    | nil => rw [List.append_nil] at e; subst e; exact last
    | cons z post => cases hl

theorem SE_Comp2Map {α β : Type} {elt target iter target' iter' : Expr} {scope : Scope} {pos : Pos} {cl : List (Str × Addr)} {Q : V → Own → Prop}
    (hh : A.handled = none) (hclos : closureFor scope env = pure cl) (hcell : ∀ y ∈ scope.names, y.2 ≠ .cell) (hkind : scope.kind = .function) (hnames : ∀ y ∈ scope.names, y.2 = .local → scope.names.lookup y.1 = some .local)
    (h : SE W A env iter own fun a o1 => S1 W A RV pyIter a o1 fun b o2 => ∃ it l o3, b = .ref it ∧ o2 = (it, .it l) :: o3 ∧ ∃ (g : α → V) (ys : α → List β) (g' : β → V) (out : α → β → PyData) (xs : List α), l = xs.map g ∧
      ((xs.flatMap fun x => (ys x).map (out x))).length ≤ sizeLine ∧ (∀ C D, Map2 W A (cEnv scope cl C env) target iter' target' elt g ys g' out xs o3 C D) ∧ Q (.lst (xs.flatMap fun x => (ys x).map (out x))) o3)
    (hs : ∀ x, foldedSetIterable iter env x = pure x := by intro _; rfl) (hs' : ∀ C x, foldedSetIterable iter' (cEnv scope cl C env) x = pure x := by intro _ _; rfl) :
    SE W A env (.ListComp elt [⟨target, iter, [], 0⟩, ⟨target', iter', [], 0⟩] scope pos) own Q := by
  refine SE_freeze (SE_Comp hclos hcell hkind hnames (SG.mono h fun a o1 h1 => S1.mono h1 fun b o2 h2 => ?_) hs)
  obtain ⟨it, l, o3, rfl, rfl, g, ys, g', out, xs, rfl, hz, turn, q⟩ := h2
  refine ⟨it, _, o3, rfl, rfl, fun C D => CL_map2 hh hz (turn C D) (hs' C) ⟨_, _, .refl, D, _, _, o3, rfl, rfl, AllDat.map _, q⟩⟩
end
section
variable {W : Wd} {A : Around} {env : Env} {own : Own}

/-! ### equal data -/
def Ok (n : Nat) (d : PyData) : Prop := d.canLay0 = true ∧ d.depth ≤ n
theorem Ok.mono {n m : Nat} {d : PyData} (h : Ok n d) (k : n ≤ m) : Ok m d := ⟨h.1, Nat.le_trans h.2 k⟩
theorem ok_none {n : Nat} : Ok (n + 1) .none := ⟨rfl, by simp [PyData.depth]⟩
theorem ok_int {n : Nat} {i : Int} : Ok (n + 1) (.int i) := ⟨rfl, by simp [PyData.depth]⟩
theorem ok_bool {n : Nat} {b : Bool} : Ok (n + 1) (.bool b) := ⟨rfl, by simp [PyData.depth]⟩
theorem ok_str {n : Nat} {l : List Nat} (h : ∀ c ∈ l, c < 1114112) : Ok (n + 1) (.str (S l)) := by
  refine ⟨?_, by simp [PyData.depth]⟩
  show PyData.strOk (S l) = true
  unfold PyData.strOk S
  simp only [List.all_toArray, List.all_eq_true]
  intro c hc; simpa using h c hc
theorem okAll {n : Nat} : ∀ {l : List PyData}, (∀ d ∈ l, Ok n d) → PyData.canLayAll0 l = true ∧ PyData.depthAll l ≤ n
  | [], _ => ⟨rfl, by simp [PyData.depthAll]⟩
  | d :: l, h => by
    obtain ⟨h1, h2⟩ := okAll (l := l) fun e he => h e (List.mem_cons_of_mem _ he)
    obtain ⟨k1, k2⟩ := h d List.mem_cons_self
    refine ⟨by simp [PyData.canLayAll0, h1, k1], ?_⟩
    simp only [PyData.depthAll]; omega
theorem ok_list {n : Nat} {l : List PyData} (h : ∀ d ∈ l, Ok n d) : Ok (n + 1) (.list l) := by
  obtain ⟨h1, h2⟩ := okAll h
  exact ⟨by simpa [PyData.canLay0] using h1, by simp only [PyData.depth]; omega⟩
theorem ok_tuple {n : Nat} {l : List PyData} (h : ∀ d ∈ l, Ok n d) : Ok (n + 1) (.tuple l) := by
  obtain ⟨h1, h2⟩ := okAll h
  exact ⟨by simpa [PyData.canLay0] using h1, by simp only [PyData.depth]; omega⟩

theorem cmp_eqR {a b : PyData} {Q : V → Own → Prop} (e : a = b) (ok : Ok 60 a) (hu : A.units + 60 < cLine) (h : Q (.bool true) own) : S2 W A RV (compareOp .Eq) (.dat a) (.dat b) own Q := fun fz s v u H _ r1 r2 => by
  subst e
  cases r1 with | dat r1 => cases r2 with | dat r2 =>
  refine SeqAt.compareEq_reads (Reads.keeps H.has r1) (Reads.keeps H.has r2) ok.1 ok.1 (by have := ok.2; omega) ?_
  rw [SeqAt.eqv_refl a ok.1]
  exact at_tok H _ (.dat (.bool _)) h
theorem cmp_neR {a b : PyData} {Q : V → Own → Prop} (e : a = b) (ok : Ok 60 a) (hu : A.units + 60 < cLine) (h : Q (.bool false) own) : S2 W A RV (compareOp .NotEq) (.dat a) (.dat b) own Q := fun fz s v u H _ r1 r2 => by
  subst e
  cases r1 with | dat r1 => cases r2 with | dat r2 =>
  refine SeqAt.compareNe_reads (Reads.keeps H.has r1) (Reads.keeps H.has r2) ok.1 ok.1 (by have := ok.2; omega) ?_
  rw [SeqAt.eqv_refl a ok.1]
  exact at_tok H _ (.dat (.bool _)) h

/-! ### a list of one's own becomes data where it is named -/
inductive VF (D : Addr) (d : PyData) : V → V → Prop
  | at_ : VF D d (.ref D) (.dat d)
  | same {v : V} : VF D d v v
inductive NF (D : Addr) (d : PyData) : List (Str × V) → List (Str × V) → Prop
  | nil : NF D d [] []
  | cons {x : Str} {v v' : V} {l l' : List (Str × V)} : VF D d v v' → NF D d l l' → NF D d ((x, v) :: l) ((x, v') :: l')
inductive OF (D : Addr) (d : PyData) : Own → Own → Prop
  | refl {l : Own} : OF D d l l
  | ns {a : Addr} {loc loc' : List (Str × V)} {l l' : Own} : NF D d loc loc' → OF D d l l' → OF D d ((a, .ns loc) :: l) ((a, .ns loc') :: l')
  | cell {a : Addr} {v v' : V} {l l' : Own} : VF D d v v' → OF D d l l' → OF D d ((a, .cell (some v)) :: l) ((a, .cell (some v')) :: l')
  | same {p : Addr × Ob} {l l' : Own} : OF D d l l' → OF D d (p :: l) (p :: l')
theorem VF.rv {D : Addr} {d : PyData} {fz : Heap} (hD : RV fz (.dat d) (.ref D)) {a a' : V} (x : VF D d a a') {v : Value} (r : RV fz a v) : RV fz a' v := by
  cases x with
  | at_ => rw [r.val_inv]; exact hD
  | same => exact r
theorem NF.is {D : Addr} {d : PyData} {fz : Heap} (hD : RV fz (.dat d) (.ref D)) {l l' : List (Str × V)} (x : NF D d l l') {es : Array DictEntry} (h : ∀ p ∈ l, ∃ v, nsFind es p.1 = some v ∧ RV fz p.2 v) :
    ∀ p ∈ l', ∃ v, nsFind es p.1 = some v ∧ RV fz p.2 v := by
  induction x with
  | nil => exact h
  | cons hv _ ih =>
    intro p hp
    rcases List.mem_cons.mp hp with rfl | hp
    · obtain ⟨v, e, r⟩ := h _ List.mem_cons_self; exact ⟨v, e, hv.rv hD r⟩
    · exact ih (fun q hq => h q (List.mem_cons_of_mem _ hq)) p hp
theorem OF.is {D : Addr} {d : PyData} {fz : Heap} (hD : RV fz (.dat d) (.ref D)) {l l' : Own} (x : OF D d l l') : (l'.map (·.1) = l.map (·.1)) ∧ ∀ p' ∈ l', ∃ p ∈ l, p.1 = p'.1 ∧ ∀ o, ObIs fz p.2 o → ObIs fz p'.2 o := by
  induction x with
  | refl => exact ⟨rfl, fun p hp => ⟨p, hp, rfl, fun _ h => h⟩⟩
  | ns h _ ih =>
    refine ⟨by simp [ih.1], fun p hp => ?_⟩
    rcases List.mem_cons.mp hp with rfl | hp
    · exact ⟨_, List.mem_cons_self, rfl, fun o ⟨es, ep, h1, h2, h3⟩ => ⟨es, ep, h1, h2, h.is hD h3⟩⟩
    · obtain ⟨q, hq, r⟩ := ih.2 p hp; exact ⟨q, List.mem_cons_of_mem _ hq, r⟩
  | cell h _ ih =>
    refine ⟨by simp [ih.1], fun p hp => ?_⟩
    rcases List.mem_cons.mp hp with rfl | hp
    · exact ⟨_, List.mem_cons_self, rfl, fun o ⟨v, e, r⟩ => ⟨v, e, h.rv hD r⟩⟩
    · obtain ⟨q, hq, r⟩ := ih.2 p hp; exact ⟨q, List.mem_cons_of_mem _ hq, r⟩
  | same _ ih =>
    refine ⟨by simp [ih.1], fun p hp => ?_⟩
    rcases List.mem_cons.mp hp with rfl | hp
    · exact ⟨_, List.mem_cons_self, rfl, fun _ h => h⟩
    · obtain ⟨q, hq, r⟩ := ih.2 p hp; exact ⟨q, List.mem_cons_of_mem _ hq, r⟩
theorem SG_frz {α β : Type} {R : Heap → β → α → Prop} {t : Sem α} {own₁ own' : Own} {Q : β → Own → Prop} {D : Addr} {ys : List V} {ds : List PyData} (tk : Take D (.list ys) own own₁) (ad : AllDat ys ds) (x : OF D (.list ds) own₁ own')
    (h : SG W A R t own' Q) : SG W A R t own Q := fun fz s H ht => by
  obtain ⟨fz', k, H', r⟩ := (H.perm tk.perm).freezeList ad
  obtain ⟨k1, k2⟩ := x.is r
  refine (h fz' s ⟨H'.base, H'.has, fun p hp => ?_, fun p hp => ?_, by rw [k1]; exact H'.nd, H'.gens, H'.os⟩ ht).weak k
  · obtain ⟨q, hq, e, f⟩ := k2 p hp
    obtain ⟨o, ho, i⟩ := H'.obs q hq
    exact ⟨o, e ▸ ho, f o i⟩
  · obtain ⟨q, hq, e, f⟩ := k2 p hp
    exact e ▸ H'.out q hq

theorem bits_small {n : Int} (h : n.natAbs < 2 ^ 60) : Builtin.Int.intBits n ≤ 64 := by
  unfold Builtin.Int.intBits
  split
  · omega
  · rename_i hx
    have hx' : n.natAbs ≠ 0 := by simpa using hx
    have := (Nat.log2_lt hx').mpr h
    omega

theorem deeper_gen {body : List Stmt} {e : Env} {Q : Fl → Own → Prop} (hh : A.handled = none) (h : ∀ A' : Around, A'.handled = none → A'.depth = A.depth + 1 → A'.units = A.units + 3 → SXs W A' env body own Q) : SXs W (A.deeper e) env body own Q :=
  h _ hh rfl rfl
end
section
/-- the law's call, from the layer to the model -/
theorem join_law {prog : Program} {w : World} {s₁ : Shared} {K : Frag} {p : Program} {loose : List Str} {mean : ExcName → Option Value} {mg mb : Str → Option Value} {fa f a : Addr} {ns : List Int} {as : List Addr}
    (T : Top p loose mean mg mb s₁.heap) (KX : K.In s₁.heap) (hmg : mg (Str.ofString "law") = some (.ref fa)) (hns : nsIn K mainGlobals (Str.ofString "law") = some (some (.ref f)))
    (r0 : Reads s₁.heap (.ref a) (.list (ns.map .int)) as)
    (h : ∀ W : Wd, W.w = w → W.K = K → SLC W callerA (.ref f) [.lst (ns.map .int)] [] (fun r _ => r = .bool true)) :
    codeAny (model prog w) callerA (.call (.ref fa) ⟨[.ref a], []⟩) (fun r s' => r = .ok (.ret (.bool true)) ∧ Keep s₁.heap s'.heap ∧ s'.os = s₁.os ∧ s'.gens = s₁.gens) s₁ := by
  have e := mg_of KX T.g hns
  rw [hmg] at e
  cases e
  let W : Wd := { prog := prog, w := w, base := s₁.heap, gens := s₁.gens, os := s₁.os, K := K, p := p, loose := loose, mg := mg, mb := mb, kin := KX, top := topRead_of T, tk := 0 }
  have H : Hold W s₁.heap [] s₁ := ⟨.refl _, .refl _, fun p hp => (nomatch hp), fun p hp => (nomatch hp), List.nodup_nil, rfl, rfl⟩
  refine codeAny_mono (h W rfl rfl s₁.heap s₁ [.ref a] H (Nat.zero_le _) (.cons (.dat r0) .nil)) fun r s' x => ?_
  rcases r with e | (v | _ | _ | _) <;> first | exact x.elim | skip
  obtain ⟨fz', b, own', k, H', rb, rfl⟩ := x
  rw [rb.bool_inv]
  exact ⟨rfl, k.trans H'.has, H'.os, H'.gens⟩
end
local macro_rules | `(tactic| walk_at "mem") => `(tactic| (repeat (first | with_reducible exact List.mem_cons_self | with_reducible refine List.mem_cons_of_mem _ ?_ | with_reducible assumption | with_reducible exact mem_mid' | with_reducible exact mem_mid (by assumption))))
local macro_rules | `(tactic| walk_at "put") => `(tactic| (repeat (first | with_reducible exact Put.here | with_reducible exact Put.new | with_reducible apply Put.there)))
local macro_rules | `(tactic| walk_at "upd") => `(tactic| (repeat (first | with_reducible exact Upd.here | with_reducible exact Upd.mid | with_reducible apply Upd.there)))
local macro_rules | `(tactic| walk_at "nd") => `(tactic| (simp only [List.map_cons, List.map_nil]; decide +kernel))
local macro_rules | `(tactic| walk_at "notin") => `(tactic| (simp only [List.map_cons, List.map_nil]; decide +kernel))
local macro_rules | `(tactic| walk_at "frz") => `(tactic| (repeat (first | with_reducible exact NF.nil | with_reducible apply NF.cons VF.at_ | with_reducible apply NF.cons VF.same | with_reducible apply OF.ns | with_reducible apply OF.cell VF.at_ | with_reducible apply OF.cell VF.same | with_reducible apply OF.same | with_reducible exact OF.refl)))
local macro_rules | `(tactic| walk_at "subl") => `(tactic| (repeat (first | with_reducible exact List.Sublist.refl _ | with_reducible exact List.nil_sublist _ | with_reducible apply List.Sublist.cons_cons | with_reducible apply List.Sublist.cons)))
local macro_rules | `(tactic| walk_at "wk") => `(tactic| (repeat (first | with_reducible exact Wk.refl | with_reducible exact Wk.nil | with_reducible refine Wk.keep ObW.refl ?_ | with_reducible refine Wk.keep (ObW.ns (by walk_at "subl")) ?_ | with_reducible apply Wk.drop)))
local macro_rules | `(tactic| walk_at "take") => `(tactic| (repeat (first | with_reducible exact Take.here | with_reducible apply Take.there)))
local macro_rules | `(tactic| walk_at "dat") => `(tactic| first | exact AllDat.map _ | (repeat (first | exact AllDat.nil | with_reducible apply AllDat.cons)))
local macro_rules | `(tactic| walk_at "small") => `(tactic| (rw [sizeLine_eq]; simp))
local macro_rules | `(tactic| walk_at "meth") => `(tactic| first
  | ((with_reducible show SMth _ _ (Str.ofString "append") _ _ _ _); refine mth_list (by walk_at "mem") PySem.F.slot_list_append PySem.F.type_list_append ?_)
  | ((with_reducible show SMth _ _ (Str.ofString "count") _ _ _ _); refine mth_str (fun t s P h => GM.count h) ?_))
local macro_rules | `(tactic| walk_at "call") => `(tactic| first
  | (refine call_append (by walk_at "upd") (by walk_at "size") ?_)
  | (refine call_lenS (by walk_at "size") ?_)
  | (refine call_len_lst (by walk_at "size") ?_)
  | (refine call_len_own (by walk_at "mem") (by walk_at "size") ?_)
  | (refine call_countS ?_)
  | (refine call_range1 ?_)
  | (refine call_ordS ?_))
local macro_rules | `(tactic| walk_at "name") => `(tactic| first
  | (refine SN_loc rfl rfl (by walk_at "mem") (by with_reducible rfl) (by walk_at "mem") ?_)
  | (refine SN_global rfl rfl rfl (nsIn_of (by assumption) rfl) ?_)
  | (refine SN_builtin rfl rfl rfl rfl (nsIn_of (by assumption) rfl) rfl (by decide +kernel) ?_)
  | (refine SN_cell rfl rfl rfl (by walk_at "mem") ?_)
  | (refine SN_free rfl rfl rfl (by walk_at "mem") ?_ (by decide +kernel)))
local macro_rules | `(tactic| walk_at "store") => `(tactic| first
  | (refine SS_loc rfl rfl (by walk_at "mem") (by with_reducible rfl) (by walk_at "put") (by walk_at "nd") (by walk_at "upd") ?_)
  | (refine SS_cell rfl rfl rfl (by walk_at "upd") ?_))
local macro_rules | `(tactic| walk_at "go") => `(tactic| first
  | ((with_reducible show SXs _ _ _ (_ :: _) _ _); refine SXs_cons ?_)
  | ((with_reducible show SXs _ _ _ [] _ _); refine SXs_nil ?_)
  | ((with_reducible show SX _ _ _ (Stmt.Assign [Expr.Name _ _] _ _) _ _); (fail_if_success (with_reducible show SX _ _ _ (Stmt.Assign [Expr.Name _ _] (Expr.ListComp _ _ _ _) _) _ _)); refine SX_Assign ?_)
  | ((with_reducible show SX _ _ _ (Stmt.Assign [Expr.Attribute _ _ _] _ _) _ _); refine SX_AssignAttr ?_)
  | ((with_reducible show SX _ _ _ (Stmt.AugAssign (Expr.Name _ _) _ _ _) _ _); refine SX_Aug ?_)
  | ((with_reducible show SX _ _ _ (Stmt.If _ _ _ _) _ _); refine SX_If ?_)
  | ((with_reducible show SX _ _ _ (Stmt.Return (some _) _) _ _); refine SX_Return ?_)
  | ((with_reducible show SX _ _ _ (Stmt.Return none _) _ _); refine SX_Return0 ?_)
  | ((with_reducible show SX _ _ _ (Stmt.Expr _ _) _ _); refine SX_Expr ?_)
  | ((with_reducible show SE _ _ _ (Expr.Name _ _) _ _); refine SE_Name ?_ (by decide +kernel))
  | ((with_reducible show SE _ _ _ (Expr.Constant (Const.int _) _ _) _ _); refine SE_int ?_)
  | ((with_reducible show SE _ _ _ (Expr.Constant (Const.str _) _ _) _ _); refine SE_strL (by walk_at "lit") ?_)
  | ((with_reducible show SE _ _ _ (Expr.Constant (Const.bool _) _ _) _ _); refine SE_bool ?_)
  | ((with_reducible show SE _ _ _ (Expr.Constant Const.none _ _) _ _); refine SE_none ?_)
  | ((with_reducible show SE _ _ _ (Expr.BinOp _ _ _ _) _ _); refine SE_BinOp ?_)
  | ((with_reducible show SE _ _ _ (Expr.UnaryOp _ _ _) _ _); refine SE_UnaryOp ?_)
  | ((with_reducible show SE _ _ _ (Expr.IfExp _ _ _ _) _ _); refine SE_IfExp ?_)
  | ((with_reducible show SE _ _ _ (Expr.Compare _ [_] [_] _) _ _); refine SE_Compare ?_)
  | ((with_reducible show SE _ _ _ (Expr.Subscript _ _ _) _ _); (fail_if_success (with_reducible show SE _ _ _ (Expr.Subscript _ (Expr.Slice _ _ _ _) _) _ _)); refine SE_Subscript ?_)
  | ((with_reducible show SE _ _ _ (Expr.Call (Expr.Attribute _ _ _) _ [] _) _ _); refine SE_Meth ?_)
  | ((with_reducible show SE _ _ _ (Expr.Call (Expr.Name _ _) _ [] _) _ _); refine SE_Call ?_)
  | ((with_reducible show SE _ _ _ (Expr.Attribute _ _ _) _ _); refine SE_Attribute ?_)
  | ((with_reducible show SE _ _ _ (Expr.Tuple _ _ _) _ _); refine SE_TupleF ?_)
  | (with_reducible refine ⟨_, by with_reducible (walk_at "dat"), by walk_at "small", ?_⟩)
  | ((with_reducible show SMth _ _ _ _ _ _ _); walk_at "meth")
  | (with_reducible refine ⟨kp_builtin, ?_⟩)
  | (with_reducible refine ⟨kp_type, ?_⟩)
  | (with_reducible refine ⟨_, rfl, ?_⟩)
  | ((with_reducible show SL _ _ _ _ _ _ _); walk_at "call")
  | ((with_reducible show SEs _ _ _ _ [] _ _); refine SEs_nil ?_)
  | ((with_reducible show SEs _ _ _ _ (_ :: _) _ _); refine SEs_cons ?_)
  | ((with_reducible show ST _ _ _ (Expr.Compare _ [_] [_] _) _ _); refine ST_Compare ?_)
  | ((with_reducible show ST _ _ _ (Expr.UnaryOp UnaryOp.Not _ _) _ _); refine ST_not ?_)
  | ((with_reducible show SG _ _ _ (isTrue (Expr.BoolOp BoolOp.And (_ :: _) _) _ _) _ _); refine SG_and ?_)
  | ((with_reducible show SG _ _ _ (isTrue (Expr.BoolOp BoolOp.Or (_ :: _) _) _ _) _ _); refine SG_or ?_)
  | ((with_reducible show SG _ _ _ (isTrue (Expr.BoolOp BoolOp.And [] _) _ _) _ _); refine SG_and_nil ?_)
  | ((with_reducible show SG _ _ _ (isTrue (Expr.BoolOp BoolOp.Or [] _) _ _) _ _); refine SG_or_nil ?_)
  | ((with_reducible show ST _ _ _ (Expr.Name _ _) _ _); refine ST_plain ?_)
  | ((with_reducible show SG _ _ _ (loadName _ _) _ _); walk_at "name")
  | ((with_reducible show SS _ _ _ _ _ _ _); walk_at "store")
  | ((with_reducible show SA _ _ _ (Expr.Name _ _) _ _ _); refine SA_Name ?_)
  | ((with_reducible show SA _ _ _ (Expr.Tuple _ _ _) _ _ _); refine SA_Tuple (by assumption) rfl ?_)
  | ((with_reducible show SAs _ _ _ (_ :: _) _ _ _); refine SAs_cons ?_)
  | ((with_reducible show SAs _ _ _ [] _ _ _); refine SAs_nil ?_)
  | ((with_reducible show STs _ _ _ [] _ _); refine STs_nil ?_)
  | ((with_reducible show STs _ _ _ [_] _ _); refine STs_one ?_)
  | ((with_reducible show SPt _ _ _ none _ _); refine SPt_none ?_)
  | ((with_reducible show SPt _ _ _ (some _) _ _); refine SPt_some ?_)
  | (with_reducible refine op_add ?_) | (with_reducible refine op_sub ?_) | (with_reducible refine op_iadd ?_) | (with_reducible refine op_isub ?_) | (with_reducible refine op_neg ?_)
  | (with_reducible refine cmp_eqI ?_) | (with_reducible refine cmp_neI ?_) | (with_reducible refine cmp_lt ?_) | (with_reducible refine cmp_le ?_) | (with_reducible refine cmp_gt ?_) | (with_reducible refine cmp_ge ?_)
  | (with_reducible refine op_catS (by walk_at "size") ?_) | (with_reducible refine op_icatS (by walk_at "size") ?_)
  | (with_reducible refine cmp_eqSS ?_) | (with_reducible refine cmp_neSS ?_)
  | (with_reducible refine tr_bool ?_) | (with_reducible refine tr_int ?_) | (with_reducible refine tr_none ?_)
  | (with_reducible refine ite_nt ?_) | (with_reducible refine ite_nf ?_)
  | (with_reducible refine op_mulR (by decide) ?_)
  | (with_reducible refine ite_tt' ?_) | (with_reducible refine ite_ff' ?_))
section
variable {W : Wd} {A : Around} {env : Env} {own : Own}
abbrev K5 (W : Wd) : Prop := W.K = hd05.heap_39 W.w.params
theorem lit_e : lit (Str.ofString "") = [] := by decide +kernel
theorem lit_0 : lit (Str.ofString "\x00") = [0] := by decide +kernel
theorem lit_1 : lit (Str.ofString "\x01") = [1] := by decide +kernel

local macro_rules | `(tactic| walk_at "lit") => `(tactic| first | exact lit_e | exact lit_0 | exact lit_1)
local macro_rules | `(tactic| walk_at "size") => `(tactic| (rw [sizeLine_eq]; (try simp only [List.length_append, List.length_cons, List.length_nil, List.length_map]); omega))
/-! plain: a line with its marks -/
abbrev PS := List (List Nat × List Nat)
def mgo : PS → List Nat → List Nat → List Nat
  | [], text, held => if held = [] then text else text ++ [1]
  | (c, m) :: r, text, held =>
    if m ≠ held then mgo r (text ++ ((if held = [] then [] else [1]) ++ (if m = [] then [] else [0] ++ m)) ++ c) m
    else mgo r (text ++ c) held
abbrev pairD (p : List Nat × List Nat) : PyData := .tuple [.str (S p.1), .str (S p.2)]

theorem c_marked (hK : K5 W) (hh : A.handled = none) (hd : A.depth < recursionLimit) (ps : PS) (hz : ∀ p ∈ ps, p.1.length = 1 ∧ p.2.length ≤ 1) (hn : ps.length ≤ 1000) :
    SLC W A (.ref 124) [.lst (ps.map pairD)] own (fun r o => r = .str (S (mgo ps [] [])) ∧ o = own) := by
  refine' do_callC [Str.ofString "pairs"] ?ho ?hcd hd ?hb ?hloc ?nd ?h ?c1 ?c2 ?c3 ?c4
  case ho => exact K_of hK rfl
  case hcd => rw [hK]; rfl
  case hb => intro s vs _ hl; exact BindsTo.of_eq (by obtain ⟨v, rfl⟩ := List.length_eq_one_iff.mp hl; rfl)
  case hloc => decide +kernel
  case nd => decide +kernel
  case c1 => rfl
  case c2 => rfl
  case c3 => rfl
  case c4 => decide +kernel
  intro L
  simp only [List.zip_cons_cons, List.zip_nil_right]
  repeat walk_at "go"
  refine SX_For hh ?_
  repeat walk_at "go"
  refine it_list fun it => ⟨it, _, _, rfl, rfl, fun l o => ∃ (post : PS) (text held : List Nat), l = (post.map pairD).map V.dat ∧
    o = (L, Ob.ns [(Str.ofString "pairs", .lst (ps.map pairD)), (Str.ofString "text", .str (S text)), (Str.ofString "held", .str (S held))]) :: own ∧ mgo post text held = mgo ps [] [] ∧
    (∀ p ∈ post, p.1.length = 1 ∧ p.2.length ≤ 1) ∧ held.length ≤ 1 ∧ text.length + post.length * 4 ≤ 4 * ps.length, ?_, ?_, ?_⟩
  · exact ⟨ps, _, _, rfl, rfl, rfl, hz, by decide, by simp; omega⟩
  · rintro x r o ⟨post, text, held, hl, rfl, inv, hz', hh1, hlen⟩
    cases post with
    | nil => cases hl
    | cons p post =>
      obtain ⟨c, m⟩ := p
      injection hl with e1 e2
      subst e1 e2
      have hc := (hz' _ List.mem_cons_self).1
      have hm := (hz' _ List.mem_cons_self).2
      have hz2 : ∀ p ∈ post, p.1.length = 1 ∧ p.2.length ≤ 1 := fun p hp => hz' p (List.mem_cons_of_mem _ hp)
      clear hz' hz
      dsimp only at hc hm
      simp only [List.length_cons] at hlen
      repeat walk_at "go"
      refine ite_dec (fun h1 => ?_) (fun h1 => ?_)
      · repeat walk_at "go"
        refine ite_dec (fun h2 => ?_) (fun h2 => ?_)
        · repeat walk_at "go"
          refine ite_dec (fun h3 => ?_) (fun h3 => ?_)
          · repeat walk_at "go"
            refine ⟨_, by walk_at "wk", post, _, _, rfl, rfl, ?_, hz2, ?_, ?_⟩
            · rw [← inv, mgo, if_pos h1, if_pos h2, if_pos h3]
            · exact hm
            · simp only [List.length_append, List.length_cons, List.length_nil]; omega
          · repeat walk_at "go"
            refine ⟨_, by walk_at "wk", post, _, _, rfl, rfl, ?_, hz2, ?_, ?_⟩
            · rw [← inv, mgo, if_pos h1, if_pos h2, if_neg h3]
            · exact hm
            · simp only [List.length_append, List.length_cons, List.length_nil]; omega
        · repeat walk_at "go"
          refine ite_dec (fun h3 => ?_) (fun h3 => ?_)
          · repeat walk_at "go"
            refine ⟨_, by walk_at "wk", post, _, _, rfl, rfl, ?_, hz2, ?_, ?_⟩
            · rw [← inv, mgo, if_pos h1, if_neg h2, if_pos h3]
            · exact hm
            · simp only [List.length_append, List.length_cons, List.length_nil]; omega
          · repeat walk_at "go"
            refine ⟨_, by walk_at "wk", post, _, _, rfl, rfl, ?_, hz2, ?_, ?_⟩
            · rw [← inv, mgo, if_pos h1, if_neg h2, if_neg h3]
            · exact hm
            · simp only [List.length_append, List.length_cons, List.length_nil]; omega
      · repeat walk_at "go"
        refine ⟨_, by walk_at "wk", post, _, _, rfl, rfl, ?_, hz2, ?_, ?_⟩
        · rw [← inv, mgo, if_neg h1]
        · exact hh1
        · simp only [List.length_append, List.length_cons, List.length_nil]; omega
  · rintro o ⟨post, text, held, hl, rfl, inv, hz', hh1, hlen⟩
    cases post with
    | cons p post => cases hl
    | nil =>
      simp only [List.length_nil] at hlen
      repeat walk_at "go"
      refine ite_dec (fun h1 => ?_) (fun h1 => ?_)
      · repeat walk_at "go"
        exact ⟨own, by walk_at "wk", by rw [← inv, mgo, if_pos h1], rfl⟩
      · repeat walk_at "go"
        exact ⟨own, by walk_at "wk", by rw [← inv, mgo, if_neg h1], rfl⟩
end
section
variable {W : Wd} {A : Around} {env : Env} {own : Own}
local macro_rules | `(tactic| walk_at "lit") => `(tactic| first | exact lit_e | exact lit_0 | exact lit_1)
local macro_rules | `(tactic| walk_at "size") => `(tactic| (rw [sizeLine_eq]; (try simp only [List.length_append, List.length_cons, List.length_nil, List.length_map]); omega))
/-! reading a piece -/
def rgo : List Nat → PS → List Nat → Bool → PS
  | [], acc, held, begun => if held = [] then (if begun = true then [] else acc) else []
  | c :: r, acc, held, begun =>
    if begun = true then rgo r acc [c] false
    else if [c] = [0] then (if held ≠ [] then [] else rgo r acc held true)
    else if [c] = [1] then (if held = [] then [] else rgo r acc [] begun)
    else rgo r (acc ++ [([c], held)]) held begun

theorem c_read (hK : K5 W) (hh : A.handled = none) (hd : A.depth < recursionLimit) (piece : List Nat) (hn : piece.length ≤ 5000) :
    SLC W A (.ref 131) [.str (S piece)] own (fun r o => r = .lst ((rgo piece [] [] false).map pairD) ∧ o = own) := by
  refine' do_callC [Str.ofString "piece"] ?ho ?hcd hd ?hb ?hloc ?nd ?h ?c1 ?c2 ?c3 ?c4
  case ho => exact K_of hK rfl
  case hcd => rw [hK]; rfl
  case hb => intro s vs _ hl; exact BindsTo.of_eq (by obtain ⟨v, rfl⟩ := List.length_eq_one_iff.mp hl; rfl)
  case hloc => decide +kernel
  case nd => decide +kernel
  case c1 => rfl
  case c2 => rfl
  case c3 => rfl
  case c4 => decide +kernel
  intro L
  simp only [List.zip_cons_cons, List.zip_nil_right]
  repeat walk_at "go"
  refine SE_List (by walk_at "small") ?_
  repeat walk_at "go"
  refine ⟨by walk_at "small", fun D => ?_⟩
  repeat walk_at "go"
  refine SX_For hh ?_
  repeat walk_at "go"
  refine it_strS fun it => ⟨it, _, _, rfl, rfl, fun l o => ∃ (post : List Nat) (acc : PS) (held : List Nat) (begun : Bool), l = (post.map fun c => V.str (S [c])) ∧
    o = (D, Ob.list ((acc.map pairD).map V.dat)) :: (L, Ob.ns [(Str.ofString "piece", .str (S piece)), (Str.ofString "pairs", .ref D), (Str.ofString "held", .str (S held)), (Str.ofString "begun", .bool begun)]) :: own ∧
    rgo post acc held begun = rgo piece [] [] false ∧ acc.length + post.length ≤ 5000, ?_, ?_, ?_⟩
  · exact ⟨piece, [], [], false, rfl, rfl, rfl, by simpa using hn⟩
  · rintro x r o ⟨post, acc, held, begun, hl, rfl, inv, hlen⟩
    cases post with
    | nil => cases hl
    | cons c post =>
      injection hl with e1 e2
      subst e1 e2
      simp only [List.length_cons] at hlen
      repeat walk_at "go"
      refine ite_bool (fun h1 => ?_) (fun h1 => ?_)
      · repeat walk_at "go"
        exact ⟨_, by walk_at "wk", post, acc, _, _, rfl, rfl, by rw [← inv, rgo, if_pos h1], by omega⟩
      · have h1' : ¬ begun = true := by rw [h1]; decide
        repeat walk_at "go"
        refine ite_dec (fun h2 => ?_) (fun h2 => ?_)
        · repeat walk_at "go"
          refine ite_dec (fun h3 => ?_) (fun h3 => ?_)
          · repeat walk_at "go"
            refine SE_ListF ?_
            repeat walk_at "go"
            exact ⟨own, by walk_at "wk", by rw [← inv, rgo, if_neg h1', if_pos h2, if_pos h3]; rfl, rfl⟩
          · repeat walk_at "go"
            exact ⟨_, by walk_at "wk", post, acc, _, _, rfl, rfl, by rw [← inv, rgo, if_neg h1', if_pos h2, if_neg h3], by omega⟩
        · repeat walk_at "go"
          refine ite_dec (fun h4 => ?_) (fun h4 => ?_)
          · repeat walk_at "go"
            refine ite_dec (fun h3 => ?_) (fun h3 => ?_)
            · repeat walk_at "go"
              refine SE_ListF ?_
              repeat walk_at "go"
              exact ⟨own, by walk_at "wk", by rw [← inv, rgo, if_neg h1', if_neg h2, if_pos h4, if_pos h3]; rfl, rfl⟩
            · repeat walk_at "go"
              exact ⟨_, by walk_at "wk", post, acc, _, _, rfl, rfl, by rw [← inv, rgo, if_neg h1', if_neg h2, if_pos h4, if_neg h3], by omega⟩
          · have hlen2 : ((acc.map pairD).map V.dat).length ≤ 5000 := by simp only [List.length_map]; omega
            repeat walk_at "go"
            rw [show (acc.map pairD).map V.dat ++ [V.tup [.str (S [c]), .str (S held)]] = ((acc ++ [([c], held)]).map pairD).map V.dat by simp]
            exact ⟨_, by walk_at "wk", post, acc ++ [([c], held)], held, begun, rfl, rfl, by rw [← inv, rgo, if_neg h1', if_neg h2, if_neg h4], by simp only [List.length_append, List.length_cons, List.length_nil]; omega⟩
  · rintro o ⟨post, acc, held, begun, hl, rfl, inv, hlen⟩
    cases post with
    | cons p post => cases hl
    | nil =>
      refine SXs_cons (SX_Return (SE_freezeT ?_))
      repeat walk_at "go"
      refine ite_dec (fun h1 => ?_) (fun h1 => ?_)
      · repeat walk_at "go"
        refine ite_bool (fun h2 => ?_) (fun h2 => ?_)
        · have h2' : ¬ begun = true := by cases begun <;> simp_all
          repeat walk_at "go"
          exact ⟨D, _, _, _, rfl, by walk_at "take", AllDat.map _, own, by walk_at "wk", by rw [← inv, rgo, if_pos h1, if_neg h2'], rfl⟩
        · have h2' : begun = true := by cases begun <;> simp_all
          repeat walk_at "go"
          refine SE_List (by walk_at "small") ?_
          repeat walk_at "go"
          refine ⟨by walk_at "small", fun D2 => ?_⟩
          exact ⟨D2, _, _, _, rfl, by walk_at "take", AllDat.nil, own, by walk_at "wk", by rw [← inv, rgo, if_pos h1, if_pos h2']; rfl, rfl⟩
      · repeat walk_at "go"
        refine SE_List (by walk_at "small") ?_
        repeat walk_at "go"
        refine ⟨by walk_at "small", fun D2 => ?_⟩
        exact ⟨D2, _, _, _, rfl, by walk_at "take", AllDat.nil, own, by walk_at "wk", by rw [← inv, rgo, if_neg h1]; rfl, rfl⟩
end
section
variable {W : Wd} {A : Around} {env : Env} {own : Own}
local macro_rules | `(tactic| walk_at "lit") => `(tactic| first | exact lit_e | exact lit_0 | exact lit_1)
local macro_rules | `(tactic| walk_at "size") => `(tactic| (rw [sizeLine_eq]; (try simp only [List.length_append, List.length_cons, List.length_nil, List.length_map]); omega))
/-! ### the splitter -/
theorem cls5 (hK : K5 W) : ClsOk W.K 113 := by
  refine ⟨?_, ?_, ?_, ?_, ?_, ?_⟩ <;> rw [hK] <;> rfl

/-- the scan up to the column: signs taken, the rest, the mark -/
def sgo : List Nat → Nat → List Nat → List Nat → List Nat × List Nat × List Nat
  | rest, 0, pre, mark => (pre, rest, mark)
  | [], _ + 1, pre, mark => (pre, [], mark)
  | [c], k + 1, pre, mark => if [c] = [0] then (pre, [c], mark) else if [c] = [1] then sgo [] (k + 1) (pre ++ [1]) [] else sgo [] k (pre ++ [c]) mark
  | c :: m :: r, k + 1, pre, mark => if [c] = [0] then sgo r (k + 1) (pre ++ [c, m]) [m] else if [c] = [1] then sgo (m :: r) (k + 1) (pre ++ [c]) [] else sgo (m :: r) k (pre ++ [c]) mark
/-- no mark's sign is left without what it says -/
def sok : List Nat → Nat → Bool
  | _, 0 => true
  | [], _ + 1 => true
  | [c], _ + 1 => !decide ([c] = [0])
  | c :: m :: r, k + 1 => if [c] = [0] then sok r (k + 1) else if [c] = [1] then sok (m :: r) (k + 1) else sok (m :: r) k
def fits (max : Nat) (text : List Nat) : Prop := (text.length : Int) ≤ max ∨ (text.length : Int) - (text.count 0 : Int) * 3 ≤ max
def line1 (x : List Nat × List Nat × List Nat) : List Nat := if x.2.2 = [] then x.1 else x.1 ++ [1]
def line2 (x : List Nat × List Nat × List Nat) : List Nat := if x.2.2 = [] then x.2.1 else [0] ++ x.2.2 ++ x.2.1
inductive Splits (max : Nat) : List Nat → List (List Nat) → Prop
  | last {text : List Nat} : fits max text → Splits max text [text]
  | cut {text : List Nat} {ps : List (List Nat)} : ¬ fits max text → sok text max = true → Splits max (line2 (sgo text max [] [])) ps → Splits max text (line1 (sgo text max [] []) :: ps)

def rowsD (num : PyData) : List (List Nat) → List PyData
  | [] => []
  | p :: r => .tuple [num, .str (S p)] :: r.map fun q => .tuple [.str (S [62]), .str (S q)]
theorem rows_cons (num : PyData) (p : List Nat) (ps : List (List Nat)) (l : List V) : l ++ [V.tup [num, .str (S p)]] ++ (rowsD (.str (S [62])) ps).map V.dat = l ++ (rowsD num (p :: ps)).map V.dat := by
  have e : rowsD (.str (S [62])) ps = ps.map fun q => .tuple [.str (S [62]), .str (S q)] := by cases ps <;> rfl
  rw [e, List.append_assoc]; rfl
theorem lit_gt : lit (Str.ofString ">") = [62] := by decide +kernel
local macro_rules | `(tactic| walk_at "lit") => `(tactic| exact lit_gt)

theorem cutL_pre (a b : List Nat) : cutL (a ++ b) none (some (a.length : Int)) = a := by
  unfold cutL
  simp only [Option.elim, clipAt_nat, List.drop_zero, Nat.sub_zero]
  rw [Nat.min_eq_left (by simp)]
  simp
theorem cutL_post (a b : List Nat) : cutL (a ++ b) (some (a.length : Int)) none = b := by
  unfold cutL
  simp only [Option.elim, clipAt_nat]
  rw [Nat.min_eq_left (by simp)]
  simp
theorem at_mid (a b : List Nat) (c : Nat) : (a ++ c :: b)[place (a.length : Int) (a ++ c :: b).length]? = some c := by
  unfold place
  rw [if_neg (by omega)]
  simp
theorem at_mid2 (a b : List Nat) (c m : Nat) : (a ++ c :: m :: b)[place ((a.length : Int) + 1) (a ++ c :: m :: b).length]? = some m := by
  unfold place
  rw [if_neg (by omega), show ((a.length : Int) + 1).toNat = a.length + 1 by omega, List.getElem?_append_right (by omega)]
  simp
theorem sgo_zero (rest pr mark : List Nat) : sgo rest 0 pr mark = (pr, rest, mark) := by cases rest with | nil => rfl | cons c r => cases r <;> rfl
theorem sgo_nil (k : Nat) (pr mark : List Nat) : sgo [] (k + 1) pr mark = (pr, [], mark) := rfl

theorem c_split (hK : K5 W) {max : Nat} {text : List Nat} {ps : List (List Nat)} (sp : Splits max text ps) (hmax : 0 < max) : ∀ {A : Around} {pre post : Own} {D x dx : Addr} {l : List V} {loc : List (Str × V)} {num : PyData}
    (hnum : ∀ (W : Wd) (A : Around) (own : Own) (Q : Bool → Own → Prop), Q true own → S1 W A RB truthy (.dat num) own Q)
    (hh : A.handled = none) (hd : A.depth + ps.length < recursionLimit) (h1 : (x, Ob.obj (instObj 113 dx)) ∈ pre ++ post) (h2 : (dx, Ob.att loc) ∈ pre ++ post) (h3 : (Str.ofString "_wrapcolumn", V.int max) ∈ loc)
    (h4 : Str.ofString "_split_line" ∉ loc.map (·.1)) (hz : text.length + 4 * ps.length ≤ 100000) (hl : l.length + ps.length ≤ 100000),
    SLC W A (.ref 67) [.ref x, .ref D, .dat num, .str (S text)] (pre ++ (D, .list l) :: post) (fun r o => r = .none ∧ o = pre ++ (D, .list (l ++ (rowsD num ps).map V.dat)) :: post) := by
  induction sp with
  | last hf =>
    intro A pre post D x dx l loc num hnum hh hd h1 h2 h3 h4 hz hl
    refine' do_callC [Str.ofString "self", Str.ofString "data_list", Str.ofString "line_num", Str.ofString "text"] ?ho ?hcd (by omega) ?hb ?hloc ?nd ?h ?c1 ?c2 ?c3 ?c4
    case ho => exact K_of hK rfl
    case hcd => rw [hK]; rfl
    case hb => intro s vs _ hl; exact BindsTo.of_eq (by match vs, hl with | [_, _, _, _], _ => rfl)
    case hloc => decide +kernel
    case nd => decide +kernel
    case c1 => rfl
    case c2 => rfl
    case c3 => rfl
    case c4 => decide +kernel
    intro L
    simp only [List.zip_cons_cons, List.zip_nil_right]
    simp only [List.length_cons, List.length_nil] at hz hd hl
    repeat walk_at "go"
    refine hnum _ _ _ _ ?_
    repeat walk_at "go"
    refine get_att (cls5 hK) (by walk_at "mem") (by walk_at "mem") h3 (by rw [hK]; rfl) handed_int ?_
    repeat walk_at "go"
    refine ite_dec (fun h5 => ?_) (fun h5 => ?_)
    · repeat walk_at "go"
      exact ⟨_, .drop .refl, rfl, rfl⟩
    · repeat walk_at "go"
      refine ite_dec (fun h6 => ?_) (fun h6 => ?_)
      · repeat walk_at "go"
        exact ⟨_, .drop .refl, rfl, rfl⟩
      · rcases hf with hf | hf
        · exact absurd hf h5
        · exact absurd hf h6
  | @cut text ps hnf hok _ ih =>
    intro A pre post D x dx l loc num hnum hh hd h1 h2 h3 h4 hz hl
    refine' do_callC [Str.ofString "self", Str.ofString "data_list", Str.ofString "line_num", Str.ofString "text"] ?ho ?hcd (by omega) ?hb ?hloc ?nd ?h ?c1 ?c2 ?c3 ?c4
    case ho => exact K_of hK rfl
    case hcd => rw [hK]; rfl
    case hb => intro s vs _ hl; exact BindsTo.of_eq (by match vs, hl with | [_, _, _, _], _ => rfl)
    case hloc => decide +kernel
    case nd => decide +kernel
    case c1 => rfl
    case c2 => rfl
    case c3 => rfl
    case c4 => decide +kernel
    intro L
    simp only [List.zip_cons_cons, List.zip_nil_right]
    simp only [List.length_cons] at hz hd hl
    repeat walk_at "go"
    refine hnum _ _ _ _ ?_
    repeat walk_at "go"
    refine get_att (cls5 hK) (by walk_at "mem") (by walk_at "mem") h3 (by rw [hK]; rfl) handed_int ?_
    repeat walk_at "go"
    refine ite_dec (fun h5 => absurd (Or.inl h5) hnf) (fun h5 => ?_)
    repeat walk_at "go"
    refine ite_dec (fun h6 => absurd (Or.inr h6) hnf) (fun h6 => ?_)
    repeat walk_at "go"
    refine SG.mono (Q := fun fl o => ∃ (pr rest mark : List Nat) (k : Nat), fl = Fl.next ∧ text = pr ++ rest ∧ sgo text max [] [] = (pr, rest, mark) ∧ mark.length ≤ 1 ∧
      o = (L, Ob.ns [(Str.ofString "self", V.ref x), (Str.ofString "data_list", V.ref D), (Str.ofString "line_num", V.dat num), (Str.ofString "text", V.str (S text)), (Str.ofString "size", V.int text.length), (Str.ofString "max", V.int max),
        (Str.ofString "i", V.int pr.length), (Str.ofString "n", V.int ((max : Int) - k)), (Str.ofString "mark", V.str (S mark))]) :: (pre ++ (D, Ob.list l) :: post))
      (SX_While (fun m o => ∃ (pr rest mark : List Nat) (k : Nat), text = pr ++ rest ∧ k ≤ max ∧ sgo rest k pr mark = sgo text max [] [] ∧ sok rest k = true ∧ mark.length ≤ 1 ∧ m = rest.length ∧
      o = (L, Ob.ns [(Str.ofString "self", V.ref x), (Str.ofString "data_list", V.ref D), (Str.ofString "line_num", V.dat num), (Str.ofString "text", V.str (S text)), (Str.ofString "size", V.int text.length), (Str.ofString "max", V.int max),
        (Str.ofString "i", V.int pr.length), (Str.ofString "n", V.int ((max : Int) - k)), (Str.ofString "mark", V.str (S mark))]) :: (pre ++ (D, Ob.list l) :: post)) text.length ?_ ?_) ?_
    · refine ⟨[], text, [], max, rfl, Nat.le_refl _, rfl, hok, by decide, rfl, ?_⟩
      rw [show (max : Int) - max = 0 by omega]; rfl
    · rintro m o ⟨pr, rest, mark, k, e, hk, inv, ok, hml, rfl, rfl⟩
      have he := congrArg List.length e
      rw [List.length_append] at he
      repeat walk_at "go"
      refine ite_dec (fun h7 => ?_) (fun h7 => ?_)
      · repeat walk_at "go"
        refine ite_dec (fun h8 => ?_) (fun h8 => ?_)
        · cases rest with
          | nil => simp only [List.length_nil] at he; omega
          | cons c r =>
            simp only [List.length_cons] at he
            have hx := at_mid pr r c
            rw [← e] at hx
            repeat walk_at "go"
            refine sub_strS (by omega) (by omega) (by walk_at "size") hx ?_
            repeat walk_at "go"
            obtain ⟨k, rfl⟩ : ∃ j, k = j + 1 := ⟨k - 1, by omega⟩
            refine ite_dec (fun h9 => ?_) (fun h9 => ?_)
            · cases r with
              | nil => simp [sok, h9] at ok
              | cons m r =>
                simp only [List.length_cons] at he
                have hx2 := at_mid2 pr r c m
                rw [← e] at hx2
                repeat walk_at "go"
                refine sub_strS (by omega) (by omega) (by walk_at "size") hx2 ?_
                repeat walk_at "go"
                rw [show (pr.length : Int) + 1 + 1 = ((pr ++ [c, m]).length : Nat) by simp; omega]
                rw [sgo, if_pos h9] at inv
                rw [sok, if_pos h9] at ok
                exact ⟨_, r.length, by walk_at "wk", by simp; omega, pr ++ [c, m], r, [m], k + 1, by simp [e], hk, inv, ok, by simp, rfl, rfl⟩
            · repeat walk_at "go"
              refine sub_strS (by omega) (by omega) (by walk_at "size") hx ?_
              repeat walk_at "go"
              refine ite_dec (fun h10 => ?_) (fun h10 => ?_)
              · repeat walk_at "go"
                rw [show (pr.length : Int) + 1 = ((pr ++ [c]).length : Nat) by simp]
                have inv' : sgo r (k + 1) (pr ++ [c]) [] = sgo text max [] [] := by
                  rw [← inv]
                  have hc : c = 1 := by simpa using h10
                  cases r with
                  | nil => rw [sgo.eq_3, if_neg h9, if_pos h10, hc]
                  | cons m r => rw [sgo.eq_4, if_neg h9, if_pos h10]
                have ok' : sok r (k + 1) = true := by
                  cases r with
                  | nil => rfl
                  | cons m r => rw [sok, if_neg h9, if_pos h10] at ok; exact ok
                exact ⟨_, r.length, by walk_at "wk", by simp, pr ++ [c], r, [], k + 1, by simp [e], hk, inv', ok', by simp, rfl, rfl⟩
              · repeat walk_at "go"
                rw [show (pr.length : Int) + 1 = ((pr ++ [c]).length : Nat) by simp, show (max : Int) - ((k + 1 : Nat) : Int) + 1 = (max : Int) - (k : Nat) by push_cast; omega]
                have inv' : sgo r k (pr ++ [c]) mark = sgo text max [] [] := by
                  rw [← inv]
                  cases r with
                  | nil => rw [sgo.eq_3, if_neg h9, if_neg h10]
                  | cons m r => rw [sgo.eq_4, if_neg h9, if_neg h10]
                have ok' : sok r k = true := by
                  cases r with
                  | nil => cases k <;> rfl
                  | cons m r => rw [sok, if_neg h9, if_neg h10] at ok; exact ok
                exact ⟨_, r.length, by walk_at "wk", by simp, pr ++ [c], r, mark, k, by simp [e], by omega, inv', ok', hml, rfl, rfl⟩
        · repeat walk_at "go"
          have hr : rest = [] := by cases rest with | nil => rfl | cons c r => simp only [List.length_cons] at he; omega
          subst hr
          exact ⟨pr, [], mark, k, rfl, e, by rw [← inv]; cases k <;> rfl, hml, rfl⟩
      · repeat walk_at "go"
        have hk0 : k = 0 := by omega
        subst hk0
        exact ⟨pr, rest, mark, 0, rfl, e, by rw [← inv, sgo_zero], hml, rfl⟩
    · rintro _ o ⟨pr, rest, mark, k, rfl, e, hs, hml, rfl⟩
      have he := congrArg List.length e
      rw [List.length_append] at he
      have c1 : cutL text none (some (pr.length : Int)) = pr := by rw [e]; exact cutL_pre _ _
      have c2 : cutL text (some (pr.length : Int)) none = rest := by rw [e]; exact cutL_post _ _
      repeat walk_at "go"
      refine SE_SliceSS ?_
      repeat walk_at "go"
      refine ⟨by walk_at "size", ?_⟩
      rw [c1]
      repeat walk_at "go"
      refine SE_SliceSS ?_
      repeat walk_at "go"
      refine ⟨by walk_at "size", ?_⟩
      rw [c2]
      repeat walk_at "go"
      refine tr_strS (by walk_at "size") ?_
      rw [hs] at ih ⊢
      refine ite_dec (fun h7 => ?_) (fun h7 => ?_)
      · rw [line2, if_neg h7] at ih
        rw [line1, if_neg h7]
        dsimp only at ih ⊢
        repeat walk_at "go"
        refine mth_inst (cls5 hK) (by walk_at "mem") (by walk_at "mem") (by rw [hK]; rfl) (by rw [hK]; rfl) h4 ?_
        repeat walk_at "go"
        refine ⟨kp_K (by rw [hK]; rfl), SLC.call (SLC.mono (ih (pre := (L, _) :: pre) (post := post) (A := A.deeper _) (fun W A own Q q => tr_strS (by walk_at "small") q) hh ?_ (by exact List.mem_cons_of_mem _ h1) (by exact List.mem_cons_of_mem _ h2) h3 h4 ?_ ?_) ?_)⟩
        · rw [depth_deeper]; omega
        · simp only [List.length_append, List.length_cons, List.length_nil]; omega
        · simp only [List.length_append, List.length_cons, List.length_nil]; omega
        · rintro r o ⟨rfl, rfl⟩
          repeat walk_at "go"
          refine ⟨_, .drop .refl, rfl, ?_⟩
          show pre ++ _ = _
          rw [rows_cons]
      · have h7' : mark = [] := by simpa using h7
        rw [line2, if_pos h7'] at ih
        rw [line1, if_pos h7']
        dsimp only at ih ⊢
        repeat walk_at "go"
        refine mth_inst (cls5 hK) (by walk_at "mem") (by walk_at "mem") (by rw [hK]; rfl) (by rw [hK]; rfl) h4 ?_
        repeat walk_at "go"
        refine ⟨kp_K (by rw [hK]; rfl), SLC.call (SLC.mono (ih (pre := (L, _) :: pre) (post := post) (A := A.deeper _) (fun W A own Q q => tr_strS (by walk_at "small") q) hh ?_ (by exact List.mem_cons_of_mem _ h1) (by exact List.mem_cons_of_mem _ h2) h3 h4 ?_ ?_) ?_)⟩
        · rw [depth_deeper]; omega
        · (try simp only [List.length_append, List.length_cons, List.length_nil]); omega
        · (try simp only [List.length_append, List.length_cons, List.length_nil]); omega
        · rintro r o ⟨rfl, rfl⟩
          repeat walk_at "go"
          refine ⟨_, .drop .refl, rfl, ?_⟩
          show pre ++ _ = _
          rw [rows_cons]
end
section
variable {W : Wd} {A : Around} {env : Env} {own : Own}
local macro_rules | `(tactic| walk_at "lit") => `(tactic| first | exact lit_e | exact lit_0 | exact lit_1)
local macro_rules | `(tactic| walk_at "size") => `(tactic| (rw [sizeLine_eq]; (try simp only [List.length_append, List.length_cons, List.length_nil, List.length_map]); omega))
/-! ### making a sheet -/
abbrev attr5 (t c : V) : List (Str × V) := [(Str.ofString "_tabsize", t), (Str.ofString "_wrapcolumn", c), (Str.ofString "_linejunk", V.none), (Str.ofString "_charjunk", V.ref 29)]
theorem c_init (hK : K5 W) (hh : A.handled = none) (hd : A.depth < recursionLimit) {x dx : Addr} {t c : V} :
    SLC W A (.ref 44) [.ref x, t, c] ((x, .obj (instObj 113 dx)) :: (dx, .att []) :: own) (fun r o => r = .none ∧ o = (x, .obj (instObj 113 dx)) :: (dx, .att (attr5 t c)) :: own) := by
  refine' do_callD [Str.ofString "self", Str.ofString "tabsize", Str.ofString "wrapcolumn", Str.ofString "linejunk", Str.ofString "charjunk"] [.none, .ref 29] [V.none, V.ref 29] (fun fz => .cons (.dat .none) (.cons (.val _) .nil)) ?ho ?hcd hd ?hb ?hloc ?nd ?h ?c1 ?c2 ?c3 ?c4
  case ho => exact K_of hK rfl
  case hcd => rw [hK]; rfl
  case hb => intro s vs X hl; match vs, hl with | [_, _, _], _ => exact binds_K X rfl (K_of hK rfl) rfl rfl rfl
  case hloc => decide +kernel
  case nd => decide +kernel
  case c1 => rfl
  case c2 => rfl
  case c3 => rfl
  case c4 => decide +kernel
  intro L
  simp only [List.zip_cons_cons, List.zip_nil_right, List.cons_append, List.nil_append]
  repeat walk_at "go"
  refine do_setattr (cls5 hK) (by rw [hK]; rfl) (by walk_at "mem") (by walk_at "mem") (by walk_at "put") (by walk_at "nd") (by simp) (by walk_at "upd") ?_
  repeat walk_at "go"
  refine do_setattr (cls5 hK) (by rw [hK]; rfl) (by walk_at "mem") (by walk_at "mem") (by walk_at "put") (by walk_at "nd") (by simp) (by walk_at "upd") ?_
  repeat walk_at "go"
  refine do_setattr (cls5 hK) (by rw [hK]; rfl) (by walk_at "mem") (by walk_at "mem") (by walk_at "put") (by walk_at "nd") (by simp) (by walk_at "upd") ?_
  repeat walk_at "go"
  refine do_setattr (cls5 hK) (by rw [hK]; rfl) (by walk_at "mem") (by walk_at "mem") (by walk_at "put") (by walk_at "nd") (by simp) (by walk_at "upd") ?_
  repeat walk_at "go"
  exact ⟨_, .drop .refl, rfl, rfl⟩
theorem do_sheet (hK : K5 W) (hh : A.handled = none) (hd : A.depth + 1 < recursionLimit) {t c : V} {Q : V → Own → Prop} (h : ∀ x dx, Q (.ref x) ((x, .obj (instObj 113 dx)) :: (dx, .att (attr5 t c)) :: own)) :
    SL W A RV (fun vs => call (.ref 113) vs) [t, c] own Q :=
  do_make (cls5 hK) (by rw [hK]; rfl) (by rw [hK]; rfl) fun A' e1 e2 e3 x dx => (c_init hK (e1.trans hh) (by omega)).mono (by rintro r o ⟨rfl, rfl⟩; exact ⟨rfl, h x dx⟩)
end
section
variable {W : Wd} {A : Around} {env : Env} {own : Own}
local macro_rules | `(tactic| walk_at "lit") => `(tactic| first | exact lit_e | exact lit_0 | exact lit_1)
local macro_rules | `(tactic| walk_at "size") => `(tactic| (rw [sizeLine_eq]; (try simp only [List.length_append, List.length_cons, List.length_nil, List.length_map]); omega))
theorem lit_w : lit (Str.ofString "what it") = [119, 104, 97, 116, 32, 105, 116] := by decide +kernel
theorem lit_h : lit (Str.ofString "holds") = [104, 111, 108, 100, 115] := by decide +kernel
local macro_rules | `(tactic| walk_at "lit") => `(tactic| first | exact lit_gt | exact lit_w | exact lit_h)
def down (rows : List PS) (col : Nat) : PS := (List.range col).flatMap fun k => rows.map fun row => row.getD k ([], [])
def rowsP (num : PyData) : List (List Nat) → List (PyData × List Nat)
  | [] => []
  | p :: r => (num, p) :: r.map fun q => (.str (S [62]), q)
abbrev rowD (p : PyData × List Nat) : PyData := .tuple [p.1, .str (S p.2)]
theorem rowsP_D (num : PyData) (ps : List (List Nat)) : rowsD num ps = (rowsP num ps).map rowD := by
  cases ps with
  | nil => rfl
  | cons p r => simp [rowsD, rowsP, rowD]
theorem cutL_1 {α : Type} (a : α) (r : List α) : cutL (a :: r) (some 1) none = r := by
  unfold cutL
  have h : clipAt (a :: r).length (1 : Int) = 1 := by have := clipAt_nat (a :: r).length 1; simp at this; exact this
  rw [List.length_cons] at h
  simp only [List.length_cons, Option.elim, h, List.drop_succ_cons, List.drop_zero, List.length_cons, Nat.add_sub_cancel, List.take_length]
theorem rowsP_len (num : PyData) (ps : List (List Nat)) : (rowsP num ps).length = ps.length := by cases ps <;> simp [rowsP]
theorem rowsP_fst (num : PyData) (p : List Nat) (ps : List (List Nat)) : ((rowsP num (p :: ps)).map fun q => q.1) = [num] ++ (List.replicate ps.length [PyData.str (S [62])]).flatten := by
  simp only [rowsP, List.map_cons, List.map_map, List.singleton_append]
  congr 1
  induction ps with
  | nil => rfl
  | cons q r ih => simp only [List.map_cons, List.length_cons, List.replicate_succ, List.flatten_cons, List.singleton_append]; rw [ih]; rfl
abbrev headD : PyData := .tuple [.str (S [119, 104, 97, 116, 32, 105, 116]), .str (S [104, 111, 108, 100, 115])]
theorem head_ok : Ok 60 headD := ok_tuple (n := 59) (by intro d hd; simp only [List.mem_cons, List.not_mem_nil, or_false] at hd; rcases hd with rfl | rfl <;> exact ok_str (by decide))
theorem sum_rep (n c : Nat) : (List.replicate n c).sum = n * c := by
  induction n with
  | zero => simp
  | succ n ih => rw [List.replicate_succ, List.sum_cons, ih, Nat.succ_mul]; omega
theorem range_size (n : Nat) : Builtin.Range.rangeSize 0 n 1 = (n : Int) := by
  unfold Builtin.Range.rangeSize
  simp
  omega
theorem range_small (n : Nat) (h : n ≤ 1000000) : Builtin.Range.small 0 n 1 = true := by
  have h1 := range_size n
  unfold Builtin.Range.small
  simp only [h1]
  unfold Builtin.Range.rangeFitsLong
  simp
  omega
theorem mgo_len : ∀ (ps : PS) (text held : List Nat), (∀ p ∈ ps, p.1.length = 1 ∧ p.2.length ≤ 1) → (mgo ps text held).length ≤ text.length + 4 * ps.length + 1
  | [], text, held, _ => by
    unfold mgo; split <;> simp
  | (c, m) :: r, text, held, h => by
    obtain ⟨h1, h2⟩ := h _ List.mem_cons_self
    dsimp only at h1 h2
    unfold mgo
    split
    · refine Nat.le_trans (mgo_len r _ _ fun p hp => h p (List.mem_cons_of_mem _ hp)) ?_
      split <;> split <;> simp only [List.length_append, List.length_cons, List.length_nil] <;> omega
    · refine Nat.le_trans (mgo_len r _ _ fun p hp => h p (List.mem_cons_of_mem _ hp)) ?_
      simp only [List.length_append, List.length_cons]; omega
theorem c_down (hK : K5 W) (hh : A.handled = none) (ps : PS) (col : Nat) (pieces : List (List Nat)) (hd : A.depth + pieces.length + 10 < recursionLimit) (hu : A.units + 500 < cLine)
    (hz : ∀ p ∈ ps, p.1.length = 1 ∧ p.2.length ≤ 1) (hn : ps.length ≤ 1000)
    (sp : Splits col (mgo ps [] []) pieces) (hc : 0 < col) (hcol : ∀ p ∈ pieces, (rgo p [] [] false).length = col) (hp : pieces.length ≤ 1000) (hcm : col ≤ 1000) (hpl : ∀ p ∈ pieces, p.length ≤ 5000) :
    SLC W A (.ref 136) [.lst (ps.map pairD), .int col] own (fun r o => r = .lst ((down (pieces.map fun p => rgo p [] [] false) col).map pairD) ∧ o = own) := by
  refine' do_callE [Str.ofString "pairs", Str.ofString "column"] [(Str.ofString "pairs", .lst (ps.map pairD))] [(Str.ofString "read", 2, none), (Str.ofString "column", 1, some (.int col))] ?ho ?hcd (by omega) ?hb ?hcl ?ndc ?hkind ?hbind ?h ?c1 ?c2 ?c3
  case ho => exact K_of hK rfl
  case hcd => rw [hK]; rfl
  case hb => intro s vs _ hl; exact BindsTo.of_eq (by match vs, hl with | [_, _], _ => rfl)
  case hcl => intro L; rfl
  case ndc => simp only [List.map_cons, List.map_nil]; decide +kernel
  case hkind => simp only [List.map_cons, List.map_nil]; decide +kernel
  case hbind =>
    intro fz vs L r
    cases r with | cons r1 r => cases r with | cons r2 r => cases r; exact ⟨⟨⟨_, rfl, r1⟩, trivial⟩, rfl, ⟨_, rfl, r2⟩, trivial⟩
  case c1 => rfl
  case c2 => rfl
  case c3 => rfl
  intro L
  simp only [List.map_cons, List.map_nil, List.cons_append, List.nil_append]
  refine deeper_gen hh fun A' hh' hd' hu' => ?_
  repeat walk_at "go"
  refine SE_List (by walk_at "small") ?_
  repeat walk_at "go"
  refine ⟨by walk_at "small", fun D => ?_⟩
  repeat walk_at "go"
  refine ⟨kp_K (by rw [hK]; rfl), do_sheet hK hh' (by omega) fun x dx => ?_⟩
  refine mth_inst (cls5 hK) (by walk_at "mem") (by walk_at "mem") (by rw [hK]; rfl) (by rw [hK]; rfl) (by walk_at "notin") ?_
  repeat walk_at "go"
  refine ⟨kp_K (by rw [hK]; rfl), SLC.call ((c_marked hK hh' (by omega) ps hz hn).mono ?_)⟩
  rintro r o ⟨rfl, rfl⟩
  repeat walk_at "go"
  refine ⟨kp_K (by rw [hK]; rfl), SLC.call ((c_split hK sp hc (pre := [(x, _), (dx, _)]) (fun W A own Q q => tr_int (i := 7) q) hh' (by omega) List.mem_cons_self (List.mem_cons_of_mem _ List.mem_cons_self) (by walk_at "mem") (by walk_at "notin") ?_ ?_).mono ?_)⟩
  · have := mgo_len ps [] [] hz
    simp only [List.length_nil] at this
    omega
  · simp only [List.length_cons, List.length_nil]; omega
  rintro r o ⟨rfl, rfl⟩
  simp only [List.cons_append, List.nil_append]
  rw [show (V.tup [PyData.str (S [119, 104, 97, 116, 32, 105, 116]), PyData.str (S [104, 111, 108, 100, 115])] :: List.map V.dat (rowsD (PyData.int 7) pieces)) = (headD :: (rowsP (.int 7) pieces).map rowD).map V.dat by rw [rowsP_D]; rfl]
  have hlr : (headD :: (rowsP (.int 7) pieces).map rowD).length ≤ 2000 := by simp only [List.length_cons, List.length_map, rowsP_len]; omega
  repeat walk_at "go"
  refine sub_own (by walk_at "mem") (by omega) (by simp) (by rw [List.length_map, sizeLine_eq]; omega) rfl ?_
  repeat walk_at "go"
  refine cmp_neR rfl head_ok (by omega) ?_
  repeat walk_at "go"
  refine SE_CompMap (α := PyData × List Nat) hh' rfl (by decide +kernel) rfl (by decide +kernel) ?_
  refine SE_SliceO ?_
  repeat walk_at "go"
  refine ⟨D, _, _, rfl, by walk_at "mem", AllDat.map _, by rw [sizeLine_eq]; omega, ?_⟩
  rw [cutL_1]
  refine it_list fun it => ⟨it, _, _, rfl, rfl, fun p => V.dat (rowD p), fun _ => true, fun p => p.1, rowsP (.int 7) pieces, by rw [List.map_map]; rfl, by rw [rowsP_len, sizeLine_eq]; omega, ?_, ?_⟩
  · intro C D2 it2 p r ys hp
    repeat walk_at "go"
    refine ⟨rfl, ?_⟩
    rw [if_pos rfl]
    repeat walk_at "go"
    exact ⟨rfl, by walk_at "wk"⟩
  obtain ⟨p0, pr, rfl⟩ : ∃ p0 pr, pieces = p0 :: pr := by cases sp <;> exact ⟨_, _, rfl⟩
  have hcut : ((headD :: (rowsP (.int 7) (p0 :: pr)).map rowD).map V.dat).length = pr.length + 2 := by simp only [List.length_map, List.length_cons, rowsP_len]
  rw [show List.filter (fun _ => true) (rowsP (.int 7) (p0 :: pr)) = rowsP (.int 7) (p0 :: pr) by simp, rowsP_fst]
  simp only [List.length_cons] at hp
  refine SE_BinOp (SE_ListF ?_)
  repeat walk_at "go"
  refine SE_ListF ?_
  repeat walk_at "go"
  refine call_len_own (by walk_at "mem") (by rw [hcut, sizeLine_eq]; omega) ?_
  rw [hcut]
  repeat walk_at "go"
  refine op_mulL (by omega) (by omega) (by simp only [List.length_cons, List.length_nil]; omega) ?_
  rw [show (((pr.length + 2 : Nat) : Int) - 2).toNat = pr.length by omega]
  refine op_addL (by rw [sizeLine_eq]; simp; omega) ?_
  refine cmp_neR rfl ?_ (by omega) ?_
  · refine ok_list (n := 59) ?_
    intro d hd
    simp only [List.singleton_append, List.mem_cons, List.mem_flatten, List.mem_replicate] at hd
    rcases hd with rfl | ⟨l, ⟨_, rfl⟩, hd⟩
    · exact ok_int
    · simp only [List.mem_cons, List.not_mem_nil, or_false] at hd
      subst hd
      exact ok_str (by decide)
  repeat walk_at "go"
  refine SX_Assign (SE_CompMap (α := PyData × List Nat) hh' rfl (by decide +kernel) rfl (by decide +kernel) ?_)
  refine SE_SliceO ?_
  repeat walk_at "go"
  refine ⟨D, _, _, rfl, by walk_at "mem", AllDat.map _, by rw [sizeLine_eq]; omega, ?_⟩
  rw [cutL_1]
  refine it_list fun it => ⟨it, _, _, rfl, rfl, fun p => V.dat (rowD p), fun _ => true, fun p => .list ((rgo p.2 [] [] false).map pairD), rowsP (.int 7) (p0 :: pr), by rw [List.map_map]; rfl, by rw [rowsP_len, sizeLine_eq]; simp only [List.length_cons]; omega, ?_, ?_⟩
  · intro C D2 it2 p r ys hp
    have hp2 : p.2 ∈ p0 :: pr := by
      simp only [rowsP, List.mem_cons, List.mem_map] at hp
      rcases hp with rfl | ⟨q, hq, rfl⟩
      · exact List.mem_cons_self
      · exact List.mem_cons_of_mem _ hq
    repeat walk_at "go"
    refine ⟨rfl, ?_⟩
    rw [if_pos rfl]
    repeat walk_at "go"
    refine ⟨kp_K (by rw [hK]; rfl), SLC.call ((c_read hK hh' (by omega) p.2 (hpl _ hp2)).mono ?_)⟩
    rintro r o ⟨rfl, rfl⟩
    exact ⟨rfl, by walk_at "wk"⟩
  have hread : ((rowsP (.int 7) (p0 :: pr)).filter (fun _ => true)).map (fun p => PyData.list ((rgo p.2 [] [] false).map pairD)) = ((p0 :: pr).map fun p => rgo p [] [] false).map fun row => PyData.list (row.map pairD) := by
    rw [List.filter_eq_self.mpr (fun _ _ => rfl)]
    simp [rowsP]
  rw [hread]
  generalize hrows : (p0 :: pr).map (fun p => rgo p [] [] false) = rows at hcol ⊢
  have hlrows : rows.length = pr.length + 1 := by rw [← hrows]; simp
  have hcol' : ∀ row ∈ rows, row.length = col := by
    rw [← hrows]; intro row hr; obtain ⟨p, hp, rfl⟩ := List.mem_map.mp hr; exact hcol p hp
  repeat walk_at "go"
  refine SE_CompMap (α := PS) hh' rfl (by decide +kernel) rfl (by decide +kernel) ?_
  repeat walk_at "go"
  refine it_list fun it3 => ⟨it3, _, _, rfl, rfl, fun row => .lst (row.map pairD), fun row => decide (((row.map pairD).length : Int) ≠ (col : Int)), fun row => .list (row.map pairD), rows, by rw [List.map_map]; rfl, by rw [sizeLine_eq]; omega, ?_, ?_⟩
  · intro C D2 it2 row r ys hr
    have hrl := hcol' row hr
    repeat walk_at "go"
    refine ⟨rfl, ?_⟩
    rw [if_neg (by simp [hrl])]
    walk_at "wk"
  rw [show rows.filter (fun row => decide (((row.map pairD).length : Int) ≠ (col : Int))) = [] by
    rw [List.filter_eq_nil_iff]; intro row hr; simp [hcol' row hr]]
  refine SE_ListF ?_
  repeat walk_at "go"
  refine cmp_neR rfl (ok_list (n := 59) (by simp)) (by omega) ?_
  repeat walk_at "go"
  refine SE_Comp2Map (α := Nat) (β := PS) hh' rfl (by decide +kernel) rfl (by decide +kernel) ?_
  repeat walk_at "go"
  refine it_range (range_small col (by omega)) (range_size col) fun it4 => ⟨it4, _, _, rfl, rfl, fun k : Nat => V.int (0 + (k : Int) * 1), fun _ => rows, fun row => .lst (row.map pairD), fun k row => pairD (row.getD k ([], [])), List.range col, rfl, ?_, ?_, ?_⟩
  · rw [sizeLine_eq, List.length_flatMap]
    simp only [List.length_map, List.map_const', sum_rep, List.length_range, hlrows]
    have : col * (pr.length + 1) ≤ 1000 * 1000 := Nat.mul_le_mul hcm hp
    omega
  · intro C D2 it2 k r hk
    have hk' : k < col := by simpa using hk
    refine ⟨[(Str.ofString "k", V.int (0 + (k : Int) * 1))], fun acc => ?_⟩
    repeat walk_at "go"
    refine it_list fun it5 => ?_
    rw [List.map_map]
    refine ⟨it5, _, rfl, rfl, by walk_at "wk", ?_⟩
    intro row r' acc' hr
    have hrl := hcol' row hr
    repeat walk_at "go"
    refine sub_lst (by simp only [List.length_map]; omega) (by simp only [List.length_map]; omega) (by rw [sizeLine_eq, List.length_map]; omega) (d := pairD (row.getD k ([], []))) ?_ ?_
    · unfold place
      rw [if_neg (by omega), show (0 + (k : Int) * 1).toNat = k by omega, List.getElem?_map, List.getD_eq_getElem?_getD]
      rw [List.getElem?_eq_getElem (by omega)]
      rfl
    · exact ⟨rfl, by walk_at "wk"⟩
  · refine ⟨own, by walk_at "wk", ?_, rfl⟩
    rw [down, List.map_flatMap]
    simp only [List.map_map]
    rfl
end
section
variable {W : Wd} {A : Around} {env : Env} {own : Own}
/-! ### the plain law: texts with marks -/
def opn (m : List Nat) : List Nat := if m = [] then [] else [0] ++ m
def cls (m : List Nat) : List Nat := if m = [] then [] else [1]
/-- what is still to be written, under a mark that stands open -/
def MM : PS → List Nat → List Nat
  | [], held => cls held
  | (c, m) :: r, held => if m ≠ held then cls held ++ (opn m ++ (c ++ MM r m)) else c ++ MM r held
theorem mgo_eq : ∀ (ps : PS) (text held : List Nat), mgo ps text held = text ++ MM ps held
  | [], text, held => by unfold mgo MM cls; split <;> simp
  | (c, m) :: r, text, held => by
    unfold mgo MM
    split
    · rw [mgo_eq r]; unfold cls opn; simp only [List.append_assoc]
    · rw [mgo_eq r]; simp only [List.append_assoc]
/-- the first k signs with their marks -/
def CC : PS → List Nat → Nat → List Nat
  | _, _, 0 => []
  | [], _, _ + 1 => []
  | (c, m) :: r, held, k + 1 => (if m ≠ held then cls held ++ opn m else []) ++ (c ++ CC r m k)
def HA : PS → List Nat → Nat → List Nat
  | _, held, 0 => held
  | [], held, _ + 1 => held
  | (_, m) :: r, _, k + 1 => HA r m k
/-- signs and marks are as the law makes them -/
def Good (ps : PS) : Prop := ∀ p ∈ ps, (∃ c, p.1 = [c] ∧ c ≠ 0 ∧ c ≠ 1 ∧ c < 1114112) ∧ (p.2 = [] ∨ ∃ m, p.2 = [m] ∧ m ≠ 0 ∧ m ≠ 1 ∧ m < 1114112)
def GM1 (m : List Nat) : Prop := m = [] ∨ ∃ k, m = [k] ∧ k ≠ 0 ∧ k ≠ 1 ∧ k < 1114112
theorem Good.tail {p : List Nat × List Nat} {ps : PS} (h : Good (p :: ps)) : Good ps := fun q hq => h q (List.mem_cons_of_mem _ hq)
theorem Good.head {p : List Nat × List Nat} {ps : PS} (h : Good (p :: ps)) : (∃ c, p.1 = [c] ∧ c ≠ 0 ∧ c ≠ 1 ∧ c < 1114112) ∧ GM1 p.2 := h p List.mem_cons_self
theorem Good.drop {ps : PS} (h : Good ps) (k : Nat) : Good (ps.drop k) := fun q hq => h q (List.mem_of_mem_drop hq)
theorem HA_good : ∀ (ps : PS) (held : List Nat) (k : Nat), Good ps → GM1 held → GM1 (HA ps held k)
  | _, _, 0, _, h => by unfold HA; exact h
  | [], _, _ + 1, _, h => by unfold HA; exact h
  | p :: r, _, k + 1, g, _ => by obtain ⟨c, m⟩ := p; unfold HA; exact HA_good r m k g.tail g.head.2
theorem MM_split : ∀ (ps : PS) (held : List Nat) (k : Nat), k ≤ ps.length → MM ps held = CC ps held k ++ MM (ps.drop k) (HA ps held k)
  | ps, held, 0, _ => by unfold CC HA; simp
  | [], held, k + 1, h => by simp at h
  | (c, m) :: r, held, k + 1, h => by
    have ih := MM_split r m k (by simpa using h)
    rw [MM, CC, HA, List.drop_succ_cons]
    split
    · rw [ih]; simp
    · rename_i hm
      have hm' : m = held := by simpa using hm
      subst hm'
      rw [ih]; simp
theorem MM_all (ps : PS) (held : List Nat) : MM ps held = CC ps held ps.length ++ cls (HA ps held ps.length) := by
  rw [MM_split ps held ps.length (Nat.le_refl _), List.drop_length]; rfl

/-! the scan -/
theorem sgo_sign {c : Nat} (h0 : c ≠ 0) (h1 : c ≠ 1) (rest pre mark : List Nat) (k : Nat) : sgo (c :: rest) (k + 1) pre mark = sgo rest k (pre ++ [c]) mark := by
  cases rest with
  | nil => rw [sgo.eq_3, if_neg (by simpa using h0), if_neg (by simpa using h1)]
  | cons m r => rw [sgo.eq_4, if_neg (by simpa using h0), if_neg (by simpa using h1)]
theorem sgo_end (rest pre mark : List Nat) (k : Nat) : sgo (1 :: rest) (k + 1) pre mark = sgo rest (k + 1) (pre ++ [1]) [] := by
  cases rest with
  | nil => rw [sgo.eq_3, if_neg (by decide), if_pos rfl]
  | cons m r => rw [sgo.eq_4, if_neg (by decide), if_pos rfl]
theorem sgo_mark (m : Nat) (rest pre mark : List Nat) (k : Nat) : sgo (0 :: m :: rest) (k + 1) pre mark = sgo rest (k + 1) (pre ++ [0, m]) [m] := by rw [sgo.eq_4, if_pos rfl]
theorem sok_sign {c : Nat} (h0 : c ≠ 0) (h1 : c ≠ 1) (rest : List Nat) (k : Nat) : sok (c :: rest) (k + 1) = sok rest k := by
  cases rest with
  | nil => rw [sok.eq_3]; cases k <;> simp [sok, h0]
  | cons m r => rw [sok.eq_4, if_neg (by simpa using h0), if_neg (by simpa using h1)]
theorem sok_end (rest : List Nat) (k : Nat) : sok (1 :: rest) (k + 1) = sok rest (k + 1) := by
  cases rest with
  | nil => rfl
  | cons m r => rw [sok.eq_4, if_neg (by decide), if_pos rfl]
theorem sok_mark (m : Nat) (rest : List Nat) (k : Nat) : sok (0 :: m :: rest) (k + 1) = sok rest (k + 1) := by rw [sok.eq_4, if_pos rfl]
theorem scan : ∀ (k : Nat) (ps : PS) (held pre : List Nat), k ≤ ps.length → Good ps → GM1 held →
    sgo (MM ps held) k pre held = (pre ++ CC ps held k, MM (ps.drop k) (HA ps held k), HA ps held k) ∧ sok (MM ps held) k = true
  | 0, ps, held, pre, _, _, _ => by
    refine ⟨?_, by cases MM ps held with | nil => rfl | cons a r => cases r <;> rfl⟩
    rw [sgo_zero]; simp [CC, HA]
  | k + 1, [], _, _, h, _, _ => by simp at h
  | k + 1, (c, m) :: r, held, pre, h, g, gh => by
    obtain ⟨⟨c, hc, c0, c1, -⟩, hm⟩ := g.head
    dsimp only at hc hm
    subst hc
    have ih := fun pre => scan k r m pre (by simpa using h) g.tail hm
    rw [MM, CC, HA, List.drop_succ_cons]
    by_cases e : m = held
    · subst e
      rw [if_neg (by simp), if_neg (by simp)]
      simp only [List.singleton_append, List.nil_append]
      rw [sgo_sign c0 c1, sok_sign c0 c1, (ih _).1]
      exact ⟨by simp, (ih pre).2⟩
    · rw [if_pos e, if_pos e]
      have step : ∀ pre mark, sgo (opn m ++ ([c] ++ MM r m)) (k + 1) pre mark = (pre ++ (opn m ++ ([c] ++ CC r m k)), MM (r.drop k) (HA r m k), HA r m k) ∨ (m = [] ∧ mark ≠ []) := by
        intro pre mark
        rcases hm with rfl | ⟨x, rfl, x0, x1, -⟩
        · by_cases hmk : mark = []
          · subst hmk
            left
            simp only [opn, if_pos, List.nil_append, List.singleton_append]
            rw [sgo_sign c0 c1, (ih _).1]; simp
          · exact .inr ⟨rfl, hmk⟩
        · left
          simp only [opn, List.cons_ne_nil, if_false, List.singleton_append, List.cons_append, List.nil_append]
          rw [sgo_mark, sgo_sign c0 c1, (ih _).1]; simp
      have sstep : sok (opn m ++ ([c] ++ MM r m)) (k + 1) = true := by
        rcases hm with rfl | ⟨x, rfl, x0, x1, -⟩
        · simp only [opn, if_pos, List.nil_append, List.singleton_append]
          rw [sok_sign c0 c1]; exact (ih pre).2
        · simp only [opn, List.cons_ne_nil, if_false, List.singleton_append, List.cons_append, List.nil_append]
          rw [sok_mark, sok_sign c0 c1]; exact (ih pre).2
      rcases gh with rfl | ⟨x, rfl, x0, x1, -⟩
      · simp only [cls, if_pos, List.nil_append]
        refine ⟨?_, sstep⟩
        rcases step pre [] with s | ⟨_, s⟩
        · rw [s]; first | done | simp [List.append_assoc]
        · exact absurd rfl s
      · simp only [cls, List.cons_ne_nil, if_false, List.singleton_append]
        rw [List.cons_append, sgo_end, sok_end]
        refine ⟨?_, sstep⟩
        rcases step (pre ++ [1]) [] with s | ⟨_, s⟩
        · simp only [List.singleton_append] at s
          rw [s]; simp
        · exact absurd rfl s


/-! reading -/
theorem rgo_open (m : List Nat) (gm : GM1 m) (rest : List Nat) (acc : PS) : rgo (opn m ++ rest) acc [] false = rgo rest acc m false := by
  rcases gm with rfl | ⟨x, rfl, x0, x1, -⟩
  · rfl
  · simp only [opn, List.cons_ne_nil, if_false, List.singleton_append, List.cons_append, List.nil_append]
    rw [rgo, if_neg (by decide), if_pos rfl, if_neg (by simp), rgo, if_pos rfl]
theorem rgo_close (m : List Nat) (gm : GM1 m) (rest : List Nat) (acc : PS) : rgo (cls m ++ rest) acc m false = rgo rest acc [] false := by
  rcases gm with rfl | ⟨x, rfl, x0, x1, -⟩
  · rfl
  · simp only [cls, List.cons_ne_nil, if_false, List.singleton_append]
    rw [rgo, if_neg (by decide), if_neg (by decide), if_pos rfl, if_neg (by simp)]
theorem rgo_sign {c : Nat} (h0 : c ≠ 0) (h1 : c ≠ 1) (rest : List Nat) (acc : PS) (held : List Nat) : rgo (c :: rest) acc held false = rgo rest (acc ++ [([c], held)]) held false := by
  rw [rgo, if_neg (by decide), if_neg (by simpa using h0), if_neg (by simpa using h1)]
theorem rgo_CC : ∀ (k : Nat) (ps : PS) (held rest : List Nat) (acc : PS), k ≤ ps.length → Good ps → GM1 held → rgo (CC ps held k ++ rest) acc held false = rgo rest (acc ++ ps.take k) (HA ps held k) false
  | 0, ps, held, rest, acc, _, _, _ => by simp [CC, HA]
  | k + 1, [], _, _, _, h, _, _ => by simp at h
  | k + 1, (c, m) :: r, held, rest, acc, h, g, gh => by
    obtain ⟨⟨c, hc, c0, c1, -⟩, hm⟩ := g.head
    dsimp only at hc hm
    subst hc
    have ih := fun acc => rgo_CC k r m rest acc (by simpa using h) g.tail hm
    rw [CC, HA]
    by_cases e : m = held
    · subst e
      rw [if_neg (by simp)]
      simp only [List.nil_append, List.singleton_append, List.cons_append]
      rw [rgo_sign c0 c1, ih]; simp
    · rw [if_pos e]
      simp only [List.append_assoc, List.singleton_append]
      rw [rgo_close _ gh, rgo_open _ hm, List.cons_append, rgo_sign c0 c1, ih]; simp
theorem read_piece (k : Nat) (ps : PS) (held : List Nat) (h : k ≤ ps.length) (g : Good ps) (gh : GM1 held) : rgo (opn held ++ CC ps held k ++ cls (HA ps held k)) [] [] false = ps.take k := by
  rw [List.append_assoc, rgo_open _ gh, rgo_CC k ps held _ [] h g gh]
  have := rgo_close (HA ps held k) (HA_good ps held k g gh) [] ([] ++ ps.take k)
  rw [List.append_nil] at this
  rw [this]; simp [rgo]

/-! its length -/
theorem count_opn (m : List Nat) (gm : GM1 m) : ((opn m).length : Int) + (cls m).length = 3 * ((opn m).count 0 : Int) ∧ (cls m).count 0 = 0 := by
  rcases gm with rfl | ⟨x, rfl, x0, x1, -⟩
  · simp [opn, cls]
  · simp [opn, cls, x0]
theorem len_MM : ∀ (ps : PS) (held : List Nat), Good ps → GM1 held → ((MM ps held).length : Int) = ps.length + 3 * ((MM ps held).count 0 : Int) + (cls held).length
  | [], held, _, gh => by rw [MM, (count_opn held gh).2]; simp
  | (c, m) :: r, held, g, gh => by
    obtain ⟨⟨c, hc, c0, c1, -⟩, hm⟩ := g.head
    dsimp only at hc hm
    subst hc
    have ih := len_MM r m g.tail hm
    have k1 := count_opn m hm
    have k2 := count_opn held gh
    have hc0 : List.count 0 [c] = 0 := by simp [c0]
    rw [MM]
    by_cases e : m = held
    · subst e
      rw [if_neg (by simp)]
      simp only [List.length_append, List.count_append, List.length_cons, List.length_nil, hc0]
      push_cast
      omega
    · rw [if_pos e]
      simp only [List.length_append, List.count_append, List.length_cons, List.length_nil, hc0, k2.2]
      push_cast
      omega
theorem fits_iff (col : Nat) (ps : PS) (held : List Nat) (g : Good ps) (gh : GM1 held) : fits col (opn held ++ MM ps held) ↔ ps.length ≤ col := by
  have h := len_MM ps held g gh
  have k := count_opn held gh
  unfold fits
  simp only [List.length_append, List.count_append]
  push_cast
  omega

theorem oc_len (m : List Nat) (gm : GM1 m) : (opn m).length ≤ 2 ∧ (cls m).length ≤ 1 := by
  rcases gm with rfl | ⟨x, rfl, -⟩ <;> simp [opn, cls]
theorem CC_len : ∀ (k : Nat) (ps : PS) (held : List Nat), Good ps → GM1 held → (CC ps held k).length ≤ 4 * k
  | 0, _, _, _, _ => by simp [CC]
  | k + 1, [], _, _, _ => by simp [CC]
  | k + 1, (c, m) :: r, held, g, gh => by
    obtain ⟨⟨c, hc, -⟩, hm⟩ := g.head
    dsimp only at hc hm
    subst hc
    have ih := CC_len k r m g.tail hm
    have k1 := oc_len m hm
    have k2 := oc_len held gh
    rw [CC]
    split <;> simp only [List.length_append, List.length_cons, List.length_nil] <;> omega
/-! pieces -/
def chunks (col : Nat) : Nat → PS → List PS
  | 0, _ => []
  | h + 1, ps => ps.take col :: chunks col h (ps.drop col)
theorem pieces_are (col : Nat) (hc : 0 < col) : ∀ (h : Nat) (ps : PS) (held : List Nat), ps.length = col * (h + 1) → Good ps → GM1 held →
    ∃ pieces, Splits col (opn held ++ MM ps held) pieces ∧ pieces.length = h + 1 ∧ pieces.map (fun p => rgo p [] [] false) = chunks col (h + 1) ps ∧ ∀ p ∈ pieces, p.length ≤ 4 * col + 4
  | 0, ps, held, hl, g, gh => by
    refine ⟨[opn held ++ MM ps held], .last ((fits_iff col ps held g gh).mpr (by omega)), rfl, ?_, ?_⟩
    · have := read_piece ps.length ps held (Nat.le_refl _) g gh
      rw [List.append_assoc, ← MM_all, List.take_length] at this
      simp only [List.map_cons, List.map_nil, chunks, this]
      rw [List.take_of_length_le (by omega)]
    · intro p hp
      simp only [List.mem_cons, List.not_mem_nil, or_false] at hp
      subst hp
      have k1 := oc_len held gh
      have k2 := oc_len _ (HA_good ps held ps.length g gh)
      have k3 := CC_len ps.length ps held g gh
      rw [MM_all]
      simp only [List.length_append]
      omega
  | h + 1, ps, held, hl, g, gh => by
    have hk : col ≤ ps.length := by rw [hl]; exact Nat.le_mul_of_pos_right _ (by omega)
    have g' := g.drop col
    have gh' := HA_good ps held col g gh
    obtain ⟨pieces, sp, len, rd, bd⟩ := pieces_are col hc h (ps.drop col) (HA ps held col) (by rw [List.length_drop, hl, Nat.mul_succ col (h + 1)]; omega) g' gh'
    have hs : sgo (opn held ++ MM ps held) col [] [] = (opn held ++ CC ps held col, MM (ps.drop col) (HA ps held col), HA ps held col) ∧ sok (opn held ++ MM ps held) col = true := by
      have sc := fun pre => scan col ps held pre hk g gh
      obtain ⟨n, rfl⟩ : ∃ n, col = n + 1 := ⟨col - 1, by omega⟩
      rcases gh with rfl | ⟨x, rfl, x0, x1, -⟩
      · exact ⟨(sc []).1, (sc []).2⟩
      · simp only [opn, List.cons_ne_nil, if_false, List.singleton_append, List.cons_append, List.nil_append]
        rw [sgo_mark, sok_mark, (sc _).1]
        exact ⟨rfl, (sc []).2⟩
    refine ⟨line1 (sgo (opn held ++ MM ps held) col [] []) :: pieces, .cut (fun hf => ?_) hs.2 ?_, by simp [len], ?_, ?_⟩
    · have := (fits_iff col ps held g gh).mp hf
      rw [hl, Nat.mul_succ] at this
      have : 0 < col * (h + 1) := Nat.mul_pos hc (by omega)
      omega
    · rw [hs.1, line2]
      have : (if HA ps held col = [] then MM (ps.drop col) (HA ps held col) else [0] ++ HA ps held col ++ MM (ps.drop col) (HA ps held col)) = opn (HA ps held col) ++ MM (ps.drop col) (HA ps held col) := by
        unfold opn; split <;> simp
      dsimp only
      rw [this]; exact sp
    · rw [List.map_cons, rd, hs.1, line1]
      have : (if HA ps held col = [] then opn held ++ CC ps held col else opn held ++ CC ps held col ++ [1]) = opn held ++ CC ps held col ++ cls (HA ps held col) := by
        unfold cls; split <;> simp
      dsimp only
      rw [this, read_piece col ps held hk g gh]; rfl
    · intro p hp
      rcases List.mem_cons.mp hp with rfl | hp
      · have k1 := oc_len held gh
        have k3 := CC_len col ps held g gh
        rw [hs.1, line1]
        split <;> simp only [List.length_append, List.length_cons, List.length_nil] <;> omega
      · exact bd p hp

/-! rows and columns -/
abbrev dfl : List Nat × List Nat := ([], [])
theorem fm_len {α : Type} (a b : Nat) (f : Nat → Nat → α) : ((List.range a).flatMap fun k => (List.range b).map (f k)).length = a * b := by
  induction a with
  | zero => simp
  | succ a ih => rw [List.range_succ, List.flatMap_append, List.length_append, ih]; simp [Nat.succ_mul]
theorem fm_get {α : Type} (a b : Nat) (f : Nat → Nat → α) (k j : Nat) (hk : k < a) (hj : j < b) : ((List.range a).flatMap fun k => (List.range b).map (f k))[k * b + j]? = some (f k j) := by
  induction a with
  | zero => omega
  | succ a ih =>
    rw [List.range_succ, List.flatMap_append]
    have hl := fm_len a b f
    by_cases h : k < a
    · have : k * b + j < a * b := by
        have : (k + 1) * b ≤ a * b := Nat.mul_le_mul_right b (by omega)
        rw [Nat.succ_mul] at this; omega
      rw [List.getElem?_append_left (by omega)]
      exact ih h
    · have : k = a := by omega
      subst this
      rw [List.getElem?_append_right (by omega), hl, Nat.add_sub_cancel_left]
      simp [List.getElem?_range hj]
theorem fm_eq {α : Type} (a b : Nat) (f : Nat → Nat → α) (l : List α) (hl : l.length = a * b) (h : ∀ k j, k < a → j < b → l[k * b + j]? = some (f k j)) : ((List.range a).flatMap fun k => (List.range b).map (f k)) = l := by
  apply List.ext_getElem?
  intro i
  by_cases hi : i < a * b
  · have hb : 0 < b := by rcases Nat.eq_zero_or_pos b with rfl | h; simp at hi; exact h
    have h1 : i / b < a := Nat.div_lt_of_lt_mul (by rw [Nat.mul_comm]; exact hi)
    have h2 : i % b < b := Nat.mod_lt _ hb
    have e : i / b * b + i % b = i := by rw [Nat.mul_comm]; exact Nat.div_add_mod i b
    have x1 := fm_get a b f _ _ h1 h2
    have x2 := h _ _ h1 h2
    rw [e] at x1 x2
    rw [x1, x2]
  · rw [List.getElem?_eq_none (by rw [fm_len]; omega), List.getElem?_eq_none (by omega)]
def tr (ps : PS) (a b : Nat) : PS := (List.range a).flatMap fun k => (List.range b).map fun j => ps.getD (k + j * a) dfl
theorem tr_len (ps : PS) (a b : Nat) : (tr ps a b).length = a * b := fm_len a b _
theorem tr_tr (ps : PS) (a b : Nat) (hl : ps.length = a * b) : tr (tr ps a b) b a = ps := by
  refine fm_eq b a _ ps (by rw [hl, Nat.mul_comm]) fun k j hk hj => ?_
  have x := fm_get a b (fun k j => ps.getD (k + j * a) dfl) j k hj hk
  rw [List.getD_eq_getElem?_getD, Nat.add_comm k]
  unfold tr
  rw [x]
  simp only [Option.getD_some]
  have hlt : k * a + j < ps.length := by
    have : (k + 1) * a ≤ b * a := Nat.mul_le_mul_right a (by omega)
    rw [Nat.succ_mul] at this
    rw [hl, Nat.mul_comm a b]; omega
  rw [Nat.add_comm j, List.getD_eq_getElem?_getD, List.getElem?_eq_getElem hlt]; rfl
theorem chunks_len (col : Nat) : ∀ (h : Nat) (ps : PS), (chunks col h ps).length = h
  | 0, _ => rfl
  | h + 1, ps => by simp [chunks, chunks_len col h]
theorem chunks_get (col : Nat) : ∀ (h : Nat) (ps : PS) (j k : Nat), j < h → k < col → ∀ row, (chunks col h ps)[j]? = some row → row.getD k dfl = ps.getD (k + j * col) dfl
  | 0, _, _, _, hj, _, _, _ => by omega
  | h + 1, ps, 0, k, _, hk, row, e => by
    simp only [chunks, List.getElem?_cons_zero, Option.some.injEq] at e
    subst e
    simp [List.getD_eq_getElem?_getD, List.getElem?_take, hk]
  | h + 1, ps, j + 1, k, hj, hk, row, e => by
    simp only [chunks, List.getElem?_cons_succ] at e
    rw [chunks_get col h (ps.drop col) j k (by omega) hk row e]
    simp only [List.getD_eq_getElem?_getD, List.getElem?_drop]
    congr 2
    rw [Nat.succ_mul]; omega
theorem down_chunks (col h : Nat) (ps : PS) : down (chunks col h ps) col = tr ps col h := by
  unfold down tr
  have key : ∀ k ∈ List.range col, (chunks col h ps).map (fun row => row.getD k ([], [])) = (List.range h).map fun j => ps.getD (k + j * col) dfl := by
    intro k hk
    have hk' : k < col := by simpa using hk
    apply List.ext_getElem?
    intro j
    rw [List.getElem?_map, List.getElem?_map]
    by_cases hj : j < h
    · have hj' : j < (chunks col h ps).length := by rw [chunks_len]; exact hj
      rw [List.getElem?_eq_getElem hj', List.getElem?_range hj]
      simp only [Option.map_some]
      rw [chunks_get col h ps j k hj hk' _ (List.getElem?_eq_getElem hj')]
    · rw [List.getElem?_eq_none (by rw [chunks_len]; omega), List.getElem?_eq_none (by simp; omega)]
      rfl
  rw [List.flatMap_def, List.flatMap_def, List.map_congr_left key]
theorem tr_good (ps : PS) (a b : Nat) (hl : ps.length = a * b) (g : Good ps) : Good (tr ps a b) := by
  intro p hp
  unfold tr at hp
  rw [List.mem_flatMap] at hp
  obtain ⟨k, hk, hp⟩ := hp
  obtain ⟨j, hj, rfl⟩ := List.mem_map.mp hp
  have hk' : k < a := by simpa using hk
  have hj' : j < b := by simpa using hj
  have hlt : k + j * a < ps.length := by
    have : (j + 1) * a ≤ b * a := Nat.mul_le_mul_right a (by omega)
    rw [Nat.succ_mul] at this
    rw [hl, Nat.mul_comm a b]; omega
  rw [List.getD_eq_getElem?_getD, List.getElem?_eq_getElem hlt]
  exact g _ (List.getElem_mem hlt)
end
section
variable {W : Wd} {A : Around} {env : Env} {own : Own}
local macro_rules | `(tactic| walk_at "lit") => `(tactic| first | exact lit_e | exact lit_0 | exact lit_1)
local macro_rules | `(tactic| walk_at "size") => `(tactic| (rw [sizeLine_eq]; (try simp only [List.length_append, List.length_cons, List.length_nil, List.length_map]); omega))
theorem lit_pl : lit (Str.ofString "+") = [43] := by decide +kernel
theorem lit_mi : lit (Str.ofString "-") = [45] := by decide +kernel
theorem lit_ca : lit (Str.ofString "^") = [94] := by decide +kernel
theorem lit_sp : lit (Str.ofString " ") = [32] := by decide +kernel
local macro_rules | `(tactic| walk_at "lit") => `(tactic| first | exact lit_pl | exact lit_mi | exact lit_ca | exact lit_sp)
theorem chunks_row (col : Nat) : ∀ (h : Nat) (ps : PS), ps.length = col * h → ∀ row ∈ chunks col h ps, row.length = col
  | 0, _, _, _, hr => by simp [chunks] at hr
  | h + 1, ps, hl, row, hr => by
    rw [Nat.mul_succ] at hl
    simp only [chunks, List.mem_cons] at hr
    rcases hr with rfl | hr
    · rw [List.length_take]; omega
    · exact chunks_row col h (ps.drop col) (by rw [List.length_drop]; omega) row hr
theorem c_law (hK : K5 W) (hh : A.handled = none) (hd : A.depth < 320) (hu : A.units < 100) (ns : List Int) (hn : ns.length ≤ 63) :
    SLC W A (.ref 141) [.lst (ns.map .int)] own (fun r o => r = .bool true) := by
  refine' do_callE [Str.ofString "script"] [(Str.ofString "script", .lst (ns.map .int))] [(Str.ofString "height", 3, none), (Str.ofString "pairs", 2, none), (Str.ofString "column", 1, none)] ?ho ?hcd (by have : recursionLimit = 1000 := rfl; omega) ?hb ?hcl ?ndc ?hkind ?hbind ?h ?c1 ?c2 ?c3
  case ho => exact K_of hK rfl
  case hcd => rw [hK]; rfl
  case hb => intro s vs _ hl; exact BindsTo.of_eq (by match vs, hl with | [_], _ => rfl)
  case hcl => intro L; rfl
  case ndc => simp only [List.map_cons, List.map_nil]; decide +kernel
  case hkind => simp only [List.map_cons, List.map_nil]; decide +kernel
  case hbind =>
    intro fz vs L r
    cases r with | cons r1 r => cases r; exact ⟨⟨⟨_, rfl, r1⟩, trivial⟩, rfl, rfl, rfl, trivial⟩
  case c1 => rfl
  case c2 => rfl
  case c3 => rfl
  intro L
  simp only [List.map_cons, List.map_nil, List.cons_append, List.nil_append]
  refine deeper_gen hh fun A' hh' hd' hu' => ?_
  have hrec : recursionLimit = 1000 := rfl
  have hcl : cLine = 9900 := rfl
  repeat walk_at "go"
  refine SE_ListF ?_
  repeat walk_at "go"
  refine op_addL (by rw [sizeLine_eq]; simp; omega) ?_
  repeat walk_at "go"
  obtain ⟨n0, h0⟩ : ∃ n0, (ns.map PyData.int ++ [PyData.int 1])[place 0 (ns.map PyData.int ++ [PyData.int 1]).length]? = some (.int n0) := by cases ns <;> exact ⟨_, rfl⟩
  refine sub_lst (by omega) (by simp only [List.length_append, List.length_map, List.length_cons, List.length_nil]; omega) (by rw [sizeLine_eq]; simp only [List.length_append, List.length_map, List.length_cons, List.length_nil]; omega) h0 ?_
  repeat walk_at "go"
  refine op_mod (by decide) ?_
  repeat walk_at "go"
  obtain ⟨col, hcol⟩ : ∃ col : Nat, 2 + n0 % 5 = (col : Int) := ⟨(2 + n0 % 5).toNat, by omega⟩
  rw [hcol]
  have hc2 : 2 ≤ col ∧ col ≤ 6 := by omega
  repeat walk_at "go"
  refine SE_List (by walk_at "small") ?_
  repeat walk_at "go"
  refine ⟨by walk_at "small", fun D => ?_⟩
  repeat walk_at "go"
  refine SX_For hh' (SE_BinOp (SE_SliceL ?_))
  repeat walk_at "go"
  refine ⟨by rw [sizeLine_eq, List.length_map]; omega, ?_⟩
  refine SE_ListF ?_
  repeat walk_at "go"
  have hcl1 : (cutL (ns.map PyData.int) (some 1) none).length ≤ 63 := Nat.le_trans (cutL_len _ _ _) (by simpa using hn)
  refine op_addL (by rw [sizeLine_eq]; simp only [List.length_cons, List.length_nil]; omega) ?_
  rw [show cutL (ns.map PyData.int) (some 1) none ++ [PyData.int 3, PyData.int 1, PyData.int 1, PyData.int 6, PyData.int 0, PyData.int 9, PyData.int 2, PyData.int 2] = (cutL ns (some 1) none ++ [3, 1, 1, 6, 0, 9, 2, 2]).map PyData.int by rw [List.map_append, cutL_map]; rfl]
  rw [← cutL_map, List.length_map] at hcl1
  generalize hzs : cutL ns (some 1) none ++ [3, 1, 1, 6, 0, 9, 2, 2] = zs
  have hzl : 8 ≤ zs.length ∧ zs.length ≤ 71 := by rw [← hzs]; simp only [List.length_append, List.length_cons, List.length_nil]; omega
  refine it_list fun it => ⟨it, _, _, rfl, rfl, fun l o => ∃ (post : List Int) (acc : PS) (mark : List Nat), l = (post.map PyData.int).map V.dat ∧
    o = (D, Ob.list ((acc.map pairD).map V.dat)) :: (L, Ob.ns [(Str.ofString "script", .lst (ns.map .int)), (Str.ofString "mark", .str (S mark))]) :: (L + 3, .cell none) :: (L + 2, .cell (some (.ref D))) :: (L + 1, .cell (some (.int col))) :: own ∧
    Good acc ∧ GM1 mark ∧ acc.length + post.length = zs.length, ?_, ?_, ?_⟩
  · exact ⟨zs, [], [], rfl, rfl, fun p hp => (nomatch hp), .inl rfl, by simp⟩
  · rintro x r o ⟨post, acc, mark, hl, rfl, ga, gm, hlen⟩
    cases post with
    | nil => cases hl
    | cons n post =>
      injection hl with e1 e2
      subst e1 e2
      simp only [List.length_cons] at hlen
      have hlen2 : ((acc.map pairD).map V.dat).length ≤ 100 := by simp only [List.length_map]; omega
      have hch : ∀ mk : List Nat, GM1 mk → Good (acc ++ [([(97 + ((acc.map pairD).map V.dat).length % 26 : Int).toNat], mk)]) := by
        intro mk hmk p hp
        rcases List.mem_append.mp hp with hp | hp
        · exact ga p hp
        · simp only [List.mem_cons, List.not_mem_nil, or_false] at hp
          subst hp
          exact ⟨⟨_, rfl, by omega, by omega, by omega⟩, hmk⟩
      repeat walk_at "go"
      refine op_mod (by decide) ?_
      repeat walk_at "go"
      refine ite_dec (fun h1 => ?_) (fun h1 => ?_)
      · repeat walk_at "go"
        refine SE_ListF ?_
        repeat walk_at "go"
        refine op_div (by decide) (by decide) ?_
        repeat walk_at "go"
        refine op_mod (by decide) ?_
        obtain ⟨mk, hmk, hx⟩ : ∃ mk, GM1 mk ∧ [PyData.str (S []), PyData.str (S [43]), PyData.str (S [45]), PyData.str (S [94])][place (n / 3 % 4) 4]? = some (.str (S mk)) := by
          rcases (by omega : n / 3 % 4 = 0 ∨ n / 3 % 4 = 1 ∨ n / 3 % 4 = 2 ∨ n / 3 % 4 = 3) with h | h | h | h <;> rw [h]
          · exact ⟨[], .inl rfl, rfl⟩
          · exact ⟨[43], .inr ⟨_, rfl, by decide, by decide, by decide⟩, rfl⟩
          · exact ⟨[45], .inr ⟨_, rfl, by decide, by decide, by decide⟩, rfl⟩
          · exact ⟨[94], .inr ⟨_, rfl, by decide, by decide, by decide⟩, rfl⟩
        refine sub_lst (by simp only [List.length_cons, List.length_nil]; omega) (by simp only [List.length_cons, List.length_nil]; omega) (by walk_at "small") hx ?_
        repeat walk_at "go"
        refine op_mod (by decide) ?_
        repeat walk_at "go"
        refine call_chrS (by omega) (by omega) ?_
        repeat walk_at "go"
        rw [show (acc.map pairD).map V.dat ++ [V.tup [.str (S [(97 + (((acc.map pairD).map V.dat).length : Int) % 26).toNat]), .str (S mk)]] = ((acc ++ [([(97 + (((acc.map pairD).map V.dat).length : Int) % 26).toNat], mk)]).map pairD).map V.dat by simp]
        exact ⟨_, by walk_at "wk", post, _, mk, rfl, rfl, hch _ hmk, hmk, by simp only [List.length_append, List.length_cons, List.length_nil]; omega⟩
      · repeat walk_at "go"
        refine op_mod (by decide) ?_
        repeat walk_at "go"
        refine call_chrS (by omega) (by omega) ?_
        repeat walk_at "go"
        rw [show (acc.map pairD).map V.dat ++ [V.tup [.str (S [(97 + (((acc.map pairD).map V.dat).length : Int) % 26).toNat]), .str (S mark)]] = ((acc ++ [([(97 + (((acc.map pairD).map V.dat).length : Int) % 26).toNat], mark)]).map pairD).map V.dat by simp]
        exact ⟨_, by walk_at "wk", post, _, mark, rfl, rfl, hch _ gm, gm, by simp only [List.length_append, List.length_cons, List.length_nil]; omega⟩
  · rintro o ⟨post, acc, mark, hl, rfl, ga, gm, hlen⟩
    cases post with
    | cons p post => cases hl
    | nil =>
      simp only [List.length_nil, Nat.add_zero] at hlen
      repeat walk_at "go"
      refine SG.mono (Q := fun fl o => ∃ (acc : PS) (h : Nat), fl = Fl.next ∧ Good acc ∧ acc.length = col * (h + 1) ∧ acc.length ≤ 90 ∧
        o = (D, Ob.list ((acc.map pairD).map V.dat)) :: (L, Ob.ns [(Str.ofString "script", .lst (ns.map .int)), (Str.ofString "mark", .str (S mark))]) :: (L + 3, .cell none) :: (L + 2, .cell (some (.ref D))) :: (L + 1, .cell (some (.int col))) :: own)
        (SX_While (fun m o => ∃ (acc : PS), Good acc ∧ 8 ≤ acc.length ∧ acc.length + m ≤ 90 ∧ m = (if acc.length % col = 0 then 0 else col - acc.length % col) ∧
        o = (D, Ob.list ((acc.map pairD).map V.dat)) :: (L, Ob.ns [(Str.ofString "script", .lst (ns.map .int)), (Str.ofString "mark", .str (S mark))]) :: (L + 3, .cell none) :: (L + 2, .cell (some (.ref D))) :: (L + 1, .cell (some (.int col))) :: own)
        (if acc.length % col = 0 then 0 else col - acc.length % col) ?_ ?_) ?_
      · exact ⟨acc, ga, by omega, by split <;> omega, rfl, rfl⟩
      · rintro m o ⟨acc, ga, h8, h90, hm, rfl⟩
        have hlen2 : ((acc.map pairD).map V.dat).length = acc.length := by simp only [List.length_map]
        have hmod : ((acc.length : Int) % (col : Int)) = ((acc.length % col : Nat) : Int) := by omega
        repeat walk_at "go"
        rw [hlen2]
        refine op_mod (by omega) ?_
        rw [hmod]
        repeat walk_at "go"
        refine ite_dec (fun h1 => ?_) (fun h1 => ?_)
        · have h1' : acc.length % col ≠ 0 := by omega
          repeat walk_at "go"
          rw [show (acc.map pairD).map V.dat ++ [V.tup [.str (S [32]), .str (S [])]] = ((acc ++ [([32], [])]).map pairD).map V.dat by simp]
          have hnew : (acc ++ [(([32] : List Nat), ([] : List Nat))]).length = acc.length + 1 := by simp
          have hstep : (acc.length + 1) % col = if acc.length % col + 1 = col then 0 else acc.length % col + 1 := by
            have hlt := Nat.mod_lt acc.length (show col > 0 by omega)
            rw [Nat.add_mod, Nat.mod_eq_of_lt (show 1 < col by omega)]
            split
            · rename_i h; rw [h, Nat.mod_self]
            · exact Nat.mod_eq_of_lt (by omega)
          have hlt := Nat.mod_lt acc.length (show col > 0 by omega)
          rw [if_neg h1'] at hm
          refine ⟨_, if (acc.length + 1) % col = 0 then 0 else col - (acc.length + 1) % col, by walk_at "wk", ?_, acc ++ [([32], [])], ?_, by rw [hnew]; omega, ?_, by rw [hnew], rfl⟩
          · rw [hstep]; split <;> split <;> omega
          · intro p hp
            rcases List.mem_append.mp hp with hp | hp
            · exact ga p hp
            · simp only [List.mem_cons, List.not_mem_nil, or_false] at hp
              subst hp
              exact ⟨⟨_, rfl, by decide, by decide, by decide⟩, .inl rfl⟩
          · rw [hnew, hstep]; split <;> split <;> omega
        · have h1' : acc.length % col = 0 := by omega
          repeat walk_at "go"
          have hdm := Nat.div_add_mod acc.length col
          have hpos : 0 < acc.length / col := Nat.div_pos (by omega) (by omega)
          exact ⟨acc, acc.length / col - 1, rfl, ga, by rw [show acc.length / col - 1 + 1 = acc.length / col by omega]; omega, by omega, rfl⟩
      · rintro _ o ⟨acc0, h, rfl, ga, hal, h90, rfl⟩
        show SXs _ _ _ _ _ _
        refine SG_frz (D := D) (by walk_at "take") (AllDat.map _) (by walk_at "frz") ?_
        have hz1 : ∀ p ∈ acc0, p.1.length = 1 ∧ p.2.length ≤ 1 := fun p hp => by
          obtain ⟨⟨c, e, _⟩, e2⟩ := ga p hp
          refine ⟨by rw [e]; rfl, ?_⟩
          rcases e2 with e2 | ⟨m, e2, _⟩ <;> rw [e2] <;> simp
        have hl1 : (acc0.map pairD).length = col * (h + 1) := by rw [List.length_map, hal]
        have hdv : ((col * (h + 1) : Nat) : Int) / (col : Int) = ((h + 1 : Nat) : Int) := by
          rw [Int.natCast_mul]; exact Int.mul_ediv_cancel_left _ (by omega)
        have hh90 : h + 1 ≤ 90 := by
          have : 1 * (h + 1) ≤ col * (h + 1) := Nat.mul_le_mul_right _ (by omega)
          omega
        obtain ⟨pieces, sp, plen, prd, pbd⟩ := pieces_are col (by omega) h acc0 [] hal ga (.inl rfl)
        rw [show opn [] ++ MM acc0 [] = mgo acc0 [] [] by rw [mgo_eq]; rfl] at sp
        have hrl : ∀ p ∈ pieces, (rgo p [] [] false).length = col := fun p hp =>
          chunks_row col (h + 1) acc0 hal _ (prd ▸ List.mem_map.mpr ⟨p, hp, rfl⟩)
        repeat walk_at "go"
        rw [hl1]
        refine op_div (by omega) (by omega) ?_
        rw [hdv]
        repeat walk_at "go"
        refine ⟨kp_K (by rw [hK]; rfl), SLC.call ((c_down hK hh' acc0 col pieces (by omega) (by omega) hz1 (by omega) sp (by omega) hrl (by omega) (by omega) (fun p hp => Nat.le_trans (pbd p hp) (by omega))).mono ?_)⟩
        rintro r o ⟨rfl, rfl⟩
        rw [prd, down_chunks]
        repeat walk_at "go"
        refine SE_Comp2Map (α := Nat) (β := Nat) hh' rfl (by decide +kernel) rfl (by decide +kernel) ?_
        repeat walk_at "go"
        refine it_range (range_small col (by omega)) (range_size col) fun it4 => ⟨it4, _, _, rfl, rfl, fun k : Nat => V.int (0 + (k : Int) * 1), fun _ => List.range (h + 1), fun j : Nat => V.int (0 + (j : Int) * 1), fun k j => pairD (acc0.getD (k + j * col) dfl), List.range col, rfl, ?_, ?_, ?_⟩
        · rw [fm_len, sizeLine_eq]; omega
        · intro C D2 it2 k r hk
          have hk' : k < col := by simpa using hk
          refine ⟨[(Str.ofString "k", V.int (0 + (k : Int) * 1))], fun acc => ?_⟩
          repeat walk_at "go"
          refine it_range (range_small (h + 1) (by omega)) (range_size (h + 1)) fun it5 => ⟨it5, _, rfl, rfl, by walk_at "wk", ?_⟩
          intro j r' acc' hj
          have hj' : j < h + 1 := by simpa using hj
          have hlt : k + j * col < col * (h + 1) := by
            have : (j + 1) * col ≤ (h + 1) * col := Nat.mul_le_mul_right col (by omega)
            rw [Nat.succ_mul] at this
            rw [Nat.mul_comm col]; omega
          repeat walk_at "go"
          refine op_mul (.of_right (bits_small (by omega))) ?_
          repeat walk_at "go"
          have hidx : 0 + (k : Int) * 1 + (0 + (j : Int) * 1) * (col : Int) = ((k + j * col : Nat) : Int) := by push_cast; rw [Int.mul_one, Int.zero_add, Int.mul_one, Int.zero_add]
          rw [hidx]
          refine sub_lst (d := pairD (acc0.getD (k + j * col) dfl)) (by omega) (by rw [hl1]; omega) (by rw [hl1, sizeLine_eq]; omega) ?_ ?_
          · unfold place
            rw [if_neg (by omega), Int.toNat_natCast, List.getElem?_map, List.getD_eq_getElem?_getD]
            rw [List.getElem?_eq_getElem (by omega)]
            rfl
          · exact ⟨rfl, by walk_at "wk"⟩
        have htr : ((List.range col).flatMap fun x => (List.range (h + 1)).map fun j => pairD (acc0.getD (x + j * col) dfl)) = (tr acc0 col (h + 1)).map pairD := by
          rw [tr, List.map_flatMap]
          simp only [List.map_map]
          rfl
        rw [htr]
        have gtr := tr_good acc0 col (h + 1) hal ga
        have okp : ∀ ps : PS, Good ps → Ok 60 (.list (ps.map pairD)) := by
          intro ps gp
          refine ok_list (n := 59) ?_
          intro d hd
          obtain ⟨p, hp, rfl⟩ := List.mem_map.mp hd
          obtain ⟨⟨c, ec, _, _, c3⟩, em⟩ := gp p hp
          refine ok_tuple (n := 58) ?_
          intro d hd
          simp only [List.mem_cons, List.not_mem_nil, or_false] at hd
          rcases hd with rfl | rfl
          · refine ok_str (n := 57) ?_
            intro x hx; rw [ec] at hx; simp at hx; omega
          · refine ok_str (n := 57) ?_
            intro x hx
            rcases em with em | ⟨m, em, _, _, m3⟩ <;> rw [em] at hx <;> simp at hx
            omega
        refine cmp_neR rfl (okp _ gtr) (by omega) ?_
        repeat walk_at "go"
        have hz2 : ∀ p ∈ tr acc0 col (h + 1), p.1.length = 1 ∧ p.2.length ≤ 1 := fun p hp => by
          obtain ⟨⟨c, e, _⟩, e2⟩ := gtr p hp
          refine ⟨by rw [e]; rfl, ?_⟩
          rcases e2 with e2 | ⟨m, e2, _⟩ <;> rw [e2] <;> simp
        have hal2 : (tr acc0 col (h + 1)).length = (h + 1) * (col - 1 + 1) := by rw [tr_len, show col - 1 + 1 = col by omega, Nat.mul_comm]
        have hal3 : (tr acc0 col (h + 1)).length ≤ 90 := by rw [tr_len]; omega
        obtain ⟨pieces2, sp2, plen2, prd2, pbd2⟩ := pieces_are (h + 1) (by omega) (col - 1) (tr acc0 col (h + 1)) [] hal2 gtr (.inl rfl)
        rw [show opn [] ++ MM (tr acc0 col (h + 1)) [] = mgo (tr acc0 col (h + 1)) [] [] by rw [mgo_eq]; rfl] at sp2
        have hrl2 : ∀ p ∈ pieces2, (rgo p [] [] false).length = h + 1 := fun p hp =>
          chunks_row (h + 1) (col - 1 + 1) _ hal2 _ (prd2 ▸ List.mem_map.mpr ⟨p, hp, rfl⟩)
        refine ⟨kp_K (by rw [hK]; rfl), SLC.call ((c_down hK hh' (tr acc0 col (h + 1)) (h + 1) pieces2 (by omega) (by omega) hz2 (by omega) sp2 (by omega) hrl2 (by omega) (by omega) (fun p hp => Nat.le_trans (pbd2 p hp) (by omega))).mono ?_)⟩
        rintro r o ⟨rfl, rfl⟩
        rw [prd2, down_chunks, show col - 1 + 1 = col by omega, tr_tr acc0 col (h + 1) hal]
        repeat walk_at "go"
        refine cmp_eqR rfl (okp _ ga) (by omega) ?_
        exact ⟨[], .nil, rfl⟩
end
section
variable {W : Wd} {A : Around} {env : Env} {own : Own}
abbrev LawK (W : Wd) : Prop := K5 W
theorem law_true {W : Wd} (hK : K5 W) (ns : List Int) (hn : ns.length ≤ 63) : SLC W callerA (.ref 141) [.lst (ns.map .int)] [] (fun r _ => r = .bool true) :=
  c_law hK rfl (by rw [depth_caller]; decide) (by rw [units_caller]; decide) ns hn
end
end Mine
open Mine in
set_option maxHeartbeats 8000000 in
theorem PySem.Challenge.cw_dm0066_05_holds : PySem.Challenge.rw_dm0066_05.Holds := by
  refine Mine.hd05 ?_
  k_fill
  intro w s₀ s₁ mg mb G Y fa o pm cd doc dV kV ho hd hcd hD hmg hg args vals as hpre hlay hrd hwl hlo
  have KX := kIn_of Y
  refine Ground.open G ?_
  intro T B D TE TW
  clear ho hd hcd hD
  wrow_args hpre hlay hrd hwl hlo
  all_goals (
    first | refine callC_kw (enter_call ?_) | refine enter_call ?_ | refine callC_kw (enter_callW ?_) | refine enter_callW ?_ | w_how
    w_top on
    try refine codeAny_mono ?_ (fun _ _ g => GoodW.toG g)
    (rename Reads _ _ (PyData.list (List.map PyData.int _)) _ => r0)
    (rename ¬ ((_ : Int) < _) => hlen)
    refine codeAny_mono (Mine.join_law T KX hmg rfl r0 fun W e1 e2 => Mine.law_true (show W.K = _ by rw [e2, e1]) _ (by omega)) ?_
    rintro r s' ⟨rfl, k, e1, e2⟩
    refine ⟨.inl ⟨_, _, [], rfl, fun cls => ?_, ReadsW.bool true, ?_, fun _ => ⟨List.nodup_nil, fun a ha => (nomatch ha)⟩⟩, k, e1, e2.trans hg⟩
    · rfl
    · exact postW_of rfl (w_eq_bool (w_res rfl) w_lit) rfl)
