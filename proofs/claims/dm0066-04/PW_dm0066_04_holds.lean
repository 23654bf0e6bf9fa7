import PyProof.Rows.All
import Wide.All
import OpenK.AllK
import Wide.FinOn
import PySem.Challenge.RW_dm0066_04
open PySem PySem.W PyProof.Rows
set_option Elab.async false
set_option autoImplicit false
set_option linter.unusedVariables false
set_option linter.unusedSimpArgs false
set_option maxRecDepth 100000
namespace Mine
set_option maxHeartbeats 8000000 in
open_top hd04 for PySem.Challenge.rw_dm0066_04
set_option maxHeartbeats 4000000
section
/-- all of h stands in h' -/
def Keep (h h' : Heap) : Prop := ∀ b o, h.get? b = some o → h'.get? b = some o
theorem Keep.refl (h : Heap) : Keep h h := fun _ _ e => e
theorem Keep.trans {h h₁ h₂ : Heap} (x : Keep h h₁) (y : Keep h₁ h₂) : Keep h h₂ := fun b o e => y b o (x b o e)

/-- a value as the rules see it: plain frozen data, a range, or the value itself -/
inductive V where
  | dat (d : PyData)
  | val (v : Value)
  | rng (a b c : Int)

abbrev V.none : V := .dat .none
abbrev V.bool (b : Bool) : V := .dat (.bool b)
abbrev V.int (i : Int) : V := .dat (.int i)
abbrev V.str (s : Str) : V := .dat (.str s)
abbrev V.lst (l : List PyData) : V := .dat (.list l)
abbrev V.ref (a : Addr) : V := .val (.ref a)

inductive RV (fz : Heap) : V → Value → Prop
  | dat {d : PyData} {v : Value} {as : List Addr} : Reads fz v d as → RV fz (.dat d) v
  | val (v : Value) : RV fz (.val v) v
  | rng {r : Addr} {a b c : Int} {t u v : Tok} : IsRange fz r a b c t u v → RV fz (.rng a b c) (.ref r)

theorem IsRange_keep {h h' : Heap} {r : Addr} {a b c : Int} {t u v : Tok} (x : IsRange h r a b c t u v) (k : Keep h h') : IsRange h' r a b c t u v := by
  exact k _ _ x
theorem RV.mono {fz fz' : Heap} {a : V} {v : Value} (x : RV fz a v) (k : Keep fz fz') : RV fz' a v := by
  cases x with
  | dat r => exact .dat (Reads.keeps k r)
  | val v => exact .val v
  | rng r => exact .rng (IsRange_keep r k)

inductive RVs (fz : Heap) : List V → List Value → Prop
  | nil : RVs fz [] []
  | cons {a : V} {v : Value} {l : List V} {vs : List Value} : RV fz a v → RVs fz l vs → RVs fz (a :: l) (v :: vs)
theorem RVs.mono {fz fz' : Heap} {l : List V} {vs : List Value} (x : RVs fz l vs) (k : Keep fz fz') : RVs fz' l vs := by
  induction x with
  | nil => exact .nil
  | cons h _ ih => exact .cons (h.mono k) ih
theorem RVs.length {fz : Heap} {l : List V} {vs : List Value} (x : RVs fz l vs) : l.length = vs.length := by
  induction x with
  | nil => rfl
  | cons _ _ ih => simp [ih]
theorem RVs.append {fz : Heap} {l l' : List V} {vs vs' : List Value} (x : RVs fz l vs) (y : RVs fz l' vs') : RVs fz (l ++ l') (vs ++ vs') := by
  induction x with
  | nil => exact y
  | cons h _ ih => exact .cons h ih
theorem RVs.get {fz : Heap} {l : List V} {vs : List Value} (x : RVs fz l vs) : ∀ {i : Nat} {a : V}, l[i]? = some a → ∃ v, vs[i]? = some v ∧ RV fz a v := by
  induction x with
  | nil => intro i a e; simp at e
  | cons h _ ih =>
    intro i a e
    cases i with
    | zero => simp at e; subst e; exact ⟨_, rfl, h⟩
    | succ i => simp at e; simpa using ih e
theorem RVs.of_reads {fz : Heap} {vs : List Value} {ds : List PyData} {as : List Addr} (x : ReadsAll fz vs ds as) : RVs fz (ds.map V.dat) vs := by
  induction ds generalizing vs as with
  | nil => cases x; exact .nil
  | cons d ds ih => cases x with | cons h t => exact .cons (.dat h) (ih t)
theorem RVs.reads {fz : Heap} : ∀ {ds : List PyData} {vs : List Value}, RVs fz (ds.map V.dat) vs → ∃ as, ReadsAll fz vs ds as
  | [], _, x => by cases x; exact ⟨_, .nil⟩
  | d :: ds, _, x => by
    cases x with
    | cons h t =>
      cases h with
      | dat r => obtain ⟨as, ht⟩ := RVs.reads t; exact ⟨_, .cons r ht⟩

/-- what a made object is -/
inductive Ob where
  | ns (loc : List (Str × V))
  | cell (v : Option V)
  | list (l : List V)
  | tup (l : List V)
  | it (l : List V)
  | att (loc : List (Str × V))
  | obj (o : Obj)

def listObj (vs : List Value) (n : Nat) : Obj := { cls := .type "list", data := .seq vs.toArray n }
def tupObj (vs : List Value) (n : Nat) : Obj := { cls := .type "tuple", data := .seq vs.toArray n }

def NsIs (fz : Heap) (loc : List (Str × V)) (o : Obj) : Prop :=
  ∃ es ep, o.data = .dict es ep ∧ StrKeys es ∧ ∀ p ∈ loc, ∃ v, nsFind es p.1 = some v ∧ RV fz p.2 v

/-- a made thing's own attributes, all of them -/
def AttIs (fz : Heap) (loc : List (Str × V)) (o : Obj) : Prop :=
  ∃ es ep, o.data = .dict es ep ∧ StrKeys es ∧ es.size ≤ loc.length ∧ (∀ p ∈ loc, ∃ v, nsFind es p.1 = some v ∧ RV fz p.2 v) ∧ ∀ x, x ∉ loc.map (·.1) → nsFind es x = none

/-- an iterator that has just these still to give -/
inductive ItIs (fz : Heap) : List V → Obj → Prop
  | list {a : Addr} {vs : Array Value} {i : Nat} {l : List V} {o : Obj} : fz.IsList a vs → RVs fz l (vs.toList.drop i) → o.cls = .type "list_iterator" → o.data = .fields #[.ref a, .int i 0] → ItIs fz l o
  | tup {a : Addr} {vs : Array Value} {i : Nat} {l : List V} {o : Obj} : fz.IsTuple a vs → RVs fz l (vs.toList.drop i) → o.cls = .type "tuple_iterator" → o.data = .fields #[.ref a, .int i 0] → ItIs fz l o
  | range {x c : Int} {n : Nat} {l : List V} {o : Obj} : l = (List.range n).map (fun j : Nat => V.int (x + (j : Int) * c)) → o = { cls := .type "range_iterator", data := .fields #[rawInt x, rawInt n, rawInt c] } → ItIs fz l o
  | ascii {x : Str} {t : Tok} {i : Nat} {l : List V} {o : Obj} : l = (x.cps.toList.drop i).map (fun c => V.str ⟨#[c]⟩) → o.cls = .type "str_ascii_iterator" → o.data = .fields #[.str x t, .int i 0] → ItIs fz l o
  | wide {x : Str} {t : Tok} {i : Nat} {l : List V} {o : Obj} : l = (x.cps.toList.drop i).map (fun c => V.str ⟨#[c]⟩) → o.cls = .type "str_iterator" → o.data = .fields #[.str x t, .int i 0] → ItIs fz l o
  | over {o : Obj} {k : Value} : o.cls = .type "list_iterator" → o.data = .fields #[.none, k] → ItIs fz [] o
theorem ItIs.mono {fz fz' : Heap} {l : List V} {o : Obj} (x : ItIs fz l o) (k : Keep fz fz') : ItIs fz' l o := by
  cases x with
  | list h r c d => obtain ⟨ob, e, q⟩ := h; exact .list ⟨ob, k _ _ e, q⟩ (r.mono k) c d
  | tup h r c d => obtain ⟨ob, e, q⟩ := h; exact .tup ⟨ob, k _ _ e, q⟩ (r.mono k) c d
  | range e q => exact .range e q
  | ascii e c d => exact .ascii e c d
  | wide e c d => exact .wide e c d
  | over c d => exact .over c d

def ObIs (fz : Heap) : Ob → Obj → Prop
  | .ns loc, o => NsIs fz loc o
  | .cell none, o => o.data = .cell none
  | .cell (some a), o => ∃ v, o.data = .cell (some v) ∧ RV fz a v
  | .list l, o => ∃ vs n, o = listObj vs n ∧ RVs fz l vs
  | .tup l, o => ∃ vs n, o = tupObj vs n ∧ RVs fz l vs
  | .it l, o => ItIs fz l o
  | .att loc, o => AttIs fz loc o
  | .obj o', o => o = o'

theorem ObIs.mono {fz fz' : Heap} {ob : Ob} {o : Obj} (x : ObIs fz ob o) (k : Keep fz fz') : ObIs fz' ob o := by
  cases ob with
  | ns loc => obtain ⟨es, ep, h1, h2, h3⟩ := x; exact ⟨es, ep, h1, h2, fun p hp => let ⟨v, e, r⟩ := h3 p hp; ⟨v, e, r.mono k⟩⟩
  | cell v => cases v with
    | none => exact x
    | some a => obtain ⟨v, e, r⟩ := x; exact ⟨v, e, r.mono k⟩
  | list l => obtain ⟨vs, n, e, r⟩ := x; exact ⟨vs, n, e, r.mono k⟩
  | tup l => obtain ⟨vs, n, e, r⟩ := x; exact ⟨vs, n, e, r.mono k⟩
  | it l => exact ItIs.mono x k
  | att loc => obtain ⟨es, ep, h1, h2, hz, h3, h4⟩ := x; exact ⟨es, ep, h1, h2, hz, fun p hp => let ⟨v, e, r⟩ := h3 p hp; ⟨v, e, r.mono k⟩, h4⟩
  | obj o' => exact x

abbrev Own := List (Addr × Ob)

/-- what stays through the whole law -/
structure Wd where
  prog : Program
  w : World
  base : Heap
  gens : Array GenState
  os : OsState
  K : Frag
  p : Program
  loose : List Str
  mg : Str → Option Value
  mb : Str → Option Value
  kin : K.In base
  top : TopRead p loose mg mb base
  tk : Nat

structure Hold (W : Wd) (fz : Heap) (own : Own) (s : Shared) : Prop where
  base : Keep W.base fz
  has : Keep fz s.heap
  obs : ∀ p ∈ own, ∃ o, s.heap.get? p.1 = some o ∧ ObIs fz p.2 o
  out : ∀ p ∈ own, fz.get? p.1 = none
  nd : (own.map (·.1)).Nodup
  gens : s.gens = W.gens
  os : s.os = W.os

variable {W : Wd}

theorem Hold.toks {fz : Heap} {own : Own} {s : Shared} (H : Hold W fz own s) (k : Nat) : Hold W fz own { s with toks := k } := ⟨H.base, H.has, H.obs, H.out, H.nd, H.gens, H.os⟩
theorem Hold.kin {fz : Heap} {own : Own} {s : Shared} (H : Hold W fz own s) : W.K.In s.heap := W.kin.keeps (H.base.trans H.has)
theorem Hold.keep {fz : Heap} {own : Own} {s : Shared} (H : Hold W fz own s) : Keep W.base s.heap := H.base.trans H.has
theorem Hold.get {fz : Heap} {own : Own} {s : Shared} (H : Hold W fz own s) {a : Addr} {ob : Ob} (h : (a, ob) ∈ own) : ∃ o, s.heap.get? a = some o ∧ ObIs fz ob o := H.obs _ h

theorem Hold.sub {fz : Heap} {own own' : Own} {s : Shared} (H : Hold W fz own s) (h : own'.Sublist own) : Hold W fz own' s :=
  ⟨H.base, H.has, fun p hp => H.obs p (h.subset hp), fun p hp => H.out p (h.subset hp), H.nd.sublist (h.map _), H.gens, H.os⟩
theorem Hold.tail {fz : Heap} {p : Addr × Ob} {own : Own} {s : Shared} (H : Hold W fz (p :: own) s) : Hold W fz own s := H.sub (List.sublist_cons_self _ _)
theorem Hold.perm {fz : Heap} {own own' : Own} {s : Shared} (H : Hold W fz own s) (h : own.Perm own') : Hold W fz own' s :=
  ⟨H.base, H.has, fun p hp => H.obs p (h.mem_iff.mpr hp), fun p hp => H.out p (h.mem_iff.mpr hp), (h.map _).nodup_iff.mp H.nd, H.gens, H.os⟩

/-- one entry is turned -/
inductive Upd (a : Addr) (ob ob' : Ob) : Own → Own → Prop
  | here {l : Own} : Upd a ob ob' ((a, ob) :: l) ((a, ob') :: l)
  | there {p : Addr × Ob} {l l' : Own} : Upd a ob ob' l l' → Upd a ob ob' (p :: l) (p :: l')
theorem Upd.mem {a : Addr} {ob ob' : Ob} {l l' : Own} (u : Upd a ob ob' l l') : (a, ob) ∈ l := by
  induction u with
  | here => exact List.mem_cons_self
  | there _ ih => exact List.mem_cons_of_mem _ ih
theorem Upd.keys {a : Addr} {ob ob' : Ob} {l l' : Own} (u : Upd a ob ob' l l') : l'.map (·.1) = l.map (·.1) := by
  induction u with
  | here => rfl
  | there _ ih => simp [ih]
theorem Upd.other {a : Addr} {ob ob' : Ob} {l l' : Own} (u : Upd a ob ob' l l') : ∀ p ∈ l', p = (a, ob') ∨ p ∈ l := by
  induction u with
  | here => intro p hp; rcases List.mem_cons.mp hp with h | h; exact .inl h; exact .inr (List.mem_cons_of_mem _ h)
  | there _ ih => intro p hp; rcases List.mem_cons.mp hp with h | h; exact .inr (h ▸ List.mem_cons_self); exact (ih p h).imp id (List.mem_cons_of_mem _)
theorem mem_unique {l : Own} (nd : (l.map (·.1)).Nodup) {p q : Addr × Ob} (hp : p ∈ l) (hq : q ∈ l) (e : p.1 = q.1) : p = q := by
  induction l with
  | nil => cases hp
  | cons x l ih =>
    rw [List.map_cons, List.nodup_cons] at nd
    rcases List.mem_cons.mp hp with h1 | h1 <;> rcases List.mem_cons.mp hq with h2 | h2
    · rw [h1, h2]
    · exact absurd (List.mem_map.mpr ⟨q, h2, by rw [← e, h1]⟩) nd.1
    · exact absurd (List.mem_map.mpr ⟨p, h1, by rw [e, h2]⟩) nd.1
    · exact ih nd.2 h1 h2
theorem Upd.other' {a : Addr} {ob ob' : Ob} {l l' : Own} (nd : (l.map (·.1)).Nodup) (u : Upd a ob ob' l l') : ∀ p ∈ l', p = (a, ob') ∨ (p ∈ l ∧ p.1 ≠ a) := by
  induction u with
  | here =>
    intro p hp
    rw [List.map_cons, List.nodup_cons] at nd
    rcases List.mem_cons.mp hp with h | h
    · exact .inl h
    · exact .inr ⟨List.mem_cons_of_mem _ h, fun e => nd.1 (List.mem_map.mpr ⟨p, h, e⟩)⟩
  | @there q l l' v ih =>
    intro p hp
    rw [List.map_cons, List.nodup_cons] at nd
    rcases List.mem_cons.mp hp with h | h
    · subst h
      exact .inr ⟨List.mem_cons_self, fun e => nd.1 (List.mem_map.mpr ⟨_, v.mem, e.symm⟩)⟩
    · exact (ih nd.2 p h).imp id fun x => ⟨List.mem_cons_of_mem _ x.1, x.2⟩

/-- an entry changes by a step that touches its object alone -/
theorem Hold.set {fz : Heap} {own own' : Own} {s : Shared} (H : Hold W fz own s) {a : Addr} {ob ob' : Ob} (u : Upd a ob ob' own own') {h' : Heap} {k : Nat} (hs : Heap.SameBut a s.heap h')
    {o : Obj} (ho : h'.get? a = some o) (hob : ObIs fz ob' o) : Hold W fz own' { s with heap := h', toks := k } where
  base := H.base
  has := fun b o e => (hs.2 b (fun hb => by have := H.out _ u.mem; rw [hb] at e; exact absurd e (by rw [this]; exact fun x => nomatch x))).trans (H.has b o e)
  obs := fun p hp => by
    rcases u.other' H.nd p hp with rfl | ⟨h, hne⟩
    · exact ⟨o, ho, hob⟩
    · obtain ⟨o', e, r⟩ := H.obs p h
      exact ⟨o', (hs.2 p.1 hne).trans e, r⟩
  out := fun p hp => by
    rcases u.other' H.nd p hp with rfl | ⟨h, _⟩
    · exact H.out (a, ob) u.mem
    · exact H.out p h
  nd := by rw [u.keys]; exact H.nd
  gens := H.gens
  os := H.os

/-- a step that keeps all but what is not told -/
theorem Hold.grow {fz : Heap} {own : Own} {s : Shared} (H : Hold W fz own s) {h' : Heap} {k : Nat} (hk : Keep s.heap h') : Hold W fz own { s with heap := h', toks := k } where
  base := H.base
  has := H.has.trans hk
  obs := fun p hp => let ⟨o, e, r⟩ := H.obs p hp; ⟨o, hk _ _ e, r⟩
  out := H.out
  nd := H.nd
  gens := H.gens
  os := H.os

theorem get?_ge {h : Heap} {a : Addr} (x : h.objs.size ≤ a) : h.get? a = none := by
  cases e : h.get? a with
  | none => rfl
  | some o => exact absurd (Heap.lt_size e) (Nat.not_lt.mpr x)
theorem Keep.push (h : Heap) (o : Obj) : Keep h (h.push o) := fun _ _ e => Heap.get?_push_of_some o e

/-- a new object enters the list; the heap has grown -/
theorem Hold.new {fz : Heap} {own : Own} {s : Shared} (H : Hold W fz own s) {h' : Heap} {k : Nat} (hk : Keep s.heap h') {a : Addr} (ha : s.heap.get? a = none) {o : Obj} {ob : Ob}
    (ho : h'.get? a = some o) (hob : ObIs fz ob o) : Hold W fz ((a, ob) :: own) { s with heap := h', toks := k } where
  base := H.base
  has := H.has.trans hk
  obs := fun p hp => by
    rcases List.mem_cons.mp hp with rfl | hp
    · exact ⟨o, ho, hob⟩
    · obtain ⟨o', e, r⟩ := H.obs p hp
      exact ⟨o', hk _ _ e, r⟩
  out := fun p hp => by
    rcases List.mem_cons.mp hp with rfl | hp
    · cases e : fz.get? a with
      | none => rfl
      | some o' => exact absurd (H.has _ _ e) (by rw [ha]; exact fun x => nomatch x)
    · exact H.out p hp
  nd := by
    rw [List.map_cons, List.nodup_cons]
    refine ⟨fun hm => ?_, H.nd⟩
    obtain ⟨p, hp, e⟩ := List.mem_map.mp hm
    obtain ⟨o', e', _⟩ := H.obs p hp
    rw [e, ha] at e'
    cases e'
  gens := H.gens
  os := H.os
end
section
/-- no way raises -/
abbrev NoX : Value → Shared → Prop := fun _ _ => False

def At {α β : Type} (W : Wd) (A : Around) (R : Heap → β → α → Prop) (t : Sem α) (Q : β → Own → Prop) (fz : Heap) (s : Shared) : Prop :=
  wpAny (model W.prog W.w) A t (fun a s' => ∃ fz' b own', Keep fz fz' ∧ Hold W fz' own' s' ∧ R fz' b a ∧ Q b own') NoX s

def SG {α β : Type} (W : Wd) (A : Around) (R : Heap → β → α → Prop) (t : Sem α) (own : Own) (Q : β → Own → Prop) : Prop :=
  ∀ fz s, Hold W fz own s → W.tk ≤ s.toks → At W A R t Q fz s

/-- of one value, of two, of a list -/
def S1 {α β : Type} (W : Wd) (A : Around) (R : Heap → β → α → Prop) (f : Value → Sem α) (a : V) (own : Own) (Q : β → Own → Prop) : Prop :=
  ∀ fz s v, Hold W fz own s → W.tk ≤ s.toks → RV fz a v → At W A R (f v) Q fz s
def S2 {α β : Type} (W : Wd) (A : Around) (R : Heap → β → α → Prop) (f : Value → Value → Sem α) (a b : V) (own : Own) (Q : β → Own → Prop) : Prop :=
  ∀ fz s v u, Hold W fz own s → W.tk ≤ s.toks → RV fz a v → RV fz b u → At W A R (f v u) Q fz s
def SL {α β : Type} (W : Wd) (A : Around) (R : Heap → β → α → Prop) (f : List Value → Sem α) (l : List V) (own : Own) (Q : β → Own → Prop) : Prop :=
  ∀ fz s vs, Hold W fz own s → W.tk ≤ s.toks → RVs fz l vs → At W A R (f vs) Q fz s

abbrev RB : Heap → Bool → Bool → Prop := fun _ b a => a = b
abbrev RU : Heap → Unit → Unit → Prop := fun _ _ _ => True

inductive Fl where
  | next | brk | cont
  | ret (v : V)
inductive RF (fz : Heap) : Fl → Flow → Prop
  | next : RF fz .next .next
  | brk : RF fz .brk .brk
  | cont : RF fz .cont .cont
  | ret {a : V} {v : Value} : RV fz a v → RF fz (.ret a) (.ret v)

variable {W : Wd} {A : Around} {env : Env} {own : Own}

theorem At.weak {α β : Type} {R : Heap → β → α → Prop} {t : Sem α} {Q : β → Own → Prop} {fz fz' : Heap} {s : Shared} (h : At W A R t Q fz' s) (k : Keep fz fz') : At W A R t Q fz s :=
  wpAny_mono h (fun _ _ ⟨fz₁, b, own', k', x⟩ => ⟨fz₁, b, own', k.trans k', x⟩) fun _ _ x => x
theorem At.mono {α β : Type} {R : Heap → β → α → Prop} {t : Sem α} {Q Q' : β → Own → Prop} {fz : Heap} {s : Shared} (h : At W A R t Q fz s) (q : ∀ b own', Q b own' → Q' b own') : At W A R t Q' fz s :=
  wpAny_mono h (fun _ _ ⟨fz₁, b, own', k', H, r, x⟩ => ⟨fz₁, b, own', k', H, r, q _ _ x⟩) fun _ _ x => x
theorem SG.mono {α β : Type} {R : Heap → β → α → Prop} {t : Sem α} {Q Q' : β → Own → Prop} (h : SG W A R t own Q) (q : ∀ b own', Q b own' → Q' b own') : SG W A R t own Q' :=
  fun fz s H ht => (h fz s H ht).mono q

/-- the one way to go on -/
theorem wp_then {α β : Type} {R : Heap → β → α → Prop} {t : Sem α} {Q : β → Own → Prop} {fz : Heap} {s : Shared} {P : α → Shared → Prop} (h : At W A R t Q fz s) (ht : W.tk ≤ s.toks)
    (q : ∀ fz' a b own' s', Keep fz fz' → Hold W fz' own' s' → W.tk ≤ s'.toks → R fz' b a → Q b own' → P a s') : wpAny (model W.prog W.w) A t P NoX s :=
  wpAny_mono (wpAny_toks_of ht h) (fun a s' ⟨t', fz', b, own', k, H, r, x⟩ => q fz' a b own' s' k H t' r x) fun _ _ x => x.2

abbrev SE (W : Wd) (A : Around) (env : Env) (e : Expr) (own : Own) (Q : V → Own → Prop) : Prop := SG W A RV (eval e env) own Q
abbrev ST (W : Wd) (A : Around) (env : Env) (e : Expr) (own : Own) (Q : Bool → Own → Prop) : Prop := SG W A RB (isTrue e env (eval e env)) own Q
abbrev SX (W : Wd) (A : Around) (env : Env) (st : Stmt) (own : Own) (Q : Fl → Own → Prop) : Prop := SG W A RF (exec st env) own Q
abbrev SXs (W : Wd) (A : Around) (env : Env) (l : List Stmt) (own : Own) (Q : Fl → Own → Prop) : Prop := SG W A RF (execs l env) own Q
abbrev SS (W : Wd) (A : Around) (env : Env) (x : Str) (a : V) (own : Own) (Q : Own → Prop) : Prop := S1 W A RU (storeName env x) a own (fun _ => Q)
abbrev SA (W : Wd) (A : Around) (env : Env) (t : Expr) (a : V) (own : Own) (Q : Own → Prop) : Prop := S1 W A RU (assign t env) a own (fun _ => Q)

/-! ### constants, names -/
theorem SE_int {i : Int} {k : Nat} {pos : Pos} {Q : V → Own → Prop} (h : Q (.int i) own) : SE W A env (.Constant (.int i) k pos) own Q :=
  fun fz s H _ => wpAny_Constant_int ⟨fz, _, own, .refl _, H.toks _, .dat (.int _ _), h⟩
theorem SE_str {x : Str} {k : Nat} {pos : Pos} {Q : V → Own → Prop} (h : Q (.str x) own) : SE W A env (.Constant (.str x) k pos) own Q :=
  fun fz s H _ => wpAny_Constant_str ⟨fz, _, own, .refl _, H.toks _, .dat (.str _ _), h⟩
theorem SE_bool {b : Bool} {k : Nat} {pos : Pos} {Q : V → Own → Prop} (h : Q (.bool b) own) : SE W A env (.Constant (.bool b) k pos) own Q :=
  fun fz s H _ => wpAny_Constant_bool ⟨fz, _, own, .refl _, H, .dat (.bool _), h⟩
theorem SE_none {k : Nat} {pos : Pos} {Q : V → Own → Prop} (h : Q .none own) : SE W A env (.Constant .none k pos) own Q :=
  fun fz s H _ => wpAny_Constant_none ⟨fz, _, own, .refl _, H, .dat .none, h⟩

theorem ns_of {h : Heap} {a : Addr} {o : Obj} {fz : Heap} {loc : List (Str × V)} (ho : h.get? a = some o) (x : NsIs fz loc o) :
    ∃ m, h.Ns a m ∧ ∀ p ∈ loc, ∃ v, m p.1 = some v ∧ RV fz p.2 v := by
  obtain ⟨es, ep, h1, h2, h3⟩ := x
  exact ⟨_, ⟨o, es, ep, ho, h1, h2, fun _ => rfl⟩, h3⟩
theorem of_ns {h : Heap} {a : Addr} {m : Str → Option Value} {fz : Heap} {loc : List (Str × V)} (x : h.Ns a m) (r : ∀ p ∈ loc, ∃ v, m p.1 = some v ∧ RV fz p.2 v) :
    ∃ o, h.get? a = some o ∧ NsIs fz loc o := by
  obtain ⟨o, es, ep, ho, h1, h2, h3⟩ := x
  exact ⟨o, ho, es, ep, h1, h2, fun p hp => by obtain ⟨v, e, q⟩ := r p hp; exact ⟨v, (h3 _).trans e, q⟩⟩

theorem SN_local {x : Str} {loc : List (Str × V)} {a : V} {Q : V → Own → Prop} (hk : env.scope.kind = .function) (hl : env.kindOf x = some .local) (hm : (env.locals, Ob.ns loc) ∈ own) (hx : (x, a) ∈ loc)
    (h : Q a own) : SG W A RV (loadName env x) own Q := fun fz s H _ => by
  obtain ⟨o, ho, x1⟩ := H.get hm
  obtain ⟨m, hn, hv⟩ := ns_of ho x1
  obtain ⟨v, e, r⟩ := hv _ hx
  exact wpAny_loadName_local hk hl hn e ⟨fz, a, own, .refl _, H, r, h⟩
theorem SN_cell {x : Str} {c : Addr} {a : V} {Q : V → Own → Prop} (hk : env.scope.kind = .function) (hl : env.kindOf x = some .cell) (hc : env.cells.lookup x = some c) (hm : (c, Ob.cell (some a)) ∈ own)
    (h : Q a own) : SG W A RV (loadName env x) own Q := fun fz s H _ => by
  obtain ⟨o, ho, v, e, r⟩ := H.get hm
  exact wpAny_loadName_cell hk hl hc ⟨o, ho, e⟩ ⟨fz, a, own, .refl _, H, r, h⟩
theorem SN_global {x : Str} {v : Value} {Q : V → Own → Prop} (hk : env.scope.kind = .function) (hg : env.globals = mainGlobals) (hl : env.kindOf x = some .globalImplicit) (e : nsIn W.K mainGlobals x = some (some v))
    (h : Q (.val v) own) : SG W A RV (loadName env x) own Q := fun fz s H _ => by
  unfold loadName
  simp only [Env.blockKind, hk, hl, ScopeKind.isAnnotationScope, Bool.false_and, Bool.false_eq_true, if_false]
  exact Calls.loadGlobal_global (by rw [hg]; exact W.top.g.keeps H.keep) (mg_of W.kin W.top.g e) ⟨fz, _, own, .refl _, H, .val v, h⟩
theorem SN_builtin {x : Str} {v : Value} {Q : V → Own → Prop} (hk : env.scope.kind = .function) (hg : env.globals = mainGlobals) (hb : env.builtins = builtinsNs) (hl : env.kindOf x = some .globalImplicit) (e : nsIn W.K mainGlobals x = some none)
    (hv : bootBuiltins x = some v) (hn : x ≠ "__name__") (h : Q (.val v) own) : SG W A RV (loadName env x) own Q := fun fz s H _ => by
  unfold loadName
  simp only [Env.blockKind, hk, hl, ScopeKind.isAnnotationScope, Bool.false_and, Bool.false_eq_true, if_false]
  exact Calls.loadGlobal_builtin (by rw [hg]; exact W.top.g.keeps H.keep) (mg_none_of W.kin W.top.g e) (by rw [hb]; exact W.top.b.keeps H.keep) ((W.top.builtins x hn).trans hv) ⟨fz, _, own, .refl _, H, .val v, h⟩
theorem SE_Name {x : Str} {pos : Pos} {Q : V → Own → Prop} (h : SG W A RV (loadName env x) own Q) (hd : (x == ("__debug__" : Str)) = false := by decide) : SE W A env (.Name x pos) own Q :=
  fun fz s H ht => wpAny_Name (h fz s H ht) hd

/-! ### stores -/
inductive Put (x : Str) (a : V) : List (Str × V) → List (Str × V) → Prop
  | new : Put x a [] [(x, a)]
  | here {b : V} {l : List (Str × V)} : Put x a ((x, b) :: l) ((x, a) :: l)
  | there {p : Str × V} {l l' : List (Str × V)} : Put x a l l' → Put x a (p :: l) (p :: l')
theorem Put.other {x : Str} {a : V} {l l' : List (Str × V)} (u : Put x a l l') (nd : (l'.map (·.1)).Nodup) : ∀ p ∈ l', p = (x, a) ∨ (p ∈ l ∧ p.1 ≠ x) := by
  have hin : ∀ {l l' : List (Str × V)}, Put x a l l' → (x, a) ∈ l' := by
    intro l l' u
    induction u with
    | new => exact List.mem_cons_self
    | here => exact List.mem_cons_self
    | there _ ih => exact List.mem_cons_of_mem _ ih
  induction u with
  | new => intro p hp; exact .inl (by simpa using hp)
  | here =>
    intro p hp
    rw [List.map_cons, List.nodup_cons] at nd
    rcases List.mem_cons.mp hp with h | h
    · exact .inl h
    · exact .inr ⟨List.mem_cons_of_mem _ h, fun e => nd.1 (List.mem_map.mpr ⟨p, h, e⟩)⟩
  | @there q l l' v ih =>
    intro p hp
    rw [List.map_cons, List.nodup_cons] at nd
    rcases List.mem_cons.mp hp with h | h
    · subst h
      exact .inr ⟨List.mem_cons_self, fun e => nd.1 (List.mem_map.mpr ⟨_, hin v, e.symm⟩)⟩
    · exact (ih nd.2 p h).imp id fun x => ⟨List.mem_cons_of_mem _ x.1, x.2⟩

theorem SS_local {x : Str} {loc loc' : List (Str × V)} {a : V} {own' : Own} {Q : Own → Prop} (hk : env.scope.kind = .function) (hl : env.kindOf x = some .local) (hu : Put x a loc loc') (nd : ((loc'.map (·.1)).Nodup))
    (u : Upd env.locals (.ns loc) (.ns loc') own own') (h : Q own') : SS W A env x a own Q := fun fz s v H _ r => by
  obtain ⟨o, ho, x1⟩ := H.get u.mem
  obtain ⟨m, hn, hv⟩ := ns_of ho x1
  refine wpAny_storeName_local hl hn (fun h' hn' hs' => ?_) (by rw [hk]; rfl)
  obtain ⟨o', ho', hob⟩ := of_ns (fz := fz) (loc := loc') hn' (fun p hp => by
    rcases hu.other nd p hp with rfl | ⟨hp', hne⟩
    · exact ⟨v, by simp, r⟩
    · obtain ⟨u, e, r'⟩ := hv p hp'; exact ⟨u, by simp [hne, e], r'⟩)
  exact ⟨fz, (), own', .refl _, H.set u hs' ho' hob, trivial, h⟩
theorem SS_cell {x : Str} {c : Addr} {a : V} {a₀ : Option V} {own' : Own} {Q : Own → Prop} (hk : env.scope.kind = .function) (hl : env.kindOf x = some .cell) (hc : env.cells.lookup x = some c)
    (u : Upd c (.cell a₀) (.cell (some a)) own own') (h : Q own') : SS W A env x a own Q := fun fz s v H _ r => by
  obtain ⟨o, ho, x1⟩ := H.get u.mem
  have hcell : ∃ v₀, s.heap.IsCell c v₀ := by
    cases a₀ with
    | none => exact ⟨none, o, ho, x1⟩
    | some b => obtain ⟨w, e, _⟩ := x1; exact ⟨some w, o, ho, e⟩
  obtain ⟨v₀, hc0⟩ := hcell
  refine wpAny_storeName_cell hk hl hc hc0 fun h' ⟨o', ho', e'⟩ hs' => ?_
  exact ⟨fz, (), own', .refl _, H.set (k := s.toks) u hs' ho' ⟨v, e', r⟩, trivial, h⟩

theorem SS_loc {x : Str} {L : Addr} {loc loc' : List (Str × V)} {a : V} {own' : Own} {Q : Own → Prop} (hk : env.scope.kind = .function) (hl : env.kindOf x = some .local) (hm : (L, Ob.ns loc) ∈ own) (hL : env.locals = L) (hu : Put x a loc loc') (nd : ((loc'.map (·.1)).Nodup))
    (u : Upd L (.ns loc) (.ns loc') own own') (h : Q own') : SS W A env x a own Q := SS_local hk hl hu nd (by rw [hL]; exact u) h
theorem SN_loc {x : Str} {L : Addr} {loc : List (Str × V)} {a : V} {Q : V → Own → Prop} (hk : env.scope.kind = .function) (hl : env.kindOf x = some .local) (hm : (L, Ob.ns loc) ∈ own) (hL : env.locals = L) (hx : (x, a) ∈ loc)
    (h : Q a own) : SG W A RV (loadName env x) own Q := SN_local hk hl (by rw [hL]; exact hm) hx h
theorem SA_Name {x : Str} {pos : Pos} {a : V} {Q : Own → Prop} (h : SS W A env x a own Q) : SA W A env (.Name x pos) a own Q :=
  fun fz s v H ht r => wpAny_assign_Name (h fz s v H ht r)

/-! ### expressions: the nodes -/
theorem SE_BinOp {l r : Expr} {op : Operator} {pos : Pos} {Q : V → Own → Prop} (h : SE W A env l own fun a o1 => SE W A env r o1 fun b o2 => S2 W A RV (binaryOp op) a b o2 Q) :
    SE W A env (.BinOp l op r pos) own Q := fun fz s H ht => by
  refine wpAny_BinOp (wp_then (h fz s H ht) ht fun fz1 va a o1 s1 k1 H1 t1 r1 q1 => wp_then (q1 fz1 s1 H1 t1) t1 fun fz2 vb b o2 s2 k2 H2 t2 r2 q2 => ?_)
  exact (q2 fz2 s2 va vb H2 t2 (r1.mono k2) r2).weak (k1.trans k2)
theorem SE_Compare {l r : Expr} {op : CmpOp} {pos : Pos} {Q : V → Own → Prop} (h : SE W A env l own fun a o1 => SE W A env r o1 fun b o2 => S2 W A RV (compareOp op) a b o2 Q)
    (hm : behindInMarks op r = false := by with_unfolding_all rfl) : SE W A env (.Compare l [op] [r] pos) own Q := fun fz s H ht => by
  refine wpAny_Compare1 (wp_then (h fz s H ht) ht fun fz1 va a o1 s1 k1 H1 t1 r1 q1 => wp_then (q1 fz1 s1 H1 t1) t1 fun fz2 vb b o2 s2 k2 H2 t2 r2 q2 => ?_) hm
  exact (q2 fz2 s2 va vb H2 t2 (r1.mono k2) r2).weak (k1.trans k2)
theorem SE_UnaryOp {x : Expr} {op : UnaryOp} {pos : Pos} {Q : V → Own → Prop} (h : SE W A env x own fun a o1 => S1 W A RV (unaryOp op) a o1 Q) : SE W A env (.UnaryOp op x pos) own Q := fun fz s H ht =>
  wpAny_UnaryOp (wp_then (h fz s H ht) ht fun fz1 va a o1 s1 k1 H1 t1 r1 q1 => (q1 fz1 s1 va H1 t1 r1).weak k1)
theorem SE_IfExp {t b o : Expr} {pos : Pos} {Q : V → Own → Prop} (h : ST W A env t own fun c o1 => if c then SE W A env b o1 Q else SE W A env o o1 Q) : SE W A env (.IfExp t b o pos) own Q := fun fz s H ht => by
  refine wpAny_IfExp (wp_then (h fz s H ht) ht fun fz1 va a o1 s1 k1 H1 t1 r1 q1 => ?_)
  subst r1
  cases va
  · exact (q1 fz1 s1 H1 t1).weak k1
  · exact (q1 fz1 s1 H1 t1).weak k1
theorem SE_Subscript {o i : Expr} {pos : Pos} {Q : V → Own → Prop} (h : SE W A env o own fun a o1 => SE W A env i o1 fun b o2 => S2 W A RV (subscriptTail o i) a b o2 Q) :
    SE W A env (.Subscript o i pos) own Q := fun fz s H ht => by
  refine Subscript_ (wp_then (h fz s H ht) ht fun fz1 va a o1 s1 k1 H1 t1 r1 q1 => wp_then (q1 fz1 s1 H1 t1) t1 fun fz2 vb b o2 s2 k2 H2 t2 r2 q2 => ?_)
  exact (q2 fz2 s2 va vb H2 t2 (r1.mono k2) r2).weak (k1.trans k2)
theorem SE_Attribute {o : Expr} {n : Str} {pos : Pos} {Q : V → Own → Prop} (h : SE W A env o own fun a o1 => S1 W A RV (fun v => getAttr v n true) a o1 Q)
    (he : eval (.Attribute o n pos) env = (do
      let v ← eval o env
      standAt pos.atName
      let r ← holding [v] (getAttr v n true)
      letTemporaryGo o v r
      pure r) := by with_unfolding_all rfl) : SE W A env (.Attribute o n pos) own Q := fun fz s H ht =>
  Attribute_any_ (wp_then (h fz s H ht) ht fun fz1 va a o1 s1 k1 H1 t1 r1 q1 => (q1 fz1 s1 va H1 t1 r1).weak k1) he

/-! ### tests -/
theorem ST_Compare {l r : Expr} {op : CmpOp} {pos : Pos} {Q : Bool → Own → Prop} (h : SE W A env l own fun a o1 => SE W A env r o1 fun b o2 => S2 W A RV (compareOp op) a b o2 fun c o3 => S1 W A RB truthy c o3 Q)
    (hm : behindInMarks op r = false := by with_unfolding_all rfl) : ST W A env (.Compare l [op] [r] pos) own Q := fun fz s H ht => by
  refine wpAny_isTrue_Compare1 (wp_then (h fz s H ht) ht fun fz1 va a o1 s1 k1 H1 t1 r1 q1 => wp_then (q1 fz1 s1 H1 t1) t1 fun fz2 vb b o2 s2 k2 H2 t2 r2 q2 =>
    wp_then (q2 fz2 s2 va vb H2 t2 (r1.mono k2) r2) t2 fun fz3 vc c o3 s3 k3 H3 t3 r3 q3 => ?_) hm
  exact (q3 fz3 s3 vc H3 t3 r3).weak (k1.trans (k2.trans k3))
theorem SG_or_nil {pos : Pos} {whole : Sem Value} {Q : Bool → Own → Prop} (h : Q false own) : SG W A RB (isTrue (.BoolOp .Or [] pos) env whole) own Q := fun fz s H _ =>
  isTrue_or_nil ⟨fz, _, own, .refl _, H, rfl, h⟩
theorem SG_or {x : Expr} {rest : List Expr} {pos : Pos} {whole : Sem Value} {Q : Bool → Own → Prop}
    (h : ST W A env x own fun c o1 => if c then Q true o1 else SG W A RB (isTrue (.BoolOp .Or rest pos) env whole) o1 Q) : SG W A RB (isTrue (.BoolOp .Or (x :: rest) pos) env whole) own Q := fun fz s H ht => by
  refine isTrue_or (wp_then (h fz s H ht) ht fun fz1 va a o1 s1 k1 H1 t1 r1 q1 => ?_)
  subst r1
  cases va
  · exact (q1 fz1 s1 H1 t1).weak k1
  · exact ⟨fz1, _, o1, k1, H1, rfl, q1⟩
/-! ### statements -/
theorem SXs_nil {Q : Fl → Own → Prop} (h : Q .next own) : SXs W A env [] own Q := fun fz s H _ => wpAny_execs_nil ⟨fz, _, own, .refl _, H, .next, h⟩
/-- on from a statement: only a plain end goes on -/
abbrev onNext (P : Own → Prop) (Q : Fl → Own → Prop) : Fl → Own → Prop
  | .next, o => P o
  | f, o => Q f o
theorem SXs_cons {st : Stmt} {rest : List Stmt} {Q : Fl → Own → Prop} (h : SX W A env st own (onNext (fun o1 => SXs W A env rest o1 Q) Q)) : SXs W A env (st :: rest) own Q := fun fz s H ht => by
  refine wpAny_execs_cons (wp_then (h fz s H ht) ht fun fz1 va a o1 s1 k1 H1 t1 r1 q1 => ?_)
  cases r1 with
  | next => exact At.weak (q1 fz1 s1 H1 t1) k1
  | brk => exact ⟨fz1, _, o1, k1, H1, .brk, q1⟩
  | cont => exact ⟨fz1, _, o1, k1, H1, .cont, q1⟩
  | ret r => exact ⟨fz1, _, o1, k1, H1, .ret r, q1⟩
theorem SX_If {t : Expr} {b o : List Stmt} {pos : Pos} {Q : Fl → Own → Prop} (h : ST W A env t own fun c o1 => if c then SXs W A env b o1 Q else SXs W A env o o1 Q) : SX W A env (.If t b o pos) own Q := fun fz s H ht => by
  refine wpAny_If (wp_then (h fz s H ht) ht fun fz1 va a o1 s1 k1 H1 t1 r1 q1 => ?_)
  subst r1
  cases va
  · exact At.weak (q1 fz1 s1 H1 t1) k1
  · exact At.weak (q1 fz1 s1 H1 t1) k1
theorem SX_Return {e : Expr} {pos : Pos} {Q : Fl → Own → Prop} (h : SE W A env e own fun a o1 => Q (.ret a) o1) : SX W A env (.Return (some e) pos) own Q := fun fz s H ht =>
  wpAny_Return_some (wp_then (h fz s H ht) ht fun fz1 va a o1 s1 k1 H1 t1 r1 q1 => ⟨fz1, _, o1, k1, H1, .ret r1, q1⟩)
theorem SX_Assign {x : Str} {p pos : Pos} {e : Expr} {Q : Fl → Own → Prop} (h : SE W A env e own fun a o1 => SS W A env x a o1 fun o2 => Q .next o2)
    (hs : swapsWith e (some (.Name x p)) pos.line env = pure false := by rfl) : SX W A env (.Assign [.Name x p] e pos) own Q := fun fz s H ht => by
  refine wpAny_Assign_Name (wp_then (h fz s H ht) ht fun fz1 va a o1 s1 k1 H1 t1 r1 q1 => wp_then (q1 fz1 s1 va H1 t1 r1) t1 fun fz2 _ _ o2 s2 k2 H2 t2 _ q2 => ?_) hs
  exact ⟨fz2, _, o2, k1.trans k2, H2, .next, q2⟩
theorem SX_Aug {x : Str} {p pos : Pos} {op : Operator} {e : Expr} {Q : Fl → Own → Prop}
    (h : SG W A RV (loadName env x) own fun a o1 => SE W A env e o1 fun b o2 => S2 W A RV (inplaceOp op) a b o2 fun c o3 => SS W A env x c o3 fun o4 => Q .next o4) : SX W A env (.AugAssign (.Name x p) op e pos) own Q := fun fz s H ht => by
  refine wpAny_AugAssign_Name (wp_then (h fz s H ht) ht fun fz1 va a o1 s1 k1 H1 t1 r1 q1 => wp_then (q1 fz1 s1 H1 t1) t1 fun fz2 vb b o2 s2 k2 H2 t2 r2 q2 =>
    wp_then (q2 fz2 s2 va vb H2 t2 (r1.mono k2) r2) t2 fun fz3 vc c o3 s3 k3 H3 t3 r3 q3 => wp_then (q3 fz3 s3 vc H3 t3 r3) t3 fun fz4 _ _ o4 s4 k4 H4 t4 _ q4 => ?_)
  exact ⟨fz4, _, o4, k1.trans (k2.trans (k3.trans k4)), H4, .next, q4⟩
end
section
variable {W : Wd} {A : Around} {env : Env} {own : Own}

/-! ### what a value is -/
theorem RV.int_inv {fz : Heap} {i : Int} {v : Value} (x : RV fz (.int i) v) : ∃ t, v = .int i t := by cases x with | dat r => cases r; exact ⟨_, rfl⟩
theorem RV.str_inv {fz : Heap} {x : Str} {v : Value} (h : RV fz (.str x) v) : ∃ t, v = .str x t := by cases h with | dat r => cases r; exact ⟨_, rfl⟩
theorem RV.bool_inv {fz : Heap} {b : Bool} {v : Value} (x : RV fz (.bool b) v) : v = .bool b := by cases x with | dat r => cases r; rfl
theorem RV.none_inv {fz : Heap} {v : Value} (x : RV fz .none v) : v = .none := by cases x with | dat r => cases r; rfl
theorem RV.val_inv {fz : Heap} {u v : Value} (x : RV fz (.val u) v) : v = u := by cases x; rfl
theorem RV.lst_inv {fz : Heap} {l : List PyData} {v : Value} (x : RV fz (.lst l) v) : ∃ a vs, v = .ref a ∧ fz.IsList a vs ∧ RVs fz (l.map V.dat) vs.toList := by
  cases x with
  | dat r => cases r with | @list a o vs n xs as ho hc hd hr => exact ⟨a, vs, rfl, ⟨o, ho, hc, n, hd⟩, .of_reads hr⟩
theorem IsList_keep {h h' : Heap} {a : Addr} {vs : Array Value} (x : h.IsList a vs) (k : Keep h h') : h'.IsList a vs := let ⟨o, ho, r⟩ := x; ⟨o, k _ _ ho, r⟩
theorem IsTuple_keep {h h' : Heap} {a : Addr} {vs : Array Value} (x : h.IsTuple a vs) (k : Keep h h') : h'.IsTuple a vs := let ⟨o, ho, r⟩ := x; ⟨o, k _ _ ho, r⟩

/-- an answer that is a token's matter alone -/
theorem at_tok {Q : V → Own → Prop} {fz : Heap} {s : Shared} {a : V} {v : Value} (H : Hold W fz own s) (k : Nat) (r : RV fz a v) (q : Q a own) :
    ∃ fz' b own', Keep fz fz' ∧ Hold W fz' own' { s with toks := k } ∧ RV fz' b v ∧ Q b own' := ⟨fz, a, own, .refl _, H.toks k, r, q⟩

/-! ### ints -/
theorem op_add {a b : Int} {Q : V → Own → Prop} (h : Q (.int (a + b)) own) : S2 W A RV (binaryOp .Add) (.int a) (.int b) own Q := fun fz s v u H _ r1 r2 => by
  obtain ⟨t, rfl⟩ := r1.int_inv; obtain ⟨t', rfl⟩ := r2.int_inv
  exact P.add_int (at_tok H _ (.dat (.int _ _)) h)
theorem op_sub {a b : Int} {Q : V → Own → Prop} (h : Q (.int (a - b)) own) : S2 W A RV (binaryOp .Sub) (.int a) (.int b) own Q := fun fz s v u H _ r1 r2 => by
  obtain ⟨t, rfl⟩ := r1.int_inv; obtain ⟨t', rfl⟩ := r2.int_inv
  exact P.sub_int (at_tok H _ (.dat (.int _ _)) h)
theorem op_mul {a b : Int} {Q : V → Own → Prop} (hm : IntMulOk a b) (h : Q (.int (a * b)) own) : S2 W A RV (binaryOp .Mult) (.int a) (.int b) own Q := fun fz s v u H _ r1 r2 => by
  obtain ⟨t, rfl⟩ := r1.int_inv; obtain ⟨t', rfl⟩ := r2.int_inv
  exact P.mul_int (at_tok H _ (.dat (.int _ _)) h) hm
theorem op_div {a b : Int} {Q : V → Own → Prop} (hb : 0 < b) (hz : b < 1073741824) (h : Q (.int (a / b)) own) : S2 W A RV (binaryOp .FloorDiv) (.int a) (.int b) own Q := fun fz s v u H _ r1 r2 => by
  obtain ⟨t, rfl⟩ := r1.int_inv; obtain ⟨t', rfl⟩ := r2.int_inv
  refine floordiv_int (by omega) (at_tok H _ ?_ h) (Or.inl (PyProof.noPylong_small (by omega)))
  rw [Int.fdiv_eq_ediv_of_nonneg a (by omega)]
  exact .dat (.int _ _)
theorem op_mod {a b : Int} {Q : V → Own → Prop} (hb : 0 < b) (h : Q (.int (a % b)) own) : S2 W A RV (binaryOp .Mod) (.int a) (.int b) own Q := fun fz s v u H _ r1 r2 => by
  obtain ⟨t, rfl⟩ := r1.int_inv; obtain ⟨t', rfl⟩ := r2.int_inv
  refine mod_int' (by omega) (at_tok H _ ?_ h)
  rw [Int.fmod_eq_emod_of_nonneg a (by omega)]
  exact .dat (.int _ _)
theorem op_pow {a b : Int} {Q : V → Own → Prop} (h0 : 0 ≤ b) (h1 : b ≤ 1000000) (ha : a.natAbs < 2 ^ 64) (h : Q (.int (a ^ b.toNat)) own) : S2 W A RV (binaryOp .Pow) (.int a) (.int b) own Q := fun fz s v u H _ r1 r2 => by
  obtain ⟨t, rfl⟩ := r1.int_inv; obtain ⟨t', rfl⟩ := r2.int_inv
  exact pow_int_small h0 h1 ha (at_tok H _ (.dat (.int _ _)) h)
theorem op_neg {a : Int} {Q : V → Own → Prop} (h : Q (.int (-a)) own) : S1 W A RV (unaryOp .USub) (.int a) own Q := fun fz s v H _ r1 => by
  obtain ⟨t, rfl⟩ := r1.int_inv
  exact P.neg_int (at_tok H _ (.dat (.int _ _)) h)
theorem cmp_eqI {a b : Int} {Q : V → Own → Prop} (h : Q (.bool (decide (a = b))) own) : S2 W A RV (compareOp .Eq) (.int a) (.int b) own Q := fun fz s v u H _ r1 r2 => by
  obtain ⟨t, rfl⟩ := r1.int_inv; obtain ⟨t', rfl⟩ := r2.int_inv
  exact P.eq_int (at_tok H _ (.dat (.bool _)) h)
theorem cmp_gt {a b : Int} {Q : V → Own → Prop} (h : Q (.bool (decide (b < a))) own) : S2 W A RV (compareOp .Gt) (.int a) (.int b) own Q := fun fz s v u H _ r1 r2 => by
  obtain ⟨t, rfl⟩ := r1.int_inv; obtain ⟨t', rfl⟩ := r2.int_inv
  exact P.gt_int (at_tok H _ (.dat (.bool _)) h)
theorem cmp_ge {a b : Int} {Q : V → Own → Prop} (h : Q (.bool (decide (b ≤ a))) own) : S2 W A RV (compareOp .GtE) (.int a) (.int b) own Q := fun fz s v u H _ r1 r2 => by
  obtain ⟨t, rfl⟩ := r1.int_inv; obtain ⟨t', rfl⟩ := r2.int_inv
  exact P.ge_int (at_tok H _ (.dat (.bool _)) h)

/-! ### truth -/
theorem tr_bool {b : Bool} {Q : Bool → Own → Prop} (h : Q b own) : S1 W A RB truthy (.bool b) own Q := fun fz s v H _ r => by
  rw [r.bool_inv]; exact wpAny_truthy_bool ⟨fz, b, own, .refl _, H, rfl, h⟩
/-! ### texts -/
theorem op_cat {x y : Str} {Q : V → Own → Prop} (hz : x.length + y.length ≤ sizeLine) (h : Q (.str (x ++ y)) own) : S2 W A RV (binaryOp .Add) (.str x) (.str y) own Q := fun fz s v u H _ r1 r2 => by
  obtain ⟨t, rfl⟩ := r1.str_inv; obtain ⟨t', rfl⟩ := r2.str_inv
  exact SB.add (fun t' k => at_tok H _ (.dat (.str _ _)) h) hz
theorem op_icat {x y : Str} {Q : V → Own → Prop} (hz : x.length + y.length ≤ sizeLine) (h : Q (.str (x ++ y)) own) : S2 W A RV (inplaceOp .Add) (.str x) (.str y) own Q := fun fz s v u H _ r1 r2 => by
  obtain ⟨t, rfl⟩ := r1.str_inv; obtain ⟨t', rfl⟩ := r2.str_inv
  exact SB.iadd (fun t' k => at_tok H _ (.dat (.str _ _)) h) hz
theorem cmp_eqS {x y : Str} {Q : V → Own → Prop} (h : Q (.bool (decide (x = y))) own) : S2 W A RV (compareOp .Eq) (.str x) (.str y) own Q := fun fz s v u H _ r1 r2 => by
  obtain ⟨t, rfl⟩ := r1.str_inv; obtain ⟨t', rfl⟩ := r2.str_inv
  refine PyProof.Rows.eq_str ⟨fz, _, own, .refl _, H, ?_, h⟩
  have e : (x == y) = decide (x = y) := rfl
  rw [e]; exact .dat (.bool _)
theorem cmp_neS {x y : Str} {Q : V → Own → Prop} (h : Q (.bool (decide (x ≠ y))) own) : S2 W A RV (compareOp .NotEq) (.str x) (.str y) own Q := fun fz s v u H _ r1 r2 => by
  obtain ⟨t, rfl⟩ := r1.str_inv; obtain ⟨t', rfl⟩ := r2.str_inv
  refine PyProof.Rows.ne_str ⟨fz, _, own, .refl _, H, ?_, h⟩
  have e : (x != y) = decide (x ≠ y) := by simp only [bne, ne_eq, decide_not]; rfl
  rw [e]; exact .dat (.bool _)
/-! ### data compared -/
end
section
variable {W : Wd} {A : Around} {env : Env} {own : Own}

/-! ### a heap with one object more -/
def freedO : Obj := { cls := .none, data := .freed }
def putH (h : Heap) (a : Addr) (o : Obj) : Heap := ⟨(h.objs ++ Array.replicate (a + 1 - h.objs.size) freedO).setIfInBounds a o, h.life⟩
theorem get?_of_objs {h : Heap} {b : Addr} : h.get? b = match h.objs[b]? with | some ⟨_, _, .freed, _⟩ => none | o => o := rfl
theorem putH_get {h : Heap} {a : Addr} {o : Obj} (ho : o.isFreed = false) (b : Addr) : (putH h a o).get? b = if b = a then some o else h.get? b := by
  have hsz : a < (h.objs ++ Array.replicate (a + 1 - h.objs.size) freedO).size := by
    have e : (h.objs ++ Array.replicate (a + 1 - h.objs.size) freedO).size = h.objs.size + (a + 1 - h.objs.size) := by rw [Array.size_append, Array.size_replicate]
    rw [e]; show a < h.objs.size + (a + 1 - h.objs.size); exact (by omega : ∀ x y : Nat, x < y + (x + 1 - y)) a h.objs.size
  have hne : ∀ b, b ≠ a → (putH h a o).objs[b]? = (h.objs ++ Array.replicate (a + 1 - h.objs.size) freedO)[b]? := fun b hb => by
    unfold putH; exact Array.getElem?_setIfInBounds_ne (Ne.symm hb)
  by_cases hb : b = a
  · subst hb
    rw [if_pos rfl, get?_of_objs]
    have : (putH h b o).objs[b]? = some o := by unfold putH; exact Array.getElem?_setIfInBounds_self_of_lt hsz
    rw [this]
    obtain ⟨c, d, dt, sl⟩ := o
    cases dt <;> first | rfl | cases ho
  · rw [if_neg hb, get?_of_objs, hne b hb, get?_of_objs]
    by_cases hlt : b < h.objs.size
    · rw [Array.getElem?_append_left hlt]
    · have e1 : h.objs[b]? = none := Array.getElem?_eq_none (Nat.not_lt.mp hlt)
      rw [e1, Array.getElem?_append_right (Nat.not_lt.mp hlt), Array.getElem?_replicate]
      by_cases hc : b - h.objs.size < a + 1 - h.objs.size
      · rw [if_pos hc]; rfl
      · rw [if_neg hc]
theorem putH_keep {h : Heap} {a : Addr} {o : Obj} (ho : o.isFreed = false) (hn : h.get? a = none) : Keep h (putH h a o) := fun b x e => by
  rw [putH_get ho]
  by_cases hb : b = a
  · subst hb; rw [hn] at e; cases e
  · rw [if_neg hb]; exact e
theorem putH_at {h : Heap} {a : Addr} {o : Obj} (ho : o.isFreed = false) : (putH h a o).get? a = some o := by rw [putH_get ho, if_pos rfl]

/-- a new object is frozen at once -/
theorem Hold.frz {fz : Heap} {s : Shared} (H : Hold W fz own s) {h' : Heap} {k : Nat} {a : Addr} {o : Obj} (ho : o.isFreed = false) (hk : Keep s.heap h') (ha : s.heap.get? a = none) (hh : h'.get? a = some o) :
    Keep fz (putH fz a o) ∧ Hold W (putH fz a o) own { s with heap := h', toks := k } := by
  have hn : fz.get? a = none := by
    cases e : fz.get? a with
    | none => rfl
    | some x => exact absurd (H.has _ _ e) (by rw [ha]; exact fun y => nomatch y)
  have kk := putH_keep (o := o) ho hn
  refine ⟨kk, ⟨H.base.trans kk, fun b x e => ?_, fun p hp => ?_, fun p hp => ?_, H.nd, H.gens, H.os⟩⟩
  · rw [putH_get ho] at e
    by_cases hb : b = a
    · subst hb; rw [if_pos rfl] at e; cases e; exact hh
    · rw [if_neg hb] at e; exact hk _ _ (H.has _ _ e)
  · obtain ⟨x, e, r⟩ := H.obs p hp
    exact ⟨x, hk _ _ e, r.mono kk⟩
  · rw [putH_get ho]
    have : p.1 ≠ a := fun e => by obtain ⟨x, e', _⟩ := H.obs p hp; rw [e, ha] at e'; cases e'
    rw [if_neg this]; exact H.out p hp

/-- an owned object is frozen -/
theorem Hold.freeze {fz : Heap} {s : Shared} {a : Addr} {ob : Ob} (H : Hold W fz ((a, ob) :: own) s) : ∃ o, s.heap.get? a = some o ∧ ObIs fz ob o ∧ o.isFreed = false ∧ Keep fz (putH fz a o) ∧ Hold W (putH fz a o) own s := by
  obtain ⟨o, ho, r⟩ := H.obs _ List.mem_cons_self
  have hf : o.isFreed = false := by
    have e := ho
    rw [get?_of_objs] at e
    obtain ⟨c, d, dt, sl⟩ := o
    cases dt <;> first | rfl | (exfalso; revert e; cases hq : s.heap.objs[a]? with
      | none => intro e; cases e
      | some x => obtain ⟨c', d', dt', sl'⟩ := x; cases dt' <;> intro e <;> cases e)
  have hn := H.out _ List.mem_cons_self
  have kk := putH_keep (o := o) hf hn
  refine ⟨o, ho, r, hf, kk, ⟨H.base.trans kk, fun b x e => ?_, fun p hp => ?_, fun p hp => ?_, ?_, H.gens, H.os⟩⟩
  · rw [putH_get hf] at e
    by_cases hb : b = a
    · subst hb; rw [if_pos rfl] at e; cases e; exact ho
    · rw [if_neg hb] at e; exact H.has _ _ e
  · obtain ⟨x, e, r⟩ := H.obs p (List.mem_cons_of_mem _ hp)
    exact ⟨x, e, r.mono kk⟩
  · rw [putH_get hf]
    have : p.1 ≠ a := fun e => by
      have nd := H.nd
      rw [List.map_cons, List.nodup_cons] at nd
      exact nd.1 (List.mem_map.mpr ⟨p, hp, e⟩)
    rw [if_neg this]; exact H.out p (List.mem_cons_of_mem _ hp)
  · have nd := H.nd
    rw [List.map_cons, List.nodup_cons] at nd
    exact nd.2

/-! ### all data -/
inductive AllDat : List V → List PyData → Prop
  | nil : AllDat [] []
  | cons {d : PyData} {l : List V} {ds : List PyData} : AllDat l ds → AllDat (.dat d :: l) (d :: ds)
theorem AllDat.eq {l : List V} {ds : List PyData} (x : AllDat l ds) : l = ds.map V.dat := by
  induction x with
  | nil => rfl
  | cons _ ih => rw [ih]; rfl
theorem AllDat.map (ds : List PyData) : AllDat (ds.map V.dat) ds := by
  induction ds with
  | nil => exact .nil
  | cons d ds ih => exact .cons ih
theorem AllDat.length {l : List V} {ds : List PyData} (x : AllDat l ds) : l.length = ds.length := by rw [x.eq, List.length_map]

theorem rv_list {fz : Heap} {a : Addr} {vs : List Value} {n : Nat} {ds : List PyData} (h : fz.get? a = some (listObj vs n)) (r : RVs fz (ds.map V.dat) vs) : RV fz (.lst ds) (.ref a) := by
  obtain ⟨as, ra⟩ := r.reads
  exact .dat (.list h rfl rfl (by simpa using ra))
/-! ### displays -/
abbrev SEs (W : Wd) (A : Around) (env : Env) (pos : Pos) (l : List Expr) (own : Own) (Q : List V → Own → Prop) : Prop := SG W A RVs (spliced (backTo pos (starEach l env))) own Q
theorem SEs_nil {pos : Pos} {Q : List V → Own → Prop} (h : Q [] own) : SEs W A env pos [] own Q := fun fz s H _ => Calls.spliced_nil ⟨fz, _, own, .refl _, H, .nil, h⟩
theorem SEs_cons {pos : Pos} {e : Expr} {rest : List Expr} {Q : List V → Own → Prop} (h : SE W A env e own fun a o1 => SEs W A env pos rest o1 fun l o2 => Q (a :: l) o2)
    (he : starEach (e :: rest) env = (false, eval e env) :: starEach rest env := by rfl) : SEs W A env pos (e :: rest) own Q := fun fz s H ht => by
  unfold At
  rw [he]
  show wpAny _ _ (spliced ((false, eval e env) :: backTo pos (starEach rest env))) _ _ _
  refine Calls.spliced_cons (wp_then (h fz s H ht) ht fun fz1 va a o1 s1 k1 H1 t1 r1 q1 => wp_then (q1 fz1 s1 H1 t1) t1 fun fz2 vl l o2 s2 k2 H2 t2 r2 q2 => ?_)
  exact ⟨fz2, _, o2, k1.trans k2, H2, .cons (r1.mono k2) r2, q2⟩

/-- a list that may be turned -/
theorem SE_List {elts : List Expr} {pos : Pos} {Q : V → Own → Prop} (hz : elts.length ≤ sizeLine) (h : SEs W A env pos elts own fun l o1 => l.length ≤ sizeLine ∧ ∀ a, Q (.ref a) ((a, .list l) :: o1)) : SE W A env (.List elts pos) own Q := fun fz s H ht => by
  refine List_ (wp_then (h fz s H ht) ht fun fz1 vs l o1 s1 k1 H1 t1 r1 q1 => ?_)
  refine wpAny_newObj_type ?_ (by show vs.toArray.size ≤ sizeLine; rw [List.size_toArray, ← r1.length]; exact q1.1)
  exact ⟨fz1, _, _, k1, H1.new (ob := .list l) (k := s1.toks) (Keep.push _ _) (get?_ge (Nat.le_refl _)) (Heap.get?_push_size _ rfl) ⟨vs, 0, rfl, r1⟩, .val _, q1.2 _⟩
/-- a list that stays as it is -/
theorem SE_ListF {elts : List Expr} {pos : Pos} {Q : V → Own → Prop} (h : SEs W A env pos elts own fun l o1 => ∃ ds, AllDat l ds ∧ ds.length ≤ sizeLine ∧ Q (.lst ds) o1) : SE W A env (.List elts pos) own Q := fun fz s H ht => by
  refine List_ (wp_then (h fz s H ht) ht fun fz1 vs l o1 s1 k1 H1 t1 r1 q1 => ?_)
  obtain ⟨ds, ad, hz, q⟩ := q1
  refine wpAny_newObj_type ?_ (by show vs.toArray.size ≤ sizeLine; rw [List.size_toArray, ← r1.length, ad.length]; exact hz)
  obtain ⟨kk, H'⟩ := H1.frz (k := s1.toks) (o := listObj vs 0) rfl (Keep.push _ _) (get?_ge (Nat.le_refl _)) (Heap.get?_push_size _ rfl)
  exact ⟨_, _, o1, k1.trans kk, H', rv_list (putH_at rfl) (by rw [← ad.eq]; exact r1.mono kk), q⟩
/-! ### items -/
theorem rvs_dat_get {fz : Heap} {ds : List PyData} {vs : List Value} (r : RVs fz (ds.map V.dat) vs) {i : Nat} {d : PyData} (h : ds[i]? = some d) : ∃ v, vs[i]? = some v ∧ RV fz (.dat d) v :=
  r.get (by rw [List.getElem?_map, h]; rfl)

/-- the place of an index -/
def place (k : Int) (n : Nat) : Nat := if k < 0 then (k + n).toNat else k.toNat
theorem sub_lst {o i : Expr} {l : List PyData} {k : Int} {d : PyData} {Q : V → Own → Prop} (hlo : -(l.length : Int) ≤ k) (hhi : k < (l.length : Int)) (hz : l.length ≤ sizeLine) (hx : l[place k l.length]? = some d) (h : Q (.dat d) own)
    (hs : ∀ v u, subscripted i false v u = operate [v, u] (getItem v u) := by intro _ _; with_unfolding_all rfl) : S2 W A RV (subscriptTail o i) (.lst l) (.int k) own Q := fun fz s v u H _ r1 r2 => by
  obtain ⟨t, rfl⟩ := r2.int_inv
  obtain ⟨a, vs, rfl, hl, rs⟩ := r1.lst_inv
  obtain ⟨x, e, r⟩ := rvs_dat_get rs hx
  have hlen := rs.length
  rw [List.length_map] at hlen
  have hsz : vs.toList.length = vs.size := Array.length_toList
  rw [sizeLine_eq] at hz
  have hl' := IsList_keep hl H.has
  unfold place at e
  rw [hlen, hsz] at e
  by_cases hk : k < 0
  · rw [if_pos hk] at e
    exact tail_any hl'.typeIs slot_list_getitem.lookup (wpAny_getItem_list_neg hl' hk (by omega) (by omega) (by rw [← Array.getElem?_toList]; exact e) ⟨fz, _, own, .refl _, H, r, h⟩) (hs _ _)
  · rw [if_neg hk] at e
    exact tail_any hl'.typeIs slot_list_getitem.lookup (wpAny_getItem_list hl' (by omega) (by omega) (by rw [← Array.getElem?_toList]; exact e) ⟨fz, _, own, .refl _, H, r, h⟩) (hs _ _)
theorem seqIndex_place {k : Int} {n : Nat} (hlo : -(n : Int) ≤ k) (hhi : k < (n : Int)) : seqIndex? k n = some (place k n) := by
  unfold seqIndex? place
  by_cases hk : k < 0
  · have h1 : (0 : Int) ≤ k + n := by omega
    have h2 : k + n < (n : Int) := by omega
    simp [hk, h1, h2]
  · have h1 : (0 : Int) ≤ k := by omega
    simp [hk, h1, hhi]
theorem sub_str {o i : Expr} {x : Str} {k : Int} {c : Nat} {Q : V → Own → Prop} (hlo : -(x.length : Int) ≤ k) (hhi : k < (x.length : Int)) (hz : x.length ≤ sizeLine) (hx : x.cps[place k x.length]? = some c) (h : Q (.str ⟨#[c]⟩) own)
    (hs : ∀ v u, subscripted i false v u = operate [v, u] (getItem v u) := by intro _ _; with_unfolding_all rfl) : S2 W A RV (subscriptTail o i) (.str x) (.int k) own Q := fun fz s v u H _ r1 r2 => by
  obtain ⟨t, rfl⟩ := r2.int_inv
  obtain ⟨t', rfl⟩ := r1.str_inv
  rw [sizeLine_eq] at hz
  have hc : Txt.charAt x k = some c := by unfold Txt.charAt; rw [seqIndex_place hlo hhi]; exact hx
  refine tail_any (typeIs_str s x t') F.slot_str_getitem.lookup (SB.getItem ?_ (by rw [hc]; rfl) ?_) (hs _ _)
  · unfold fitsSsize; simp; omega
  · have e : Txt.item x k = ⟨#[c]⟩ := by unfold Txt.item; rw [hc]; rfl
    rw [e]; exact at_tok H _ (.dat (.str _ _)) h

/-! ### appending -/
theorem do_append {a : Addr} {l : List V} {x : V} {own' : Own} {Q : V → Own → Prop} (u : Upd a (.list l) (.list (l ++ [x])) own own') (hz : l.length ≤ sizeLine) (h : Q .none own') :
    S1 W A RV (fun v => call (.builtin "list.append") [.ref a, v]) x own Q := fun fz s v H _ r => by
  obtain ⟨ob, ho, vs, n, rfl, rs⟩ := H.get u.mem
  refine wpAny_list_append_plain (l := a) (items := vs.toArray) ⟨n, ho⟩ (fun h' ⟨n', hl'⟩ hs' => ?_) (hsz := by rw [List.size_toArray, ← rs.length]; exact hz)
  exact ⟨fz, _, own', .refl _, H.set (k := s.toks) u hs' hl' ⟨vs ++ [v], n', by simp [listObj], rs.append (.cons r .nil)⟩, .dat .none, h⟩
end
section
variable {W : Wd} {A : Around} {env : Env} {own : Own}

/-! ### forgetting -/
inductive ObW : Ob → Ob → Prop
  | refl {o : Ob} : ObW o o
  | ns {l l' : List (Str × V)} : l'.Sublist l → ObW (.ns l) (.ns l')
inductive Wk : Own → Own → Prop
  | nil {l : Own} : Wk l []
  | refl {l : Own} : Wk l l
  | keep {a : Addr} {ob ob' : Ob} {l l' : Own} : ObW ob ob' → Wk l l' → Wk ((a, ob) :: l) ((a, ob') :: l')
  | drop {p : Addr × Ob} {l l' : Own} : Wk l l' → Wk (p :: l) l'
theorem ObW.is {fz : Heap} {ob ob' : Ob} {o : Obj} (x : ObW ob ob') (h : ObIs fz ob o) : ObIs fz ob' o := by
  cases x with
  | refl => exact h
  | ns k => obtain ⟨es, ep, h1, h2, h3⟩ := h; exact ⟨es, ep, h1, h2, fun p hp => h3 p (k.subset hp)⟩
theorem Wk.hold {fz : Heap} {own own' : Own} (x : Wk own own') : ∀ {s : Shared}, Hold W fz own s → Hold W fz own' s := by
  have key : ∀ {own own' : Own}, Wk own own' → (∀ p' ∈ own', ∃ p ∈ own, p.1 = p'.1 ∧ ObW p.2 p'.2) ∧ (own'.map (·.1)).Sublist (own.map (·.1)) := by
    intro own own' x
    induction x with
    | nil => exact ⟨fun p hp => (nomatch hp), List.nil_sublist _⟩
    | refl => exact ⟨fun p hp => ⟨p, hp, rfl, .refl⟩, List.Sublist.refl _⟩
    | @keep a ob ob' l l' h _ ih =>
      refine ⟨fun p hp => ?_, by simpa using ih.2⟩
      rcases List.mem_cons.mp hp with rfl | hp
      · exact ⟨(a, ob), List.mem_cons_self, rfl, h⟩
      · obtain ⟨q, hq, r⟩ := ih.1 p hp; exact ⟨q, List.mem_cons_of_mem _ hq, r⟩
    | @drop p l l' _ ih =>
      refine ⟨fun p hp => ?_, ?_⟩
      · obtain ⟨q, hq, r⟩ := ih.1 p hp; exact ⟨q, List.mem_cons_of_mem _ hq, r⟩
      · exact ih.2.trans (by simp)
  intro s H
  obtain ⟨k1, k2⟩ := key x
  refine ⟨H.base, H.has, fun p hp => ?_, fun p hp => ?_, H.nd.sublist k2, H.gens, H.os⟩
  · obtain ⟨q, hq, e, w⟩ := k1 p hp
    obtain ⟨o, ho, r⟩ := H.obs q hq
    exact ⟨o, e ▸ ho, w.is r⟩
  · obtain ⟨q, hq, e, w⟩ := k1 p hp
    exact e ▸ H.out q hq
theorem Wk.trans {a b : Own} (x : Wk a b) : ∀ {c : Own}, Wk b c → Wk a c := by
  induction x with
  | nil => intro c y; cases y <;> exact .nil
  | refl => intro c y; exact y
  | keep h _ ih =>
    intro c y
    cases y with
    | nil => exact .nil
    | refl => exact .keep h (ih .refl)
    | keep h' y' =>
      refine .keep ?_ (ih y')
      cases h with
      | refl => exact h'
      | ns k => cases h' with
        | refl => exact .ns k
        | ns k' => exact .ns (k'.trans k)
    | drop y' => exact .drop (ih y')
  | drop _ ih => intro c y; exact .drop (ih y)

theorem SG.wk {α β : Type} {R : Heap → β → α → Prop} {t : Sem α} {own own' : Own} {Q : β → Own → Prop} (k : Wk own own') (h : SG W A R t own' Q) : SG W A R t own Q :=
  fun fz s H ht => h fz s (k.hold H) ht

/-! ### calls of the text's own -/
abbrev retTo (Q : V → Own → Prop) : Fl → Own → Prop := fun fl o => ∃ own', Wk o own' ∧ Q (match fl with | .ret v => v | _ => .none) own'

theorem zip_lookup {fz : Heap} : ∀ {names : List Str} {l : List V} {vs : List Value}, RVs fz l vs → names.Nodup → ∀ p ∈ names.zip l, ∃ v, (names.zip vs).lookup p.1 = some v ∧ RV fz p.2 v
  | [], _, _, _, _, p, hp => by simp at hp
  | n :: r, _, _, .nil, _, p, hp => by simp at hp
  | n :: r, _, _, .cons (a := a) (v := v) (l := l) (vs := vs) h t, nd, p, hp => by
    rw [List.nodup_cons] at nd
    rw [List.zip_cons_cons, List.mem_cons] at hp
    rcases hp with rfl | hp
    · exact ⟨v, by simp, h⟩
    · obtain ⟨u, e, q⟩ := zip_lookup t nd.2 p hp
      refine ⟨u, ?_, q⟩
      rw [List.zip_cons_cons, List.lookup_cons]
      have hne : p.1 ≠ n := fun e => nd.1 (e ▸ (List.of_mem_zip (show (p.1, p.2) ∈ r.zip l from hp)).1)
      have : (p.1 == n) = false := by simpa using hne
      rw [this]; exact e
theorem lookup_reverse {l : List (Str × Value)} (nd : (l.map (·.1)).Nodup) (x : Str) : l.reverse.lookup x = l.lookup x := by
  induction l with
  | nil => rfl
  | cons p l ih =>
    rw [List.map_cons, List.nodup_cons] at nd
    rw [List.reverse_cons, List.lookup_append, ih nd.2, List.lookup_cons]
    cases e : x == p.1 with
    | true =>
      have : l.lookup x = none := by
        rw [List.lookup_eq_none_iff]
        intro q hq
        have : x ≠ q.1 := fun e' => nd.1 (List.mem_map.mpr ⟨q, hq, by rw [← e', eq_of_beq e]⟩)
        simpa using this
      rw [this]
      obtain ⟨p1, p2⟩ := p
      have e' : (x == p1) = true := e
      simp [List.lookup_cons, e']
    | false =>
      obtain ⟨p1, p2⟩ := p
      have e' : (x == p1) = false := e
      simp [List.lookup_cons, e']

theorem zip_fst {α β : Type} : ∀ {a : List α} {b : List β}, ((a.zip b).map (·.1)).Sublist a
  | [], _ => by simp
  | _ :: _, [] => by simp
  | x :: a, y :: b => by simpa using zip_fst

/-- a call's own code -/
def SLC (W : Wd) (A : Around) (f : Value) (args : List V) (own : Own) (Q : V → Own → Prop) : Prop :=
  ∀ fz s vs, Hold W fz own s → W.tk ≤ s.toks → RVs fz args vs → codeAny (model W.prog W.w) A (.call f ⟨vs, []⟩)
    (fun r s' => match r with | .ok (.ret v) => ∃ fz' b own', Keep fz fz' ∧ Hold W fz' own' s' ∧ RV fz' b v ∧ Q b own' | .ok _ => False | .error _ => False) s
theorem SLC.call {f : Value} {args : List V} {Q : V → Own → Prop} (h : SLC W A f args own Q) : SL W A RV (fun vs => call f vs) args own Q := fun fz s vs H ht rs =>
  wpAny_call (codeAny_mono (h fz s vs H ht rs) fun r s' x => by rcases r with e | (v | _ | _ | _) <;> first | exact x | exact x.elim)
theorem SLC.mono {f : Value} {args : List V} {Q Q' : V → Own → Prop} (h : SLC W A f args own Q) (q : ∀ b o, Q b o → Q' b o) : SLC W A f args own Q' := fun fz s vs H ht rs =>
  codeAny_mono (h fz s vs H ht rs) fun r s' x => by
    rcases r with e | (v | _ | _ | _) <;> first | exact x.elim | skip
    obtain ⟨fz', b, own', k, H', r, x⟩ := x
    exact ⟨fz', b, own', k, H', r, q _ _ x⟩

theorem do_callC {f : Addr} {args : List V} {Q : V → Own → Prop} {name qual : Str} {params : Arguments} {body : List Stmt} {scope : Scope} {dV kV doc pm cdv ct oc : Value} {an od : Option Addr} {osl : Array (Option Value)}
    (names : List Str) (ho : W.K.lookup f = some ⟨oc, od, .func (fnOf name qual params body scope dV kV doc pm an cdv ct), osl⟩) (hcd : codeIn W.K cdv qual = true) (hroom : A.depth < recursionLimit)
    (hb : ∀ s vs, W.K.In s.heap → vs.length = args.length → BindsTo s (fnOf name qual params body scope dV kV doc pm an cdv ct) ⟨vs, []⟩ (names.zip vs))
    (hloc : ∀ y ∈ names, scope.names.lookup y = some .local) (nd : names.Nodup)
    (h : ∀ L, SXs W (A.deeper (envX qual scope L f cdv [])) (envX qual scope L f cdv []) body ((L, .ns (names.zip args)) :: own) (retTo Q))
    (hco : scope.isCoroutine = false := by rfl) (hgen : scope.isGenerator = false := by rfl) (hk : scope.kind = .function := by rfl)
    (hcell : ∀ x ∈ scope.names, x.2 ≠ .cell := by decide) : SLC W A (.ref f) args own Q := fun fz s vs H ht rs => by
  have ndz : ((names.zip vs).map (·.1)).Nodup := nd.sublist zip_fst
  refine (codeAny_call_def (fd := fnOf name qual params body scope dV kV doc pm an cdv ct) (body := body) (binds := names.zip vs) hroom (H.kin _ _ ho) rfl (W.top.nolimit.keeps H.keep) (codeRec_of H.kin hcd) rfl
    (hb s vs H.kin rs.length.symm) hcell (fun x hx => hloc _ (List.of_mem_zip (show (x.1, x.2) ∈ names.zip vs from hx)).1) (fun h₁ hns hk₁ => ?_) hco hgen hk)
  obtain ⟨o, ho', hob⟩ := of_ns (fz := fz) (loc := names.zip args) hns (fun p hp => by
    obtain ⟨v, e, r⟩ := zip_lookup rs nd p hp
    exact ⟨v, by rw [lookup_reverse ndz]; exact e, r⟩)
  have H₁ : Hold W fz ((s.heap.objs.size, .ns (names.zip args)) :: own) { s with heap := h₁, toks := s.toks + (names.zip vs).length } := H.new hk₁ (get?_ge (Nat.le_refl _)) ho' hob
  refine wpAny_mono (h s.heap.objs.size fz _ H₁ (Nat.le_trans ht (Nat.le_add_right _ _))) (fun fl s' x => ?_) fun _ _ x => x.elim
  obtain ⟨fz', b, own', k, H', r, own'', wk, q⟩ := x
  refine ⟨fz', _, own'', k, wk.hold H', ?_, q⟩
  cases r with
  | next => exact .dat .none
  | brk => exact .dat .none
  | cont => exact .dat .none
  | ret r => exact r

/-! ### iterators -/
theorem rvs_drop {fz : Heap} {x : V} {l : List V} {vs : List Value} {i : Nat} (r : RVs fz (x :: l) (vs.drop i)) : ∃ v, vs[i]? = some v ∧ RV fz x v ∧ RVs fz l (vs.drop (i + 1)) := by
  generalize e : vs.drop i = ws at r
  cases r with
  | cons h t =>
    refine ⟨_, by rw [← List.head?_drop, e]; rfl, h, ?_⟩
    rw [← List.tail_drop, e]; exact t
theorem rvs_drop_nil {fz : Heap} {vs : List Value} {i : Nat} (r : RVs fz [] (vs.drop i)) : vs[i]? = none := by
  generalize e : vs.drop i = ws at r
  cases r
  rw [← List.head?_drop, e]; rfl

theorem it_list {l : List PyData} {Q : V → Own → Prop} (h : ∀ a, Q (.ref a) ((a, .it (l.map V.dat)) :: own)) : S1 W A RV pyIter (.lst l) own Q := fun fz s v H _ r => by
  obtain ⟨a, vs, rfl, hl, rs⟩ := r.lst_inv
  refine wpAny_pyIter_list (IsList_keep hl H.has) ?_
  exact ⟨fz, _, _, .refl _, H.new (ob := .it (l.map V.dat)) (k := s.toks) (Keep.push _ _) (get?_ge (Nat.le_refl _)) (Heap.get?_push_size _ rfl) (.list hl (by simpa using rs) rfl rfl), .val _, h _⟩
theorem it_str {x : Str} {Q : V → Own → Prop} (h : ∀ a, Q (.ref a) ((a, .it (x.cps.toList.map fun c => V.str ⟨#[c]⟩)) :: own)) : S1 W A RV pyIter (.str x) own Q := fun fz s v H _ r => by
  obtain ⟨t, rfl⟩ := r.str_inv
  cases ha : x.cps.all (· < 128)
  · refine wpAny_pyIter_wide ha ?_
    exact ⟨fz, _, _, .refl _, H.new (ob := .it (x.cps.toList.map fun c => V.str ⟨#[c]⟩)) (k := s.toks) (Keep.push _ _) (get?_ge (Nat.le_refl _)) (Heap.get?_push_size _ rfl) (.wide rfl rfl rfl), .val _, h _⟩
  · refine wpAny_pyIter_ascii ha ?_
    exact ⟨fz, _, _, .refl _, H.new (ob := .it (x.cps.toList.map fun c => V.str ⟨#[c]⟩)) (k := s.toks) (Keep.push _ _) (get?_ge (Nat.le_refl _)) (Heap.get?_push_size _ rfl) (.ascii rfl rfl rfl), .val _, h _⟩
/-- one more is drawn -/
theorem next_some {a : Addr} {x : V} {l : List V} {fz : Heap} {s : Shared} {own' : Own} {P : Option Value → Shared → Prop} (H : Hold W fz own s) (u : Upd a (.it (x :: l)) (.it l) own own')
    (q : ∀ v s', Hold W fz own' s' → s.toks ≤ s'.toks → RV fz x v → P (some v) s') : wpAny (model W.prog W.w) A (pyNext (.ref a)) P NoX s := by
  obtain ⟨o, ho, hob⟩ := H.get u.mem
  cases hob with
  | @list b vs i _ _ hl rs hc hd =>
    obtain ⟨v, e, rx, rl⟩ := rvs_drop rs
    refine wpAny_pyNext_list_item (l := b) (i := i) ⟨o, ho, hc, hd⟩ (IsList_keep hl H.has) (by rw [← Array.getElem?_toList]; exact e) fun h' ⟨o', ho', hc', hd'⟩ hs' => ?_
    exact q v _ (H.set (k := s.toks) u hs' ho' (.list hl rl hc' (by exact hd'))) (Nat.le_refl _) rx
  | @tup b vs i _ _ hl rs hc hd =>
    obtain ⟨v, e, rx, rl⟩ := rvs_drop rs
    refine wpAny_pyNext_tuple_item (t := b) (i := i) ⟨o, ho, hc, hd⟩ (IsTuple_keep hl H.has) (by rw [← Array.getElem?_toList]; exact e) fun h' ⟨o', ho', hc', hd'⟩ hs' => ?_
    exact q v _ (H.set (k := s.toks) u hs' ho' (.tup hl rl hc' (by exact hd'))) (Nat.le_refl _) rx
  | @range y c n _ _ hl e =>
    subst e
    cases n with
    | zero => cases hl
    | succ n =>
      rw [List.range_succ_eq_map, List.map_cons, List.map_map] at hl
      injection hl with e1 e2
      refine wpAny_pyNext_range_item (x := y) (left := ((n + 1 : Nat) : Int)) (step := c) (by exact ho) (by omega) fun h' hit hs' => ?_
      refine q _ _ (H.set (k := s.toks + 1) u hs' (by exact hit) (.range (x := y + c) (n := n) (c := c) ?_ ?_)) (Nat.le_succ _) ?_
      · rw [e2]; apply List.map_congr_left; intro j _
        have : y + ((Nat.succ j : Nat) : Int) * c = y + c + (j : Int) * c := by
          rw [Nat.succ_eq_add_one]; push_cast; rw [Int.add_mul, Int.one_mul]; omega
        show V.int (y + ((Nat.succ j : Nat) : Int) * c) = _
        rw [this]
      · have : (((n + 1 : Nat) : Int) - 1) = (n : Int) := by push_cast; omega
        rw [this]
      · rw [e1]; simp; exact .dat (.int _ _)
  | @ascii y t i _ _ hl hc hd =>
    have e : y.cps[i]? = (y.cps.toList.drop i).head? := by rw [List.head?_drop, Array.getElem?_toList]
    have tl : y.cps.toList.drop (i + 1) = (y.cps.toList.drop i).tail := (List.tail_drop ..).symm
    cases hq : y.cps.toList.drop i with
    | nil => rw [hq] at hl; cases hl
    | cons c r =>
      rw [hq] at hl e tl
      injection hl with e1 e2
      refine wpAny_pyNext_ascii_item (x := y) (t := t) (i := i) (c := c) ⟨o, ho, hc, hd⟩ e fun h' ⟨o', ho', hc', hd'⟩ hs' => ?_
      exact q _ _ (H.set (k := s.toks + 1) u hs' ho' (.ascii (by rw [tl]; exact e2) hc' (by exact hd'))) (Nat.le_succ _) (by rw [e1]; exact .dat (.str _ _))
  | @wide y t i _ _ hl hc hd =>
    have e : y.cps[i]? = (y.cps.toList.drop i).head? := by rw [List.head?_drop, Array.getElem?_toList]
    have tl : y.cps.toList.drop (i + 1) = (y.cps.toList.drop i).tail := (List.tail_drop ..).symm
    cases hq : y.cps.toList.drop i with
    | nil => rw [hq] at hl; cases hl
    | cons c r =>
      rw [hq] at hl e tl
      injection hl with e1 e2
      refine wpAny_pyNext_wide_item (x := y) (t := t) (i := i) (c := c) ⟨o, ho, hc, hd⟩ e fun h' ⟨o', ho', hc', hd'⟩ hs' => ?_
      exact q _ _ (H.set (k := s.toks + 1) u hs' ho' (.wide (by rw [tl]; exact e2) hc' (by exact hd'))) (Nat.le_succ _) (by rw [e1]; exact .dat (.str _ _))

theorem Hold.extBut {fz : Heap} {s : Shared} {a : Addr} {ob : Ob} (H : Hold W fz ((a, ob) :: own) s) {h' : Heap} {k : Nat} (he : Heap.ExtBut a s.heap h') : Hold W fz own { s with heap := h', toks := k } where
  base := H.base
  has := fun b o e => he b o (fun hb => by have := H.out _ List.mem_cons_self; rw [hb] at e; exact absurd e (by rw [this]; exact fun x => nomatch x)) (H.has b o e)
  obs := fun p hp => by
    obtain ⟨o, e, r⟩ := H.obs p (List.mem_cons_of_mem _ hp)
    have nd := H.nd
    rw [List.map_cons, List.nodup_cons] at nd
    exact ⟨o, he _ _ (fun hb => nd.1 (List.mem_map.mpr ⟨p, hp, hb⟩)) e, r⟩
  out := fun p hp => H.out p (List.mem_cons_of_mem _ hp)
  nd := by have nd := H.nd; rw [List.map_cons, List.nodup_cons] at nd; exact nd.2
  gens := H.gens
  os := H.os

theorem next_over {prog : Program} {w : World} {E : Value → Shared → Prop} {s : Shared} {it : Addr} {o : Obj} {k : Value} {Q : Option Value → Shared → Prop} (hh : A.handled = none)
    (ho : s.heap.get? it = some o) (hc : o.cls = .type "list_iterator") (hd : o.data = .fields #[.none, k])
    (hQ : ∀ h', Keep s.heap h' → Q none { s with heap := h' }) : wpAny (model prog w) A (pyNext (.ref it)) Q E s := by
  have hT : s.TypeIs (.ref it) "list_iterator" := ⟨o, ho, hc⟩
  unfold pyNext
  refine wpAny_bind (wpAny_attempt (wpAny_callSpecial?_slot (name := Str.ofString "__next__") hT slot_listiter_next
    (wpAny_call_entry slot_listiter_next hT entry_listiter_next ?_ (args_listiter_next _))))
  show wpAny _ _ (field (.ref it) 0 >>= _) _ _ s
  refine wpAny_bind (wpAny_field ho hd (x := .none) rfl ?_)
  show wpAny _ _ (if (Value.none == Value.none) = true then _ else _) _ _ s
  rw [if_pos (show ((Value.none == Value.none) = true) from rfl)]
  refine wpAny_bind (wpAny_rule ?_)
  refine wpAny_bind ?_
  show wpAny _ _ (newExc (.type "StopIteration") [] >>= _) _ _ _
  refine wpAny_bind ?_
  simp only [newExc, newTuple]
  refine wpAny_bind (wpAny_newObj_type ?_ (by size_fits))
  refine wpAny_bind (m := firstArgMember _ _) (wpAny_of_eq (a := Value.none) (by first | rfl | (simp only [firstArgMember]; rfl)) ?_)
  refine wpAny_newObj_type ?_ (by size_fits)
  simp only [raiseNew]
  refine wpAny_bind (wpAny_handled ?_)
  rw [show A.in1.handled = none from hh]
  refine wpAny_bind (wpAny_pure (wpAny_throw ?_))
  refine wpAny_bind (wpAny_isInstance (T := "StopIteration") (b := true) ⟨_, Heap.get?_push_size _ rfl, rfl⟩ isSubtype_stop ?_)
  exact wpAny_pure (hQ _ ((Keep.push _ _).trans (Keep.push _ _)))

theorem next_none {a : Addr} {fz : Heap} {s : Shared} {P : Option Value → Shared → Prop} (hh : A.handled = none) (H : Hold W fz ((a, .it []) :: own) s)
    (q : ∀ s', Hold W fz own s' → s.toks ≤ s'.toks → P none s') : wpAny (model W.prog W.w) A (pyNext (.ref a)) P NoX s := by
  obtain ⟨o, ho, hob⟩ := H.get List.mem_cons_self
  cases hob with
  | @list b vs i _ _ hl rs hc hd =>
    refine wpAny_pyNext_list_end hh (l := b) (i := i) ⟨o, ho, hc, hd⟩ (IsList_keep hl H.has) (by rw [← Array.getElem?_toList]; exact rvs_drop_nil rs) fun h' he => ?_
    exact q _ (H.extBut (k := s.toks) he) (Nat.le_refl _)
  | @tup b vs i _ _ hl rs hc hd =>
    refine wpAny_pyNext_tuple_end hh (t := b) (i := i) ⟨o, ho, hc, hd⟩ (IsTuple_keep hl H.has) (by rw [← Array.getElem?_toList]; exact rvs_drop_nil rs) fun h' he => ?_
    exact q _ (H.extBut (k := s.toks) he) (Nat.le_refl _)
  | @range y c n _ _ hl e =>
    subst e
    cases n with
    | zero =>
      refine wpAny_pyNext_range_end hh (x := y) (left := ((0 : Nat) : Int)) (step := c) (by exact ho) (by omega) fun h' he => ?_
      exact q _ (H.extBut (k := s.toks) he) (Nat.le_refl _)
    | succ n => rw [List.range_succ_eq_map, List.map_cons] at hl; cases hl
  | @ascii y t i _ _ hl hc hd =>
    have e : y.cps[i]? = none := by
      have : y.cps.toList.drop i = [] := by simpa using hl.symm
      rw [← Array.getElem?_toList, ← List.head?_drop, this]; rfl
    refine wpAny_pyNext_ascii_end hh (x := y) (t := t) (i := i) ⟨o, ho, hc, hd⟩ e fun h' he => ?_
    exact q _ (H.extBut (k := s.toks) he) (Nat.le_refl _)
  | @wide y t i _ _ hl hc hd =>
    have e : y.cps[i]? = none := by
      have : y.cps.toList.drop i = [] := by simpa using hl.symm
      rw [← Array.getElem?_toList, ← List.head?_drop, this]; rfl
    refine wpAny_pyNext_wide_end hh (x := y) (t := t) (i := i) ⟨o, ho, hc, hd⟩ e fun h' he => ?_
    exact q _ (H.extBut (k := s.toks) he) (Nat.le_refl _)
  | over hc hd => exact next_over hh ho hc hd fun h' hk => q _ (H.tail.grow (k := s.toks) hk) (Nat.le_refl _)

/-! ### targets -/
theorem it_cls {fz : Heap} {l : List V} {o : Obj} (x : ItIs fz l o) : ∃ n, o.cls = .type n ∧ ["enumerate", "zip", "dict_itemiterator", "dict_reverseitemiterator", "odict_iterator", "itertools.zip_longest", "itertools.pairwise"].contains n = false := by
  cases x with
  | list _ _ c _ => exact ⟨_, c, by decide⟩
  | tup _ _ c _ => exact ⟨_, c, by decide⟩
  | range _ e => subst e; exact ⟨_, rfl, by decide⟩
  | ascii _ c _ => exact ⟨_, c, by decide⟩
  | wide _ c _ => exact ⟨_, c, by decide⟩
  | over c _ => exact ⟨_, c, by decide⟩
theorem let_go {prog : Program} {w : World} {E : Value → Shared → Prop} {s : Shared} {fz : Heap} {l : List V} {o : Obj} {it : Addr} {v : Value} {target : Expr} {Q : Unit → Shared → Prop} (ho : s.heap.get? it = some o) (x : ItIs fz l o) (h : Q () s) :
    wpAny (model prog w) A (letOwnedTupleGo target (.ref it) v) Q E s := by
  obtain ⟨n, hc, hn⟩ := it_cls x
  unfold letOwnedTupleGo
  have key : wpAny (model prog w) A (do
      let (.ref r, .ref a) := ((Value.ref it), v) | return
      let o ← load r
      match o.cls, o.data with
      | .type n, .fields vs =>
        if ["enumerate", "zip", "dict_itemiterator", "dict_reverseitemiterator", "odict_iterator", "itertools.zip_longest", "itertools.pairwise"].contains n && vs[0]? == some (rawInt a) then
          rule "for.unpacks-the-owned-tuple"
          updateField r 0 .none
      | _, _ => pure ()) Q E s := by
    cases v with
    | ref a =>
      show wpAny _ _ (load it >>= _) _ _ _
      refine wpAny_bind (wpAny_load ho ?_)
      obtain ⟨c, d, dt, sl⟩ := o
      cases hc
      cases dt <;> first
        | exact wpAny_pure h
        | (dsimp only; rw [hn, Bool.false_and, if_neg Bool.false_ne_true]; exact wpAny_pure h)
    | _ => exact wpAny_pure h
  cases target <;> first | exact key | exact wpAny_pure h

/-! ### loops -/
abbrev turnEnd (it : Addr) (r : List V) (I : List V → Own → Prop) (Q : Fl → Own → Prop) : Fl → Own → Prop
  | .next, o | .cont, o => ∃ o', Wk o ((it, .it r) :: o') ∧ I r o'
  | .brk, o => Q .next o
  | .ret v, o => Q (.ret v) o

theorem for_core {target : Expr} {body : List Stmt} {Q : Fl → Own → Prop} {it : Addr} (hh : A.handled = none) (I : List V → Own → Prop)
    (turn : ∀ x r o, I (x :: r) o → SA W A env target x ((it, .it r) :: o) fun o' => SXs W A env body o' (turnEnd it r I Q)) (last : ∀ o, I [] o → Q .next o) :
    ∀ (l : List V) (own : Own) (fz : Heap) (s : Shared), Hold W fz ((it, .it l) :: own) s → W.tk ≤ s.toks → I l own →
      codeAny (model W.prog W.w) A (.forLoop target (.ref it) body [] env) (fun r s' => match r with | .ok f => ∃ fz' b own', Keep fz fz' ∧ Hold W fz' own' s' ∧ RF fz' b f ∧ Q b own' | .error _ => False) s := by
  intro l own fz s H ht hI
  refine codeAny_loop' rfl (fun n s' => ∃ fz' l own, l.length = n ∧ Keep fz fz' ∧ Hold W fz' ((it, .it l) :: own) s' ∧ W.tk ≤ s'.toks ∧ I l own) (fun n s' hJ => ?_) l.length ⟨fz, l, own, rfl, .refl _, H, ht, hI⟩
  obtain ⟨fz₁, l₁, own₁, rfl, k₁, H₁, t₁, I₁⟩ := hJ
  show wpAny _ _ ((forTurn target (.ref it) body [] env).onRaise (fun x => do noteFrame x env; theTreesLotGoes x)) _ _ s'
  refine wpAny_onRaise (wpAny_mono (E := NoX) ?_ (fun _ _ q => q) fun _ _ x => x.elim)
  simp only [forTurn]
  refine wpAny_bind (wpAny_standAt (wpAny_bind (wpAny_onRaise (wpAny_mono (E := NoX) (Q := fun r s₁ => match r with
    | none => ∃ o, I [] o ∧ Hold W fz₁ o s₁ ∧ W.tk ≤ s₁.toks
    | some v => ∃ x r o, l₁ = x :: r ∧ I (x :: r) o ∧ Hold W fz₁ ((it, .it r) :: o) s₁ ∧ W.tk ≤ s₁.toks ∧ RV fz₁ x v) ?_ (fun r s₁ h₁ => ?_) fun _ _ x => x.elim))))
  · cases l₁ with
    | nil => exact next_none hh H₁ fun s'' H'' t'' => ⟨own₁, I₁, H'', Nat.le_trans t₁ t''⟩
    | cons x r => exact next_some H₁ .here fun v s'' H'' t'' rx => ⟨x, r, own₁, rfl, I₁, H'', Nat.le_trans t₁ t'', rx⟩
  · cases r with
    | none =>
      obtain ⟨o, Io, Ho, to⟩ := h₁
      refine wpAny_pure (.inr ⟨rfl, codeAny_block (wpAny_execs_nil ?_)⟩)
      exact ⟨fz₁, .next, o, k₁, Ho, .next, last o Io⟩
    | some v =>
      obtain ⟨x, r, o, rfl, Io, Ho, to, rx⟩ := h₁
      obtain ⟨ob, hob, hit⟩ := Ho.get List.mem_cons_self
      refine wpAny_bind (let_go hob hit ?_)
      refine wpAny_bind (wp_then (turn x r o Io fz₁ _ v Ho to rx) to fun fz₂ _ _ o₂ s₂ k₂ H₂ t₂ _ q₂ => wpAny_bind (wp_then (q₂ fz₂ s₂ H₂ t₂) t₂ fun fz₃ f b o₃ s₃ k₃ H₃ t₃ r₃ q₃ => ?_))
      cases r₃ with
      | next =>
        obtain ⟨o', wk, I'⟩ := q₃
        exact wpAny_pure (.inl ⟨rfl, r.length, by simp, fz₃, r, o', rfl, k₁.trans (k₂.trans k₃), wk.hold H₃, t₃, I'⟩)
      | cont =>
        obtain ⟨o', wk, I'⟩ := q₃
        exact wpAny_pure (.inl ⟨rfl, r.length, by simp, fz₃, r, o', rfl, k₁.trans (k₂.trans k₃), wk.hold H₃, t₃, I'⟩)
      | brk => exact wpAny_pure ⟨fz₃, _, o₃, k₁.trans (k₂.trans k₃), H₃, .next, q₃⟩
      | ret rv => exact wpAny_pure ⟨fz₃, _, o₃, k₁.trans (k₂.trans k₃), H₃, .ret rv, q₃⟩

/-- what a for wants of its iterator -/
abbrev Fors (W : Wd) (A : Around) (env : Env) (target : Expr) (body : List Stmt) (Q : Fl → Own → Prop) (b : V) (o : Own) : Prop :=
  ∃ it l o', b = .ref it ∧ o = (it, .it l) :: o' ∧ ∃ I : List V → Own → Prop, I l o' ∧ (∀ x r o, I (x :: r) o → SA W A env target x ((it, .it r) :: o) fun o' => SXs W A env body o' (turnEnd it r I Q)) ∧ (∀ o, I [] o → Q .next o)
theorem SX_For {target iter : Expr} {body : List Stmt} {pos : Pos} {Q : Fl → Own → Prop} (hh : A.handled = none) (h : SE W A env iter own fun a o1 => S1 W A RV pyIter a o1 (Fors W A env target body Q))
    (hs : ∀ x, foldedSetIterable iter env x = pure x := by intro _; rfl) : SX W A env (.For target iter body [] pos) own Q := fun fz s H ht => by
  refine wpAny_For (wp_then (h fz s H ht) ht fun fz1 va a o1 s1 k1 H1 t1 r1 q1 => wp_then (q1 fz1 s1 va H1 t1 r1) t1 fun fz2 vb b o2 s2 k2 H2 t2 r2 q2 => ?_) hs
  obtain ⟨it, l, o', rfl, rfl, I, Il, turn, last⟩ := q2
  cases r2.val_inv
  refine codeAny_mono (for_core hh I turn last l o' fz2 s2 H2 t2 Il) fun r s' x => ?_
  cases r with
  | ok f => obtain ⟨fz', b, own', k, rest⟩ := x; exact ⟨fz', b, own', k1.trans (k2.trans k), rest⟩
  | error e => exact x.elim

theorem SX_While {test : Expr} {body : List Stmt} {pos : Pos} {Q : Fl → Own → Prop} (J : Nat → Own → Prop) (n : Nat) (h0 : J n own)
    (turn : ∀ n o, J n o → ST W A env test o fun b o1 => if b then SXs W A env body o1 (fun fl o2 => match fl with
      | .next | .cont => ∃ o' m, Wk o2 o' ∧ m < n ∧ J m o'
      | .brk => Q .next o2
      | .ret v => Q (.ret v) o2) else Q .next o1) : SX W A env (.While test body [] pos) own Q := fun fz s H ht => by
  refine wpAny_While (codeAny_mono (codeAny_whileLoop (R := fun r s' => match r with | .ok f => ∃ fz' b own', Keep fz fz' ∧ Hold W fz' own' s' ∧ RF fz' b f ∧ Q b own' | .error _ => False)
    (fun n s' => ∃ fz' own, Keep fz fz' ∧ Hold W fz' own s' ∧ W.tk ≤ s'.toks ∧ J n own) (fun n s' hJ => ?_) n ⟨fz, own, .refl _, H, ht, h0⟩) fun r s' x => ?_)
  · obtain ⟨fz₁, own₁, k₁, H₁, t₁, J₁⟩ := hJ
    refine wpAny_mono (E := NoX) (wp_then (turn n own₁ J₁ fz₁ s' H₁ t₁) t₁ fun fz2 va b o2 s2 k2 H2 t2 r2 q2 => ?_) (fun _ _ x => x) fun _ _ x => x.elim
    subst r2
    cases va
    · exact wpAny_execs_nil ⟨fz2, .next, o2, k₁.trans k2, H2, .next, q2⟩
    · refine wpAny_mono (E := NoX) (wp_then (q2 fz2 s2 H2 t2) t2 fun fz₃ f b o₃ s₃ k₃ H₃ t₃ r₃ q₃ => ?_) (fun _ _ x => x) fun _ _ x => x.elim
      cases r₃ with
      | next => obtain ⟨o', m, wk, hm, J'⟩ := q₃; exact ⟨m, hm, fz₃, o', k₁.trans (k2.trans k₃), wk.hold H₃, t₃, J'⟩
      | cont => obtain ⟨o', m, wk, hm, J'⟩ := q₃; exact ⟨m, hm, fz₃, o', k₁.trans (k2.trans k₃), wk.hold H₃, t₃, J'⟩
      | brk => exact ⟨fz₃, .next, o₃, k₁.trans (k2.trans k₃), H₃, .next, q₃⟩
      | ret rv => exact ⟨fz₃, _, o₃, k₁.trans (k2.trans k₃), H₃, .ret rv, q₃⟩
  · cases r with
    | ok f => exact x
    | error e => exact x.elim

/-! ### unpacking -/
end
section
variable {W : Wd} {A : Around} {env : Env} {own : Own}

theorem it_self {fz : Heap} {s : Shared} {it : Addr} {l : List V} {Q : Value → Shared → Prop} {E : Value → Shared → Prop} (H : Hold W fz own s) (hm : (it, Ob.it l) ∈ own) (h : Q (.ref it) s) :
    wpAny (model W.prog W.w) A (pyIter (.ref it)) Q E s := by
  obtain ⟨o, ho, hob⟩ := H.get hm
  cases hob with
  | list _ _ hc hd => exact wpAny_pyIter_listiter ⟨o, ho, hc, hd⟩ h
  | tup _ _ hc hd => exact wpAny_pyIter_tupleiter ⟨o, ho, hc, hd⟩ h
  | range _ e => subst e; exact wpAny_pyIter_rangeiter (by exact ho) h
  | ascii _ hc hd => exact wpAny_pyIter_striter_ascii ⟨o, ho, hc, hd⟩ h
  | wide _ hc hd => exact wpAny_pyIter_striter_wide ⟨o, ho, hc, hd⟩ h
  | over hc hd =>
    have hT : s.TypeIs (.ref it) "list_iterator" := ⟨o, ho, hc⟩
    refine wpAny_pyIter_slot hT slot_listiter_iter (wpAny_call_entry slot_listiter_iter hT entry_listiter_iter ?_ (args_listiter_iter _))
    show wpAny _ _ (ret (.ref it)) _ _ s
    exact wpAny_pure ⟨_, rfl, "list_iterator", _, hT, slot_listiter_next.lookup, h⟩
/-! ### comprehensions -/
def testsSem (ifs : List Expr) (cenv : Env) : Sem Bool := forIn ifs true fun c r => if r = true then do let ok ← isTrue c cenv (eval c cenv); pure (ForInStep.yield ok) else pure (ForInStep.yield r)
abbrev STs (W : Wd) (A : Around) (cenv : Env) (ifs : List Expr) (own : Own) (Q : Bool → Own → Prop) : Prop := SG W A RB (testsSem ifs cenv) own Q
theorem STs_nil {Q : Bool → Own → Prop} (h : Q true own) : STs W A env [] own Q := fun fz s H ht => wpAny_tests_nil ⟨fz, _, own, .refl _, H, rfl, h⟩
theorem STs_one {c : Expr} {Q : Bool → Own → Prop} (h : ST W A env c own Q) : STs W A env [c] own Q := fun fz s H ht => wpAny_tests_one (h fz s H ht)

/-- one clause's turns -/
def turnSem (e : Expr) (d : Nat) (p : Pos) (target : Expr) (ifs : List Expr) (inner : Sem Unit) (it acc : Value) (cenv : Env) : Sem Fin := do
  standAt p
  match ← pyNext it with
  | none => pure (.done .next)
  | some v =>
    letOwnedTupleGo target it v
    assign target cenv v
    let ok ← testsSem ifs cenv
    if ok then
      inner
    again (.compLoop e d it acc cenv)

theorem comp_core {e : Expr} {d : Nat} {p : Pos} {target : Expr} {ifs : List Expr} {inner : Sem Unit} {acc : Value} {cenv : Env} {it : Addr} (hh : A.handled = none)
    (heq : compTurn e d (.ref it) acc cenv = turnSem e d p target ifs inner (.ref it) acc cenv)
    (hden : denote table (.compLoop e d (.ref it) acc cenv) = (compTurn e d (.ref it) acc cenv).onRaise (fun x => do noteFrame x cenv; theTreesLotGoes x))
    (hu : A.under (.compLoop e d (.ref it) acc cenv) = A) (I : List V → Own → Prop)
    (turn : ∀ x r o, I (x :: r) o → SA W A cenv target x ((it, .it r) :: o) fun o1 => STs W A cenv ifs o1 fun ok o2 =>
      if ok then SG W A RU inner o2 (fun _ o3 => ∃ o', Wk o3 ((it, .it r) :: o') ∧ I r o') else ∃ o', Wk o2 ((it, .it r) :: o') ∧ I r o') :
    ∀ (l : List V) (own : Own) (fz : Heap) (s : Shared), Hold W fz ((it, .it l) :: own) s → W.tk ≤ s.toks → I l own →
      codeAny (model W.prog W.w) A (.compLoop e d (.ref it) acc cenv) (fun r s' => match r with | .ok _ => ∃ fz' own', Keep fz fz' ∧ Hold W fz' own' s' ∧ W.tk ≤ s'.toks ∧ I [] own' | .error _ => False) s := by
  intro l own fz s H ht hI
  refine codeAny_loop' rfl (fun n s' => ∃ fz' l own, l.length = n ∧ Keep fz fz' ∧ Hold W fz' ((it, .it l) :: own) s' ∧ W.tk ≤ s'.toks ∧ I l own) (fun n s' hJ => ?_) l.length ⟨fz, l, own, rfl, .refl _, H, ht, hI⟩
  obtain ⟨fz₁, l₁, own₁, rfl, k₁, H₁, t₁, I₁⟩ := hJ
  rw [hu]
  show wpAny _ _ (denote table (.compLoop e d (.ref it) acc cenv)) _ _ s'
  rw [hden]
  refine wpAny_onRaise (wpAny_mono (E := NoX) ?_ (fun _ _ q => q) fun _ _ x => x.elim)
  rw [heq]
  unfold turnSem
  refine wpAny_bind (wpAny_standAt (wpAny_bind (wpAny_mono (E := NoX) (Q := fun r s₁ => match r with
    | none => ∃ o, I [] o ∧ Hold W fz₁ o s₁ ∧ W.tk ≤ s₁.toks
    | some v => ∃ x r o, l₁ = x :: r ∧ I (x :: r) o ∧ Hold W fz₁ ((it, .it r) :: o) s₁ ∧ W.tk ≤ s₁.toks ∧ RV fz₁ x v) ?_ (fun r s₁ h₁ => ?_) fun _ _ x => x.elim)))
  · cases l₁ with
    | nil => exact next_none hh H₁ fun s'' H'' t'' => ⟨own₁, I₁, H'', Nat.le_trans t₁ t''⟩
    | cons x r => exact next_some H₁ .here fun v s'' H'' t'' rx => ⟨x, r, own₁, rfl, I₁, H'', Nat.le_trans t₁ t'', rx⟩
  · cases r with
    | none =>
      obtain ⟨o, Io, Ho, to⟩ := h₁
      exact wpAny_pure ⟨fz₁, o, k₁, Ho, to, Io⟩
    | some v =>
      obtain ⟨x, r, o, rfl, Io, Ho, to, rx⟩ := h₁
      obtain ⟨ob, hob, hit⟩ := Ho.get List.mem_cons_self
      refine wpAny_bind (let_go hob hit ?_)
      refine wpAny_bind (wp_then (turn x r o Io fz₁ _ v Ho to rx) to fun fz₂ _ _ o₂ s₂ k₂ H₂ t₂ _ q₂ => wpAny_bind (wp_then (q₂ fz₂ s₂ H₂ t₂) t₂ fun fz₃ ok b o₃ s₃ k₃ H₃ t₃ r₃ q₃ => ?_))
      subst r₃
      cases ok with
      | false =>
        obtain ⟨o', wk, I'⟩ := q₃
        exact wpAny_pure (.inl ⟨rfl, r.length, by simp, fz₃, r, o', rfl, k₁.trans (k₂.trans k₃), wk.hold H₃, t₃, I'⟩)
      | true =>
        refine wpAny_bind (wp_then (q₃ fz₃ s₃ H₃ t₃) t₃ fun fz₄ _ _ o₄ s₄ k₄ H₄ t₄ _ q₄ => ?_)
        obtain ⟨o', wk, I'⟩ := q₄
        exact wpAny_pure (.inl ⟨rfl, r.length, by simp, fz₄, r, o', rfl, k₁.trans (k₂.trans (k₃.trans k₄)), wk.hold H₄, t₄, I'⟩)

def emitSem (elt : Expr) (acc : Value) (cenv : Env) : Sem Unit := do let _ ← call (.builtin "list.append") [acc, ← eval elt cenv]
theorem turn_one (elt target iter : Expr) (ifs : List Expr) (scope : Scope) (pos : Pos) (it acc : Value) (cenv : Env) :
    compTurn (.ListComp elt [⟨target, iter, ifs, 0⟩] scope pos) 0 it acc cenv = turnSem (.ListComp elt [⟨target, iter, ifs, 0⟩] scope pos) 0 iter.pos target ifs (emitSem elt acc cenv) it acc cenv := by rfl
theorem emit_list {elt : Expr} {D : Addr} {Q : Own → Prop} (h : SE W A env elt own fun a o1 => ∃ o1' ys o2, Wk o1 o1' ∧ Upd D (.list ys) (.list (ys ++ [a])) o1' o2 ∧ ys.length ≤ sizeLine ∧ Q o2) : SG W A RU (emitSem elt (.ref D) env) own fun _ => Q := fun fz s H ht => by
  unfold emitSem
  refine wpAny_bind (wp_then (h fz s H ht) ht fun fz1 va a o1 s1 k1 H1 t1 r1 q1 => ?_)
  obtain ⟨o1', ys, o2, wk, u, hz, q⟩ := q1
  refine wpAny_bind (wp_then (do_append (Q := fun _ => Q) u hz q fz1 s1 va (wk.hold H1) t1 r1) t1 fun fz2 _ _ o3 s2 k2 H2 t2 _ q2 => wpAny_pure ⟨fz2, (), o3, k1.trans k2, H2, trivial, q2⟩)

theorem compStart_any {e : Expr} {d : Nat} {g : Comprehension} {it : Addr} {l : List V} {acc : Value} {cenv : Env} {fz : Heap} {s : Shared} {R : Result → Shared → Prop} (H : Hold W fz own s) (hm : (it, Ob.it l) ∈ own)
    (hg : (clausesOf e)[d]? = some g) (ha : (g.is_async != 0) = false)
    (hden : denote table (.compStart e d (.ref it) acc cenv) = (compStart e d (.ref it) acc cenv).onRaise (fun x => do noteFrame x cenv; standAt theWindowsPlace))
    (h : codeAny (model W.prog W.w) A (.compLoop e d (.ref it) acc cenv) R s) : codeAny (model W.prog W.w) A (.compStart e d (.ref it) acc cenv) R s := by
  refine codeAny_of_tree ?_
  show wpAny _ _ (denote table (.compStart e d (.ref it) acc cenv)) _ _ s
  rw [hden]
  refine wpAny_onRaise (wpAny_mono (E := NoX) ?_ (fun _ _ q => q) fun _ _ x => x.elim)
  unfold compStart
  rw [hg]
  simp only [Option.elim, ha, Bool.false_eq_true, if_false]
  refine wpAny_bind (wpAny_askSetting (wpAny_ite ?_))
  split
  · first
      | exact wpAny_bind (wpAny_pure (wpAny_pure (And.intro rfl h)))
      | exact wpAny_pure (And.intro rfl h)
  · exact wpAny_bind (wpAny_rule (wpAny_bind (wpAny_standAt (wpAny_bind (it_self H hm (wpAny_pure (And.intro rfl h)))))))

/-- a clause's loop -/
def CL (W : Wd) (A : Around) (e : Expr) (d : Nat) (D : Addr) (cenv : Env) (it : Addr) (l : List V) (own : Own) (Q : Own → Prop) : Prop :=
  ∀ fz s, Hold W fz ((it, .it l) :: own) s → W.tk ≤ s.toks → codeAny (model W.prog W.w) A (.compLoop e d (.ref it) (.ref D) cenv)
    (fun r s' => match r with | .ok _ => ∃ fz' own', Keep fz fz' ∧ Hold W fz' own' s' ∧ W.tk ≤ s'.toks ∧ Q own' | .error _ => False) s
/-- one turn of a clause -/
abbrev CT (W : Wd) (A : Around) (cenv : Env) (target : Expr) (ifs : List Expr) (inner : Sem Unit) (it : Addr) (I : List V → Own → Prop) : Prop :=
  ∀ x r o, I (x :: r) o → SA W A cenv target x ((it, .it r) :: o) fun o1 => STs W A cenv ifs o1 fun ok o2 =>
      if ok then SG W A RU inner o2 (fun _ o3 => ∃ o', Wk o3 ((it, .it r) :: o') ∧ I r o') else ∃ o', Wk o2 ((it, .it r) :: o') ∧ I r o'

theorem CL_one {elt target iter : Expr} {ifs : List Expr} {scope : Scope} {pos : Pos} {D : Addr} {cenv : Env} {it : Addr} {l : List V} {Q : Own → Prop} (hh : A.handled = none) (I : List V → Own → Prop) (h0 : I l own)
    (turn : CT W A cenv target ifs (emitSem elt (.ref D) cenv) it I) (last : ∀ o, I [] o → Q o) : CL W A (.ListComp elt [⟨target, iter, ifs, 0⟩] scope pos) 0 D cenv it l own Q := fun fz s H ht => by
  refine codeAny_mono (comp_core hh (turn_one elt target iter ifs scope pos (.ref it) (.ref D) cenv) rfl (Around.under_of_weight rfl) I turn l own fz s H ht h0) fun r s' x => ?_
  cases r with
  | ok f => obtain ⟨fz', own', k, H', t', i⟩ := x; exact ⟨fz', own', k, H', t', last _ i⟩
  | error e => exact x.elim
/-- a comprehension's own frame -/
abbrev cEnv (scope : Scope) (cl : List (Str × Addr)) (C : Addr) (env : Env) : Env :=
  { scope := relabel scope env, locals := C, globals := env.globals, cells := cl, qual := env.qual, func := none, code := env.code, frame := env.frame, builtins := env.builtins }
/-- what a list comprehension wants of its source -/
abbrev Comps (W : Wd) (A : Around) (env : Env) (e : Expr) (scope : Scope) (cl : List (Str × Addr)) (Fin : Addr → Addr → Own → Prop) (b : V) (o : Own) : Prop :=
  ∃ it l o3, b = .ref it ∧ o = (it, .it l) :: o3 ∧ ∀ C D, CL W A e 0 D (cEnv scope cl C env) it l ((C, .ns []) :: (D, .list []) :: o3) (Fin C D)

theorem comp_made {e : Expr} {scope : Scope} {cl : List (Str × Addr)} {Fin : Addr → Addr → Own → Prop} {b : V} {g : Comprehension} {gs : List Comprehension} {elt : Expr} {pos : Pos} {fz : Heap} {s : Shared} {RR : Value → Addr → Result → Shared → Prop} {vb : Value}
    (he : e = .ListComp elt (g :: gs) scope pos) (ha : (g.is_async != 0) = false) (hcell : ∀ y ∈ scope.names, y.2 ≠ .cell) (hkind : scope.kind = .function)
    (H : Hold W fz own s) (ht : W.tk ≤ s.toks) (r : RV fz b vb) (q : Comps W A env e scope cl Fin b own)
    (hR : ∀ C D fz' o s', Keep fz fz' → Hold W fz' o s' → W.tk ≤ s'.toks → Fin C D o → RR (.ref D) C (.ok .next) s') (hok : ∀ acc C f s', RR acc C (.ok .next) s' → RR acc C (.ok f) s') :
    wpAny (model W.prog W.w) A (newList []) (fun acc s₃ => wpAny (model W.prog W.w) A (newFunctionEnv scope env.globals cl [] env.qual none .none (some env)) (fun cenv s₄ =>
      codeAny (model W.prog W.w) A (.compStart e 0 vb acc { cenv with scope := relabel scope env }) (RR acc cenv.locals) s₄) NoX s₃) NoX s := by
  obtain ⟨it, l, o3, rfl, rfl, core⟩ := q
  cases r.val_inv
  subst he
  refine wpAny_newObj_type (wpAny_newFunctionEnv hcell (by intro y hy; simp at hy) (fun h₁ hns₁ hsb₁ => ?_) hkind)
  dsimp only at hns₁ hsb₁ ⊢
  have H₁ : Hold W fz ((s.heap.objs.size, .list []) :: (it, .it l) :: o3) { s with heap := s.heap.push (listObj [] 0), toks := s.toks } := H.new (Keep.push _ _) (get?_ge (Nat.le_refl _)) (Heap.get?_push_size _ rfl) ⟨[], 0, rfl, .nil⟩
  obtain ⟨o, ho, hob⟩ := of_ns (fz := fz) (loc := []) hns₁ (fun p hp => (nomatch hp))
  have hk₁ : Keep (s.heap.push (listObj [] 0)) h₁ := fun b o e => hsb₁.extBut b o (Nat.ne_of_lt (Heap.lt_size e)) (Heap.get?_push_of_some _ e)
  have H₂ : Hold W fz (((s.heap.push (listObj [] 0)).objs.size, .ns []) :: (s.heap.objs.size, .list []) :: (it, .it l) :: o3) { s with heap := h₁, toks := s.toks } :=
    H₁.new (k := s.toks) hk₁ (get?_ge (Nat.le_refl _)) ho hob
  have H₃ := H₂.perm (own' := (it, .it l) :: ((s.heap.push (listObj [] 0)).objs.size, .ns []) :: (s.heap.objs.size, .list []) :: o3)
    ((List.Perm.cons _ (List.Perm.swap ..)).trans (List.Perm.swap ..))
  refine compStart_any (H₃ : Hold W fz _ { s with heap := h₁, toks := s.toks + ([] : List (Str × Value)).length }) List.mem_cons_self rfl ha rfl ?_
  refine codeAny_mono (core (s.heap.push (listObj [] 0)).objs.size s.heap.objs.size fz _ H₃ ht) fun r s' x => ?_
  cases r with
  | ok f => obtain ⟨fz', own', k, H', t', i⟩ := x; exact hok _ _ _ _ (hR _ _ fz' own' s' k H' t' i)
  | error e => exact x.elim

theorem Hold.sameBut {fz : Heap} {s : Shared} {a : Addr} {ob : Ob} (H : Hold W fz ((a, ob) :: own) s) {h' : Heap} (hs : Heap.SameBut a s.heap h') : Hold W fz own { s with heap := h' } := H.extBut (k := s.toks) hs.extBut

theorem SE_Comp {elt target iter : Expr} {ifs : List Expr} {gs : List Comprehension} {scope : Scope} {pos : Pos} {cl : List (Str × Addr)} {Q : V → Own → Prop}
    (hclos : closureFor scope env = pure cl) (hcell : ∀ y ∈ scope.names, y.2 ≠ .cell) (hkind : scope.kind = .function) (hnames : ∀ y ∈ scope.names, y.2 = .local → scope.names.lookup y.1 = some .local)
    (h : SE W A env iter own fun a o1 => S1 W A RV pyIter a o1 (Comps W A env (.ListComp elt (⟨target, iter, ifs, 0⟩ :: gs) scope pos) scope cl fun C D o => ∃ ys o4, Wk o ((C, .ns []) :: (D, .list ys) :: o4) ∧ Q (.ref D) ((D, .list ys) :: o4)))
    (hs : ∀ x, foldedSetIterable iter env x = pure x := by intro _; rfl) : SE W A env (.ListComp elt (⟨target, iter, ifs, 0⟩ :: gs) scope pos) own Q := fun fz s H ht => by
  unfold At
  rw [eval_ListComp]
  refine wpAny_comprehension_free (use := none) rfl hs hclos hkind hnames (wp_then (h fz s H ht) ht fun fz1 va a o1 s1 k1 H1 t1 r1 q1 => wp_then (q1 fz1 s1 va H1 t1 r1) t1 fun fz2 vb b o2 s2 k2 H2 t2 r2 q2 => ?_)
  refine comp_made (RR := fun acc C => compPost (model W.prog W.w) A NoX none _ acc C) rfl rfl hcell hkind H2 t2 r2 q2 (fun C D fz3 o s3 k3 H3 t3 fin => ?_) fun acc C f s' x => x
  obtain ⟨ys, o4, wk, q⟩ := fin
  have H4 := wk.hold H3
  obtain ⟨oC, hoC, hns⟩ := H4.get List.mem_cons_self
  obtain ⟨m, hm, _⟩ := ns_of hoC hns
  exact ⟨m, hm, fun h' hs' => ⟨fz3, _, _, k1.trans (k2.trans k3), H4.sameBut hs', .val _, q⟩⟩

theorem S1.mono {α β : Type} {R : Heap → β → α → Prop} {f : Value → Sem α} {a : V} {Q Q' : β → Own → Prop} (h : S1 W A R f a own Q) (q : ∀ b own', Q b own' → Q' b own') : S1 W A R f a own Q' :=
  fun fz s v H ht r => (h fz s v H ht r).mono q
/-! ### the plain use: a list of data out of a list -/
theorem Hold.freezeList {fz : Heap} {s : Shared} {D : Addr} {ys : List V} {ds : List PyData} (H : Hold W fz ((D, .list ys) :: own) s) (had : AllDat ys ds) : ∃ fz', Keep fz fz' ∧ Hold W fz' own s ∧ RV fz' (.lst ds) (.ref D) := by
  obtain ⟨o, ho, r, hf, kk, H'⟩ := H.freeze
  obtain ⟨vs, n, rfl, rs⟩ := r
  exact ⟨_, kk, H', rv_list (putH_at hf) (by rw [← had.eq]; exact rs.mono kk)⟩
theorem AllDat.append {l l' : List V} {ds ds' : List PyData} (x : AllDat l ds) (y : AllDat l' ds') : AllDat (l ++ l') (ds ++ ds') := by
  induction x with
  | nil => exact y
  | cons _ ih => exact .cons ih

/-- a turn that makes one datum, or none -/
abbrev MapTurn {α : Type} (W : Wd) (A : Around) (cenv : Env) (target elt : Expr) (ifs : List Expr) (g : α → V) (p : α → Bool) (out : α → PyData) (xs : List α) (o3 : Own) (C D : Addr) : Prop :=
  ∀ it x r ys, x ∈ xs → SA W A cenv target (g x) ((it, .it r) :: (C, .ns []) :: (D, .list ys) :: o3) fun o1 => STs W A cenv ifs o1 fun ok o2 =>
    ok = p x ∧ if p x then SE W A cenv elt o2 (fun a o4 => a = .dat (out x) ∧ Wk o4 ((it, .it r) :: (C, .ns []) :: (D, .list ys) :: o3)) else Wk o2 ((it, .it r) :: (C, .ns []) :: (D, .list ys) :: o3)

theorem CL_map {α : Type} {elt target iter : Expr} {ifs : List Expr} {scope : Scope} {pos : Pos} {C D : Addr} {cenv : Env} {it : Addr} {g : α → V} {p : α → Bool} {out : α → PyData} {xs : List α} {o3 : Own} {Q : Own → Prop} (hh : A.handled = none)
    (hz : xs.length ≤ sizeLine) (turn : MapTurn W A cenv target elt ifs g p out xs o3 C D) (last : Q ((C, .ns []) :: (D, .list (((xs.filter p).map out).map V.dat)) :: o3)) :
    CL W A (.ListComp elt [⟨target, iter, ifs, 0⟩] scope pos) 0 D cenv it (xs.map g) ((C, .ns []) :: (D, .list []) :: o3) Q := by
  refine CL_one hh (fun l o => ∃ pre post, xs = pre ++ post ∧ l = post.map g ∧ o = (C, .ns []) :: (D, .list (((pre.filter p).map out).map V.dat)) :: o3) ⟨[], xs, rfl, rfl, rfl⟩ ?_ ?_
  · rintro x r o ⟨pre, post, e, hl, rfl⟩
    cases post with
    | nil => cases hl
    | cons z post =>
      injection hl with e1 e2
      subst e1 e2
      refine S1.mono (turn it z (post.map g) _ (by rw [e]; simp)) ?_
      intro _ o1 h1
      refine SG.mono h1 ?_
      intro ok o2 ⟨hok, h2⟩
      subst hok
      have hlen : ((pre.filter p).map out).length ≤ sizeLine := by
        have := List.length_filter_le p pre
        have : pre.length ≤ xs.length := by rw [e]; simp
        rw [List.length_map]; omega
      cases hp : p z with
      | false =>
        rw [hp] at h2
        exact ⟨_, h2, pre ++ [z], post, by simp [e], rfl, by simp [List.filter_append, hp]⟩
      | true =>
        rw [hp] at h2
        refine emit_list (SG.mono h2 ?_)
        rintro a o4 ⟨rfl, wk⟩
        refine ⟨_, _, _, wk, .there (.there .here), by rw [List.length_map]; exact hlen, _, .refl, pre ++ [z], post, by simp [e], rfl, ?_⟩
        simp [List.filter_append, hp]
  · rintro o ⟨pre, post, e, hl, rfl⟩
    cases post with
    | nil => rw [List.append_nil] at e; subst e; exact last
    | cons z post => cases hl

theorem SE_freeze {e : Expr} {Q : V → Own → Prop} (h : SE W A env e own fun a o => ∃ D ys ds o4, a = .ref D ∧ o = (D, .list ys) :: o4 ∧ AllDat ys ds ∧ Q (.lst ds) o4) : SE W A env e own Q := fun fz s H ht => by
  refine wp_then (h fz s H ht) ht fun fz1 va a o1 s1 k1 H1 t1 r1 q1 => ?_
  obtain ⟨D, ys, ds, o4, rfl, rfl, ad, q⟩ := q1
  cases r1.val_inv
  obtain ⟨fz', k, H', r⟩ := H1.freezeList ad
  exact ⟨fz', _, o4, k1.trans k, H', r, q⟩

/-- a list of data, read off a source -/
theorem SE_CompMap {α : Type} {elt target iter : Expr} {ifs : List Expr} {scope : Scope} {pos : Pos} {cl : List (Str × Addr)} {Q : V → Own → Prop}
    (hh : A.handled = none) (hclos : closureFor scope env = pure cl) (hcell : ∀ y ∈ scope.names, y.2 ≠ .cell) (hkind : scope.kind = .function) (hnames : ∀ y ∈ scope.names, y.2 = .local → scope.names.lookup y.1 = some .local)
    (h : SE W A env iter own fun a o1 => S1 W A RV pyIter a o1 fun b o2 => ∃ it l o3, b = .ref it ∧ o2 = (it, .it l) :: o3 ∧ ∃ (g : α → V) (p : α → Bool) (out : α → PyData) (xs : List α), l = xs.map g ∧ xs.length ≤ sizeLine ∧
      (∀ C D, MapTurn W A (cEnv scope cl C env) target elt ifs g p out xs o3 C D) ∧ Q (.lst ((xs.filter p).map out)) o3)
    (hs : ∀ x, foldedSetIterable iter env x = pure x := by intro _; rfl) : SE W A env (.ListComp elt [⟨target, iter, ifs, 0⟩] scope pos) own Q := by
  refine SE_freeze (SE_Comp hclos hcell hkind hnames (SG.mono h fun a o1 h1 => S1.mono h1 fun b o2 h2 => ?_) hs)
  obtain ⟨it, l, o3, rfl, rfl, g, p, out, xs, rfl, hz, turn, q⟩ := h2
  refine ⟨it, _, o3, rfl, rfl, fun C D => CL_map hh hz (turn C D) ⟨_, _, .refl, D, _, _, o3, rfl, rfl, AllDat.map _, q⟩⟩

end
section
variable {W : Wd} {A : Around} {env : Env} {own : Own}

/-! ### calls: the glue -/
def KpO (W : Wd) (own : Own) (f : Value) : Prop := ∀ fz s, Hold W fz own s → ∃ k, (k = Keeper.frame ∨ k = Keeper.machine ∨ k = Keeper.boundFrame) ∧ Looks (model W.prog W.w) s.heap (keeperOf f) k
theorem kp_builtin {id : String} : KpO W own (.builtin id) := fun fz s H => ⟨.machine, .inr (.inl rfl), Looks.of_pure rfl⟩
theorem kp_type {T : String} : KpO W own (.type T) := fun fz s H => ⟨.machine, .inr (.inl rfl), Looks.of_pure rfl⟩
theorem kp_K {f : Value} (h : keepIn W.K f = true) : KpO W own f := fun fz s H => keeps_K h s.heap H.kin
theorem callWith_any {pos : Pos} {f : Value} {first : List V} {firstV : List Value} {args : List Expr} {fz : Heap} {s : Shared} {Q : V → Own → Prop} (H : Hold W fz own s) (ht : W.tk ≤ s.toks) (rf : RVs fz first firstV)
    (hp : (backTo pos (starEach args env)).any (·.1) = false) (h : SEs W A env pos args own fun l o2 => KpO W o2 f ∧ SL W A RV (fun vs => call f vs) (first ++ l) o2 Q) :
    At W A RV (callWith pos f firstV (backTo pos (starEach args env)) []) Q fz s := by
  have key : wpAny (model W.prog W.w) A (evalArgs f true (backTo pos (starEach args env)) []) (fun a s₁ => (∃ k, (k = Keeper.frame ∨ k = Keeper.machine ∨ k = Keeper.boundFrame) ∧ Looks (model W.prog W.w) s₁.heap (keeperOf f) k) ∧
      wpAny (model W.prog W.w) A (call f (firstV ++ a.pos) a.kw) (fun a s' => ∃ fz' b own', Keep fz fz' ∧ Hold W fz' own' s' ∧ RV fz' b a ∧ Q b own') NoX s₁) NoX s := by
    have h1 : wpAny (model W.prog W.w) A (spliced (backTo pos (starEach args env))) (fun vs s₁ => (∃ k, (k = Keeper.frame ∨ k = Keeper.machine ∨ k = Keeper.boundFrame) ∧ Looks (model W.prog W.w) s₁.heap (keeperOf f) k) ∧
      wpAny (model W.prog W.w) A (call f (firstV ++ vs) []) (fun a s' => ∃ fz' b own', Keep fz fz' ∧ Hold W fz' own' s' ∧ RV fz' b a ∧ Q b own') NoX s₁) NoX s := by
      refine wp_then (h fz s H ht) ht fun fz1 vs l o1 s1 k1 H1 t1 r1 q1 => ⟨q1.1 fz1 s1 H1, ?_⟩
      exact (q1.2 fz1 s1 _ H1 t1 ((rf.mono k1).append r1)).weak k1
    generalize backTo pos (starEach args env) = trees at hp h1 ⊢
    cases trees with
    | nil =>
      unfold evalArgs
      show wpAny _ _ (spliced [] >>= _) _ _ _
      refine wpAny_bind (wpAny_mono h1 (fun vs s' h' => wpAny_bind (wpAny_pure ?_)) fun _ _ x => x)
      refine wpAny_holding ?_
      exact wpAny_bind (wpAny_pure (wpAny_bind (wpAny_pure (wpAny_pure h'))))
    | cons t rest =>
      obtain ⟨b, t⟩ := t
      cases b with
      | false => exact Calls.evalArgs_plain h1
      | true => simp at hp
  exact callWith_of (P := fun h => ∃ k, (k = Keeper.frame ∨ k = Keeper.machine ∨ k = Keeper.boundFrame) ∧ Looks (model W.prog W.w) h (keeperOf f) k) (by simpa using hp) (fun h x => x) key

theorem SE_Call {func : Expr} {args : List Expr} {pos : Pos} {Q : V → Own → Prop}
    (h : SE W A env func own fun fv o1 => ∃ f, fv = .val f ∧ SEs W A env pos args o1 fun l o2 => KpO W o2 f ∧ SL W A RV (fun vs => call f vs) l o2 Q)
    (he : eval (.Call func args [] pos) env = (do callWith pos (← eval func env) [] (backTo pos (starEach args env)) (backToKw pos (keywordEach [] env))) := by rfl)
    (hp : (backTo pos (starEach args env)).any (·.1) = false := by rfl) : SE W A env (.Call func args [] pos) own Q := fun fz s H ht => by
  refine Call_ (wp_then (h fz s H ht) ht fun fz1 va a o1 s1 k1 H1 t1 r1 q1 => ?_) he
  obtain ⟨f, rfl, q⟩ := q1
  cases r1.val_inv
  exact (callWith_any (first := []) H1 t1 .nil hp q).weak k1

abbrev RM : Heap → (Value × List V) → (Value × List Value) → Prop := fun fz b a => a.1 = b.1 ∧ RVs fz b.2 a.2
abbrev SMth (W : Wd) (A : Around) (name : Str) (pl : Sem Bool) (a : V) (own : Own) (Q : Value × List V → Own → Prop) : Prop := S1 W A RM (fun v => getMethod v name pl) a own Q
theorem SE_Meth {o : Expr} {name : Str} {apos pos : Pos} {args : List Expr} {pl : Sem Bool} {Q : V → Own → Prop}
    (h : SE W A env o own fun a o1 => SMth W A name pl a o1 fun fx o2 => SEs W A env pos args o2 fun l o3 => KpO W o3 fx.1 ∧ SL W A RV (fun vs => call fx.1 vs) (fx.2 ++ l) o3 Q)
    (he : eval (.Call (.Attribute o name apos) args [] pos) env = (do
      let ov ← eval o env
      standAt apos.atName
      let (f, first) ← holding [ov] (getMethod ov name pl)
      callWith pos f first (backTo pos (starEach args env)) []) := by rfl)
    (hp : (backTo pos (starEach args env)).any (·.1) = false := by rfl) : SE W A env (.Call (.Attribute o name apos) args [] pos) own Q := fun fz s H ht => by
  refine MethodCall_ (wp_then (h fz s H ht) ht fun fz1 va a o1 s1 k1 H1 t1 r1 q1 => wp_then (q1 fz1 s1 va H1 t1 r1) t1 fun fz2 vb b o2 s2 k2 H2 t2 r2 q2 => ?_) he
  obtain ⟨f, fs⟩ := vb
  obtain ⟨e1, e2⟩ := r2
  dsimp only at e1 e2 ⊢
  subst e1
  exact (callWith_any H2 t2 e2 hp q2).weak (k1.trans k2)

/-- a method of a text -/
theorem mth_str {x : Str} {name : Str} {id : String} {pl : Sem Bool} {Q : Value × List V → Own → Prop}
    (hg : ∀ (t : Tok) (s : Shared) (P : Value × List Value → Shared → Prop), P (.builtin id, [.str x t]) s → wpAny (model W.prog W.w) A (getMethod (.str x t) name pl) P NoX s)
    (h : Q (.builtin id, [.str x]) own) : SMth W A name pl (.str x) own Q := fun fz s v H ht r => by
  obtain ⟨t, rfl⟩ := r.str_inv
  exact hg t s _ ⟨fz, _, own, .refl _, H, ⟨rfl, .cons (.dat (.str _ _)) .nil⟩, h⟩
theorem SL1 {α β : Type} {R : Heap → β → α → Prop} {f : List Value → Sem α} {a : V} {Q : β → Own → Prop} (h : S1 W A R (fun v => f [v]) a own Q) : SL W A R f [a] own Q := fun fz s vs H ht r => by
  cases r with | cons r1 r => cases r; exact h fz s _ H ht r1
theorem SL2 {α β : Type} {R : Heap → β → α → Prop} {f : List Value → Sem α} {a b : V} {Q : β → Own → Prop} (h : S2 W A R (fun v u => f [v, u]) a b own Q) : SL W A R f [a, b] own Q := fun fz s vs H ht r => by
  cases r with | cons r1 r => cases r with | cons r2 r => cases r; exact h fz s _ _ H ht r1 r2

/-! ### built-ins -/
theorem call_len_str {x : Str} {Q : V → Own → Prop} (hz : x.length ≤ sizeLine) (h : Q (.int x.length) own) : SL W A RV (fun vs => call (.builtin "len") vs) [.str x] own Q := SL1 fun fz s v H ht r => by
  obtain ⟨t, rfl⟩ := r.str_inv
  rw [sizeLine_eq] at hz
  exact P.len_str (by omega) (at_tok H _ (.dat (.int _ _)) h)
theorem call_chr {i : Int} {Q : V → Own → Prop} (h0 : 0 ≤ i) (h1 : i < 1114112) (h : Q (.str ⟨#[i.toNat]⟩) own) : SL W A RV (fun vs => call (.builtin "chr") vs) [.int i] own Q := SL1 fun fz s v H ht r => by
  obtain ⟨t, rfl⟩ := r.int_inv
  exact P.chr_of_int (by simp; omega) (at_tok H _ (.dat (.str _ _)) h)
theorem call_ord {c : Nat} {Q : V → Own → Prop} (h : Q (.int c) own) : SL W A RV (fun vs => call (.builtin "ord") vs) [.str ⟨#[c]⟩] own Q := SL1 fun fz s v H ht r => by
  obtain ⟨t, rfl⟩ := r.str_inv
  exact P.ord_of_char (at_tok H _ (.dat (.int _ _)) h)
/-! ### lists joined, repeated -/
theorem new_list {fz : Heap} {s : Shared} {vs : List Value} {ds : List PyData} {n : Nat} {Q : V → Own → Prop} (H : Hold W fz own s) (rs : RVs fz (ds.map V.dat) vs) (h : Q (.lst ds) own) :
    ∃ fz' b own', Keep fz fz' ∧ Hold W fz' own' { s with heap := s.heap.push { cls := .type "list", data := .seq vs.toArray n } } ∧ RV fz' b (.ref s.heap.objs.size) ∧ Q b own' := by
  obtain ⟨kk, H'⟩ := H.frz (k := s.toks) (o := listObj vs n) rfl (Keep.push _ _) (get?_ge (Nat.le_refl _)) (Heap.get?_push_size _ rfl)
  exact ⟨_, _, own, kk, H', rv_list (putH_at rfl) (rs.mono kk), h⟩
theorem op_addL {a b : List PyData} {Q : V → Own → Prop} (hz : a.length + b.length ≤ sizeLine) (h : Q (.lst (a ++ b)) own) : S2 W A RV (binaryOp .Add) (.lst a) (.lst b) own Q := fun fz s v u H ht r1 r2 => by
  obtain ⟨x, vs, rfl, hl, rs⟩ := r1.lst_inv
  obtain ⟨y, ws, rfl, hm, rt⟩ := r2.lst_inv
  have h1 := rs.length
  have h2 := rt.length
  rw [List.length_map] at h1 h2
  obtain ⟨⟨cls, dd, data, sl⟩, ho, hc, n, hd⟩ := IsList_keep hl H.has
  obtain ⟨⟨cls2, dd2, data2, sl2⟩, ho2, hc2, n2, hd2⟩ := IsList_keep hm H.has
  simp only at hc hd hc2 hd2
  subst hc hd hc2 hd2
  have q1 : vs.toList.length = vs.size := Array.length_toList
  have q2 : ws.toList.length = ws.size := Array.length_toList
  refine concat_meets ⟨_, ho, rfl⟩ ⟨_, ho2, rfl⟩ noFill_list_add seq_list_add PySem.F.slot_list_add PySem.F.entry_list_add (PySem.F.args_list_add_2 _ _) (list_addW x y vs ws n n2 dd dd2 sl sl2 (by omega)) ⟨ho, ho2, ?_⟩
  have e : vs ++ ws = (vs.toList ++ ws.toList).toArray := by simp
  rw [e]
  exact new_list H (by rw [List.map_append]; exact rs.append rt) h

/-! ### slices -/
def cutL {α : Type} (l : List α) (lo hi : Option Int) : List α := (l.drop (lo.elim 0 (clipAt l.length))).take (hi.elim l.length (clipAt l.length) - lo.elim 0 (clipAt l.length))
def cutS (x : Str) (lo hi : Option Int) : Str := ⟨(cutL x.cps.toList lo hi).toArray⟩
theorem strSlice_is (x : Str) (lo hi : Option Int) : Txt.slice x lo hi = cutS x lo hi := by
  have e : (Builtin.Str.strSliceIndices lo hi 1 x.length) = (List.range (hi.elim x.length (clipAt x.length) - lo.elim 0 (clipAt x.length))).map (lo.elim 0 (clipAt x.length) + ·) := by
    rw [← sliceRange_one]
    have b := sliceBounds_plain lo hi x.length
    have b1 := congrArg (·.1) b
    have b2 := congrArg (·.2.1) b
    dsimp only at b1 b2
    rw [← b1, ← b2]
    cases lo <;> cases hi <;> rfl
  have e2 : ((Builtin.Str.strSliceIndices lo hi 1 x.length).filterMap (x.cps[·]?)) = cutL x.cps.toList lo hi := by
    rw [e, pick_run]
    unfold cutL
    rw [Array.length_toList]; rfl
  unfold Txt.slice cutS
  rw [e2]
  split
  · rename_i h
    simp only [beq_self_eq_true, Bool.true_and, beq_iff_eq] at h
    have h3 : (cutL x.cps.toList lo hi).length = x.length := by
      rw [e, List.length_map, List.length_range] at h
      have h4 : x.cps.toList.length = x.length := Array.length_toList
      have hb : hi.elim x.length (clipAt x.length) ≤ x.length := by cases hi <;> simp only [Option.elim, clipAt] <;> omega
      unfold cutL
      rw [List.length_take, List.length_drop, h4]
      omega
    have h5 : cutL x.cps.toList lo hi = x.cps.toList := by
      have hs : (cutL x.cps.toList lo hi).Sublist x.cps.toList := by unfold cutL; exact (List.take_sublist _ _).trans (List.drop_sublist _ _)
      exact hs.eq_of_length (by rw [h3, Array.length_toList]; rfl)
    rw [h5]
  · rfl

abbrev SPt (W : Wd) (A : Around) (env : Env) (p : Option Expr) (own : Own) (Q : Option Int → Own → Prop) : Prop := SG W A (fun _ k v => IsPart v k) (evalPart p env) own Q
theorem SPt_none {Q : Option Int → Own → Prop} (h : Q none own) : SPt W A env none own Q := fun fz s H ht => wpAny_pure ⟨fz, _, own, .refl _, H, .none, h⟩
theorem SPt_some {e : Expr} {Q : Option Int → Own → Prop} (h : SE W A env e own fun a o1 => ∃ i, a = .int i ∧ Q (some i) o1) : SPt W A env (some e) own Q := fun fz s H ht =>
  wp_then (h fz s H ht) ht fun fz1 va a o1 s1 k1 H1 t1 r1 q1 => by
    obtain ⟨i, rfl, q⟩ := q1
    obtain ⟨t, rfl⟩ := r1.int_inv
    exact ⟨fz1, _, o1, k1, H1, .int _ _, q⟩
theorem part_value {v : Value} {k : Option Int} (h : IsPart v k) : ∃ l : Option (Int × Tok), v = partValue l ∧ l.map (·.1) = k := by
  cases h with
  | none => exact ⟨none, rfl, rfl⟩
  | int i t => exact ⟨some (i, t), rfl, rfl⟩
theorem SE_SliceS {value : Expr} {lower upper : Option Expr} {p pos : Pos} {Q : V → Own → Prop}
    (h : SE W A env value own fun a o1 => SPt W A env lower o1 fun lo o2 => SPt W A env upper o2 fun hi o3 => ∃ x, a = .str x ∧ x.length ≤ sizeLine ∧ Q (.str (cutS x lo hi)) o3)
    (ht : ∀ o r, letTemporaryGo value o r = pure () := by intro _ _; rfl) : SE W A env (.Subscript value (.Slice lower upper none p) pos) own Q := fun fz s H tk => by
  refine wpAny_Subscript_str_slice (wp_then (h fz s H tk) tk fun fz1 va a o1 s1 k1 H1 t1 r1 q1 => wp_then (q1 fz1 s1 H1 t1) t1 fun fz2 vl lo o2 s2 k2 H2 t2 r2 q2 => wp_then (q2 fz2 s2 H2 t2) t2 fun fz3 vu hi o3 s3 k3 H3 t3 r3 q3 => ?_) ht
  obtain ⟨x, rfl, hz, q⟩ := q3
  obtain ⟨t, rfl⟩ := r1.str_inv
  obtain ⟨pl, rfl, e1⟩ := part_value r2
  obtain ⟨pu, rfl, e2⟩ := part_value r3
  refine ⟨x, t, pl, pu, rfl, rfl, rfl, ?_⟩
  have hs := strSlice_is x lo hi
  have H4 := H3.grow (k := s3.toks) (Keep.push s3.heap { cls := .type "slice", data := .fields #[partValue pl, partValue pu, .none] })
  have key : ∀ (t' : Tok) (k : Nat), ∃ fz' b own', Keep fz fz' ∧ Hold W fz' own' { s3 with heap := s3.heap.push { cls := .type "slice", data := .fields #[partValue pl, partValue pu, .none] }, toks := k } ∧ RV fz' b (.str (Txt.slice x lo hi) t') ∧ Q b own' := fun t' k =>
    ⟨fz3, _, o3, k1.trans (k2.trans k3), H4.toks k, by rw [hs]; exact .dat (.str _ _), q⟩
  unfold Txt.slice at key
  unfold sliceMade slicePicked
  rw [e1, e2]
  dsimp only [Option.map, Option.getD]
  split
  · rename_i hc
    rw [if_pos hc] at key
    exact key t _
  · rename_i hc
    rw [if_neg hc] at key
    refine ⟨?_, key _ _⟩
    have := Txt.slice_le x lo hi
    unfold Txt.slice at this
    rw [if_neg hc] at this
    exact Nat.le_trans this hz
end
section
variable {W : Wd} {A : Around} {env : Env} {own : Own}

/-! ### attributes of a made thing -/
theorem putNs {o : Obj} {es : Array DictEntry} {ep : Nat} {name : Str} {h : Int} {t : Tok} {v : Value} (hd : o.data = .dict es ep) (hk : StrKeys es) :
    ∃ es' ep', (o.putName name h (.str name t) v).data = .dict es' ep' ∧ StrKeys es' ∧ es'.size ≤ es.size + 1 ∧ (nsFind es name ≠ none → es'.size = es.size) ∧ ∀ x, nsFind es' x = if x = name then some v else nsFind es x := by
  obtain ⟨c, d, dt, sl⟩ := o
  subst hd
  cases hi : es.findIdx? (·.key.isStr name) with
  | some i =>
    refine ⟨es.modify i fun e => { e with val := v }, ep, by simp only [Obj.putName_eq, Obj.putNameByArray, hi], hk.modify _ _, by simp, fun _ => by simp, fun x => ?_⟩
    exact findBy_modify (fun n v => v.isStr n) Value.isStr_inj es name x v i hi
  | none =>
    refine ⟨es.push ⟨h, .str name t, v⟩, ep + 1, by simp only [Obj.putName_eq, Obj.putNameByArray, hi], hk.push _ _ _ _, by simp, fun hne => ?_, fun x => ?_⟩
    · exfalso; apply hne
      unfold nsFind findBy
      rw [Option.map_eq_none_iff, Array.find?_eq_none]
      intro e he
      rw [Array.findIdx?_eq_none_iff] at hi
      simpa using hi e he
    · exact findBy_push (fun n v => v.isStr n) es name x _ _ v (fun y => by
        show (name == y) = decide (y = name)
        by_cases h : y = name
        · subst h; simp
        · have : ¬ name = y := fun e => h e.symm
          simp [h, this]) hi

theorem Put.keys {x : Str} {a : V} {l l' : List (Str × V)} (u : Put x a l l') : (x ∈ l.map (·.1) ∧ l'.map (·.1) = l.map (·.1)) ∨ (l'.map (·.1) = l.map (·.1) ++ [x]) := by
  induction u with
  | new => exact .inr rfl
  | here => exact .inl ⟨by simp, by simp⟩
  | there _ ih =>
    rcases ih with ⟨h1, h2⟩ | h
    · exact .inl ⟨by simp only [List.map_cons, List.mem_cons]; exact .inr h1, by simp only [List.map_cons, h2]⟩
    · exact .inr (by simp only [List.map_cons, h, List.cons_append])
theorem att_put {fz : Heap} {loc loc' : List (Str × V)} {o : Obj} {x : Str} {a : V} {v : Value} {h : Int} {t : Tok} (H : AttIs fz loc o) (u : Put x a loc loc') (nd : (loc'.map (·.1)).Nodup) (r : RV fz a v) :
    AttIs fz loc' (o.putName x h (.str x t) v) := by
  obtain ⟨es, ep, hd, hk, hz, h1, h2⟩ := H
  obtain ⟨es', ep', hd', hk', hz', hz2, hf⟩ := putNs (name := x) (h := h) (t := t) (v := v) hd hk
  have kk := u.keys
  refine ⟨es', ep', hd', hk', ?_, fun p hp => ?_, fun y hy => ?_⟩
  · rcases kk with ⟨m, e⟩ | e
    · have : nsFind es x ≠ none := by
        obtain ⟨p, hp, e'⟩ := List.mem_map.mp m
        obtain ⟨w, e2, _⟩ := h1 p hp
        rw [← e', e2]; exact fun z => nomatch z
      rw [hz2 this]
      have := congrArg List.length e
      simp only [List.length_map] at this
      omega
    · have := congrArg List.length e
      simp only [List.length_map, List.length_append, List.length_cons, List.length_nil] at this
      omega
  · rcases u.other nd p hp with rfl | ⟨hp', hne⟩
    · exact ⟨v, by rw [hf, if_pos rfl], r⟩
    · obtain ⟨w, e, r'⟩ := h1 p hp'; exact ⟨w, by rw [hf, if_neg hne]; exact e, r'⟩
  · rw [hf]
    rcases kk with ⟨m, e⟩ | e
    · rw [e] at hy
      rw [if_neg (fun q : y = x => hy (q ▸ m))]; exact h2 y hy
    · rw [e, List.mem_append] at hy
      rw [if_neg (fun q => hy (.inr (by simp [q])))]; exact h2 y (fun q => hy (.inl q))

theorem lookIn_of {o : Obj} {es : Array DictEntry} {ep : Nat} {name : Str} (hd : o.data = .dict es ep) (hk : StrKeys es) : lookIn name o = some (nsFind es name) := by
  unfold lookIn
  rw [hd]
  dsimp only
  have e : nsFind es name = (es.toList.find? (·.key.isStr name)).map (·.val) := by unfold nsFind findBy; rw [Array.find?_toList]
  rw [e]
  cases q : es.toList.find? (·.key.isStr name) with
  | some en => rfl
  | none =>
    have : es.toList.any (·.refKey) = false := by
      rw [List.any_eq_false]; intro z hz; obtain ⟨n, t, h⟩ := hk z (by simpa using hz); simp [DictEntry.refKey, h]
    simp [this]

theorem inst_at {fz : Heap} {s : Shared} {x dx C : Addr} {loc : List (Str × V)} (H : Hold W fz own s) (h1 : (x, Ob.obj (instObj C dx)) ∈ own) (h2 : (dx, Ob.att loc) ∈ own) :
    ∃ od, s.heap.get? dx = some od ∧ AttIs fz loc od ∧ InstAt s.heap x (instObj C dx) C (some od) := by
  obtain ⟨o, ho, e⟩ := H.get h1
  have e' : o = instObj C dx := e
  subst e'
  obtain ⟨od, hd, a⟩ := H.get h2
  exact ⟨od, hd, a, ho, rfl, rfl, hd⟩

/-- what the text's class must be -/
structure ClsOk (K : Frag) (C : Addr) : Prop where
  makes : makesIn K C = true
  ga : findIn K (.ref C) "__getattribute__" = some (some (.builtin "object.__getattribute__"))
  gattr : findIn K (.ref C) "__getattr__" = some none
  sa : findIn K (.ref C) "__setattr__" = some (some (.builtin "object.__setattr__"))
  plain : plainOver K C = true
  dict : (clsIn K C).any (·.hasDict) = true

theorem do_setattr {x dx C : Addr} {loc loc' : List (Str × V)} {name : Str} {a : V} {own' : Own} {Q : Own → Prop} (hc : ClsOk W.K C) (ht : takerIn W.K C name = some none) (h1 : (x, Ob.obj (instObj C dx)) ∈ own) (h2 : (dx, Ob.att loc) ∈ own)
    (u : Put name a loc loc') (nd : (loc'.map (·.1)).Nodup) (hz : loc'.length ≤ 1000) (up : Upd dx (.att loc) (.att loc') own own') (h : Q own') :
    S1 W A RU (fun v => setAttr (.ref x) name v) a own fun _ => Q := fun fz s v H tk r => by
  obtain ⟨od, hod, ha, I⟩ := inst_at H h1 up.mem
  refine set_plain H.kin I hc.sa ?_
  refine osa_open (s := { s with toks := s.toks + 1 }) H.kin I hc.plain ht fun b => ?_
  obtain ⟨cd, hcd, hdict⟩ := any_some hc.dict
  have ha' := att_put (h := PyData.keyHash W.w.params name) (t := s.toks + 1) ha u nd r
  have hhas := ha
  obtain ⟨es, ep, hd, hk, hsz, _, _⟩ := ha
  obtain ⟨hx, _, _, _⟩ := I
  have hnf : (Obj.putName name (PyData.keyHash W.w.params name) (.str name (s.toks + 1)) v od).isFreed = false := by
    obtain ⟨es', ep', hd', _⟩ := ha'
    have g : ∀ o : Obj, o.data = .dict es' ep' → o.isFreed = false := by rintro ⟨_, _, dt, _⟩ e; cases e; rfl
    exact g _ hd'
  refine wpAny_bind (wpAny_pure (wpAny_bind (wpAny_bind (wpAny_loadPart hx (wpAny_bind ((looks_clsIn (H.toks (s.toks + 1)).kin hcd).here ?_))))))
  rw [hdict]
  refine wpAny_pure (a := some dx) (wpAny_bind (wpAny_pure (wpAny_bind ?_)))
  unfold nsSet
  refine wpAny_bind (wpAny_bind (wpAny_askSetting (wpAny_pure (wpAny_bind (wpAny_mkText (wpAny_bind (wpAny_loadPart hod ?_)))))))
  have hany : es.any (·.refKey) = false := by
    rw [Array.any_eq_false']; intro e he; obtain ⟨n, t, h⟩ := hk e he; simp [DictEntry.refKey, h]
  rw [hd]
  dsimp only
  have c : (!es.any (·.key.isStr name) && es.any (·.refKey)) = false := by rw [hany, Bool.and_false]
  rw [aRefKeyMayBeTheName_at, c]
  refine wpAny_updatePart hod ?_
  have D' := Heap.get?_update_self (Obj.putName name (PyData.keyHash W.w.params name) (.str name (s.toks + 1)) v) hod hnf
  refine wpAny_bind (wpAny_lookBehind D' ?_ ?_)
  · obtain ⟨es', ep', hd', _, hz', _⟩ := ha'
    rw [hd']; exact pastItsLine_dict (by rw [sizeLine_eq]; omega)
  · refine wpAny_pure ?_
    exact ⟨fz, (), own', .refl _, H.set (k := s.toks + 1 + 1) up (Heap.SameBut.update ..) D' ha', trivial, h⟩

theorem SX_AssignAttr {o : Expr} {name : Str} {pos' pos : Pos} {value : Expr} {Q : Fl → Own → Prop}
    (h : SE W A env value own fun a o1 => SE W A env o o1 fun b o2 => ∃ x, b = .ref x ∧ S1 W A RU (fun v => setAttr (.ref x) name v) a o2 fun _ o3 => Q .next o3)
    (hs : swapsWith value (some (.Attribute o name pos')) pos.line env = pure false := by rfl) : SX W A env (.Assign [.Attribute o name pos'] value pos) own Q := fun fz s H ht => by
  refine plainObj_wpAny_Assign_Attribute (wp_then (h fz s H ht) ht fun fz1 va a o1 s1 k1 H1 t1 r1 q1 => wp_then (q1 fz1 s1 H1 t1) t1 fun fz2 vb b o2 s2 k2 H2 t2 r2 q2 => ?_) hs
  obtain ⟨x, rfl, q⟩ := q2
  cases r2.val_inv
  refine wp_then (q fz2 s2 va H2 t2 (r1.mono k2)) t2 fun fz3 _ _ o3 s3 k3 H3 t3 _ q3 => ?_
  exact ⟨fz3, .next, o3, k1.trans (k2.trans k3), H3, .next, q3⟩

theorem get_att {x dx C : Addr} {loc : List (Str × V)} {name : Str} {a : V} {Q : V → Own → Prop} (hc : ClsOk W.K C) (h1 : (x, Ob.obj (instObj C dx)) ∈ own) (h2 : (dx, Ob.att loc) ∈ own) (hx : (name, a) ∈ loc)
    (hf : findIn W.K (.ref C) name = some none) (hv : ∀ fz v, RV fz a v → handedIn v = true) (h : Q a own) : S1 W A RV (fun v => getAttr v name true) (.ref x) own Q := fun fz s v H tk r => by
  cases r.val_inv
  obtain ⟨od, hod, ha, I⟩ := inst_at H h1 h2
  obtain ⟨es, ep, hd, hk, hsz, h3, _⟩ := ha
  obtain ⟨u, e, ru⟩ := h3 _ hx
  obtain ⟨cd, hcd, hdict⟩ := any_some hc.dict
  refine get_value (v := u) H.kin I hc.ga ?_ (hv _ _ ru) ⟨fz, a, own, .refl _, H.toks _, ru, h⟩
  unfold findObj
  rw [hcd, Option.bind_some, hf, Option.bind_some]
  dsimp only
  rw [Option.bind_some, Option.bind_some]
  dsimp only
  unfold PySem.W.ownOf
  rw [hdict, if_pos rfl]
  dsimp only
  rw [lookIn_of hd hk, e]
  rfl

theorem handed_lst {l : List PyData} : ∀ fz v, RV fz (.lst l) v → handedIn v = true := fun fz v r => by obtain ⟨a, _, rfl, _⟩ := r.lst_inv; rfl
/-- a method of the class -/
theorem mth_inst {x dx C f : Addr} {loc : List (Str × V)} {name : Str} {pl : Sem Bool} {Q : Value × List V → Own → Prop} (hc : ClsOk W.K C) (h1 : (x, Ob.obj (instObj C dx)) ∈ own) (h2 : (dx, Ob.att loc) ∈ own)
    (hf : findIn W.K (.ref C) name = some (some (.ref f))) (hty : typeIn W.K (.ref f) = some (.type "function")) (hn : name ∉ loc.map (·.1)) (h : Q (.ref f, [.ref x]) own) : SMth W A name pl (.ref x) own Q := fun fz s v H tk r => by
  cases r.val_inv
  obtain ⟨od, hod, ha, I⟩ := inst_at H h1 h2
  obtain ⟨es, ep, hd, hk, hsz, _, h4⟩ := ha
  refine method_fn H.kin I hc.ga hc.gattr hf hty ?_ ⟨fz, _, own, .refl _, H, ⟨rfl, .cons (.val _) .nil⟩, h⟩
  unfold shadowIn
  dsimp only
  rw [lookIn_of hd hk, h4 _ hn]
  rfl

/-- making a thing -/
theorem do_make {C fI : Addr} {args : List V} {Q : V → Own → Prop} (hc : ClsOk W.K C) (hi : findIn W.K (.ref C) "__init__" = some (some (.ref fI))) (hf : typeIn W.K (.ref fI) = some (.type "function"))
    (h : ∀ A' : Around, A'.handled = A.handled → A'.depth = A.depth + 1 → A'.units = A.units + 1 → ∀ x dx, SLC W A' (.ref fI) (.ref x :: args) ((x, .obj (instObj C dx)) :: (dx, .att []) :: own) fun r o => r = .none ∧ Q (.ref x) o) :
    SL W A RV (fun vs => call (.ref C) vs) args own Q := fun fz s vs H ht rs => by
  refine wpAny_call ?_
  have k : Keep s.heap ((s.heap.push emptyDict).push (instObj C s.heap.objs.size)) := (Keep.push _ _).trans (Keep.push _ _)
  have H1 : Hold W fz ((s.heap.objs.size, .att []) :: own) { s with heap := s.heap.push emptyDict, toks := s.toks } := H.new (Keep.push _ _) (get?_ge (Nat.le_refl _)) (Heap.get?_push_size _ rfl)
    ⟨#[], 0, rfl, fun e he => by simp at he, by simp, fun p hp => (nomatch hp), fun x _ => rfl⟩
  have H2 : Hold W fz ((s.heap.objs.size + 1, .obj (instObj C s.heap.objs.size)) :: (s.heap.objs.size, .att []) :: own) { s with heap := (s.heap.push emptyDict).push (instObj C s.heap.objs.size), toks := s.toks } := by
    have := H1.new (k := s.toks) (ob := .obj (instObj C s.heap.objs.size)) (Keep.push _ (instObj C s.heap.objs.size)) (get?_ge (Nat.le_refl _)) (Heap.get?_push_size _ rfl) rfl
    rw [show ({ s with heap := s.heap.push emptyDict, toks := s.toks } : Shared).heap.objs.size = s.heap.objs.size + 1 from Heap.size_push ..] at this
    exact this
  obtain ⟨hh, g, d, t, os⟩ := s
  refine make_core (makes_of H.kin hc.makes) (looks_findIn H.kin hi) (fun self => bind_fn H.kin self hf) (.inl rfl) ?_
  have key := h (A.under (.builtin "type.__call__" ⟨.ref C :: vs, []⟩)) rfl rfl rfl (hh.objs.size + 1) hh.objs.size fz _ _ H2 ht (.cons (.val _) rs)
  refine codeAny_mono key fun r s' x => ?_
  rcases r with e | (v | _ | _ | _) <;> first | exact x.elim | skip
  obtain ⟨fz', b, own', k', H', rb, rfl, q⟩ := x
  exact ⟨rb.none_inv, fz', _, own', k', H', .val _, q⟩
end
section
variable {W : Wd} {A : Around} {env : Env} {own : Own}

theorem ite_dec {p : Prop} [Decidable p] {P Q : Prop} (h1 : p → P) (h2 : ¬ p → Q) : if decide p = true then P else Q := by
  by_cases h : p
  · rw [if_pos (decide_eq_true h)]; exact h1 h
  · rw [if_neg (by simpa using h)]; exact h2 h
theorem ite_tt' {P Q : Prop} (h : P) : if true = true then P else Q := by rw [if_pos rfl]; exact h
theorem ite_ff' {P Q : Prop} (h : Q) : if false = true then P else Q := by rw [if_neg (by decide)]; exact h
theorem K_of {K K' : Frag} {a : Addr} {o : Obj} (hK : K = K') (h : K'.lookup a = some o) : K.lookup a = some o := hK ▸ h
theorem nsIn_of {K K' : Frag} {x : Str} {r : Option (Option Value)} (hK : K = K') (h : nsIn K' mainGlobals x = r) : nsIn K mainGlobals x = r := hK ▸ h
/-! ### texts as lists of signs -/
def S (l : List Nat) : Str := ⟨l.toArray⟩
def lit (x : Str) : List Nat := x.cps.toList
theorem S_lit (x : Str) : S (lit x) = x := by unfold S lit; simp
theorem S_len (l : List Nat) : (S l).length = l.length := by show l.toArray.size = _; simp
theorem S_cat (a b : List Nat) : S a ++ S b = S (a ++ b) := by
  show (⟨(S a).cps ++ (S b).cps⟩ : Str) = S (a ++ b)
  simp [S]
theorem S_inj {a b : List Nat} : S a = S b ↔ a = b := by
  constructor
  · intro h; have := congrArg (fun x : Str => x.cps.toList) h; simpa [S] using this
  · intro h; rw [h]

theorem SE_strS {x : Str} {k : Nat} {pos : Pos} {Q : V → Own → Prop} (h : Q (.str (S (lit x))) own) : SE W A env (.Constant (.str x) k pos) own Q := SE_str (by rw [S_lit] at h; exact h)
theorem SE_strL {x : Str} {l : List Nat} {k : Nat} {pos : Pos} {Q : V → Own → Prop} (hx : lit x = l) (h : Q (.str (S l)) own) : SE W A env (.Constant (.str x) k pos) own Q := SE_strS (by rw [hx]; exact h)
theorem op_catS {a b : List Nat} {Q : V → Own → Prop} (hz : a.length + b.length ≤ sizeLine) (h : Q (.str (S (a ++ b))) own) : S2 W A RV (binaryOp .Add) (.str (S a)) (.str (S b)) own Q := op_cat (by rw [S_len, S_len]; exact hz) (by rw [S_cat]; exact h)
theorem op_icatS {a b : List Nat} {Q : V → Own → Prop} (hz : a.length + b.length ≤ sizeLine) (h : Q (.str (S (a ++ b))) own) : S2 W A RV (inplaceOp .Add) (.str (S a)) (.str (S b)) own Q := op_icat (by rw [S_len, S_len]; exact hz) (by rw [S_cat]; exact h)
theorem cmp_eqSS {a b : List Nat} {Q : V → Own → Prop} (h : Q (.bool (decide (a = b))) own) : S2 W A RV (compareOp .Eq) (.str (S a)) (.str (S b)) own Q := cmp_eqS (by
  have : decide (S a = S b) = decide (a = b) := by simp only [S_inj]
  rw [this]; exact h)
theorem cmp_neSS {a b : List Nat} {Q : V → Own → Prop} (h : Q (.bool (decide (a ≠ b))) own) : S2 W A RV (compareOp .NotEq) (.str (S a)) (.str (S b)) own Q := cmp_neS (by
  have : decide (S a ≠ S b) = decide (a ≠ b) := by simp only [ne_eq, S_inj]
  rw [this]; exact h)
theorem call_lenS {a : List Nat} {Q : V → Own → Prop} (hz : a.length ≤ sizeLine) (h : Q (.int a.length) own) : SL W A RV (fun vs => call (.builtin "len") vs) [.str (S a)] own Q := call_len_str (by rw [S_len]; exact hz) (by rw [S_len]; exact h)
theorem call_chrS {i : Int} {Q : V → Own → Prop} (h0 : 0 ≤ i) (h1 : i < 1114112) (h : Q (.str (S [i.toNat])) own) : SL W A RV (fun vs => call (.builtin "chr") vs) [.int i] own Q := call_chr h0 h1 h
theorem call_ordS {c : Nat} {Q : V → Own → Prop} (h : Q (.int c) own) : SL W A RV (fun vs => call (.builtin "ord") vs) [.str (S [c])] own Q := call_ord h
theorem sub_strS {o i : Expr} {a : List Nat} {k : Int} {c : Nat} {Q : V → Own → Prop} (hlo : -(a.length : Int) ≤ k) (hhi : k < (a.length : Int)) (hz : a.length ≤ sizeLine) (hx : a[place k a.length]? = some c) (h : Q (.str (S [c])) own)
    (hs : ∀ v u, subscripted i false v u = operate [v, u] (getItem v u) := by intro _ _; with_unfolding_all rfl) : S2 W A RV (subscriptTail o i) (.str (S a)) (.int k) own Q :=
  sub_str (by rw [S_len]; exact hlo) (by rw [S_len]; exact hhi) (by rw [S_len]; exact hz) (by rw [S_len]; show a.toArray[_]? = _; simpa using hx) h hs
theorem cutS_S (a : List Nat) (lo hi : Option Int) : cutS (S a) lo hi = S (cutL a lo hi) := by unfold cutS S; simp
theorem it_strS {a : List Nat} {Q : V → Own → Prop} (h : ∀ i, Q (.ref i) ((i, .it (a.map fun c => V.str (S [c]))) :: own)) : S1 W A RV pyIter (.str (S a)) own Q := it_str h
theorem SE_SliceSS {value : Expr} {lower upper : Option Expr} {p pos : Pos} {Q : V → Own → Prop}
    (h : SE W A env value own fun a o1 => SPt W A env lower o1 fun lo o2 => SPt W A env upper o2 fun hi o3 => ∃ l, a = .str (S l) ∧ l.length ≤ sizeLine ∧ Q (.str (S (cutL l lo hi))) o3)
    (ht : ∀ o r, letTemporaryGo value o r = pure () := by intro _ _; rfl) : SE W A env (.Subscript value (.Slice lower upper none p) pos) own Q :=
  SE_SliceS (SG.mono h fun a o1 h1 => SG.mono h1 fun lo o2 h2 => SG.mono h2 fun hi o3 ⟨l, e, hz, q⟩ => ⟨S l, e, by rw [S_len]; exact hz, by rw [cutS_S]; exact q⟩) ht

/-! ### a list of one's own handed on as data -/
inductive Take (D : Addr) (ob : Ob) : Own → Own → Prop
  | here {l : Own} : Take D ob ((D, ob) :: l) l
  | there {p : Addr × Ob} {l l' : Own} : Take D ob l l' → Take D ob (p :: l) (p :: l')
theorem Take.perm {D : Addr} {ob : Ob} {l l' : Own} (t : Take D ob l l') : l.Perm ((D, ob) :: l') := by
  induction t with
  | here => exact .refl _
  | there _ ih => exact (ih.cons _).trans (.swap ..)
theorem op_mulR {a b : Int} {Q : V → Own → Prop} (hm : Builtin.Int.intBits b ≤ 64) (h : Q (.int (a * b)) own) : S2 W A RV (binaryOp .Mult) (.int a) (.int b) own Q := op_mul (.of_right hm) h
end
section
variable {W : Wd} {A : Around} {env : Env} {own : Own}

theorem Hold.more {fz : Heap} {s : Shared} (H : Hold W fz own s) {h' : Heap} {k : Nat} (hk : Keep s.heap h') {nw : Own} (hn : ∀ p ∈ nw, s.heap.get? p.1 = none) (ho : ∀ p ∈ nw, ∃ o, h'.get? p.1 = some o ∧ ObIs fz p.2 o)
    (nd : (nw.map (·.1)).Nodup) : Hold W fz (nw ++ own) { s with heap := h', toks := k } where
  base := H.base
  has := H.has.trans hk
  obs := fun p hp => by
    rcases List.mem_append.mp hp with hp | hp
    · exact ho p hp
    · obtain ⟨o', e, r⟩ := H.obs p hp; exact ⟨o', hk _ _ e, r⟩
  out := fun p hp => by
    rcases List.mem_append.mp hp with hp | hp
    · cases e : fz.get? p.1 with
      | none => rfl
      | some o' => exact absurd (H.has _ _ e) (by rw [hn p hp]; exact fun x => nomatch x)
    · exact H.out p hp
  nd := by
    rw [List.map_append, List.nodup_append]
    refine ⟨nd, H.nd, fun a ha b hb e => ?_⟩
    subst e
    obtain ⟨p, hp, rfl⟩ := List.mem_map.mp ha
    obtain ⟨q, hq, e⟩ := List.mem_map.mp hb
    obtain ⟨o', e', _⟩ := H.obs q hq
    rw [e, hn p hp] at e'
    cases e'
  gens := H.gens
  os := H.os

/-! ### calls with defaults -/
theorem do_callD {f : Addr} {args : List V} {Q : V → Own → Prop} {name qual : Str} {params : Arguments} {body : List Stmt} {scope : Scope} {dV kV doc pm cdv ct oc : Value} {an od : Option Addr} {osl : Array (Option Value)}
    (names : List Str) (dfl : List Value) (dfv : List V) (hdf : ∀ fz, RVs fz dfv dfl)
    (ho : W.K.lookup f = some ⟨oc, od, .func (fnOf name qual params body scope dV kV doc pm an cdv ct), osl⟩) (hcd : codeIn W.K cdv qual = true) (hroom : A.depth < recursionLimit)
    (hb : ∀ s vs, W.K.In s.heap → vs.length = args.length → BindsTo s (fnOf name qual params body scope dV kV doc pm an cdv ct) ⟨vs, []⟩ (names.zip (vs ++ dfl)))
    (hloc : ∀ y ∈ names, scope.names.lookup y = some .local) (nd : names.Nodup)
    (h : ∀ L, SXs W (A.deeper (envX qual scope L f cdv [])) (envX qual scope L f cdv []) body ((L, .ns (names.zip (args ++ dfv))) :: own) (retTo Q))
    (hco : scope.isCoroutine = false) (hgen : scope.isGenerator = false) (hk : scope.kind = .function)
    (hcell : ∀ x ∈ scope.names, x.2 ≠ .cell) : SLC W A (.ref f) args own Q := fun fz s vs H ht rs => by
  have ndz : ((names.zip (vs ++ dfl)).map (·.1)).Nodup := nd.sublist zip_fst
  refine (codeAny_call_def (fd := fnOf name qual params body scope dV kV doc pm an cdv ct) (body := body) (binds := names.zip (vs ++ dfl)) hroom (H.kin _ _ ho) rfl (W.top.nolimit.keeps H.keep) (codeRec_of H.kin hcd) rfl
    (hb s vs H.kin rs.length.symm) hcell (fun x hx => hloc _ (List.of_mem_zip (show (x.1, x.2) ∈ names.zip (vs ++ dfl) from hx)).1) (fun h₁ hns hk₁ => ?_) hco hgen hk)
  obtain ⟨o, ho', hob⟩ := of_ns (fz := fz) (loc := names.zip (args ++ dfv)) hns (fun p hp => by
    obtain ⟨v, e, r⟩ := zip_lookup (rs.append (hdf fz)) nd p hp
    exact ⟨v, by rw [lookup_reverse ndz]; exact e, r⟩)
  have H₁ : Hold W fz ((s.heap.objs.size, .ns (names.zip (args ++ dfv))) :: own) { s with heap := h₁, toks := s.toks + (names.zip (vs ++ dfl)).length } := H.new hk₁ (get?_ge (Nat.le_refl _)) ho' hob
  refine wpAny_mono (h s.heap.objs.size fz _ H₁ (Nat.le_trans ht (Nat.le_add_right _ _))) (fun fl s' x => ?_) fun _ _ x => x.elim
  obtain ⟨fz', b, own', k, H', r, own'', wk, q⟩ := x
  refine ⟨fz', _, own'', k, wk.hold H', ?_, q⟩
  cases r with
  | next => exact .dat .none
  | brk => exact .dat .none
  | cont => exact .dat .none
  | ret r => exact r

/-! ### calls of a def whose names are captured -/
def AllL (fz : Heap) (m : Str → Option Value) : List (Str × V) → Prop
  | [] => True
  | p :: r => (∃ v, m p.1 = some v ∧ RV fz p.2 v) ∧ AllL fz m r
theorem AllL.get {fz : Heap} {m : Str → Option Value} : ∀ {l : List (Str × V)}, AllL fz m l → ∀ p ∈ l, ∃ v, m p.1 = some v ∧ RV fz p.2 v
  | _ :: _, h, p, hp => by
    rcases List.mem_cons.mp hp with rfl | hp
    · exact h.1
    · exact AllL.get h.2 p hp
def AllC (fz : Heap) (m : Str → Option Value) : List (Str × Nat × Option V) → Prop
  | [] => True
  | (x, _, none) :: r => m x = none ∧ AllC fz m r
  | (x, _, some a) :: r => (∃ v, m x = some v ∧ RV fz a v) ∧ AllC fz m r
theorem AllC.get {fz : Heap} {m : Str → Option Value} : ∀ {l : List (Str × Nat × Option V)}, AllC fz m l → ∀ p ∈ l, match p.2.2 with | none => m p.1 = none | some a => ∃ v, m p.1 = some v ∧ RV fz a v
  | (x, n, o) :: r, h, p, hp => by
    cases o with
    | none =>
      rcases List.mem_cons.mp hp with rfl | hp
      · exact h.1
      · exact AllC.get h.2 p hp
    | some a =>
      rcases List.mem_cons.mp hp with rfl | hp
      · exact h.1
      · exact AllC.get h.2 p hp
theorem lookup_mem_nodup {α : Type} : ∀ {l : List (Str × α)}, (l.map (·.1)).Nodup → ∀ {n : Str} {c : α}, (n, c) ∈ l → l.lookup n = some c
  | (k, v) :: r, nd, n, c, h => by
    rw [List.map_cons, List.nodup_cons] at nd
    rw [List.lookup_cons]
    rcases List.mem_cons.mp h with e | h
    · cases e; simp
    · have : n ≠ k := fun e => nd.1 (List.mem_map.mpr ⟨_, h, e⟩)
      have : (n == k) = false := by simpa using this
      rw [this]; exact lookup_mem_nodup nd.2 h

abbrev cellsOwn (L : Addr) (ce : List (Str × Nat × Option V)) : Own := ce.map fun p => (L + p.2.1, Ob.cell p.2.2)
theorem do_callE {f : Addr} {args : List V} {Q : V → Own → Prop} {name qual : Str} {params : Arguments} {body : List Stmt} {scope : Scope} {dV kV doc pm cdv ct oc : Value} {an od : Option Addr} {osl : Array (Option Value)}
    (names : List Str) (loc : List (Str × V)) (ce : List (Str × Nat × Option V))
    (ho : W.K.lookup f = some ⟨oc, od, .func (fnOf name qual params body scope dV kV doc pm an cdv ct), osl⟩) (hcd : codeIn W.K cdv qual = true) (hroom : A.depth < recursionLimit)
    (hb : ∀ s vs, W.K.In s.heap → vs.length = args.length → BindsTo s (fnOf name qual params body scope dV kV doc pm an cdv ct) ⟨vs, []⟩ (names.zip vs))
    (hcl : ∀ L, cellsFrom (L + 1) scope.names [] = ce.map fun p => (p.1, L + p.2.1)) (ndc : (ce.map (·.1)).Nodup)
    (hkind : ∀ y ∈ names, scope.names.lookup y = some .local ∨ (scope.names.lookup y = some .cell ∧ y ∈ ce.map (·.1)))
    (hbind : ∀ fz vs L, RVs fz args vs → AllL fz (bindL (envX qual scope L f cdv (ce.map fun p => (p.1, L + p.2.1))).kindOf (names.zip vs) fun _ => none) loc ∧ AllC fz (bindC (envX qual scope L f cdv (ce.map fun p => (p.1, L + p.2.1))).kindOf (names.zip vs) fun _ => none) ce)
    (h : ∀ L, SXs W (A.deeper (envX qual scope L f cdv (ce.map fun p => (p.1, L + p.2.1)))) (envX qual scope L f cdv (ce.map fun p => (p.1, L + p.2.1))) body ((L, .ns loc) :: (cellsOwn L ce ++ own)) (retTo Q))
    (hco : scope.isCoroutine = false) (hgen : scope.isGenerator = false) (hk : scope.kind = .function) : SLC W A (.ref f) args own Q := fun fz s vs H ht rs => by
  have hlk : ∀ L, ∀ y ∈ ce.map (·.1), (((ce.map fun p => (p.1, L + p.2.1)) : List (Str × Addr)).lookup y).isSome = true := fun L y hy => by
    obtain ⟨p, hp, rfl⟩ := List.mem_map.mp hy
    rw [lookup_mem_nodup (l := ce.map fun p => (p.1, L + p.2.1)) (by rw [List.map_map]; exact ndc) (List.mem_map.mpr ⟨p, hp, rfl⟩)]; rfl
  refine codeAny_call_function hroom (H.kin _ _ ho) rfl hco hgen rfl (codeRec_of H.kin hcd) (hb s vs H.kin rs.length.symm _ _ _ _ ?_)
  have base := wpAny_newFunctionEnv_cells (M := model W.prog W.w) (A := A.in1) (E := fun e s' => False) (s := s) (scope := scope) (globals := mainGlobals) (binds := names.zip vs) (qual := qual ++ ".<locals>.") (func := some f) (code := cdv) (builtins := builtinsNs)
    (Q := fun env s' => env = newEnv scope s.heap.objs.size mainGlobals (cellsFrom (s.heap.objs.size + 1) scope.names []) (qual ++ ".<locals>.") (some f) cdv none builtinsNs ∧
      InCallC s env.locals (bindL env.kindOf (names.zip vs) fun _ => none) env.cells (bindC env.kindOf (names.zip vs) fun _ => none) s') hk (fun x hx => by
      rcases hkind _ (List.of_mem_zip (show (x.1, x.2) ∈ names.zip vs from hx)).1 with e | ⟨e, m⟩
      · exact .inl e
      · refine .inr ⟨e, ?_⟩
        rw [hcl]; exact hlk _ _ m) (fun env he s' x => ⟨he, x⟩)
  refine wpAny_mono (wpAny_toks_of ht base) (fun env' s' x => ?_) fun _ _ e => e.2.elim
  obtain ⟨t1, he, x⟩ := x
  have he' : env' = envX qual scope s.heap.objs.size f cdv (ce.map fun p => (p.1, s.heap.objs.size + p.2.1)) := by rw [he, hcl]; rfl
  subst he'
  clear he
  refine ⟨(W.top.nolimit.keeps H.keep).keeps x.toInCall.keep, codeAny_func ?_⟩
  have hk₁ := x.toInCall.keep
  obtain ⟨hL, hC⟩ := hbind fz vs s.heap.objs.size rs
  obtain ⟨o, ho', hob⟩ := of_ns (fz := fz) (loc := loc) x.toInCall.ns hL.get
  have hcells : ∀ p ∈ ce, ((ce.map fun p => (p.1, s.heap.objs.size + p.2.1)) : List (Str × Addr)).lookup p.1 = some (s.heap.objs.size + p.2.1) := fun p hp =>
    lookup_mem_nodup (l := ce.map fun p => (p.1, s.heap.objs.size + p.2.1)) (by rw [List.map_map]; exact ndc) (List.mem_map.mpr ⟨p, hp, rfl⟩)
  have habove : ∀ p ∈ ce, s.heap.objs.size < s.heap.objs.size + p.2.1 := fun p hp => x.above _ _ (List.mem_map.mpr ⟨p, hp, rfl⟩)
  obtain ⟨h₁, tk, rfl⟩ := x.toInCall.same
  have H₁ : Hold W fz ((s.heap.objs.size, .ns loc) :: cellsOwn s.heap.objs.size ce ++ own) { s with heap := h₁, toks := tk } := by
    refine H.more hk₁ (fun p hp => ?_) (fun p hp => ?_) ?_
    · rcases List.mem_cons.mp hp with rfl | hp
      · exact get?_ge (Nat.le_refl _)
      · obtain ⟨q, hq, rfl⟩ := List.mem_map.mp hp
        exact get?_ge (Nat.le_of_lt (habove q hq))
    · rcases List.mem_cons.mp hp with rfl | hp
      · exact ⟨o, ho', hob⟩
      · obtain ⟨q, hq, rfl⟩ := List.mem_map.mp hp
        obtain ⟨oc', e, d⟩ := x.cell _ _ (hcells q hq)
        have g := hC.get q hq
        obtain ⟨qx, qn, qo⟩ := q
        cases qo with
        | none => exact ⟨oc', e, by dsimp only at g d; rw [g] at d; exact d⟩
        | some a =>
          obtain ⟨v, e2, r⟩ := g
          exact ⟨oc', e, v, by dsimp only at e2 d; rw [e2] at d; exact d, r⟩
    · rw [List.map_cons, List.nodup_cons]
      refine ⟨fun hm => ?_, ?_⟩
      · obtain ⟨q, hq, e⟩ := List.mem_map.mp hm
        obtain ⟨q', hq', rfl⟩ := List.mem_map.mp hq
        exact absurd (habove q' hq') (by rw [show s.heap.objs.size + q'.2.1 = s.heap.objs.size from e]; exact Nat.lt_irrefl _)
      · have ap := x.apart
        rw [List.pairwise_map] at ap
        rw [List.map_map, List.Nodup, List.pairwise_map]
        exact ap
  refine wpAny_mono (h s.heap.objs.size fz _ H₁ t1) (fun fl s' x => ?_) fun _ _ x => x.elim
  obtain ⟨fz', b, own', k, H', r, own'', wk, q⟩ := x
  refine ⟨fz', _, own'', k, wk.hold H', ?_, q⟩
  cases r with
  | next => exact .dat .none
  | brk => exact .dat .none
  | cont => exact .dat .none
  | ret r => exact r

/-! ### two clauses -/
theorem CL.wk {e : Expr} {d : Nat} {D : Addr} {cenv : Env} {it : Addr} {l : List V} {o o' : Own} {Q : Own → Prop} (k : Wk o o') (h : CL W A e d D cenv it l o' Q) : CL W A e d D cenv it l o Q :=
  fun fz s H ht => h fz s ((Wk.keep .refl k).hold H) ht

end
section
variable {W : Wd} {A : Around} {env : Env} {own : Own}

/-! ### equal data -/
def Ok (n : Nat) (d : PyData) : Prop := d.canLay0 = true ∧ d.depth ≤ n
theorem Ok.mono {n m : Nat} {d : PyData} (h : Ok n d) (k : n ≤ m) : Ok m d := ⟨h.1, Nat.le_trans h.2 k⟩
theorem ok_str {n : Nat} {l : List Nat} (h : ∀ c ∈ l, c < 1114112) : Ok (n + 1) (.str (S l)) := by
  refine ⟨?_, by simp [PyData.depth]⟩
  show PyData.strOk (S l) = true
  unfold PyData.strOk S
  simp only [List.all_toArray, List.all_eq_true]
  intro c hc; simpa using h c hc
theorem okAll {n : Nat} : ∀ {l : List PyData}, (∀ d ∈ l, Ok n d) → PyData.canLayAll0 l = true ∧ PyData.depthAll l ≤ n
  | [], _ => ⟨rfl, by simp [PyData.depthAll]⟩
  | d :: l, h => by
    obtain ⟨h1, h2⟩ := okAll (l := l) fun e he => h e (List.mem_cons_of_mem _ he)
    obtain ⟨k1, k2⟩ := h d List.mem_cons_self
    refine ⟨by simp [PyData.canLayAll0, h1, k1], ?_⟩
    simp only [PyData.depthAll]; omega
theorem ok_list {n : Nat} {l : List PyData} (h : ∀ d ∈ l, Ok n d) : Ok (n + 1) (.list l) := by
  obtain ⟨h1, h2⟩ := okAll h
  exact ⟨by simpa [PyData.canLay0] using h1, by simp only [PyData.depth]; omega⟩
theorem cmp_eqR {a b : PyData} {Q : V → Own → Prop} (e : a = b) (ok : Ok 60 a) (hu : A.units + 60 < cLine) (h : Q (.bool true) own) : S2 W A RV (compareOp .Eq) (.dat a) (.dat b) own Q := fun fz s v u H _ r1 r2 => by
  subst e
  cases r1 with | dat r1 => cases r2 with | dat r2 =>
  refine SeqAt.compareEq_reads (Reads.keeps H.has r1) (Reads.keeps H.has r2) ok.1 ok.1 (by have := ok.2; omega) ?_
  rw [SeqAt.eqv_refl a ok.1]
  exact at_tok H _ (.dat (.bool _)) h
theorem cmp_neR {a b : PyData} {Q : V → Own → Prop} (e : a = b) (ok : Ok 60 a) (hu : A.units + 60 < cLine) (h : Q (.bool false) own) : S2 W A RV (compareOp .NotEq) (.dat a) (.dat b) own Q := fun fz s v u H _ r1 r2 => by
  subst e
  cases r1 with | dat r1 => cases r2 with | dat r2 =>
  refine SeqAt.compareNe_reads (Reads.keeps H.has r1) (Reads.keeps H.has r2) ok.1 ok.1 (by have := ok.2; omega) ?_
  rw [SeqAt.eqv_refl a ok.1]
  exact at_tok H _ (.dat (.bool _)) h

/-! ### a list of one's own becomes data where it is named -/
inductive VF (D : Addr) (d : PyData) : V → V → Prop
  | at_ : VF D d (.ref D) (.dat d)
  | same {v : V} : VF D d v v
inductive NF (D : Addr) (d : PyData) : List (Str × V) → List (Str × V) → Prop
  | nil : NF D d [] []
  | cons {x : Str} {v v' : V} {l l' : List (Str × V)} : VF D d v v' → NF D d l l' → NF D d ((x, v) :: l) ((x, v') :: l')
inductive OF (D : Addr) (d : PyData) : Own → Own → Prop
  | refl {l : Own} : OF D d l l
  | ns {a : Addr} {loc loc' : List (Str × V)} {l l' : Own} : NF D d loc loc' → OF D d l l' → OF D d ((a, .ns loc) :: l) ((a, .ns loc') :: l')
  | cell {a : Addr} {v v' : V} {l l' : Own} : VF D d v v' → OF D d l l' → OF D d ((a, .cell (some v)) :: l) ((a, .cell (some v')) :: l')
  | same {p : Addr × Ob} {l l' : Own} : OF D d l l' → OF D d (p :: l) (p :: l')
theorem VF.rv {D : Addr} {d : PyData} {fz : Heap} (hD : RV fz (.dat d) (.ref D)) {a a' : V} (x : VF D d a a') {v : Value} (r : RV fz a v) : RV fz a' v := by
  cases x with
  | at_ => rw [r.val_inv]; exact hD
  | same => exact r
theorem NF.is {D : Addr} {d : PyData} {fz : Heap} (hD : RV fz (.dat d) (.ref D)) {l l' : List (Str × V)} (x : NF D d l l') {es : Array DictEntry} (h : ∀ p ∈ l, ∃ v, nsFind es p.1 = some v ∧ RV fz p.2 v) :
    ∀ p ∈ l', ∃ v, nsFind es p.1 = some v ∧ RV fz p.2 v := by
  induction x with
  | nil => exact h
  | cons hv _ ih =>
    intro p hp
    rcases List.mem_cons.mp hp with rfl | hp
    · obtain ⟨v, e, r⟩ := h _ List.mem_cons_self; exact ⟨v, e, hv.rv hD r⟩
    · exact ih (fun q hq => h q (List.mem_cons_of_mem _ hq)) p hp
theorem OF.is {D : Addr} {d : PyData} {fz : Heap} (hD : RV fz (.dat d) (.ref D)) {l l' : Own} (x : OF D d l l') : (l'.map (·.1) = l.map (·.1)) ∧ ∀ p' ∈ l', ∃ p ∈ l, p.1 = p'.1 ∧ ∀ o, ObIs fz p.2 o → ObIs fz p'.2 o := by
  induction x with
  | refl => exact ⟨rfl, fun p hp => ⟨p, hp, rfl, fun _ h => h⟩⟩
  | ns h _ ih =>
    refine ⟨by simp [ih.1], fun p hp => ?_⟩
    rcases List.mem_cons.mp hp with rfl | hp
    · exact ⟨_, List.mem_cons_self, rfl, fun o ⟨es, ep, h1, h2, h3⟩ => ⟨es, ep, h1, h2, h.is hD h3⟩⟩
    · obtain ⟨q, hq, r⟩ := ih.2 p hp; exact ⟨q, List.mem_cons_of_mem _ hq, r⟩
  | cell h _ ih =>
    refine ⟨by simp [ih.1], fun p hp => ?_⟩
    rcases List.mem_cons.mp hp with rfl | hp
    · exact ⟨_, List.mem_cons_self, rfl, fun o ⟨v, e, r⟩ => ⟨v, e, h.rv hD r⟩⟩
    · obtain ⟨q, hq, r⟩ := ih.2 p hp; exact ⟨q, List.mem_cons_of_mem _ hq, r⟩
  | same _ ih =>
    refine ⟨by simp [ih.1], fun p hp => ?_⟩
    rcases List.mem_cons.mp hp with rfl | hp
    · exact ⟨_, List.mem_cons_self, rfl, fun _ h => h⟩
    · obtain ⟨q, hq, r⟩ := ih.2 p hp; exact ⟨q, List.mem_cons_of_mem _ hq, r⟩
theorem SG_frz {α β : Type} {R : Heap → β → α → Prop} {t : Sem α} {own₁ own' : Own} {Q : β → Own → Prop} {D : Addr} {ys : List V} {ds : List PyData} (tk : Take D (.list ys) own own₁) (ad : AllDat ys ds) (x : OF D (.list ds) own₁ own')
    (h : SG W A R t own' Q) : SG W A R t own Q := fun fz s H ht => by
  obtain ⟨fz', k, H', r⟩ := (H.perm tk.perm).freezeList ad
  obtain ⟨k1, k2⟩ := x.is r
  refine (h fz' s ⟨H'.base, H'.has, fun p hp => ?_, fun p hp => ?_, by rw [k1]; exact H'.nd, H'.gens, H'.os⟩ ht).weak k
  · obtain ⟨q, hq, e, f⟩ := k2 p hp
    obtain ⟨o, ho, i⟩ := H'.obs q hq
    exact ⟨o, e ▸ ho, f o i⟩
  · obtain ⟨q, hq, e, f⟩ := k2 p hp
    exact e ▸ H'.out q hq

theorem bits_small {n : Int} (h : n.natAbs < 2 ^ 60) : Builtin.Int.intBits n ≤ 64 := by
  unfold Builtin.Int.intBits
  split
  · omega
  · rename_i hx
    have hx' : n.natAbs ≠ 0 := by simpa using hx
    have := (Nat.log2_lt hx').mpr h
    omega

end
section
variable {W : Wd} {A : Around} {env : Env} {own : Own}

/-! ### small calls -/
theorem call_abs {a : Int} {Q : V → Own → Prop} (h : Q (.int a.natAbs) own) : SL W A RV (fun vs => call (.builtin "abs") vs) [.int a] own Q := SL1 fun fz s v H ht r => by
  obtain ⟨t, rfl⟩ := r.int_inv
  refine call_abs_int fun u tk => ?_
  have e : (if a < 0 then -a else a) = (a.natAbs : Int) := by split <;> omega
  rw [e]
  exact at_tok H _ (.dat (.int _ _)) h
theorem call_range2 {a b : Int} {Q : V → Own → Prop} (h : Q (.rng a b 1) own) : SL W A RV (fun vs => call (.type "range") vs) [.int a, .int b] own Q := SL2 fun fz s v u H ht r1 r2 => by
  obtain ⟨t, rfl⟩ := r1.int_inv
  obtain ⟨t', rfl⟩ := r2.int_inv
  refine call_range_2 ?_
  obtain ⟨kk, H'⟩ := H.frz (k := s.toks + 1) (o := { cls := .type "range", data := .fields #[.int a t, .int b t', .int 1 s.toks] }) rfl (Keep.push _ _) (get?_ge (Nat.le_refl _)) (Heap.get?_push_size _ rfl)
  exact ⟨_, _, own, kk, H', .rng (putH_at rfl), h⟩
theorem ints_of {fz : Heap} : ∀ {ns : List Int} {vs : List Value}, RVs fz ((ns.map PyData.int).map V.dat) vs → IntsAre vs ns
  | [], _, r => by cases r; exact .nil
  | n :: ns, _, r => by
    cases r with
    | cons h t => obtain ⟨t', rfl⟩ := RV.int_inv h; exact .cons _ _ (ints_of t)
theorem strs_of {fz : Heap} : ∀ {ls : List (List Nat)} {vs : List Value}, RVs fz ((ls.map fun l => PyData.str (S l)).map V.dat) vs → StrsAre vs (ls.map S)
  | [], _, r => by cases r; exact .nil
  | n :: ns, _, r => by
    cases r with
    | cons h t => obtain ⟨t', rfl⟩ := RV.str_inv h; exact .cons _ _ (strs_of t)
theorem any_eq {ns : List Int} {k : Int} : ns.any (· == k) = decide (k ∈ ns) := by
  induction ns with
  | nil => simp
  | cons n ns ih =>
    rw [List.any_cons, ih]
    by_cases e : k = n
    · subst e; simp
    · have : (n == k) = false := by simpa using fun h => e h.symm
      simp [this, e]
theorem cmp_inL {k : Int} {ns : List Int} {Q : V → Own → Prop} (h : Q (.bool (decide (k ∈ ns))) own) : S2 W A RV (compareOp .In) (.int k) (.lst (ns.map .int)) own Q := fun fz s v u H _ r1 r2 => by
  obtain ⟨t, rfl⟩ := r1.int_inv
  obtain ⟨x, vs, rfl, hl, rs⟩ := r2.lst_inv
  refine in_list_ints (vs := vs.toList) (by simpa using IsList_keep hl H.has) (ints_of rs) ?_
  rw [any_eq]
  exact ⟨fz, _, own, .refl _, H, .dat (.bool _), h⟩
theorem cmp_ninL {k : Int} {ns : List Int} {Q : V → Own → Prop} (h : Q (.bool (decide (k ∉ ns))) own) : S2 W A RV (compareOp .NotIn) (.int k) (.lst (ns.map .int)) own Q := fun fz s v u H _ r1 r2 => by
  obtain ⟨t, rfl⟩ := r1.int_inv
  obtain ⟨x, vs, rfl, hl, rs⟩ := r2.lst_inv
  refine notin_list_ints (vs := vs.toList) (by simpa using IsList_keep hl H.has) (ints_of rs) ?_
  rw [any_eq, show (!decide (k ∈ ns)) = decide (k ∉ ns) by simp]
  exact ⟨fz, _, own, .refl _, H, .dat (.bool _), h⟩

/-! ### texts made of texts -/
theorem call_join {ls : List (List Nat)} {Q : V → Own → Prop} (hz : (ls.flatten).length ≤ 1000000) (h : Q (.str (S ls.flatten)) own) :
    SL W A RV (fun vs => call (.builtin "str.join") vs) [.str (S []), .lst (ls.map fun l => .str (S l))] own Q := SL2 fun fz s v u H ht r1 r2 => by
  obtain ⟨t, rfl⟩ := r1.str_inv
  obtain ⟨x, vs, rfl, hl, rs⟩ := r2.lst_inv
  have hsum : ∀ ls : List (List Nat), ((ls.map S).map (·.length)).sum = ls.flatten.length := by
    intro ls
    induction ls with
    | nil => rfl
    | cons a r ih => simp only [List.map_cons, List.sum_cons, ih, S_len, List.flatten_cons, List.length_append]
  have hj : ∀ ls : List (List Nat), Txt.join (S []) (ls.map S) = S ls.flatten := by
    intro ls
    have key : ∀ ls : List (List Nat), Str.join (S []) (ls.map S) = S ls.flatten := by
      intro ls
      induction ls with
      | nil => rfl
      | cons a r ih =>
        cases r with
        | nil => simp [Str.join]
        | cons b r =>
          have e : Str.join (S []) ((a :: b :: r).map S) = S a ++ S [] ++ Str.join (S []) ((b :: r).map S) := rfl
          rw [e, ih, S_cat, S_cat]; simp
    have := key ls
    exact (eq_of_beq (join_plain_closes _ _)).trans this
  refine join_list (IsList_keep hl H.has) (strs_of rs) ?_ fun t' k => ?_
  · rw [hsum, S_len]; simp only [List.length_nil, Nat.mul_zero]; omega
  · rw [hj]; exact at_tok H _ (.dat (.str _ _)) h

/-! ### lists that grow -/
theorem op_addO {a b : List PyData} {Q : V → Own → Prop} (hz : a.length + b.length ≤ sizeLine) (h : ∀ D, Q (.ref D) ((D, .list ((a ++ b).map V.dat)) :: own)) : S2 W A RV (binaryOp .Add) (.lst a) (.lst b) own Q := fun fz s v u H ht r1 r2 => by
  obtain ⟨x, vs, rfl, hl, rs⟩ := r1.lst_inv
  obtain ⟨y, ws, rfl, hm, rt⟩ := r2.lst_inv
  have h1 := rs.length
  have h2 := rt.length
  rw [List.length_map] at h1 h2
  obtain ⟨⟨cls, dd, data, sl⟩, ho, hc, n, hd⟩ := IsList_keep hl H.has
  obtain ⟨⟨cls2, dd2, data2, sl2⟩, ho2, hc2, n2, hd2⟩ := IsList_keep hm H.has
  simp only at hc hd hc2 hd2
  subst hc hd hc2 hd2
  have q1 : vs.toList.length = vs.size := Array.length_toList
  have q2 : ws.toList.length = ws.size := Array.length_toList
  refine concat_meets ⟨_, ho, rfl⟩ ⟨_, ho2, rfl⟩ noFill_list_add seq_list_add PySem.F.slot_list_add PySem.F.entry_list_add (PySem.F.args_list_add_2 _ _) (list_addW x y vs ws n n2 dd dd2 sl sl2 (by omega)) ⟨ho, ho2, ?_⟩
  have e : vs ++ ws = (vs.toList ++ ws.toList).toArray := by simp
  rw [e]
  exact ⟨fz, _, _, .refl _, H.new (ob := .list ((a ++ b).map V.dat)) (k := s.toks) (Keep.push _ _) (get?_ge (Nat.le_refl _)) (Heap.get?_push_size _ rfl) ⟨vs.toList ++ ws.toList, _, rfl, by rw [List.map_append]; exact rs.append rt⟩, .val _, h _⟩

theorem items_ints {fz : Heap} {a : Int} {acc : Array Value} {n : Nat} (h : ItemsOf (fun i v => ∃ t, v = .int (a + i * 1) t) acc n) : RVs fz (((List.range n).map fun j : Nat => PyData.int (a + j)).map V.dat) acc.toList := by
  obtain ⟨hn, hx⟩ := h
  have key : ∀ (l : List Value) (k m : Nat), l.length = m → (∀ i, i < m → ∃ v, l[i]? = some v ∧ ∃ t, v = .int (a + ((k + i : Nat) : Int)) t) → RVs fz (((List.range' k m).map fun j : Nat => PyData.int (a + j)).map V.dat) l := by
    intro l
    induction l with
    | nil => intro k m hm _; subst hm; exact .nil
    | cons v l ih =>
      intro k m hm hi
      subst hm
      rw [List.length_cons, List.range'_succ, List.map_cons, List.map_cons]
      obtain ⟨v', e, t, e2⟩ := hi 0 (by simp)
      simp only [List.getElem?_cons_zero, Option.some.injEq] at e
      subst e e2
      refine .cons (.dat (Reads.int _ _)) (ih (k + 1) l.length rfl fun i h => ?_)
      · obtain ⟨w, e, t, e2⟩ := hi (i + 1) (by rw [List.length_cons]; omega)
        rw [List.getElem?_cons_succ] at e
        exact ⟨w, e, t, by rw [e2, show k + (i + 1) = k + 1 + i by omega]⟩
  rw [List.range_eq_range']
  refine key acc.toList 0 n (by rw [Array.length_toList]; exact hn) fun i hi => ?_
  have hi' : i < acc.size := by omega
  obtain ⟨t, e2⟩ := hx i acc[i] (by simp [hi'])
  exact ⟨acc[i], by simp [hi'], t, by rw [e2]; simp⟩
theorem call_listR {a b : Int} {n : Nat} {Q : V → Own → Prop} (hh : A.handled = none) (hs : Builtin.Range.small a b 1 = true) (hn : Builtin.Range.rangeSize a b 1 = (n : Int)) (hz : n ≤ 2 ^ 24) (h : Q (.lst ((List.range n).map fun j : Nat => PyData.int (a + j))) own) :
    SL W A RV (fun vs => call (.type "list") vs) [.rng a b 1] own Q := SL1 fun fz s v H ht r => by
  cases r with
  | rng hr =>
    refine call_list_range hh (IsRange_keep hr H.has) hs hn hz fun h' tk acc c hk hD hI => ?_
    obtain ⟨kk, H'⟩ := H.frz (k := tk) (h' := h') (o := listObj acc.toList c) rfl hk (get?_ge (Nat.le_refl _)) (by rw [hD]; simp [listObj])
    exact ⟨_, _, own, kk, H', rv_list (putH_at rfl) (items_ints hI), h⟩
theorem look_iadd : typeLookup (.type "list") (dunderI "add") = pure (some (.builtin "list.__iadd__")) := PySem.F.slot_list_iadd.lookup
theorem fills_iadd : fillsInplaceSlot (.type "list") "add" (Operator.Add == .Add) = pure false := by
  unfold fillsInplaceSlot
  show (typeLookup (.type "list") (dunderI "add") >>= fun fi => pure (fi.isSome && !isSeqSlot fi)) = pure false
  rw [look_iadd]
  have e : isSeqSlot (some (.builtin "list.__iadd__")) = true := by decide +kernel
  simp [e]
theorem seq_iadd : seqSlot? (.type "list") (dunderI "add") = pure (some (.builtin "list.__iadd__")) := PySem.seqSlot_of look_iadd (by decide +kernel)
theorem mapSeq_app' {vs ws : List Value} {n : Nat} : (Obj.mapSeq (fun x => x ++ ws.toArray) (listObj vs n)) = listObj (vs ++ ws) (if (vs.toArray ++ ws.toArray).size == vs.toArray.size then n else n + 1) := by
  have := mapSeq_app vs.toArray ws.toArray n none #[]
  unfold listObj
  rw [this]
  simp
theorem op_iaddO {D E : Addr} {a b : List V} {own' : Own} {Q : V → Own → Prop} (hE : (E, Ob.list b) ∈ own) (u : Upd D (.list a) (.list (a ++ b)) own own') (hz : a.length + b.length ≤ sizeLine) (h : Q (.ref D) own') : S2 W A RV (inplaceOp .Add) (.ref D) (.ref E) own Q := fun fz s v u' H ht r1 r2 => by
  cases r1.val_inv
  cases r2.val_inv
  obtain ⟨ob, ho, vs, n, rfl, rs⟩ := H.get u.mem
  obtain ⟨ob2, ho2, ws, n2, rfl, rt⟩ := H.get hE
  have h1 := rs.length
  have h2 := rt.length
  have hD : s.TypeIs (.ref D) "list" := ⟨_, ho, rfl⟩
  have hE' : s.TypeIs (.ref E) "list" := ⟨_, ho2, rfl⟩
  unfold inplaceOp
  refine wpAny_holding ?_
  refine wpAny_bind (wpAny_typeOf hD (wpAny_bind (wpAny_of_eq fills_iadd ?_)))
  show wpAny _ A (if false = true then _ else _) _ _ s
  rw [if_neg Bool.false_ne_true]
  refine wpAny_bind (PyProof.Rows.binaryOp1_none (nm := "add") hD hE' noFill_list_add ?_)
  refine wpAny_bind (wpAny_of_eq seq_iadd ?_)
  refine wpAny_bind (wpAny_rule ?_)
  have hsz : vs.toArray.size + ws.toArray.size ≤ sizeLine := by simp only [List.size_toArray]; omega
  refine call_meets PySem.F.slot_list_iadd hD PySem.F.entry_list_iadd (PySem.F.args_list_iadd_2 _ _) (AutoSeq1.list___iadd___list_list_0 D vs.toArray n E ws.toArray n2 (extend_door hsz) (Nat.le_trans (Nat.le_add_right _ _) hsz) (Nat.le_succ_of_le hsz)) ⟨ho, ho2, ?_⟩
  have ho' : (s.heap.update D (Obj.mapSeq fun x => x ++ ws.toArray)).get? D = some (listObj (vs ++ ws) (if (vs.toArray ++ ws.toArray).size == vs.toArray.size then n else n + 1)) := by
    rw [Heap.get?_update_self _ ho (by rw [mapSeq_app']; rfl), mapSeq_app']
  exact ⟨fz, _, own', .refl _, H.set (k := s.toks) u (Heap.SameBut.update ..) ho' ⟨vs ++ ws, _, rfl, rs.append rt⟩, .val _, h⟩

/-! ### replaced signs -/
def repl (c : Nat) (z l : List Nat) : List Nat := l.flatMap fun d => if d = c then z else [d]
theorem repl_free {c : Nat} {z : List Nat} : ∀ {l : List Nat}, c ∉ l → repl c z l = l
  | [], _ => rfl
  | d :: l, h => by
    have h1 : ¬ d = c := fun e => h (e ▸ List.mem_cons_self)
    have ih := repl_free (z := z) (l := l) fun m => h (List.mem_cons_of_mem _ m)
    unfold repl at ih ⊢
    rw [List.flatMap_cons, if_neg h1, ih]; rfl
theorem repl_join (c : Nat) (z : List Nat) : ∀ parts : List Str, (∀ p ∈ parts, c ∉ p.cps.toList) → repl c z (Str.join ⟨#[c]⟩ parts).cps.toList = (Str.join (S z) parts).cps.toList
  | [], _ => rfl
  | [p], h => repl_free (h p (List.mem_singleton.mpr rfl))
  | p :: q :: r, h => by
    have ih := repl_join c z (q :: r) fun a ha => h a (List.mem_cons_of_mem _ ha)
    show repl c z (p ++ ⟨#[c]⟩ ++ Str.join ⟨#[c]⟩ (q :: r)).cps.toList = (p ++ S z ++ Str.join (S z) (q :: r)).cps.toList
    simp only [Str.cps_append, Array.toList_append]
    have e1 := repl_free (z := z) (h p List.mem_cons_self)
    unfold repl at e1 ih ⊢
    rw [List.flatMap_append, List.flatMap_append, ih, e1]
    simp [S]
theorem replace_S (l z : List Nat) (c : Nat) : Txt.replace (S l) (S [c]) (S z) = S (repl c z l) := by
  have e : (S [c] : Str) = ⟨#[c]⟩ := rfl
  rw [e, StrLaws.replace_one]
  have h2 := repl_join c z _ (StrLaws.split_free (S l) c)
  rw [StrLaws.join_split] at h2
  have h3 : (S l).cps.toList = l := by simp [S]
  rw [h3] at h2
  rw [h2]
  simp [S]
theorem repl_len (c : Nat) (z l : List Nat) : (repl c z l).length ≤ l.length * (z.length + 1) := by
  unfold repl
  induction l with
  | nil => simp
  | cons d l ih =>
    rw [List.flatMap_cons, List.length_append, List.length_cons, Nat.succ_mul]
    split
    · omega
    · simp only [List.length_cons, List.length_nil]; omega

/-- two texts written out: their tokens stand apart -/
theorem SEs_two {pos : Pos} {y z : Str} {k k' : Nat} {p p' : Pos} {Q : List V → Own → Prop} (h : ∀ t, W.tk ≤ t → Q [.val (.str y t), .val (.str z (t + 1))] own) : SEs W A env pos [.Constant (.str y) k p, .Constant (.str z) k' p'] own Q := fun fz s H ht => by
  show wpAny _ _ (spliced ((false, eval (.Constant (.str y) k p) env) :: (false, eval (.Constant (.str z) k' p') env) :: [])) _ _ _
  refine Calls.spliced_cons (wpAny_Constant_str ?_)
  refine Calls.spliced_cons (wpAny_Constant_str ?_)
  refine Calls.spliced_nil ?_
  exact ⟨fz, _, own, .refl _, (H.toks _).toks _, .cons (.val _) (.cons (.val _) .nil), h _ ht⟩
theorem call_replace {l y z : List Nat} {c : Nat} {u v : Tok} {Q : V → Own → Prop} (hu : u ≠ 0) (hv : v ≠ 0) (huv : u ≠ v) (hyz : ([c] == z) = false) (hx : l.length ≤ 100000) (hz : z.length ≤ 14) (h : Q (.str (S (repl c z l))) own) :
    SL W A RV (fun vs => call (.builtin "str.replace") vs) [.str (S l), .val (.str (S [c]) u), .val (.str (S z) v)] own Q := fun fz s vs H ht r => by
  cases r with | cons r1 r => cases r with | cons r2 r => cases r with | cons r3 r =>
  cases r
  obtain ⟨t, rfl⟩ := r1.str_inv
  cases r2.val_inv
  cases r3.val_inv
  refine SC.replaceW hu hv huv ?_ (by rw [S_len]; omega) (by rw [S_len]; exact hz) fun t' k => ?_
  · have : ([c] : List Nat) ≠ z := by simpa using hyz
    have h2 : S [c] ≠ S z := fun e => this (S_inj.mp e)
    simpa using h2
  · rw [replace_S]; exact at_tok H _ (.dat (.str _ _)) h
theorem SE_Replace {o : Expr} {apos pos p p' : Pos} {k k' : Nat} {y z : Str} {c : Nat} {zl : List Nat} {pl : Sem Bool} {Q : V → Own → Prop} (h1 : 1 ≤ W.tk) (hy : lit y = [c]) (hz : lit z = zl) (hyz : ([c] == zl) = false) (hzl : zl.length ≤ 14)
    (h : SE W A env o own fun a o1 => ∃ l, a = .str (S l) ∧ l.length ≤ 100000 ∧ Q (.str (S (repl c zl l))) o1)
    (he : eval (.Call (.Attribute o (Str.ofString "replace") apos) [.Constant (.str y) k p, .Constant (.str z) k' p'] [] pos) env = (do
      let ov ← eval o env
      standAt apos.atName
      let (f, first) ← holding [ov] (getMethod ov (Str.ofString "replace") pl)
      callWith pos f first (backTo pos (starEach [.Constant (.str y) k p, .Constant (.str z) k' p'] env)) []) := by rfl) : SE W A env (.Call (.Attribute o (Str.ofString "replace") apos) [.Constant (.str y) k p, .Constant (.str z) k' p'] [] pos) own Q := by
  refine SE_Meth (pl := pl) (SG.mono h fun a o1 hx => ?_) he
  obtain ⟨l, rfl, hl, q⟩ := hx
  refine mth_str (id := "str.replace") (fun t s P h => GM.replace h) ?_
  refine SEs_two fun t ht => ⟨kp_builtin, ?_⟩
  have ey : y = S [c] := by rw [← hy, S_lit]
  have ez : z = S zl := by rw [← hz, S_lit]
  subst ey ez
  exact call_replace (y := []) (by have : 1 ≤ t := Nat.le_trans h1 ht; exact fun e => by subst e; exact absurd this (by decide)) (Nat.succ_ne_zero _) (Nat.ne_of_lt (Nat.lt_succ_self t)) hyz hl hzl q

/-! ### the end struck off -/
def rstripL (p : Nat → Bool) (l : List Nat) : List Nat := l.take (l.length - (l.reverse.takeWhile p).length)
theorem rstrip_S (p : Nat → Bool) (l : List Nat) : Txt.stripBy p false true (S l) = S (rstripL p l) := by
  have e1 : stripLo p false (S l) = 0 := rfl
  have e2 : stripHi p true (S l) 0 = l.length - (l.reverse.takeWhile p).length := by unfold stripHi; simp [S, Str.length]
  unfold Txt.stripBy stripSame PySem.stripped
  rw [e1, e2]
  split
  · rename_i h
    simp only [beq_self_eq_true, Bool.true_and, beq_iff_eq, S_len] at h
    unfold rstripL
    rw [h, List.take_length]
  · unfold Builtin.Str.strSub rstripL S; simp
theorem call_rstrip {l : List Nat} {Q : V → Own → Prop} (hz : l.length ≤ sizeLine) (h : Q (.str (S (rstripL Unicode.isSpace l))) own) : SL W A RV (fun vs => call (.builtin "str.rstrip") vs) [.str (S l)] own Q := SL1 fun fz s v H ht r => by
  obtain ⟨t, rfl⟩ := r.str_inv
  refine call_gives F.slot_str_rstrip (typeIs_str _ _ _) F.entry_str_rstrip (F.args_str_rstrip_1 _) (gives_str_rstrip (S l) t) (post_val_or_made (fun _ => fits_stripped _ _ _ (by rw [S_len]; exact hz)) fun t' k => ?_)
  have := rstrip_S Unicode.isSpace l
  unfold Txt.stripBy at this
  first | rw [this] | skip
  exact at_tok H _ (.dat (.str _ _)) h
end
section
variable {W : Wd} {A : Around} {env : Env} {own : Own}

/-! ### formats -/
def decT (n : Int) : List Nat := (if n < 0 then [45] else []) ++ (Str.ofString (toString ((n.natAbs : Nat) : Int))).cps.toList
theorem dec_int (f : Builtin.Str.Percent) (h1 : f.alt = false) (h2 : f.type = 100) (h3 : f.prec = none) (n : Int) (d : List Nat) : Builtin.Str.percentInt f (decide (n < 0)) d = (if n < 0 then [45] else []) ++ d := by
  unfold Builtin.Str.percentInt
  simp [h1, h2, h3]
set_option maxHeartbeats 4000000 in
theorem meets_d (n : Int) (t u : Tok) (hd : n.natAbs.log2 < 1920) (hd' : ((n.natAbs : Nat) : Int).natAbs.log2 < 1920) (hz : (decT n).length ≤ 1000) :
    Meets (Builtin.«str.__mod__» ⟨[.str ⟨#[37, 100]⟩ t, .int n u], []⟩) (fun _ R s => ∀ t' k, R (.ok (.ret (.str (S (decT n)) t'))) { s with toks := k }) := by
  apply KPc.meets_of
  intro prog w A s Q E hq
  rw [KPc.entry_is]
  unfold Builtin.Str.percentFormat
  refine wpAny_bind (wpAny_isInstance (typeIs_int _ _ _) F.sub_int_tuple ?_)
  refine wpAny_bind (wpAny_of_eq (a := none) rfl ?_)
  refine wpAny_bind (wpAny_of_eq (KPc.fills _ _) ?_)
  kpc_if
  refine wpAny_bind (wpAny_pure ?_)
  refine wpAny_bind ?_
  rw [KPc.range_list]
  refine KPc.start ?_
  intro w0 g0
  refine KPc.turn ?_
  kpc_check
  repeat kpc_if
  refine wpAny_bind ?_
  refine wpAny_holding ?_
  repeat kpc_if
  kpc_conv
  refine wpAny_pure ?_
  refine wpAny_pure ?_
  refine KPc.after_add0 (y := S (decT n)) g0 ?_ (KPc.obj_none (by kpc_none)) ?_
  · rw [dec_int _ rfl rfl rfl]; rfl
  intro w1 g1
  have g2 : KPc.Good w1 (S (decT n)) 1000 := KPc.good_mono g1 (by rw [S_len]; omega)
  refine KPc.turn ?_
  refine wpAny_ite (KPc.ite_no (KPc.short_good g2 (by decide)) ?_)
  repeat kpc_if
  refine wpAny_pure ?_
  kpc_if
  exact KPc.finish_ok g2 (by decide) rfl hq
theorem lk_int : typeLookup (.type "str") "__int__" = pure none := by rw [typeLookup_type, builtinLookup_eq_fast]; kernel_rfl
theorem lk_index : typeLookup (.type "str") "__index__" = pure none := by rw [typeLookup_type, builtinLookup_eq_fast]; kernel_rfl
theorem lk_float : typeLookup (.type "str") "__float__" = pure none := by rw [typeLookup_type, builtinLookup_eq_fast]; kernel_rfl
theorem lk_trunc : typeLookup (.type "str") "__trunc__" = pure none := by rw [typeLookup_type, builtinLookup_eq_fast]; kernel_rfl
theorem sp_str (x : Str) (u : Tok) (n : Str) : specialOf (.str x u) n = typeLookup (.type "str") n := rfl
theorem intOf_str {M : Model} {A : Around} {s : Shared} {x : Str} {u : Tok} {Q : Int → Shared → Prop} {E : Value → Shared → Prop} (hh : A.handled = none) (h : ∀ h' tk e, Heap.NewExc s.heap h' e "TypeError" → E (.ref e) { s with heap := h', toks := tk }) :
    wpAny M A (Builtin.Str.percentIntOf 100 (.str x u)) Q E s := by
  unfold Builtin.Str.percentIntOf
  refine wpAny_bind (wpAny_of_eq (a := none) rfl ?_)
  simp only [sp_str, lk_int, lk_index, lk_float, lk_trunc, pure_bind, Option.isSome_none]
  kpc_if
  refine wpAny_bind (wpAny_rule ?_)
  refine wpAny_bind (wpAny_typeNameOf' (typeIs_str _ _ _) (by decide) ?_)
  refine wpAny_raiseErrorMade plainExc_TypeError hh h ?_
  rw [PySem.ofString_length, sizeLine_eq]
  decide +kernel
set_option maxHeartbeats 4000000 in
theorem meets_ds (x : Str) (t u : Tok) : Meets (Builtin.«str.__mod__» ⟨[.str ⟨#[37, 100]⟩ t, .str x u], []⟩) (raisesNew "TypeError") := by
  intro prog w A R s hS
  rw [KPc.entry_is_s]
  unfold Builtin.Str.percentFormat
  refine wpAny_bind (wpAny_isInstance (typeIs_str _ _ _) F.sub_str_tuple ?_)
  refine wpAny_bind (wpAny_of_eq (a := some _) rfl ?_)
  refine wpAny_bind (KPc.wp_fills_str ?_)
  intro _
  kpc_if
  refine wpAny_bind (wpAny_pure ?_)
  refine wpAny_bind ?_
  rw [KPc.range_list]
  refine KPc.start ?_
  intro w0 g0
  refine KPc.turn ?_
  kpc_check
  repeat kpc_if
  refine wpAny_bind ?_
  refine wpAny_holding ?_
  repeat kpc_if
  refine wpAny_bind ?_
  exact intOf_str hS.1 hS.2
end
section
variable {W : Wd} {A : Around} {env : Env} {own : Own}

/-! ### raised and caught in one frame -/
def FrO (own : Own) : List Env → Prop
  | [] => True
  | e :: l => e.scope.kind ≠ .module ∧ (∃ L loc, e.frame = some L ∧ (L, Ob.ns loc) ∈ own) ∧ FrO own l
theorem FrO.mem {l : List Env} (h : FrO own l) {b : Addr} (hb : b ∈ l.filterMap (·.frame)) : ∃ loc, (b, Ob.ns loc) ∈ own := by
  induction l with
  | nil => simp at hb
  | cons e r ih =>
    obtain ⟨_, ⟨L, loc, hf, hm⟩, hr⟩ := h
    rw [List.filterMap_cons, hf] at hb
    rcases List.mem_cons.mp hb with e | hb
    · subst e; exact ⟨loc, hm⟩
    · exact ih hr hb
theorem FrO.fun {fz : Heap} {s : Shared} (H : Hold W fz own s) : ∀ {l : List Env}, FrO own l → s.heap.FunFrames fz l
  | [], _ => trivial
  | e :: l, ⟨h1, ⟨L, loc, hf, hm⟩, hr⟩ => by
    obtain ⟨o, ho, es, ep, hd, _⟩ := H.get hm
    exact ⟨h1, ⟨L, o, hf, H.out _ hm, ho, fun vs e => by rw [hd] at e; cases e⟩, FrO.fun H hr⟩
theorem Hold.slots {fz : Heap} {s : Shared} (H : Hold W fz own s) {h' : Heap} {S : List Addr} (hs : Heap.SlotsOnly S s.heap h') (hS : ∀ b ∈ S, ∃ loc, (b, Ob.ns loc) ∈ own) : Hold W fz own { s with heap := h' } where
  base := H.base
  has := fun b o e => by
    have : b ∉ S := fun hb => by obtain ⟨loc, hm⟩ := hS b hb; have := H.out _ hm; rw [this] at e; cases e
    rw [hs.2.1 b this]; exact H.has b o e
  obs := fun p hp => by
    obtain ⟨o, ho, hob⟩ := H.obs p hp
    by_cases hb : p.1 ∈ S
    · obtain ⟨loc, hm⟩ := hS _ hb
      obtain ⟨sl, e⟩ := hs.2.2 _ _ ho
      have := mem_unique H.nd hp hm rfl
      rw [this] at hob ⊢
      exact ⟨_, e, hob⟩
    · exact ⟨o, by rw [hs.2.1 _ hb]; exact ho, hob⟩
  out := H.out
  nd := H.nd
  gens := H.gens
  os := H.os
theorem Hold.off {fz : Heap} {s : Shared} (H : Hold W fz own s) {h' : Heap} {a : Addr} (hs : Heap.SameBut a s.heap h') (hf : fz.get? a = none) (ho : ∀ p ∈ own, p.1 ≠ a) : Hold W fz own { s with heap := h' } where
  base := H.base
  has := fun b o e => (hs.2 b (fun hb => by rw [hb, hf] at e; cases e)).trans (H.has b o e)
  obs := fun p hp => let ⟨o, e, r⟩ := H.obs p hp; ⟨o, (hs.2 _ (ho p hp)).trans e, r⟩
  out := H.out
  nd := H.nd
  gens := H.gens
  os := H.os
theorem off_of {fz : Heap} {s : Shared} (H : Hold W fz own s) {a : Addr} (h : s.heap.get? a = none) : fz.get? a = none ∧ ∀ p ∈ own, p.1 ≠ a := by
  refine ⟨?_, fun p hp e => ?_⟩
  · cases e : fz.get? a with
    | none => rfl
    | some o => have := H.has _ _ e; rw [h] at this; cases this
  · obtain ⟨o, ho, _⟩ := H.obs p hp; rw [e, h] at ho; cases ho

theorem name_same {prog : Program} {x : Str} {v : Value} {pos : Pos} {fz : Heap} {s : Shared} {P : Value → Shared → Prop} {E : Value → Shared → Prop} (H : Hold W fz own s) (hk : env.scope.kind = .function) (hg : env.globals = mainGlobals) (hb : env.builtins = builtinsNs) (hl : env.kindOf x = some .globalImplicit) (e : nsIn W.K mainGlobals x = some none)
    (hv : bootBuiltins x = some v) (hn : x ≠ "__name__") (hd : (x == ("__debug__" : Str)) = false) (h : P v s) : wpAny (model prog W.w) A (eval (.Name x pos) env) P E s := by
  refine wpAny_Name ?_ hd
  unfold loadName
  simp only [Env.blockKind, hk, hl, ScopeKind.isAnnotationScope, Bool.false_and, Bool.false_eq_true, if_false]
  exact Calls.loadGlobal_builtin (by rw [hg]; exact W.top.g.keeps H.keep) (mg_none_of W.kin W.top.g e) (by rw [hb]; exact W.top.b.keeps H.keep) ((W.top.builtins x hn).trans hv) h

theorem SX_TryX {body : List Stmt} {x : Str} {px ph pos : Pos} {b₀ : Stmt} {suite : List Stmt} {X T : String} {L : Addr} {outer : List Env} {Q : Fl → Own → Prop}
    (hfr : A.frames = some (env :: outer)) (hF : FrO own (env :: outer)) (hL : env.frame = some L)
    (hk : env.scope.kind = .function) (hg : env.globals = mainGlobals) (hb : env.builtins = builtinsNs) (hl : env.kindOf x = some .globalImplicit) (hx : nsIn W.K mainGlobals x = some none)
    (hv : bootBuiltins x = some (.type T)) (hn : x ≠ "__name__") (hd : (x == ("__debug__" : Str)) = false)
    (hexc : isSubtype (.type T) (.type "BaseException") = pure true) (hnt : isSubtype (.type ((Manifest.find? T).elim "type" fun y => y.metatype)) (.type "tuple") = pure false) (hsub : isSubtype (.type X) (.type T) = pure true)
    (hbody : ∀ fz s, Hold W fz own s → W.tk ≤ s.toks → wpAny (model W.prog W.w) A (execs body env) (fun _ _ => False) (fun e s' => ∃ a h' tk, e = .ref a ∧ s' = { s with heap := h', toks := tk } ∧ Heap.NewExc s.heap h' a X) s)
    (h : ∀ A' : Around, SXs W A' env (b₀ :: suite) own Q) : SX W A env (.Try body [.ExceptHandler (some (.Name x px)) none (b₀ :: suite) ph] [] [] pos) own Q := fun fz s H ht => by
  refine wpAny_Try_except (wpAny_mono (wpAny_toks_of ht (hbody fz s H ht)) (fun _ _ x => x.2.elim) ?_)
  rintro e' s' ⟨t1, e, h₁, tk, rfl, rfl, hx1⟩
  obtain ⟨ke, hen, ob, tt, he, hcls, hd0⟩ := hx1
  obtain ⟨o1, o2⟩ := off_of H hen
  have H1 : Hold W fz own { s with heap := h₁, toks := tk } := H.grow ke
  refine (show wpAny _ _ (noteFrame (.ref e) env) _ _ _ from ?_)
  unfold noteFrame
  simp only [hL]
  have hq1 : (#[tt, Value.none, Value.none, Value.none, Value.bool false, Value.none] : Array Value)[1]? = some .none := rfl
  refine wpAny_bind (wpAny_field he hd0 hq1 ?_)
  rw [if_neg (by decide)]
  refine wpAny_bind (wpAny_frameOf_fun hfr (FrO.fun H1 hF) hL fun h₂ hs₂ => ?_)
  have H2 : Hold W fz own { s with heap := h₂, toks := tk } := H1.slots hs₂ fun b hb => hF.mem hb
  refine wpAny_bind (wpAny_entryPlaceOf fun pl hpl => ?_)
  unfold EntryCells.newEntry newFields
  refine wpAny_bind (wpAny_newObj_type ?_ (hpl.sizeOk5 _ _ _ _ _))
  have hef : e ∉ (env :: outer).filterMap (·.frame) := fun hm => by obtain ⟨loc, hm⟩ := hF.mem hm; exact o2 _ hm rfl
  have he₂ : h₂.get? e = some ob := by rw [hs₂.2.1 _ hef]; exact he
  have htbe : h₂.objs.size ≠ e := Nat.ne_of_gt (Heap.lt_size he₂)
  have hdO : ∀ p ∈ own, p.1 ≠ h₂.objs.size := (off_of H2 (get?_ge (Nat.le_refl _))).2
  have hdF : fz.get? h₂.objs.size = none := (off_of H2 (get?_ge (Nat.le_refl _))).1
  have he₃ := Heap.get?_push_of_some (h := h₂) { cls := .type "traceback", dict := none, data := .fields ([Value.none, .ref L, .none, rawInt L, .none] ++ (if pl.isEmpty then List.replicate 6 Value.none else pl)).toArray } he₂
  refine wpAny_setField he₃ hd0 (by simp) ?_
  have hd₃ := Obj.data_mapFields hd0 (·.setIfInBounds 1 (Value.ref h₂.objs.size))
  have he₄ := Heap.get?_update_self (Obj.mapFields (·.setIfInBounds 1 (Value.ref h₂.objs.size))) he₃ (Obj.isFreed_of_fields hd₃)
  have ht₄ := (Heap.get?_update_other (h₂.push { cls := .type "traceback", dict := none, data := .fields ([Value.none, .ref L, .none, rawInt L, .none] ++ (if pl.isEmpty then List.replicate 6 Value.none else pl)).toArray }) (Obj.mapFields (·.setIfInBounds 1 (Value.ref h₂.objs.size))) (Ne.symm htbe)).trans (Heap.get?_push_size h₂ rfl)
  have H3 : Hold W fz own { s with heap := (h₂.push { cls := .type "traceback", dict := none, data := .fields ([Value.none, .ref L, .none, rawInt L, .none] ++ (if pl.isEmpty then List.replicate 6 Value.none else pl)).toArray }), toks := tk } := H2.grow (k := tk) (Keep.push _ _)
  have H4 := H3.off (Heap.SameBut.update (h₂.push { cls := .type "traceback", dict := none, data := .fields ([Value.none, .ref L, .none, rawInt L, .none] ++ (if pl.isEmpty then List.replicate 6 Value.none else pl)).toArray }) e (Obj.mapFields (·.setIfInBounds 1 (Value.ref h₂.objs.size)))) o1 o2
  have hsz : 3 < ([Value.none, .ref L, .none, rawInt L, .none] ++ (if pl.isEmpty then List.replicate 6 Value.none else pl)).toArray.size := by simp only [List.size_toArray, List.length_append, List.length_cons, List.length_nil]; omega
  refine wpAny_setFlight_none (tb := h₂.objs.size) he₄ hd₃ (by simp) ht₄ rfl hsz ?_
  have H5 := H4.off (Heap.SameBut.update _ h₂.objs.size (Obj.mapFields (·.setIfInBounds 3 Value.none))) hdF hdO
  have he₅ := (Heap.get?_update_other _ (Obj.mapFields (·.setIfInBounds 3 Value.none)) htbe).trans he₄
  have ht₅ := Heap.get?_update_self (Obj.mapFields (·.setIfInBounds 3 Value.none)) ht₄ (Obj.isFreed_of_fields (Obj.data_mapFields rfl _))
  refine wpAny_handleBy_builtin (X := X) (T := T) (b := true) hexc hnt hsub (name_same H5 hk hg hb hl hx hv hn hd ⟨rfl, ⟨_, he₅, by obtain ⟨c, d, dt, sl⟩ := ob; cases dt <;> exact hcls⟩, ?_⟩)
  rw [if_pos rfl]
  refine wpAny_setFlight_none (tb := h₂.objs.size) he₅ hd₃ (by simp) ht₅ (Obj.data_mapFields rfl _) (by simpa using hsz) ?_
  have H6 := H5.off (Heap.SameBut.update _ h₂.objs.size (Obj.mapFields (·.setIfInBounds 3 Value.none))) hdF hdO
  exact wpAny_mono (h _ fz _ H6 t1) (fun _ _ x => x) fun _ _ x => x.elim

theorem SX_TryN {body : List Stmt} {h₀ : ExceptHandler} {hs : List ExceptHandler} {pos : Pos} {Q : Fl → Own → Prop} (h : SXs W A env body own Q) : SX W A env (.Try body (h₀ :: hs) [] [] pos) own Q := fun fz s H ht => by
  refine wpAny_Try_except (wpAny_mono (wp_then (P := fun f s' => ∃ fz' b own', Keep fz fz' ∧ Hold W fz' own' s' ∧ RF fz' b f ∧ Q b own') (h fz s H ht) ht fun fz1 va a o1 s1 k1 H1 t1 r1 q1 => ⟨fz1, a, o1, k1, H1, r1, q1⟩) ?_ fun _ _ x => x.elim)
  rintro f s1 ⟨fz1, a, o1, k1, H1, r1, q1⟩
  cases r1 with
  | next => exact wpAny_execs_nil ⟨fz1, _, o1, k1, H1, .next, q1⟩
  | brk => exact ⟨fz1, _, o1, k1, H1, .brk, q1⟩
  | cont => exact ⟨fz1, _, o1, k1, H1, .cont, q1⟩
  | ret r => exact ⟨fz1, _, o1, k1, H1, .ret r, q1⟩

theorem op_fmtD {n : Int} {Q : V → Own → Prop} (hd : n.natAbs.log2 < 1920) (hz : (decT n).length ≤ 1000) (h : Q (.str (S (decT n))) own) : S2 W A RV (binaryOp .Mod) (.str (S [37, 100])) (.int n) own Q := fun fz s v u H ht r1 r2 => by
  obtain ⟨t, rfl⟩ := r1.str_inv
  obtain ⟨t', rfl⟩ := r2.int_inv
  exact KPc.mod_lit rfl hd (fun h1 h2 => meets_d n t t' h1 h2 hz) fun t' k => at_tok H _ (.dat (.str _ _)) h
theorem raise_fmtD {prog : Program} {w : World} {l : List Nat} {t u : Tok} {s : Shared} {Q : Value → Shared → Prop} {E : Value → Shared → Prop} (hh : A.handled = none) (h : ∀ h' tk e, Heap.NewExc s.heap h' e "TypeError" → E (.ref e) { s with heap := h', toks := tk }) :
    wpAny (model prog w) A (binaryOp .Mod (.str (S [37, 100]) t) (.str (S l) u)) Q E s :=
  binaryOp_meets (T := "str") (op := .Mod) (typeIs_str _ _ _) (typeIs_str _ _ _) F.fills_str_mod F.slot_str_mod F.entry_str_mod (F.args_str_mod_2 _ _) (meets_ds (S l) t u) ⟨hh, h⟩

/-- x = '%d' % x where x is a text -/
theorem raise_assign {x y : Str} {p p1 p2 p3 p4 : Pos} {F : Str} {k : Nat} {rest : List Stmt} {loc : List (Str × V)} {L : Addr} {l : List Nat} (hh : A.handled = none) (hF : lit F = [37, 100]) (hk : env.scope.kind = .function) (hl : env.kindOf x = some .local) (hm : (L, Ob.ns loc) ∈ own) (hL : env.locals = L) (hx : (x, V.str (S l)) ∈ loc)
    (hd : (x == ("__debug__" : Str)) = false) (hs : swapsWith (.BinOp (.Constant (.str F) k p1) .Mod (.Name x p2) p3) (some (.Name y p)) p4.line env = pure false := by rfl) :
    ∀ fz s, Hold W fz own s → W.tk ≤ s.toks → wpAny (model W.prog W.w) A (execs (.Assign [.Name y p] (.BinOp (.Constant (.str F) k p1) .Mod (.Name x p2) p3) p4 :: rest) env) (fun _ _ => False) (fun e s' => ∃ a h' tk, e = .ref a ∧ s' = { s with heap := h', toks := tk } ∧ Heap.NewExc s.heap h' a "TypeError") s := fun fz s H ht => by
  have eF : F = S [37, 100] := by rw [← hF, S_lit]
  subst eF hL
  refine wpAny_execs_cons (wpAny_Assign_Name (wpAny_BinOp (wpAny_Constant_str (wpAny_Name ?_ hd))) hs)
  obtain ⟨o, ho, x1⟩ := H.get hm
  obtain ⟨m, hn, hv⟩ := ns_of ho x1
  obtain ⟨v, e, r⟩ := hv _ hx
  obtain ⟨u, rfl⟩ := RV.str_inv r
  refine wpAny_loadName_local hk hl hn e ?_
  exact raise_fmtD hh fun h' tk e hx => ⟨e, h', tk, rfl, rfl, hx⟩

/-! ### calls whose parameters have drawn tokens -/
abbrev Wd.up (W : Wd) : Wd := { W with tk := 1 }
theorem hold_up {fz : Heap} {s : Shared} (H : Hold W fz own s) : Hold W.up fz own s := ⟨H.base, H.has, H.obs, H.out, H.nd, H.gens, H.os⟩
theorem hold_dn {fz : Heap} {s : Shared} (H : Hold W.up fz own s) : Hold W fz own s := ⟨H.base, H.has, H.obs, H.out, H.nd, H.gens, H.os⟩
theorem do_callU {f : Addr} {args : List V} {Q : V → Own → Prop} {name qual : Str} {params : Arguments} {body : List Stmt} {scope : Scope} {dV kV doc pm cdv ct oc : Value} {an od : Option Addr} {osl : Array (Option Value)}
    (names : List Str) (hne : 1 ≤ names.length) (hna : 1 ≤ args.length) (ho : W.K.lookup f = some ⟨oc, od, .func (fnOf name qual params body scope dV kV doc pm an cdv ct), osl⟩) (hcd : codeIn W.K cdv qual = true) (hroom : A.depth < recursionLimit)
    (hb : ∀ s vs, W.K.In s.heap → vs.length = args.length → BindsTo s (fnOf name qual params body scope dV kV doc pm an cdv ct) ⟨vs, []⟩ (names.zip vs))
    (hloc : ∀ y ∈ names, scope.names.lookup y = some .local) (nd : names.Nodup)
    (h : ∀ L, SXs W.up (A.deeper (envX qual scope L f cdv [])) (envX qual scope L f cdv []) body ((L, .ns (names.zip args)) :: own) (retTo Q))
    (hco : scope.isCoroutine = false := by rfl) (hgen : scope.isGenerator = false := by rfl) (hk : scope.kind = .function := by rfl)
    (hcell : ∀ x ∈ scope.names, x.2 ≠ .cell := by decide) : SLC W A (.ref f) args own Q := fun fz s vs H ht rs => by
  have ndz : ((names.zip vs).map (·.1)).Nodup := nd.sublist zip_fst
  refine (codeAny_call_def (fd := fnOf name qual params body scope dV kV doc pm an cdv ct) (body := body) (binds := names.zip vs) hroom (H.kin _ _ ho) rfl (W.top.nolimit.keeps H.keep) (codeRec_of H.kin hcd) rfl
    (hb s vs H.kin rs.length.symm) hcell (fun x hx => hloc _ (List.of_mem_zip (show (x.1, x.2) ∈ names.zip vs from hx)).1) (fun h₁ hns hk₁ => ?_) hco hgen hk)
  obtain ⟨o, ho', hob⟩ := of_ns (fz := fz) (loc := names.zip args) hns (fun p hp => by
    obtain ⟨v, e, r⟩ := zip_lookup rs nd p hp
    exact ⟨v, by rw [lookup_reverse ndz]; exact e, r⟩)
  have H₁ : Hold W fz ((s.heap.objs.size, .ns (names.zip args)) :: own) { s with heap := h₁, toks := s.toks + (names.zip vs).length } := H.new hk₁ (get?_ge (Nat.le_refl _)) ho' hob
  have h1 : 1 ≤ s.toks + (names.zip vs).length := by rw [List.length_zip, ← rs.length]; omega
  refine wpAny_mono (h s.heap.objs.size fz _ (hold_up H₁) h1) (fun fl s' x => ?_) fun _ _ x => x.elim
  obtain ⟨fz', b, own', k, H', r, own'', wk, q⟩ := x
  refine ⟨fz', _, own'', k, hold_dn (wk.hold H'), ?_, q⟩
  cases r with
  | next => exact .dat .none
  | brk => exact .dat .none
  | cont => exact .dat .none
  | ret r => exact r

/-! ### texts with fields -/
def SJ (W : Wd) (A : Around) (env : Env) : List Expr → List Nat → Own → (List Nat → Own → Prop) → Prop
  | [], acc, own, Q => Q acc own
  | e :: rest, acc, own, Q => SE W A env e own fun a o1 => ∃ l, a = .str (S l) ∧ acc.length + l.length ≤ 100000 ∧ SJ W A env rest (acc ++ l) o1 Q
theorem SJ.joins : ∀ {parts : List Expr} {acc : List Nat} {own : Own} {Q : List Nat → Own → Prop}, SJ W A env parts acc own Q → acc.length ≤ 100000 → ∀ {fz : Heap} {s : Shared} {P : Str → Shared → Prop}, Hold W fz own s → W.tk ≤ s.toks →
    (∀ fz' s' l o, Keep fz fz' → Hold W fz' o s' → l.length ≤ 100000 → Q l o → P (S l) s') → Joins (model W.prog W.w) A NoX (evalEach parts env) (S acc) P s
  | [], acc, own, Q, h, hz, fz, s, P, H, ht, q => q fz s acc own (.refl _) H hz h
  | e :: rest, acc, own, Q, h, hz, fz, s, P, H, ht, q => by
    show wpAny _ _ (eval e env) _ _ _
    refine wp_then (h fz s H ht) ht fun fz1 va a o1 s1 k1 H1 t1 r1 q1 => ?_
    obtain ⟨l, rfl, hz, q1⟩ := q1
    obtain ⟨t, rfl⟩ := r1.str_inv
    refine ⟨S l, t, rfl, by rw [S_cat, S_len, sizeLine_eq, List.length_append]; omega, ?_⟩
    rw [S_cat]
    exact SJ.joins q1 (by rw [List.length_append]; exact hz) H1 t1 fun fz' s' l' o k' H' hl ql => q fz' s' l' o (k1.trans k') H' hl ql
theorem SE_JoinedStr {v₁ v₂ : Expr} {rest : List Expr} {pos : Pos} {Q : V → Own → Prop} (h : SJ W A env (v₁ :: v₂ :: rest) [] own fun l o => Q (.str (S l)) o) : SE W A env (.JoinedStr (v₁ :: v₂ :: rest) pos) own Q := fun fz s H ht => by
  refine wpAny_JoinedStr (h.joins (by simp) H ht fun fz' s' l o k' H' hl ql => ⟨by rw [S_len, sizeLine_eq]; omega, ?_⟩)
  exact ⟨fz', _, o, k', H'.toks _, .dat (.str _ _), ql⟩
theorem SJ_cons {e : Expr} {rest : List Expr} {acc : List Nat} {Q : List Nat → Own → Prop} (h : SE W A env e own fun a o1 => ∃ l, a = .str (S l) ∧ acc.length + l.length ≤ 100000 ∧ SJ W A env rest (acc ++ l) o1 Q) : SJ W A env (e :: rest) acc own Q := h
theorem SJ_nil {acc : List Nat} {Q : List Nat → Own → Prop} (h : Q acc own) : SJ W A env [] acc own Q := h
theorem SE_FieldS {e : Expr} {pos : Pos} {Q : V → Own → Prop} (h : SE W A env e own fun a o1 => ∃ l, a = .str (S l) ∧ l.length ≤ 100000 ∧ Q (.str (S l)) o1) : SE W A env (.FormattedValue e 115 none pos) own Q := fun fz s H ht => by
  refine wpAny_FormattedValue_s (wp_then (h fz s H ht) ht fun fz1 va a o1 s1 k1 H1 t1 r1 q1 => ?_)
  obtain ⟨l, rfl, hz, q⟩ := q1
  obtain ⟨t, rfl⟩ := r1.str_inv
  have hz' : (S l).length ≤ sizeLine := by rw [S_len, sizeLine_eq]; omega
  refine wpAny_habitSame_str ?_ ?_ hz'
  · exact wpAny_formatField_str ⟨fz1, _, o1, k1, H1, .dat (.str _ _), q⟩ ⟨fz1, _, o1, k1, H1.toks _, .dat (.str _ _), q⟩ hz'
  · exact wpAny_formatField_str ⟨fz1, _, o1, k1, H1.toks _, .dat (.str _ _), q⟩ ⟨fz1, _, o1, k1, (H1.toks _).toks _, .dat (.str _ _), q⟩ hz'
end
section
variable {W : Wd} {A : Around} {env : Env} {own : Own}
/-! ### a block in two parts -/
theorem execs_append (env : Env) : ∀ l1 l2 : List Stmt, execs (l1 ++ l2) env = (execs l1 env >>= fun f => match f with | .next => execs l2 env | f => pure f)
  | [], l2 => by
    have e : execs [] env = pure .next := by unfold execs; rfl
    rw [e, pure_bind]; rfl
  | s :: l1, l2 => by
    have e : ∀ r : List Stmt, execs (s :: r) env = (exec s env >>= fun f => match f with | .next => execs r env | f => pure f) := fun r => by rw [execs]; congr 1
    rw [List.cons_append, e, e, bind_assoc]
    congr 1
    funext f
    cases f <;> first | exact execs_append env l1 l2 | (simp only [pure_bind])
theorem SXs_append {l1 l2 : List Stmt} {Q : Fl → Own → Prop} (h : SXs W A env l1 own (onNext (fun o1 => SXs W A env l2 o1 Q) Q)) : SXs W A env (l1 ++ l2) own Q := fun fz s H ht => by
  unfold At
  rw [execs_append]
  refine wpAny_bind (wp_then (h fz s H ht) ht fun fz1 va a o1 s1 k1 H1 t1 r1 q1 => ?_)
  cases r1 with
  | next => exact At.weak (q1 fz1 s1 H1 t1) k1
  | brk => exact wpAny_pure ⟨fz1, _, o1, k1, H1, .brk, q1⟩
  | cont => exact wpAny_pure ⟨fz1, _, o1, k1, H1, .cont, q1⟩
  | ret r => exact wpAny_pure ⟨fz1, _, o1, k1, H1, .ret r, q1⟩
theorem SXs_splitAt (n : Nat) {l : List Stmt} {Q : Fl → Own → Prop} (h : SXs W A env (l.take n) own (onNext (fun o1 => SXs W A env (l.drop n) o1 Q) Q)) : SXs W A env l own Q := by
  have := SXs_append h
  rwa [List.take_append_drop] at this
end
section
/-- the law's call, from the layer to the model -/
theorem join_law {prog : Program} {w : World} {s₁ : Shared} {K : Frag} {p : Program} {loose : List Str} {mean : ExcName → Option Value} {mg mb : Str → Option Value} {fa f a : Addr} {ns : List Int} {as : List Addr}
    (T : Top p loose mean mg mb s₁.heap) (KX : K.In s₁.heap) (hmg : mg (Str.ofString "law") = some (.ref fa)) (hns : nsIn K mainGlobals (Str.ofString "law") = some (some (.ref f)))
    (r0 : Reads s₁.heap (.ref a) (.list (ns.map .int)) as)
    (h : ∀ W : Wd, W.w = w → W.K = K → SLC W callerA (.ref f) [.lst (ns.map .int)] [] (fun r _ => r = .bool true)) :
    codeAny (model prog w) callerA (.call (.ref fa) ⟨[.ref a], []⟩) (fun r s' => r = .ok (.ret (.bool true)) ∧ Keep s₁.heap s'.heap ∧ s'.os = s₁.os ∧ s'.gens = s₁.gens) s₁ := by
  have e := mg_of KX T.g hns
  rw [hmg] at e
  cases e
  let W : Wd := { prog := prog, w := w, base := s₁.heap, gens := s₁.gens, os := s₁.os, K := K, p := p, loose := loose, mg := mg, mb := mb, kin := KX, top := topRead_of T, tk := 0 }
  have H : Hold W s₁.heap [] s₁ := ⟨.refl _, .refl _, fun p hp => (nomatch hp), fun p hp => (nomatch hp), List.nodup_nil, rfl, rfl⟩
  refine codeAny_mono (h W rfl rfl s₁.heap s₁ [.ref a] H (Nat.zero_le _) (.cons (.dat r0) .nil)) fun r s' x => ?_
  rcases r with e | (v | _ | _ | _) <;> first | exact x.elim | skip
  obtain ⟨fz', b, own', k, H', rb, rfl⟩ := x
  rw [rb.bool_inv]
  exact ⟨rfl, k.trans H'.has, H'.os, H'.gens⟩
end
local macro_rules | `(tactic| walk_at "mem") => `(tactic| (repeat (first | with_reducible exact List.mem_cons_self | with_reducible refine List.mem_cons_of_mem _ ?_ | with_reducible assumption | with_reducible exact mem_mid' | with_reducible exact mem_mid (by assumption))))
local macro_rules | `(tactic| walk_at "put") => `(tactic| (repeat (first | with_reducible exact Put.here | with_reducible exact Put.new | with_reducible apply Put.there)))
local macro_rules | `(tactic| walk_at "upd") => `(tactic| (repeat (first | with_reducible exact Upd.here | with_reducible exact Upd.mid | with_reducible apply Upd.there)))
local macro_rules | `(tactic| walk_at "nd") => `(tactic| (simp only [List.map_cons, List.map_nil]; decide +kernel))
local macro_rules | `(tactic| walk_at "notin") => `(tactic| (simp only [List.map_cons, List.map_nil]; decide +kernel))
local macro_rules | `(tactic| walk_at "frz") => `(tactic| (repeat (first | with_reducible exact NF.nil | with_reducible apply NF.cons VF.at_ | with_reducible apply NF.cons VF.same | with_reducible apply OF.ns | with_reducible apply OF.cell VF.at_ | with_reducible apply OF.cell VF.same | with_reducible apply OF.same | with_reducible exact OF.refl)))
local macro_rules | `(tactic| walk_at "subl") => `(tactic| (repeat (first | with_reducible exact List.Sublist.refl _ | with_reducible exact List.nil_sublist _ | with_reducible apply List.Sublist.cons_cons | with_reducible apply List.Sublist.cons)))
local macro_rules | `(tactic| walk_at "wk") => `(tactic| (repeat (first | with_reducible exact Wk.refl | with_reducible exact Wk.nil | with_reducible refine Wk.keep ObW.refl ?_ | with_reducible refine Wk.keep (ObW.ns (by walk_at "subl")) ?_ | with_reducible apply Wk.drop)))
local macro_rules | `(tactic| walk_at "take") => `(tactic| (repeat (first | with_reducible exact Take.here | with_reducible apply Take.there)))
local macro_rules | `(tactic| walk_at "dat") => `(tactic| first | exact AllDat.map _ | (repeat (first | exact AllDat.nil | with_reducible apply AllDat.cons)))
local macro_rules | `(tactic| walk_at "small") => `(tactic| (rw [sizeLine_eq]; simp))
local macro_rules | `(tactic| walk_at "meth") => `(tactic| first
  | ((with_reducible show SMth _ _ (Str.ofString "append") _ _ _ _); refine mth_list (by walk_at "mem") PySem.F.slot_list_append PySem.F.type_list_append ?_)
  | ((with_reducible show SMth _ _ (Str.ofString "count") _ _ _ _); refine mth_str (fun t s P h => GM.count h) ?_))
local macro_rules | `(tactic| walk_at "call") => `(tactic| first
  | (refine call_append (by walk_at "upd") (by walk_at "size") ?_)
  | (refine call_lenS (by walk_at "size") ?_)
  | (refine call_len_lst (by walk_at "size") ?_)
  | (refine call_len_own (by walk_at "mem") (by walk_at "size") ?_)
  | (refine call_countS ?_)
  | (refine call_range1 ?_)
  | (refine call_ordS ?_))
local macro_rules | `(tactic| walk_at "name") => `(tactic| first
  | (refine SN_loc rfl rfl (by walk_at "mem") (by with_reducible rfl) (by walk_at "mem") ?_)
  | (refine SN_global rfl rfl rfl (nsIn_of (by assumption) rfl) ?_)
  | (refine SN_builtin rfl rfl rfl rfl (nsIn_of (by assumption) rfl) rfl (by decide +kernel) ?_)
  | (refine SN_cell rfl rfl rfl (by walk_at "mem") ?_)
  | (refine SN_free rfl rfl rfl (by walk_at "mem") ?_ (by decide +kernel)))
local macro_rules | `(tactic| walk_at "store") => `(tactic| first
  | (refine SS_loc rfl rfl (by walk_at "mem") (by with_reducible rfl) (by walk_at "put") (by walk_at "nd") (by walk_at "upd") ?_)
  | (refine SS_cell rfl rfl rfl (by walk_at "upd") ?_))
local macro_rules | `(tactic| walk_at "go") => `(tactic| first
  | ((with_reducible show SXs _ _ _ (_ :: _) _ _); refine SXs_cons ?_)
  | ((with_reducible show SXs _ _ _ [] _ _); refine SXs_nil ?_)
  | ((with_reducible show SX _ _ _ (Stmt.Assign [Expr.Name _ _] _ _) _ _); (fail_if_success (with_reducible show SX _ _ _ (Stmt.Assign [Expr.Name _ _] (Expr.ListComp _ _ _ _) _) _ _)); refine SX_Assign ?_)
  | ((with_reducible show SX _ _ _ (Stmt.Assign [Expr.Attribute _ _ _] _ _) _ _); refine SX_AssignAttr ?_)
  | ((with_reducible show SX _ _ _ (Stmt.AugAssign (Expr.Name _ _) _ _ _) _ _); refine SX_Aug ?_)
  | ((with_reducible show SX _ _ _ (Stmt.If _ _ _ _) _ _); refine SX_If ?_)
  | ((with_reducible show SX _ _ _ (Stmt.Return (some _) _) _ _); refine SX_Return ?_)
  | ((with_reducible show SX _ _ _ (Stmt.Return none _) _ _); refine SX_Return0 ?_)
  | ((with_reducible show SX _ _ _ (Stmt.Expr _ _) _ _); refine SX_Expr ?_)
  | ((with_reducible show SE _ _ _ (Expr.Name _ _) _ _); refine SE_Name ?_ (by decide +kernel))
  | ((with_reducible show SE _ _ _ (Expr.Constant (Const.int _) _ _) _ _); refine SE_int ?_)
  | ((with_reducible show SE _ _ _ (Expr.Constant (Const.str _) _ _) _ _); refine SE_strL (by walk_at "lit") ?_)
  | ((with_reducible show SE _ _ _ (Expr.Constant (Const.bool _) _ _) _ _); refine SE_bool ?_)
  | ((with_reducible show SE _ _ _ (Expr.Constant Const.none _ _) _ _); refine SE_none ?_)
  | ((with_reducible show SE _ _ _ (Expr.BinOp _ _ _ _) _ _); refine SE_BinOp ?_)
  | ((with_reducible show SE _ _ _ (Expr.UnaryOp _ _ _) _ _); refine SE_UnaryOp ?_)
  | ((with_reducible show SE _ _ _ (Expr.IfExp _ _ _ _) _ _); refine SE_IfExp ?_)
  | ((with_reducible show SE _ _ _ (Expr.Compare _ [_] [_] _) _ _); refine SE_Compare ?_)
  | ((with_reducible show SE _ _ _ (Expr.Subscript _ _ _) _ _); (fail_if_success (with_reducible show SE _ _ _ (Expr.Subscript _ (Expr.Slice _ _ _ _) _) _ _)); refine SE_Subscript ?_)
  | ((with_reducible show SE _ _ _ (Expr.Call (Expr.Attribute _ _ _) _ [] _) _ _); refine SE_Meth ?_)
  | ((with_reducible show SE _ _ _ (Expr.Call (Expr.Name _ _) _ [] _) _ _); refine SE_Call ?_)
  | ((with_reducible show SE _ _ _ (Expr.Attribute _ _ _) _ _); refine SE_Attribute ?_)
  | ((with_reducible show SE _ _ _ (Expr.Tuple _ _ _) _ _); refine SE_TupleF ?_)
  | (with_reducible refine ⟨_, by with_reducible (walk_at "dat"), by walk_at "small", ?_⟩)
  | ((with_reducible show SMth _ _ _ _ _ _ _); walk_at "meth")
  | (with_reducible refine ⟨kp_builtin, ?_⟩)
  | (with_reducible refine ⟨kp_type, ?_⟩)
  | (with_reducible refine ⟨_, rfl, ?_⟩)
  | ((with_reducible show SL _ _ _ _ _ _ _); walk_at "call")
  | ((with_reducible show SEs _ _ _ _ [] _ _); refine SEs_nil ?_)
  | ((with_reducible show SEs _ _ _ _ (_ :: _) _ _); refine SEs_cons ?_)
  | ((with_reducible show ST _ _ _ (Expr.Compare _ [_] [_] _) _ _); refine ST_Compare ?_)
  | ((with_reducible show ST _ _ _ (Expr.UnaryOp UnaryOp.Not _ _) _ _); refine ST_not ?_)
  | ((with_reducible show SG _ _ _ (isTrue (Expr.BoolOp BoolOp.And (_ :: _) _) _ _) _ _); refine SG_and ?_)
  | ((with_reducible show SG _ _ _ (isTrue (Expr.BoolOp BoolOp.Or (_ :: _) _) _ _) _ _); refine SG_or ?_)
  | ((with_reducible show SG _ _ _ (isTrue (Expr.BoolOp BoolOp.And [] _) _ _) _ _); refine SG_and_nil ?_)
  | ((with_reducible show SG _ _ _ (isTrue (Expr.BoolOp BoolOp.Or [] _) _ _) _ _); refine SG_or_nil ?_)
  | ((with_reducible show ST _ _ _ (Expr.Name _ _) _ _); refine ST_plain ?_)
  | ((with_reducible show SG _ _ _ (loadName _ _) _ _); walk_at "name")
  | ((with_reducible show SS _ _ _ _ _ _ _); walk_at "store")
  | ((with_reducible show SA _ _ _ (Expr.Name _ _) _ _ _); refine SA_Name ?_)
  | ((with_reducible show SA _ _ _ (Expr.Tuple _ _ _) _ _ _); refine SA_Tuple (by assumption) rfl ?_)
  | ((with_reducible show SAs _ _ _ (_ :: _) _ _ _); refine SAs_cons ?_)
  | ((with_reducible show SAs _ _ _ [] _ _ _); refine SAs_nil ?_)
  | ((with_reducible show STs _ _ _ [] _ _); refine STs_nil ?_)
  | ((with_reducible show STs _ _ _ [_] _ _); refine STs_one ?_)
  | ((with_reducible show SPt _ _ _ none _ _); refine SPt_none ?_)
  | ((with_reducible show SPt _ _ _ (some _) _ _); refine SPt_some ?_)
  | (with_reducible refine op_add ?_) | (with_reducible refine op_sub ?_) | (with_reducible refine op_iadd ?_) | (with_reducible refine op_isub ?_) | (with_reducible refine op_neg ?_)
  | (with_reducible refine cmp_eqI ?_) | (with_reducible refine cmp_neI ?_) | (with_reducible refine cmp_lt ?_) | (with_reducible refine cmp_le ?_) | (with_reducible refine cmp_gt ?_) | (with_reducible refine cmp_ge ?_)
  | (with_reducible refine op_catS (by walk_at "size") ?_) | (with_reducible refine op_icatS (by walk_at "size") ?_)
  | (with_reducible refine cmp_eqSS ?_) | (with_reducible refine cmp_neSS ?_)
  | (with_reducible refine tr_bool ?_) | (with_reducible refine tr_int ?_) | (with_reducible refine tr_none ?_)
  | (with_reducible refine ite_nt ?_) | (with_reducible refine ite_nf ?_)
  | (with_reducible refine op_mulR (by decide) ?_)
  | (with_reducible refine ite_tt' ?_) | (with_reducible refine ite_ff' ?_))
section
variable {W : Wd} {A : Around} {env : Env} {own : Own}
abbrev K4 (W : Wd) : Prop := W.K = hd04.heap_39 W.w.params
theorem l4_0 : lit (Str.ofString "") = [] := by decide +kernel
theorem l4_1 : lit (Str.ofString "&") = [38] := by decide +kernel
theorem l4_2 : lit (Str.ofString "&amp;") = [38, 97, 109, 112, 59] := by decide +kernel
theorem l4_3 : lit (Str.ofString "<") = [60] := by decide +kernel
theorem l4_4 : lit (Str.ofString "&lt;") = [38, 108, 116, 59] := by decide +kernel
theorem l4_5 : lit (Str.ofString ">") = [62] := by decide +kernel
theorem l4_6 : lit (Str.ofString "&gt;") = [38, 103, 116, 59] := by decide +kernel
theorem l4_7 : lit (Str.ofString " ") = [32] := by decide +kernel
theorem l4_8 : lit (Str.ofString "&nbsp;") = [38, 110, 98, 115, 112, 59] := by decide +kernel
theorem l4_9 : lit (Str.ofString "0123456789") = [48, 49, 50, 51, 52, 53, 54, 55, 56, 57] := by decide +kernel
theorem l4_10 : lit (Str.ofString "-") = [45] := by decide +kernel
theorem l4_11 : lit (Str.ofString "%d") = [37, 100] := by decide +kernel
theorem l4_14 : lit (Str.ofString "one_") = [111, 110, 101, 95] := by decide +kernel
theorem l4_15 : lit (Str.ofString "other_") = [111, 116, 104, 101, 114, 95] := by decide +kernel
theorem l4_16 : lit (Str.ofString "&<>\"'; a\x00\x01") = [38, 60, 62, 34, 39, 59, 32, 97, 0, 1] := by decide +kernel
theorem l4_17 : lit (Str.ofString " id=\"") = [32, 105, 100, 61, 34] := by decide +kernel
theorem l4_18 : lit (Str.ofString "\"") = [34] := by decide +kernel
theorem l4_19 : lit (Str.ofString "<td class=\"diff_header\"") = [60, 116, 100, 32, 99, 108, 97, 115, 115, 61, 34, 100, 105, 102, 102, 95, 104, 101, 97, 100, 101, 114, 34] := by decide +kernel
theorem l4_20 : lit (Str.ofString "</td><td nowrap=\"nowrap\">") = [60, 47, 116, 100, 62, 60, 116, 100, 32, 110, 111, 119, 114, 97, 112, 61, 34, 110, 111, 119, 114, 97, 112, 34, 62] := by decide +kernel
theorem l4_21 : lit (Str.ofString "</td>") = [60, 47, 116, 100, 62] := by decide +kernel
theorem l4_22 : lit (Str.ofString "a") = [97] := by decide +kernel

local macro_rules | `(tactic| walk_at "lit") => `(tactic| first | exact l4_0 | exact l4_1 | exact l4_2 | exact l4_3 | exact l4_4 | exact l4_5 | exact l4_6 | exact l4_7 | exact l4_8 | exact l4_9 | exact l4_10 | exact l4_11 | exact l4_12 | exact l4_13 | exact l4_14 | exact l4_15 | exact l4_16 | exact l4_17 | exact l4_18 | exact l4_19 | exact l4_20 | exact l4_21 | exact l4_22)
local macro_rules | `(tactic| walk_at "size") => `(tactic| (rw [sizeLine_eq]; (try simp only [List.length_append, List.length_cons, List.length_nil, List.length_map]); omega))
/-! the writing of a sign -/
def wr (c : Nat) : List Nat := if c = 38 then [38, 97, 109, 112, 59] else if c = 60 then [38, 108, 116, 59] else if c = 62 then [38, 103, 116, 59] else if c = 32 then [38, 110, 98, 115, 112, 59] else [c]
theorem c_written (hK : K4 W) (hd : A.depth < recursionLimit) (c : Nat) : SLC W A (.ref 131) [.str (S [c])] own (fun r o => r = .str (S (wr c)) ∧ o = own) := by
  refine' do_callC [Str.ofString "sign"] ?ho ?hcd hd ?hb ?hloc ?nd ?h ?c1 ?c2 ?c3 ?c4
  case ho => exact K_of hK rfl
  case hcd => rw [hK]; rfl
  case hb => intro s vs _ hl; exact BindsTo.of_eq (by obtain ⟨v, rfl⟩ := List.length_eq_one_iff.mp hl; rfl)
  case hloc => decide +kernel
  case nd => decide +kernel
  case c1 => rfl
  case c2 => rfl
  case c3 => rfl
  case c4 => decide +kernel
  intro L
  simp only [List.zip_cons_cons, List.zip_nil_right]
  have ex : ∀ d : Nat, ([c] = [d]) = (c = d) := fun d => by simp
  repeat walk_at "go"
  refine ite_dec (fun h1 => ?_) (fun h1 => ?_)
  · rw [ex] at h1; subst h1
    repeat walk_at "go"
    exact ⟨_, .drop .refl, rfl, rfl⟩
  rw [ex] at h1
  repeat walk_at "go"
  refine ite_dec (fun h2 => ?_) (fun h2 => ?_)
  · rw [ex] at h2; subst h2
    repeat walk_at "go"
    exact ⟨_, .drop .refl, rfl, rfl⟩
  rw [ex] at h2
  repeat walk_at "go"
  refine ite_dec (fun h3 => ?_) (fun h3 => ?_)
  · rw [ex] at h3; subst h3
    repeat walk_at "go"
    exact ⟨_, .drop .refl, rfl, rfl⟩
  rw [ex] at h3
  repeat walk_at "go"
  refine ite_dec (fun h4 => ?_) (fun h4 => ?_)
  · rw [ex] at h4; subst h4
    repeat walk_at "go"
    exact ⟨_, .drop .refl, rfl, rfl⟩
  · rw [ex] at h4
    repeat walk_at "go"
    exact ⟨_, .drop .refl, by simp [wr, h1, h2, h3, h4], rfl⟩

/-! the figures of a number -/
def figs (k : Nat) : List Nat := (Nat.toDigits 10 k).map Char.toNat
theorem figs_lt {k : Nat} (h : k < 10) : figs k = [48 + k] := by
  unfold figs
  rw [Nat.toDigits_of_lt_base h]
  rcases (by omega : k = 0 ∨ k = 1 ∨ k = 2 ∨ k = 3 ∨ k = 4 ∨ k = 5 ∨ k = 6 ∨ k = 7 ∨ k = 8 ∨ k = 9) with h | h | h | h | h | h | h | h | h | h <;> subst h <;> rfl
theorem figs_ge {k : Nat} (h : 10 ≤ k) : figs k = figs (k / 10) ++ [48 + k % 10] := by
  have h1 : figs k = figs (k / 10) ++ figs (k % 10) := by
    unfold figs
    rw [← List.map_append]
    congr 1
    first
      | exact (Nat.toDigits_of_base_le (by decide) h).trans (by simp [Nat.toDigits_of_lt_base (Nat.mod_lt k (by decide : 10 > 0))])
      | skip
  rw [h1, figs_lt (Nat.mod_lt _ (by decide))]
theorem decT_figs (n : Int) : decT n = (if n < 0 then [45] else []) ++ figs n.natAbs := by
  unfold decT figs
  have := text_ofNat n.natAbs
  have e : ((n.natAbs : Nat) : Int) = Int.ofNat n.natAbs := rfl
  rw [e, this]
theorem digit_at (r : Nat) : [48, 49, 50, 51, 52, 53, 54, 55, 56, 57][place ((r : Int) % 10) [48, 49, 50, 51, 52, 53, 54, 55, 56, 57].length]? = some (48 + r % 10) := by
  rcases (by omega : r % 10 = 0 ∨ r % 10 = 1 ∨ r % 10 = 2 ∨ r % 10 = 3 ∨ r % 10 = 4 ∨ r % 10 = 5 ∨ r % 10 = 6 ∨ r % 10 = 7 ∨ r % 10 = 8 ∨ r % 10 = 9) with h | h | h | h | h | h | h | h | h | h <;>
    · have e : (r : Int) % 10 = ((r % 10 : Nat) : Int) := by omega
      rw [e, h]; rfl
theorem figs_len {k e : Nat} (he : 1 ≤ e) (h : k < 10 ^ e) : (figs k).length ≤ e := by
  unfold figs; rw [List.length_map]; exact digits10_le he h

theorem c_figures (hK : K4 W) (hd : A.depth < recursionLimit) (n : Int) (hn : n.natAbs < 10 ^ 60) : SLC W A (.ref 124) [.int n] own (fun r o => r = .str (S (decT n)) ∧ o = own) := by
  refine' do_callC [Str.ofString "number"] ?ho ?hcd hd ?hb ?hloc ?nd ?h ?c1 ?c2 ?c3 ?c4
  case ho => exact K_of hK rfl
  case hcd => rw [hK]; rfl
  case hb => intro s vs _ hl; exact BindsTo.of_eq (by obtain ⟨v, rfl⟩ := List.length_eq_one_iff.mp hl; rfl)
  case hloc => decide +kernel
  case nd => decide +kernel
  case c1 => rfl
  case c2 => rfl
  case c3 => rfl
  case c4 => decide +kernel
  intro L
  simp only [List.zip_cons_cons, List.zip_nil_right]
  have hfl := figs_len (by decide) hn
  repeat walk_at "go"
  refine call_abs ?_
  repeat walk_at "go"
  refine SG.mono (Q := fun fl o => fl = Fl.next ∧ o = (L, Ob.ns [(Str.ofString "number", .int n), (Str.ofString "figures", .str (S (figs n.natAbs))), (Str.ofString "rest", .int 0)]) :: own)
    (SX_While (fun m o => ∃ (r : Nat) (f : List Nat), m = r + (if f = [] then 1 else 0) ∧ o = (L, Ob.ns [(Str.ofString "number", .int n), (Str.ofString "figures", .str (S f)), (Str.ofString "rest", .int r)]) :: own ∧
      ((f = [] ∧ r = n.natAbs) ∨ (r = 0 ∧ f = figs n.natAbs) ∨ (0 < r ∧ f ≠ [] ∧ figs r ++ f = figs n.natAbs))) (n.natAbs + 1) ?_ ?_) ?_
  · exact ⟨n.natAbs, [], rfl, rfl, .inl ⟨rfl, rfl⟩⟩
  · rintro m o ⟨r, f, hm, rfl, inv⟩
    have hfne : figs n.natAbs ≠ [] := by
      by_cases h : n.natAbs < 10
      · rw [figs_lt h]; simp
      · rw [figs_ge (by omega)]; simp
    have hflen : f.length ≤ 60 := by
      rcases inv with ⟨h, _⟩ | ⟨_, h⟩ | ⟨_, _, h⟩
      · subst h; simp
      · rw [h]; exact hfl
      · rw [← h, List.length_append] at hfl; omega
    have hnew : (0 < r ∨ f = []) → (([48 + r % 10] ++ f = [] ∧ r / 10 = n.natAbs) ∨ (r / 10 = 0 ∧ [48 + r % 10] ++ f = figs n.natAbs) ∨ (0 < r / 10 ∧ [48 + r % 10] ++ f ≠ [] ∧ figs (r / 10) ++ ([48 + r % 10] ++ f) = figs n.natAbs)) := by
      intro hg
      have key : figs r ++ f = figs n.natAbs := by
        rcases inv with ⟨h, h'⟩ | ⟨h, h'⟩ | ⟨_, _, h⟩
        · subst h h'; simp
        · subst h
          rcases hg with hg | hg
          · omega
          · rw [hg] at h'; exact absurd h'.symm hfne
        · exact h
      by_cases h10 : r < 10
      · right; left
        rw [figs_lt h10] at key
        exact ⟨by omega, by rw [← key, show r % 10 = r by omega]⟩
      · right; right
        rw [figs_ge (by omega), List.append_assoc] at key
        exact ⟨by omega, by simp, key⟩
    have hless : (0 < r ∨ f = []) → r / 10 + (if [48 + r % 10] ++ f = [] then 1 else 0) < m := by
      intro hg
      rw [hm, if_neg (by simp)]
      rcases hg with hg | hg
      · split <;> omega
      · rw [if_pos hg]; omega
    repeat walk_at "go"
    refine ite_dec (fun h1 => ?_) (fun h1 => ?_)
    · replace hnew := hnew (.inl (by omega))
      replace hless := hless (.inl (by omega))
      repeat walk_at "go"
      refine op_mod (by decide) ?_
      refine sub_strS (by simp only [List.length_cons, List.length_nil]; omega) (by simp only [List.length_cons, List.length_nil]; omega) (by walk_at "small") (digit_at r) ?_
      repeat walk_at "go"
      refine op_div (by decide) (by decide) ?_
      rw [show (r : Int) / 10 = ((r / 10 : Nat) : Int) by omega]
      repeat walk_at "go"
      exact ⟨_, _, by walk_at "wk", hless, _, _, rfl, rfl, hnew⟩
    · repeat walk_at "go"
      refine ite_dec (fun h2 => ?_) (fun h2 => ?_)
      · replace hnew := hnew (.inr h2)
        replace hless := hless (.inr h2)
        repeat walk_at "go"
        refine op_mod (by decide) ?_
        refine sub_strS (by simp only [List.length_cons, List.length_nil]; omega) (by simp only [List.length_cons, List.length_nil]; omega) (by walk_at "small") (digit_at r) ?_
        repeat walk_at "go"
        refine op_div (by decide) (by decide) ?_
        rw [show (r : Int) / 10 = ((r / 10 : Nat) : Int) by omega]
        repeat walk_at "go"
        exact ⟨_, _, by walk_at "wk", hless, _, _, rfl, rfl, hnew⟩
      · repeat walk_at "go"
        have hr : r = 0 := by omega
        rcases inv with ⟨h, _⟩ | ⟨_, h⟩ | ⟨h, _⟩
        · exact absurd h h2
        · subst hr; rw [← h]; exact ⟨rfl, rfl⟩
        · omega
  · rintro fl o ⟨rfl, rfl⟩
    repeat walk_at "go"
    refine ite_dec (fun h1 => ?_) (fun h1 => ?_)
    · repeat walk_at "go"
      exact ⟨_, .drop .refl, by rw [decT_figs, if_neg (by omega)]; rfl, rfl⟩
    · repeat walk_at "go"
      exact ⟨_, .drop .refl, by rw [decT_figs, if_pos (by omega)], rfl⟩
end
section
variable {W : Wd} {A : Around} {env : Env} {own : Own}
local macro_rules | `(tactic| walk_at "lit") => `(tactic| first | exact l4_0 | exact l4_1 | exact l4_2 | exact l4_3 | exact l4_4 | exact l4_5 | exact l4_6 | exact l4_7 | exact l4_8 | exact l4_9 | exact l4_10 | exact l4_11 | exact l4_12 | exact l4_13 | exact l4_14 | exact l4_15 | exact l4_16 | exact l4_17 | exact l4_18 | exact l4_19 | exact l4_20 | exact l4_21 | exact l4_22)
local macro_rules | `(tactic| walk_at "size") => `(tactic| (rw [sizeLine_eq]; (try simp only [List.length_append, List.length_cons, List.length_nil, List.length_map]); omega))
/-! ### a cell -/
theorem cls4 (hK : K4 W) : ClsOk W.K 113 := by
  rw [hK]
  exact ⟨rfl, rfl, rfl, rfl, rfl, rfl⟩
def idT (a b : List Nat) : List Nat := [32, 105, 100, 61, 34] ++ a ++ b ++ [34]
def cellT (i n t : List Nat) : List Nat := [60, 116, 100, 32, 99, 108, 97, 115, 115, 61, 34, 100, 105, 102, 102, 95, 104, 101, 97, 100, 101, 114, 34] ++ i ++ [62] ++ n ++ [60, 47, 116, 100, 62, 60, 116, 100, 32, 110, 111, 119, 114, 97, 112, 61, 34, 110, 111, 119, 114, 97, 112, 34, 62] ++ t ++ [60, 47, 116, 100, 62]
theorem FrO.mono {own own' : Own} (h : ∀ p ∈ own, p ∈ own') : ∀ {l : List Env}, FrO own l → FrO own' l
  | [], _ => trivial
  | _ :: _, ⟨h1, ⟨L, loc, hf, hm⟩, hr⟩ => ⟨h1, ⟨L, loc, hf, h _ hm⟩, FrO.mono h hr⟩
theorem rstripL_len (p : Nat → Bool) (l : List Nat) : (rstripL p l).length ≤ l.length := by unfold rstripL; rw [List.length_take]; omega
def repls (t : List Nat) : List Nat := repl 32 [38, 110, 98, 115, 112, 59] (repl 60 [38, 108, 116, 59] (repl 62 [38, 103, 116, 59] (repl 38 [38, 97, 109, 112, 59] t)))
local macro_rules | `(tactic| walk_at "go") => `(tactic| ((with_reducible show SE _ _ _ (Expr.Call (Expr.Attribute _ (Str.ofString "replace") _) [Expr.Constant _ _ _, Expr.Constant _ _ _] [] _) _ _); refine SE_Replace (Nat.le_refl _) (by walk_at "lit") (by walk_at "lit") (by decide +kernel) (by decide +kernel) ?_))
local macro_rules | `(tactic| walk_at "go") => `(tactic| (with_reducible refine ⟨_, rfl, by (first | omega | (simp only [List.length_append, List.length_cons, List.length_nil]; omega)), ?_⟩))
local macro_rules | `(tactic| walk_at "go") => `(tactic| first
  | ((with_reducible show SE _ _ _ (Expr.JoinedStr _ _) _ _); refine SE_JoinedStr ?_)
  | ((with_reducible show SE _ _ _ (Expr.FormattedValue _ 115 none _) _ _); refine SE_FieldS ?_)
  | ((with_reducible show SJ _ _ _ (_ :: _) _ _ _); refine SJ_cons ?_)
  | ((with_reducible show SJ _ _ _ [] _ _ _); refine SJ_nil ?_))
local macro_rules | `(tactic| walk_at "meth") => `(tactic| ((with_reducible show SMth _ _ (Str.ofString "rstrip") _ _ _ _); refine mth_str (fun t s P h => GM.rstrip h) ?_))
local macro_rules | `(tactic| walk_at "call") => `(tactic| (refine call_rstrip (by walk_at "size") ?_))
theorem c_fmtS (hK : K4 W) (hh : A.handled = none) (hd : A.depth < recursionLimit) {fs : List Env} (hfr : A.frames = some fs) (hF : FrO own fs) {x : Addr} {sd : Int} {fl : PyData} {l text : List Nat} (hl : l.length ≤ 100) (ht : text.length ≤ 40) :
    SLC W A (.ref 88) [.ref x, .int sd, .dat fl, .str (S l), .str (S text)] own (fun r o => r = .str (S (cellT [] l (rstripL Unicode.isSpace (repls text)))) ∧ o = own) := by
  refine' do_callU [Str.ofString "self", Str.ofString "side", Str.ofString "flag", Str.ofString "linenum", Str.ofString "text"] (by decide) (by simp) ?ho ?hcd hd ?hb ?hloc ?nd ?h ?c1 ?c2 ?c3 ?c4
  case ho => exact K_of hK rfl
  case hcd => rw [hK]; rfl
  case hb => intro s vs _ hl; exact BindsTo.of_eq (by match vs, hl with | [_, _, _, _, _], _ => rfl)
  case hloc => decide +kernel
  case nd => decide +kernel
  case c1 => rfl
  case c2 => rfl
  case c3 => rfl
  case c4 => decide +kernel
  intro L
  simp only [List.zip_cons_cons, List.zip_nil_right]
  have hK' : K4 W.up := hK
  have r1 := repl_len 38 [38, 97, 109, 112, 59] text
  have r2 := repl_len 62 [38, 103, 116, 59] (repl 38 [38, 97, 109, 112, 59] text)
  have r3 := repl_len 60 [38, 108, 116, 59] (repl 62 [38, 103, 116, 59] (repl 38 [38, 97, 109, 112, 59] text))
  have r4 := repl_len 32 [38, 110, 98, 115, 112, 59] (repl 60 [38, 108, 116, 59] (repl 62 [38, 103, 116, 59] (repl 38 [38, 97, 109, 112, 59] text)))
  simp only [List.length_cons, List.length_nil] at r1 r2 r3 r4
  have r5 := rstripL_len Unicode.isSpace (repl 32 [38, 110, 98, 115, 112, 59] (repl 60 [38, 108, 116, 59] (repl 62 [38, 103, 116, 59] (repl 38 [38, 97, 109, 112, 59] text))))
  repeat walk_at "go"
  refine SX_TryX (T := "TypeError") (X := "TypeError") (L := L) (Around.frames_deeper hfr) ⟨(fun e => nomatch e), ⟨L, _, rfl, List.mem_cons_self⟩, hF.mono fun p hp => List.mem_cons_of_mem _ hp⟩ rfl rfl rfl rfl rfl (nsIn_of hK' rfl) (by decide +kernel) (by decide +kernel) (by decide +kernel) (isSubtype_of_subB (by decide +kernel)) (isSubtype_of_subB (by decide +kernel)) (isSubtype_of_subB (by decide +kernel)) ?_ ?_
  · exact raise_assign (l := l) (loc := _) hh (by walk_at "lit") rfl rfl List.mem_cons_self rfl (by walk_at "mem") (by decide +kernel)
  intro A'
  repeat walk_at "go"
  exact ⟨_, .drop .refl, by simp [cellT, repls], rfl⟩
theorem c_fmtI (hK : K4 W) (hh : A.handled = none) (hd : A.depth < recursionLimit) {x dx : Addr} {loc : List (Str × V)} {p0 p1 : List Nat} {sd : Int} {fl : PyData} {n : Int} {text p : List Nat} (hx : (x, Ob.obj (instObj 113 dx)) ∈ own) (hdx : (dx, Ob.att loc) ∈ own) (hpf : (Str.ofString "_prefix", V.lst [.str (S p0), .str (S p1)]) ∈ loc)
    (hp : [PyData.str (S p0), PyData.str (S p1)][place sd 2]? = some (.str (S p))) (hsd : 0 ≤ sd ∧ sd ≤ 1) (hpl : p.length ≤ 100) (hn : n.natAbs < 10 ^ 60) (ht : text.length ≤ 40) :
    SLC W A (.ref 88) [.ref x, .int sd, .dat fl, .int n, .str (S text)] own (fun r o => r = .str (S (cellT (idT p (decT n)) (decT n) (rstripL Unicode.isSpace (repls text)))) ∧ o = own) := by
  refine' do_callU [Str.ofString "self", Str.ofString "side", Str.ofString "flag", Str.ofString "linenum", Str.ofString "text"] (by decide) (by simp) ?ho ?hcd hd ?hb ?hloc ?nd ?h ?c1 ?c2 ?c3 ?c4
  case ho => exact K_of hK rfl
  case hcd => rw [hK]; rfl
  case hb => intro s vs _ hl; exact BindsTo.of_eq (by match vs, hl with | [_, _, _, _, _], _ => rfl)
  case hloc => decide +kernel
  case nd => decide +kernel
  case c1 => rfl
  case c2 => rfl
  case c3 => rfl
  case c4 => decide +kernel
  intro L
  simp only [List.zip_cons_cons, List.zip_nil_right]
  have hK' : K4 W.up := hK
  have r1 := repl_len 38 [38, 97, 109, 112, 59] text
  have r2 := repl_len 62 [38, 103, 116, 59] (repl 38 [38, 97, 109, 112, 59] text)
  have r3 := repl_len 60 [38, 108, 116, 59] (repl 62 [38, 103, 116, 59] (repl 38 [38, 97, 109, 112, 59] text))
  have r4 := repl_len 32 [38, 110, 98, 115, 112, 59] (repl 60 [38, 108, 116, 59] (repl 62 [38, 103, 116, 59] (repl 38 [38, 97, 109, 112, 59] text)))
  simp only [List.length_cons, List.length_nil] at r1 r2 r3 r4
  have r5 := rstripL_len Unicode.isSpace (repl 32 [38, 110, 98, 115, 112, 59] (repl 60 [38, 108, 116, 59] (repl 62 [38, 103, 116, 59] (repl 38 [38, 97, 109, 112, 59] text))))
  have r6 : (decT n).length ≤ 61 := by
    have := figs_len (by decide) hn
    rw [decT_figs, List.length_append]
    split
    · simp only [List.length_cons, List.length_nil]; omega
    · simp only [List.length_nil]; omega
  have r7 : n.natAbs.log2 < 1920 := by
    by_cases h0 : n.natAbs = 0
    · rw [h0]; decide
    · exact (Nat.log2_lt h0).mpr (Nat.lt_trans hn (by decide +kernel))
  repeat walk_at "go"
  refine SX_TryN ?_
  repeat walk_at "go"
  refine op_fmtD r7 (by omega) ?_
  repeat walk_at "go"
  refine get_att (cls4 hK') (by walk_at "mem") (by walk_at "mem") hpf (by rw [hK']; rfl) handed_lst ?_
  repeat walk_at "go"
  refine sub_lst (by simp only [List.length_cons, List.length_nil]; omega) (by simp only [List.length_cons, List.length_nil]; omega) (by walk_at "small") hp ?_
  repeat walk_at "go"
  exact ⟨_, .drop .refl, by simp [cellT, idT, repls], rfl⟩
end
section
variable {W : Wd} {A : Around} {env : Env} {own : Own}
/-! plain: the writing, its end struck off -/
theorem cutL_pre (a b : List Nat) : cutL (a ++ b) none (some (a.length : Int)) = a := by
  unfold cutL clipAt
  simp only [Option.elim_none, Option.elim_some, List.drop_zero, List.length_append, Nat.sub_zero]
  have : (max 0 (min (if (a.length : Int) < 0 then (a.length : Int) + ((a.length + b.length : Nat) : Int) else (a.length : Int)) ((a.length + b.length : Nat) : Int))).toNat = a.length := by rw [if_neg (by omega)]; omega
  rw [this]; simp
theorem cutL_post (a b : List Nat) : cutL (a ++ b) (some (a.length : Int)) none = b := by
  unfold cutL clipAt
  simp only [Option.elim_none, Option.elim_some, List.length_append]
  have : (max 0 (min (if (a.length : Int) < 0 then (a.length : Int) + ((a.length + b.length : Nat) : Int) else (a.length : Int)) ((a.length + b.length : Nat) : Int))).toNat = a.length := by rw [if_neg (by omega)]; omega
  rw [this]; simp
theorem cut_end (h b t : List Nat) (ht : t.length = 5) : cutL (h ++ b ++ t) (some (-5)) none = t := by
  unfold cutL clipAt
  simp only [Option.elim_none, Option.elim_some, List.length_append]
  have : (max 0 (min (if (-5 : Int) < 0 then (-5 : Int) + ((h.length + b.length + t.length : Nat) : Int) else (-5 : Int)) ((h.length + b.length + t.length : Nat) : Int))).toNat = (h ++ b).length := by rw [if_pos (by omega), List.length_append]; omega
  rw [this, List.drop_left]
  exact List.take_of_length_le (by rw [List.length_append]; omega)
theorem cut_mid (h b t : List Nat) (ht : t.length = 5) : cutL (h ++ b ++ t) (some (h.length : Int)) (some (-5)) = b := by
  unfold cutL clipAt
  simp only [Option.elim_none, Option.elim_some, List.length_append]
  have e1 : (max 0 (min (if (-5 : Int) < 0 then (-5 : Int) + ((h.length + b.length + t.length : Nat) : Int) else (-5 : Int)) ((h.length + b.length + t.length : Nat) : Int))).toNat = h.length + b.length := by rw [if_pos (by omega)]; omega
  have e2 : (max 0 (min (if (h.length : Int) < 0 then (h.length : Int) + ((h.length + b.length + t.length : Nat) : Int) else (h.length : Int)) ((h.length + b.length + t.length : Nat) : Int))).toNat = h.length := by rw [if_neg (by omega)]; omega
  rw [e1, e2, List.append_assoc, List.drop_left, Nat.add_sub_cancel_left, List.take_left]

def writ (t : List Nat) : List Nat := t.flatMap wr
theorem repl_append (c : Nat) (z a b : List Nat) : repl c z (a ++ b) = repl c z a ++ repl c z b := List.flatMap_append
theorem repls_append (a b : List Nat) : repls (a ++ b) = repls a ++ repls b := by unfold repls; rw [repl_append, repl_append, repl_append, repl_append]
theorem repls_one (c : Nat) : repls [c] = wr c := by
  unfold wr
  split
  · rename_i h; subst h; decide +kernel
  split
  · rename_i h; subst h; decide +kernel
  split
  · rename_i h; subst h; decide +kernel
  split
  · rename_i h; subst h; decide +kernel
  · rename_i h1 h2 h3 h4; simp [repls, repl, h1, h2, h3, h4]
theorem repls_writ : ∀ t : List Nat, repls t = writ t
  | [] => rfl
  | c :: t => by
    have e : c :: t = [c] ++ t := rfl
    rw [e, repls_append, repls_one, repls_writ t]; rfl
theorem writ_len (t : List Nat) : (writ t).length ≤ 6 * t.length := by
  induction t with
  | nil => simp [writ]
  | cons c t ih =>
    have : (wr c).length ≤ 6 := by unfold wr; (repeat' split) <;> simp
    unfold writ at ih ⊢
    rw [List.flatMap_cons, List.length_append, List.length_cons]; omega
theorem writ_no (t : List Nat) : ∀ c ∈ writ t, c ≠ 32 := by
  intro c hc e
  subst e
  unfold writ at hc
  obtain ⟨d, _, hd⟩ := List.mem_flatMap.mp hc
  revert hd
  unfold wr
  split
  · simp
  split
  · simp
  split
  · simp
  split
  · simp
  · rename_i h; intro h2; exact h (List.mem_singleton.mp h2).symm
def whitesN : List Nat := [9, 10, 11, 12, 13, 28, 29, 30, 31, 133, 160, 5760, 8192, 8193, 8194, 8195, 8196, 8197, 8198, 8199, 8200, 8201, 8202, 8232, 8233, 8239, 8287, 12288]
def whitesI : List Int := whitesN.map fun n : Nat => (n : Int)
theorem within_mem : ∀ (rs : List (Nat × Nat)) (c : Nat), Unicode.within rs c = true → c ∈ rs.flatMap fun r => (List.range (r.2 + 1 - r.1)).map (r.1 + ·)
  | [], c, h => by cases h
  | (a, b) :: rs, c, h => by
    rw [Unicode.within] at h
    split at h
    · cases h
    · rename_i hc
      rw [List.flatMap_cons, List.mem_append]
      rcases Bool.or_eq_true_iff.mp h with h | h
      · have hb := of_decide_eq_true h
        refine .inl (List.mem_map.mpr ⟨c - a, List.mem_range.mpr ?_, ?_⟩)
        · show c - a < b + 1 - a; omega
        · show a + (c - a) = c; omega
      · exact .inr (within_mem rs c h)
theorem sp_list : ∀ c ∈ UnicodeData.space.flatMap (fun r => (List.range (r.2 + 1 - r.1)).map (r.1 + ·)), c = 32 ∨ c ∈ whitesN := by decide +kernel
theorem sp_whites : ∀ c ∈ whitesN, Unicode.isSpace c = true := by decide +kernel
theorem sp_iff (c : Nat) : Unicode.isSpace c = true ↔ c = 32 ∨ c ∈ whitesN := by
  constructor
  · intro h; exact sp_list c (within_mem _ c h)
  · rintro (rfl | h)
    · decide +kernel
    · exact sp_whites c h
theorem white_mem (c : Nat) : ((c : Int) ∈ whitesI) ↔ c ∈ whitesN := by
  unfold whitesI
  rw [List.mem_map]
  constructor
  · rintro ⟨a, h, e⟩
    have : a = c := by omega
    exact this ▸ h
  · intro h; exact ⟨c, h, rfl⟩
/-- the end of the list that goes, what stays -/
theorem rstrip_split (p : Nat → Bool) (l : List Nat) : ∃ r, l = rstripL p l ++ r ∧ (∀ c ∈ r, p c = true) ∧ ∀ c, (rstripL p l).getLast? = some c → p c = false := by
  refine ⟨l.drop (l.length - (l.reverse.takeWhile p).length), ?_, ?_, ?_⟩
  · unfold rstripL; exact (List.take_append_drop _ _).symm
  · intro c hc
    have e : l.drop (l.length - (l.reverse.takeWhile p).length) = (l.reverse.takeWhile p).reverse := by
      have h1 := List.takeWhile_append_dropWhile (p := p) (l := l.reverse)
      have h2 : l = (l.reverse.dropWhile p).reverse ++ (l.reverse.takeWhile p).reverse := by
        rw [← List.reverse_append, h1, List.reverse_reverse]
      have h3 : (l.reverse.dropWhile p).reverse.length = l.length - (l.reverse.takeWhile p).length := by
        have := congrArg List.length h1
        rw [List.length_append, List.length_reverse] at this
        rw [List.length_reverse]; omega
      rw [← h3]
      exact (congrArg (List.drop (l.reverse.dropWhile p).reverse.length) h2).trans List.drop_left
    rw [e, List.mem_reverse] at hc
    exact List.all_eq_true.mp List.all_takeWhile c hc
  · intro c hc
    have e : rstripL p l = (l.reverse.dropWhile p).reverse := by
      have h1 := List.takeWhile_append_dropWhile (p := p) (l := l.reverse)
      have h2 : l = (l.reverse.dropWhile p).reverse ++ (l.reverse.takeWhile p).reverse := by
        rw [← List.reverse_append, h1, List.reverse_reverse]
      have h3 : (l.reverse.dropWhile p).reverse.length = l.length - (l.reverse.takeWhile p).length := by
        have := congrArg List.length h1
        rw [List.length_append, List.length_reverse] at this
        rw [List.length_reverse]; omega
      unfold rstripL
      rw [← h3]
      exact (congrArg (List.take (l.reverse.dropWhile p).reverse.length) h2).trans List.take_left
    rw [e, List.getLast?_reverse] at hc
    have := List.head?_dropWhile_not p l.reverse
    rw [hc] at this
    simpa using this
theorem last_a (b : List Nat) : ∃ c, ([97] ++ b)[place (-1) ([97] ++ b).length]? = some c ∧ (c = 97 ∨ b.getLast? = some c) := by
  have e : place (-1) ([97] ++ b).length = b.length := by unfold place; rw [if_pos (by decide)]; simp only [List.length_append, List.length_cons, List.length_nil]; omega
  rw [e]
  cases hb : b.getLast? with
  | none => rw [List.getLast?_eq_none_iff] at hb; subst hb; exact ⟨97, rfl, .inl rfl⟩
  | some c =>
    refine ⟨c, ?_, .inr rfl⟩
    rw [List.getLast?_eq_getElem?] at hb
    have : b.length ≠ 0 := by intro h; rw [List.length_eq_zero_iff] at h; subst h; simp at hb
    rw [show ([97] ++ b : List Nat) = 97 :: b from rfl, show b.length = (b.length - 1) + 1 by omega, List.getElem?_cons_succ]
    exact hb
end
section
variable {W : Wd} {A : Around} {env : Env} {own : Own}
local macro_rules | `(tactic| walk_at "lit") => `(tactic| first | exact l4_0 | exact l4_1 | exact l4_2 | exact l4_3 | exact l4_4 | exact l4_5 | exact l4_6 | exact l4_7 | exact l4_8 | exact l4_9 | exact l4_10 | exact l4_11 | exact l4_12 | exact l4_13 | exact l4_14 | exact l4_15 | exact l4_16 | exact l4_17 | exact l4_18 | exact l4_19 | exact l4_20 | exact l4_21 | exact l4_22)
local macro_rules | `(tactic| walk_at "size") => `(tactic| (rw [sizeLine_eq]; (try simp only [List.length_append, List.length_cons, List.length_nil, List.length_map]); omega))
/-! ### making a sheet -/
abbrev attr4 : List (Str × V) := [(Str.ofString "_tabsize", V.int 8), (Str.ofString "_wrapcolumn", V.none), (Str.ofString "_linejunk", V.none), (Str.ofString "_charjunk", V.ref 29)]
theorem c_init (hK : K4 W) (hh : A.handled = none) (hd : A.depth < recursionLimit) {x dx : Addr} :
    SLC W A (.ref 44) [.ref x] ((x, .obj (instObj 113 dx)) :: (dx, .att []) :: own) (fun r o => r = .none ∧ o = (x, .obj (instObj 113 dx)) :: (dx, .att attr4) :: own) := by
  refine' do_callD [Str.ofString "self", Str.ofString "tabsize", Str.ofString "wrapcolumn", Str.ofString "linejunk", Str.ofString "charjunk"] [.int 8 231, .none, .none, .ref 29] [V.int 8, V.none, V.none, V.ref 29] ?hdf ?ho ?hcd hd ?hb ?hloc ?nd ?h ?c1 ?c2 ?c3 ?c4
  case ho => exact K_of hK rfl
  case hcd => rw [hK]; rfl
  case hb => intro s vs X hl; match vs, hl with | [_], _ => exact binds_K X rfl (K_of hK rfl) rfl rfl rfl
  case hdf => intro fz; exact .cons (.dat (.int _ _)) (.cons (.dat .none) (.cons (.dat .none) (.cons (.val _) .nil)))
  case hloc => decide +kernel
  case nd => decide +kernel
  case c1 => rfl
  case c2 => rfl
  case c3 => rfl
  case c4 => decide +kernel
  intro L
  simp only [List.zip_cons_cons, List.zip_nil_right, List.cons_append, List.nil_append]
  repeat walk_at "go"
  refine do_setattr (cls4 hK) (by rw [hK]; rfl) (by walk_at "mem") (by walk_at "mem") (by walk_at "put") (by walk_at "nd") (by simp) (by walk_at "upd") ?_
  repeat walk_at "go"
  refine do_setattr (cls4 hK) (by rw [hK]; rfl) (by walk_at "mem") (by walk_at "mem") (by walk_at "put") (by walk_at "nd") (by simp) (by walk_at "upd") ?_
  repeat walk_at "go"
  refine do_setattr (cls4 hK) (by rw [hK]; rfl) (by walk_at "mem") (by walk_at "mem") (by walk_at "put") (by walk_at "nd") (by simp) (by walk_at "upd") ?_
  repeat walk_at "go"
  refine do_setattr (cls4 hK) (by rw [hK]; rfl) (by walk_at "mem") (by walk_at "mem") (by walk_at "put") (by walk_at "nd") (by simp) (by walk_at "upd") ?_
  repeat walk_at "go"
  exact ⟨_, .drop .refl, rfl, rfl⟩
theorem do_sheet (hK : K4 W) (hh : A.handled = none) (hd : A.depth + 1 < recursionLimit) {Q : V → Own → Prop} (h : ∀ x dx, Q (.ref x) ((x, .obj (instObj 113 dx)) :: (dx, .att attr4) :: own)) :
    SL W A RV (fun vs => call (.ref 113) vs) [] own Q :=
  do_make (cls4 hK) (by rw [hK]; rfl) (by rw [hK]; rfl) fun A' e1 e2 e3 x dx => (c_init hK (e1.trans hh) (by omega)).mono (by rintro r o ⟨rfl, rfl⟩; exact ⟨rfl, h x dx⟩)
end
section
variable {W : Wd} {A : Around} {env : Env} {own : Own}
local macro_rules | `(tactic| walk_at "lit") => `(tactic| first | exact l4_0 | exact l4_1 | exact l4_2 | exact l4_3 | exact l4_4 | exact l4_5 | exact l4_6 | exact l4_7 | exact l4_8 | exact l4_9 | exact l4_10 | exact l4_11 | exact l4_12 | exact l4_13 | exact l4_14 | exact l4_15 | exact l4_16 | exact l4_17 | exact l4_18 | exact l4_19 | exact l4_20 | exact l4_21 | exact l4_22)
local macro_rules | `(tactic| walk_at "size") => `(tactic| (rw [sizeLine_eq]; (try simp only [List.length_append, List.length_cons, List.length_nil, List.length_map]); omega))
local macro_rules | `(tactic| walk_at "meth") => `(tactic| ((with_reducible show SMth _ _ (Str.ofString "join") _ _ _ _); refine mth_str (fun t s P h => GM.join h) ?_))
theorem deeper_gen2 {body : List Stmt} {e : Env} {fs : List Env} {Q : Fl → Own → Prop} (hh : A.handled = none) (hfr : A.frames = some fs) (h : ∀ A' : Around, A'.handled = none → A'.depth = A.depth + 1 → A'.units = A.units + 3 → A'.frames = some (e :: fs) → SXs W A' env body own Q) : SXs W (A.deeper e) env body own Q :=
  h _ hh rfl rfl (Around.frames_deeper hfr)
theorem white_len : (whitesI.map PyData.int).length = 28 := by decide +kernel
theorem white_at {k : Int} (h0 : 0 ≤ k) (h1 : k < 28) : ∃ w : Int, (whitesI.map PyData.int)[place k 28]? = some (.int w) ∧ 9 ≤ w ∧ w ≤ 12288 := by
  obtain ⟨m, rfl⟩ : ∃ m : Nat, k = (m : Int) := ⟨k.toNat, by omega⟩
  have hm : m < 28 := by omega
  have e : place (m : Int) 28 = m := by unfold place; rw [if_neg (by omega)]; omega
  have key : ∀ m : Fin 28, ∃ w : Nat, whitesN[m.val]? = some w ∧ 9 ≤ w ∧ w ≤ 12288 := by
    intro m
    have h2 : ∀ m : Fin 28, 9 ≤ whitesN.getD m.val 0 ∧ whitesN.getD m.val 0 ≤ 12288 := by decide +kernel
    have h3 : m.val < whitesN.length := m.isLt
    refine ⟨whitesN[m.val], List.getElem?_eq_getElem h3, ?_⟩
    have := h2 m
    rwa [List.getD_eq_getElem?_getD, List.getElem?_eq_getElem h3] at this
  obtain ⟨w, hw, hw1, hw2⟩ := key ⟨m, hm⟩
  refine ⟨w, ?_, by omega, by omega⟩
  rw [e, List.getElem?_map]
  unfold whitesI
  rw [List.getElem?_map, hw]; rfl
theorem common_at {k : Int} (h0 : 0 ≤ k) (h1 : k < 10) : ∃ c : Nat, [38, 60, 62, 34, 39, 59, 32, 97, 0, 1][place k [38, 60, 62, 34, 39, 59, 32, 97, 0, 1].length]? = some c ∧ c < 128 := by
  rcases (by omega : k = 0 ∨ k = 1 ∨ k = 2 ∨ k = 3 ∨ k = 4 ∨ k = 5 ∨ k = 6 ∨ k = 7 ∨ k = 8 ∨ k = 9) with h | h | h | h | h | h | h | h | h | h <;> subst h <;> exact ⟨_, rfl, by decide⟩
theorem pw_pos : (0 : Int) < 10 ^ (60 : Int).toNat := by decide +kernel
theorem pw_lt (n : Int) : (n % 10 ^ (60 : Int).toNat).natAbs < 10 ^ 60 := by
  have h1 := Int.emod_nonneg n (Int.ne_of_gt pw_pos)
  have h2 := Int.emod_lt_of_pos n pw_pos
  have e : (10 : Int) ^ (60 : Int).toNat = ((10 ^ 60 : Nat) : Int) := by decide +kernel
  rw [e] at h1 h2 ⊢
  omega
theorem decT_len {n : Int} (hn : n.natAbs < 10 ^ 60) : (decT n).length ≤ 61 := by
  have := figs_len (by decide) hn
  rw [decT_figs, List.length_append]
  split
  · simp only [List.length_cons, List.length_nil]; omega
  · simp only [List.length_nil]; omega
abbrev pref4 : V := V.lst [.str (S [111, 110, 101, 95]), .str (S [111, 116, 104, 101, 114, 95])]
abbrev att4 : List (Str × V) := [(Str.ofString "_tabsize", V.int 8), (Str.ofString "_wrapcolumn", V.none), (Str.ofString "_linejunk", V.none), (Str.ofString "_charjunk", V.ref 29), (Str.ofString "_prefix", pref4)]
set_option maxHeartbeats 4000000 in
theorem c_law (hK : K4 W) (hh : A.handled = none) (hd : A.depth < 320) (hu : A.units < 100) (hfr0 : A.frames = some []) (ns : List Int) (hn : ns.length ≤ 63) :
    SLC W A (.ref 136) [.lst (ns.map .int)] own (fun r o => r = .bool true) := by
  refine' do_callE [Str.ofString "script"] [(Str.ofString "script", .lst (ns.map .int))] [(Str.ofString "whites", 1, none)] ?ho ?hcd (by have : recursionLimit = 1000 := rfl; omega) ?hb ?hcl ?ndc ?hkind ?hbind ?h ?c1 ?c2 ?c3
  case ho => exact K_of hK rfl
  case hcd => rw [hK]; rfl
  case hb => intro s vs _ hl; exact BindsTo.of_eq (by match vs, hl with | [_], _ => rfl)
  case hcl => intro L; rfl
  case ndc => simp only [List.map_cons, List.map_nil]; decide +kernel
  case hkind => simp only [List.map_cons, List.map_nil]; decide +kernel
  case hbind =>
    intro fz vs L r
    cases r with | cons r1 r => cases r; exact ⟨⟨⟨_, rfl, r1⟩, trivial⟩, rfl, trivial⟩
  case c1 => rfl
  case c2 => rfl
  case c3 => rfl
  intro L
  simp only [List.map_cons, List.map_nil, List.cons_append, List.nil_append]
  refine @deeper_gen2 W A _ _ _ _ _ _ hh hfr0 ?_
  intro A' hh' hd' hu' hfr'
  have hrec : recursionLimit = 1000 := rfl
  have hcl : cLine = 9900 := rfl
  repeat walk_at "go"
  refine SE_ListF ?_
  repeat walk_at "go"
  refine call_range2 ?_
  repeat walk_at "go"
  refine call_listR (n := 11) hh' (by decide +kernel) (by decide +kernel) (by decide) ?_
  refine op_addO (by decide +kernel) fun D => ?_
  repeat walk_at "go"
  refine SE_List (by walk_at "small") ?_
  repeat walk_at "go"
  refine ⟨by walk_at "small", fun D2 => ?_⟩
  refine op_iaddO (by walk_at "mem") (by walk_at "upd") (by rw [sizeLine_eq]; decide +kernel) ?_
  repeat walk_at "go"
  refine ⟨kp_K (by rw [hK]; rfl), do_sheet hK hh' (by omega) fun x dx => ?_⟩
  repeat walk_at "go"
  refine SE_ListF ?_
  repeat walk_at "go"
  refine do_setattr (cls4 hK) (by rw [hK]; rfl) (by walk_at "mem") (by walk_at "mem") (by walk_at "put") (by walk_at "nd") (by simp) (by walk_at "upd") ?_
  repeat walk_at "go"
  refine SG_frz (D := D) (ds := whitesI.map PyData.int) (by walk_at "take") ?_ (by walk_at "frz") ?_
  · exact AllDat.map (whitesI.map PyData.int)
  refine SG.wk (own' := (x, Ob.obj (instObj 113 dx)) :: (dx, Ob.att att4) :: (L, Ob.ns [(Str.ofString "script", .lst (ns.map .int)), (Str.ofString "sheet", .ref x), (Str.ofString "text", .str (S []))]) :: (L + 1, Ob.cell (some (.lst (whitesI.map .int)))) :: own) (by walk_at "wk") ?_
  refine SX_For hh' ?_
  repeat walk_at "go"
  refine SE_ListF ?_
  repeat walk_at "go"
  refine op_addL (by rw [sizeLine_eq]; simp only [List.length_map, List.length_cons, List.length_nil]; omega) ?_
  rw [show ns.map PyData.int ++ [PyData.int 12, PyData.int 95, PyData.int 32, PyData.int 50, PyData.int 4, PyData.int 11, PyData.int 3503] = (ns ++ [12, 95, 32, 50, 4, 11, 3503]).map PyData.int by rw [List.map_append]; rfl]
  generalize ns ++ [12, 95, 32, 50, 4, 11, 3503] = zs
  refine it_list fun it => ⟨it, _, _, rfl, rfl, fun l o => ∃ (post : List Int) (text : List Nat), l = (post.map PyData.int).map V.dat ∧ text.length ≤ 8 ∧ o = (x, Ob.obj (instObj 113 dx)) :: (dx, Ob.att att4) :: (L, Ob.ns [(Str.ofString "script", .lst (ns.map .int)), (Str.ofString "sheet", .ref x), (Str.ofString "text", .str (S text))]) :: (L + 1, Ob.cell (some (.lst (whitesI.map .int)))) :: own, ?_, ?_, ?_⟩
  · exact ⟨zs, [], rfl, by decide, rfl⟩
  · rintro v r o ⟨post, text, hl, ht8, rfl⟩
    cases post with
    | nil => cases hl
    | cons n post =>
      injection hl with e1 e2
      subst e1 e2
      have h28 : 0 ≤ n / 5 % 28 ∧ n / 5 % 28 < 28 := by omega
      obtain ⟨wv, hwv, hw1, hw2⟩ := white_at h28.1 h28.2
      repeat walk_at "go"
      refine op_div (by decide) (by decide) ?_
      repeat walk_at "go"
      refine op_mod (by decide) ?_
      refine sub_lst (by rw [white_len]; omega) (by rw [white_len]; omega) (by rw [white_len, sizeLine_eq]; decide) (by rw [white_len]; exact hwv) ?_
      (first | walk_at "go" | skip)
      (first | walk_at "go" | skip)
      refine SG.mono (Q := fun fl o => fl = Fl.next ∧ ∃ text' : List Nat, text'.length ≤ 8 ∧ Wk o ((it, Ob.it ((post.map PyData.int).map V.dat)) :: (x, Ob.obj (instObj 113 dx)) :: (dx, Ob.att att4) :: (L, Ob.ns [(Str.ofString "script", .lst (ns.map .int)), (Str.ofString "sheet", .ref x), (Str.ofString "text", .str (S text')), (Str.ofString "x", .int n), (Str.ofString "rest", .int (n / 5)), (Str.ofString "white", .int wv)]) :: (L + 1, Ob.cell (some (.lst (whitesI.map .int)))) :: own)) ?_ ?_
      · repeat walk_at "go"
        refine op_mod (by decide) ?_
        repeat walk_at "go"
        refine ite_dec (fun h1 => ?_) (fun h1 => ?_)
        · repeat walk_at "go"
          exact ⟨rfl, [], by decide, by walk_at "wk"⟩
        · repeat walk_at "go"
          refine ite_dec (fun h2 => ?_) (fun h2 => ?_)
          · repeat walk_at "go"
            exact ⟨rfl, [], by decide, by walk_at "wk"⟩
          · repeat walk_at "go"
            refine op_div (by decide) (by decide) ?_
            repeat walk_at "go"
            refine op_mod (by decide) ?_
            refine op_mulR (bits_small (by omega)) ?_
            repeat walk_at "go"
            refine op_mod (by decide) ?_
            obtain ⟨cc, hcc, hc1⟩ := common_at (k := n / 5 % 10) (by omega) (by omega)
            refine sub_strS (by simp only [List.length_cons, List.length_nil]; omega) (by simp only [List.length_cons, List.length_nil]; omega) (by walk_at "small") hcc ?_
            repeat walk_at "go"
            refine SE_ListF ?_
            repeat walk_at "go"
            refine op_mod (by decide) ?_
            repeat walk_at "go"
            refine op_mod (by decide) ?_
            obtain ⟨sv, hsv, hs1, hs2⟩ : ∃ sv : Int, [PyData.int wv, PyData.int (wv + 1 - 2 * (n / 5 / 28 % 2)), PyData.int (cc : Int), PyData.int (n / 5 % 1114112)][place (n % 5) 4]? = some (.int sv) ∧ 0 ≤ sv ∧ sv < 1114112 := by
              rcases (by omega : n % 5 = 0 ∨ n % 5 = 1 ∨ n % 5 = 2 ∨ n % 5 = 3) with h | h | h | h <;> rw [h]
              · exact ⟨_, rfl, by omega, by omega⟩
              · exact ⟨_, rfl, by omega, by omega⟩
              · exact ⟨_, rfl, by omega, by omega⟩
              · exact ⟨_, rfl, by omega, by omega⟩
            refine sub_lst (by simp only [List.length_cons, List.length_nil]; omega) (by simp only [List.length_cons, List.length_nil]; omega) (by walk_at "small") hsv ?_
            repeat walk_at "go"
            refine call_chrS hs1 hs2 ?_
            repeat walk_at "go"
            exact ⟨rfl, text ++ [sv.toNat], by rw [List.length_append, List.length_cons, List.length_nil]; omega, by walk_at "wk"⟩
      rintro fl o ⟨rfl, text', ht', wk⟩
      refine SG.wk wk ?_
      clear wk
      (first | walk_at "go" | skip)
      refine SG.mono (Q := fun fl o => fl = Fl.next ∧ ∃ sz : Int, sz.natAbs < 10 ^ 60 ∧ o = (it, Ob.it ((post.map PyData.int).map V.dat)) :: (x, Ob.obj (instObj 113 dx)) :: (dx, Ob.att att4) :: (L, Ob.ns [(Str.ofString "script", .lst (ns.map .int)), (Str.ofString "sheet", .ref x), (Str.ofString "text", .str (S text')), (Str.ofString "x", .int n), (Str.ofString "rest", .int (n / 5)), (Str.ofString "white", .int wv), (Str.ofString "size", .int sz)]) :: (L + 1, Ob.cell (some (.lst (whitesI.map .int)))) :: own) ?_ ?_
      · repeat walk_at "go"
        refine ite_dec (fun h1 => ?_) (fun h1 => ?_)
        · repeat walk_at "go"
          refine op_pow (by decide) (by decide) (by decide) ?_
          refine op_mod pw_pos ?_
          repeat walk_at "go"
          exact ⟨rfl, _, pw_lt n, rfl⟩
        · repeat walk_at "go"
          refine op_pow (by decide) (by decide) (by decide) ?_
          refine op_mod pw_pos ?_
          repeat walk_at "go"
          exact ⟨rfl, _, by rw [Int.natAbs_neg]; exact pw_lt (-n), rfl⟩
      rintro fl o ⟨rfl, sz, hsz, rfl⟩
      have hdl := decT_len hsz
      obtain ⟨p, hpl, hp⟩ : ∃ p : List Nat, p.length ≤ 6 ∧ [PyData.str (S [111, 110, 101, 95]), PyData.str (S [111, 116, 104, 101, 114, 95])][place (n % 2) 2]? = some (.str (S p)) := by
        rcases (by omega : n % 2 = 0 ∨ n % 2 = 1) with h | h <;> rw [h] <;> exact ⟨_, by decide, rfl⟩
      obtain ⟨fd, hfd⟩ : ∃ fd : PyData, [PyData.bool true, PyData.bool false, PyData.none][place (n % 3) 3]? = some fd := by
        rcases (by omega : n % 3 = 0 ∨ n % 3 = 1 ∨ n % 3 = 2) with h | h | h <;> rw [h] <;> exact ⟨_, rfl⟩
      refine SXs_splitAt 6 ?_
      simp only [List.take_succ_cons, List.take_zero, List.drop_succ_cons, List.drop_zero]
      have hbl : (rstripL Unicode.isSpace (repls text')).length ≤ 48 := by
        have h1 := rstripL_len Unicode.isSpace (repls text')
        have h2 := writ_len text'
        rw [repls_writ] at h1 ⊢; omega
      refine SG.mono (Q := fun fl o => fl = Fl.next ∧ ∃ (II MM : List Nat), II.length ≤ 80 ∧ MM.length ≤ 80 ∧ Wk o ((it, Ob.it ((post.map PyData.int).map V.dat)) :: (x, Ob.obj (instObj 113 dx)) :: (dx, Ob.att att4) :: (L, Ob.ns [(Str.ofString "script", .lst (ns.map .int)), (Str.ofString "sheet", .ref x), (Str.ofString "text", .str (S text')), (Str.ofString "head", .str (S ([60, 116, 100, 32, 99, 108, 97, 115, 115, 61, 34, 100, 105, 102, 102, 95, 104, 101, 97, 100, 101, 114, 34] ++ II ++ [62] ++ MM ++ [60, 47, 116, 100, 62, 60, 116, 100, 32, 110, 111, 119, 114, 97, 112, 61, 34, 110, 111, 119, 114, 97, 112, 34, 62]))), (Str.ofString "cell", .str (S (cellT II MM (rstripL Unicode.isSpace (repls text')))))]) :: (L + 1, Ob.cell (some (.lst (whitesI.map .int)))) :: own)) ?_ ?_
      · repeat walk_at "go"
        refine SE_ListF ?_
        repeat walk_at "go"
        refine op_div (by decide) (by decide) ?_
        repeat walk_at "go"
        refine op_mod (by decide) ?_
        by_cases h3 : n / 2 % 3 = 0
        · refine sub_lst (d := .int sz) (by simp only [List.length_cons, List.length_nil]; omega) (by simp only [List.length_cons, List.length_nil]; omega) (by walk_at "small") (by rw [h3]; rfl) ?_
          repeat walk_at "go"
          refine op_div (by decide) (by decide) ?_
          repeat walk_at "go"
          refine op_mod (by decide) ?_
          repeat walk_at "go"
          refine ite_dec (fun _ => ?_) (fun h => absurd h3 h)
          repeat walk_at "go"
          refine ⟨kp_K (by rw [hK]; rfl), SLC.call ((c_figures hK (by omega) sz hsz).mono ?_)⟩
          rintro r o ⟨rfl, rfl⟩
          repeat walk_at "go"
          refine get_att (cls4 hK) (by walk_at "mem") (by walk_at "mem") (by walk_at "mem") (by rw [hK]; rfl) handed_lst ?_
          repeat walk_at "go"
          refine op_mod (by decide) ?_
          refine sub_lst (by simp only [List.length_cons, List.length_nil]; omega) (by simp only [List.length_cons, List.length_nil]; omega) (by walk_at "small") hp ?_
          repeat walk_at "go"
          refine mth_inst (cls4 hK) (by walk_at "mem") (by walk_at "mem") (by rw [hK]; rfl) (by rw [hK]; rfl) (by walk_at "notin") ?_
          repeat walk_at "go"
          refine op_mod (by decide) ?_
          repeat walk_at "go"
          refine SE_ListF ?_
          repeat walk_at "go"
          refine op_mod (by decide) ?_
          refine sub_lst (by simp only [List.length_cons, List.length_nil]; omega) (by simp only [List.length_cons, List.length_nil]; omega) (by walk_at "small") hfd ?_
          repeat walk_at "go"
          refine ⟨kp_K (by rw [hK]; rfl), SLC.call ((c_fmtI hK hh' (by omega) (x := x) (dx := dx) (loc := att4) (p := p) (by walk_at "mem") (by walk_at "mem") (by walk_at "mem") hp (by omega) (by omega) hsz (by omega)).mono ?_)⟩
          rintro r o ⟨rfl, rfl⟩
          repeat walk_at "go"
          unfold idT
          exact ⟨rfl, [32, 105, 100, 61, 34] ++ p ++ decT sz ++ [34], decT sz, by simp only [List.length_append, List.length_cons, List.length_nil]; omega, by omega, by walk_at "wk"⟩
        · obtain ⟨l, hll, hl2⟩ : ∃ l : List Nat, l.length ≤ 1 ∧ [PyData.int sz, PyData.str (S [62]), PyData.str (S [])][place (n / 2 % 3) 3]? = some (.str (S l)) := by
            rcases (by omega : n / 2 % 3 = 1 ∨ n / 2 % 3 = 2) with h | h <;> rw [h] <;> exact ⟨_, by decide, rfl⟩
          refine sub_lst (by simp only [List.length_cons, List.length_nil]; omega) (by simp only [List.length_cons, List.length_nil]; omega) (by walk_at "small") hl2 ?_
          repeat walk_at "go"
          refine op_div (by decide) (by decide) ?_
          repeat walk_at "go"
          refine op_mod (by decide) ?_
          repeat walk_at "go"
          refine ite_dec (fun h => absurd h h3) (fun _ => ?_)
          repeat walk_at "go"
          refine mth_inst (cls4 hK) (by walk_at "mem") (by walk_at "mem") (by rw [hK]; rfl) (by rw [hK]; rfl) (by walk_at "notin") ?_
          repeat walk_at "go"
          refine op_mod (by decide) ?_
          repeat walk_at "go"
          refine SE_ListF ?_
          repeat walk_at "go"
          refine op_mod (by decide) ?_
          refine sub_lst (by simp only [List.length_cons, List.length_nil]; omega) (by simp only [List.length_cons, List.length_nil]; omega) (by walk_at "small") hfd ?_
          repeat walk_at "go"
          refine ⟨kp_K (by rw [hK]; rfl), SLC.call ((c_fmtS hK hh' (by omega) (x := x) hfr' ⟨(fun e => nomatch e), ⟨L, _, rfl, by walk_at "mem"⟩, trivial⟩ (by omega) (by omega)).mono ?_)⟩
          rintro r o ⟨rfl, rfl⟩
          repeat walk_at "go"
          exact ⟨rfl, [], l, by simp, by omega, by walk_at "wk"⟩
      rintro fl o ⟨rfl, II, MM, hII, hMM, wk⟩
      refine SG.wk wk ?_
      clear wk
      have hsp := rstrip_split Unicode.isSpace (writ text')
      rw [← repls_writ text'] at hsp
      generalize hb : rstripL Unicode.isSpace (repls text') = b at hsp hbl ⊢
      obtain ⟨rr, hr1, hr2, hr3⟩ := hsp
      rw [repls_writ] at hr1
      have hrl : rr.length ≤ 48 := by
        have h2 := writ_len text'
        rw [hr1, List.length_append] at h2; omega
      have hno := writ_no text'
      have e1 : cutL (cellT II MM b) none (some ((([60, 116, 100, 32, 99, 108, 97, 115, 115, 61, 34, 100, 105, 102, 102, 95, 104, 101, 97, 100, 101, 114, 34] ++ II ++ [62] ++ MM ++ [60, 47, 116, 100, 62, 60, 116, 100, 32, 110, 111, 119, 114, 97, 112, 61, 34, 110, 111, 119, 114, 97, 112, 34, 62]) : List Nat).length : Int)) = ([60, 116, 100, 32, 99, 108, 97, 115, 115, 61, 34, 100, 105, 102, 102, 95, 104, 101, 97, 100, 101, 114, 34] ++ II ++ [62] ++ MM ++ [60, 47, 116, 100, 62, 60, 116, 100, 32, 110, 111, 119, 114, 97, 112, 61, 34, 110, 111, 119, 114, 97, 112, 34, 62]) := by
        show cutL (([60, 116, 100, 32, 99, 108, 97, 115, 115, 61, 34, 100, 105, 102, 102, 95, 104, 101, 97, 100, 101, 114, 34] ++ II ++ [62] ++ MM ++ [60, 47, 116, 100, 62, 60, 116, 100, 32, 110, 111, 119, 114, 97, 112, 61, 34, 110, 111, 119, 114, 97, 112, 34, 62]) ++ b ++ [60, 47, 116, 100, 62]) _ _ = _
        rw [List.append_assoc]; exact cutL_pre _ _
      have e2 : cutL (cellT II MM b) (some (-5)) none = [60, 47, 116, 100, 62] := cut_end ([60, 116, 100, 32, 99, 108, 97, 115, 115, 61, 34, 100, 105, 102, 102, 95, 104, 101, 97, 100, 101, 114, 34] ++ II ++ [62] ++ MM ++ [60, 47, 116, 100, 62, 60, 116, 100, 32, 110, 111, 119, 114, 97, 112, 61, 34, 110, 111, 119, 114, 97, 112, 34, 62]) b _ rfl
      have e3 : cutL (cellT II MM b) (some ((([60, 116, 100, 32, 99, 108, 97, 115, 115, 61, 34, 100, 105, 102, 102, 95, 104, 101, 97, 100, 101, 114, 34] ++ II ++ [62] ++ MM ++ [60, 47, 116, 100, 62, 60, 116, 100, 32, 110, 111, 119, 114, 97, 112, 61, 34, 110, 111, 119, 114, 97, 112, 34, 62]) : List Nat).length : Int)) (some (-5)) = b := cut_mid ([60, 116, 100, 32, 99, 108, 97, 115, 115, 61, 34, 100, 105, 102, 102, 95, 104, 101, 97, 100, 101, 114, 34] ++ II ++ [62] ++ MM ++ [60, 47, 116, 100, 62, 60, 116, 100, 32, 110, 111, 119, 114, 97, 112, 61, 34, 110, 111, 119, 114, 97, 112, 34, 62]) b _ rfl
      have hcl5 : (cellT II MM b).length ≤ 1000 := by unfold cellT; simp only [List.length_append, List.length_cons, List.length_nil]; omega
      repeat walk_at "go"
      refine SE_SliceSS ?_
      repeat walk_at "go"
      refine ⟨by rw [sizeLine_eq]; exact Nat.le_trans hcl5 (by decide), ?_⟩
      repeat walk_at "go"
      refine ite_dec (fun h => absurd e1 h) (fun _ => ?_)
      repeat walk_at "go"
      refine SE_SliceSS ?_
      repeat walk_at "go"
      refine ⟨by rw [sizeLine_eq]; exact Nat.le_trans hcl5 (by decide), ?_⟩
      repeat walk_at "go"
      refine ite_dec (fun h => absurd e2 h) (fun _ => ?_)
      repeat walk_at "go"
      refine SE_SliceSS ?_
      repeat walk_at "go"
      refine ⟨by rw [sizeLine_eq]; exact Nat.le_trans hcl5 (by decide), ?_⟩
      rw [e3]
      repeat walk_at "go"
      refine SE_CompMap (α := Nat) hh' rfl (by decide +kernel) rfl (by decide +kernel) ?_
      repeat walk_at "go"
      refine it_strS fun it2 => ⟨it2, _, _, rfl, rfl, fun c => V.str (S [c]), fun _ => true, fun c => .str (S (wr c)), text', rfl, by walk_at "size", ?_, ?_⟩
      · intro C D3 it3 c r ys hc
        repeat walk_at "go"
        refine ⟨rfl, ?_⟩
        rw [if_pos rfl]
        repeat walk_at "go"
        refine ⟨kp_K (by rw [hK]; rfl), SLC.call ((c_written hK (by omega) c).mono ?_)⟩
        rintro r o ⟨rfl, rfl⟩
        exact ⟨rfl, by walk_at "wk"⟩
      rw [show (text'.filter fun _ => true).map (fun c => PyData.str (S (wr c))) = (text'.map wr).map fun l => PyData.str (S l) by rw [List.filter_eq_self.mpr (fun _ _ => rfl), List.map_map]; rfl]
      repeat walk_at "go"
      have hwl := writ_len text'
      refine call_join (ls := text'.map wr) (by show (writ text').length ≤ _; omega) ?_
      rw [show (text'.map wr).flatten = b ++ rr from hr1]
      repeat walk_at "go"
      refine SE_SliceSS ?_
      repeat walk_at "go"
      refine ⟨by rw [sizeLine_eq]; simp only [List.length_append]; omega, ?_⟩
      repeat walk_at "go"
      refine ite_dec (fun h => absurd (cutL_pre b rr) h) (fun _ => ?_)
      obtain ⟨lc, hlc, hlc2⟩ := last_a b
      repeat walk_at "go"
      refine sub_strS (by simp only [List.length_append, List.length_cons, List.length_nil]; omega) (by simp only [List.length_append, List.length_cons, List.length_nil]; omega) (by walk_at "size") hlc ?_
      repeat walk_at "go"
      refine cmp_inL ?_
      repeat walk_at "go"
      refine ite_dec (fun h => absurd h ?_) (fun _ => ?_)
      · rw [white_mem]
        intro hw
        rcases hlc2 with rfl | hlc2
        · exact absurd hw (by decide +kernel)
        · exact absurd ((sp_iff lc).mpr (.inr hw)) (by rw [hr3 lc hlc2]; exact Bool.false_ne_true)
      repeat walk_at "go"
      refine SE_CompMap (α := Nat) hh' rfl (by decide +kernel) rfl (by decide +kernel) ?_
      refine SE_SliceSS ?_
      repeat walk_at "go"
      refine ⟨by rw [sizeLine_eq]; simp only [List.length_append]; omega, ?_⟩
      rw [cutL_post b rr]
      refine it_strS fun it2 => ⟨it2, _, _, rfl, rfl, fun c => V.str (S [c]), fun _ => false, fun c => .str (S [c]), rr, rfl, by walk_at "size", ?_, ?_⟩
      · intro C D3 it3 c r ys hc
        have hcw : (c : Int) ∈ whitesI := by
          rw [white_mem]
          rcases (sp_iff c).mp (hr2 c hc) with h | h
          · exact absurd h (hno c (by rw [hr1]; exact List.mem_append_right _ hc))
          · exact h
        repeat walk_at "go"
        refine cmp_ninL ?_
        repeat walk_at "go"
        refine ⟨by simp [hcw], ?_⟩
        rw [if_neg Bool.false_ne_true]
        walk_at "wk"
      rw [show (rr.filter fun _ => false) = [] by simp]
      refine SE_ListF ?_
      repeat walk_at "go"
      refine cmp_neR rfl (ok_list (n := 59) (by simp)) (by omega) ?_
      repeat walk_at "go"
      exact ⟨_, by walk_at "wk", post, text', rfl, ht', rfl⟩
  · rintro o ⟨post, text, hl, ht8, rfl⟩
    cases post with
    | cons p post => cases hl
    | nil =>
      repeat walk_at "go"
      refine get_att (cls4 hK) (by walk_at "mem") (by walk_at "mem") (by walk_at "mem") (by rw [hK]; rfl) handed_lst ?_
      refine SE_ListF ?_
      repeat walk_at "go"
      refine cmp_eqR rfl (ok_list (n := 59) (by intro d hd; simp only [List.mem_cons, List.not_mem_nil, or_false] at hd; rcases hd with rfl | rfl <;> exact ok_str (by decide))) (by omega) ?_
      repeat walk_at "go"
      exact ⟨_, .refl, rfl⟩
end
section
variable {W : Wd} {A : Around} {env : Env} {own : Own}
theorem law_true {W : Wd} (hK : K4 W) (ns : List Int) (hn : ns.length ≤ 63) : SLC W callerA (.ref 136) [.lst (ns.map .int)] [] (fun r _ => r = .bool true) :=
  c_law hK rfl (by rw [depth_caller]; decide) (by rw [units_caller]; decide) rfl ns hn
end
end Mine
open Mine in
set_option maxHeartbeats 8000000 in
theorem PySem.Challenge.cw_dm0066_04_holds : PySem.Challenge.rw_dm0066_04.Holds := by
  refine Mine.hd04 ?_
  k_fill
  intro w s₀ s₁ mg mb G Y fa o pm cd doc dV kV ho hd hcd hD hmg hg args vals as hpre hlay hrd hwl hlo
  have KX := kIn_of Y
  refine Ground.open G ?_
  intro T B D TE TW
  clear ho hd hcd hD
  wrow_args hpre hlay hrd hwl hlo
  all_goals (
    first | refine callC_kw (enter_call ?_) | refine enter_call ?_ | refine callC_kw (enter_callW ?_) | refine enter_callW ?_ | w_how
    w_top on
    try refine codeAny_mono ?_ (fun _ _ g => GoodW.toG g)
    (rename Reads _ _ (PyData.list (List.map PyData.int _)) _ => r0)
    (rename ¬ ((_ : Int) < _) => hlen)
    refine codeAny_mono (Mine.join_law T KX hmg rfl r0 fun W e1 e2 => Mine.law_true (show W.K = _ by rw [e2, e1]) _ (by omega)) ?_
    rintro r s' ⟨rfl, k, e1, e2⟩
    refine ⟨.inl ⟨_, _, [], rfl, fun cls => ?_, ReadsW.bool true, ?_, fun _ => ⟨List.nodup_nil, fun a ha => (nomatch ha)⟩⟩, k, e1, e2.trans hg⟩
    · rfl
    · exact postW_of rfl (w_eq_bool (w_res rfl) w_lit) rfl)
