import PyProof.Rows.All
import Wide.All
import OpenK.AllK
import Wide.FinOn
import PySem.Challenge.RW_rs0011_01
open PySem PySem.W PyProof.Rows
set_option Elab.async false
set_option maxRecDepth 100000
set_option autoImplicit false

/-! part C1 -/
namespace Mine

/-! ## Data -/
inductive D where
  | none
  | bool (b : Bool)
  | int (i : Int)
  | bytes (b : List UInt8)
  | lst (l : List D)
  | tup (l : List D)
  | rng (a b c : Int)
  | typ (t : String)
  | adr (a : Addr)

abbrev dInts (ns : List Int) : D := .lst (ns.map .int)

def Ext (h h' : Heap) : Prop := ∀ b o, h.get? b = some o → h'.get? b = some o
theorem Ext.refl (h : Heap) : Ext h h := fun _ _ e => e
theorem Ext.trans {h h' h'' : Heap} (x : Ext h h') (y : Ext h' h'') : Ext h h'' := fun b o e => y b o (x b o e)
theorem get_size (h : Heap) : h.get? h.objs.size = none := by
  cases q : h.get? h.objs.size with
  | none => rfl
  | some o => exact absurd (Heap.lt_size q) (Nat.lt_irrefl _)
theorem Ext.push (h : Heap) (o : Obj) : Ext h (h.push o) := fun _ _ e => Heap.get?_push_of_some _ e

theorem plainL_new (h : Heap) (vs : Array Value) : PlainL (h.push { cls := .type "list", data := .seq vs }) h.objs.size vs := ⟨_, 0, Heap.get?_push_size _ rfl, rfl, rfl, rfl⟩

mutual
def Rep (h : Heap) (P : Addr → Prop) : D → Value → Prop
  | .none, v => v = .none
  | .bool b, v => v = .bool b
  | .int i, v => ∃ t, v = .int i t
  | .bytes b, v => ∃ t, v = .bytes b.toArray t
  | .lst ds, v => ∃ a vs, v = .ref a ∧ P a ∧ PlainL h a (List.toArray vs) ∧ RepAll h P ds vs
  | .tup ds, v => ∃ a vs, v = .ref a ∧ P a ∧ h.IsTuple a (List.toArray vs) ∧ RepAll h P ds vs
  | .rng a b c, v => ∃ r t u w, v = .ref r ∧ P r ∧ IsRange h r a b c t u w
  | .typ t, v => v = .type t
  | .adr a, v => v = .ref a
def RepAll (h : Heap) (P : Addr → Prop) : List D → List Value → Prop
  | [], vs => vs = []
  | d :: ds, vs => ∃ v vs', vs = v :: vs' ∧ Rep h P d v ∧ RepAll h P ds vs'
end

mutual
theorem Rep.mono {h h' : Heap} {P P' : Addr → Prop} (hk : ∀ a o, P a → h.get? a = some o → h'.get? a = some o) (hp : ∀ a, P a → (h.get? a).isSome = true → P' a) :
    ∀ (d : D) (v : Value), Rep h P d v → Rep h' P' d v
  | .none, _, r => r
  | .bool _, _, r => r
  | .int _, _, r => r
  | .bytes _, _, r => r
  | .typ _, _, r => r
  | .adr _, _, r => r
  | .lst ds, _, ⟨a, vs, e, pa, ⟨o, n, ho, r⟩, ra⟩ => ⟨a, vs, e, hp a pa (by rw [ho]; rfl), ⟨o, n, hk a o pa ho, r⟩, RepAll.mono hk hp ds vs ra⟩
  | .tup ds, _, ⟨a, vs, e, pa, ⟨o, ho, r⟩, ra⟩ => ⟨a, vs, e, hp a pa (by rw [ho]; rfl), ⟨o, hk a o pa ho, r⟩, RepAll.mono hk hp ds vs ra⟩
  | .rng _ _ _, _, ⟨r, t, u, w, e, pa, hr⟩ => ⟨r, t, u, w, e, hp r pa (by rw [show h.get? r = _ from hr]; rfl), hk r _ pa hr⟩
theorem RepAll.mono {h h' : Heap} {P P' : Addr → Prop} (hk : ∀ a o, P a → h.get? a = some o → h'.get? a = some o) (hp : ∀ a, P a → (h.get? a).isSome = true → P' a) :
    ∀ (ds : List D) (vs : List Value), RepAll h P ds vs → RepAll h' P' ds vs
  | [], _, r => r
  | d :: ds, _, ⟨v, vs', e, r, ra⟩ => ⟨v, vs', e, Rep.mono hk hp d v r, RepAll.mono hk hp ds vs' ra⟩
end

theorem Rep.ext {h h' : Heap} {P : Addr → Prop} {d : D} {v : Value} (x : Ext h h') (r : Rep h P d v) : Rep h' P d v := Rep.mono (fun a o _ e => x a o e) (fun _ p _ => p) d v r
theorem RepAll.ext {h h' : Heap} {P : Addr → Prop} {ds : List D} {vs : List Value} (x : Ext h h') (r : RepAll h P ds vs) : RepAll h' P ds vs := RepAll.mono (fun a o _ e => x a o e) (fun _ p _ => p) ds vs r
theorem Rep.weak {h : Heap} {P P' : Addr → Prop} {d : D} {v : Value} (hp : ∀ a, P a → P' a) (r : Rep h P d v) : Rep h P' d v := Rep.mono (fun _ _ _ e => e) (fun a p _ => hp a p) d v r
theorem RepAll.weak {h : Heap} {P P' : Addr → Prop} {ds : List D} {vs : List Value} (hp : ∀ a, P a → P' a) (r : RepAll h P ds vs) : RepAll h P' ds vs := RepAll.mono (fun _ _ _ e => e) (fun a p _ => hp a p) ds vs r

theorem RepAll.length {h : Heap} {P : Addr → Prop} : ∀ {ds : List D} {vs : List Value}, RepAll h P ds vs → vs.length = ds.length
  | [], _, r => by cases r; rfl
  | _ :: _, _, ⟨_, _, e, _, ra⟩ => by subst e; simp [RepAll.length ra]
theorem RepAll.append {h : Heap} {P : Addr → Prop} : ∀ {ds es : List D} {vs ws : List Value}, RepAll h P ds vs → RepAll h P es ws → RepAll h P (ds ++ es) (vs ++ ws)
  | [], _, _, _, r, r' => by cases r; exact r'
  | _ :: _, _, _, _, ⟨v, vs', e, r, ra⟩, r' => by subst e; exact ⟨v, _, rfl, r, RepAll.append ra r'⟩
theorem RepAll.get {h : Heap} {P : Addr → Prop} : ∀ {ds : List D} {vs : List Value}, RepAll h P ds vs → ∀ {i : Nat} {v : Value}, vs[i]? = some v → ∃ d, ds[i]? = some d ∧ Rep h P d v
  | [], _, r, i, v, hv => by cases r; simp at hv
  | d :: ds, _, ⟨v, vs', e, r, ra⟩, i, u, hv => by
    subst e
    cases i with
    | zero => simp at hv; subst hv; exact ⟨d, rfl, r⟩
    | succ i => simp at hv; obtain ⟨d', h1, h2⟩ := RepAll.get ra hv; exact ⟨d', by simpa using h1, h2⟩
theorem RepAll.at {h : Heap} {P : Addr → Prop} : ∀ {ds : List D} {vs : List Value}, RepAll h P ds vs → ∀ {i : Nat} {d : D}, ds[i]? = some d → ∃ v, vs[i]? = some v ∧ Rep h P d v
  | [], _, _, i, d, hd => by simp at hd
  | d :: ds, _, ⟨v, vs', e, r, ra⟩, i, u, hd => by
    subst e
    cases i with
    | zero => simp at hd; subst hd; exact ⟨v, rfl, r⟩
    | succ i => simp at hd; obtain ⟨v', h1, h2⟩ := RepAll.at ra hd; exact ⟨v', by simpa using h1, h2⟩
theorem RepAll.of {h : Heap} {P : Addr → Prop} : ∀ {ds : List D} {vs : List Value}, vs.length = ds.length → (∀ (i : Nat) v d, vs[i]? = some v → ds[i]? = some d → Rep h P d v) → RepAll h P ds vs
  | [], [], _, _ => rfl
  | [], _ :: _, e, _ => by simp at e
  | _ :: _, [], e, _ => by simp at e
  | d :: ds, v :: vs, e, k => ⟨v, vs, rfl, k 0 v d rfl rfl, RepAll.of (by simpa using e) fun i u c hu hc => k (i + 1) u c (by simpa using hu) (by simpa using hc)⟩
theorem RepAll.toInts {h : Heap} {P : Addr → Prop} : ∀ {ns : List Int} {vs : List Value}, RepAll h P (ns.map .int) vs → IntsAre vs ns
  | [], _, r => by cases r; exact .nil
  | _ :: _, _, ⟨_, _, e, ⟨t, et⟩, ra⟩ => by subst e; subst et; exact .cons _ _ (RepAll.toInts ra)
theorem RepAll.of_ints {h : Heap} {P : Addr → Prop} : ∀ {ns : List Int} {vs : List Value}, IntsAre vs ns → RepAll h P (ns.map .int) vs := by
  intro ns vs r
  induction r with
  | nil => rfl
  | cons _ _ _ ih => exact ⟨_, _, rfl, ⟨_, rfl⟩, ih⟩

/-! ## The world around -/
structure Cx where
  prog : Program
  w : World
  B : Heap
  mg : Str → Option Value
  mb : Str → Option Value

abbrev Cx.M (c : Cx) : Model := model c.prog c.w

def bnames : List Str := [Str.ofString "len", Str.ofString "sum", Str.ofString "range", Str.ofString "list", Str.ofString "sorted", Str.ofString "bytes", Str.ofString "isinstance", Str.ofString "max", Str.ofString "abs", Str.ofString "int", Str.ofString "divmod"]

structure Cx.Ok (c : Cx) : Prop where
  g : c.B.Ns mainGlobals c.mg
  b : c.B.Ns builtinsNs c.mb
  nolimit : c.B.NoLimit
  builtins : ∀ x : Str, x ≠ "__name__" → c.mb x = bootBuiltins x
  free : ∀ x ∈ bnames, c.mg x = none

structure Room (n : Nat) (A : Around) : Prop where
  handled : A.handled = none
  depth : A.depth + n < recursionLimit
  units : A.units + 16 * n < 9000

theorem Room.deeper {n : Nat} {A : Around} {env : Env} (r : Room (n + 1) A) : Room n (A.deeper env) :=
  ⟨r.handled, by have := r.depth; show A.depth + 1 + n < _; omega, by have := r.units; show A.units + 3 + 16 * n < _; omega⟩

def nk : Option NameKind → Option NameKind
  | some .free => some .cell
  | k => k

/-- what is known of a frame without looking at the heap: its table of names -/
structure EnvS (sc : Scope) (env : Env) : Prop where
  kind : env.scope.kind = .function
  globals : env.globals = mainGlobals
  builtins : env.builtins = builtinsNs
  kinds : ∀ x, nk (env.kindOf x) = nk (sc.names.lookup x)
  nodebug : sc.names.lookup (Str.ofString "__debug__") = none
  noclass : sc.names.lookup (Str.ofString "__classdict__") = none

theorem EnvS.local {sc : Scope} {env : Env} (e : EnvS sc env) {x : Str} (h : sc.names.lookup x = some .local) : env.kindOf x = some .local := by
  have k := e.kinds x
  rw [h] at k
  cases hk : env.kindOf x with
  | none => rw [hk] at k; cases k
  | some y => rw [hk] at k; cases y <;> first | rfl | cases k
theorem EnvS.global {sc : Scope} {env : Env} (e : EnvS sc env) {x : Str} (h : sc.names.lookup x = some .globalImplicit) : env.kindOf x = some .globalImplicit := by
  have k := e.kinds x
  rw [h] at k
  cases hk : env.kindOf x with
  | none => rw [hk] at k; cases k
  | some y => rw [hk] at k; cases y <;> first | rfl | cases k
theorem EnvS.cellish {sc : Scope} {env : Env} (e : EnvS sc env) {x : Str} (h : nk (sc.names.lookup x) = some .cell) : env.kindOf x = some .cell ∨ env.kindOf x = some .free := by
  have k := e.kinds x
  rw [h] at k
  cases hk : env.kindOf x with
  | none => rw [hk] at k; cases k
  | some y => rw [hk] at k; cases y <;> first | exact .inl rfl | exact .inr rfl | cases k

def Look (h : Heap) (env : Env) (x : Str) (v : Value) : Prop :=
  (env.kindOf x = some .local ∧ ∃ m, h.Ns env.locals m ∧ m x = some v) ∨
  ((env.kindOf x = some .cell ∨ env.kindOf x = some .free) ∧ ∃ a, env.cells.lookup x = some a ∧ h.IsCell a (some v))

theorem Look.ext {h h' : Heap} {env : Env} {x : Str} {v : Value} (e : Ext h h') : Look h env x v → Look h' env x v
  | .inl ⟨k, m, hn, hm⟩ => .inl ⟨k, m, hn.keeps e, hm⟩
  | .inr ⟨k, a, hc, hv⟩ => .inr ⟨k, a, hc, hv.keeps e⟩

def Up (P : Addr → Prop) (h : Heap) : Prop := ∀ a, h.get? a = none → P a
theorem Up.ext {P : Addr → Prop} {h h' : Heap} (u : Up P h) (e : Ext h h') : Up P h' := fun a ha => u a (by
  cases q : h.get? a with
  | none => rfl
  | some o => rw [e a o q] at ha; cases ha)

structure Kn (c : Cx) (P : Addr → Prop) (sc : Scope) (env : Env) (ρ : List (Str × D)) (h : Heap) : Prop where
  ok : c.Ok
  es : EnvS sc env
  base : Ext c.B h
  up : Up P h
  names : ∀ x d, (x, d) ∈ ρ → ∃ v, Look h env x v ∧ Rep h P d v

theorem Kn.ext {c : Cx} {P : Addr → Prop} {sc : Scope} {env : Env} {ρ : List (Str × D)} {h h' : Heap} (I : Kn c P sc env ρ h) (g : Ext h h') : Kn c P sc env ρ h' :=
  ⟨I.ok, I.es, I.base.trans g, I.up.ext g, fun x d hx => let ⟨v, l, r⟩ := I.names x d hx; ⟨v, l.ext g, r.ext g⟩⟩
theorem Kn.sub {c : Cx} {P : Addr → Prop} {sc : Scope} {env : Env} {ρ ρ' : List (Str × D)} {h : Heap} (I : Kn c P sc env ρ h) (g : ∀ p ∈ ρ', p ∈ ρ) : Kn c P sc env ρ' h :=
  ⟨I.ok, I.es, I.base, I.up, fun x d hx => I.names x d (g _ hx)⟩

/-! ## Expressions -/
structure Ev (c : Cx) (n : Nat) (sc : Scope) (ρ : List (Str × D)) (e : Expr) (d : D) : Prop where
  run : ∀ (A : Around) (P : Addr → Prop) (env : Env) (s : Shared) (Q : Value → Shared → Prop) (E : Value → Shared → Prop), Room n A → Kn c P sc env ρ s.heap →
    (∀ v h' tk, Ext s.heap h' → Rep h' P d v → Q v { s with heap := h', toks := tk }) → wpAny c.M A (eval e env) Q E s

/-- a test -/
structure Tr (c : Cx) (n : Nat) (sc : Scope) (ρ : List (Str × D)) (e : Expr) (b : Bool) : Prop where
  run : ∀ (A : Around) (P : Addr → Prop) (env : Env) (s : Shared) (Q : Bool → Shared → Prop) (E : Value → Shared → Prop), Room n A → Kn c P sc env ρ s.heap →
    (∀ h' tk, Ext s.heap h' → Q b { s with heap := h', toks := tk }) → wpAny c.M A (isTrue e env (eval e env)) Q E s

/-- arguments, items of a display -/
def EvAll (c : Cx) (n : Nat) (sc : Scope) (ρ : List (Str × D)) (es : List Expr) (ds : List D) : Prop :=
  (∀ env, starEach es env = es.map fun e => (false, eval e env)) ∧
  ∀ (A : Around) (P : Addr → Prop) (env : Env) (pos : Pos) (s : Shared) (Q : List Value → Shared → Prop) (E : Value → Shared → Prop), Room n A → Kn c P sc env ρ s.heap →
    (∀ vs h' tk, Ext s.heap h' → RepAll h' P ds vs → Q vs { s with heap := h', toks := tk }) → wpAny c.M A (spliced (backTo pos (starEach es env))) Q E s

section
variable {c : Cx} {n : Nat} {sc : Scope} {ρ : List (Str × D)}

theorem Ev.cast {e : Expr} {d d' : D} (h : Ev c n sc ρ e d) (q : d = d') : Ev c n sc ρ e d' := q ▸ h
theorem Tr.cast {e : Expr} {d d' : Bool} (h : Tr c n sc ρ e d) (q : d = d') : Tr c n sc ρ e d' := q ▸ h
theorem Ev.sub {e : Expr} {d : D} {ρ' : List (Str × D)} (h : Ev c n sc ρ e d) (q : ∀ p ∈ ρ, p ∈ ρ') : Ev c n sc ρ' e d :=
  ⟨fun A P env s Q E R I K => h.run A P env s Q E R (I.sub q) K⟩

theorem Ev.cint {i : Int} {k : Nat} {pos : Pos} : Ev c n sc ρ (.Constant (.int i) k pos) (.int i) :=
  ⟨fun _ _ _ _ _ _ _ _ K => wpAny_Constant_int (K _ _ _ (.refl _) ⟨_, rfl⟩)⟩
theorem Ev.cbytes {b : List UInt8} {k : Nat} {pos : Pos} : Ev c n sc ρ (.Constant (.bytes b) k pos) (.bytes b) :=
  ⟨fun _ _ _ _ _ _ _ _ K => Constant_bytes (K _ _ _ (.refl _) ⟨_, rfl⟩)⟩
theorem Ev.cnone {k : Nat} {pos : Pos} : Ev c n sc ρ (.Constant .none k pos) .none :=
  ⟨fun _ _ _ _ _ _ _ _ K => wpAny_Constant_none (K _ _ _ (.refl _) rfl)⟩
theorem Ev.cbool {b : Bool} {k : Nat} {pos : Pos} : Ev c n sc ρ (.Constant (.bool b) k pos) (.bool b) :=
  ⟨fun _ _ _ _ _ _ _ _ K => wpAny_Constant_bool (K _ _ _ (.refl _) rfl)⟩

theorem Kn.load {A : Around} {P : Addr → Prop} {env : Env} {s : Shared} {Q : Value → Shared → Prop} {E : Value → Shared → Prop} (I : Kn c P sc env ρ s.heap) {x : Str} {v : Value} (l : Look s.heap env x v) (K : Q v s) : wpAny c.M A (loadName env x) Q E s := by
  rcases l with ⟨k, m, hn, hm⟩ | ⟨k | k, a, hc, hv⟩
  · exact wpAny_loadName_local I.es.kind k hn hm K
  · exact wpAny_loadName_cell I.es.kind k hc hv K
  · refine wpAny_loadName_free I.es.kind k hc hv K ?_
    refine beq_eq_false_iff_ne.mpr fun q => ?_
    have h1 := I.es.kinds x
    rw [k, q, I.es.noclass] at h1
    cases h1
theorem Kn.notDebug {P : Addr → Prop} {env : Env} {h : Heap} (I : Kn c P sc env ρ h) {x : Str} {v : Value} (l : Look h env x v) : (x == Str.ofString "__debug__") = false := by
  refine beq_eq_false_iff_ne.mpr fun q => ?_
  have h1 := I.es.kinds x
  rw [q, I.es.nodebug] at h1
  subst q
  rcases l with ⟨k, _⟩ | ⟨k | k, _⟩ <;> rw [k] at h1 <;> cases h1

theorem Ev.name {x : Str} {pos : Pos} {d : D} (hm : (x, d) ∈ ρ) : Ev c n sc ρ (.Name x pos) d := by
  refine ⟨fun A P env s Q E R I K => ?_⟩
  obtain ⟨v, l, r⟩ := I.names x d hm
  exact wpAny_Name (I.load l (K v _ _ (.refl _) r)) (I.notDebug l)

theorem EvAll.nil : EvAll c n sc ρ [] [] := ⟨fun _ => rfl, fun _ _ _ _ _ _ _ _ _ K => wpAny_items_nil (K [] _ _ (.refl _) rfl)⟩
theorem EvAll.cons {e : Expr} {es : List Expr} {d : D} {ds : List D} (h : Ev c n sc ρ e d) (t : EvAll c n sc ρ es ds)
    (he : ∀ env, starEach (e :: es) env = (false, eval e env) :: starEach es env := by intro _; rfl) : EvAll c n sc ρ (e :: es) (d :: ds) := by
  refine ⟨fun env => by rw [he, t.1]; rfl, ?_⟩
  intro A P env pos s Q E R I K
  refine wpAny_items_cons (h.run A P env s _ E R I fun v h' tk x r => ?_) (he env)
  exact t.2 A P env pos _ _ E R (I.ext x) fun vs h'' tk' x' r' => K (v :: vs) h'' tk' (x.trans x') ⟨v, vs, rfl, r.ext x', r'⟩

theorem Ev.list {es : List Expr} {pos : Pos} {ds : List D} (h : EvAll c n sc ρ es ds) (hz : ds.length ≤ 16777216 := by decide) : Ev c n sc ρ (.List es pos) (.lst ds) := by
  refine ⟨fun A P env s Q E R I K => ?_⟩
  refine wpAny_List (h.2 A P env pos s _ E R I fun vs h' tk x r => ⟨by rw [r.length, sizeLine_eq]; exact hz, ?_⟩)
  refine K _ _ _ (x.trans (.push _ _)) ⟨_, vs, rfl, (I.up.ext x) _ (get_size _), ?_, r.ext (.push _ _)⟩
  exact plainL_new _ _
theorem Ev.tuple {es : List Expr} {k : Nat} {pos : Pos} {ds : List D} (h : EvAll c n sc ρ es ds) (hz : ds.length ≤ 16777216 := by decide) : Ev c n sc ρ (.Tuple es k pos) (.tup ds) := by
  refine ⟨fun A P env s Q E R I K => ?_⟩
  refine wpAny_Tuple (h.2 A P env pos s _ E R I fun vs h' tk x r => ⟨by rw [r.length, sizeLine_eq]; exact hz, ?_⟩)
  refine K _ _ _ (x.trans (.push _ _)) ⟨_, vs, rfl, (I.up.ext x) _ (get_size _), ?_, r.ext (.push _ _)⟩
  exact ⟨_, Heap.get?_push_size _ rfl, rfl, 0, rfl⟩

/-- the state at a primitive step -/
structure Hp (c : Cx) (n : Nat) (A : Around) (P : Addr → Prop) (s : Shared) : Prop where
  room : Room n A
  ok : c.Ok
  base : Ext c.B s.heap
  up : Up P s.heap
theorem Kn.hp {A : Around} {P : Addr → Prop} {env : Env} {s : Shared} (I : Kn c P sc env ρ s.heap) (R : Room n A) : Hp c n A P s := ⟨R, I.ok, I.base, I.up⟩

def BinR (c : Cx) (n : Nat) (op : Operator) (d1 d2 d : D) : Prop :=
  ∀ (A : Around) (P : Addr → Prop) (s : Shared) (Q : Value → Shared → Prop) (E : Value → Shared → Prop) (v1 v2 : Value), Hp c n A P s → Rep s.heap P d1 v1 → Rep s.heap P d2 v2 →
    (∀ v h' tk, Ext s.heap h' → Rep h' P d v → Q v { s with heap := h', toks := tk }) → wpAny c.M A (binaryOp op v1 v2) Q E s
def CmpR (c : Cx) (n : Nat) (op : CmpOp) (d1 d2 : D) (b : Bool) : Prop :=
  ∀ (A : Around) (P : Addr → Prop) (s : Shared) (Q : Value → Shared → Prop) (E : Value → Shared → Prop) (v1 v2 : Value), Hp c n A P s → Rep s.heap P d1 v1 → Rep s.heap P d2 v2 →
    (∀ h' tk, Ext s.heap h' → Q (.bool b) { s with heap := h', toks := tk }) → wpAny c.M A (compareOp op v1 v2) Q E s
def UnR (c : Cx) (n : Nat) (op : UnaryOp) (d1 d : D) : Prop :=
  ∀ (A : Around) (P : Addr → Prop) (s : Shared) (Q : Value → Shared → Prop) (E : Value → Shared → Prop) (v1 : Value), Hp c n A P s → Rep s.heap P d1 v1 →
    (∀ v h' tk, Ext s.heap h' → Rep h' P d v → Q v { s with heap := h', toks := tk }) → wpAny c.M A (unaryOp op v1) Q E s
def TruR (c : Cx) (n : Nat) (d1 : D) (b : Bool) : Prop :=
  ∀ (A : Around) (P : Addr → Prop) (s : Shared) (Q : Bool → Shared → Prop) (E : Value → Shared → Prop) (v1 : Value), Hp c n A P s → Rep s.heap P d1 v1 →
    (∀ h' tk, Ext s.heap h' → Q b { s with heap := h', toks := tk }) → wpAny c.M A (truthy v1) Q E s

theorem Ev.bin {l r : Expr} {op : Operator} {pos : Pos} {d1 d2 d : D} (h1 : Ev c n sc ρ l d1) (h2 : Ev c n sc ρ r d2) (b : BinR c n op d1 d2 d) : Ev c n sc ρ (.BinOp l op r pos) d := by
  refine ⟨fun A P env s Q E R I K => ?_⟩
  refine wpAny_BinOp (h1.run A P env s _ E R I fun v1 h' tk x r1 => h2.run A P env _ _ E R (I.ext x) fun v2 h'' tk' x' r2 => ?_)
  exact b A P _ Q E v1 v2 (((I.ext x).ext x').hp (s := { s with heap := h'', toks := tk' }) R) (r1.ext x') r2 fun v h3 tk3 x3 r3 => K v h3 tk3 ((x.trans x').trans x3) r3
theorem Ev.cmp {l r : Expr} {op : CmpOp} {pos : Pos} {d1 d2 : D} {b : Bool} (h1 : Ev c n sc ρ l d1) (h2 : Ev c n sc ρ r d2) (q : CmpR c n op d1 d2 b) (hm : behindInMarks op r = false := by with_unfolding_all rfl) : Ev c n sc ρ (.Compare l [op] [r] pos) (.bool b) := by
  refine ⟨fun A P env s Q E R I K => ?_⟩
  refine wpAny_Compare1 (h1.run A P env s _ E R I fun v1 h' tk x r1 => h2.run A P env _ _ E R (I.ext x) fun v2 h'' tk' x' r2 => ?_) hm
  exact q A P _ Q E v1 v2 (((I.ext x).ext x').hp (s := { s with heap := h'', toks := tk' }) R) (r1.ext x') r2 fun h3 tk3 x3 => K _ h3 tk3 ((x.trans x').trans x3) rfl
theorem Ev.un {x : Expr} {op : UnaryOp} {pos : Pos} {d1 d : D} (h1 : Ev c n sc ρ x d1) (q : UnR c n op d1 d) : Ev c n sc ρ (.UnaryOp op x pos) d := by
  refine ⟨fun A P env s Q E R I K => ?_⟩
  exact wpAny_UnaryOp (h1.run A P env s _ E R I fun v1 h' tk x r1 => q A P _ Q E v1 ((I.ext x).hp (s := { s with heap := h', toks := tk }) R) r1 fun v h3 tk3 x3 r3 => K v h3 tk3 (x.trans x3) r3)

theorem Tr.cmp {l r : Expr} {op : CmpOp} {pos : Pos} {d1 d2 : D} {b : Bool} (h1 : Ev c n sc ρ l d1) (h2 : Ev c n sc ρ r d2) (q : CmpR c n op d1 d2 b) (hm : behindInMarks op r = false := by with_unfolding_all rfl) : Tr c n sc ρ (.Compare l [op] [r] pos) b := by
  refine ⟨fun A P env s Q E R I K => ?_⟩
  refine wpAny_isTrue_Compare1 (h1.run A P env s _ E R I fun v1 h' tk x r1 => h2.run A P env _ _ E R (I.ext x) fun v2 h'' tk' x' r2 => ?_) hm
  exact q A P _ _ E v1 v2 (((I.ext x).ext x').hp (s := { s with heap := h'', toks := tk' }) R) (r1.ext x') r2 fun h3 tk3 x3 => wpAny_truthy_bool (K h3 tk3 ((x.trans x').trans x3))
theorem Tr.val {e : Expr} {d : D} {b : Bool} (h1 : Ev c n sc ρ e d) (q : TruR c n d b)
    (he : ∀ env whole, isTrue e env whole = (do let v ← whole; standAt e.pos; holding [v] (truthy v)) := by intro _ _; rfl) : Tr c n sc ρ e b := by
  refine ⟨fun A P env s Q E R I K => ?_⟩
  exact wpAny_isTrue_value (h1.run A P env s _ E R I fun v1 h' tk x r1 => q A P _ Q E v1 ((I.ext x).hp (s := { s with heap := h', toks := tk }) R) r1 fun h3 tk3 x3 => K h3 tk3 (x.trans x3)) (he env _)
theorem Tr.not {e : Expr} {pos : Pos} {b : Bool} (h : Tr c n sc ρ e b) : Tr c n sc ρ (.UnaryOp .Not e pos) (!b) := by
  refine ⟨fun A P env s Q E R I K => ?_⟩
  exact wpAny_isTrue_Not (h.run A P env s _ E R I fun h' tk x => K h' tk x)

/-- the tests of an or, of an and -/
structure TrAll (c : Cx) (n : Nat) (sc : Scope) (ρ : List (Str × D)) (op : BoolOp) (es : List Expr) (b : Bool) : Prop where
  run : ∀ (A : Around) (P : Addr → Prop) (env : Env) (s : Shared) (Q : Bool → Shared → Prop) (E : Value → Shared → Prop), Room n A → Kn c P sc env ρ s.heap →
    (∀ h' tk, Ext s.heap h' → Q b { s with heap := h', toks := tk }) → wpAny c.M A (allTrue op es env) Q E s
theorem TrAll.or_nil : TrAll c n sc ρ .Or [] false := ⟨fun _ _ _ _ _ _ _ _ K => wpAny_allTrue_Or_nil (K _ _ (.refl _))⟩
theorem TrAll.and_nil : TrAll c n sc ρ .And [] true := ⟨fun _ _ _ _ _ _ _ _ K => wpAny_allTrue_And_nil (K _ _ (.refl _))⟩
theorem TrAll.or_cons {e : Expr} {es : List Expr} {b b' : Bool} (h : Tr c n sc ρ e b) (t : b = false → TrAll c n sc ρ .Or es b') : TrAll c n sc ρ .Or (e :: es) (b || b') := by
  refine ⟨fun A P env s Q E R I K => ?_⟩
  refine wpAny_allTrue_Or_cons (h.run A P env s _ E R I fun h' tk x => ?_)
  cases b with
  | true => exact K h' tk x
  | false => exact (t rfl).run A P env _ _ E R (I.ext x) fun h'' tk' x' => K h'' tk' (x.trans x')
theorem TrAll.and_cons {e : Expr} {es : List Expr} {b b' : Bool} (h : Tr c n sc ρ e b) (t : b = true → TrAll c n sc ρ .And es b') : TrAll c n sc ρ .And (e :: es) (b && b') := by
  refine ⟨fun A P env s Q E R I K => ?_⟩
  refine wpAny_allTrue_And_cons (h.run A P env s _ E R I fun h' tk x => ?_)
  cases b with
  | false => exact K h' tk x
  | true => exact (t rfl).run A P env _ _ E R (I.ext x) fun h'' tk' x' => K h'' tk' (x.trans x')
theorem Tr.boolop {op : BoolOp} {es : List Expr} {pos : Pos} {b : Bool} (h : TrAll c n sc ρ op es b) : Tr c n sc ρ (.BoolOp op es pos) b := by
  refine ⟨fun A P env s Q E R I K => ?_⟩
  exact wpAny_isTrue_BoolOp (h.run A P env s _ E R I K)

/-- bools joined by and, as a value -/
def EvAnd (c : Cx) (n : Nat) (sc : Scope) (ρ : List (Str × D)) (es : List Expr) (b : Bool) : Prop :=
  ∀ (A : Around) (P : Addr → Prop) (env : Env) (pos : Pos) (s : Shared) (Q : Value → Shared → Prop) (E : Value → Shared → Prop), Room n A → Kn c P sc env ρ s.heap →
    (∀ h' tk, Ext s.heap h' → Q (.bool b) { s with heap := h', toks := tk }) → wpAny c.M A (boolOp pos .And (evalEach es env)) Q E s
theorem EvAnd.one {e : Expr} {b : Bool} (h : Ev c n sc ρ e (.bool b)) : EvAnd c n sc ρ [e] b := by
  intro A P env pos s Q E R I K
  exact h.run A P env s Q E R I fun v h' tk x r => by cases r; exact K h' tk x
theorem EvAnd.cons {e e' : Expr} {es : List Expr} {b b' : Bool} (h : Ev c n sc ρ e (.bool b)) (t : b = true → EvAnd c n sc ρ (e' :: es) b') : EvAnd c n sc ρ (e :: e' :: es) (b && b') := by
  intro A P env pos s Q E R I K
  show wpAny c.M A (do
    let v ← eval e env
    standAt pos
    let t ← holding [v] (truthy v)
    match BoolOp.And, t with
    | .And, false | .Or, true => pure v
    | _, _ => boolOp pos .And (evalEach (e' :: es) env)) Q E s
  refine wpAny_bind (h.run A P env s _ E R I fun v h' tk x r => ?_)
  cases r
  refine wpAny_bind (wpAny_standAt (wpAny_bind (wpAny_holding (wpAny_truthy_bool ?_))))
  cases b with
  | false => exact wpAny_pure (K h' tk x)
  | true => exact (t rfl) A P env pos _ _ E R (I.ext x) fun h'' tk' x' => K h'' tk' (x.trans x')
theorem Ev.and {es : List Expr} {pos : Pos} {b : Bool} (h : EvAnd c n sc ρ es b) : Ev c n sc ρ (.BoolOp .And es pos) (.bool b) := by
  refine ⟨fun A P env s Q E R I K => ?_⟩
  show wpAny c.M A (boolOp pos .And (evalEach es env)) Q E s
  exact h A P env pos s Q E R I fun h' tk x => K _ h' tk x rfl

theorem Ev.ite {t e1 e2 : Expr} {pos : Pos} {b : Bool} {d : D} (ht : Tr c n sc ρ t b) (h1 : b = true → Ev c n sc ρ e1 d) (h2 : b = false → Ev c n sc ρ e2 d) : Ev c n sc ρ (.IfExp t e1 e2 pos) d := by
  refine ⟨fun A P env s Q E R I K => ?_⟩
  refine wpAny_IfExp (ht.run A P env s _ E R I fun h' tk x => ?_)
  cases b with
  | true => exact (h1 rfl).run A P env _ _ E R (I.ext x) fun v h'' tk' x' r => K v h'' tk' (x.trans x') r
  | false => exact (h2 rfl).run A P env _ _ E R (I.ext x) fun v h'' tk' x' r => K v h'' tk' (x.trans x') r

/-! ### numbers -/
theorem BinR.add {a b : Int} : BinR c n .Add (.int a) (.int b) (.int (a + b)) := by
  rintro A P s Q E _ _ H ⟨t, rfl⟩ ⟨u, rfl⟩ K; exact add_int (K _ _ _ (.refl _) ⟨_, rfl⟩)
theorem BinR.sub {a b : Int} : BinR c n .Sub (.int a) (.int b) (.int (a - b)) := by
  rintro A P s Q E _ _ H ⟨t, rfl⟩ ⟨u, rfl⟩ K; exact sub_int (K _ _ _ (.refl _) ⟨_, rfl⟩)
theorem BinR.mul {a b : Int} (h1 : -18446744073709551616 < a) (h2 : a < 18446744073709551616) : BinR c n .Mult (.int a) (.int b) (.int (a * b)) := by
  rintro A P s Q E _ _ H ⟨t, rfl⟩ ⟨u, rfl⟩ K; exact PyProof.Rows.mul_int (K _ _ _ (.refl _) ⟨_, rfl⟩) (.of_left (intBits_le_64 h1 h2))
theorem BinR.mod {a b : Int} (hb : 0 < b) : BinR c n .Mod (.int a) (.int b) (.int (a % b)) := by
  rintro A P s Q E _ _ H ⟨t, rfl⟩ ⟨u, rfl⟩ K
  exact PyProof.Rows.mod_int (by omega) (K _ _ _ (.refl _) ⟨_, by rw [Int.fmod_eq_emod_of_nonneg _ (Int.le_of_lt hb)]⟩)
theorem BinR.pow {a b : Int} (hn : 0 ≤ b) (hn' : b ≤ 1000) (ha : Builtin.Int.intBits a ≤ 64 := by decide) : BinR c n .Pow (.int a) (.int b) (.int (a ^ b.toNat)) := by
  rintro A P s Q E _ _ H ⟨t, rfl⟩ ⟨u, rfl⟩ K
  refine pow_int hn ?_ (K _ _ _ (.refl _) ⟨_, rfl⟩)
  have h1 : (Builtin.Int.intBits a : Int) * b ≤ 64 * 1000 := Int.mul_le_mul (by omega) hn' hn (by decide)
  omega
theorem BinR.xor {a b : Int} : BinR c n .BitXor (.int a) (.int b) (.int (Builtin.bitXor a b)) := by
  rintro A P s Q E _ _ H ⟨t, rfl⟩ ⟨u, rfl⟩ K; exact xor_int (K _ _ _ (.refl _) ⟨_, rfl⟩)
theorem BinR.fdiv {a b : Int} (hb : 0 < b) (hb' : b < 1073741824 ∨ b.natAbs.log2 < 9000) : BinR c n .FloorDiv (.int a) (.int b) (.int (a / b)) := by
  rintro A P s Q E _ _ H ⟨t, rfl⟩ ⟨u, rfl⟩ K
  refine floordiv_int (by omega) (K _ _ _ (.refl _) ⟨_, by rw [Int.fdiv_eq_ediv_of_nonneg _ (Int.le_of_lt hb)]⟩) (.inl ?_)
  rcases hb' with h | h
  · exact PyProof.noPylong_small (by omega)
  · exact PyProof.noPylong_of_log2 h
theorem UnR.neg {a : Int} : UnR c n .USub (.int a) (.int (-a)) := by
  rintro A P s Q E _ H ⟨t, rfl⟩ K; exact PyProof.Rows.neg_int (K _ _ _ (.refl _) ⟨_, rfl⟩)

theorem CmpR.eq {a b : Int} : CmpR c n .Eq (.int a) (.int b) (a == b) := by
  rintro A P s Q E _ _ H ⟨t, rfl⟩ ⟨u, rfl⟩ K; exact PyProof.Rows.eq_int (K _ _ (.refl _))
theorem CmpR.ne {a b : Int} : CmpR c n .NotEq (.int a) (.int b) (a != b) := by
  rintro A P s Q E _ _ H ⟨t, rfl⟩ ⟨u, rfl⟩ K; exact PyProof.Rows.ne_int (K _ _ (.refl _))
theorem CmpR.lt {a b : Int} : CmpR c n .Lt (.int a) (.int b) (decide (a < b)) := by
  rintro A P s Q E _ _ H ⟨t, rfl⟩ ⟨u, rfl⟩ K; exact PyProof.Rows.lt_int (K _ _ (.refl _))
theorem CmpR.gt {a b : Int} : CmpR c n .Gt (.int a) (.int b) (decide (b < a)) := by
  rintro A P s Q E _ _ H ⟨t, rfl⟩ ⟨u, rfl⟩ K; exact PyProof.Rows.gt_int (K _ _ (.refl _))
theorem CmpR.le {a b : Int} : CmpR c n .LtE (.int a) (.int b) (decide (a ≤ b)) := by
  rintro A P s Q E _ _ H ⟨t, rfl⟩ ⟨u, rfl⟩ K; exact PyProof.Rows.le_int (K _ _ (.refl _))
theorem CmpR.ge {a b : Int} : CmpR c n .GtE (.int a) (.int b) (decide (b ≤ a)) := by
  rintro A P s Q E _ _ H ⟨t, rfl⟩ ⟨u, rfl⟩ K; exact PyProof.Rows.ge_int (K _ _ (.refl _))
theorem TruR.bool {b : Bool} : TruR c n (.bool b) b := by
  rintro A P s Q E _ H r K; cases r; exact wpAny_truthy_bool (K _ _ (.refl _))
end

end Mine

/-! part C2 -/
namespace Mine

section
variable {c : Cx} {n : Nat} {sc : Scope} {ρ : List (Str × D)}

/-- what a call of the value fv gives -/
def CallR (c : Cx) (n : Nat) (fv : Value) (ds : List D) (d : D) : Prop :=
  ∀ (A : Around) (P : Addr → Prop) (s : Shared) (Q : Value → Shared → Prop) (E : Value → Shared → Prop) (vs : List Value), Hp c n A P s → RepAll s.heap P ds vs →
    (∀ v h' tk, Ext s.heap h' → Rep h' P d v → Q v { s with heap := h', toks := tk }) → wpAny c.M A (call fv vs) Q E s

structure FnAt (c : Cx) (f : Str) (a : Addr) (fd : FuncData) : Prop where
  g : c.mg f = some (.ref a)
  o : ∃ o, c.B.get? a = some o ∧ o.data = .func fd

theorem backTo_plain (pos : Pos) (es : List Expr) (env : Env) : backTo pos (es.map fun e => (false, eval e env)) = es.map fun e => (false, eval e env) := by
  unfold backTo
  rw [List.map_map]
  exact List.map_congr_left fun e _ => rfl
theorem plain_any (es : List Expr) (env : Env) : (es.map fun e => ((false, eval e env) : Bool × Sem Value)).any (·.1) = false := by
  induction es with
  | nil => rfl
  | cons e es ih => simp only [List.map_cons, List.any_cons, ih]; rfl

theorem evalArgs_all {A : Around} {E : Value → Shared → Prop} {s : Shared} {f : Value} {es : List Expr} {env : Env} {Q : Args → Shared → Prop}
    (h : wpAny c.M A (spliced (es.map fun e => (false, eval e env))) (fun vs s' => Q ⟨vs, []⟩ s') E s) : wpAny c.M A (evalArgs f true (es.map fun e => (false, eval e env)) []) Q E s := by
  cases es with
  | nil => exact fun Γ p i => PySem.evalArgs_none (show Q ⟨[], []⟩ s from h Γ p i) Γ p i
  | cons e es => exact Calls.evalArgs_plain h

theorem Kn.notDebug' {P : Addr → Prop} {env : Env} {h : Heap} (I : Kn c P sc env ρ h) {x : Str} {k : NameKind} (l : sc.names.lookup x = some k) : (x == Str.ofString "__debug__") = false := by
  refine beq_eq_false_iff_ne.mpr fun q => ?_
  rw [q, I.es.nodebug] at l
  cases l

theorem Ev.call {f : Str} {fp pos : Pos} {args : List Expr} {ds : List D} {d : D} {a : Addr} {fd : FuncData} (hk : sc.names.lookup f = some .globalImplicit) (ha : EvAll c n sc ρ args ds)
    (hf : FnAt c f a fd) (hr : CallR c n (.ref a) ds d) : Ev c n sc ρ (.Call (.Name f fp) args [] pos) d := by
  refine ⟨fun A P env s Q E R I K => ?_⟩
  refine Call_ ?_
  have hg : s.heap.Ns env.globals c.mg := by rw [I.es.globals]; exact I.ok.g.keeps I.base
  refine Calls.Name_function_global I.es.kind (I.es.global hk) (Calls.loadGlobal_global hg hf.g ?_) (I.notDebug' hk)
  obtain ⟨o, ho, hd⟩ := hf.o
  have h2 := ha.2 A P env pos s
  rw [ha.1, backTo_plain] at h2 ⊢
  refine Calls.callWith_function (o := o) (fd := fd) (evalArgs_all (h2 _ E R I fun vs h' tk x r => ⟨⟨x _ _ (I.base _ _ ho), hd⟩, ?_⟩))
  rw [List.nil_append]
  exact hr A P _ Q E vs ((I.ext x).hp (s := { s with heap := h', toks := tk }) R) r fun v h'' tk' x' r' => K v h'' tk' (x.trans x') r'

def IsB : Value → Prop
  | .builtin _ => True
  | .type _ => True
  | _ => False

theorem Ev.callB {f : Str} {fv : Value} {fp pos : Pos} {args : List Expr} {ds : List D} {d : D} (hk : sc.names.lookup f = some .globalImplicit) (ha : EvAll c n sc ρ args ds)
    (hm : f ∈ bnames) (hb : bootBuiltins f = some fv) (hv : IsB fv) (hr : CallR c n fv ds d) (hn : f ≠ Str.ofString "__name__" := by decide) : Ev c n sc ρ (.Call (.Name f fp) args [] pos) d := by
  refine ⟨fun A P env s Q E R I K => ?_⟩
  refine Call_ ?_
  have hg : s.heap.Ns env.globals c.mg := by rw [I.es.globals]; exact I.ok.g.keeps I.base
  have hbn : s.heap.Ns env.builtins c.mb := by rw [I.es.builtins]; exact I.ok.b.keeps I.base
  refine Calls.Name_function_global I.es.kind (I.es.global hk) (Calls.loadGlobal_builtin hg (I.ok.free f hm) hbn ((I.ok.builtins f hn).trans hb) ?_) (I.notDebug' hk)
  have h2 := ha.2 A P env pos s
  rw [ha.1, backTo_plain] at h2 ⊢
  have h3 : ∀ (T : Value → List Value → Prop), (∀ vs h' tk, Ext s.heap h' → RepAll h' P ds vs → wpAny c.M A (PySem.call fv vs) Q E { s with heap := h', toks := tk }) := fun _ vs h' tk x r =>
    hr A P _ Q E vs ((I.ext x).hp (s := { s with heap := h', toks := tk }) R) r fun v h'' tk' x' r' => K v h'' tk' (x.trans x') r'
  cases fv with
  | builtin id => exact Calls.callWith_builtin (plain_any args env) (evalArgs_all (h2 _ E R I fun vs h' tk x r => h3 (fun _ _ => True) vs h' tk x r))
  | type T => exact PyProof.Rows.callWith_type (plain_any args env) (evalArgs_all (h2 _ E R I fun vs h' tk x r => h3 (fun _ _ => True) vs h' tk x r))
  | _ => exact hv.elim
end

end Mine

/-! part C3 -/
namespace Mine

/-! ## Statements -/
structure Sg where
  ρ : List (Str × D)
  own : Option (Str × List D)

def Sg.all (σ : Sg) : List (Str × D) := match σ.own with
  | none => σ.ρ
  | some (x, ds) => (x, .lst ds) :: σ.ρ

def OwnIs (K : Addr → Obj → Prop) (P : Addr → Prop) (env : Env) (h : Heap) : Option (Str × List D) → Prop
  | none => True
  | some (x, ds) => ∃ a vs, Look h env x (.ref a) ∧ PlainL h a (List.toArray vs) ∧ (∀ o, ¬ K a o) ∧ ¬ P a ∧ RepAll h P ds vs

/-- cells that are not the frame's own are kept -/
def FreeC (sc : Scope) (env : Env) (K : Addr → Obj → Prop) : Prop := ∀ x a, sc.names.lookup x ≠ some .cell → env.cells.lookup x = some a → ∃ o, K a o
def Apart (sc : Scope) (cs : List (Str × Addr)) : Prop := ∀ x y a, sc.names.lookup x = some .cell → cs.lookup x = some a → cs.lookup y = some a → x = y

structure Fl (c : Cx) (P₀ P : Addr → Prop) (sc : Scope) (env : Env) (K : Addr → Obj → Prop) (σ : Sg) (h : Heap) : Prop where
  kn : Kn c P sc env σ.ρ h
  keep : ∀ a o, K a o → h.get? a = some o
  baseK : ∀ a o, c.B.get? a = some o → K a o
  sub : ∀ a, P a → P₀ a
  up0 : ∀ a, (∀ o, ¬ K a o) → P₀ a
  loc : ∃ m, h.Ns env.locals m
  locK : ∀ o, ¬ K env.locals o
  locP : ¬ P env.locals
  cell : ∀ x a, env.cells.lookup x = some a → ∃ v, h.IsCell a v
  ownc : ∀ x a, sc.names.lookup x = some .cell → env.cells.lookup x = some a → (∀ o, ¬ K a o) ∧ ¬ P a
  freec : FreeC sc env K
  apart : Apart sc env.cells
  cls : ∀ x, sc.names.lookup x = some .cell → env.kindOf x = some .cell ∧ (env.cells.lookup x).isSome = true
  own : OwnIs K P env h σ.own

section
variable {c : Cx} {n : Nat} {sc : Scope} {P₀ P : Addr → Prop} {env : Env} {K : Addr → Obj → Prop} {σ σ' : Sg} {h h' : Heap}

theorem OwnIs.ext {x : Option (Str × List D)} (e : Ext h h') (o : OwnIs K P env h x) : OwnIs K P env h' x := by
  match x, o with
  | none, _ => trivial
  | some (x, ds), ⟨a, vs, l, i, k, p, r⟩ => exact ⟨a, vs, l.ext e, i.keeps e, k, p, r.ext e⟩

theorem Fl.ext (F : Fl c P₀ P sc env K σ h) (e : Ext h h') : Fl c P₀ P sc env K σ h' where
  kn := F.kn.ext e
  keep := fun a o k => e _ _ (F.keep a o k)
  baseK := F.baseK
  sub := F.sub
  up0 := F.up0
  loc := let ⟨m, hm⟩ := F.loc; ⟨m, hm.keeps e⟩
  locK := F.locK
  locP := F.locP
  cell := fun x a q => let ⟨v, hv⟩ := F.cell x a q; ⟨v, hv.keeps e⟩
  ownc := F.ownc
  freec := F.freec
  apart := F.apart
  cls := F.cls
  own := F.own.ext e

theorem OwnIs.weakK {K' : Addr → Obj → Prop} {x : Option (Str × List D)} (k : ∀ a o, K a o → K' a o) (o : OwnIs K' P env h x) : OwnIs K P env h x := by
  match x, o with
  | none, _ => trivial
  | some (x, ds), ⟨a, vs, l, i, q, p, r⟩ => exact ⟨a, vs, l, i, fun o z => q o (k a o z), p, r⟩

theorem Fl.weakK {K' : Addr → Obj → Prop} (F : Fl c P₀ P sc env K' σ h) (k : ∀ a o, K a o → K' a o) (b : ∀ a o, c.B.get? a = some o → K a o) (u : ∀ a, (∀ o, ¬ K a o) → P₀ a) (f : FreeC sc env K) : Fl c P₀ P sc env K σ h where
  kn := F.kn
  keep := fun a o q => F.keep a o (k a o q)
  baseK := b
  sub := F.sub
  up0 := u
  loc := F.loc
  locK := fun o q => F.locK o (k _ o q)
  locP := F.locP
  cell := F.cell
  ownc := fun x a z q => let ⟨r, p⟩ := F.ownc x a z q; ⟨fun o z => r o (k a o z), p⟩
  freec := f
  apart := F.apart
  cls := F.cls
  own := F.own.weakK k

/-- what may be changed is not P -/
def bigK (K : Addr → Obj → Prop) (P : Addr → Prop) (h : Heap) : Addr → Obj → Prop := fun a o => K a o ∨ (h.get? a = some o ∧ P a)

theorem Fl.big (F : Fl c P₀ P sc env K σ h) : Fl c P₀ P sc env (bigK K P h) σ h where
  kn := F.kn
  keep := fun a o q => q.elim (F.keep a o) (·.1)
  baseK := fun a o q => .inl (F.baseK a o q)
  sub := F.sub
  up0 := fun a q => F.up0 a fun o k => q o (.inl k)
  loc := F.loc
  locK := fun o q => q.elim (F.locK o) fun z => F.locP z.2
  locP := F.locP
  cell := F.cell
  ownc := fun x a z q => let ⟨r, p⟩ := F.ownc x a z q; ⟨fun o z => z.elim (r o) fun y => p y.2, p⟩
  freec := fun x a z q => let ⟨o, k⟩ := F.freec x a z q; ⟨o, .inl k⟩
  apart := F.apart
  cls := F.cls
  own := by
    have o := F.own
    match hx : σ.own, o with
    | none, _ => trivial
    | some (x, ds), ⟨a, vs, l, i, q, p, r⟩ => exact ⟨a, vs, l, i, fun o z => z.elim (q o) fun y => p y.2, p, r⟩

/-- all names at P₀ -/
theorem Fl.knAll (F : Fl c P₀ P sc env K σ h) : Kn c P₀ sc env σ.all h where
  ok := F.kn.ok
  es := F.kn.es
  base := F.kn.base
  up := fun a ha => F.sub a (F.kn.up a ha)
  names := by
    intro x d hx
    have o := F.own
    unfold Sg.all at hx
    match hs : σ.own, o with
    | none, _ =>
      rw [hs] at hx
      obtain ⟨v, l, r⟩ := F.kn.names x d hx
      exact ⟨v, l, r.weak F.sub⟩
    | some (y, ds), ⟨a, vs, l, i, q, p, r⟩ =>
      rw [hs] at hx
      rcases List.mem_cons.mp hx with e | hx
      · cases e
        exact ⟨_, l, a, vs, rfl, F.up0 a q, i, r.weak F.sub⟩
      · obtain ⟨v, l, r⟩ := F.kn.names x d hx
        exact ⟨v, l, r.weak F.sub⟩

theorem Apart.of {cs : List (Str × Addr)} (ap : cs.Pairwise fun x y => x.2 ≠ y.2) : Apart sc cs := fun _ _ _ _ hx hy => name_of_addr ap (mem_of_lookup hx) (mem_of_lookup hy)

theorem ns_not_cell {a : Addr} {m : Str → Option Value} {v : Option Value} (hn : h.Ns a m) (hc : h.IsCell a v) : False := by
  obtain ⟨o, es, ep, ho, hd, _⟩ := hn
  obtain ⟨o', ho', hd'⟩ := hc
  rw [ho] at ho'; cases ho'
  rw [hd] at hd'; cases hd'

theorem store_any {A : Around} {s : Shared} {x : Str} {v : Value} {Q : Unit → Shared → Prop} {E : Value → Shared → Prop} (es : EnvS sc env)
    (hk : sc.names.lookup x = some .local ∨ (sc.names.lookup x = some .cell ∧ env.kindOf x = some .cell ∧ (env.cells.lookup x).isSome = true))
    (loc : ∃ m, s.heap.Ns env.locals m) (cell : ∀ y a, env.cells.lookup y = some a → ∃ w, s.heap.IsCell a w) (ap : Apart sc env.cells)
    (K : ∀ h' tk a, Heap.SameBut a s.heap h' → (a = env.locals ∨ (sc.names.lookup x ≠ some .local ∧ env.cells.lookup x = some a)) → Look h' env x v → (∀ y u, y ≠ x → Look s.heap env y u → Look h' env y u) →
      (∃ m, h'.Ns env.locals m) → (∀ y b, env.cells.lookup y = some b → ∃ w, h'.IsCell b w) → Q () { s with heap := h', toks := tk }) : wpAny c.M A (storeName env x v) Q E s := by
  obtain ⟨m, hm⟩ := loc
  rcases hk with hk | ⟨hsc, hk, hc⟩
  · have hl := es.local hk
    refine wpAny_storeName_local hl hm (fun h' hn' hs' => ?_) (by rw [es.kind]; rfl)
    have hcl : ∀ y b w, env.cells.lookup y = some b → s.heap.IsCell b w → h'.IsCell b w := fun y b w _ hw => hw.sameBut hs' fun e => ns_not_cell hm (e ▸ hw)
    refine K h' _ env.locals hs' (.inl rfl) (.inl ⟨hl, _, hn', by simp⟩) (fun y u hy l => ?_) ⟨_, hn'⟩ (fun y b hb => let ⟨w, hw⟩ := cell y b hb; ⟨w, hcl y b w hb hw⟩)
    rcases l with ⟨k, m', hn, hu⟩ | ⟨k, a, ha, hv⟩
    · refine .inl ⟨k, _, hn', ?_⟩
      rw [if_neg hy]
      obtain ⟨o, e1, e2, ho, hd, _, hf⟩ := hm
      obtain ⟨o', e1', e2', ho', hd', _, hf'⟩ := hn
      rw [ho] at ho'; cases ho'
      rw [hd] at hd'; cases hd'
      rw [← hf y, hf' y, hu]
    · exact .inr ⟨k, a, ha, hcl y a _ ha hv⟩
  · obtain ⟨a, ha⟩ := Option.isSome_iff_exists.mp hc
    obtain ⟨w, hw⟩ := cell x a ha
    refine wpAny_storeName_cell es.kind hk ha hw fun h' hc' hs' => ?_
    have hnl : ∀ m', s.heap.Ns env.locals m' → h'.Ns env.locals m' := fun m' hn => hn.sameBut hs' fun e => ns_not_cell hn (e ▸ hw)
    refine K h' s.toks a hs' (.inr ⟨fun z => (by rw [es.local z] at hk; cases hk), ha⟩) (.inr ⟨.inl hk, a, ha, hc'⟩) (fun y u hy l => ?_) ⟨m, hnl m hm⟩ (fun y b hb => ?_)
    · rcases l with ⟨k, m', hn, hu⟩ | ⟨k, b, hb, hv⟩
      · exact .inl ⟨k, m', hnl m' hn, hu⟩
      · exact .inr ⟨k, b, hb, hv.sameBut hs' fun e => hy (ap x y b hsc (e ▸ ha) hb).symm⟩
    · by_cases e : b = a
      · subst e; exact ⟨_, hc'⟩
      · obtain ⟨w', hw'⟩ := cell y b hb
        exact ⟨w', hw'.sameBut hs' e⟩

def Sto (sc : Scope) (x : Str) : Prop := sc.names.lookup x = some .local ∨ sc.names.lookup x = some .cell

/-- after a store of x -/
structure Put (x : Str) (d : D) (σ σ' : Sg) : Prop where
  ρ : ∀ p ∈ σ'.ρ, p = (x, d) ∨ (p ∈ σ.ρ ∧ p.1 ≠ x)
  own : σ'.own = none ∨ (σ'.own = σ.own ∧ ∀ q, σ.own = some q → q.1 ≠ x)

theorem rep_sameBut {a : Addr} (hs : Heap.SameBut a h h') (np : ¬ P a) {d : D} {v : Value} (r : Rep h P d v) : Rep h' P d v :=
  Rep.mono (fun b o pb e => (hs.2 b (fun q => np (q ▸ pb))).trans e) (fun _ p _ => p) d v r
theorem repAll_sameBut {a : Addr} (hs : Heap.SameBut a h h') (np : ¬ P a) {ds : List D} {vs : List Value} (r : RepAll h P ds vs) : RepAll h' P ds vs :=
  RepAll.mono (fun b o pb e => (hs.2 b (fun q => np (q ▸ pb))).trans e) (fun _ p _ => p) ds vs r

theorem sameBut_none {a b : Addr} (hs : Heap.SameBut a h h') (hl : (h.get? a).isSome = true) (e : h'.get? b = none) (hl' : (h'.get? a).isSome = true) : h.get? b = none := by
  by_cases q : b = a
  · subst q; rw [e] at hl'; cases hl'
  · rw [← hs.2 b q]; exact e

theorem Fl.store {A : Around} {s : Shared} {x : Str} {d : D} {v : Value} {Q : Unit → Shared → Prop} {E : Value → Shared → Prop} (F : Fl c P₀ P sc env K σ s.heap) (r : Rep s.heap P d v)
    (hk : Sto sc x) (hp : Put x d σ σ')
    (G : ∀ h' tk, Fl c P₀ P sc env K σ' h' → Q () { s with heap := h', toks := tk }) : wpAny c.M A (storeName env x v) Q E s := by
  refine store_any F.kn.es (hk.imp id fun z => ⟨z, F.cls x z⟩) F.loc F.cell F.apart fun h' tk a hs ha lx ly hl hc => G h' tk ?_
  have npa : ¬ P a ∧ (∀ o, ¬ K a o) ∧ (s.heap.get? a).isSome = true ∧ (h'.get? a).isSome = true := by
    rcases ha with rfl | ⟨nl, hy⟩
    · obtain ⟨m, _, _, _, ho, _⟩ := F.loc
      obtain ⟨m', _, _, _, ho', _⟩ := hl
      exact ⟨F.locP, F.locK, by rw [ho]; rfl, by rw [ho']; rfl⟩
    · obtain ⟨_, _, ho, _⟩ := F.cell x a hy
      obtain ⟨_, _, ho', _⟩ := hc x a hy
      obtain ⟨k, p⟩ := F.ownc x a (hk.resolve_left nl) hy
      exact ⟨p, k, by rw [ho]; rfl, by rw [ho']; rfl⟩
  obtain ⟨np, nk, l1, l2⟩ := npa
  have keep : ∀ b o, K b o → h'.get? b = some o := fun b o k => (hs.2 b (fun q => nk o (q ▸ k))).trans (F.keep b o k)
  exact {
    kn := ⟨F.kn.ok, F.kn.es, fun b o e => keep b o (F.baseK b o e), fun b e => F.kn.up b (sameBut_none hs l1 e l2), by
      intro y e hy
      rcases hp.ρ _ hy with q | ⟨q, ne⟩
      · cases q; exact ⟨v, lx, rep_sameBut hs np r⟩
      · obtain ⟨u, l, r'⟩ := F.kn.names y e q
        exact ⟨u, ly y u ne l, rep_sameBut hs np r'⟩⟩
    keep := keep
    baseK := F.baseK
    sub := F.sub
    up0 := F.up0
    loc := hl
    locK := F.locK
    locP := F.locP
    cell := hc
    ownc := F.ownc
    freec := F.freec
    apart := F.apart
    cls := F.cls
    own := by
      rcases hp.own with q | ⟨q, ne⟩
      · rw [q]; trivial
      · have o := F.own
        rw [q]
        match hw : σ.own, o with
        | none, _ => trivial
        | some (y, ds), ⟨b, vs, l, i, k, p, r'⟩ =>
          refine ⟨b, vs, ly y _ (ne _ hw) l, i.extBut hs.extBut fun z => ?_, k, p, repAll_sameBut hs np r'⟩
          obtain ⟨o2, n2, ho2, hc2, _, hd2⟩ := i
          rcases ha with rfl | ⟨_, hy'⟩
          · obtain ⟨m, o1, e1, e2, ho, hd, _⟩ := F.loc
            rw [← z, ho2] at ho; cases ho
            rw [hd] at hd2; cases hd2
          · obtain ⟨w, o1, ho, hd⟩ := F.cell x a hy'
            rw [← z, ho2] at ho; cases ho
            rw [hd] at hd2; cases hd2 }
end

end Mine

/-! part C4 -/
namespace Mine

/-! ## Things to go through -/
def upto (a b : Int) : List Int := (List.range (b - a).toNat).map fun (i : Nat) => a + (i : Int)
def downto (a b : Int) : List Int := (List.range (a - b).toNat).map fun (i : Nat) => a - (i : Int)

inductive Items : D → List D → Prop
  | lst (ds : List D) : Items (.lst ds) ds
  | tup (ds : List D) : Items (.tup ds) ds
  | up {a b : Int} (ha : -1099511627776 ≤ a) (ha' : a ≤ 1099511627776) (hb : -1099511627776 ≤ b) (hb' : b ≤ 1099511627776) : Items (.rng a b 1) ((upto a b).map .int)
  | down {a b : Int} (ha : -1099511627776 ≤ a) (ha' : a ≤ 1099511627776) (hb : -1099511627776 ≤ b) (hb' : b ≤ 1099511627776) : Items (.rng a b (-1)) ((downto a b).map .int)

theorem go_other {M : Model} {A : Around} {s : Shared} {I : Addr} {o : Obj} {nm : String} {vs : Array Value} {v : Value} {Q : Unit → Shared → Prop} {E : Value → Shared → Prop} (t : Expr) (ho : s.heap.get? I = some o) (hc : o.cls = .type nm) (hd : o.data = .fields vs)
    (hn : ["enumerate", "zip", "dict_itemiterator", "dict_reverseitemiterator", "odict_iterator", "itertools.zip_longest", "itertools.pairwise"].contains nm = false) (h : Q () s) : wpAny M A (letOwnedTupleGo t (.ref I) v) Q E s := by
  unfold letOwnedTupleGo
  cases t <;> first
    | exact wpAny_pure h
    | (cases v <;> first
        | exact wpAny_pure h
        | (refine wpAny_bind (wpAny_load ho ?_)
           rw [hc, hd]
           simp only [hn, Bool.false_and, Bool.false_eq_true, if_false]
           exact wpAny_pure h))

section
variable {c : Cx} {n : Nat} {sc : Scope} {ρ : List (Str × D)}

structure IterOk (c : Cx) (A : Around) (P : Addr → Prop) (h : Heap) (ds : List D) (I : Addr) (fp : List Addr) (Pw : Nat → Value → Prop) (SI : Nat → Heap → Prop) : Prop where
  W : Walks c.prog c.w A I fp [I] ds.length Pw SI
  new : h.get? I = none
  fp : ∀ b ∈ fp, b = I ∨ (P b ∧ (h.get? b).isSome = true)
  item : ∀ i v, Pw i v → ∃ d, ds[i]? = some d ∧ Rep h P d v
  go : ∀ (t : Expr) (i : Nat) (s : Shared) (v : Value) (Q : Unit → Shared → Prop) (E : Value → Shared → Prop), SI i s.heap → Q () s → wpAny c.M A (letOwnedTupleGo t (.ref I) v) Q E s
  live : ∀ i h', SI i h' → (h'.get? I).isSome = true

theorem toArray_get {vs : List Value} {i : Nat} {v : Value} (h : vs.toArray[i]? = some v) : vs[i]? = some v := by simpa using h

theorem small_up {a b : Int} (ha : -1099511627776 ≤ a) (ha' : a ≤ 1099511627776) (hb : -1099511627776 ≤ b) (hb' : b ≤ 1099511627776) : Builtin.Range.small a b 1 = true ∧ Builtin.Range.rangeSize a b 1 = ((b - a).toNat : Int) := by
  have e : Builtin.Range.rangeSize a b 1 = ((b - a).toNat : Int) := by rw [rangeSize_one]; split <;> omega
  refine ⟨?_, e⟩
  unfold Builtin.Range.small
  rw [e]
  simp only [Builtin.Range.rangeFitsLong, Bool.and_eq_true, Bool.or_eq_true, decide_eq_true_eq]
  have h2 : (if (1 : Int) > 0 then (decide (-(2 ^ 63) ≤ b + (1 - 1)) && decide (b + (1 - 1) < 2 ^ 63)) else (decide (-(2 ^ 63) ≤ b + (1 + 1)) && decide (b + (1 + 1) < 2 ^ 63))) = true := by
    rw [if_pos (by decide)]; simp only [Bool.and_eq_true, decide_eq_true_eq]; omega
  refine ⟨⟨⟨⟨?_, ?_⟩, ?_⟩, ?_⟩, .inr ?_⟩ <;> first | exact h2 | omega
theorem small_down {a b : Int} (ha : -1099511627776 ≤ a) (ha' : a ≤ 1099511627776) (hb : -1099511627776 ≤ b) (hb' : b ≤ 1099511627776) : Builtin.Range.small a b (-1) = true ∧ Builtin.Range.rangeSize a b (-1) = ((a - b).toNat : Int) := by
  have e : Builtin.Range.rangeSize a b (-1) = ((a - b).toNat : Int) := by
    unfold Builtin.Range.rangeSize
    rw [if_neg (by decide)]
    split
    · rw [show (-(-1) : Int) = 1 by decide, Int.ediv_one]; omega
    · omega
  refine ⟨?_, e⟩
  unfold Builtin.Range.small
  rw [e]
  simp only [Builtin.Range.rangeFitsLong, Bool.and_eq_true, Bool.or_eq_true, decide_eq_true_eq]
  have h2 : (if (-1 : Int) > 0 then (decide (-(2 ^ 63) ≤ b + (-1 - 1)) && decide (b + (-1 - 1) < 2 ^ 63)) else (decide (-(2 ^ 63) ≤ b + (-1 + 1)) && decide (b + (-1 + 1) < 2 ^ 63))) = true := by
    rw [if_neg (by decide)]; simp only [Bool.and_eq_true, decide_eq_true_eq]; omega
  refine ⟨⟨⟨⟨?_, ?_⟩, ?_⟩, ?_⟩, .inr ?_⟩ <;> first | exact h2 | omega

theorem iter_any {A : Around} {P : Addr → Prop} {s : Shared} {Q : Value → Shared → Prop} {E : Value → Shared → Prop} {d : D} {ds : List D} {v : Value} (hh : A.handled = none) (r : Rep s.heap P d v) (it : Items d ds)
    (G : ∀ I fp Pw SI h', IterOk c A P s.heap ds I fp Pw SI → SI 0 h' → Ext s.heap h' → Q (.ref I) { s with heap := h' }) : wpAny c.M A (pyIter v) Q E s := by
  cases it with
  | lst ds =>
    obtain ⟨a, vs, rfl, pa, pl, ra⟩ := r
    have ne : a ≠ s.heap.objs.size := Nat.ne_of_lt pl.lt
    have hn : vs.toArray.size = ds.length := by simp [ra.length]
    refine wpAny_pyIter_list pl.isList (G _ _ _ _ _ ⟨hn ▸ Walks.list hh s.heap.objs.size a ne vs.toArray, get_size _, ?_, ?_, ?_, ?_⟩ ⟨⟨_, Heap.get?_push_size _ rfl, rfl, rfl⟩, pl.isList.push _⟩ (.push _ _))
    · intro b hb
      simp only [List.mem_cons, List.not_mem_nil, or_false] at hb
      rcases hb with rfl | rfl
      · exact .inl rfl
      · obtain ⟨o, n, ho, _⟩ := pl
        exact .inr ⟨pa, by rw [ho]; rfl⟩
    · intro i v hv
      exact ra.get (toArray_get hv)
    · rintro t i s' v' Q' E' ⟨⟨o, ho, hc, hd⟩, _⟩ q
      exact go_other t ho hc hd (by decide) q
    · rintro i h' ⟨⟨o, ho, _⟩, _⟩
      rw [ho]; rfl
  | tup ds =>
    obtain ⟨a, vs, rfl, pa, pl, ra⟩ := r
    have ne : a ≠ s.heap.objs.size := by obtain ⟨o, ho, _⟩ := pl; exact Nat.ne_of_lt (Heap.lt_size ho)
    have hn : vs.toArray.size = ds.length := by simp [ra.length]
    refine wpAny_pyIter_tuple pl (G _ _ _ _ _ ⟨hn ▸ Walks.tuple hh s.heap.objs.size a ne vs.toArray, get_size _, ?_, ?_, ?_, ?_⟩ ⟨⟨_, Heap.get?_push_size _ rfl, rfl, rfl⟩, pl.push _⟩ (.push _ _))
    · intro b hb
      simp only [List.mem_cons, List.not_mem_nil, or_false] at hb
      rcases hb with rfl | rfl
      · exact .inl rfl
      · obtain ⟨o, ho, _⟩ := pl
        exact .inr ⟨pa, by rw [ho]; rfl⟩
    · intro i v hv
      exact ra.get (toArray_get hv)
    · rintro t i s' v' Q' E' ⟨⟨o, ho, hc, hd⟩, _⟩ q
      exact go_other t ho hc hd (by decide) q
    · rintro i h' ⟨⟨o, ho, _⟩, _⟩
      rw [ho]; rfl
  | @up a b ha ha' hb hb' =>
    obtain ⟨r, t, u, w, rfl, pr, hr⟩ := r
    obtain ⟨hs, hz⟩ := small_up ha ha' hb hb'
    have hl : ((upto a b).map D.int).length = (b - a).toNat := by simp [upto]
    have W : Walks c.prog c.w A s.heap.objs.size [s.heap.objs.size] [s.heap.objs.size] ((upto a b).map D.int).length (fun i v => i < (b - a).toNat ∧ ∃ t, v = .int (a + i * 1) t) (fun i h => IsRangeIter h s.heap.objs.size (a + (i : Nat) * 1) (((b - a).toNat : Int) - (i : Nat)) 1) := by
      rw [hl]; exact (Walks.range hh s.heap.objs.size a 1 (b - a).toNat).bound
    refine wpAny_pyIter_range hr hs (G _ _ _ _ _ ⟨W, get_size _, ?_, ?_, ?_, ?_⟩ ?_ (.push _ _))
    · intro b hb
      exact .inl (List.mem_singleton.mp hb)
    · rintro i v ⟨hi, t, rfl⟩
      refine ⟨.int (a + i * 1), ?_, t, rfl⟩
      simp [upto, hi]
    · intro t i s' v' Q' E' hi q
      exact go_other t hi rfl rfl (by decide) q
    · intro i h' hi
      rw [show h'.get? _ = _ from hi]; rfl
    · rw [hz, show a + ((0 : Nat) : Int) * 1 = a by omega, show ((b - a).toNat : Int) - ((0 : Nat) : Int) = (b - a).toNat by omega]
      exact Heap.get?_push_size s.heap rfl
  | @down a b ha ha' hb hb' =>
    obtain ⟨r, t, u, w, rfl, pr, hr⟩ := r
    obtain ⟨hs, hz⟩ := small_down ha ha' hb hb'
    have hl : ((downto a b).map D.int).length = (a - b).toNat := by simp [downto]
    have W : Walks c.prog c.w A s.heap.objs.size [s.heap.objs.size] [s.heap.objs.size] ((downto a b).map D.int).length (fun i v => i < (a - b).toNat ∧ ∃ t, v = .int (a + i * (-1)) t) (fun i h => IsRangeIter h s.heap.objs.size (a + (i : Nat) * (-1)) (((a - b).toNat : Int) - (i : Nat)) (-1)) := by
      rw [hl]; exact (Walks.range hh s.heap.objs.size a (-1) (a - b).toNat).bound
    refine wpAny_pyIter_range hr hs (G _ _ _ _ _ ⟨W, get_size _, ?_, ?_, ?_, ?_⟩ ?_ (.push _ _))
    · intro b hb
      exact .inl (List.mem_singleton.mp hb)
    · rintro i v ⟨hi, t, rfl⟩
      refine ⟨.int (a + i * (-1)), ?_, t, rfl⟩
      simp only [downto, List.map_map, List.getElem?_map, List.getElem?_range hi, Option.map_some, Function.comp]
      congr 2
      omega
    · intro t i s' v' Q' E' hi q
      exact go_other t hi rfl rfl (by decide) q
    · intro i h' hi
      rw [show h'.get? _ = _ from hi]; rfl
    · rw [hz, show a + ((0 : Nat) : Int) * (-1) = a by omega, show ((a - b).toNat : Int) - ((0 : Nat) : Int) = (a - b).toNat by omega]
      exact Heap.get?_push_size s.heap rfl
end

end Mine

/-! part C5 -/
namespace Mine

inductive Out where
  | next (σ : Sg)
  | ret (d : D)

def Post (c : Cx) (P₀ P : Addr → Prop) (sc : Scope) (env : Env) (K : Addr → Obj → Prop) (s : Shared) (Q : Flow → Shared → Prop) : Out → Prop
  | .next σ' => ∀ P' h' tk, Fl c P₀ P' sc env K σ' h' → (∀ a o, s.heap.get? a = some o → P a → P' a) → (∀ a o, K a o → P' a → P a) → Q .next { s with heap := h', toks := tk }
  | .ret d => ∀ v h' tk, (∀ a o, K a o → h'.get? a = some o) → Rep h' P₀ d v → Q (.ret v) { s with heap := h', toks := tk }

structure StG (c : Cx) (n : Nat) (sc : Scope) (σ : Sg) (t : Env → Sem Flow) (o : Out) : Prop where
  run : ∀ (A : Around) (P₀ P : Addr → Prop) (env : Env) (K : Addr → Obj → Prop) (s : Shared) (Q : Flow → Shared → Prop) (E : Value → Shared → Prop), Room n A → Fl c P₀ P sc env K σ s.heap →
    Post c P₀ P sc env K s Q o → wpAny c.M A (t env) Q E s

abbrev St (c : Cx) (n : Nat) (sc : Scope) (σ : Sg) (ss : List Stmt) (o : Out) : Prop := StG c n sc σ (execs ss) o
abbrev St1 (c : Cx) (n : Nat) (sc : Scope) (σ : Sg) (st : Stmt) (o : Out) : Prop := StG c n sc σ (exec st) o

/-- a store into a target -/
def AsgR (c : Cx) (n : Nat) (sc : Scope) (tgt : Expr) (d : D) (σ σ' : Sg) : Prop :=
  ∀ (A : Around) (P₀ P : Addr → Prop) (env : Env) (K : Addr → Obj → Prop) (s : Shared) (Q : Unit → Shared → Prop) (E : Value → Shared → Prop) (v : Value), Room n A → Fl c P₀ P sc env K σ s.heap → Rep s.heap P d v →
    (∀ h' tk, Fl c P₀ P sc env K σ' h' → Q () { s with heap := h', toks := tk }) → wpAny c.M A (assign tgt env v) Q E s

def D.flat : D → Bool
  | .none | .bool _ | .int _ | .bytes _ | .adr _ => true
  | _ => false
theorem Rep.flat {h h' : Heap} {P P' : Addr → Prop} {d : D} {v : Value} (hf : d.flat = true) (r : Rep h P d v) : Rep h' P' d v := by
  cases d <;> first | exact r | cases hf

section
variable {c : Cx} {n : Nat} {sc : Scope} {σ σ' : Sg} {o : Out}

theorem St.nil : St c n sc σ [] (.next σ) := by
  refine ⟨fun A P₀ P env K s Q E R F G => ?_⟩
  exact wpAny_execs_nil (G P s.heap s.toks F (fun _ _ _ p => p) fun _ _ _ p => p)

theorem Fl.post_big {P₀ P P' : Addr → Prop} {env : Env} {K : Addr → Obj → Prop} {h h' : Heap} (F : Fl c P₀ P sc env K σ h) (F' : Fl c P₀ P' sc env (bigK K P h) σ' h') : Fl c P₀ P' sc env K σ' h' :=
  F'.weakK (fun _ _ k => .inl k) F.baseK F.up0 F.freec

theorem St.cons {st : Stmt} {ss : List Stmt} (h1 : St1 c n sc σ st (.next σ')) (h2 : St c n sc σ' ss o) : St c n sc σ (st :: ss) o := by
  refine ⟨fun A P₀ P env K s Q E R F G => ?_⟩
  refine wpAny_execs_cons (h1.run A P₀ P env (bigK K P s.heap) s _ E R F.big fun P' h' tk F' hp hk => ?_)
  have kept : ∀ a o, s.heap.get? a = some o → P a → h'.get? a = some o := fun a o e p => F'.keep a o (.inr ⟨e, p⟩)
  refine h2.run A P₀ P' env K { s with heap := h', toks := tk } Q E R (F.post_big F') ?_
  cases o with
  | next σ'' => exact fun P'' h'' tk' F'' hp' hk' => G P'' h'' tk' F'' (fun a o e p => hp' a o (kept a o e p) (hp a o e p)) fun a o k p => hk a o (.inl k) (hk' a o k p)
  | ret d => exact G
theorem St.ret {st : Stmt} {ss : List Stmt} {d : D} (h1 : St1 c n sc σ st (.ret d)) : St c n sc σ (st :: ss) (.ret d) := by
  refine ⟨fun A P₀ P env K s Q E R F G => ?_⟩
  exact wpAny_execs_cons (h1.run A P₀ P env K s _ E R F G)

theorem St1.ret {e : Expr} {pos : Pos} {d : D} (h : Ev c n sc σ.all e d) : St1 c n sc σ (.Return (some e) pos) (.ret d) := by
  refine ⟨fun A P₀ P env K s Q E R F G => ?_⟩
  exact wpAny_Return_some (h.run A P₀ env s _ E R F.knAll fun v h' tk x r => G v h' tk (fun a o k => x a o (F.keep a o k)) r)

theorem St1.ite {t : Expr} {body orelse : List Stmt} {pos : Pos} {b : Bool} (ht : Tr c n sc σ.all t b) (h1 : b = true → St c n sc σ body o) (h2 : b = false → St c n sc σ orelse o) : St1 c n sc σ (.If t body orelse pos) o := by
  refine ⟨fun A P₀ P env K s Q E R F G => ?_⟩
  refine wpAny_If (ht.run A P₀ env s _ E R F.knAll fun h' tk x => ?_)
  have G' : Post c P₀ P sc env K { s with heap := h', toks := tk } Q o := by
    cases o with
    | next σ'' => exact fun P'' h'' tk' F'' hp hk => G P'' h'' tk' F'' (fun a o e p => hp a o (x a o e) p) hk
    | ret d => exact G
  cases b with
  | true => exact (h1 rfl).run A P₀ P env K _ Q E R (F.ext x) G'
  | false => exact (h2 rfl).run A P₀ P env K _ Q E R (F.ext x) G'

theorem AsgR.name {x : Str} {p : Pos} {d : D} (hk : Sto sc x) (hp : Put x d σ σ') : AsgR c n sc (.Name x p) d σ σ' := by
  intro A P₀ P env K s Q E v R F r G
  exact wpAny_assign_Name (F.store r hk hp G)

/-- x = e, where e reads no list that is being filled -/
theorem St1.assign {x : Str} {p pos : Pos} {e : Expr} {d : D} (h : Ev c n sc σ.ρ e d) (hk : Sto sc x) (hp : Put x d σ σ')
    (hs : ∀ env, EnvS sc env → swapsWith e (some (.Name x p)) pos.line env = pure false := by intro _ _; rfl) : St1 c n sc σ (.Assign [.Name x p] e pos) (.next σ') := by
  refine ⟨fun A P₀ P env K s Q E R F G => ?_⟩
  refine wpAny_Assign_Name (h.run A P env s _ E R F.kn fun v h' tk ex r => ?_) (hs env F.kn.es)
  exact (F.ext ex).store (s := { s with heap := h', toks := tk }) r hk hp fun h'' tk' F' => G P h'' tk' F' (fun _ _ _ p => p) fun _ _ _ p => p
/-- x = e, a plain value -/
theorem St1.assignF {x : Str} {p pos : Pos} {e : Expr} {d : D} (h : Ev c n sc σ.all e d) (hf : d.flat = true) (hk : Sto sc x) (hp : Put x d σ σ')
    (hs : ∀ env, EnvS sc env → swapsWith e (some (.Name x p)) pos.line env = pure false := by intro _ _; rfl) : St1 c n sc σ (.Assign [.Name x p] e pos) (.next σ') := by
  refine ⟨fun A P₀ P env K s Q E R F G => ?_⟩
  refine wpAny_Assign_Name (h.run A P₀ env s _ E R F.knAll fun v h' tk ex r => ?_) (hs env F.kn.es)
  exact (F.ext ex).store (s := { s with heap := h', toks := tk }) (r.flat hf) hk hp fun h'' tk' F' => G P h'' tk' F' (fun _ _ _ p => p) fun _ _ _ p => p

/-! ### for -/
inductive ForR (c : Cx) (n : Nat) (sc : Scope) (tgt : Expr) (body : List Stmt) : Sg → List D → Out → Prop
  | nil (σ : Sg) : ForR c n sc tgt body σ [] (.next σ)
  | next {σ σ1 σ2 : Sg} {d : D} {ds : List D} {o : Out} (ha : AsgR c n sc tgt d σ σ1) (hb : St c n sc σ1 body (.next σ2)) (ht : ForR c n sc tgt body σ2 ds o) : ForR c n sc tgt body σ (d :: ds) o
  | ret {σ σ1 : Sg} {d r : D} {ds : List D} (ha : AsgR c n sc tgt d σ σ1) (hb : St c n sc σ1 body (.ret r)) : ForR c n sc tgt body σ (d :: ds) (.ret r)

def itK (K : Addr → Obj → Prop) (I : Addr) (h : Heap) : Addr → Obj → Prop := fun a o => K a o ∨ (a = I ∧ h.get? a = some o)

theorem drop_cons {ds : List D} {i : Nat} {d : D} {r : List D} (h : ds.drop i = d :: r) : i < ds.length ∧ ds[i]? = some d ∧ ds.drop (i + 1) = r := by
  have hi : i < ds.length := by
    by_cases q : i < ds.length
    · exact q
    · rw [List.drop_eq_nil_of_le (Nat.le_of_not_lt q)] at h; cases h
  rw [List.drop_eq_getElem_cons hi] at h
  injection h with h1 h2
  exact ⟨hi, by rw [List.getElem?_eq_getElem hi, h1], h2⟩

structure LoopAt (c : Cx) (P₀ : Addr → Prop) (sc : Scope) (env : Env) (K : Addr → Obj → Prop) (ds : List D) (I : Addr) (fp : List Addr) (SI : Nat → Heap → Prop) (P h0P : Addr → Prop) (h0 : Heap) (σ : Sg) (i : Nat) (h : Heap) : Prop where
  fl : Fl c P₀ P sc env (itK K I h) σ h
  nI : ¬ P I
  kI : ∀ o, ¬ K I o
  si : SI i h
  old : ∀ a o, h0.get? a = some o → h0P a → P a ∧ h.get? a = some o
  hk : ∀ a o, K a o → P a → h0P a

theorem for_loop {A : Around} {P₀ h0P : Addr → Prop} {env : Env} {K : Addr → Obj → Prop} {h0 : Heap} {R' : Result → Shared → Prop} {tgt : Expr} {body : List Stmt} {ds : List D} {I : Addr} {fp : List Addr} {Pw : Nat → Value → Prop} {SI : Nat → Heap → Prop} {o : Out} {s0 : Shared}
    (R : Room n A) (it : IterOk c A h0P h0 ds I fp Pw SI) (b0 : ∀ a o, c.B.get? a = some o → K a o) (u0 : ∀ a, (∀ o, ¬ K a o) → P₀ a) (f0 : FreeC sc env K)
    (hn : ∀ σ', o = .next σ' → ∀ P' h' tk, Fl c P₀ P' sc env K σ' h' → (∀ a o, h0.get? a = some o → h0P a → P' a) → (∀ a o, K a o → P' a → h0P a) → R' (.ok .next) { s0 with heap := h', toks := tk })
    (hr : ∀ d, o = .ret d → ∀ v h' tk, (∀ a o, K a o → h'.get? a = some o) → Rep h' P₀ d v → R' (.ok (.ret v)) { s0 with heap := h', toks := tk }) :
    ∀ (P : Addr → Prop) (σ : Sg) (rest : List D) (i : Nat) (h : Heap) (tk : Nat), ForR c n sc tgt body σ rest o → ds.drop i = rest → i ≤ ds.length → LoopAt c P₀ sc env K ds I fp SI P h0P h0 σ i h →
      codeAny c.M A (.forLoop tgt (.ref I) body [] env) R' { s0 with heap := h, toks := tk } := by
  intro P σ rest i h tk hf hd hi L
  refine codeAny_forLoop_any (fun k s' => ∃ P σ rest i h tk, s' = { s0 with heap := h, toks := tk } ∧ ForR c n sc tgt body σ rest o ∧ ds.drop i = rest ∧ i ≤ ds.length ∧ LoopAt c P₀ sc env K ds I fp SI P h0P h0 σ i h ∧ k = ds.length + 1 - i) ?_ (ds.length + 1 - i)
    ⟨P, σ, rest, i, h, tk, rfl, hf, hd, hi, L, rfl⟩
  rintro k s' ⟨P, σ, rest, i, h, tk, rfl, hf, hd, hi, L, rfl⟩
  -- the iterator moves: what is known stays
  have moved : ∀ h₁, (∀ b o, b ∉ [I] → h.get? b = some o → h₁.get? b = some o) → Fl c P₀ (fun a => P a ∨ (a = I ∧ h₁.get? I = none)) sc env (itK K I h₁) σ h₁ := by
    intro h₁ hk
    have kp : ∀ b o, b ≠ I → h.get? b = some o → h₁.get? b = some o := fun b o nb e => hk b o (fun q => nb (List.mem_singleton.mp q)) e
    have kP : ∀ b o, P b → h.get? b = some o → h₁.get? b = some o := fun b o pb e => kp b o (fun q => L.nI (q ▸ pb)) e
    have kK : ∀ b o, K b o → h₁.get? b = some o := fun b o k => kp b o (fun q => L.kI o (q ▸ k)) (L.fl.keep b o (.inl k))
    have neC : ∀ y a o, env.cells.lookup y = some a → h.get? a = some o → a ≠ I := by
      rintro y a o q ho rfl
      by_cases z : sc.names.lookup y = some .cell
      · exact (L.fl.ownc y a z q).1 o (.inr ⟨rfl, ho⟩)
      · obtain ⟨o', k⟩ := f0 y a z q
        exact L.kI o' k
    have lookS : ∀ y u, Look h env y u → Look h₁ env y u := by
      rintro y u (⟨k, m, ⟨o, e1, e2, ho, r⟩, hm⟩ | ⟨k, a, ha, o, ho, hd⟩)
      · refine .inl ⟨k, m, ⟨o, e1, e2, kp _ _ (fun q => ?_) ho, r⟩, hm⟩
        exact L.fl.locK o (.inr ⟨q, ho⟩)
      · exact .inr ⟨k, a, ha, o, kp _ _ (neC y a o ha ho) ho, hd⟩
    have upI : Up (fun a => P a ∨ (a = I ∧ h₁.get? I = none)) h₁ := by
      intro a e
      by_cases q : a = I
      · exact .inr ⟨q, q ▸ e⟩
      · refine .inl (L.fl.kn.up a ?_)
        cases z : h.get? a with
        | none => rfl
        | some o => rw [kp a o q z] at e; cases e
    have neI : ∀ a, (∀ o, ¬ itK K I h a o) → (h.get? a).isSome = true → a ≠ I := by
      rintro a q l rfl
      obtain ⟨o', ho'⟩ := Option.isSome_iff_exists.mp l
      exact q o' (.inr ⟨rfl, ho'⟩)
    have offI : ∀ a, (∀ o, ¬ itK K I h a o) → (h.get? a).isSome = true → ∀ o, ¬ itK K I h₁ a o := by
      intro a q l o z
      rcases z with z | ⟨e, _⟩
      · exact q o (.inl z)
      · exact neI a q l e
    have wk : ∀ a, P a → (P a ∨ (a = I ∧ h₁.get? I = none)) := fun _ p => .inl p
    exact {
      kn := ⟨L.fl.kn.ok, L.fl.kn.es, fun b o e => kK b o (b0 b o e), upI, fun y e hy => let ⟨u, l, r⟩ := L.fl.kn.names y e hy; ⟨u, lookS y u l, Rep.mono kP (fun a p _ => wk a p) e u r⟩⟩
      keep := fun a o z => z.elim (kK a o) (fun z => z.2)
      baseK := fun a o e => .inl (b0 a o e)
      sub := fun a p => p.elim (L.fl.sub a) fun q => u0 a fun o k => L.kI o (q.1 ▸ k)
      up0 := fun a z => u0 a fun o k => z o (.inl k)
      loc := by
        obtain ⟨m, o, e1, e2, ho, r⟩ := L.fl.loc
        exact ⟨m, o, e1, e2, kp _ _ (fun q => L.fl.locK o (.inr ⟨q, ho⟩)) ho, r⟩
      locK := by
        obtain ⟨m, o, e1, e2, ho, r⟩ := L.fl.loc
        exact offI _ L.fl.locK (by rw [ho]; rfl)
      locP := by
        obtain ⟨m, o, e1, e2, ho, r⟩ := L.fl.loc
        exact fun z => z.elim L.fl.locP fun q => neI _ L.fl.locK (by rw [ho]; rfl) q.1
      cell := by
        intro y a q
        obtain ⟨w, o, ho, hd⟩ := L.fl.cell y a q
        exact ⟨w, o, kp _ _ (neC y a o q ho) ho, hd⟩
      ownc := by
        intro y a z q
        obtain ⟨w, o, ho, hd⟩ := L.fl.cell y a q
        obtain ⟨k, p⟩ := L.fl.ownc y a z q
        exact ⟨offI a k (by rw [ho]; rfl), fun z => z.elim p fun q => neI a k (by rw [ho]; rfl) q.1⟩
      freec := fun y a z q => let ⟨o, k⟩ := f0 y a z q; ⟨o, .inl k⟩
      apart := L.fl.apart
      cls := L.fl.cls
      own := by
        have ow := L.fl.own
        match hx : σ.own, ow with
        | none, _ => trivial
        | some (y, es), ⟨a, vs, l, pl, k, p, r⟩ =>
          have hl : (h.get? a).isSome = true := by obtain ⟨o, n, ho, _⟩ := pl; rw [ho]; rfl
          refine ⟨a, vs, lookS y _ l, ?_, offI a k hl, fun z => z.elim p fun q => neI a k hl q.1, RepAll.mono kP (fun a p _ => wk a p) es vs r⟩
          obtain ⟨o, n, ho, z⟩ := pl
          exact ⟨o, n, kp _ _ (fun q => k o (.inr ⟨q, ho⟩)) ho, z⟩ }
  -- one turn
  have turn : ∀ (d : D) (σ1 : Sg) (v : Value) (h₁ : Heap) (tk₁ : Nat) (QQ : Flow → Shared → Prop) (EE : Value → Shared → Prop) (o1 : Out), ds[i]? = some d → Pw i v → SI (i + 1) h₁ → (∀ b o, b ∉ [I] → h.get? b = some o → h₁.get? b = some o) →
      AsgR c n sc tgt d σ σ1 → St c n sc σ1 body o1 →
      (∀ σ2, o1 = .next σ2 → ∀ P' h₃ tk₃, LoopAt c P₀ sc env K ds I fp SI P' h0P h0 σ2 (i + 1) h₃ → QQ .next { s0 with heap := h₃, toks := tk₃ }) →
      (∀ d, o1 = .ret d → ∀ v h' tk, (∀ a o, K a o → h'.get? a = some o) → Rep h' P₀ d v → QQ (.ret v) { s0 with heap := h', toks := tk }) →
      wpAny c.M A (letOwnedTupleGo tgt (.ref I) v) (fun _ s₁' => wpAny c.M A (assign tgt env v) (fun _ s₂ => wpAny c.M A (execs body env) QQ EE s₂) EE s₁') EE { s0 with heap := h₁, toks := tk₁ } := by
    intro d σ1 v h₁ tk₁ QQ EE o1 hdi hPv hs₁ hk₁ ha hb q1 q2
    have F₁ := moved h₁ hk₁
    have lI := it.live _ _ hs₁
    obtain ⟨oI, hoI⟩ := Option.isSome_iff_exists.mp lI
    have nP₁ : ¬ (P I ∨ (I = I ∧ h₁.get? I = none)) := by
      rintro (q | ⟨_, q⟩)
      · exact L.nI q
      · rw [hoI] at q; cases q
    obtain ⟨d', hd', rv⟩ := it.item i v hPv
    rw [hdi] at hd'; cases hd'
    have old₁ : ∀ a o, h0.get? a = some o → h0P a → h₁.get? a = some o := fun a o e p => hk₁ a o (fun q => L.nI ((List.mem_singleton.mp q) ▸ (L.old a o e p).1)) (L.old a o e p).2
    have rv₁ : Rep h₁ (fun a => P a ∨ (a = I ∧ h₁.get? I = none)) d v := Rep.mono (fun a o p e => old₁ a o e p) (fun a p e => by obtain ⟨o, ho⟩ := Option.isSome_iff_exists.mp e; exact .inl (L.old a o ho p).1) d v rv
    refine it.go tgt (i + 1) _ v _ _ hs₁ ?_
    refine ha A P₀ _ env _ { s0 with heap := h₁, toks := tk₁ } _ EE v R F₁.big rv₁ fun h₂ tk₂ F₂ => ?_
    refine hb.run A P₀ _ env _ { s0 with heap := h₂, toks := tk₂ } QQ EE R F₂.big ?_
    cases o1 with
    | ret d => exact fun v h' tk hk r => q2 d rfl v h' tk (fun a o k => hk a o (.inl (.inl (.inl k)))) r
    | next σ2 =>
      intro P' h₃ tk₃ F₃ hp hk
      have kI3 : h₃.get? I = some oI := F₃.keep I oI (.inl (.inl (.inr ⟨rfl, hoI⟩)))
      have old₃ : ∀ a o, h0.get? a = some o → h0P a → P' a ∧ h₃.get? a = some o := by
        intro a o e p
        have e1 := old₁ a o e p
        have p1 : P a ∨ (a = I ∧ h₁.get? I = none) := .inl (L.old a o e p).1
        have e2 : h₂.get? a = some o := F₂.keep a o (.inr ⟨e1, p1⟩)
        exact ⟨hp a o e2 p1, F₃.keep a o (.inl (.inr ⟨e1, p1⟩))⟩
      refine q1 σ2 rfl P' h₃ tk₃ ⟨F₃.weakK ?_ (fun a o e => .inl (b0 a o e)) (fun a z => u0 a fun o k => z o (.inl k)) (fun y a z q => let ⟨o, k⟩ := f0 y a z q; ⟨o, .inl k⟩), ?_, L.kI, ?_, old₃, ?_⟩
      · rintro a o (k | ⟨rfl, e⟩)
        · exact .inl (.inl (.inl k))
        · rw [kI3] at e; cases e
          exact .inl (.inl (.inr ⟨rfl, hoI⟩))
      · exact fun z => nP₁ (hk I oI (.inl (.inl (.inr ⟨rfl, hoI⟩))) z)
      · refine it.W.frame _ _ _ hs₁ fun b hb o e => ?_
        rcases it.fp b hb with rfl | ⟨pb, lb⟩
        · rw [hoI] at e; cases e; exact kI3
        · obtain ⟨o', ho'⟩ := Option.isSome_iff_exists.mp lb
          have e' := old₁ b o' ho' pb
          rw [e'] at e
          rw [← e]
          exact (old₃ b o' ho' pb).2
      · intro a o k p
        rcases hk a o (.inl (.inl (.inl k))) p with q | ⟨rfl, _⟩
        · exact L.hk a o k q
        · exact absurd k (L.kI o)
  cases hf with
  | nil =>
    have hlen : i = ds.length := by
      have := congrArg List.length hd
      simp at this
      omega
    subst hlen
    refine it.W.done _ _ _ L.si fun h₁ tk₁ hk₁ => ?_
    refine wpAny_execs_nil (hn σ rfl _ h₁ tk₁ ((moved h₁ hk₁).weakK (fun _ _ k => .inl k) b0 u0 f0) (fun a o e p => .inl (L.old a o e p).1) ?_)
    rintro a o k (q | ⟨rfl, _⟩)
    · exact L.hk a o k q
    · exact absurd k (L.kI o)
  | @next _ σ1 σ2 d ds' _ ha hb ht =>
    obtain ⟨hlt, hdi, hdr⟩ := drop_cons hd
    refine it.W.item i _ _ _ hlt L.si fun v h₁ tk₁ hPv hs₁ hk₁ => ?_
    refine turn d σ1 v h₁ tk₁ _ _ (.next σ2) hdi hPv hs₁ hk₁ ha hb (fun σ3 e P' h₃ tk₃ L₃ => ?_) (fun d e => by cases e)
    cases e
    exact ⟨ds.length + 1 - (i + 1), by omega, P', σ2, _, i + 1, h₃, tk₃, rfl, ht, hdr, hlt, L₃, rfl⟩
  | @ret _ σ1 d r ds' ha hb =>
    obtain ⟨hlt, hdi, hdr⟩ := drop_cons hd
    refine it.W.item i _ _ _ hlt L.si fun v h₁ tk₁ hPv hs₁ hk₁ => ?_
    refine turn d σ1 v h₁ tk₁ _ _ (.ret r) hdi hPv hs₁ hk₁ ha hb (fun σ3 e => by cases e) (fun d e v' h' tk' k rr => ?_)
    cases e
    exact hr r rfl v' h' tk' k rr

/-- for tgt in iter: body -/
theorem St1.for_ {tgt iter : Expr} {body : List Stmt} {pos : Pos} {d : D} {ds : List D} (h : Ev c n sc σ.ρ iter d) (it : Items d ds) (hf : ForR c n sc tgt body σ ds o)
    (hs : ∀ env x, foldedSetIterable iter env x = pure x := by intro _ _; rfl) : St1 c n sc σ (.For tgt iter body [] pos) o := by
  refine ⟨fun A P₀ P env K s Q E R F G => ?_⟩
  refine wpAny_For (h.run A P env s _ E R F.kn fun v h' tk ex r => ?_) (hs env)
  have F1 := F.ext ex
  refine iter_any (s := { s with heap := h', toks := tk }) R.handled r it fun I fp Pw SI h₁ io s0 ex₁ => ?_
  have F2 := F1.ext ex₁
  have lI := io.live _ _ s0
  obtain ⟨oI, hoI⟩ := Option.isSome_iff_exists.mp lI
  have nK : ∀ o, ¬ K I o := fun o k => by have := F1.keep I o k; rw [io.new] at this; cases this
  have nL : ∀ a, (h'.get? a).isSome = true → a ≠ I := by rintro a l rfl; rw [io.new] at l; cases l
  have lloc : (h'.get? env.locals).isSome = true := by obtain ⟨m, o, _, _, ho, _⟩ := F1.loc; rw [ho]; rfl
  have lcell : ∀ x a, env.cells.lookup x = some a → (h'.get? a).isSome = true := fun x a q => by obtain ⟨_, o, ho, _⟩ := F1.cell x a q; rw [ho]; rfl
  have L : LoopAt c P₀ sc env K ds I fp SI (fun a => P a ∧ a ≠ I) P h' σ 0 h₁ := {
    fl := {
      kn := ⟨F2.kn.ok, F2.kn.es, F2.kn.base, fun a e => ⟨F2.kn.up a e, fun q => by rw [q, hoI] at e; cases e⟩, fun x d hx => by
        obtain ⟨u, l, r⟩ := F1.kn.names x d hx
        exact ⟨u, l.ext ex₁, Rep.mono (fun a o _ e => ex₁ a o e) (fun a p l => ⟨p, nL a l⟩) d u r⟩⟩
      keep := fun a o z => z.elim (F2.keep a o) (fun q => q.2)
      baseK := fun a o e => .inl (F2.baseK a o e)
      sub := fun a p => F2.sub a p.1
      up0 := fun a z => F2.up0 a fun o k => z o (.inl k)
      loc := F2.loc
      locK := fun o z => z.elim (F2.locK o) fun q => nL _ lloc q.1
      locP := fun p => F2.locP p.1
      cell := F2.cell
      ownc := fun x a z q => let ⟨k, p⟩ := F2.ownc x a z q; ⟨fun o z => z.elim (k o) fun y => nL a (lcell x a q) y.1, fun z => p z.1⟩
      freec := fun x a z q => let ⟨o, k⟩ := F2.freec x a z q; ⟨o, .inl k⟩
      apart := F2.apart
      cls := F2.cls
      own := by
        have ow := F1.own
        match hx : σ.own, ow with
        | none, _ => trivial
        | some (y, es), ⟨a, vs, l, pl, k, p, r⟩ =>
          have la : (h'.get? a).isSome = true := by obtain ⟨o, n, ho, _⟩ := pl; rw [ho]; rfl
          exact ⟨a, vs, l.ext ex₁, pl.keeps ex₁, fun o z => z.elim (k o) fun q => nL a la q.1, fun z => p z.1, RepAll.mono (fun a o _ e => ex₁ a o e) (fun a p l => ⟨p, nL a l⟩) es vs r⟩ }
    nI := fun p => p.2 rfl
    kI := nK
    si := s0
    old := fun a o e p => ⟨⟨p, nL a (by rw [e]; rfl)⟩, ex₁ a o e⟩
    hk := fun a o k p => p.1 }
  refine for_loop (s0 := s) R io F.baseK F.up0 F.freec (fun σ' e => ?_) (fun d e => ?_) _ σ ds 0 h₁ tk hf rfl (Nat.zero_le _) L
  · subst e
    exact fun P' h'' tk' F' hp hk => G P' h'' tk' F' (fun a o e p => hp a o (ex a o e) p) hk
  · subst e
    exact fun v h'' tk' k r => G v h'' tk' k r
end

end Mine

/-! part C6 -/
namespace Mine

section
variable {c : Cx} {n : Nat} {sc : Scope} {σ σ' : Sg} {o : Out}

/-! ### while -/
inductive WhileR (c : Cx) (n : Nat) (sc : Scope) (t : Expr) (body : List Stmt) : Sg → Out → Prop
  | stop {σ : Sg} (ht : Tr c n sc σ.all t false) : WhileR c n sc t body σ (.next σ)
  | turn {σ σ1 : Sg} {o : Out} (ht : Tr c n sc σ.all t true) (hb : St c n sc σ body (.next σ1)) (hr : WhileR c n sc t body σ1 o) : WhileR c n sc t body σ o

theorem while_code {t : Expr} {body : List Stmt} (hw : WhileR c n sc t body σ o) {A : Around} {P₀ : Addr → Prop} {env : Env} {K : Addr → Obj → Prop} {R' : Result → Shared → Prop} (R : Room n A) :
    ∀ (P : Addr → Prop) (s : Shared), Fl c P₀ P sc env K σ s.heap →
    (∀ σ', o = .next σ' → ∀ P' h' tk, Fl c P₀ P' sc env K σ' h' → (∀ a o, s.heap.get? a = some o → P a → P' a) → (∀ a o, K a o → P' a → P a) → R' (.ok .next) { s with heap := h', toks := tk }) →
    (∀ d, o = .ret d → ∀ v h' tk, (∀ a o, K a o → h'.get? a = some o) → Rep h' P₀ d v → R' (.ok (.ret v)) { s with heap := h', toks := tk }) →
    codeAny c.M A (.whileLoop t body [] env) R' s := by
  induction hw with
  | @stop σ ht =>
    intro P s F g1 g2
    refine codeAny_of_tree ?_
    show wpAny c.M A ((whileTurn t body [] env).onRaise (fun x => do noteFrame x env; theTreesLotGoes x)) _ _ s
    refine wpAny_noted ?_
    unfold whileTurn
    refine wpAny_bind (ht.run A P₀ env s _ _ R F.knAll fun h' tk x => ?_)
    rw [if_neg (by decide)]
    refine wpAny_bind (wpAny_execs_nil (wpAny_pure ?_))
    exact g1 σ rfl P h' tk (F.ext x) (fun _ _ _ p => p) fun _ _ _ p => p
  | @turn σ σ1 o ht hb hr ih =>
    intro P s F g1 g2
    refine codeAny_of_tree ?_
    show wpAny c.M A ((whileTurn t body [] env).onRaise (fun x => do noteFrame x env; theTreesLotGoes x)) _ _ s
    refine wpAny_noted ?_
    unfold whileTurn
    refine wpAny_bind (ht.run A P₀ env s _ _ R F.knAll fun h' tk x => ?_)
    rw [if_pos rfl]
    have F1 := F.ext x
    refine wpAny_bind (hb.run A P₀ P env (bigK K P h') { s with heap := h', toks := tk } _ _ R F1.big fun P' h'' tk' F' hp hk => ?_)
    refine wpAny_pure ⟨rfl, ?_⟩
    have kept : ∀ a o, h'.get? a = some o → P a → h''.get? a = some o := fun a o e p => F'.keep a o (.inr ⟨e, p⟩)
    exact ih P' { s with heap := h'', toks := tk' } (F1.post_big F') (fun σ' e P'' h3 tk3 F3 hp' hk' => g1 σ' e P'' h3 tk3 F3 (fun a o e p => hp' a o (kept a o (x a o e) p) (hp a o (x a o e) p)) fun a o k p => hk a o (.inl k) (hk' a o k p)) g2

theorem St1.while_ {t : Expr} {body : List Stmt} {pos : Pos} (hw : WhileR c n sc t body σ o) : St1 c n sc σ (.While t body [] pos) o := by
  refine ⟨fun A P₀ P env K s Q E R F G => ?_⟩
  refine wpAny_While (while_code hw R P s F (fun σ' e => ?_) fun d e => ?_)
  · subst e; exact G
  · subst e; exact G

/-! ### a list that is being filled -/
structure EvNew (c : Cx) (n : Nat) (sc : Scope) (ρ : List (Str × D)) (e : Expr) (ds : List D) : Prop where
  run : ∀ (A : Around) (P : Addr → Prop) (env : Env) (s : Shared) (Q : Value → Shared → Prop) (E : Value → Shared → Prop), Room n A → Kn c P sc env ρ s.heap →
    (∀ a vs h' tk, Ext s.heap h' → s.heap.get? a = none → PlainL h' a (List.toArray vs) → RepAll h' (fun b => P b ∧ b ≠ a) ds vs → Q (.ref a) { s with heap := h', toks := tk }) → wpAny c.M A (eval e env) Q E s

theorem EvNew.list {ρ : List (Str × D)} {es : List Expr} {pos : Pos} {ds : List D} (h : EvAll c n sc ρ es ds) (hz : ds.length ≤ 16777216 := by decide) : EvNew c n sc ρ (.List es pos) ds := by
  refine ⟨fun A P env s Q E R I K => ?_⟩
  refine wpAny_List (h.2 A P env pos s _ E R I fun vs h' tk x r => ⟨by rw [r.length, sizeLine_eq]; exact hz, ?_⟩)
  have nw : s.heap.get? h'.objs.size = none := by
    cases q : s.heap.get? h'.objs.size with
    | none => rfl
    | some o => have := x _ _ q; rw [get_size] at this; cases this
  refine K _ vs _ _ (x.trans (.push _ _)) nw (plainL_new _ _) ?_
  exact RepAll.mono (fun a o _ e => Heap.get?_push_of_some _ e) (fun a p l => ⟨p, fun q => by rw [q] at l; rw [get_size] at l; cases l⟩) ds vs r

theorem Fl.storeOwn {A : Around} {P₀ P : Addr → Prop} {env : Env} {K : Addr → Obj → Prop} {s : Shared} {x : Str} {a : Addr} {vs : List Value} {ds : List D} {Q : Unit → Shared → Prop} {E : Value → Shared → Prop} (F : Fl c P₀ P sc env K σ s.heap)
    (pl : PlainL s.heap a vs.toArray) (nK : ∀ o, ¬ K a o) (nP : ¬ P a) (r : RepAll s.heap P ds vs)
    (hk : Sto sc x) (hρ : ∀ p ∈ σ'.ρ, p ∈ σ.ρ ∧ p.1 ≠ x) (ho : σ'.own = some (x, ds))
    (G : ∀ h' tk, Fl c P₀ P sc env K σ' h' → Q () { s with heap := h', toks := tk }) : wpAny c.M A (storeName env x (.ref a)) Q E s := by
  refine store_any F.kn.es (hk.imp id fun z => ⟨z, F.cls x z⟩) F.loc F.cell F.apart fun h' tk b hs hb lx ly hl hc => G h' tk ?_
  have npa : ¬ P b ∧ (∀ o, ¬ K b o) ∧ (s.heap.get? b).isSome = true ∧ (h'.get? b).isSome = true ∧ a ≠ b := by
    obtain ⟨o2, n2, ho2, hc2, _, hd2⟩ := pl
    rcases hb with rfl | ⟨y, hy⟩
    · obtain ⟨m, o1, _, _, ho, hd, _⟩ := F.loc
      obtain ⟨m', _, _, _, ho', _⟩ := hl
      refine ⟨F.locP, F.locK, by rw [ho]; rfl, by rw [ho']; rfl, fun q => ?_⟩
      rw [← q, ho2] at ho; cases ho; rw [hd] at hd2; cases hd2
    · obtain ⟨_, o1, ho, hd⟩ := F.cell x b hy
      obtain ⟨_, _, ho', _⟩ := hc x b hy
      obtain ⟨k, p⟩ := F.ownc x b (hk.resolve_left y) hy
      refine ⟨p, k, by rw [ho]; rfl, by rw [ho']; rfl, fun q => ?_⟩
      rw [← q, ho2] at ho; cases ho; rw [hd] at hd2; cases hd2
  obtain ⟨np, nk, l1, l2, nab⟩ := npa
  have keep : ∀ b o, K b o → h'.get? b = some o := fun b o k => (hs.2 b (fun q => nk o (q ▸ k))).trans (F.keep b o k)
  exact {
    kn := ⟨F.kn.ok, F.kn.es, fun b o e => keep b o (F.baseK b o e), fun b e => F.kn.up b (sameBut_none hs l1 e l2), by
      intro y e hy
      obtain ⟨q, ne⟩ := hρ _ hy
      obtain ⟨u, l, r'⟩ := F.kn.names y e q
      exact ⟨u, ly y u ne l, rep_sameBut hs np r'⟩⟩
    keep := keep
    baseK := F.baseK
    sub := F.sub
    up0 := F.up0
    loc := hl
    locK := F.locK
    locP := F.locP
    cell := hc
    ownc := F.ownc
    freec := F.freec
    apart := F.apart
    cls := F.cls
    own := by
      rw [ho]
      exact ⟨a, vs, lx, pl.extBut hs.extBut nab, nK, nP, repAll_sameBut hs np r⟩ }

/-- x = a new list, to be filled -/
theorem St1.assignNew {x : Str} {p pos : Pos} {e : Expr} {ds : List D} (h : EvNew c n sc σ.ρ e ds) (hk : Sto sc x) (hρ : ∀ p ∈ σ'.ρ, p ∈ σ.ρ ∧ p.1 ≠ x) (ho : σ'.own = some (x, ds))
    (hs : ∀ env, EnvS sc env → swapsWith e (some (.Name x p)) pos.line env = pure false := by intro _ _; rfl) : St1 c n sc σ (.Assign [.Name x p] e pos) (.next σ') := by
  refine ⟨fun A P₀ P env K s Q E R F G => ?_⟩
  refine wpAny_Assign_Name (h.run A P env s _ E R F.kn fun a vs h' tk ex nw pl r => ?_) (hs env F.kn.es)
  have nL : ∀ b, (s.heap.get? b).isSome = true → b ≠ a := by rintro b l rfl; rw [nw] at l; cases l
  have F1 : Fl c P₀ (fun b => P b ∧ b ≠ a) sc env K ⟨σ.ρ, none⟩ h' := {
    kn := ⟨F.kn.ok, F.kn.es, F.kn.base.trans ex, fun b e => ⟨(F.kn.up.ext ex) b e, fun q => by obtain ⟨o, n, ho, _⟩ := pl; rw [q, ho] at e; cases e⟩, fun y d hy => by
      obtain ⟨u, l, r⟩ := F.kn.names y d hy
      exact ⟨u, l.ext ex, Rep.mono (fun b o _ e => ex b o e) (fun b p l => ⟨p, nL b l⟩) d u r⟩⟩
    keep := fun b o k => ex b o (F.keep b o k)
    baseK := F.baseK
    sub := fun b p => F.sub b p.1
    up0 := F.up0
    loc := (F.ext ex).loc
    locK := F.locK
    locP := fun p => F.locP p.1
    cell := (F.ext ex).cell
    ownc := fun y b z q => let ⟨k, p⟩ := F.ownc y b z q; ⟨k, fun z => p z.1⟩
    freec := F.freec
    apart := F.apart
    cls := F.cls
    own := trivial }
  refine F1.storeOwn (s := { s with heap := h', toks := tk }) (σ' := σ') pl (fun o k => ?_) (fun p => p.2 rfl) r hk hρ ho fun h'' tk' F' => ?_
  · have := F.keep a o k; rw [nw] at this; cases this
  · exact G _ h'' tk' F' (fun b o e p => ⟨p, nL b (by rw [e]; rfl)⟩) fun b o k p => p.1

theorem repAll_flat {h h' : Heap} {P P' : Addr → Prop} : ∀ {ds : List D} {vs : List Value}, (∀ d ∈ ds, d.flat = true) → RepAll h P ds vs → RepAll h' P' ds vs
  | [], _, _, r => r
  | d :: _, _, hf, ⟨v, vs', e, r, ra⟩ => ⟨v, vs', e, r.flat (hf d List.mem_cons_self), repAll_flat (fun x hx => hf x (List.mem_cons_of_mem _ hx)) ra⟩
structure EvIn (c : Cx) (n : Nat) (sc : Scope) (σ : Sg) (e : Expr) (d : D) : Prop where
  run : ∀ (A : Around) (P₀ P : Addr → Prop) (env : Env) (K : Addr → Obj → Prop) (s : Shared) (Q : Value → Shared → Prop) (E : Value → Shared → Prop), Room n A → Fl c P₀ P sc env K σ s.heap →
    (∀ v h' tk, Ext s.heap h' → Rep h' P d v → Q v { s with heap := h', toks := tk }) → wpAny c.M A (eval e env) Q E s
/-- x.append(e) -/
theorem St1.appendG {x : Str} {p apos cpos pos : Pos} {e : Expr} {ds : List D} {d : D} (hx : σ.own = some (x, ds)) (h : EvIn c n sc σ e d)
    (hσ : σ' = ⟨σ.ρ, some (x, ds ++ [d])⟩) (hz : ds.length ≤ 16777216)
    (hl : (apos.endLine == cpos.line) = true := by rfl) (he : ∀ env, starEach [e] env = [(false, eval e env)] := by intro _; rfl) :
    St1 c n sc σ (.Expr (.Call (.Attribute (.Name x p) (Str.ofString "append") apos) [e] [] cpos) pos) (.next σ') := by
  refine ⟨fun A P₀ P env K s Q E R F G => ?_⟩
  have ow := F.own
  rw [hx] at ow
  obtain ⟨a, vs, l, pl, nK, nP, ra⟩ := ow
  have ht : backTo cpos (starEach [e] env) = [(false, eval e env)] := by rw [he]; rfl
  have fin : ∀ (v : Value) (h' : Heap) (tk : Nat), Ext s.heap h' → Rep h' P d v → wpAny c.M A (call (.builtin "list.append") [.ref a, v]) (fun v s' => match v with | .ref _ => False | _ => Q .next s') E { s with heap := h', toks := tk } := by
    intro v h' tk ex rv
    have F1 := F.ext ex
    have pl1 := pl.keeps ex
    refine list_append_plainL (s := { s with heap := h', toks := tk }) pl1 (fun h'' pl2 hs => ?_) (by rw [List.size_toArray, ra.length, sizeLine_eq]; exact hz)
    refine G P h'' tk ?_ (fun _ _ _ p => p) fun _ _ _ p => p
    obtain ⟨oa, na, hoa, hca, hda, hdd⟩ := id pl1
    obtain ⟨ob, nb, hob, _⟩ := id pl2
    have keep : ∀ b o, K b o → h''.get? b = some o := fun b o k => (hs.2 b (fun q => nK o (q ▸ k))).trans (F1.keep b o k)
    have nloc : env.locals ≠ a := by
      obtain ⟨m, o1, _, _, ho, hd, _⟩ := F1.loc
      intro q; rw [q, hoa] at ho; cases ho; rw [hd] at hdd; cases hdd
    have ncell : ∀ y b, env.cells.lookup y = some b → b ≠ a := by
      intro y b hb q
      obtain ⟨w, o1, ho, hd⟩ := F1.cell y b hb
      rw [q, hoa] at ho; cases ho; rw [hd] at hdd; cases hdd
    have look : ∀ y u, Look h' env y u → Look h'' env y u := by
      rintro y u (⟨k, m, hn, hm⟩ | ⟨k, b, hb, hv⟩)
      · exact .inl ⟨k, m, hn.sameBut hs nloc, hm⟩
      · exact .inr ⟨k, b, hb, hv.sameBut hs (ncell y b hb)⟩
    subst hσ
    exact {
      kn := ⟨F1.kn.ok, F1.kn.es, fun b o e => keep b o (F1.baseK b o e), fun b e => F1.kn.up b (sameBut_none hs (by show (h'.get? a).isSome = true; rw [hoa]; rfl) e (by rw [hob]; rfl)), by
        intro y e hy
        obtain ⟨u, l, r'⟩ := F1.kn.names y e hy
        exact ⟨u, look y u l, rep_sameBut hs nP r'⟩⟩
      keep := keep
      baseK := F1.baseK
      sub := F1.sub
      up0 := F1.up0
      loc := let ⟨m, hm⟩ := F1.loc; ⟨m, hm.sameBut hs nloc⟩
      locK := F1.locK
      locP := F1.locP
      cell := fun y b q => let ⟨w, hw⟩ := F1.cell y b q; ⟨w, hw.sameBut hs (ncell y b q)⟩
      ownc := F1.ownc
      freec := F1.freec
      apart := F1.apart
      cls := F1.cls
      own := ⟨a, vs ++ [v], look x _ (l.ext ex), by simpa using pl2, nK, nP, (repAll_sameBut hs nP (ra.ext ex)).append ⟨v, [], rfl, rep_sameBut hs nP rv, rfl⟩⟩ }
  refine wpAny_Expr (wpAny_Call_append rfl ?_ hl ht ?_) (by unfold interactive; rw [F.kn.es.kind]; rfl)
  · rw [ht]; rfl
  · refine wpAny_Name (F.kn.load l ⟨a, _, rfl, pl, ?_⟩) (F.kn.notDebug l)
    exact h.run A P₀ P env K s _ E R F fun v h' tk ex rv => fin v h' tk ex rv

theorem St1.append {x : Str} {p apos cpos pos : Pos} {e : Expr} {ds : List D} {d : D} (hx : σ.own = some (x, ds)) (h : Ev c n sc σ.ρ e d ∨ (d.flat = true ∧ Ev c n sc σ.all e d))
    (hσ : σ' = ⟨σ.ρ, some (x, ds ++ [d])⟩) (hz : ds.length ≤ 16777216)
    (hl : (apos.endLine == cpos.line) = true := by rfl) (he : ∀ env, starEach [e] env = [(false, eval e env)] := by intro _; rfl) :
    St1 c n sc σ (.Expr (.Call (.Attribute (.Name x p) (Str.ofString "append") apos) [e] [] cpos) pos) (.next σ') := by
  refine St1.appendG hx ?_ hσ hz hl he
  refine ⟨fun A P₀ P env K s Q E R F G => ?_⟩
  rcases h with h | ⟨hf, h⟩
  · exact h.run A P env s _ E R F.kn fun v h' tk ex rv => G v h' tk ex rv
  · exact h.run A P₀ env s _ E R F.knAll fun v h' tk ex rv => G v h' tk ex (rv.flat hf)

/-- x.append(a new list of plain values) -/
theorem St1.appendNew {x : Str} {p apos cpos pos : Pos} {e : Expr} {ds es : List D} (hx : σ.own = some (x, ds)) (h : EvNew c n sc σ.all e es) (hf : ∀ d ∈ es, d.flat = true)
    (hσ : σ' = ⟨σ.ρ, some (x, ds ++ [.lst es])⟩) (hz : ds.length ≤ 16777216)
    (hl : (apos.endLine == cpos.line) = true := by rfl) (he : ∀ env, starEach [e] env = [(false, eval e env)] := by intro _; rfl) :
    St1 c n sc σ (.Expr (.Call (.Attribute (.Name x p) (Str.ofString "append") apos) [e] [] cpos) pos) (.next σ') := by
  refine St1.appendG hx ?_ hσ hz hl he
  refine ⟨fun A P₀ P env K s Q E R F G => ?_⟩
  exact h.run A P₀ env s _ E R F.knAll fun a vs h' tk ex nw pl ra => G _ h' tk ex ⟨a, vs, rfl, F.kn.up a nw, pl, repAll_flat hf ra⟩

theorem EvNew.addL {ρ : List (Str × D)} {l r : Expr} {pos : Pos} {a b : List D} (h1 : Ev c n sc ρ l (.lst a)) (h2 : Ev c n sc ρ r (.lst b)) (hz : a.length + b.length ≤ 16777216) : EvNew c n sc ρ (.BinOp l .Add r pos) (a ++ b) := by
  refine ⟨fun A P env s Q E R I K => ?_⟩
  refine wpAny_BinOp (h1.run A P env s _ E R I fun v1 h' tk x r1 => h2.run A P env _ _ E R (I.ext x) fun v2 h'' tk' x' r2 => ?_)
  obtain ⟨l, vs, rfl, pa, pl, ra⟩ := r1.ext x'
  obtain ⟨m, ws, rfl, pb, pm, rb⟩ := r2
  obtain ⟨⟨cls, dd, data, sl⟩, k, ho, hc, hd0, hd⟩ := id pl
  obtain ⟨⟨cls2, dd2, data2, sl2⟩, k2, ho2, hc2, hd02, hd2⟩ := id pm
  simp only at hc hd hc2 hd2
  subst hc hd hc2 hd2
  have hsz : vs.toArray.size + ws.toArray.size ≤ sizeLine := by simp [ra.length, rb.length, sizeLine_eq]; exact hz
  refine concat_meets ⟨_, ho, rfl⟩ ⟨_, ho2, rfl⟩ PySem.noFill_list_add PySem.seq_list_add PySem.F.slot_list_add PySem.F.entry_list_add (PySem.F.args_list_add_2 _ _) (list_addW l m vs.toArray ws.toArray k k2 dd dd2 sl sl2 hsz) ⟨ho, ho2, ?_⟩
  have e : vs.toArray ++ ws.toArray = (vs ++ ws).toArray := by simp
  rw [e]
  have nw : s.heap.get? h''.objs.size = none := by
    cases q : s.heap.get? h''.objs.size with
    | none => rfl
    | some o => have := x' _ _ (x _ _ q); rw [get_size] at this; cases this
  refine K _ (vs ++ ws) _ _ ((x.trans x').trans (.push _ _)) nw (plainL_new _ _) ?_
  exact RepAll.mono (fun a o _ e => Heap.get?_push_of_some _ e) (fun a p l => ⟨p, fun q => by rw [q] at l; rw [get_size] at l; cases l⟩) _ _ (ra.append rb)

/-! ### weaker ends; loops by an invariant -/
theorem Fl.subO {P₀ P : Addr → Prop} {env : Env} {K : Addr → Obj → Prop} {h : Heap} (F : Fl c P₀ P sc env K σ h) (hs : ∀ p ∈ σ'.ρ, p ∈ σ.ρ) (ho : σ'.own = none ∨ σ'.own = σ.own) : Fl c P₀ P sc env K σ' h where
  kn := F.kn.sub hs
  keep := F.keep
  baseK := F.baseK
  sub := F.sub
  up0 := F.up0
  loc := F.loc
  locK := F.locK
  locP := F.locP
  cell := F.cell
  ownc := F.ownc
  freec := F.freec
  apart := F.apart
  cls := F.cls
  own := by
    rcases ho with q | q <;> rw [q]
    · trivial
    · exact F.own
theorem StG.weak {t : Env → Sem Flow} {σ1 σ2 : Sg} (h : StG c n sc σ t (.next σ1)) (hs : ∀ p ∈ σ2.ρ, p ∈ σ1.ρ) (ho : σ2.own = none ∨ σ2.own = σ1.own) : StG c n sc σ t (.next σ2) :=
  ⟨fun A P₀ P env K s Q E R F G => h.run A P₀ P env K s Q E R F fun P' h' tk F' hp hk => G P' h' tk (F'.subO hs ho) hp hk⟩
theorem StG.pre {t : Env → Sem Flow} {σ0 : Sg} (h : StG c n sc σ t o) (hs : ∀ p ∈ σ.ρ, p ∈ σ0.ρ) (ho : σ.own = none ∨ σ.own = σ0.own) : StG c n sc σ0 t o :=
  ⟨fun A P₀ P env K s Q E R F G => h.run A P₀ P env K s Q E R (F.subO hs ho) G⟩

theorem WhileR.of {α : Type} {t : Expr} {body : List Stmt} (S : α → Sg) (I : α → Prop) (μ : α → Nat) (a0 : α) (i0 : I a0)
    (h : ∀ a, I a → (Tr c n sc (S a).all t false ∧ o = .next (S a)) ∨ ∃ b, I b ∧ μ b < μ a ∧ Tr c n sc (S a).all t true ∧ St c n sc (S a) body (.next (S b))) : WhileR c n sc t body (S a0) o := by
  have key : ∀ k a, μ a < k → I a → WhileR c n sc t body (S a) o := by
    intro k
    induction k with
    | zero => intro a q; exact absurd q (Nat.not_lt_zero _)
    | succ k ih =>
      intro a q i
      rcases h a i with ⟨h1, h2⟩ | ⟨b, ib, hb, ht, hs⟩
      · subst h2; exact .stop h1
      · exact .turn ht hs (ih b (by omega) ib)
  exact key _ a0 (Nat.lt_succ_self _) i0

theorem ForR.of {α γ : Type} {tgt : Expr} {body : List Stmt} (S : α → Sg) (g : γ → D) (step : α → γ → α) (J : α → Prop) (xs : List γ)
    (h : ∀ a x, J a → x ∈ xs → J (step a x) ∧ ∃ σ1, AsgR c n sc tgt (g x) (S a) σ1 ∧ St c n sc σ1 body (.next (S (step a x)))) (a : α) (j : J a) : ForR c n sc tgt body (S a) (xs.map g) (.next (S (xs.foldl step a))) := by
  induction xs generalizing a with
  | nil => exact .nil _
  | cons x xs ih =>
    obtain ⟨j1, σ1, ha, hb⟩ := h a x j List.mem_cons_self
    exact .next ha hb (ih (fun a x j hx => h a x j (List.mem_cons_of_mem _ hx)) _ j1)
end

end Mine

/-! part C7 -/
namespace Mine

/-! ## Calls of the text's own defs -/
structure ScOk (sc : Scope) : Prop where
  kind : sc.kind = .function
  nodebug : sc.names.lookup (Str.ofString "__debug__") = none
  noclass : sc.names.lookup (Str.ofString "__classdict__") = none
  nodup : (sc.names.map (·.1)).Nodup

theorem mem_cellsFrom {x : Str} : ∀ {names : List (Str × NameKind)} {k : Nat} {acc : List (Str × Addr)}, ((acc.lookup x).isSome = true ∨ (x, NameKind.cell) ∈ names) → ((cellsFrom k names acc).lookup x).isSome = true
  | [], _, acc, h => by
    rcases h with h | h
    · exact h
    · cases h
  | (y, kd) :: r, k, acc, h => by
    unfold cellsFrom
    by_cases q : (kd == NameKind.cell) = true
    · rw [if_pos q]
      refine mem_cellsFrom ?_
      by_cases e : x = y
      · subst e; exact .inl (by simp)
      · rcases h with h | h
        · refine .inl ?_
          rw [List.lookup_cons, show (x == y) = false from beq_eq_false_iff_ne.mpr e]; exact h
        · rcases List.mem_cons.mp h with z | z
          · cases z; exact absurd rfl e
          · exact .inr z
    · rw [if_neg q]
      refine mem_cellsFrom ?_
      rcases h with h | h
      · exact .inl h
      · rcases List.mem_cons.mp h with z | z
        · cases z; exact absurd rfl q
        · exact .inr z

theorem lookup_of_nodup {α : Type} {x : Str} {k : α} : ∀ {l : List (Str × α)}, (l.map (·.1)).Nodup → (x, k) ∈ l → l.lookup x = some k
  | [], _, h => by cases h
  | (y, v) :: r, nd, h => by
    have nd' := List.nodup_cons.mp nd
    rw [List.lookup_cons]
    rcases List.mem_cons.mp h with e | h
    · cases e; simp
    · have : (x == y) = false := beq_eq_false_iff_ne.mpr fun e => nd'.1 (List.mem_map.mpr ⟨_, h, e⟩)
      rw [this]; exact lookup_of_nodup nd'.2 h
theorem cellsFrom_mem {x : Str} {a : Addr} : ∀ {names : List (Str × NameKind)} {k : Nat} {acc : List (Str × Addr)}, (x, a) ∈ cellsFrom k names acc → (x, a) ∈ acc ∨ (x, NameKind.cell) ∈ names
  | [], _, _, h => .inl h
  | (y, kd) :: r, k, acc, h => by
    unfold cellsFrom at h
    split at h
    · rename_i q
      rcases cellsFrom_mem h with z | z
      · rcases List.mem_cons.mp z with e | e
        · cases e
          refine .inr ?_
          have : kd = NameKind.cell := by simpa using q
          subst this; exact List.mem_cons_self
        · exact .inl e
      · exact .inr (List.mem_cons_of_mem _ z)
    · rcases cellsFrom_mem h with z | z
      · exact .inl z
      · exact .inr (List.mem_cons_of_mem _ z)

theorem bindL_other {kd : Str → Option NameKind} {x : Str} : ∀ {bs : List (Str × Value)} {m : Str → Option Value}, (∀ b ∈ bs, b.1 ≠ x) → bindL kd bs m x = m x
  | [], _, _ => rfl
  | (y, v) :: r, m, h => by
    unfold bindL
    rw [bindL_other fun b hb => h b (List.mem_cons_of_mem _ hb)]
    have : x ≠ y := fun e => h (y, v) List.mem_cons_self e.symm
    split
    · simp [this]
    · rfl
theorem bindC_other {kd : Str → Option NameKind} {x : Str} : ∀ {bs : List (Str × Value)} {m : Str → Option Value}, (∀ b ∈ bs, b.1 ≠ x) → bindC kd bs m x = m x
  | [], _, _ => rfl
  | (y, v) :: r, m, h => by
    unfold bindC
    rw [bindC_other fun b hb => h b (List.mem_cons_of_mem _ hb)]
    have : x ≠ y := fun e => h (y, v) List.mem_cons_self e.symm
    split
    · rfl
    · simp [this]
theorem bindL_at {kd : Str → Option NameKind} {x : Str} {v : Value} (hk : kd x = some .local) : ∀ {bs : List (Str × Value)} {m : Str → Option Value}, (bs.map (·.1)).Nodup → (x, v) ∈ bs → bindL kd bs m x = some v
  | [], _, _, h => by cases h
  | (y, u) :: r, m, nd, h => by
    have nd' := List.nodup_cons.mp nd
    unfold bindL
    rcases List.mem_cons.mp h with e | h
    · cases e
      rw [if_pos hk, bindL_other fun b hb e => nd'.1 (List.mem_map.mpr ⟨b, hb, e⟩)]
      simp
    · exact bindL_at hk nd'.2 h
theorem bindC_at {kd : Str → Option NameKind} {x : Str} {v : Value} (hk : kd x ≠ some .local) : ∀ {bs : List (Str × Value)} {m : Str → Option Value}, (bs.map (·.1)).Nodup → (x, v) ∈ bs → bindC kd bs m x = some v
  | [], _, _, h => by cases h
  | (y, u) :: r, m, nd, h => by
    have nd' := List.nodup_cons.mp nd
    unfold bindC
    rcases List.mem_cons.mp h with e | h
    · cases e
      rw [if_neg hk, bindC_other fun b hb e => nd'.1 (List.mem_map.mpr ⟨b, hb, e⟩)]
      simp
    · exact bindC_at hk nd'.2 h

section
variable {c : Cx} {n : Nat}

theorem zip_rep {h : Heap} {P : Addr → Prop} : ∀ {ps : List Str} {ds : List D} {vs : List Value}, RepAll h P ds vs → ∀ {x : Str} {d : D}, (x, d) ∈ ps.zip ds → ∃ v, (x, v) ∈ ps.zip vs ∧ Rep h P d v
  | [], _, _, _, _, _, hx => by simp at hx
  | _ :: _, [], _, _, _, _, hx => by simp at hx
  | p :: ps, d :: ds, _, ⟨v, vs, e, r, ra⟩, x, d', hx => by
    subst e
    rcases List.mem_cons.mp hx with q | q
    · cases q; exact ⟨v, List.mem_cons_self, r⟩
    · obtain ⟨u, hu, ru⟩ := zip_rep ra q
      exact ⟨u, List.mem_cons_of_mem _ hu, ru⟩
theorem zip_names : ∀ {ps : List Str} {vs : List Value}, ps.length = vs.length → (ps.zip vs).map (·.1) = ps
  | [], _, _ => rfl
  | _ :: _, [], h => by simp at h
  | p :: ps, v :: vs, h => by simp only [List.zip_cons_cons, List.map_cons]; rw [zip_names (by simpa using h)]

theorem CallR.body {f : Str} {a : Addr} {name : Str} {params : Arguments} {body : List Stmt} {sc : Scope} {pm cd doc : Value} {ds : List D} {d : D} {ps : List Str}
    (hf : FnAt c f a (Calls.docDef name params body sc pm cd doc)) (hcd : c.B.CodeRec cd name) (so : ScOk sc)
    (hb : ∀ vs : List Value, vs.length = ds.length → bindArgs (Calls.docDef name params body sc pm cd doc) ⟨vs, []⟩ = pure (ps.zip vs))
    (hl : ps.length = ds.length) (nd : ps.Nodup) (hst : ∀ p ∈ ps, Sto sc p)
    (hs : St c n sc ⟨ps.zip ds, none⟩ body (.ret d)) (hco : sc.isCoroutine = false := by rfl) (hgen : sc.isGenerator = false := by rfl) : CallR c (n + 1) (.ref a) ds d := by
  intro A P₀ s Q E vs H ra K
  obtain ⟨o, ho, hd⟩ := hf.o
  have hlv : vs.length = ds.length := ra.length
  refine wpAny_call ?_
  refine call_cells_ret (by have := H.room.depth; omega) (H.base _ _ ho) hd (H.ok.nolimit.keeps H.base) (hcd.keeps H.base) (hb vs hlv) ?_ ?_ hco hgen so.kind
  · intro x hx
    have hp : x.1 ∈ ps := by
      have := List.mem_map (f := fun q : Str × Value => q.1).mpr ⟨x, hx, rfl⟩
      rwa [zip_names (by rw [hl, hlv])] at this
    rcases hst _ hp with q | q
    · exact .inl q
    · exact .inr ⟨q, mem_cellsFrom (.inr (mem_of_lookup q))⟩
  intro h₁ tk F X
  have nd' : ((ps.zip vs).map (·.1)).Nodup := by rw [zip_names (by rw [hl, hlv])]; exact nd
  have hks : ∀ x, (envOfC name sc s.heap.objs.size a cd).kindOf x = sc.names.lookup x := fun _ => rfl
  have nwL : s.heap.get? s.heap.objs.size = none := get_size _
  have nwc : ∀ x b, (cellsFrom (s.heap.objs.size + 1) sc.names []).lookup x = some b → s.heap.get? b = none := by
    intro x b hb
    have h1 : s.heap.objs.size < b := X.above x b (mem_of_lookup hb)
    cases q : s.heap.get? b with
    | none => rfl
    | some o => exact absurd (Heap.lt_size q) (Nat.not_lt.mpr (Nat.le_of_lt h1))
  have ext : Ext s.heap h₁ := F.keep
  have F0 : Fl c P₀ (fun b => P₀ b ∧ b ≠ s.heap.objs.size ∧ ∀ x, (cellsFrom (s.heap.objs.size + 1) sc.names []).lookup x ≠ some b) sc (envOfC name sc s.heap.objs.size a cd) (fun b o => s.heap.get? b = some o) ⟨ps.zip ds, none⟩ h₁ := {
    kn := {
      ok := H.ok
      es := ⟨so.kind, rfl, rfl, fun _ => rfl, so.nodebug, so.noclass⟩
      base := H.base.trans ext
      up := by
        intro b e
        refine ⟨(H.up.ext ext) b e, ?_, ?_⟩
        · rintro rfl
          obtain ⟨o, _, _, ho, _⟩ := F.ns
          rw [ho] at e; cases e
        · intro x hx
          obtain ⟨o, ho, _⟩ := X.cell x b hx
          rw [ho] at e; cases e
      names := by
        intro x e hx
        obtain ⟨v, hv, r⟩ := zip_rep ra hx
        have hp : x ∈ ps := by
          have := List.mem_map (f := fun q : Str × Value => q.1).mpr ⟨_, hv, rfl⟩
          rwa [zip_names (by rw [hl, hlv])] at this
        refine ⟨v, ?_, Rep.mono (fun b o _ e => ext b o e) (fun b p l => ⟨p, fun q => ?_, fun y hy => ?_⟩) e v r⟩
        · rcases hst _ hp with q | q
          · exact .inl ⟨q, _, F.ns, bindL_at q nd' hv⟩
          · obtain ⟨b, hb⟩ := Option.isSome_iff_exists.mp (mem_cellsFrom (k := s.heap.objs.size + 1) (acc := []) (.inr (mem_of_lookup q)))
            refine .inr ⟨.inl q, b, hb, ?_⟩
            have := X.cell x b hb
            rwa [bindC_at (by rw [hks, q]; exact fun z => nomatch z) nd' hv] at this
        · rw [q, nwL] at l; cases l
        · rw [nwc y b hy] at l; cases l }
    keep := fun b o e => ext b o e
    baseK := H.base
    sub := fun b p => p.1
    up0 := fun b q => H.up b (by
      cases z : s.heap.get? b with
      | none => rfl
      | some o => exact absurd z (q o))
    loc := ⟨_, F.ns⟩
    locK := fun o e => by rw [show s.heap.get? s.heap.objs.size = some o from e] at nwL; cases nwL
    locP := fun p => p.2.1 rfl
    cell := fun x b q => ⟨_, X.cell x b q⟩
    ownc := fun x b _ q => ⟨fun o (e : s.heap.get? b = some o) => (by rw [nwc x b q] at e; cases e), fun p => p.2.2 x q⟩
    freec := fun x b z q => by
      rcases cellsFrom_mem (mem_of_lookup q) with w | w
      · cases w
      · exact absurd (lookup_of_nodup so.nodup w) z
    apart := .of X.apart
    cls := fun x q => ⟨q, mem_cellsFrom (.inr (mem_of_lookup q))⟩
    own := trivial }
  exact hs.run _ P₀ _ _ _ { s with heap := h₁, toks := tk } _ _ H.room.deeper F0 fun v h' tk' k r => K v h' tk' (fun b o e => k b o e) r
end

end Mine

/-! part C8 -/
namespace Mine

/-! ## Comprehensions -/
def clF (f : Str → Option Addr) : List (Str × NameKind) → List (Str × Addr) → List (Str × Addr)
  | [], acc => acc
  | (n, k) :: r, acc => if k == .free then clF f r ((n, (f n).getD 0) :: acc) else clF f r acc

theorem forIn_clF {env : Env} (f : Str × NameKind → List (Str × Addr) → Sem (ForInStep (List (Str × Addr))))
    (hf : ∀ n k cs, f (n, k) cs = if k == .free then (do let a ← cellOf env n; pure (.yield ((n, a) :: cs))) else pure (.yield cs)) :
    ∀ (names : List (Str × NameKind)) (acc : List (Str × Addr)), (∀ n, (n, NameKind.free) ∈ names → (env.cells.lookup n).isSome = true) → forIn names acc f = pure (clF (fun n => env.cells.lookup n) names acc)
  | [], acc, _ => by rw [List.forIn_nil]; rfl
  | (n, k) :: r, acc, h => by
    have hr : ∀ m, (m, NameKind.free) ∈ r → (env.cells.lookup m).isSome = true := fun m hm => h m (List.mem_cons_of_mem _ hm)
    rw [List.forIn_cons, hf]
    unfold clF
    by_cases q : (k == NameKind.free) = true
    · have hk : k = .free := by simpa using q
      subst hk
      obtain ⟨a, ha⟩ := Option.isSome_iff_exists.mp (h n List.mem_cons_self)
      rw [if_pos q, if_pos q]
      have e : cellOf env n = pure a := by unfold cellOf; rw [ha]
      rw [e, pure_bind, pure_bind, ha]
      exact forIn_clF f hf r _ hr
    · rw [if_neg q, if_neg q, pure_bind]
      exact forIn_clF f hf r _ hr

theorem closureFor_eq {scope : Scope} {env : Env} (h : ∀ n, (n, NameKind.free) ∈ scope.names → (env.cells.lookup n).isSome = true) : closureFor scope env = pure (clF (fun n => env.cells.lookup n) scope.names []) := by
  unfold closureFor
  show (forIn scope.names [] _ >>= fun r => pure r) = _
  rw [forIn_clF _ (fun n k cs => rfl) scope.names [] h]
  rfl

theorem clF_mem {f : Str → Option Addr} {x : Str} {a : Addr} : ∀ {names : List (Str × NameKind)} {acc : List (Str × Addr)}, (x, a) ∈ clF f names acc → (x, a) ∈ acc ∨ ((x, NameKind.free) ∈ names ∧ a = (f x).getD 0)
  | [], _, h => .inl h
  | (n, k) :: r, acc, h => by
    unfold clF at h
    split at h
    · rename_i q
      have hk : k = .free := by simpa using q
      subst hk
      rcases clF_mem h with z | z
      · rcases List.mem_cons.mp z with e | e
        · cases e; exact .inr ⟨List.mem_cons_self, rfl⟩
        · exact .inl e
      · exact .inr ⟨List.mem_cons_of_mem _ z.1, z.2⟩
    · rcases clF_mem h with z | z
      · exact .inl z
      · exact .inr ⟨List.mem_cons_of_mem _ z.1, z.2⟩
theorem clF_has {f : Str → Option Addr} {x : Str} : ∀ {names : List (Str × NameKind)} {acc : List (Str × Addr)}, ((acc.lookup x).isSome = true ∨ (x, NameKind.free) ∈ names) → ((clF f names acc).lookup x).isSome = true
  | [], _, h => h.elim id fun z => nomatch z
  | (n, k) :: r, acc, h => by
    unfold clF
    by_cases q : (k == NameKind.free) = true
    · rw [if_pos q]
      refine clF_has ?_
      by_cases e : x = n
      · subst e; exact .inl (by simp)
      · rcases h with h | h
        · exact .inl (by rw [List.lookup_cons, show (x == n) = false from beq_eq_false_iff_ne.mpr e]; exact h)
        · rcases List.mem_cons.mp h with z | z
          · cases z; exact absurd rfl e
          · exact .inr z
    · rw [if_neg q]
      refine clF_has ?_
      rcases h with h | h
      · exact .inl h
      · rcases List.mem_cons.mp h with z | z
        · cases z; exact absurd rfl q
        · exact .inr z
theorem clF_lookup {f : Str → Option Addr} {names : List (Str × NameKind)} {x : Str} {a : Addr} (h : (clF f names []).lookup x = some a) : (x, NameKind.free) ∈ names ∧ a = (f x).getD 0 := by
  rcases clF_mem (mem_of_lookup h) with z | z
  · cases z
  · exact z

theorem cellsFrom_append : ∀ (names : List (Str × NameKind)) (k : Nat) (acc : List (Str × Addr)), cellsFrom k names acc = cellsFrom k names [] ++ acc
  | [], _, _ => rfl
  | (n, kd) :: r, k, acc => by
    unfold cellsFrom
    split
    · rw [cellsFrom_append r (k + 1) ((n, k) :: acc), cellsFrom_append r (k + 1) [(n, k)], List.append_assoc]; rfl
    · exact cellsFrom_append r k acc

theorem lookup_relabel_cell {env : Env} : ∀ {names : List (Str × NameKind)} {x : Str}, names.lookup x = some .cell →
    (names.map fun (n, k) => if (k == NameKind.free && env.scope.kind == .function && env.kindOf n == some .cell) then (n, NameKind.cell) else (n, k)).lookup x = some .cell
  | [], _, h => by simp at h
  | (n, k) :: r, x, h => by
    have ih := @lookup_relabel_cell env r x
    simp only [List.map_cons]
    by_cases q : (k == NameKind.free && env.scope.kind == .function && env.kindOf n == some .cell) = true
    · rw [if_pos q, List.lookup_cons]
      rw [List.lookup_cons] at h
      cases hx : x == n with
      | true => rfl
      | false => rw [hx] at h; exact ih h
    · rw [if_neg q, List.lookup_cons]
      rw [List.lookup_cons] at h
      cases hx : x == n with
      | true => rw [hx] at h; exact h
      | false => rw [hx] at h; exact ih h

theorem lookup_relabel {env : Env} : ∀ (names : List (Str × NameKind)) (x : Str), nk ((names.map fun (n, k) => if (k == NameKind.free && env.scope.kind == .function && env.kindOf n == some .cell) then (n, NameKind.cell) else (n, k)).lookup x) = nk (names.lookup x)
  | [], _ => rfl
  | (n, k) :: r, x => by
    have ih := lookup_relabel (env := env) r x
    simp only [List.map_cons]
    by_cases q : (k == NameKind.free && env.scope.kind == .function && env.kindOf n == some .cell) = true
    · rw [if_pos q]
      have hk : k = .free := by
        simp only [Bool.and_eq_true, beq_iff_eq] at q
        exact q.1.1
      subst hk
      rw [List.lookup_cons, List.lookup_cons]
      cases hx : x == n with
      | true => rfl
      | false => exact ih
    · rw [if_neg q, List.lookup_cons, List.lookup_cons]
      cases hx : x == n with
      | true => rfl
      | false => exact ih

section
variable {M : Model} {A : Around} {E : Value → Shared → Prop} {s : Shared}
theorem newEnv_comp {scope : Scope} {env : Env} {cl : List (Str × Addr)} {Q : Env → Shared → Prop}
    (hQ : Q { scope := scope, locals := s.heap.objs.size, globals := env.globals, cells := cellsFrom (s.heap.objs.size + 1) scope.names cl, qual := env.qual, func := none, code := env.code, frame := env.frame, builtins := env.builtins }
      { s with heap := pushCells (s.heap.push { cls := .type "dict", data := .dict #[] }) scope.names }) :
    wpAny M A (newFunctionEnv scope env.globals cl [] env.qual none .none (some env)) Q E s := by
  simp only [newFunctionEnv, Option.isSome_some, if_true]
  refine wpAny_bind (wpAny_alloc ?_)
  refine wpAny_bind (wpAny_layCells _ (fun name kind cells => rfl) _ _ _ _ ?_)
  rw [show ({ s with heap := s.heap.push { cls := .type "dict", data := .dict #[] } } : Shared).heap.objs.size = s.heap.objs.size + 1 from Heap.size_push ..]
  rw [List.forIn_nil]
  exact wpAny_bind (wpAny_pure (wpAny_pure hQ))
end

end Mine

/-! part C9 -/
namespace Mine

section
variable {c : Cx} {n : Nat} {sc : Scope}

/-- the tests of a clause -/
structure IfsR (c : Cx) (n : Nat) (sc : Scope) (ρ : List (Str × D)) (ifs : List Expr) (b : Bool) : Prop where
  run : ∀ (A : Around) (P : Addr → Prop) (env : Env) (s : Shared) (Q : Bool → Shared → Prop) (E : Value → Shared → Prop), Room n A → Kn c P sc env ρ s.heap →
    (∀ h' tk, Ext s.heap h' → Q b { s with heap := h', toks := tk }) →
    wpAny c.M A (forIn ifs true fun c r => if r = true then do let ok ← isTrue c env (eval c env); pure (ForInStep.yield ok) else pure (ForInStep.yield r)) Q E s
theorem IfsR.nil {ρ : List (Str × D)} : IfsR c n sc ρ [] true := ⟨fun _ _ _ _ _ _ _ _ K => wpAny_tests_nil (K _ _ (.refl _))⟩
theorem IfsR.one {ρ : List (Str × D)} {t : Expr} {b : Bool} (h : Tr c n sc ρ t b) : IfsR c n sc ρ [t] b := ⟨fun A P env s Q E R I K => wpAny_tests_one (h.run A P env s Q E R I K)⟩

structure Sub (β σ : Sg) : Prop where
  ρ : ∀ p ∈ β.ρ, p ∈ σ.ρ
  own : β.own = none

/-- what the clauses from the k-th on bring to the list, for the items given -/
inductive Lp (c : Cx) (n : Nat) (sc : Scope) (elt : Expr) (gens : List Comprehension) : Nat → Sg → List D → List D → Prop
  | nil (k : Nat) (β : Sg) : Lp c n sc elt gens k β [] []
  | skip {k : Nat} {β σ : Sg} {d : D} {ds out : List D} {t i : Expr} {ifs : List Expr} (hg : gens[k]? = some ⟨t, i, ifs, 0⟩) (hg' : gens[k + 1]? = none) (ha : AsgR c n sc t d β σ) (hs : Sub β σ) (ht : IfsR c n sc σ.ρ ifs false)
      (hr : Lp c n sc elt gens k β ds out) : Lp c n sc elt gens k β (d :: ds) out
  | emit {k : Nat} {β σ : Sg} {d x : D} {ds out : List D} {t i : Expr} {ifs : List Expr} (hg : gens[k]? = some ⟨t, i, ifs, 0⟩) (hg' : gens[k + 1]? = none) (ha : AsgR c n sc t d β σ) (hs : Sub β σ) (ht : IfsR c n sc σ.ρ ifs true)
      (he : Ev c n sc σ.ρ elt x) (hr : Lp c n sc elt gens k β ds out) : Lp c n sc elt gens k β (d :: ds) (x :: out)
  | inner {k : Nat} {β σ : Sg} {d d' : D} {ds ds' out out' : List D} {t i t' i' : Expr} {ifs ifs' : List Expr} (hg : gens[k]? = some ⟨t, i, ifs, 0⟩) (hg' : gens[k + 1]? = some ⟨t', i', ifs', 0⟩) (ha : AsgR c n sc t d β σ) (hs : Sub β σ) (ht : IfsR c n sc σ.ρ ifs true)
      (he : Ev c n sc σ.ρ i' d') (hi : Items d' ds') (hf : ∀ env x, foldedSetIterable i' env x = pure x) (ho : σ.own = none)
      (hl : Lp c n sc elt gens (k + 1) σ ds' out') (hr : Lp c n sc elt gens k β ds out) : Lp c n sc elt gens k β (d :: ds) (out' ++ out)

def xK (K : Addr → Obj → Prop) (X : List Addr) (h : Heap) : Addr → Obj → Prop := fun a o => K a o ∨ (a ∈ X ∧ h.get? a = some o)

variable {P₀ P : Addr → Prop} {env : Env} {K : Addr → Obj → Prop} {σ β : Sg} {h h₁ : Heap}

theorem Fl.subσ (F : Fl c P₀ P sc env K σ h) (s : Sub β σ) : Fl c P₀ P sc env K β h where
  kn := F.kn.sub s.ρ
  keep := F.keep
  baseK := F.baseK
  sub := F.sub
  up0 := F.up0
  loc := F.loc
  locK := F.locK
  locP := F.locP
  cell := F.cell
  ownc := F.ownc
  freec := F.freec
  apart := F.apart
  cls := F.cls
  own := by rw [s.own]; trivial

theorem Fl.widen {P' : Addr → Prop} (F : Fl c P₀ P' sc env K σ h) (s : ∀ a, P' a → P a) (s0 : ∀ a, P a → P₀ a) (nl : ¬ P env.locals) (nc : ∀ x a, sc.names.lookup x = some .cell → env.cells.lookup x = some a → ¬ P a) (ho : σ.own = none) : Fl c P₀ P sc env K σ h where
  kn := ⟨F.kn.ok, F.kn.es, F.kn.base, fun a e => s a (F.kn.up a e), fun x d hx => let ⟨v, l, r⟩ := F.kn.names x d hx; ⟨v, l, r.weak s⟩⟩
  keep := F.keep
  baseK := F.baseK
  sub := s0
  up0 := F.up0
  loc := F.loc
  locK := F.locK
  locP := nl
  cell := F.cell
  ownc := fun x a z q => ⟨(F.ownc x a z q).1, nc x a z q⟩
  freec := F.freec
  apart := F.apart
  cls := F.cls
  own := by rw [ho]; trivial

/-- objects that are neither the frame's own nor data change -/
theorem Fl.poke {X : List Addr} (F : Fl c P₀ P sc env (xK K X h) σ h) (ho : σ.own = none) (nX : ∀ a ∈ X, ¬ P a) (kX : ∀ a ∈ X, ∀ o, ¬ K a o) (lX : ∀ a ∈ X, (h.get? a).isSome = true)
    (b0 : ∀ a o, c.B.get? a = some o → K a o) (u0 : ∀ a, (∀ o, ¬ K a o) → P₀ a) (f0 : FreeC sc env K)
    (hk : ∀ b o, b ∉ X → h.get? b = some o → h₁.get? b = some o) : Fl c P₀ (fun a => P a ∨ (a ∈ X ∧ h₁.get? a = none)) sc env (xK K X h₁) σ h₁ := by
  have kP : ∀ b o, P b → h.get? b = some o → h₁.get? b = some o := fun b o pb e => hk b o (fun q => nX b q pb) e
  have kK : ∀ b o, K b o → h₁.get? b = some o := fun b o k => hk b o (fun q => kX b q o k) (F.keep b o (.inl k))
  have neX : ∀ a, (∀ o, ¬ xK K X h a o) → a ∉ X := fun a q m => by
    obtain ⟨o, ho⟩ := Option.isSome_iff_exists.mp (lX a m)
    exact q o (.inr ⟨m, ho⟩)
  have neC : ∀ y a, env.cells.lookup y = some a → a ∉ X := by
    intro y a q m
    by_cases z : sc.names.lookup y = some .cell
    · exact neX a (F.ownc y a z q).1 m
    · obtain ⟨o', k⟩ := f0 y a z q
      exact kX a m o' k
  have nL := neX _ F.locK
  have lookS : ∀ y u, Look h env y u → Look h₁ env y u := by
    rintro y u (⟨k, m, ⟨o, e1, e2, ho, r⟩, hm⟩ | ⟨k, a, ha, o, ho, hd⟩)
    · exact .inl ⟨k, m, ⟨o, e1, e2, hk _ _ nL ho, r⟩, hm⟩
    · exact .inr ⟨k, a, ha, o, hk _ _ (neC y a ha) ho, hd⟩
  have offX : ∀ a, (∀ o, ¬ xK K X h a o) → ∀ o, ¬ xK K X h₁ a o := by
    rintro a q o (z | ⟨m, _⟩)
    · exact q o (.inl z)
    · exact neX a q m
  exact {
    kn := ⟨F.kn.ok, F.kn.es, fun b o e => kK b o (b0 b o e), (by
        intro a e
        by_cases q : a ∈ X
        · exact .inr ⟨q, e⟩
        · refine .inl (F.kn.up a ?_)
          cases z : h.get? a with
          | none => rfl
          | some o => rw [hk a o q z] at e; cases e),
      fun y e hy => let ⟨u, l, r⟩ := F.kn.names y e hy; ⟨u, lookS y u l, Rep.mono kP (fun a p _ => .inl p) e u r⟩⟩
    keep := fun a o z => z.elim (kK a o) (fun z => z.2)
    baseK := fun a o e => .inl (b0 a o e)
    sub := fun a p => p.elim (F.sub a) fun q => u0 a fun o k => kX a q.1 o k
    up0 := fun a z => u0 a fun o k => z o (.inl k)
    loc := by
      obtain ⟨m, o, e1, e2, ho, r⟩ := F.loc
      exact ⟨m, o, e1, e2, hk _ _ nL ho, r⟩
    locK := offX _ F.locK
    locP := fun z => z.elim F.locP fun q => nL q.1
    cell := by
      intro y a q
      obtain ⟨w, o, ho, hd⟩ := F.cell y a q
      exact ⟨w, o, hk _ _ (neC y a q) ho, hd⟩
    ownc := fun y a z q => let ⟨k, p⟩ := F.ownc y a z q; ⟨offX a k, fun z => z.elim p fun q => neX a k q.1⟩
    freec := fun y a z q => let ⟨o, k⟩ := f0 y a z q; ⟨o, .inl k⟩
    apart := F.apart
    cls := F.cls
    own := by rw [ho]; trivial }

theorem Fl.poke' {X : List Addr} (F : Fl c P₀ P sc env (xK K X h) σ h) (ho : σ.own = none) (nX : ∀ a ∈ X, ¬ P a) (kX : ∀ a ∈ X, ∀ o, ¬ K a o) (lX : ∀ a ∈ X, (h.get? a).isSome = true)
    (b0 : ∀ a o, c.B.get? a = some o → K a o) (u0 : ∀ a, (∀ o, ¬ K a o) → P₀ a) (f0 : FreeC sc env K)
    (hk : ∀ b o, b ∉ X → h.get? b = some o → h₁.get? b = some o) (lX' : ∀ a ∈ X, (h₁.get? a).isSome = true) : Fl c P₀ P sc env (xK K X h₁) σ h₁ := by
  have e : (fun a => P a ∨ (a ∈ X ∧ h₁.get? a = none)) = P := by
    funext a
    refine propext ⟨fun z => z.elim id fun q => ?_, .inl⟩
    have := lX' a q.1
    rw [q.2] at this; cases this
  have := F.poke ho nX kX lX b0 u0 f0 hk
  rwa [e] at this

theorem Fl.xext {X : List Addr} (F : Fl c P₀ P sc env (xK K X h) σ h) (lX : ∀ a ∈ X, (h.get? a).isSome = true) (b0 : ∀ a o, c.B.get? a = some o → K a o) (u0 : ∀ a, (∀ o, ¬ K a o) → P₀ a) (f0 : FreeC sc env K)
    (e : Ext h h₁) : Fl c P₀ P sc env (xK K X h₁) σ h₁ := by
  refine (F.ext e).weakK ?_ (fun a o q => .inl (b0 a o q)) (fun a z => u0 a fun o k => z o (.inl k)) (fun y a z q => let ⟨o, k⟩ := f0 y a z q; ⟨o, .inl k⟩)
  rintro a o (k | ⟨m, q⟩)
  · exact .inl k
  · obtain ⟨o', ho'⟩ := Option.isSome_iff_exists.mp (lX a m)
    have := e a o' ho'
    rw [this] at q; cases q
    exact .inr ⟨m, ho'⟩

structure CAt (c : Cx) (P₀ : Addr → Prop) (sc : Scope) (env : Env) (K : Addr → Obj → Prop) (Zy : List Value → Prop) (acc I : Addr) (SI : Nat → Heap → Prop) (P h0P : Addr → Prop) (h0 : Heap) (β : Sg) (out : List D) (i : Nat) (h : Heap) : Prop where
  fl : Fl c P₀ P sc env (xK K [I, acc] h) β h
  nI : ¬ P I
  kI : ∀ o, ¬ K I o
  nA : ¬ P acc
  kA : ∀ o, ¬ K acc o
  ne : I ≠ acc
  lI : (h.get? I).isSome = true
  si : SI i h
  pl : ∃ ys, PlainL h acc (List.toArray ys) ∧ RepAll h P out ys ∧ Zy ys
  old : ∀ a o, h0.get? a = some o → h0P a → P a ∧ h.get? a = some o

theorem plain_live {h : Heap} {a : Addr} {ys : Array Value} (p : PlainL h a ys) : (h.get? a).isSome = true := by
  obtain ⟨o, n, ho, _⟩ := p; rw [ho]; rfl

section
variable {A : Around} {Zy : List Value → Prop} {acc I : Addr} {SI : Nat → Heap → Prop} {h0P : Addr → Prop} {h0 : Heap} {pre : List D} {i : Nat} {ds : List D} {fp : List Addr} {Pw : Nat → Value → Prop}
theorem CAt.live (L : CAt c P₀ sc env K Zy acc I SI P h0P h0 β pre i h) : ∀ a ∈ [I, acc], (h.get? a).isSome = true := by
  intro a m
  obtain ⟨ys, pl, _⟩ := L.pl
  rcases List.mem_cons.mp m with rfl | m
  · exact L.lI
  · rw [List.mem_singleton.mp m]; exact plain_live pl
theorem CAt.nX (L : CAt c P₀ sc env K Zy acc I SI P h0P h0 β pre i h) : ∀ a ∈ [I, acc], ¬ P a := by
  intro a m
  rcases List.mem_cons.mp m with rfl | m
  · exact L.nI
  · rw [List.mem_singleton.mp m]; exact L.nA
theorem CAt.kX (L : CAt c P₀ sc env K Zy acc I SI P h0P h0 β pre i h) : ∀ a ∈ [I, acc], ∀ o, ¬ K a o := by
  intro a m
  rcases List.mem_cons.mp m with rfl | m
  · exact L.kI
  · rw [List.mem_singleton.mp m]; exact L.kA
theorem CAt.subσ (L : CAt c P₀ sc env K Zy acc I SI P h0P h0 σ pre i h) (s : Sub β σ) : CAt c P₀ sc env K Zy acc I SI P h0P h0 β pre i h := { L with fl := L.fl.subσ s }
theorem CAt.ext (L : CAt c P₀ sc env K Zy acc I SI P h0P h0 β pre i h) (it : IterOk c A h0P h0 ds I fp Pw SI) (b0 : ∀ a o, c.B.get? a = some o → K a o) (u0 : ∀ a, (∀ o, ¬ K a o) → P₀ a) (f0 : FreeC sc env K) (e : Ext h h₁) : CAt c P₀ sc env K Zy acc I SI P h0P h0 β pre i h₁ where
  fl := L.fl.xext L.live b0 u0 f0 e
  nI := L.nI
  kI := L.kI
  nA := L.nA
  kA := L.kA
  ne := L.ne
  lI := by obtain ⟨o, ho⟩ := Option.isSome_iff_exists.mp L.lI; rw [e _ _ ho]; rfl
  si := it.W.frame _ _ _ L.si fun b _ o q => e b o q
  pl := let ⟨ys, pl, r, z⟩ := L.pl; ⟨ys, pl.keeps e, r.ext e, z⟩
  old := fun a o q p => ⟨(L.old a o q p).1, e _ _ (L.old a o q p).2⟩

/-- the next item is taken and stored -/
theorem CAt.take {s0 : Shared} {t : Expr} {d : D} {v : Value} {tk₁ : Nat} {Q : Unit → Shared → Prop} {E : Value → Shared → Prop} (L : CAt c P₀ sc env K Zy acc I SI P h0P h0 β pre i h) (R : Room n A) (it : IterOk c A h0P h0 ds I fp Pw SI)
    (b0 : ∀ a o, c.B.get? a = some o → K a o) (u0 : ∀ a, (∀ o, ¬ K a o) → P₀ a) (f0 : FreeC sc env K) (ho : β.own = none) (hdi : ds[i]? = some d) (hPv : Pw i v) (hs₁ : SI (i + 1) h₁) (hk₁ : ∀ b o, b ∉ [I] → h.get? b = some o → h₁.get? b = some o)
    (ha : AsgR c n sc t d β σ) (G : ∀ h₂ tk₂, CAt c P₀ sc env K Zy acc I SI P h0P h0 σ pre (i + 1) h₂ → Q () { s0 with heap := h₂, toks := tk₂ }) :
    wpAny c.M A (letOwnedTupleGo t (.ref I) v) (fun _ s₁ => wpAny c.M A (assign t env v) Q E s₁) E { s0 with heap := h₁, toks := tk₁ } := by
  obtain ⟨ys, pl, ra, zy⟩ := L.pl
  have lI := it.live _ _ hs₁
  have kp : ∀ b o, b ≠ I → h.get? b = some o → h₁.get? b = some o := fun b o nb e => hk₁ b o (fun q => nb (List.mem_singleton.mp q)) e
  have pl₁ : PlainL h₁ acc ys.toArray := by
    obtain ⟨o, n, ho, r⟩ := pl
    exact ⟨o, n, kp _ _ (Ne.symm L.ne) ho, r⟩
  have lX : ∀ a ∈ [I, acc], (h₁.get? a).isSome = true := by
    intro a m
    rcases List.mem_cons.mp m with rfl | m
    · exact lI
    · rw [List.mem_singleton.mp m]; exact plain_live pl₁
  have F₁ : Fl c P₀ P sc env (xK K [I, acc] h₁) β h₁ := L.fl.poke' ho L.nX L.kX L.live b0 u0 f0 (fun b o nb e => kp b o (fun q => nb (q ▸ List.mem_cons_self)) e) lX
  have kP : ∀ b o, P b → h.get? b = some o → h₁.get? b = some o := fun b o pb e => kp b o (fun q => L.nI (q ▸ pb)) e
  have old₁ : ∀ a o, h0.get? a = some o → h0P a → P a ∧ h₁.get? a = some o := fun a o e p => ⟨(L.old a o e p).1, kP a o (L.old a o e p).1 (L.old a o e p).2⟩
  have ra₁ : RepAll h₁ P pre ys := RepAll.mono kP (fun _ p _ => p) pre ys ra
  obtain ⟨d', hd', rv⟩ := it.item i v hPv
  rw [hdi] at hd'; cases hd'
  have rv₁ : Rep h₁ P d v := Rep.mono (fun a o p e => (old₁ a o e p).2) (fun a p e => by obtain ⟨o, ho⟩ := Option.isSome_iff_exists.mp e; exact (old₁ a o ho p).1) d v rv
  refine it.go t (i + 1) _ v _ _ hs₁ ?_
  refine ha A P₀ P env _ { s0 with heap := h₁, toks := tk₁ } Q E v R F₁.big rv₁ fun h₂ tk₂ F₂ => G h₂ tk₂ ?_
  have kX2 : ∀ a ∈ [I, acc], ∀ o, h₁.get? a = some o → h₂.get? a = some o := fun a m o e => F₂.keep a o (.inl (.inr ⟨m, e⟩))
  have kP2 : ∀ b o, P b → h₁.get? b = some o → h₂.get? b = some o := fun b o p e => F₂.keep b o (.inr ⟨e, p⟩)
  refine {
    fl := F₂.weakK ?_ (fun a o q => .inl (b0 a o q)) (fun a z => u0 a fun o k => z o (.inl k)) (fun y a z q => let ⟨o, k⟩ := f0 y a z q; ⟨o, .inl k⟩)
    nI := L.nI
    kI := L.kI
    nA := L.nA
    kA := L.kA
    ne := L.ne
    lI := by obtain ⟨o, ho⟩ := Option.isSome_iff_exists.mp lI; rw [kX2 I List.mem_cons_self o ho]; rfl
    si := ?_
    pl := ⟨ys, ?_, RepAll.mono kP2 (fun _ p _ => p) pre ys ra₁, zy⟩
    old := fun a o e p => ⟨(old₁ a o e p).1, kP2 a o (old₁ a o e p).1 (old₁ a o e p).2⟩ }
  · rintro a o (k | ⟨m, q⟩)
    · exact .inl (.inl k)
    · obtain ⟨o', ho'⟩ := Option.isSome_iff_exists.mp (lX a m)
      rw [kX2 a m o' ho'] at q; cases q
      exact .inl (.inr ⟨m, ho'⟩)
  · refine it.W.frame _ _ _ hs₁ fun b hb o e => ?_
    rcases it.fp b hb with rfl | ⟨pb, lb⟩
    · exact kX2 b List.mem_cons_self o e
    · obtain ⟨o', ho'⟩ := Option.isSome_iff_exists.mp lb
      exact kP2 b o (old₁ b o' ho' pb).1 e
  · obtain ⟨o, n, ho, r⟩ := pl₁
    exact ⟨o, n, kX2 acc (List.mem_cons_of_mem _ List.mem_cons_self) o ho, r⟩
end

theorem Lp.own {elt : Expr} {gens : List Comprehension} {k : Nat} {β : Sg} {d : D} {ds out : List D} (h : Lp c n sc elt gens k β (d :: ds) out) : β.own = none := by
  cases h with
  | skip _ _ _ hs _ _ => exact hs.own
  | emit _ _ _ hs _ _ _ => exact hs.own
  | inner _ _ _ hs _ _ _ _ _ _ _ => exact hs.own

theorem comp_start {A : Around} {s : Shared} {I : Addr} {acc : Value} {env : Env} {elt : Expr} {gens : List Comprehension} {scope : Scope} {pos : Pos} {k : Nat} {t i : Expr} {ifs : List Expr} {R' : Result → Shared → Prop} {h0P : Addr → Prop} {h0 : Heap} {ds : List D} {fp : List Addr} {Pw : Nat → Value → Prop} {SI : Nat → Heap → Prop}
    (hg : gens[k]? = some ⟨t, i, ifs, 0⟩) (it : IterOk c A h0P h0 ds I fp Pw SI) (s0 : SI 0 s.heap)
    (h : codeAny c.M A (.compLoop (.ListComp elt gens scope pos) k (.ref I) acc env) R' s) : codeAny c.M A (.compStart (.ListComp elt gens scope pos) k (.ref I) acc env) R' s := by
  refine codeAny_of_tree ?_
  show wpAny c.M A ((compStart (.ListComp elt gens scope pos) k (.ref I) acc env).onRaise (fun x => do noteFrame x env; standAt theWindowsPlace)) _ _ s
  refine wpAny_notedAt ?_
  unfold compStart
  simp only [clausesOf, hg]
  show wpAny _ _ (ask >>= _) _ _ s
  refine wpAny_bind (wpAny_askSetting (wpAny_ite ?_))
  split
  · first
      | exact wpAny_bind (wpAny_pure (wpAny_pure (And.intro rfl h)))
      | exact wpAny_pure (And.intro rfl h)
  · refine wpAny_bind (wpAny_rule ?_)
    refine wpAny_bind (wpAny_standAt (wpAny_bind (it.W.self 0 s _ _ s0 (wpAny_pure (And.intro rfl h)))))

theorem compTurn_form {elt : Expr} {gens : List Comprehension} {scope : Scope} {pos : Pos} {k : Nat} {it acc : Value} {env : Env} {t i : Expr} {ifs : List Expr} (h : gens[k]? = some ⟨t, i, ifs, 0⟩) :
    ∃ F : Value → Sem Fin, compTurn (.ListComp elt gens scope pos) k it acc env = (standAt i.pos >>= fun _ => pyNext it >>= fun r => match r with | none => pure (.done .next) | some v => F v) := by
  cases q : gens[k + 1]? with
  | none =>
    unfold compTurn
    simp only [h, q]
    exact ⟨_, rfl⟩
  | some g =>
    unfold compTurn
    simp only [h, q]
    exact ⟨_, rfl⟩

theorem comp_code {A : Around} {P₀ : Addr → Prop} {env : Env} {s0 : Shared} {acc : Addr} {elt : Expr} {gens : List Comprehension} {scope : Scope} {pos : Pos} {k : Nat} {β : Sg} {rest out : List D} (R : Room n A)
    (hl : Lp c n sc elt gens k β rest out) : ∀ {K : Addr → Obj → Prop} {P h0P : Addr → Prop} {h0 : Heap} {ds : List D} {I : Addr} {fp : List Addr} {Pw : Nat → Value → Prop} {SI : Nat → Heap → Prop} {R' : Result → Shared → Prop} {t ie : Expr} {ifs : List Expr} (pre : List D) (i : Nat) (h : Heap) (tk : Nat)
      (_ : gens[k]? = some ⟨t, ie, ifs, 0⟩) (_ : β.own = none) (_ : ds.drop i = rest) (_ : i ≤ ds.length) (_ : (pre ++ out).length ≤ 16777216) (_ : IterOk c A h0P h0 ds I fp Pw SI) (_ : ∀ a o, c.B.get? a = some o → K a o) (_ : ∀ a, (∀ o, ¬ K a o) → P₀ a) (_ : FreeC sc env K)
      (_ : CAt c P₀ sc env K (fun _ => True) acc I SI P h0P h0 β pre i h)
      (_ : ∀ P' h' tk ys, Fl c P₀ P' sc env (xK K [acc] h') β h' → ¬ P' acc → PlainL h' acc (List.toArray ys) → RepAll h' P' (pre ++ out) ys → (∀ a, P' a → P a ∨ a = I) → R' (.ok .next) { s0 with heap := h', toks := tk }),
      codeAny c.M A (.compLoop (.ListComp elt gens scope pos) k (.ref I) (.ref acc) env) R' { s0 with heap := h, toks := tk } := by
  induction hl with
  | nil k β =>
    intro K P h0P h0 ds I fp Pw SI R' t ie ifs pre i h tk hg0 ho hd hi hz it b0 u0 f0 L fin
    have hlen : i = ds.length := by
      have := congrArg List.length hd
      simp at this
      omega
    subst hlen
    refine codeAny_of_tree ?_
    show wpAny c.M A ((compTurn (.ListComp elt gens scope pos) k (.ref I) (.ref acc) env).onRaise (fun x => do noteFrame x env; theTreesLotGoes x)) _ _ _
    refine wpAny_noted ?_
    obtain ⟨F, e⟩ := compTurn_form (elt := elt) (scope := scope) (pos := pos) (it := .ref I) (acc := .ref acc) (env := env) hg0
    rw [e]
    refine wpAny_bind (wpAny_standAt (wpAny_bind (it.W.done _ _ _ L.si fun h₁ tk₁ hk₁ => ?_)))
    refine wpAny_pure ?_
    obtain ⟨ys, pl, ra, _⟩ := L.pl
    have kp : ∀ b o, b ≠ I → h.get? b = some o → h₁.get? b = some o := fun b o nb e => hk₁ b o (fun q => nb (List.mem_singleton.mp q)) e
    have F₁ := L.fl.poke (h₁ := h₁) ho L.nX L.kX L.live b0 u0 f0 (fun b o nb e => kp b o (fun q => nb (q ▸ List.mem_cons_self)) e)
    have pl₁ : PlainL h₁ acc ys.toArray := by
      obtain ⟨o, n, ho, r⟩ := pl
      exact ⟨o, n, kp _ _ (Ne.symm L.ne) ho, r⟩
    refine fin _ h₁ tk₁ ys (F₁.weakK ?_ (fun a o q => .inl (b0 a o q)) (fun a z => u0 a fun o k => z o (.inl k)) (fun y a z q => let ⟨o, k⟩ := f0 y a z q; ⟨o, .inl k⟩)) ?_ pl₁ ?_ ?_
    · rintro a o (k | ⟨m, q⟩)
      · exact .inl k
      · exact .inr ⟨List.mem_cons_of_mem _ m, q⟩
    · rintro (q | ⟨_, q⟩)
      · exact L.nA q
      · have := plain_live pl₁; rw [q] at this; cases this
    · rw [List.append_nil]
      exact RepAll.mono (fun b o p e => kp b o (fun q => L.nI (q ▸ p)) e) (fun a p _ => .inl p) pre ys ra
    · rintro a (q | ⟨m, q⟩)
      · exact .inl q
      · rcases List.mem_cons.mp m with e | m
        · exact .inr e
        · rw [List.mem_singleton.mp m] at q
          have := plain_live pl₁; rw [q] at this; cases this
  | @skip k β σ d ds' out t i' ifs hg hg' ha hs ht hr ih =>
    intro K P h0P h0 ds I fp Pw SI R' t0 ie ifs0 pre i h tk hg0 ho hd hi hz it b0 u0 f0 L fin
    obtain ⟨hlt, hdi, hdr⟩ := drop_cons hd
    refine codeAny_of_tree ?_
    show wpAny c.M A ((compTurn (.ListComp elt gens scope pos) k (.ref I) (.ref acc) env).onRaise (fun x => do noteFrame x env; theTreesLotGoes x)) _ _ _
    refine wpAny_noted ?_
    unfold compTurn
    simp only [hg, hg']
    refine wpAny_bind (wpAny_standAt (wpAny_bind (it.W.item i _ _ _ hlt L.si fun v h₁ tk₁ hPv hs₁ hk₁ => ?_)))
    refine wpAny_bind (wpAny_mono (L.take (Q := fun _ s₂ => _) R it b0 u0 f0 ho hdi hPv hs₁ hk₁ ha fun h₂ tk₂ L₂ => ?_) (fun _ _ x => wpAny_bind x) fun _ _ x => x)
    refine wpAny_bind (ht.run A P env { s0 with heap := h₂, toks := tk₂ } _ _ R L₂.fl.kn fun h₃ tk₃ e₃ => ?_)
    rw [if_neg (by decide)]
    exact wpAny_pure ⟨rfl, ih pre (i + 1) h₃ tk₃ hg0 ho hdr hlt hz it b0 u0 f0 ((L₂.ext it b0 u0 f0 e₃).subσ hs) fin⟩
  | @emit k β σ d x ds' out t i' ifs hg hg' ha hs ht he hr ih =>
    intro K P h0P h0 ds I fp Pw SI R' t0 ie ifs0 pre i h tk hg0 ho hd hi hz it b0 u0 f0 L fin
    obtain ⟨hlt, hdi, hdr⟩ := drop_cons hd
    refine codeAny_of_tree ?_
    show wpAny c.M A ((compTurn (.ListComp elt gens scope pos) k (.ref I) (.ref acc) env).onRaise (fun x => do noteFrame x env; theTreesLotGoes x)) _ _ _
    refine wpAny_noted ?_
    unfold compTurn
    simp only [hg, hg']
    refine wpAny_bind (wpAny_standAt (wpAny_bind (it.W.item i _ _ _ hlt L.si fun v h₁ tk₁ hPv hs₁ hk₁ => ?_)))
    refine wpAny_bind (wpAny_mono (L.take (Q := fun _ s₂ => _) R it b0 u0 f0 ho hdi hPv hs₁ hk₁ ha fun h₂ tk₂ L₂ => ?_) (fun _ _ x => wpAny_bind x) fun _ _ x => x)
    refine wpAny_bind (ht.run A P env { s0 with heap := h₂, toks := tk₂ } _ _ R L₂.fl.kn fun h₃ tk₃ e₃ => ?_)
    rw [if_pos rfl]
    have L₃ := L₂.ext it b0 u0 f0 e₃
    refine wpAny_bind (wpAny_bind (he.run A P env { s0 with heap := h₃, toks := tk₃ } _ _ R L₃.fl.kn fun w h₄ tk₄ e₄ rw₄ => ?_))
    have L₄ := (L₃.ext it b0 u0 f0 e₄).subσ hs
    obtain ⟨ys, pl, ra, _⟩ := L₄.pl
    have hys : ys.length = pre.length := ra.length
    refine wpAny_bind (list_append_plainL (s := { s0 with heap := h₄, toks := tk₄ }) pl (fun h₅ pl₅ hs₅ => ?_) (by rw [List.size_toArray, hys, sizeLine_eq]; simp at hz; omega))
    have kp : ∀ b o, b ≠ acc → h₄.get? b = some o → h₅.get? b = some o := fun b o nb e => (hs₅.2 b nb).trans e
    have kP : ∀ b o, P b → h₄.get? b = some o → h₅.get? b = some o := fun b o p e => kp b o (fun q => L.nA (q ▸ p)) e
    have lX : ∀ a ∈ [I, acc], (h₅.get? a).isSome = true := by
      intro a m
      rcases List.mem_cons.mp m with rfl | m
      · obtain ⟨o, ho⟩ := Option.isSome_iff_exists.mp L₄.lI
        rw [kp _ o L.ne ho]; rfl
      · rw [List.mem_singleton.mp m]; exact plain_live pl₅
    have L₅ : CAt c P₀ sc env K (fun _ => True) acc I SI P h0P h0 β (pre ++ [x]) (i + 1) h₅ := {
      fl := L₄.fl.poke' ho L₄.nX L₄.kX L₄.live b0 u0 f0 (fun b o nb e => kp b o (fun q => nb (q ▸ List.mem_cons_of_mem _ List.mem_cons_self)) e) lX
      nI := L.nI
      kI := L.kI
      nA := L.nA
      kA := L.kA
      ne := L.ne
      lI := lX I List.mem_cons_self
      si := it.W.frame _ _ _ L₄.si fun b hb o e => by
        rcases it.fp b hb with rfl | ⟨pb, lb⟩
        · exact kp b o L.ne e
        · obtain ⟨o', ho'⟩ := Option.isSome_iff_exists.mp lb
          exact kP b o (L₄.old b o' ho' pb).1 e
      pl := ⟨ys ++ [w], by simpa using pl₅, (RepAll.mono kP (fun _ p _ => p) pre ys ra).append ⟨w, [], rfl, Rep.mono kP (fun _ p _ => p) x w rw₄, rfl⟩, trivial⟩
      old := fun a o e p => ⟨(L₄.old a o e p).1, kP a o (L₄.old a o e p).1 (L₄.old a o e p).2⟩ }
    refine wpAny_pure (wpAny_pure ⟨rfl, ih (pre ++ [x]) (i + 1) h₅ tk₄ hg0 ho hdr hlt (by simpa using hz) it b0 u0 f0 L₅ fun P' h' tk' ys' F' n' pl' ra' sp => ?_⟩)
    exact fin P' h' tk' ys' F' n' pl' (by simpa using ra') sp
  | @inner k β σ d d' ds' es out out' t i' t' j' ifs ifs' hg hg' ha hs ht he hit hf hoσ hl hr ihl ihr =>
    intro K P h0P h0 ds I fp Pw SI R' t0 ie ifs0 pre i h tk hg0 ho hd hi hz it b0 u0 f0 L fin
    obtain ⟨hlt, hdi, hdr⟩ := drop_cons hd
    refine codeAny_of_tree ?_
    show wpAny c.M A ((compTurn (.ListComp elt gens scope pos) k (.ref I) (.ref acc) env).onRaise (fun x => do noteFrame x env; theTreesLotGoes x)) _ _ _
    refine wpAny_noted ?_
    unfold compTurn
    simp only [hg, hg']
    refine wpAny_bind (wpAny_standAt (wpAny_bind (it.W.item i _ _ _ hlt L.si fun v h₁ tk₁ hPv hs₁ hk₁ => ?_)))
    refine wpAny_bind (wpAny_mono (L.take (Q := fun _ s₂ => _) R it b0 u0 f0 ho hdi hPv hs₁ hk₁ ha fun h₂ tk₂ L₂ => ?_) (fun _ _ x => wpAny_bind x) fun _ _ x => x)
    refine wpAny_bind (ht.run A P env { s0 with heap := h₂, toks := tk₂ } _ _ R L₂.fl.kn fun h₃ tk₃ e₃ => ?_)
    rw [if_pos rfl]
    have L₃ := L₂.ext it b0 u0 f0 e₃
    refine wpAny_bind (he.run A P env { s0 with heap := h₃, toks := tk₃ } _ _ R L₃.fl.kn fun w h₄ tk₄ e₄ rw₄ => ?_)
    have L₄ := L₃.ext it b0 u0 f0 e₄
    refine wpAny_bind (wpAny_standAt (wpAny_bind (wpAny_of_eq (hf env w) ?_)))
    refine wpAny_bind (wpAny_holding ?_)
    refine iter_any (s := { s0 with heap := h₄, toks := tk₄ }) R.handled rw₄ hit fun I' fp' Pw' SI' h₅ it' s0' e₅ => ?_
    have L₅ := L₄.ext it b0 u0 f0 e₅
    have lI' := it'.live _ _ s0'
    have new' : h₄.get? I' = none := it'.new
    have nL : ∀ a, (h₄.get? a).isSome = true → a ≠ I' := by rintro a l rfl; rw [new'] at l; cases l
    have kI' : ∀ o, ¬ K I' o := fun o k => by have := L₄.fl.keep I' o (.inl k); rw [new'] at this; cases this
    have neII : I ≠ I' := nL I L₄.lI
    obtain ⟨ys, pl, ra, _⟩ := L₄.pl
    have neA : acc ≠ I' := nL acc (plain_live pl)
    have lloc : env.locals ≠ I' := by obtain ⟨m, o, _, _, ho, _⟩ := L₄.fl.loc; exact nL _ (by rw [ho]; rfl)
    have lcell : ∀ x a, env.cells.lookup x = some a → a ≠ I' := fun x a q => by obtain ⟨_, o, ho, _⟩ := L₄.fl.cell x a q; exact nL _ (by rw [ho]; rfl)
    have PI' : P I' := L₄.fl.kn.up I' new'
    -- the inner loop
    let P1 : Addr → Prop := fun a => P a ∧ a ≠ I'
    let K1 : Addr → Obj → Prop := bigK (xK K [I] h₅) P1 h₅
    have K1A : ∀ o, ¬ K1 acc o := by
      rintro o ((k | ⟨m, _⟩) | ⟨_, p⟩)
      · exact L.kA o k
      · exact L.ne (List.mem_singleton.mp m).symm
      · exact L.nA p.1
    have K1I : ∀ o, ¬ K1 I' o := by
      rintro o ((k | ⟨m, _⟩) | ⟨_, p⟩)
      · exact kI' o k
      · exact neII (List.mem_singleton.mp m).symm
      · exact p.2 rfl
    have offK : ∀ a, (∀ o, ¬ xK K [I, acc] h₅ a o) → ¬ P a → a ≠ I' → ∀ o, ¬ xK K1 [I', acc] h₅ a o := by
      rintro a q p ne o (((k | ⟨m, z⟩) | ⟨_, p'⟩) | ⟨m, z⟩)
      · exact q o (.inl k)
      · exact q o (.inr ⟨(List.mem_singleton.mp m) ▸ List.mem_cons_self, z⟩)
      · exact p p'.1
      · rcases List.mem_cons.mp m with e | m
        · exact ne e
        · exact q o (.inr ⟨List.mem_cons_of_mem _ m, z⟩)
    have Li : CAt c P₀ sc env K1 (fun _ => True) acc I' SI' P1 P h₄ σ pre 0 h₅ := {
      fl := {
        kn := ⟨L₅.fl.kn.ok, L₅.fl.kn.es, L₅.fl.kn.base, fun a e => ⟨L₅.fl.kn.up a e, fun q => by rw [q] at e; rw [e] at lI'; cases lI'⟩, fun x d hx => by
          obtain ⟨u, l, r⟩ := L₄.fl.kn.names x d hx
          exact ⟨u, l.ext e₅, Rep.mono (fun a o _ e => e₅ a o e) (fun a p l => ⟨p, nL a l⟩) d u r⟩⟩
        keep := by
          rintro a o (((k | ⟨m, z⟩) | ⟨z, _⟩) | ⟨m, z⟩)
          · exact L₅.fl.keep a o (.inl k)
          · exact z
          · exact z
          · exact z
        baseK := fun a o e => .inl (.inl (.inl (b0 a o e)))
        sub := fun a p => L.fl.sub a p.1
        up0 := fun a z => u0 a fun o k => z o (.inl (.inl (.inl k)))
        loc := L₅.fl.loc
        locK := offK _ L₅.fl.locK L₅.fl.locP lloc
        locP := fun p => L₅.fl.locP p.1
        cell := L₅.fl.cell
        ownc := fun x a z q => let ⟨k, p⟩ := L₅.fl.ownc x a z q; ⟨offK a k p (lcell x a q), fun z => p z.1⟩
        freec := fun y a z q => let ⟨o, k⟩ := f0 y a z q; ⟨o, .inl (.inl (.inl k))⟩
        apart := L₅.fl.apart
        cls := L₅.fl.cls
        own := by rw [hoσ]; trivial }
      nI := fun p => p.2 rfl
      kI := K1I
      nA := fun p => L.nA p.1
      kA := K1A
      ne := Ne.symm neA
      lI := lI'
      si := s0'
      pl := ⟨ys, pl.keeps e₅, RepAll.mono (fun a o _ e => e₅ a o e) (fun a p l => ⟨p, nL a l⟩) pre ys ra, trivial⟩
      old := fun a o e p => ⟨⟨p, nL a (by rw [e]; rfl)⟩, e₅ a o e⟩ }
    refine wpAny_bind (wpAny_runOwn (env := env) (h := none) (comp_start (t := t') (i := j') (ifs := ifs') hg' it' s0' ?_))
    refine ihl pre 0 h₅ tk₄ hg' hoσ rfl (Nat.zero_le _) (by simp at hz ⊢; omega) it' (fun a o e => .inl (.inl (b0 a o e))) (fun a z => u0 a fun o k => z o (.inl (.inl k))) (fun y a z q => let ⟨o, k⟩ := f0 y a z q; ⟨o, .inl (.inl k)⟩) Li ?_
    intro P' h' tk' ys' F' nA' pl' ra' sp'
    have sub' : ∀ a, P' a → P a := fun a p => (sp' a p).elim (fun z => z.1) fun e => e ▸ PI'
    have FW := (F'.widen (P := P) sub' L.fl.sub L₅.fl.locP (fun x a z q => (L₅.fl.ownc x a z q).2) hoσ)
    have kept : ∀ a o, K1 a o → h'.get? a = some o := fun a o k => F'.keep a o (.inl k)
    obtain ⟨oI, hoI⟩ := Option.isSome_iff_exists.mp L₅.lI
    have kI2 : h'.get? I = some oI := kept I oI (.inl (.inr ⟨List.mem_cons_self, hoI⟩))
    have kP : ∀ a o, P a → a ≠ I' → h₅.get? a = some o → h'.get? a = some o := fun a o p ne e => kept a o (.inr ⟨e, p, ne⟩)
    have Lo : CAt c P₀ sc env K (fun _ => True) acc I SI P h0P h0 σ (pre ++ out') (i + 1) h' := {
      fl := FW.weakK (by
          rintro a o (k | ⟨m, z⟩)
          · exact .inl (.inl (.inl k))
          · rcases List.mem_cons.mp m with e | m
            · subst e
              rw [kI2] at z; cases z
              exact .inl (.inl (.inr ⟨List.mem_cons_self, hoI⟩))
            · exact .inr ⟨m, z⟩) (fun a o q => .inl (b0 a o q)) (fun a z => u0 a fun o k => z o (.inl k)) (fun y a z q => let ⟨o, k⟩ := f0 y a z q; ⟨o, .inl k⟩)
      nI := L.nI
      kI := L.kI
      nA := L.nA
      kA := L.kA
      ne := L.ne
      lI := by rw [kI2]; rfl
      si := it.W.frame _ _ _ L₅.si fun b hb o e => by
        rcases it.fp b hb with rfl | ⟨pb, lb⟩
        · rw [hoI] at e; cases e; exact kI2
        · obtain ⟨o', ho'⟩ := Option.isSome_iff_exists.mp lb
          have e4 := (L₄.old b o' ho' pb)
          exact kP b o e4.1 (nL b (by rw [e4.2]; rfl)) e
      pl := ⟨ys', pl', ra'.weak sub', trivial⟩
      old := fun a o e p => by
        have e4 := L₄.old a o e p
        exact ⟨e4.1, kP a o e4.1 (nL a (by rw [e4.2]; rfl)) (e₅ a o e4.2)⟩ }
    refine wpAny_pure ⟨rfl, ihr (pre ++ out') (i + 1) h' tk' hg0 ho hdr hlt (by simp at hz ⊢; omega) it b0 u0 f0 (Lo.subσ hs) fun P'' h'' tk'' ys'' F'' n'' pl'' ra'' sp'' => ?_⟩
    exact fin P'' h'' tk'' ys'' F'' n'' pl'' (by simpa using ra'') sp''
end

end Mine

/-! part C10 -/
namespace Mine

/-- the names that a comprehension takes from around it -/
inductive FrR (sco : Scope) (ρ : List (Str × D)) : List (Str × NameKind) → List (Str × D) → Prop
  | nil : FrR sco ρ [] []
  | skip {x : Str} {k : NameKind} {r : List (Str × NameKind)} {β : List (Str × D)} (hk : (k == .free) = false) (h : FrR sco ρ r β) : FrR sco ρ ((x, k) :: r) β
  | take {x : Str} {r : List (Str × NameKind)} {β : List (Str × D)} {d : D} (hm : (x, d) ∈ ρ) (hc : nk (sco.names.lookup x) = some .cell) (h : FrR sco ρ r β) : FrR sco ρ ((x, .free) :: r) ((x, d) :: β)

theorem FrR.mem {sco : Scope} {ρ : List (Str × D)} {ns : List (Str × NameKind)} {β : List (Str × D)} (h : FrR sco ρ ns β) : ∀ p ∈ β, p ∈ ρ ∧ nk (sco.names.lookup p.1) = some .cell ∧ (p.1, NameKind.free) ∈ ns := by
  induction h with
  | nil => intro p hp; cases hp
  | skip _ _ ih => intro p hp; obtain ⟨a, b, c⟩ := ih p hp; exact ⟨a, b, List.mem_cons_of_mem _ c⟩
  | take hm hc _ ih =>
    intro p hp
    rcases List.mem_cons.mp hp with e | hp
    · subst e; exact ⟨hm, hc, List.mem_cons_self⟩
    · obtain ⟨a, b, c⟩ := ih p hp; exact ⟨a, b, List.mem_cons_of_mem _ c⟩
theorem FrR.has {sco : Scope} {ρ : List (Str × D)} {ns : List (Str × NameKind)} {β : List (Str × D)} (h : FrR sco ρ ns β) : ∀ x, (x, NameKind.free) ∈ ns → ∃ d, (x, d) ∈ β := by
  induction h with
  | nil => intro x hx; cases hx
  | skip hk _ ih =>
    intro x hx
    rcases List.mem_cons.mp hx with e | hx
    · cases e; cases hk
    · exact ih x hx
  | @take y _ _ d _ _ _ ih =>
    intro x hx
    rcases List.mem_cons.mp hx with e | hx
    · cases e; exact ⟨d, List.mem_cons_self⟩
    · obtain ⟨e, he⟩ := ih x hx; exact ⟨e, List.mem_cons_of_mem _ he⟩

section
variable {c : Cx} {n : Nat} {sco scope : Scope} {ρ βρ : List (Str × D)} {P : Addr → Prop} {env : Env}

theorem look_cell {h : Heap} {x : Str} {v : Value} (es : EnvS sco env) (hc : nk (sco.names.lookup x) = some .cell) (l : Look h env x v) : ∃ a, env.cells.lookup x = some a ∧ h.IsCell a (some v) := by
  rcases l with ⟨k, _⟩ | ⟨_, r⟩
  · rcases es.cellish hc with q | q <;> rw [k] at q <;> cases q
  · exact r

/-- what the loop of a comprehension must do -/
def LoopR (c : Cx) (n : Nat) (scope : Scope) (elt : Expr) (gens : List Comprehension) (β : Sg) (ds out : List D) (Zy : Heap → List Value → Prop) : Prop :=
  ∀ {A : Around} {P₀ : Addr → Prop} {env : Env} {s0 : Shared} {acc : Addr} {scope' : Scope} {pos : Pos} {K : Addr → Obj → Prop} {P h0P : Addr → Prop} {h0 : Heap} {I : Addr} {fp : List Addr} {Pw : Nat → Value → Prop} {SI : Nat → Heap → Prop} {R' : Result → Shared → Prop} (h : Heap) (tk : Nat),
    Room n A → IterOk c A h0P h0 ds I fp Pw SI → (∀ a o, c.B.get? a = some o → K a o) → (∀ a, (∀ o, ¬ K a o) → P₀ a) → FreeC scope env K → (∀ a o, h0.get? a = some o → K a o) → CAt c P₀ scope env K (Zy h0) acc I SI P h0P h0 β [] 0 h →
    (∀ P' h' tk ys, Fl c P₀ P' scope env (xK K [acc] h') β h' → ¬ P' acc → PlainL h' acc (List.toArray ys) → RepAll h' P' out ys → (∀ a, P' a → P a ∨ a = I) → Zy h0 ys → R' (.ok .next) { s0 with heap := h', toks := tk }) →
    codeAny c.M A (.compLoop (.ListComp elt gens scope' pos) 0 (.ref I) (.ref acc) env) R' { s0 with heap := h, toks := tk }

theorem comp_coreZ {Zy : Heap → List Value → Prop} (z0 : ∀ h, Zy h []) {A : Around} {s : Shared} {Q : Value → Shared → Prop} {E : Value → Shared → Prop} {use : Option (Value → Sem Unit)} {elt t iter : Expr} {ifs : List Expr} {rest : List Comprehension} {pos pos' : Pos} {d : D} {ds out : List D}
    (so : ScOk scope) (fr : FrR sco ρ scope.names βρ) (hi : Ev c n sco ρ iter d) (hit : Items d ds) (lp : LoopR c n scope elt (⟨t, iter, ifs, 0⟩ :: rest) ⟨βρ, none⟩ ds out Zy)
    (hs : ∀ env x, foldedSetIterable iter env x = pure x) (R : Room n A) (I : Kn c P sco env ρ s.heap)
    (G : ∀ acc vs C h' tk m, Ext s.heap h' → s.heap.get? acc = none → P acc → PlainL h' acc (List.toArray vs) → RepAll h' (fun b => P b ∧ b ≠ acc ∧ b ≠ C) out vs → h'.Ns C m → s.heap.get? C = none → C ≠ acc → (∃ h₁, Ext s.heap h₁ ∧ Zy h₁ vs) →
      match use with
      | none => ∀ h'', Heap.SameBut C h' h'' → Q (.ref acc) { s with heap := h'', toks := tk }
      | some u => wpAny c.M A (u (.ref acc)) (fun _ s'' => ∃ m, s''.heap.Ns C m ∧ ∀ h'', Heap.SameBut C s''.heap h'' → Q .none { s'' with heap := h'' }) E { s with heap := h', toks := tk }) :
    wpAny c.M A (comprehension (.ListComp elt (⟨t, iter, ifs, 0⟩ :: rest) scope pos) scope env pos' (newList []) false (eval iter env) use) Q E s := by
  have hcells : ∀ x, (x, NameKind.free) ∈ scope.names → (env.cells.lookup x).isSome = true := by
    intro x hx
    obtain ⟨d, hd⟩ := fr.has x hx
    obtain ⟨h1, h2, _⟩ := fr.mem _ hd
    obtain ⟨v, l, _⟩ := I.names x d h1
    obtain ⟨a, ha, _⟩ := look_cell I.es h2 l
    rw [ha]; rfl
  refine wpAny_comprehension_free (g := ⟨t, iter, ifs, 0⟩) (gs := rest) rfl (hs env) (closureFor_eq hcells) so.kind (fun x hx hl => ?_) ?_
  · have : (x.1, NameKind.local) ∈ scope.names := by obtain ⟨y, k⟩ := x; cases hl; exact hx
    exact lookup_of_nodup so.nodup this
  refine hi.run A P env s _ E R I fun v h₁ tk₁ e₁ r₁ => ?_
  have I₁ := I.ext e₁
  refine iter_any (s := { s with heap := h₁, toks := tk₁ }) R.handled r₁ hit fun J fp Pw SI h₂ io s0 e₂ => ?_
  have newJ : h₁.get? J = none := io.new
  have lJ := io.live _ _ s0
  refine wpAny_newObj_type (s := { s with heap := h₂, toks := tk₁ }) ?_ (by show ([] : List Value).toArray.size ≤ sizeLine; decide)
  refine newEnv_comp ?_
  -- the heaps: h₃ with the new list, h₄ with the frame, h₅ with its cells
  generalize hacc : h₂.objs.size = acc
  have e₃ : Ext h₂ (h₂.push { cls := .type "list", dict := none, data := .seq ([] : List Value).toArray }) := .push _ _
  have pl₃ : PlainL (h₂.push { cls := .type "list", dict := none, data := .seq ([] : List Value).toArray }) acc (List.toArray []) := hacc ▸ plainL_new _ _
  have nacc : h₂.get? acc = none := hacc ▸ get_size _
  dsimp only
  generalize (h₂.push { cls := .type "list", dict := none, data := .seq ([] : List Value).toArray }) = h₃ at e₃ pl₃
  generalize hC : h₃.objs.size = C
  have e₄ : Ext h₃ (h₃.push { cls := .type "dict", data := .dict #[] }) := .push _ _
  have ns₄ : (h₃.push { cls := .type "dict", data := .dict #[] }).Ns C (fun _ => none) := hC ▸ Heap.Ns.new h₃ (.type "dict")
  have nC : h₃.get? C = none := hC ▸ get_size _
  have ok := cellsFrom_ok scope.names (h₃.push { cls := .type "dict", data := .dict #[] }) (C + 1) [] ⟨fun _ _ hm => (nomatch hm), List.Pairwise.nil⟩ (by rw [Heap.size_push, hC]; exact Nat.le_refl _)
  rw [Heap.size_push, hC] at ok
  have nc : ∀ a, C + 1 ≤ a → h₃.get? a = none := by
    intro a ha
    cases q : h₃.get? a with
    | none => rfl
    | some o => exact absurd (Heap.lt_size q) (by rw [hC]; exact Nat.not_lt.mpr (Nat.le_of_succ_le ha))
  have e₅ : Ext (h₃.push { cls := .type "dict", data := .dict #[] }) (pushCells (h₃.push { cls := .type "dict", data := .dict #[] }) scope.names) := pushCells_keeps _ _
  have ns₅ := ns₄.keeps e₅
  have e₃₅ := e₄.trans e₅
  generalize pushCells (h₃.push { cls := .type "dict", data := .dict #[] }) scope.names = h₅ at ok ns₅ e₃₅
  clear e₄ e₅ ns₄ hC hacc
  have pl₅ := pl₃.keeps e₃₅
  have e₂₅ : Ext h₂ h₅ := e₃.trans e₃₅
  have e₁₅ : Ext h₁ h₅ := e₂.trans e₂₅
  have dead : ∀ a, h₃.get? a = none → h₁.get? a = none := fun a q => by
    cases z : h₁.get? a with
    | none => rfl
    | some o => rw [e₃ _ _ (e₂ _ _ z)] at q; cases q
  have lJ₃ : (h₃.get? J).isSome = true := by obtain ⟨o, ho⟩ := Option.isSome_iff_exists.mp lJ; rw [e₃ _ _ ho]; rfl
  have lA₃ := plain_live pl₃
  have neJA : J ≠ acc := by rintro rfl; rw [nacc] at lJ; cases lJ
  have neJC : J ≠ C := by rintro rfl; rw [nC] at lJ₃; cases lJ₃
  have neAC : acc ≠ C := by rintro rfl; rw [nC] at lA₃; cases lA₃
  have nAdead : h₁.get? acc = none := by
    cases z : h₁.get? acc with
    | none => rfl
    | some o => rw [e₂ _ _ z] at nacc; cases nacc
  -- the frame's cells
  have hcs : cellsFrom (C + 1) scope.names (clF (fun n => env.cells.lookup n) scope.names []) = cellsFrom (C + 1) scope.names [] ++ clF (fun n => env.cells.lookup n) scope.names [] := cellsFrom_append _ _ _
  have lkCell : ∀ x a, (cellsFrom (C + 1) scope.names (clF (fun n => env.cells.lookup n) scope.names [])).lookup x = some a →
      (scope.names.lookup x = some .cell ∧ (cellsFrom (C + 1) scope.names []).lookup x = some a) ∨ (scope.names.lookup x = some .free ∧ env.cells.lookup x = some a) := by
    intro x a q
    rw [hcs, List.lookup_append] at q
    cases z : (cellsFrom (C + 1) scope.names []).lookup x with
    | some b =>
      rw [z] at q; cases q
      rcases cellsFrom_mem (mem_of_lookup z) with w | w
      · cases w
      · exact .inl ⟨lookup_of_nodup so.nodup w, rfl⟩
    | none =>
      rw [z] at q
      obtain ⟨h1, h2⟩ := clF_lookup q
      refine .inr ⟨lookup_of_nodup so.nodup h1, ?_⟩
      obtain ⟨b, hb⟩ := Option.isSome_iff_exists.mp (hcells x h1)
      rw [h2, hb]; rfl
  have ownLo : ∀ x a, (cellsFrom (C + 1) scope.names []).lookup x = some a → C + 1 ≤ a ∧ h₅.IsCell a none := fun x a q => ⟨(ok.empty x a (mem_of_lookup q)).2, (ok.empty x a (mem_of_lookup q)).1⟩
  have freeLive : ∀ x a, scope.names.lookup x = some .free → env.cells.lookup x = some a → ∃ v, h₁.IsCell a (some v) := by
    intro x a q z
    obtain ⟨d, hd⟩ := fr.has x (mem_of_lookup q)
    obtain ⟨m1, m2, _⟩ := fr.mem _ hd
    obtain ⟨v, l, _⟩ := I₁.names x d m1
    obtain ⟨b, hb, hv⟩ := look_cell I.es m2 l
    rw [z] at hb; cases hb
    exact ⟨v, hv⟩
  let Pin : Addr → Prop := fun a => P a ∧ a ≠ J ∧ a ≠ acc ∧ a ≠ C ∧ ∀ x, (cellsFrom (C + 1) scope.names []).lookup x ≠ some a
  let cenv : Env := { scope := relabel scope env, locals := C, globals := env.globals, cells := cellsFrom (C + 1) scope.names (clF (fun n => env.cells.lookup n) scope.names []), qual := env.qual, func := none, code := env.code, frame := env.frame, builtins := env.builtins }
  have pinOf : ∀ a, P a → (h₁.get? a).isSome = true → Pin a := by
    intro a p l
    refine ⟨p, ?_, ?_, ?_, ?_⟩
    · rintro rfl; rw [newJ] at l; cases l
    · rintro rfl; rw [nAdead] at l; cases l
    · rintro rfl; rw [dead _ nC] at l; cases l
    · intro x q; rw [dead _ (nc a (ownLo x a q).1)] at l; cases l
  have L : CAt c P scope cenv (fun a o => h₁.get? a = some o) (Zy h₁) acc J SI Pin P h₁ ⟨βρ, none⟩ [] 0 h₅ := {
    fl := {
      kn := {
        ok := I.ok
        es := ⟨so.kind, I.es.globals, I.es.builtins, fun x => lookup_relabel scope.names x, so.nodebug, so.noclass⟩
        base := I₁.base.trans e₁₅
        up := by
          intro a q
          have d5 : ∀ {h : Heap}, Ext h h₅ → h.get? a = none := fun {h} e => by
            cases z : h.get? a with
            | none => rfl
            | some o => rw [e _ _ z] at q; cases q
          refine ⟨I₁.up a (d5 e₁₅), ?_, ?_, ?_, ?_⟩
          · rintro rfl; rw [d5 e₃₅] at lJ₃; cases lJ₃
          · rintro rfl; rw [d5 e₃₅] at lA₃; cases lA₃
          · rintro rfl; obtain ⟨o, _, _, ho, _⟩ := ns₅; rw [ho] at q; cases q
          · intro x z; obtain ⟨o, ho, _⟩ := (ownLo x a z).2; rw [ho] at q; cases q
        names := by
          intro x d hx
          obtain ⟨m1, m2, m3⟩ := fr.mem _ hx
          obtain ⟨v, l, r⟩ := I₁.names x d m1
          obtain ⟨a, ha, hv⟩ := look_cell I.es m2 l
          refine ⟨v, .inr ⟨?_, a, ?_, hv.keeps e₁₅⟩, Rep.mono (fun b o _ e => e₁₅ b o e) (fun b p l => pinOf b p l) d v r⟩
          · have k1 : nk (cenv.kindOf x) = nk (scope.names.lookup x) := lookup_relabel scope.names x
            rw [lookup_of_nodup so.nodup m3] at k1
            cases hk : cenv.kindOf x with
            | none => rw [hk] at k1; cases k1
            | some y => rw [hk] at k1; cases y <;> first | exact .inl rfl | exact .inr rfl | cases k1
          · show (cellsFrom (C + 1) scope.names (clF (fun n => env.cells.lookup n) scope.names [])).lookup x = some a
            rw [hcs, List.lookup_append]
            cases z : (cellsFrom (C + 1) scope.names []).lookup x with
            | some b =>
              rcases cellsFrom_mem (mem_of_lookup z) with w | w
              · cases w
              · have := lookup_of_nodup so.nodup w; rw [lookup_of_nodup so.nodup m3] at this; cases this
            | none =>
              obtain ⟨b, hb⟩ := Option.isSome_iff_exists.mp (clF_has (f := fun n => env.cells.lookup n) (acc := []) (.inr m3))
              obtain ⟨_, q⟩ := clF_lookup hb
              rw [hb, q, ha]; rfl }
      keep := by
        rintro a o (k | ⟨_, q⟩)
        · exact e₁₅ a o k
        · exact q
      baseK := fun a o e => .inl (I₁.base a o e)
      sub := fun a p => p.1
      up0 := fun a z => I₁.up a (by
        cases q : h₁.get? a with
        | none => rfl
        | some o => exact absurd (.inl q) (z o))
      loc := ⟨_, ns₅⟩
      locK := by
        rintro o (k | ⟨m, _⟩)
        · rw [show cenv.locals = C from rfl, dead _ nC] at k; cases k
        · rcases List.mem_cons.mp m with e | m
          · exact neJC e.symm
          · exact neAC (List.mem_singleton.mp m).symm
      locP := fun p => p.2.2.2.1 rfl
      cell := by
        intro x a q
        rcases lkCell x a q with ⟨_, z⟩ | ⟨z1, z2⟩
        · exact ⟨_, (ownLo x a z).2⟩
        · obtain ⟨v, hv⟩ := freeLive x a z1 z2
          exact ⟨_, hv.keeps e₁₅⟩
      ownc := by
        intro x a z q
        rcases lkCell x a q with ⟨_, w⟩ | ⟨w, _⟩
        · refine ⟨?_, fun p => p.2.2.2.2 x w⟩
          have lo := nc a (ownLo x a w).1
          rintro o (k | ⟨m, _⟩)
          · rw [dead _ lo] at k; cases k
          · rcases List.mem_cons.mp m with e | m
            · rw [e] at lo; rw [lo] at lJ₃; cases lJ₃
            · rw [List.mem_singleton.mp m] at lo; rw [lo] at lA₃; cases lA₃
        · rw [z] at w; cases w
      freec := by
        intro x a z q
        rcases lkCell x a q with ⟨w, _⟩ | ⟨w1, w2⟩
        · exact absurd w z
        · obtain ⟨v, o, ho, _⟩ := freeLive x a w1 w2
          exact ⟨o, .inl ho⟩
      apart := by
        intro x y a z qx qy
        rcases lkCell x a qx with ⟨_, w⟩ | ⟨w1, w2⟩
        · rcases lkCell y a qy with ⟨_, u⟩ | ⟨u1, u2⟩
          · exact name_of_addr ok.apart (mem_of_lookup w) (mem_of_lookup u)
          · obtain ⟨v, o, ho, _⟩ := freeLive y a u1 u2
            have := dead _ (nc a (ownLo x a w).1); rw [ho] at this; cases this
        · rw [z] at w1; cases w1
      cls := by
        intro x q
        exact ⟨lookup_relabel_cell q, mem_cellsFrom (.inr (mem_of_lookup q))⟩
      own := trivial }
    nI := fun p => p.2.1 rfl
    kI := fun o k => by rw [newJ] at k; cases k
    nA := fun p => p.2.2.1 rfl
    kA := fun o k => by rw [nAdead] at k; cases k
    ne := neJA
    lI := by obtain ⟨o, ho⟩ := Option.isSome_iff_exists.mp lJ₃; rw [e₃₅ _ _ ho]; rfl
    si := io.W.frame _ _ _ s0 fun b _ o q => e₂₅ b o q
    pl := ⟨[], pl₅, rfl, z0 h₁⟩
    old := fun a o e p => ⟨pinOf a p (by rw [e]; rfl), e₁₅ a o e⟩ }
  refine comp_start (k := 0) (t := t) (i := iter) (ifs := ifs) rfl io (io.W.frame _ _ _ s0 fun b _ o q => e₂₅ b o q) ?_
  refine lp (s0 := s) (env := cenv) h₅ tk₁ R io (fun a o e => I₁.base a o e) (fun a z => I₁.up a (by
        cases q : h₁.get? a with
        | none => rfl
        | some o => exact absurd q (z o))) (fun x a z q => by
        rcases lkCell x a q with ⟨w, _⟩ | ⟨w1, w2⟩
        · exact absurd w z
        · obtain ⟨v, o, ho, _⟩ := freeLive x a w1 w2
          exact ⟨o, ho⟩) (fun _ _ e => e) L ?_
  intro P' h' tk' vs F' nA' pl' ra' sp' zz
  have ext : Ext s.heap h' := fun a o e => F'.keep a o (.inl (e₁ a o e))
  obtain ⟨m, hm⟩ := F'.loc
  have nw : ∀ a, h₁.get? a = none → s.heap.get? a = none := fun a q => by
    cases z : s.heap.get? a with
    | none => rfl
    | some o => rw [e₁ _ _ z] at q; cases q
  have sub' : ∀ a, P' a → P a ∧ a ≠ acc ∧ a ≠ C := by
    intro a p
    refine ⟨F'.sub a p, fun q => nA' (q ▸ p), ?_⟩
    rcases sp' a p with q | q
    · exact q.2.2.2.1
    · rw [q]; exact neJC
  have g := G acc vs C h' tk' m ext (nw _ nAdead) (I₁.up acc nAdead) pl' (RepAll.weak sub' ra') hm (nw _ (dead _ nC)) (Ne.symm neAC) ⟨h₁, e₁, zz⟩
  cases use with
  | none => exact ⟨m, hm, g⟩
  | some u => exact g

theorem comp_core {A : Around} {s : Shared} {Q : Value → Shared → Prop} {E : Value → Shared → Prop} {use : Option (Value → Sem Unit)} {elt t iter : Expr} {ifs : List Expr} {rest : List Comprehension} {pos pos' : Pos} {d : D} {ds out : List D}
    (so : ScOk scope) (fr : FrR sco ρ scope.names βρ) (hi : Ev c n sco ρ iter d) (hit : Items d ds) (lp : Lp c n scope elt (⟨t, iter, ifs, 0⟩ :: rest) 0 ⟨βρ, none⟩ ds out) (hz : out.length ≤ 16777216)
    (hs : ∀ env x, foldedSetIterable iter env x = pure x) (R : Room n A) (I : Kn c P sco env ρ s.heap)
    (G : ∀ acc vs C h' tk m, Ext s.heap h' → s.heap.get? acc = none → P acc → PlainL h' acc (List.toArray vs) → RepAll h' (fun b => P b ∧ b ≠ acc ∧ b ≠ C) out vs → h'.Ns C m → s.heap.get? C = none → C ≠ acc →
      match use with
      | none => ∀ h'', Heap.SameBut C h' h'' → Q (.ref acc) { s with heap := h'', toks := tk }
      | some u => wpAny c.M A (u (.ref acc)) (fun _ s'' => ∃ m, s''.heap.Ns C m ∧ ∀ h'', Heap.SameBut C s''.heap h'' → Q .none { s'' with heap := h'' }) E { s with heap := h', toks := tk }) :
    wpAny c.M A (comprehension (.ListComp elt (⟨t, iter, ifs, 0⟩ :: rest) scope pos) scope env pos' (newList []) false (eval iter env) use) Q E s := by
  refine comp_coreZ (Zy := fun _ _ => True) (fun _ => trivial) so fr hi hit ?_ hs R I fun acc vs C h' tk m h1 h2 h3 h4 h5 h6 h7 h8 _ => G acc vs C h' tk m h1 h2 h3 h4 h5 h6 h7 h8
  intro A P₀ env s0 acc scope' pos K P h0P h0 I fp Pw SI R' h tk R it b0 u0 f0 _ L fin
  exact comp_code (s0 := s0) (env := env) R lp [] 0 h tk rfl rfl rfl (Nat.zero_le _) hz it b0 u0 f0 L fun P' h' tk' ys a1 a2 a3 a4 a5 => fin P' h' tk' ys a1 a2 a3 a4 a5 trivial
end

end Mine

/-! part C11 -/
namespace Mine

section
variable {c : Cx} {n : Nat} {sc scope : Scope} {ρ βρ : List (Str × D)} {σ σ' : Sg}

theorem Ev.comp {elt t iter : Expr} {ifs : List Expr} {rest : List Comprehension} {pos : Pos} {d : D} {ds out : List D}
    (so : ScOk scope) (fr : FrR sc ρ scope.names βρ) (hi : Ev c n sc ρ iter d) (hit : Items d ds) (lp : Lp c n scope elt (⟨t, iter, ifs, 0⟩ :: rest) 0 ⟨βρ, none⟩ ds out) (hz : out.length ≤ 16777216)
    (hs : ∀ env x, foldedSetIterable iter env x = pure x := by intro _ _; rfl) : Ev c n sc ρ (.ListComp elt (⟨t, iter, ifs, 0⟩ :: rest) scope pos) (.lst out) := by
  refine ⟨fun A P env s Q E R I K => ?_⟩
  show wpAny c.M A (comprehension (.ListComp elt (⟨t, iter, ifs, 0⟩ :: rest) scope pos) scope env _ (newList []) false (eval iter env) none) Q E s
  refine comp_core so fr hi hit lp hz hs R I fun acc vs C h' tk m ex nw pa pl ra hm nC ne h'' sb => ?_
  have nl : ∀ a o, s.heap.get? a = some o → a ≠ C := by rintro a o e rfl; rw [nC] at e; cases e
  refine K _ h'' tk (fun a o e => (sb.2 a (nl a o e)).trans (ex a o e)) ⟨acc, vs, rfl, pa, pl.extBut sb.extBut (Ne.symm ne), ?_⟩
  exact RepAll.mono (fun a o p e => (sb.2 a p.2.2).trans e) (fun a p _ => p.1) out vs ra

theorem EvNew.comp {elt t iter : Expr} {ifs : List Expr} {rest : List Comprehension} {pos : Pos} {d : D} {ds out : List D}
    (so : ScOk scope) (fr : FrR sc ρ scope.names βρ) (hi : Ev c n sc ρ iter d) (hit : Items d ds) (lp : Lp c n scope elt (⟨t, iter, ifs, 0⟩ :: rest) 0 ⟨βρ, none⟩ ds out) (hz : out.length ≤ 16777216)
    (hs : ∀ env x, foldedSetIterable iter env x = pure x := by intro _ _; rfl) : EvNew c n sc ρ (.ListComp elt (⟨t, iter, ifs, 0⟩ :: rest) scope pos) out := by
  refine ⟨fun A P env s Q E R I K => ?_⟩
  show wpAny c.M A (comprehension (.ListComp elt (⟨t, iter, ifs, 0⟩ :: rest) scope pos) scope env _ (newList []) false (eval iter env) none) Q E s
  refine comp_core so fr hi hit lp hz hs R I fun acc vs C h' tk m ex nw pa pl ra hm nC ne h'' sb => ?_
  have nl : ∀ a o, s.heap.get? a = some o → a ≠ C := by rintro a o e rfl; rw [nC] at e; cases e
  refine K acc vs h'' tk (fun a o e => (sb.2 a (nl a o e)).trans (ex a o e)) nw (pl.extBut sb.extBut (Ne.symm ne)) ?_
  exact RepAll.mono (fun a o p e => (sb.2 a p.2.2).trans e) (fun a p _ => ⟨p.1, p.2.1⟩) out vs ra

theorem swaps_cell {elt : Expr} {gens : List Comprehension} {pos : Pos} {x : Str} {p : Pos} {line : Nat} (hx : nk (sc.names.lookup x) = some .cell) :
    ∀ env, EnvS sc env → swapsWith (.ListComp elt gens scope pos) (some (.Name x p)) line env = pure false := by
  intro env es
  have hk : (env.kindOf x == some NameKind.local) = false := by
    rcases es.cellish hx with q | q <;> rw [q] <;> rfl
  show (pure (env.blockKind == .function && env.kindOf x == some .local && p.line == _ && _) : Sem Bool) = pure false
  rw [hk]
  simp only [Bool.and_false, Bool.false_and]

theorem swaps_local {elt : Expr} {gens : List Comprehension} {pos : Pos} {x : Str} {p : Pos} {line : Nat} (hx : sc.names.lookup x = some .local) (hl : (p.line == pos.line) = true)
    (hn : (scope.names.any fun (n, k) => n == x && (k == .local || k == .cell)) = false) :
    ∀ env, EnvS sc env → swapsWith (.ListComp elt gens scope pos) (some (.Name x p)) line env = pure true := by
  intro env es
  have hk := es.local hx
  have hb : env.blockKind = .function := by unfold Env.blockKind; rw [es.kind]; rfl
  show (pure (env.blockKind == .function && env.kindOf x == some .local && p.line == pos.line && !(scope.names.any fun (n, k) => n == x && (k == .local || k == .cell))) : Sem Bool) = pure true
  rw [hk, hb, hl, hn]
  rfl

/-- x = [.. for ..], x a plain local: the store comes before the frame of the comprehension is let go -/
theorem St1.assignComp {x : Str} {p pos' : Pos} {elt t iter : Expr} {ifs : List Expr} {rest : List Comprehension} {pos : Pos} {d : D} {ds out : List D}
    (so : ScOk scope) (fr : FrR sc σ.ρ scope.names βρ) (hi : Ev c n sc σ.ρ iter d) (hit : Items d ds) (lp : Lp c n scope elt (⟨t, iter, ifs, 0⟩ :: rest) 0 ⟨βρ, none⟩ ds out) (hz : out.length ≤ 16777216)
    (hx : sc.names.lookup x = some .local) (hp : Put x (.lst out) σ σ') (ho : σ'.own = none)
    (hl : (p.line == pos.line) = true := by rfl) (hn : (scope.names.any fun (n, k) => n == x && (k == .local || k == .cell)) = false := by rfl)
    (hs : ∀ env x, foldedSetIterable iter env x = pure x := by intro _ _; rfl) : St1 c n sc σ (.Assign [.Name x p] (.ListComp elt (⟨t, iter, ifs, 0⟩ :: rest) scope pos) pos') (.next σ') := by
  refine ⟨fun A P₀ P env K s Q E R F G => ?_⟩
  rw [exec_Assign_Name_used _ _ _ _ (swaps_local hx hl hn env F.kn.es)]
  refine wpAny_bind (wpAny_standAt (wpAny_bind ?_))
  show wpAny _ A (do let _ ← comprehension (.ListComp elt (⟨t, iter, ifs, 0⟩ :: rest) scope pos) scope env _ (newList []) false (eval iter env) (some (PySem.assign (.Name x p) env))) _ _ s
  refine wpAny_bind ?_
  refine comp_core so fr hi hit lp hz hs R F.kn fun acc vs C h' tk m ex nw pa pl ra hm nC ne => ?_
  obtain ⟨oC, e1, e2, hoC, hdC, hrC⟩ := id hm
  have nL : ∀ b, (s.heap.get? b).isSome = true → b ≠ C := by rintro b l rfl; rw [nC] at l; cases l
  -- the frame of the comprehension is held apart
  have F1 : Fl c P₀ (fun b => P b ∧ b ≠ C) sc env (xK K [C] h') σ h' := {
    kn := ⟨F.kn.ok, F.kn.es, F.kn.base.trans ex, fun b e => ⟨(F.kn.up.ext ex) b e, fun q => by rw [q, hoC] at e; cases e⟩, fun y d hy => by
      obtain ⟨u, l, r⟩ := F.kn.names y d hy
      exact ⟨u, l.ext ex, Rep.mono (fun b o _ e => ex b o e) (fun b p l => ⟨p, nL b l⟩) d u r⟩⟩
    keep := fun b o z => z.elim (fun k => ex b o (F.keep b o k)) fun q => q.2
    baseK := fun b o e => .inl (F.baseK b o e)
    sub := fun b p => F.sub b p.1
    up0 := fun b z => F.up0 b fun o k => z o (.inl k)
    loc := (F.ext ex).loc
    locK := by
      rintro o (k | ⟨m, _⟩)
      · exact F.locK o k
      · obtain ⟨_, o', _, _, ho', _⟩ := F.loc
        exact nL _ (by rw [ho']; rfl) (List.mem_singleton.mp m)
    locP := fun p => F.locP p.1
    cell := (F.ext ex).cell
    ownc := fun y b z q => by
      obtain ⟨k, p⟩ := F.ownc y b z q
      refine ⟨?_, fun z => p z.1⟩
      rintro o (k' | ⟨m, _⟩)
      · exact k o k'
      · obtain ⟨_, o', ho', _⟩ := F.cell y b q
        exact nL _ (by rw [ho']; rfl) (List.mem_singleton.mp m)
    freec := fun y a z q => let ⟨o, k⟩ := F.freec y a z q; ⟨o, .inl k⟩
    apart := F.apart
    cls := F.cls
    own := by
      have ow := F.own
      match hx : σ.own, ow with
      | none, _ => trivial
      | some (y, es), ⟨a, ws, l, pl, k, p, r⟩ =>
        have la := plain_live pl
        refine ⟨a, ws, l.ext ex, pl.keeps ex, ?_, fun z => p z.1, RepAll.mono (fun a o _ e => ex a o e) (fun a p l => ⟨p, nL a l⟩) es ws r⟩
        rintro o (k' | ⟨m, _⟩)
        · exact k o k'
        · exact nL _ la (List.mem_singleton.mp m) }
  refine wpAny_assign_Name ?_
  have rp : Rep h' (fun b => P b ∧ b ≠ C) (.lst out) (.ref acc) := ⟨acc, vs, rfl, ⟨pa, Ne.symm ne⟩, pl, RepAll.weak (fun a p => ⟨p.1, p.2.2⟩) ra⟩
  refine F1.store (s := { s with heap := h', toks := tk }) rp (.inl hx) hp fun h₂ tk₂ F₂ => ?_
  have kC : h₂.get? C = some oC := F₂.keep C oC (.inr ⟨List.mem_singleton.mpr rfl, hoC⟩)
  refine ⟨m, ⟨oC, e1, e2, kC, hdC, hrC⟩, fun h₃ sb => ?_⟩
  refine wpAny_pure (wpAny_pure ?_)
  have F2' : Fl c P₀ (fun b => P b ∧ b ≠ C) sc env (xK K [C] h₂) σ' h₂ := F₂.weakK (by
    rintro a o (k | ⟨m, q⟩)
    · exact .inl k
    · rw [List.mem_singleton.mp m, kC] at q; cases q
      exact .inr ⟨m, by rw [List.mem_singleton.mp m]; exact hoC⟩) (fun b o e => .inl (F.baseK b o e)) (fun b z => F.up0 b fun o k => z o (.inl k)) (fun y a z q => let ⟨o, k⟩ := F.freec y a z q; ⟨o, .inl k⟩)
  have kC0 : ∀ o, ¬ K C o := fun o k => by have := F.keep C o k; rw [nC] at this; cases this
  have F3 := F2'.poke (h₁ := h₃) ho (by intro a m p; exact p.2 (List.mem_singleton.mp m)) (by intro a m; rw [List.mem_singleton.mp m]; exact kC0) (by intro a m; rw [List.mem_singleton.mp m, kC]; rfl) F.baseK F.up0 F.freec
    (fun b o nb e => (sb.2 b (fun q => nb (q ▸ List.mem_singleton.mpr rfl))).trans e)
  refine G _ h₃ tk₂ (F3.weakK (fun _ _ k => .inl k) F.baseK F.up0 F.freec) (fun a o e p => .inl ⟨p, nL a (by rw [e]; rfl)⟩) ?_
  rintro a o k (p | ⟨m, _⟩)
  · exact p.1
  · rw [List.mem_singleton.mp m] at k; exact absurd k (kC0 o)
end

end Mine

/-! part C12 -/
namespace Mine

section
variable {c : Cx} {n : Nat} {sc : Scope} {ρ : List (Str × D)}

theorem Hp.units {A : Around} {P : Addr → Prop} {s : Shared} (H : Hp c n A P s) : A.units < cLine := by have := H.room.units; rw [cLine_is]; omega

/-! ### calls of built-ins -/
theorem CallR.lenL {ds : List D} (hz : ds.length ≤ 16777216) : CallR c n (.builtin "len") [.lst ds] (.int ds.length) := by
  rintro A P s Q E _ H ⟨_, _, rfl, ⟨a, vs, rfl, pa, pl, ra⟩, rfl⟩ K
  have e : (vs.toArray.size : Int) = ds.length := by simp [ra.length]
  refine PyProof.Rows.len_list pl.isList (by rw [e]; omega) (K _ _ _ (.refl _) ⟨_, by rw [e]⟩)
theorem CallR.lenB {b : List UInt8} (hz : b.length ≤ 16777216) : CallR c n (.builtin "len") [.bytes b] (.int b.length) := by
  rintro A P s Q E _ H ⟨_, _, rfl, ⟨t, rfl⟩, rfl⟩ K
  have e : (b.toArray.size : Int) = b.length := by simp
  exact PySem.W.len_bytes (by simp; omega) (K _ _ _ (.refl _) ⟨_, by rw [e]⟩)
theorem CallR.abs {i : Int} : CallR c n (.builtin "abs") [.int i] (.int (if i < 0 then -i else i)) := by
  rintro A P s Q E _ H ⟨_, _, rfl, ⟨t, rfl⟩, rfl⟩ K
  exact PyProof.Rows.call_abs_int fun u tk => K _ _ _ (.refl _) ⟨_, rfl⟩
theorem CallR.int {i : Int} : CallR c n (.type "int") [.int i] (.int i) := by
  rintro A P s Q E _ H ⟨_, _, rfl, ⟨t, rfl⟩, rfl⟩ K
  exact PySem.call_int_int (K _ _ _ (.refl _) ⟨_, rfl⟩)
theorem CallR.divmod {a b : Int} (hb : 0 < b) (hb' : b < 1073741824) : CallR c n (.builtin "divmod") [.int a, .int b] (.tup [.int (a / b), .int (a % b)]) := by
  rintro A P s Q E _ H ⟨_, _, rfl, ⟨t, rfl⟩, _, _, rfl, ⟨u, rfl⟩, rfl⟩ K
  refine divmod_int (by omega) (K _ _ _ (.push _ _) ?_) (.inl (PyProof.noPylong_small (by omega)))
  refine ⟨_, [_, _], rfl, H.up _ (get_size _), ⟨_, Heap.get?_push_size _ rfl, rfl, 0, rfl⟩, ?_⟩
  rw [Int.fdiv_eq_ediv_of_nonneg _ (Int.le_of_lt hb), Int.fmod_eq_emod_of_nonneg _ (Int.le_of_lt hb)]
  exact ⟨_, _, rfl, ⟨_, rfl⟩, _, _, rfl, ⟨_, rfl⟩, rfl⟩
theorem CallR.sum {ns : List Int} : CallR c n (.builtin "sum") [dInts ns] (.int ns.sum) := by
  rintro A P s Q E _ H ⟨_, _, rfl, ⟨a, vs, rfl, pa, pl, ra⟩, rfl⟩ K
  have hi := ra.toInts
  obtain ⟨xs, hx⟩ := hi.allInts.items
  have pl' := pl.isList
  rw [hx] at pl'
  refine sum_intListG H.room.handled pl' fun h' tk t' hk => K _ _ _ hk ⟨t', ?_⟩
  congr 1
  have h1 := nums_intItems xs
  have h2 : numsOf vs.toArray.toList = ns := hi.numsOf
  rw [hx] at h2
  rw [preSum_eq, List.take_of_length_le (by simp), ← h2, h1]
theorem CallR.range1 {b : Int} : CallR c n (.type "range") [.int b] (.rng 0 b 1) := by
  rintro A P s Q E _ H ⟨_, _, rfl, ⟨t, rfl⟩, rfl⟩ K
  exact call_range_1 (K _ _ _ (.push _ _) ⟨_, _, _, _, rfl, H.up _ (get_size _), IsRange.new ..⟩)
theorem CallR.range2 {a b : Int} : CallR c n (.type "range") [.int a, .int b] (.rng a b 1) := by
  rintro A P s Q E _ H ⟨_, _, rfl, ⟨t, rfl⟩, _, _, rfl, ⟨u, rfl⟩, rfl⟩ K
  exact call_range_2 (K _ _ _ (.push _ _) ⟨_, _, _, _, rfl, H.up _ (get_size _), IsRange.new ..⟩)
theorem CallR.range3 {a b : Int} : CallR c n (.type "range") [.int a, .int b, .int (-1)] (.rng a b (-1)) := by
  rintro A P s Q E _ H ⟨_, _, rfl, ⟨t, rfl⟩, _, _, rfl, ⟨u, rfl⟩, _, _, rfl, ⟨w, rfl⟩, rfl⟩ K
  exact call_range_3 (by decide) (K _ _ _ (.push _ _) ⟨_, _, _, _, rfl, H.up _ (get_size _), IsRange.new ..⟩) (.inl (PyProof.noPylong_small (by decide)))
theorem CallR.bytes {ns : List Int} (hr : ∀ x ∈ ns, 0 ≤ x ∧ x < 256) (hz : ns.length ≤ 16777216) : CallR c n (.type "bytes") [dInts ns] (.bytes (ns.map fun x => x.toNat.toUInt8)) := by
  rintro A P s Q E _ H ⟨_, _, rfl, ⟨a, vs, rfl, pa, pl, ra⟩, rfl⟩ K
  have hi := ra.toInts
  exact call_bytes_ints pl.isList hi hr (by rw [hi.length, sizeLine_eq]; exact hz) H.room.handled fun h' t k hk => K _ _ _ hk ⟨t, rfl⟩
theorem CallR.isBytes {b : List UInt8} : CallR c n (.builtin "isinstance") [.bytes b, .typ "bytes"] (.bool true) := by
  rintro A P s Q E _ H ⟨_, _, rfl, ⟨t, rfl⟩, _, _, rfl, rfl, rfl⟩ K
  exact call_isinstance (isinstance_true (Tx := "bytes") F.isi_meta_bytes F.bm_sub) ⟨typeIs_bytes _ _ _, K _ _ _ (.refl _) rfl⟩
theorem CallR.sorted {ns ms : List Int} (hz : ns.length < 64) (hp : ms.Perm ns) (hs : ms.Pairwise (· ≤ ·)) : CallR c n (.builtin "sorted") [dInts ns] (dInts ms) := by
  rintro A P s Q E _ H ⟨_, _, rfl, ⟨a, vs, rfl, pa, pl, ra⟩, rfl⟩ K
  have hi := ra.toInts
  refine sorted_ints pl.isList hi (by rw [hi.length]; exact hz) fun outs ns' h1 h2 h3 => ?_
  have e : ns' = ms := (h2.trans hp.symm).eq_of_pairwise (fun a b _ _ h1 h2 => Int.le_antisymm h1 h2) h3 hs
  subst e
  obtain ⟨k, hk⟩ := sortedAll_at s.heap vs outs
  refine K _ _ _ (fun b o q => sortedAll_old q) ⟨_, outs.toList, rfl, ?_, ⟨_, k, hk, rfl, rfl, rfl⟩, RepAll.of_ints h1⟩
  refine H.up _ ?_
  cases q : s.heap.get? (s.heap.objs.size + 1) with
  | none => rfl
  | some o => exact absurd (Heap.lt_size q) (Nat.not_lt.mpr (Nat.le_succ _))

/-! ### is, is not -/
theorem CmpR.isNone {d : D} : CmpR c n .Is d .none (match d with | .none => true | _ => false) := by
  rintro A P s Q E v _ H r rfl K
  refine is_none (?_ : Q (.bool (v == .none)) s)
  have := K _ s.toks (.refl _)
  cases d <;> first
    | (cases r; exact this)
    | (obtain ⟨t, rfl⟩ := r; exact this)
    | (obtain ⟨a, vs, rfl, _⟩ := r; exact this)
    | (obtain ⟨_, _, _, _, rfl, _⟩ := r; exact this)
theorem isSame_bool (a b : Bool) : isSame (.bool a) (.bool b) = pure (a == b) := by cases a <;> cases b <;> rfl
theorem CmpR.isBool {a b : Bool} : CmpR c n .Is (.bool a) (.bool b) (a == b) := by
  rintro A P s Q E _ _ H rfl rfl K
  show wpAny c.M A (do return .bool (← isSame (.bool a) (.bool b))) Q E s
  rw [isSame_bool]; exact wpAny_bind (wpAny_pure (wpAny_pure (K _ _ (.refl _))))
theorem CmpR.isNotBool {a b : Bool} : CmpR c n .IsNot (.bool a) (.bool b) (a != b) := by
  rintro A P s Q E _ _ H rfl rfl K
  show wpAny c.M A (do return .bool (!(← isSame (.bool a) (.bool b)))) Q E s
  rw [isSame_bool]; exact wpAny_bind (wpAny_pure (wpAny_pure (K _ _ (.refl _))))

/-! ### bytes -/
theorem BinR.addB {a b : List UInt8} (hz : a.length + b.length ≤ 16777216) : BinR c n .Add (.bytes a) (.bytes b) (.bytes (a ++ b)) := by
  rintro A P s Q E _ _ H ⟨t, rfl⟩ ⟨u, rfl⟩ K
  exact KBy.add_bytes (by simpa using hz) fun t' k => K _ _ _ (.refl _) ⟨t', by simp⟩
theorem BinR.mulB {x : UInt8} {k : Int} (h0 : 0 ≤ k) (h1 : k ≤ 1000000) : BinR c n .Mult (.bytes [x]) (.int k) (.bytes (List.replicate k.toNat x)) := by
  rintro A P s Q E _ _ H ⟨t, rfl⟩ ⟨u, rfl⟩ K
  refine bytes_mul_any (List.cons_ne_nil _ _) (by omega) (by omega) (by simp) fun t' k' => K _ _ _ (.refl _) ⟨t', ?_⟩
  congr 1
  congr 1
  induction k.toNat with
  | zero => rfl
  | succ m ih => rw [List.replicate_succ, List.replicate_succ, List.flatten_cons, ih]; rfl
theorem CmpR.eqB {a b : List UInt8} : CmpR c n .Eq (.bytes a) (.bytes b) (a == b) := by
  rintro A P s Q E _ _ H ⟨t, rfl⟩ ⟨u, rfl⟩ K; exact eq_bytes (K _ _ (.refl _))
theorem CmpR.neB {a b : List UInt8} : CmpR c n .NotEq (.bytes a) (.bytes b) (a != b) := by
  rintro A P s Q E _ _ H ⟨t, rfl⟩ ⟨u, rfl⟩ K; exact ne_bytes (K _ _ (.refl _))
theorem TruR.int {i : Int} : TruR c n (.int i) (i != 0) := by
  rintro A P s Q E _ H ⟨t, rfl⟩ K; exact PyProof.Rows.truthy_int (K _ _ (.refl _))

/-! ### lists -/
theorem BinR.addL {a b : List D} (hz : a.length + b.length ≤ 16777216) : BinR c n .Add (.lst a) (.lst b) (.lst (a ++ b)) := by
  rintro A P s Q E _ _ H ⟨l, vs, rfl, pa, pl, ra⟩ ⟨m, ws, rfl, pb, pm, rb⟩ K
  obtain ⟨⟨cls, dd, data, sl⟩, k, ho, hc, hd0, hd⟩ := id pl
  obtain ⟨⟨cls2, dd2, data2, sl2⟩, k2, ho2, hc2, hd02, hd2⟩ := id pm
  simp only at hc hd hc2 hd2
  subst hc hd hc2 hd2
  have hsz : vs.toArray.size + ws.toArray.size ≤ sizeLine := by simp [ra.length, rb.length, sizeLine_eq]; exact hz
  refine concat_meets ⟨_, ho, rfl⟩ ⟨_, ho2, rfl⟩ PySem.noFill_list_add PySem.seq_list_add PySem.F.slot_list_add PySem.F.entry_list_add (PySem.F.args_list_add_2 _ _) (list_addW l m vs.toArray ws.toArray k k2 dd dd2 sl sl2 hsz) ⟨ho, ho2, ?_⟩
  have e : vs.toArray ++ ws.toArray = (vs ++ ws).toArray := by simp
  rw [e]
  refine K _ _ _ (.push _ _) ⟨_, vs ++ ws, rfl, H.up _ (get_size _), plainL_new _ _, (ra.ext (.push _ _)).append (rb.ext (.push _ _))⟩
end

end Mine

/-! part C13 -/
namespace Mine

section
variable {c : Cx} {n : Nat} {sc : Scope} {ρ : List (Str × D)}

theorem emptyFr (I : c.Ok) {h : Heap} (e : Ext c.B h) : Fr {} mainGlobals h c.mg := ⟨I.g.keeps e, fun _ _ q => (by cases q), Nat.zero_le _⟩

theorem CallR.listRange {b : Int} (h0 : 0 ≤ b) (h1 : b ≤ 1000000) : CallR c n (.type "list") [.rng 0 b 1] (dInts (upto 0 b)) := by
  rintro A P s Q E _ H ⟨_, _, rfl, ⟨r, t, u, w, rfl, pr, hr⟩, rfl⟩ K
  obtain ⟨hs, hz⟩ := small_up (a := 0) (b := b) (by omega) (by omega) (by omega) (by omega)
  refine list_rangeD (n := (b - 0).toNat) H.room.handled (emptyFr H.ok H.base) News.nil hr hs hz (by omega) fun h' tk ys F' N' hk _ hl hp hc => ?_
  obtain ⟨⟨k, hpl⟩, _⟩ := hp
  have hint : ∀ (ns : List Int) (ys : List Value), CarriedAll ys (ns.map .int) → IntsAre ys ns := by
    intro ns
    induction ns with
    | nil => intro ys h; cases h; exact .nil
    | cons x ns ih =>
      intro ys h
      cases h with
      | cons hx hr => cases hx; exact .cons _ _ (ih _ hr)
  have e : rangeInts 0 1 (b - 0).toNat = upto 0 b := by
    unfold rangeInts upto
    refine List.map_congr_left fun i _ => by omega
  refine K _ _ _ hk ⟨_, ys, rfl, H.up _ (get_size _), ⟨_, k, hpl, rfl, rfl, rfl⟩, RepAll.of_ints ?_⟩
  rw [← e]; exact hint _ _ hc

theorem CallR.max {ns : List Int} {m : Int} (hm : m ∈ ns) (hx : ∀ x ∈ ns, x ≤ m) : CallR c n (.builtin "max") [dInts ns] (.int m) := by
  rintro A P s Q E _ H ⟨_, _, rfl, ⟨a, vs, rfl, pa, pl, ra⟩, rfl⟩ K
  have hi := ra.toInts
  obtain ⟨xs, hxs⟩ := hi.allInts.items
  have pl' := pl.isList
  rw [hxs] at pl'
  have h2 : numsOf vs.toArray.toList = ns := hi.numsOf
  rw [hxs, nums_intItems] at h2
  subst h2
  have hsz : 0 < xs.size := by
    have := List.length_pos_of_mem hm
    simpa using this
  refine max_intList H.room.handled pl' hsz fun v h' tk hv hk => ?_
  obtain ⟨t, rfl⟩ := intItems_at hv
  have best := argBest_gt (numAt xs) (xs.size - 1)
  have mem : ∀ j, j < xs.size → numAt xs j ∈ xs.toList.map (·.1) := fun j hj => by rw [numAt_eq]; exact getD_mem (by simpa using hj)
  have from_ : ∀ z ∈ xs.toList.map (·.1), ∃ j, j < xs.size ∧ numAt xs j = z := fun z hz => by
    obtain ⟨j, hj, e⟩ := mem_getD hz
    exact ⟨j, by simpa using hj, (numAt_eq ..).trans e⟩
  obtain ⟨j, hj, ej⟩ := from_ m hm
  have up := best.2 j (by omega)
  rw [ej] at up
  exact K _ _ _ hk ⟨t, by rw [Int.le_antisymm (hx _ (mem _ (by omega))) up]⟩

/-! ### items -/
def ItemR (c : Cx) (n : Nat) (d1 d2 d : D) : Prop :=
  ∀ (A : Around) (P : Addr → Prop) (s : Shared) (Q : Value → Shared → Prop) (E : Value → Shared → Prop) (v1 v2 : Value), Hp c n A P s → Rep s.heap P d1 v1 → Rep s.heap P d2 v2 →
    (∀ v h' tk, Ext s.heap h' → Rep h' P d v → Q v { s with heap := h', toks := tk }) → ∃ T id, typeLookup (.type T) "__getitem__" = pure (some (.builtin id)) ∧ s.TypeIs v1 T ∧ wpAny c.M A (getItem v1 v2) Q E s

theorem Ev.item {value slice : Expr} {pos : Pos} {d1 d2 d : D} (h1 : Ev c n sc ρ value d1) (h2 : Ev c n sc ρ slice d2) (q : ItemR c n d1 d2 d)
    (hs : ∀ o i, subscripted slice false o i = operate [o, i] (getItem o i) := by intro _ _; rfl) : Ev c n sc ρ (.Subscript value slice pos) d := by
  refine ⟨fun A P env s Q E R I K => ?_⟩
  refine Subscript_ (h1.run A P env s _ E R I fun v1 h' tk x r1 => h2.run A P env _ _ E R (I.ext x) fun v2 h'' tk' x' r2 => ?_)
  obtain ⟨T, id, hl, hT, hg⟩ := q A P { s with heap := h'', toks := tk' } Q E v1 v2 (((I.ext x).ext x').hp (s := { s with heap := h'', toks := tk' }) R) (r1.ext x') r2 fun v h3 tk3 x3 r3 => K v h3 tk3 ((x.trans x').trans x3) r3
  exact tail_any hT hl hg (hs v1 v2)

theorem ItemR.lst {ds : List D} {i : Int} {d : D} (h0 : 0 ≤ i) (hi : ds[i.toNat]? = some d) (hz : ds.length ≤ 16777216) : ItemR c n (.lst ds) (.int i) d := by
  rintro A P s Q E _ _ H ⟨a, vs, rfl, pa, pl, ra⟩ ⟨t, rfl⟩ K
  obtain ⟨v, hv, rv⟩ := ra.at hi
  have hlt : i.toNat < ds.length := by
    by_cases q : i.toNat < ds.length
    · exact q
    · rw [List.getElem?_eq_none (by omega)] at hi; cases hi
  exact ⟨"list", _, slot_list_getitem.lookup, pl.isList.typeIs, wpAny_getItem_list pl.isList h0 (by omega) (by simpa using hv) (K _ _ _ (.refl _) rv)⟩
theorem ItemR.lstNeg {ds : List D} {d : D} (hi : ds.getLast? = some d) : ItemR c n (.lst ds) (.int (-1)) d := by
  rintro A P s Q E _ _ H ⟨a, vs, rfl, pa, pl, ra⟩ ⟨t, rfl⟩ K
  have hne : 0 < ds.length := by
    cases ds with
    | nil => cases hi
    | cons => simp
  have hl := ra.length
  have hi' : ds[ds.length - 1]? = some d := by rw [← hi, List.getLast?_eq_getElem?]
  obtain ⟨v, hv, rv⟩ := ra.at hi'
  refine ⟨"list", _, slot_list_getitem.lookup, pl.isList.typeIs, wpAny_getItem_list_neg pl.isList (by omega) ?_ (by omega) ?_ (K _ _ _ (.refl _) rv)⟩
  · simp [hl]; omega
  · have : (-1 + (vs.toArray.size : Int)).toNat = ds.length - 1 := by simp [hl]; omega
    rw [this]; simpa using hv
theorem ItemR.bytes {b : List UInt8} {i : Int} (h0 : 0 ≤ i) (hi : i < b.length) (hz : b.length ≤ 16777216) : ItemR c n (.bytes b) (.int i) (.int (b.getD i.toNat 0).toNat) := by
  rintro A P s Q E _ _ H ⟨t, rfl⟩ ⟨u, rfl⟩ K
  exact ⟨"bytes", _, FB.slot_bytes_getitem.lookup, typeIs_bytes _ _ _, getItem_bytes (by omega) h0 hi (K _ _ _ (.refl _) ⟨_, rfl⟩)⟩
/-! ### slices -/
inductive PartR (c : Cx) (n : Nat) (sc : Scope) (ρ : List (Str × D)) : Option Expr → Option Int → Prop
  | none : PartR c n sc ρ none none
  | some {e : Expr} {i : Int} (h : Ev c n sc ρ e (.int i)) : PartR c n sc ρ (some e) (some i)

theorem PartR.run {A : Around} {P : Addr → Prop} {env : Env} {s : Shared} {Q : Value → Shared → Prop} {E : Value → Shared → Prop} {e : Option Expr} {i : Option Int} (h : PartR c n sc ρ e i) (R : Room n A) (I : Kn c P sc env ρ s.heap)
    (K : ∀ v h' tk, Ext s.heap h' → IsPart v i → Q v { s with heap := h', toks := tk }) : wpAny c.M A (evalPart e env) Q E s := by
  cases h with
  | none => rw [evalPart_none]; exact wpAny_pure (K _ _ _ (.refl _) .none)
  | some h => exact h.run A P env s Q E R I fun v h' tk x ⟨t, e⟩ => K v h' tk x (e ▸ .int _ t)

def dPick (ds : List D) (lo hi st : Option Int) : List D :=
  (sliceRange (sliceBounds lo hi st ds.length).1 (sliceBounds lo hi st ds.length).2.1 (sliceBounds lo hi st ds.length).2.2).filterMap (ds[·]?)

theorem dPick_rep {h : Heap} {P : Addr → Prop} {ds : List D} {vs : List Value} (ra : RepAll h P ds vs) (lo hi st : Option Int) : RepAll h P (dPick ds lo hi st) (slicePick vs.toArray lo hi st).toList := by
  unfold dPick slicePick
  rw [List.size_toArray, ra.length]
  generalize (sliceRange _ _ _) = l
  induction l with
  | nil => rfl
  | cons i l ih =>
    cases hd : ds[i]? with
    | none =>
      have hv : vs.toArray[i]? = none := by
        have h1 : ds.length ≤ i := by simpa using hd
        simp [ra.length, h1]
      simpa only [List.filterMap_cons, hd, hv] using ih
    | some d =>
      obtain ⟨v, hv, rv⟩ := ra.at hd
      have hv' : vs.toArray[i]? = some v := by simpa using hv
      simp only [List.filterMap_cons, hd, hv']
      exact ⟨v, _, rfl, rv, ih⟩

theorem Ev.sliceL {value : Expr} {lo hi st : Option Expr} {p pos : Pos} {ds : List D} {a b k : Option Int} (h : Ev c n sc ρ value (.lst ds)) (h1 : PartR c n sc ρ lo a) (h2 : PartR c n sc ρ hi b) (h3 : PartR c n sc ρ st k) (hk : k ≠ some 0) (hz : ds.length ≤ 16777216) :
    Ev c n sc ρ (.Subscript value (.Slice lo hi st p) pos) (.lst (dPick ds a b k)) := by
  refine ⟨fun A P env s Q E R I K => ?_⟩
  refine Subscript_ (h.run A P env s _ E R I fun v h₁ tk₁ x₁ r₁ => wpAny_Slice (h1.run R (s := { s with heap := h₁, toks := tk₁ }) (I.ext x₁) fun va h₂ tk₂ x₂ p₂ => h2.run R (s := { s with heap := h₂, toks := tk₂ }) ((I.ext x₁).ext x₂) fun vb h₃ tk₃ x₃ p₃ => h3.run R (s := { s with heap := h₃, toks := tk₃ }) (((I.ext x₁).ext x₂).ext x₃) fun vk h₄ tk₄ x₄ p₄ => ?_))
  have x := ((x₁.trans x₂).trans x₃).trans x₄
  have r := ((r₁.ext x₂).ext x₃).ext x₄
  obtain ⟨l, vs, rfl, pa, pl, ra⟩ := r
  have up : Up P h₄ := I.up.ext x
  have hs : subscripted (.Slice lo hi st p) false (.ref l) (.ref h₄.objs.size) = operate (match st with | none => [.ref h₄.objs.size, .ref l] | some _ => [.ref l, .ref h₄.objs.size]) (getItem (.ref l) (.ref h₄.objs.size)) := by cases st <;> rfl
  have pl' := (pl.keeps (Ext.push h₄ { cls := .type "slice", data := .fields #[va, vb, vk] }))
  refine tail_any (s := { s with heap := h₄.push { cls := .type "slice", data := .fields #[va, vb, vk] }, toks := tk₄ }) pl'.isList.typeIs slot_list_getitem.lookup ?_ hs
  refine wpAny_getItem_list_slice (s := { s with heap := h₄.push { cls := .type "slice", data := .fields #[va, vb, vk] }, toks := tk₄ }) pl'.isList (Heap.IsSliceOf.new ..) p₂ p₃ p₄ hk ?_ (by simp [ra.length, sizeLine_eq]; exact hz)
  refine K _ _ _ ((x.trans (.push _ _)).trans (.push _ _)) ⟨_, (slicePick vs.toArray a b k).toList, rfl, ?_, ?_, (dPick_rep ra a b k).ext ((Ext.push _ _).trans (.push _ _))⟩
  · exact (up.ext (.push _ _)) _ (get_size _)
  · have := plainL_new (h₄.push { cls := .type "slice", data := .fields #[va, vb, vk] }) (slicePick vs.toArray a b k)
    simpa using this
end

end Mine

/-! part C14 -/
namespace Mine

section
variable {c : Cx} {n : Nat} {sc : Scope} {ρ : List (Str × D)}

theorem ItemR.tupI {ds : List D} {i : Int} {d : D} (h0 : 0 ≤ i) (hi : ds[i.toNat]? = some d) (hz : ds.length ≤ 16777216) : ItemR c n (.tup ds) (.int i) d := by
  rintro A P s Q E _ _ H ⟨a, vs, rfl, pa, pl, ra⟩ ⟨t, rfl⟩ K
  obtain ⟨v, hv, rv⟩ := ra.at hi
  have hlt : i.toNat < ds.length := by
    by_cases q : i.toNat < ds.length
    · exact q
    · rw [List.getElem?_eq_none (by omega)] at hi; cases hi
  refine ⟨"tuple", _, PyProof.Rows.slot_tuple_getitem.lookup, pl.typeIs, PyProof.Rows.getItem_tuple (j := i.toNat) pl (by omega) (by omega) ?_ (by simpa using hv) (K _ _ _ (.refl _) rv)⟩
  have hl := ra.length
  unfold seqIndex?
  simp only [List.size_toArray, hl, if_neg (Int.not_lt.mpr h0)]
  rw [if_pos (by simp; omega)]

/-! ### bytes, cut -/
def bPick (l : List UInt8) (lo hi : Option Int) : List UInt8 := (l.drop (lo.elim 0 (clipAt l.length))).take (hi.elim l.length (clipAt l.length) - lo.elim 0 (clipAt l.length))

theorem Ev.sliceB {value : Expr} {lo hi : Option Expr} {p pos : Pos} {l : List UInt8} {a b : Option Int} (h : Ev c n sc ρ value (.bytes l)) (h1 : PartR c n sc ρ lo a) (h2 : PartR c n sc ρ hi b) (hz : l.length ≤ 16777216) :
    Ev c n sc ρ (.Subscript value (.Slice lo hi none p) pos) (.bytes (bPick l a b)) := by
  refine ⟨fun A P env s Q E R I K => ?_⟩
  refine Subscript_ (h.run A P env s _ E R I fun v h₁ tk₁ x₁ r₁ => wpAny_Slice (h1.run R (s := { s with heap := h₁, toks := tk₁ }) (I.ext x₁) fun va h₂ tk₂ x₂ p₂ => h2.run R (s := { s with heap := h₂, toks := tk₂ }) ((I.ext x₁).ext x₂) fun vb h₃ tk₃ x₃ p₃ => ?_))
  rw [evalPart_none]
  refine wpAny_pure ?_
  have x := (x₁.trans x₂).trans x₃
  obtain ⟨t, rfl⟩ := r₁
  have e : (KBy.picked l.toArray a b) = (bPick l a b).toArray := by rw [KBc.picked_eq]; simp [bPick]
  have hs : subscripted (.Slice lo hi none p) false (.bytes l.toArray t) (.ref h₃.objs.size) = operate [.ref h₃.objs.size, .bytes l.toArray t] (getItem (.bytes l.toArray t) (.ref h₃.objs.size)) := rfl
  refine tail_of_ItemOn (s := { s with heap := h₃.push { cls := .type "slice", data := .fields #[va, vb, .none] }, toks := tk₃ }) ⟨"bytes", _, FB.slot_bytes_getitem.lookup, typeIs_bytes _ _ _, getItem_meets (typeIs_bytes _ _ _) (by decide) FB.slot_bytes_getitem FB.entry_bytes_getitem (FB.args_bytes_getitem_2 _ _) (KBc.meets_slice2 l.toArray t _ p₂ p₃)
    ⟨Heap.IsSliceOf.new _ _ _ _, Nat.le_trans (KBc.size_picked_le l.toArray a b) (by simp [sizeLine_eq]; exact hz), fun t' k => ?_⟩⟩ hs (by intro r; cases value <;> rfl)
  exact K _ _ _ (x.trans (.push _ _)) ⟨t', by rw [e]⟩

/-! ### equal, in -/
def D.eqF : D → D → Bool
  | .int a, .int b => a == b
  | .bytes a, .bytes b => a == b
  | _, _ => false
def D.comparable : D → D → Bool
  | .int _, .int _ => true
  | .bytes _, .bytes _ => true
  | _, _ => false

theorem eqAt_flat {A : Around} {s : Shared} {P : Addr → Prop} {d e : D} {v u : Value} (hc : d.comparable e = true) (r : Rep s.heap P d v) (q : Rep s.heap P e u) : SeqAt.EqAt A s v u (d.eqF e) := by
  cases d <;> cases e <;> first | cases hc | skip
  · obtain ⟨t, rfl⟩ := r
    obtain ⟨t', rfl⟩ := q
    exact (MeetsSeq.EqGives.int _ _ _ _).at _ _
  · rename_i a b
    obtain ⟨t, rfl⟩ := r
    obtain ⟨t', rfl⟩ := q
    intro prog w E Q hq
    refine eqBool_bytes ?_
    have e : decide (a.toArray.toList = b.toArray.toList) = (a == b) := by
      rw [Bool.eq_iff_iff]; simp
    rw [e]; exact hq

/-- two lists, place by place -/
def eqL (a b : List D) : Bool := a.length == b.length && (List.range a.length).all fun j => (a.getD j .none).eqF (b.getD j .none)

theorem eqL_items {A : Around} {s : Shared} {P : Addr → Prop} {a b : List D} {vs ws : List Value} (hc : ∀ x ∈ a, ∀ y ∈ b, x.comparable y = true) (ra : RepAll s.heap P a vs) (rb : RepAll s.heap P b ws) :
    ∀ j (h1 : j < vs.toArray.size) (h2 : j < ws.toArray.size), SeqAt.EqAt A.in1 s vs.toArray[j] ws.toArray[j] ((a.getD j .none).eqF (b.getD j .none)) := by
  intro j h1 h2
  have l1 := ra.length
  have l2 := rb.length
  have h1' : j < vs.length := by simpa using h1
  have h2' : j < ws.length := by simpa using h2
  obtain ⟨d, hd, r1⟩ := ra.get (i := j) (v := vs[j]) (List.getElem?_eq_getElem h1')
  obtain ⟨e, he, r2⟩ := rb.get (i := j) (v := ws[j]) (List.getElem?_eq_getElem h2')
  have e1 : a.getD j .none = d := by rw [List.getD_eq_getElem?_getD, hd]; rfl
  have e2 : b.getD j .none = e := by rw [List.getD_eq_getElem?_getD, he]; rfl
  rw [e1, e2]
  exact eqAt_flat (hc d (List.mem_of_getElem? hd) e (List.mem_of_getElem? he)) r1 r2

theorem CmpR.eqL {a b : List D} (hc : ∀ x ∈ a, ∀ y ∈ b, x.comparable y = true) : CmpR c n .Eq (.lst a) (.lst b) (eqL a b) := by
  rintro A P s Q E _ _ H ⟨l, vs, rfl, pa, pl, ra⟩ ⟨m, ws, rfl, pb, pm, rb⟩ K
  have l1 : vs.toArray.size = a.length := by simp [ra.length]
  have l2 : ws.toArray.size = b.length := by simp [rb.length]
  have k := K _ s.toks (.refl _)
  unfold Mine.eqL at k
  by_cases q : a.length = b.length
  · refine SeqAt.eq_listAt pl.isList pm.isList (by rw [l1, l2, q]) H.units (eqL_items hc ra rb) ?_
    rw [l1]
    rw [show (a.length == b.length) = true by simpa using q, Bool.true_and] at k
    exact k
  · refine SeqAt.eq_list_lengthsAt pl.isList pm.isList (by rw [l1, l2]; simpa using q) H.units ?_
    rw [show (a.length == b.length) = false by simpa using q, Bool.false_and] at k
    exact k
theorem CmpR.neL {a b : List D} (hc : ∀ x ∈ a, ∀ y ∈ b, x.comparable y = true) : CmpR c n .NotEq (.lst a) (.lst b) (!Mine.eqL a b) := by
  rintro A P s Q E _ _ H ⟨l, vs, rfl, pa, pl, ra⟩ ⟨m, ws, rfl, pb, pm, rb⟩ K
  have l1 : vs.toArray.size = a.length := by simp [ra.length]
  have l2 : ws.toArray.size = b.length := by simp [rb.length]
  have k := K _ s.toks (.refl _)
  unfold Mine.eqL at k
  by_cases q : a.length = b.length
  · refine SeqAt.RcNeAt.lists pl.isList pm.isList (by rw [l1, l2, q]) H.units (eqL_items hc ra rb) c.prog c.w E Q ?_
    rw [l1]
    rw [show (a.length == b.length) = true by simpa using q, Bool.true_and] at k
    exact k
  · refine SeqAt.RcNeAt.lists_lengths pl.isList pm.isList (by rw [l1, l2]; simpa using q) H.units c.prog c.w E Q ?_
    rw [show (a.length == b.length) = false by simpa using q, Bool.false_and] at k
    exact k

def evF (d : D) (y : Value) : Bool := match d, y with
  | .int k, .int a _ => a == k
  | .bytes b, .bytes a _ => a.toList == b
  | _, _ => false
theorem evF_rep {h : Heap} {P : Addr → Prop} {x d : D} {y : Value} (hc : x.comparable d = true) (r : Rep h P x y) : evF d y = x.eqF d := by
  cases x <;> cases d <;> first | (exfalso; exact Bool.false_ne_true hc) | (obtain ⟨t, rfl⟩ := r; rfl)
theorem any_rep {h : Heap} {P : Addr → Prop} {d : D} : ∀ {a : List D} {vs : List Value}, (∀ x ∈ a, x.comparable d = true) → RepAll h P a vs → vs.any (evF d) = a.any (·.eqF d)
  | [], _, _, e => by cases e; rfl
  | x :: a, _, hc, ⟨v, vs, e, r, ra⟩ => by
    subst e
    rw [List.any_cons, List.any_cons, evF_rep (hc x List.mem_cons_self) r, any_rep (fun y hy => hc y (List.mem_cons_of_mem _ hy)) ra]
theorem in_items {A : Around} {s : Shared} {P : Addr → Prop} {a : List D} {d : D} {vs : List Value} {v : Value} (hc : ∀ x ∈ a, x.comparable d = true) (ra : RepAll s.heap P a vs) (r : Rep s.heap P d v) :
    ∀ y, y ∈ vs.toArray → SeqAt.EqAt A.in1 s y v (evF d y) := by
  intro y hy
  obtain ⟨i, hi, e⟩ := List.getElem_of_mem (show y ∈ vs by simpa using hy)
  obtain ⟨x, hx, rx⟩ := ra.get (i := i) (v := y) (by rw [List.getElem?_eq_getElem hi, e])
  have hc' := hc x (List.mem_of_getElem? hx)
  rw [evF_rep hc' rx]
  exact eqAt_flat hc' rx r
theorem CmpR.inL {a : List D} {d : D} (hc : ∀ x ∈ a, x.comparable d = true) : CmpR c n .In d (.lst a) (a.any (·.eqF d)) := by
  rintro A P s Q E v _ H r ⟨m, ws, rfl, pb, pm, rb⟩ K
  refine SeqAt.in_listAt (evF d) pm.isList (in_items hc rb r) ?_
  have k := K _ s.toks (.refl _)
  rw [← any_rep hc rb] at k
  simpa using k
theorem CmpR.notInL {a : List D} {d : D} (hc : ∀ x ∈ a, x.comparable d = true) : CmpR c n .NotIn d (.lst a) (!a.any (·.eqF d)) := by
  rintro A P s Q E v _ H r ⟨m, ws, rfl, pb, pm, rb⟩ K
  refine SeqAt.notIn_listAt (evF d) pm.isList (in_items hc rb r) ?_
  have k := K _ s.toks (.refl _)
  rw [← any_rep hc rb] at k
  simpa using k

/-! ### methods -/
theorem Ev.bitLength {o : Expr} {apos pos : Pos} {i : Int} (h : Ev c n sc ρ o (.int i)) (hb : ∀ env, attributeBase o (Str.ofString "bit_length") env (eval o env) = eval o env := by intro _; rfl) (hl : (apos.endLine == pos.line) = true := by rfl) :
    Ev c n sc ρ (.Call (.Attribute o (Str.ofString "bit_length") apos) [] [] pos) (.int (Builtin.Int.intBits i : Nat)) := by
  refine ⟨fun A P env s Q E R I K => ?_⟩
  refine wpAny_Call_method0_late (hb env) hl (h.run A P env s _ E R I fun v h' tk x r => ?_)
  obtain ⟨t, rfl⟩ := r
  refine ⟨"int", _, F.plainAttrs_int, F.slot_int_bit_length, F.type_int_bit_length, rfl, (by intro a q; cases q), ?_⟩
  refine Calls.callWith_builtin rfl (evalArgs_all (es := []) (env := env) (Calls.spliced_nil ?_))
  exact call_gives F.slot_int_bit_length (typeIs_int _ i t) F.entry_int_bit_length (F.args_int_bit_length_1 _) (AutoIntG2.int_bit_length_int_0 i t) (K _ _ _ x ⟨_, rfl⟩)

theorem Ev.index {o e : Expr} {apos pos : Pos} {ns : List Int} {k : Int} (h : Ev c n sc ρ o (dInts ns)) (he : Ev c n sc ρ e (.int k)) (hk : k ∈ ns) (hz : ns.length ≤ 1048576)
    (hb : ∀ env, attributeBase o (Str.ofString "index") env (eval o env) = eval o env := by intro _; rfl) (hl : (apos.endLine == pos.line) = true := by rfl) (hs : ∀ env, starEach [e] env = [(false, eval e env)] := by intro _; rfl) :
    Ev c n sc ρ (.Call (.Attribute o (Str.ofString "index") apos) [e] [] pos) (.int (ns.idxOf k : Nat)) := by
  refine ⟨fun A P env s Q E R I K => ?_⟩
  refine wpAny_Call_method1_late (hb env) hl (by rw [hs]; rfl) (h.run A P env s _ E R I fun v h' tk x r => ?_)
  obtain ⟨l, vs, rfl, pa, pl, ra⟩ := r
  have nodict := pl
  obtain ⟨o', _, ho', _, hd', _⟩ := nodict
  refine ⟨"list", _, F.plainAttrs_list, F.slot_list_index, F.type_list_index, pl.isList.typeIs, (by intro a q; cases q; exact ⟨o', ho', hd'⟩), ?_⟩
  refine Calls.callWith_builtin rfl (Calls.evalArgs_plain (Calls.spliced_cons (he.run A P env { s with heap := h', toks := tk } _ E R (I.ext x) fun u h'' tk' x' r' => Calls.spliced_nil ?_)))
  have ra2 := ra.ext x'
  have sz : vs.toArray.size = ns.length := by simp [ra.length]
  have told : ∀ (j : Nat) (hj : j < vs.toArray.size), evF (.int k) vs.toArray[j] = (ns[j]'(sz ▸ hj) == k) := by
    intro j hj
    obtain ⟨y, ey, ry⟩ := ra2.at (i := j) (d := .int (ns[j]'(sz ▸ hj))) (by rw [List.getElem?_map, List.getElem?_eq_getElem (sz ▸ hj)]; rfl)
    have : vs.toArray[j] = y := by
      have e2 : vs.toArray[j]? = some y := by simpa using ey
      rw [Array.getElem?_eq_getElem hj] at e2
      exact Option.some.inj e2
    rw [this]
    exact evF_rep rfl ry
  have at_ : ns.idxOf k < ns.length := List.idxOf_lt_length_of_mem hk
  obtain ⟨ob, m, hob, hcl, hdi, hda⟩ := pl.keeps x'
  obtain ⟨cls, dd, data, sl⟩ := ob
  simp only at hcl hdi hda
  subst hcl hdi hda
  have eqs : ∀ y ∈ vs.toArray, SeqAt.EqAt A.in1 { s with heap := h'', toks := tk' } y u (evF (.int k) y) := in_items (s := { s with heap := h'', toks := tk' }) (by intro z hz; obtain ⟨_, _, rfl⟩ := List.mem_map.mp hz; rfl) ra2 r'
  obtain ⟨t, rfl⟩ := r'
  have found := SeqAt.list_indexAt l vs.toArray m none sl (.int k t) (evF (.int k)) (ns.idxOf k) (by omega) (by omega) (by rw [told]; simp [List.getElem_idxOf]) (fun j hj hlt => (told j hj).trans (ne_of_lt_idxOf hlt _))
  exact call_meets F.slot_list_index ⟨_, hob, rfl⟩ F.entry_list_index (F.args_list_index_2 _ _) found ⟨hob, eqs, K _ _ _ (x.trans x') ⟨_, rfl⟩⟩

/-! ### names of types; statements -/
theorem Ev.nameB {x : Str} {pos : Pos} {t : String} (hk : sc.names.lookup x = some .globalImplicit) (hm : x ∈ bnames) (hb : bootBuiltins x = some (.type t)) (hn : x ≠ Str.ofString "__name__" := by decide) : Ev c n sc ρ (.Name x pos) (.typ t) := by
  refine ⟨fun A P env s Q E R I K => ?_⟩
  have hg : s.heap.Ns env.globals c.mg := by rw [I.es.globals]; exact I.ok.g.keeps I.base
  have hbn : s.heap.Ns env.builtins c.mb := by rw [I.es.builtins]; exact I.ok.b.keeps I.base
  exact Calls.Name_function_global I.es.kind (I.es.global hk) (Calls.loadGlobal_builtin hg (I.ok.free x hm) hbn ((I.ok.builtins x hn).trans hb) (K _ _ _ (.refl _) rfl)) (I.notDebug' hk)

variable {σ σ' : Sg}
/-- x &= e -/
theorem St1.iand {x : Str} {p pos : Pos} {e : Expr} {a b : Int} (hx : (x, .int a) ∈ σ.ρ) (h : Ev c n sc σ.ρ e (.int b)) (hk : Sto sc x) (hp : Put x (.int (Builtin.bitAnd a b)) σ σ') : St1 c n sc σ (.AugAssign (.Name x p) .BitAnd e pos) (.next σ') := by
  refine ⟨fun A P₀ P env K s Q E R F G => ?_⟩
  obtain ⟨v, l, t, rfl⟩ := F.kn.names x _ hx
  refine wpAny_AugAssign_Name (F.kn.load l (h.run A P env s _ E R F.kn fun v h' tk ex r => ?_))
  obtain ⟨u, rfl⟩ := r
  refine iand_int ?_
  exact (F.ext ex).store (s := { s with heap := h', toks := tk + 1 }) (d := .int (Builtin.bitAnd a b)) ⟨_, rfl⟩ hk hp fun h'' tk' F' => G P h'' tk' F' (fun _ _ _ p => p) fun _ _ _ p => p

inductive PutAll (sc : Scope) : List Expr → List D → Sg → Sg → Prop
  | nil (σ : Sg) : PutAll sc [] [] σ σ
  | cons {x : Str} {p : Pos} {xs : List Expr} {d : D} {ds : List D} {σ σ1 σ' : Sg} (hk : Sto sc x) (hp : Put x d σ σ1) (hr : PutAll sc xs ds σ1 σ') : PutAll sc (.Name x p :: xs) (d :: ds) σ σ'

theorem putAll_run {A : Around} {P₀ P : Addr → Prop} {env : Env} {E : Value → Shared → Prop} {xs : List Expr} {ds : List D} (h : PutAll sc xs ds σ σ') : ∀ {K : Addr → Obj → Prop} {s : Shared} {vs : List Value} {Q : Unit → Shared → Prop}, Fl c P₀ P sc env K σ s.heap → RepAll s.heap P ds vs →
    (∀ h' tk, Fl c P₀ P sc env K σ' h' → Q () { s with heap := h', toks := tk }) → wpAny c.M A (assignInOrder ((assignEach xs env).map (·.2)) vs) Q E s := by
  induction h with
  | nil σ =>
    intro K s vs Q F r G
    cases r
    exact wpAny_pure (G _ _ F)
  | @cons x p xs d ds σ σ1 σ' hk hp hr ih =>
    intro K s vs Q F r G
    obtain ⟨v, vs', rfl, r1, ra⟩ := r
    show wpAny c.M A (holding vs' (PySem.assign (.Name x p) env v) >>= fun _ => assignInOrder ((assignEach xs env).map (·.2)) vs') Q E s
    refine wpAny_bind (wpAny_holding (wpAny_assign_Name (F.big.store r1 hk hp fun h₂ tk₂ F₂ => ?_)))
    have ra' : RepAll h₂ P ds vs' := RepAll.mono (fun a o p e => F₂.keep a o (.inr ⟨e, p⟩)) (fun _ p _ => p) ds vs' ra
    exact ih (s := { s with heap := h₂, toks := tk₂ }) F₂ ra' fun h₃ tk₃ F₃ => G h₃ tk₃ (F.post_big F₃)

theorem AsgR.tup {xs : List Expr} {pos : Pos} {k : Nat} {ds : List D} (h : PutAll sc xs ds σ σ') (hl : ∀ env, (assignEach xs env).length = ds.length := by intro _; rfl) (hs : ∀ env, (assignEach xs env).findIdx? (·.1) = none := by intro _; rfl) :
    AsgR c n sc (.Tuple xs k pos) (.tup ds) σ σ' := by
  intro A P₀ P env K s Q E v R F r G
  obtain ⟨a, vs, rfl, pa, pl, ra⟩ := r
  refine wpAny_assign_Tuple R.handled pl (by rw [hl env]; simp [ra.length]) (hs env) fun h' ex => ?_
  have e : Ext s.heap h' := fun b o q => ex b o (Nat.ne_of_lt (Heap.lt_size q)) q
  exact putAll_run h (s := { s with heap := h' }) (F.ext e) (ra.ext e) G

/-- x, y = e -/
theorem St1.assignT {xs : List Expr} {k : Nat} {tp pos : Pos} {e : Expr} {ds : List D} (h : Ev c n sc σ.ρ e (.tup ds)) (hp : PutAll sc xs ds σ σ') (hl : ∀ env, (assignEach xs env).length = ds.length := by intro _; rfl) (hs : ∀ env, (assignEach xs env).findIdx? (·.1) = none := by intro _; rfl)
    (hw : ∀ env, swapsWithSole [.Tuple xs k tp] e pos.line env = pure false := by intro _; rfl) (hx : ∀ env, swappedStores [.Tuple xs k tp] e env = pure none := by intro _; rfl) : St1 c n sc σ (.Assign [.Tuple xs k tp] e pos) (.next σ') := by
  refine ⟨fun A P₀ P env K s Q E R F G => ?_⟩
  show wpAny c.M A (do
    standAt pos
    if ← swapsWithSole [.Tuple xs k tp] e pos.line env then do
      evalThenUse e env fun v => assignAll v ((assignEach [.Tuple xs k tp] env).map (·.2))
      pure .next
    else do
      let v ← eval e env
      assignStores env v (← swappedStores [.Tuple xs k tp] e env) ((assignEach [.Tuple xs k tp] env).map (·.2))) Q E s
  refine wpAny_bind (wpAny_standAt ?_)
  rw [hw env, pure_bind, if_neg (by decide)]
  refine wpAny_bind (h.run A P env s _ E R F.kn fun v h' tk ex r => ?_)
  rw [hx env, pure_bind]
  show wpAny c.M A (do assignAll v [PySem.assign (.Tuple xs k tp) env]; pure .next) Q E _
  refine wpAny_bind ?_
  exact AsgR.tup hp hl hs A P₀ P env K { s with heap := h', toks := tk } _ E v R (F.ext ex) r fun h'' tk' F' => wpAny_pure (G P h'' tk' F' (fun _ _ _ p => p) fun _ _ _ p => p)
end

end Mine

/-! part A0 -/
namespace Mine

structure FnRec (c : Cx) (d : DefRec) (a : Addr) (pm cd doc : Value) : Prop where
  at_ : FnAt c d.name a (Calls.docDef d.name d.params d.body d.scope pm cd doc)
  code : c.B.CodeRec cd d.name

/-- what a call of the def named f gives -/
def Fn (c : Cx) (n : Nat) (f : Str) (ds : List D) (d : D) : Prop := ∃ a fd, FnAt c f a fd ∧ CallR c n (.ref a) ds d
def Has (c : Cx) (d : DefRec) : Prop := ∃ a pm cd doc, FnRec c d a pm cd doc

section
variable {c : Cx} {n : Nat} {sc : Scope} {ρ : List (Str × D)}
theorem Ev.callF {f : Str} {fp pos : Pos} {args : List Expr} {ds : List D} {d : D} (hk : sc.names.lookup f = some .globalImplicit) (ha : EvAll c n sc ρ args ds) (hf : Fn c n f ds d) : Ev c n sc ρ (.Call (.Name f fp) args [] pos) d :=
  let ⟨_, _, h1, h2⟩ := hf; Ev.call hk ha h1 h2

theorem Fn.of {d : DefRec} {ds : List D} {r : D} {ps : List Str} (h : Has c d) (so : ScOk d.scope)
    (hb : ∀ pm cd doc, ∀ vs : List Value, vs.length = ds.length → bindArgs (Calls.docDef d.name d.params d.body d.scope pm cd doc) ⟨vs, []⟩ = pure (ps.zip vs))
    (hl : ps.length = ds.length) (nd : ps.Nodup) (hst : ∀ p ∈ ps, Sto d.scope p)
    (hs : St c n d.scope ⟨ps.zip ds, none⟩ d.body (.ret r)) (hco : d.scope.isCoroutine = false) (hgen : d.scope.isGenerator = false) : Fn c (n + 1) d.name ds r :=
  let ⟨a, pm, cd, doc, f⟩ := h
  ⟨a, _, f.at_, CallR.body f.at_ f.code so (hb pm cd doc) hl nd hst hs hco hgen⟩
end

theorem put_new {x : Str} {d : D} {σ : Sg} (hn : (σ.ρ.all fun p => !(p.1 == x)) = true) (ho : (match σ.own with | none => true | some q => !(q.1 == x)) = true) : Put x d σ ⟨(x, d) :: σ.ρ, σ.own⟩ where
  ρ := by
    intro p hp
    rcases List.mem_cons.mp hp with e | hp
    · exact .inl e
    · refine .inr ⟨hp, fun e => ?_⟩
      have := List.all_eq_true.mp hn p hp
      simp [e] at this
  own := by
    refine .inr ⟨rfl, fun q hq e => ?_⟩
    rw [hq] at ho
    simp [e] at ho
theorem put_hd {x : Str} {d e : D} {ρ : List (Str × D)} (hn : (ρ.all fun p => !(p.1 == x)) = true) : Put x d ⟨(x, e) :: ρ, none⟩ ⟨(x, d) :: ρ, none⟩ where
  ρ := by
    intro p hp
    rcases List.mem_cons.mp hp with e | hp
    · exact .inl e
    · refine .inr ⟨List.mem_cons_of_mem _ hp, fun e => ?_⟩
      have := List.all_eq_true.mp hn p hp
      simp [e] at this
  own := .inl rfl
inductive SubX (x : Str) (d : D) (ρ : List (Str × D)) : List (Str × D) → Prop
  | nil : SubX x d ρ []
  | hd {r : List (Str × D)} (h : SubX x d ρ r) : SubX x d ρ ((x, d) :: r)
  | keep {y : Str} {e : D} {r : List (Str × D)} (hm : (y, e) ∈ ρ) (hn : y ≠ x) (h : SubX x d ρ r) : SubX x d ρ ((y, e) :: r)
theorem SubX.get {x : Str} {d : D} {ρ r : List (Str × D)} (h : SubX x d ρ r) : ∀ p ∈ r, p = (x, d) ∨ (p ∈ ρ ∧ p.1 ≠ x) := by
  induction h with
  | nil => intro p hp; cases hp
  | hd _ ih =>
    intro p hp
    rcases List.mem_cons.mp hp with e | hp
    · exact .inl e
    · exact ih p hp
  | keep hm hn _ ih =>
    intro p hp
    rcases List.mem_cons.mp hp with e | hp
    · subst e; exact .inr ⟨hm, hn⟩
    · exact ih p hp
theorem put_s {x : Str} {d : D} {σ : Sg} {ρ' : List (Str × D)} (h : SubX x d σ.ρ ρ') : Put x d σ ⟨ρ', none⟩ := ⟨h.get, .inl rfl⟩
/-- a store beside a list that is being filled -/
theorem put_so {x y : Str} {d : D} {ρ ρ' : List (Str × D)} {ds : List D} (h : SubX x d ρ ρ') (hy : y ≠ x) : Put x d ⟨ρ, some (y, ds)⟩ ⟨ρ', some (y, ds)⟩ := ⟨h.get, .inr ⟨rfl, fun q e => by cases e; exact hy⟩⟩
theorem put_to {x : Str} {d : D} {σ σ' : Sg} (hρ : ∀ p ∈ σ'.ρ, p = (x, d) ∨ (p ∈ σ.ρ ∧ p.1 ≠ x)) (ho : σ'.own = none) : Put x d σ σ' := ⟨hρ, .inl ho⟩

def recOfSt : Stmt → DefRec
  | .FunctionDef name a b _ _ _ sc _ _ pos => ⟨name, a, b, sc, pos⟩
  | _ => ⟨Str.ofString "", ⟨[], [], none, [], [], none, []⟩, [], ⟨.function, [], false, false, []⟩, default⟩

local macro_rules | `(tactic| walk_at "mem1") => `(tactic| with_reducible first | exact List.mem_cons_self | (refine List.mem_cons_of_mem _ ?_; walk_at "mem1"))
local macro_rules | `(tactic| walk_at "mem") => `(tactic| ((try dsimp only [Sg.all]); walk_at "mem1"))
local macro_rules | `(tactic| walk_at "subx") => `(tactic| ((try dsimp only); first | exact SubX.nil | (refine SubX.hd ?_; walk_at "subx") | (refine SubX.keep (by walk_at "mem") (by decide) ?_; walk_at "subx")))

/-! ## the three defs of the projects' own -/
def isb (k : Int) : Bool := if k == 0 then false else Builtin.bitAnd k (k - 1) == 0
def letter (d : Nat) : UInt8 := (65 + d).toUInt8
def ap (n : Nat) : List UInt8 := if h : n = 0 then [] else ap (n / 16) ++ [letter (n % 16)]
termination_by n
decreasing_by omega
theorem ap_zero : ap 0 = [] := by rw [ap]; simp
theorem ap_pos {n : Nat} (h : n ≠ 0) : ap n = ap (n / 16) ++ [letter (n % 16)] := by rw [ap]; simp [h]
theorem ap_length : ∀ n : Nat, (ap n).length ≤ n := by
  intro n
  induction n using Nat.strongRecOn with
  | ind n ih =>
    by_cases h : n = 0
    · subst h; rw [ap_zero]; simp
    · rw [ap_pos h, List.length_append]
      have := ih (n / 16) (by omega)
      simp only [List.length_cons, List.length_nil]
      omega
theorem ap_len_log {n k : Nat} (h : n < 16 ^ k) : (ap n).length ≤ k := by
  induction k generalizing n with
  | zero => have : n = 0 := by simpa using h
            subst this; rw [ap_zero]; simp
  | succ k ih =>
    by_cases q : n = 0
    · subst q; rw [ap_zero]; simp
    · rw [ap_pos q, List.length_append]
      have := ih (n := n / 16) (by rw [Nat.pow_succ] at h; omega)
      simp only [List.length_cons, List.length_nil]
      omega

section
variable {c : Cx} {n : Nat} {d : DefRec}

@[reducible] def apAll : List UInt8 := [65, 66, 67, 68, 69, 70, 71, 72, 73, 74, 75, 76, 77, 78, 79, 80]
theorem apCut (m : Nat) (h : m < 16) : bPick apAll (some (m : Int)) (some ((m : Int) + 1)) = [letter m] := by
  have : ∀ m < 16, bPick apAll (some ((m : Nat) : Int)) (some (((m : Nat) : Int) + 1)) = [letter m] := by decide
  exact this m h
end

end Mine

/-! part A2 -/
namespace Mine

section
variable {c : Cx} {n : Nat} {sc scope : Scope} {ρ βρ : List (Str × D)} {σ σ' : Sg}

inductive Subl (ρ : List (Str × D)) : List (Str × D) → Prop
  | nil : Subl ρ []
  | cons {p : Str × D} {r : List (Str × D)} (hm : p ∈ ρ) (h : Subl ρ r) : Subl ρ (p :: r)
theorem Subl.get {ρ r : List (Str × D)} (h : Subl ρ r) : ∀ p ∈ r, p ∈ ρ := by
  induction h with
  | nil => intro p hp; cases hp
  | cons hm _ ih =>
    intro p hp
    rcases List.mem_cons.mp hp with e | hp
    · subst e; exact hm
    · exact ih p hp
inductive SubN (x : Str) (ρ : List (Str × D)) : List (Str × D) → Prop
  | nil : SubN x ρ []
  | keep {y : Str} {e : D} {r : List (Str × D)} (hm : (y, e) ∈ ρ) (hn : y ≠ x) (h : SubN x ρ r) : SubN x ρ ((y, e) :: r)
theorem SubN.get {x : Str} {ρ r : List (Str × D)} (h : SubN x ρ r) : ∀ p ∈ r, p ∈ ρ ∧ p.1 ≠ x := by
  induction h with
  | nil => intro p hp; cases hp
  | keep hm hn _ ih =>
    intro p hp
    rcases List.mem_cons.mp hp with e | hp
    · subst e; exact ⟨hm, hn⟩
    · exact ih p hp
theorem put_cons {x : Str} {d : D} {β : List (Str × D)} (hn : (β.all fun p => !(p.1 == x)) = true) : Put x d ⟨β, none⟩ ⟨(x, d) :: β, none⟩ := put_new hn rfl
theorem sub_cons {x : Str} {d : D} {β : List (Str × D)} : Sub ⟨β, none⟩ ⟨(x, d) :: β, none⟩ := ⟨fun _ h => List.mem_cons_of_mem _ h, rfl⟩

theorem Lp.filt {α : Type} {elt : Expr} {x : Str} {p : Pos} {i t : Expr} {β : List (Str × D)} (xs : List α) (g f : α → D) (q : α → Bool) (hk : Sto sc x) (hn : (β.all fun p => !(p.1 == x)) = true)
    (ht : ∀ a ∈ xs, Tr c n sc ((x, g a) :: β) t (q a)) (he : ∀ a ∈ xs, q a = true → Ev c n sc ((x, g a) :: β) elt (f a)) : Lp c n sc elt [⟨.Name x p, i, [t], 0⟩] 0 ⟨β, none⟩ (xs.map g) ((xs.filter q).map f) := by
  induction xs with
  | nil => exact Lp.nil _ _
  | cons a xs ih =>
    have ih' := ih (fun b hb => ht b (List.mem_cons_of_mem _ hb)) (fun b hb => he b (List.mem_cons_of_mem _ hb))
    have t1 := ht a List.mem_cons_self
    by_cases hq : q a = true
    · rw [List.filter_cons_of_pos hq, List.map_cons, List.map_cons]
      rw [hq] at t1
      exact Lp.emit rfl rfl (AsgR.name hk (put_cons hn)) sub_cons (IfsR.one t1) (he a List.mem_cons_self hq) ih'
    · rw [List.filter_cons_of_neg hq, List.map_cons]
      have hq' : q a = false := by simpa using hq
      rw [hq'] at t1
      exact Lp.skip rfl rfl (AsgR.name hk (put_cons hn)) sub_cons (IfsR.one t1) ih'
theorem Lp.map {α : Type} {elt : Expr} {x : Str} {p : Pos} {i : Expr} {β : List (Str × D)} (xs : List α) (g f : α → D) (hk : Sto sc x) (hn : (β.all fun p => !(p.1 == x)) = true)
    (he : ∀ a ∈ xs, Ev c n sc ((x, g a) :: β) elt (f a)) : Lp c n sc elt [⟨.Name x p, i, [], 0⟩] 0 ⟨β, none⟩ (xs.map g) (xs.map f) := by
  induction xs with
  | nil => exact Lp.nil _ _
  | cons a xs ih =>
    rw [List.map_cons, List.map_cons]
    exact Lp.emit rfl rfl (AsgR.name hk (put_cons hn)) sub_cons IfsR.nil (he a List.mem_cons_self) (ih (fun b hb => he b (List.mem_cons_of_mem _ hb)))
theorem Lp.mapI {α : Type} {elt : Expr} {x : Str} {p : Pos} {i : Expr} {β : List (Str × D)} (xs : List α) (g : α → D) (f : α → Int) (hk : Sto sc x) (hn : (β.all fun p => !(p.1 == x)) = true)
    (he : ∀ a ∈ xs, Ev c n sc ((x, g a) :: β) elt (.int (f a))) : Lp c n sc elt [⟨.Name x p, i, [], 0⟩] 0 ⟨β, none⟩ (xs.map g) ((xs.map f).map .int) := by
  rw [List.map_map]; exact Lp.map xs g _ hk hn he
theorem Lp.filtI {α : Type} {elt : Expr} {x : Str} {p : Pos} {i t : Expr} {β : List (Str × D)} (xs : List α) (g : α → D) (f : α → Int) (q : α → Bool) (hk : Sto sc x) (hn : (β.all fun p => !(p.1 == x)) = true)
    (ht : ∀ a ∈ xs, Tr c n sc ((x, g a) :: β) t (q a)) (he : ∀ a ∈ xs, q a = true → Ev c n sc ((x, g a) :: β) elt (.int (f a))) : Lp c n sc elt [⟨.Name x p, i, [t], 0⟩] 0 ⟨β, none⟩ (xs.map g) (((xs.filter q).map f).map .int) := by
  rw [List.map_map]; exact Lp.filt xs g _ q hk hn ht he
/-- two clauses, a test on the second -/
theorem Lp.in2 {α γ : Type} {elt : Expr} {x y : Str} {p p' : Pos} {i i' t : Expr} {β : List (Str × D)} (xs : List α) (ys : α → List γ) (g : α → D) (g' : γ → D) (d' : α → D) (f : α → γ → D) (q : α → γ → Bool)
    (hk : Sto sc x) (hn : (β.all fun p => !(p.1 == x)) = true) (hk' : Sto sc y) (hn' : ((Str.ofString "", D.none) :: (x, D.none) :: β).all (fun p => !(p.1 == y)) = true)
    (hi : ∀ a ∈ xs, Ev c n sc ((x, g a) :: β) i' (d' a)) (hit : ∀ a ∈ xs, Items (d' a) ((ys a).map g')) (hf : ∀ env x, foldedSetIterable i' env x = pure x)
    (ht : ∀ a ∈ xs, ∀ b ∈ ys a, Tr c n sc ((y, g' b) :: (x, g a) :: β) t (q a b)) (he : ∀ a ∈ xs, ∀ b ∈ ys a, q a b = true → Ev c n sc ((y, g' b) :: (x, g a) :: β) elt (f a b)) :
    Lp c n sc elt [⟨.Name x p, i, [], 0⟩, ⟨.Name y p', i', [t], 0⟩] 0 ⟨β, none⟩ (xs.map g) (xs.flatMap fun a => ((ys a).filter (q a)).map (f a)) := by
  induction xs with
  | nil => exact Lp.nil _ _
  | cons a xs ih =>
    rw [List.map_cons, List.flatMap_cons]
    have hn2 : (((x, g a) :: β).all fun p => !(p.1 == y)) = true := by
      simp only [List.all_cons, Bool.and_eq_true] at hn' ⊢
      exact ⟨hn'.2.1, hn'.2.2⟩
    refine Lp.inner rfl rfl (AsgR.name hk (put_cons hn)) sub_cons IfsR.nil (hi a List.mem_cons_self) (hit a List.mem_cons_self) hf rfl ?_ (ih (fun b hb => hi b (List.mem_cons_of_mem _ hb)) (fun b hb => hit b (List.mem_cons_of_mem _ hb)) (fun b hb => ht b (List.mem_cons_of_mem _ hb)) (fun b hb => he b (List.mem_cons_of_mem _ hb)))
    have T := ht a List.mem_cons_self
    have G := he a List.mem_cons_self
    show Lp c n sc elt _ 1 _ ((ys a).map g') (((ys a).filter (q a)).map (f a))
    generalize ys a = l at T G
    induction l with
    | nil => exact Lp.nil _ _
    | cons b l ihl =>
      have ih' := ihl (fun z hb => T z (List.mem_cons_of_mem _ hb)) (fun z hb => G z (List.mem_cons_of_mem _ hb))
      have t1 := T b List.mem_cons_self
      by_cases hq : q a b = true
      · rw [List.filter_cons_of_pos hq, List.map_cons, List.map_cons]
        rw [hq] at t1
        exact Lp.emit rfl rfl (AsgR.name hk' (put_cons hn2)) sub_cons (IfsR.one t1) (G b List.mem_cons_self hq) ih'
      · rw [List.filter_cons_of_neg hq, List.map_cons]
        have hq' : q a b = false := by simpa using hq
        rw [hq'] at t1
        exact Lp.skip rfl rfl (AsgR.name hk' (put_cons hn2)) sub_cons (IfsR.one t1) ih'

/-! calls of builtins -/
theorem b_len : bootBuiltins (Str.ofString "len") = some (.builtin "len") := by decide +kernel
theorem b_sum : bootBuiltins (Str.ofString "sum") = some (.builtin "sum") := by decide +kernel
theorem b_sorted : bootBuiltins (Str.ofString "sorted") = some (.builtin "sorted") := by decide +kernel
theorem b_abs : bootBuiltins (Str.ofString "abs") = some (.builtin "abs") := by decide +kernel
theorem b_max : bootBuiltins (Str.ofString "max") = some (.builtin "max") := by decide +kernel
theorem b_divmod : bootBuiltins (Str.ofString "divmod") = some (.builtin "divmod") := by decide +kernel
theorem b_isinstance : bootBuiltins (Str.ofString "isinstance") = some (.builtin "isinstance") := by decide +kernel

section
variable {fp pos : Pos} {es : List Expr}
theorem Ev.len {ds : List D} (h : EvAll c n sc ρ es [.lst ds]) (hz : ds.length ≤ 16777216) (hk : sc.names.lookup (Str.ofString "len") = some .globalImplicit := by rfl) : Ev c n sc ρ (.Call (.Name (Str.ofString "len") fp) es [] pos) (.int ds.length) :=
  Ev.callB (fv := .builtin "len") hk h (by decide) b_len trivial (CallR.lenL hz)
theorem Ev.lenI {ns : List Int} (h : EvAll c n sc ρ es [dInts ns]) (hz : ns.length ≤ 16777216) (hk : sc.names.lookup (Str.ofString "len") = some .globalImplicit := by rfl) : Ev c n sc ρ (.Call (.Name (Str.ofString "len") fp) es [] pos) (.int ns.length) := by
  have := Ev.len (fp := fp) (pos := pos) (show EvAll c n sc ρ es [.lst (ns.map .int)] from h) (by simpa using hz) hk
  rwa [List.length_map] at this
theorem Ev.lenB {b : List UInt8} (h : EvAll c n sc ρ es [.bytes b]) (hz : b.length ≤ 16777216) (hk : sc.names.lookup (Str.ofString "len") = some .globalImplicit := by rfl) : Ev c n sc ρ (.Call (.Name (Str.ofString "len") fp) es [] pos) (.int b.length) :=
  Ev.callB (fv := .builtin "len") hk h (by decide) b_len trivial (CallR.lenB hz)
theorem Ev.sum {ns : List Int} (h : EvAll c n sc ρ es [dInts ns])  (hk : sc.names.lookup (Str.ofString "sum") = some .globalImplicit := by rfl) : Ev c n sc ρ (.Call (.Name (Str.ofString "sum") fp) es [] pos) (.int ns.sum) :=
  Ev.callB (fv := .builtin "sum") hk h (by decide) b_sum trivial CallR.sum
theorem Ev.sorted {ns ms : List Int} (h : EvAll c n sc ρ es [dInts ns]) (hz : ns.length < 64) (hp : ms.Perm ns) (hs : ms.Pairwise (· ≤ ·)) (hk : sc.names.lookup (Str.ofString "sorted") = some .globalImplicit := by rfl) : Ev c n sc ρ (.Call (.Name (Str.ofString "sorted") fp) es [] pos) (dInts ms) :=
  Ev.callB (fv := .builtin "sorted") hk h (by decide) b_sorted trivial (CallR.sorted hz hp hs)
theorem Ev.max {ns : List Int} {m : Int} (h : EvAll c n sc ρ es [dInts ns]) (hm : m ∈ ns) (hx : ∀ x ∈ ns, x ≤ m) (hk : sc.names.lookup (Str.ofString "max") = some .globalImplicit := by rfl) : Ev c n sc ρ (.Call (.Name (Str.ofString "max") fp) es [] pos) (.int m) :=
  Ev.callB (fv := .builtin "max") hk h (by decide) b_max trivial (CallR.max hm hx)
theorem Ev.range1 {b : Int} (h : EvAll c n sc ρ es [.int b])  (hk : sc.names.lookup (Str.ofString "range") = some .globalImplicit := by rfl) : Ev c n sc ρ (.Call (.Name (Str.ofString "range") fp) es [] pos) (.rng 0 b 1) :=
  Ev.callB (fv := .type "range") hk h (by decide) boot_range trivial CallR.range1
theorem Ev.range2 {a b : Int} (h : EvAll c n sc ρ es [.int a, .int b])  (hk : sc.names.lookup (Str.ofString "range") = some .globalImplicit := by rfl) : Ev c n sc ρ (.Call (.Name (Str.ofString "range") fp) es [] pos) (.rng a b 1) :=
  Ev.callB (fv := .type "range") hk h (by decide) boot_range trivial CallR.range2
theorem Ev.range3 {a b : Int} (h : EvAll c n sc ρ es [.int a, .int b, .int (-1)])  (hk : sc.names.lookup (Str.ofString "range") = some .globalImplicit := by rfl) : Ev c n sc ρ (.Call (.Name (Str.ofString "range") fp) es [] pos) (.rng a b (-1)) :=
  Ev.callB (fv := .type "range") hk h (by decide) boot_range trivial CallR.range3
theorem Ev.listRange {b : Int} (h : EvAll c n sc ρ es [.rng 0 b 1]) (h0 : 0 ≤ b) (h1 : b ≤ 1000000) (hk : sc.names.lookup (Str.ofString "list") = some .globalImplicit := by rfl) : Ev c n sc ρ (.Call (.Name (Str.ofString "list") fp) es [] pos) (dInts (upto 0 b)) :=
  Ev.callB (fv := .type "list") hk h (by decide) boot_list trivial (CallR.listRange h0 h1)
theorem Ev.bytes {ns : List Int} (h : EvAll c n sc ρ es [dInts ns]) (hr : ∀ x ∈ ns, 0 ≤ x ∧ x < 256) (hz : ns.length ≤ 16777216) (hk : sc.names.lookup (Str.ofString "bytes") = some .globalImplicit := by rfl) : Ev c n sc ρ (.Call (.Name (Str.ofString "bytes") fp) es [] pos) (.bytes (ns.map fun x => x.toNat.toUInt8)) :=
  Ev.callB (fv := .type "bytes") hk h (by decide) boot_bytes trivial (CallR.bytes hr hz)
theorem Ev.abs {i : Int} (h : EvAll c n sc ρ es [.int i])  (hk : sc.names.lookup (Str.ofString "abs") = some .globalImplicit := by rfl) : Ev c n sc ρ (.Call (.Name (Str.ofString "abs") fp) es [] pos) (.int (if i < 0 then -i else i)) :=
  Ev.callB (fv := .builtin "abs") hk h (by decide) b_abs trivial CallR.abs
theorem Ev.int {i : Int} (h : EvAll c n sc ρ es [.int i])  (hk : sc.names.lookup (Str.ofString "int") = some .globalImplicit := by rfl) : Ev c n sc ρ (.Call (.Name (Str.ofString "int") fp) es [] pos) (.int i) :=
  Ev.callB (fv := .type "int") hk h (by decide) boot_int trivial CallR.int
theorem Ev.divmod {a b : Int} (h : EvAll c n sc ρ es [.int a, .int b]) (hb : 0 < b) (hb' : b < 1073741824) (hk : sc.names.lookup (Str.ofString "divmod") = some .globalImplicit := by rfl) : Ev c n sc ρ (.Call (.Name (Str.ofString "divmod") fp) es [] pos) (.tup [.int (a / b), .int (a % b)]) :=
  Ev.callB (fv := .builtin "divmod") hk h (by decide) b_divmod trivial (CallR.divmod hb hb')
theorem Ev.isBytes {b : List UInt8} (h : EvAll c n sc ρ es [.bytes b, .typ "bytes"])  (hk : sc.names.lookup (Str.ofString "isinstance") = some .globalImplicit := by rfl) : Ev c n sc ρ (.Call (.Name (Str.ofString "isinstance") fp) es [] pos) (.bool true) :=
  Ev.callB (fv := .builtin "isinstance") hk h (by decide) b_isinstance trivial CallR.isBytes
end

theorem ForR.ofN {α γ : Type} {tgt : Expr} {body : List Stmt} (S : α → Sg) (g : γ → D) (step : α → γ → α) (J : Nat → α → Prop) (xs : List γ) (a : α) (j : J 0 a)
    (h : ∀ k a x, J k a → xs[k]? = some x → J (k + 1) (step a x) ∧ ∃ σ1, AsgR c n sc tgt (g x) (S a) σ1 ∧ St c n sc σ1 body (.next (S (step a x)))) : ForR c n sc tgt body (S a) (xs.map g) (.next (S (xs.foldl step a))) := by
  induction xs generalizing a J with
  | nil => exact .nil _
  | cons x xs ih =>
    obtain ⟨j1, σ1, ha, hb⟩ := h 0 a x j rfl
    exact .next ha hb (ih (fun k => J (k + 1)) _ j1 fun k a y jk hy => h (k + 1) a y jk (by simpa using hy))

theorem sto_all {ps : List Str} (h : (ps.all fun p => sc.names.lookup p == some .local || sc.names.lookup p == some .cell) = true) : ∀ p ∈ ps, Sto sc p := by
  intro p hp
  have := List.all_eq_true.mp h p hp
  cases q : sc.names.lookup p with
  | none => rw [q] at this; cases this
  | some k => rw [q] at this; cases k <;> first | exact .inl q | exact .inr q | (cases this)
theorem foldl_count {γ : Type} (xs : List γ) (a : Nat) : xs.foldl (fun k _ => k + 1) a = a + xs.length := by
  induction xs generalizing a with
  | nil => rfl
  | cons x xs ih => rw [List.foldl_cons, ih, List.length_cons]; omega
theorem upto_length (a b : Int) : (upto a b).length = (b - a).toNat := by simp [upto]
theorem upto_get {a b x : Int} {k : Nat} (h : (upto a b)[k]? = some x) : x = a + k ∧ a + k < b := by
  unfold upto at h
  rw [List.getElem?_map] at h
  by_cases q : k < (b - a).toNat
  · rw [List.getElem?_range q] at h
    simp at h
    omega
  · rw [List.getElem?_eq_none (by simpa using Nat.le_of_not_lt q)] at h; cases h

theorem sum_nonneg {ns : List Int} (h : ∀ x ∈ ns, 0 ≤ x) : 0 ≤ ns.sum := by
  induction ns with
  | nil => simp
  | cons a l ih => rw [List.sum_cons]; have := h a List.mem_cons_self; have := ih (fun x hx => h x (List.mem_cons_of_mem _ hx)); omega
theorem mem_upto {a b x : Int} (h : x ∈ upto a b) : a ≤ x ∧ x < b := by
  unfold upto at h
  obtain ⟨i, hi, rfl⟩ := List.mem_map.mp h
  have := List.mem_range.mp hi
  omega
end
end Mine

/-! part A3 -/
namespace Mine
theorem filterMap_range {α : Type} (l : List α) : ∀ m, (List.range m).filterMap (fun i => l[i]?) = l.take m := by
  intro m
  induction m with
  | zero => simp
  | succ m ih =>
    rw [List.range_succ, List.filterMap_append, ih, List.take_add_one]
    cases q : l[m]? with
    | none => simp only [List.filterMap_cons, q, List.filterMap_nil, Option.toList]
    | some v => simp only [List.filterMap_cons, q, List.filterMap_nil, Option.toList]
theorem dPick_plain (ds : List D) (lo hi : Option Int) : dPick ds lo hi none = (ds.drop (lo.elim 0 (clipAt ds.length))).take (hi.elim ds.length (clipAt ds.length) - lo.elim 0 (clipAt ds.length)) := by
  unfold dPick
  rw [sliceBounds_plain]
  dsimp only
  rw [sliceRange_one, List.filterMap_map, ← filterMap_range]
  congr 1
  funext i
  simp
theorem take_clip {α : Type} (l : List α) (k : Nat) : l.take (min k l.length) = l.take k := by
  by_cases q : k ≤ l.length
  · rw [Nat.min_eq_left q]
  · have q' : l.length ≤ k := by omega
    rw [Nat.min_eq_right q', List.take_length, List.take_of_length_le q']
theorem drop_clip {α : Type} (l : List α) (k : Nat) : (l.drop (min k l.length)).take (l.length - min k l.length) = l.drop k := by
  rw [List.take_of_length_le (Nat.le_of_eq List.length_drop)]
  by_cases q : k ≤ l.length
  · rw [Nat.min_eq_left q]
  · have q' : l.length ≤ k := by omega
    rw [Nat.min_eq_right q', List.drop_length, List.drop_eq_nil_of_le q']
theorem dPick_upto (ds : List D) (k : Nat) : dPick ds none (some (k : Int)) none = ds.take k := by
  rw [dPick_plain, ← take_clip ds k]
  exact congrArg (fun j => ds.take j) (clipAt_nat ds.length k)
theorem bPick_upto (l : List UInt8) (k : Nat) : bPick l none (some (k : Int)) = l.take k := by
  rw [← take_clip l k]
  exact congrArg (fun j => l.take j) (clipAt_nat l.length k)
theorem bPick_from (l : List UInt8) (k : Nat) : bPick l (some (k : Int)) none = l.drop k := by
  rw [← drop_clip l k]
  exact congrArg (fun j => (l.drop j).take (l.length - j)) (clipAt_nat l.length k)
abbrev pk := pickNums
theorem dPick_ints (ns : List Int) (lo hi st : Option Int) : D.lst (dPick (ns.map .int) lo hi st) = dInts (pk ns lo hi st) := by
  unfold dPick pk pickNums dInts
  rw [List.map_filterMap, List.length_map]
  simp
theorem pk_mem {ns : List Int} {lo hi st : Option Int} {x : Int} (h : x ∈ pk ns lo hi st) : x ∈ ns := by
  unfold pk pickNums at h
  obtain ⟨i, _, hi⟩ := List.mem_filterMap.mp h
  exact List.mem_of_getElem? hi
theorem pk_upto (ns : List Int) (k : Nat) : pk ns none (some (k : Int)) none = ns.take k := by
  have h := dPick_ints ns none (some (k : Int)) none
  rw [dPick_upto, ← List.map_take] at h
  have h2 : (ns.take k).map D.int = (pk ns none (some (k : Int)) none).map D.int := by injection h
  exact ((List.map_inj_right (fun a b e => by injection e)).mp h2).symm
section
variable {c : Cx} {n : Nat} {sc : Scope} {ρ : List (Str × D)}
theorem Ev.sliceI {value : Expr} {lo hi st : Option Expr} {p pos : Pos} {ns : List Int} {a b k : Option Int} (h : Ev c n sc ρ value (dInts ns)) (h1 : PartR c n sc ρ lo a) (h2 : PartR c n sc ρ hi b) (h3 : PartR c n sc ρ st k) (hk : k ≠ some 0) (hz : ns.length ≤ 16777216) :
    Ev c n sc ρ (.Subscript value (.Slice lo hi st p) pos) (dInts (pk ns a b k)) :=
  Ev.cast (Ev.sliceL (ds := ns.map .int) h h1 h2 h3 hk (by simpa using hz)) (dPick_ints ns a b k)
end
end Mine

/-! part L1 -/
namespace Mine
local macro_rules | `(tactic| walk_at "mem1") => `(tactic| with_reducible first | exact List.mem_cons_self | (refine List.mem_cons_of_mem _ ?_; walk_at "mem1"))
local macro_rules | `(tactic| walk_at "mem") => `(tactic| ((try dsimp only [Sg.all, List.zip_cons_cons, List.zip_nil_left, List.zip_nil_right]); walk_at "mem1"))
local macro_rules | `(tactic| walk_at "subx1") => `(tactic| first | with_reducible exact SubX.nil | ((with_reducible refine SubX.hd ?_); walk_at "subx1") | (refine SubX.keep (by walk_at "mem1") (by decide) ?_; walk_at "subx1"))
local macro_rules | `(tactic| walk_at "subx") => `(tactic| ((try dsimp only [Sg.all, List.zip_cons_cons, List.zip_nil_left, List.zip_nil_right]); walk_at "subx1"))
local macro_rules | `(tactic| walk_at "side") => `(tactic| first | assumption | decide | omega)
local macro_rules | `(tactic| walk_at "fr") => `(tactic| first | with_reducible exact FrR.nil | (refine FrR.skip rfl ?_; walk_at "fr") | (refine FrR.take (by walk_at "mem") rfl ?_; walk_at "fr"))
local macro_rules | `(tactic| walk_at "bin") => `(tactic| first
  | with_reducible exact BinR.add | with_reducible exact BinR.sub | with_reducible exact BinR.xor
  | ((with_reducible show BinR _ _ Operator.Mod _ _ _); exact BinR.mod (by walk_at "side"))
  | ((with_reducible show BinR _ _ Operator.Pow _ _ _); exact BinR.pow (by walk_at "side") (by walk_at "side") (by decide))
  | ((with_reducible show BinR _ _ Operator.FloorDiv _ _ _); exact BinR.fdiv (by walk_at "side") (.inl (by walk_at "side")))
  | ((with_reducible show BinR _ _ Operator.Mult (.int _) _ _); exact BinR.mul (by walk_at "side") (by walk_at "side"))
  | ((with_reducible show BinR _ _ Operator.Add (.bytes _) _ _); exact BinR.addB (by walk_at "side"))
  | ((with_reducible show BinR _ _ Operator.Add (.lst _) _ _); exact BinR.addL (by walk_at "side")))
local macro_rules | `(tactic| walk_at "cmp") => `(tactic| with_reducible first
  | exact CmpR.eq | exact CmpR.ne | exact CmpR.lt | exact CmpR.gt | exact CmpR.le | exact CmpR.ge | exact CmpR.eqB | exact CmpR.neB | exact CmpR.isBool | exact CmpR.isNotBool | exact CmpR.isNone)
local macro_rules | `(tactic| walk_at "evs") => `(tactic| first | with_reducible exact EvAll.nil | exact EvAll.cons (by walk_at "ev") (by walk_at "evs"))
local macro_rules | `(tactic| walk_at "part") => `(tactic| first | with_reducible exact PartR.none | exact PartR.some (by walk_at "ev"))
local macro_rules | `(tactic| walk_at "ev") => `(tactic| first
  | with_reducible exact Ev.cint | with_reducible exact Ev.cnone | with_reducible exact Ev.cbool | with_reducible exact Ev.cbytes
  | ((with_reducible show Ev _ _ _ _ (Expr.Name _ _) _); exact Ev.name (by walk_at "mem"))
  | ((with_reducible show Ev _ _ _ _ (Expr.BinOp _ _ _ _) _); exact Ev.bin (by walk_at "ev") (by walk_at "ev") (by walk_at "bin"))
  | ((with_reducible show Ev _ _ _ _ (Expr.Compare _ _ _ _) _); exact Ev.cmp (by walk_at "ev") (by walk_at "ev") (by walk_at "cmp"))
  | ((with_reducible show Ev _ _ _ _ (Expr.UnaryOp _ _ _) _); exact Ev.un (by walk_at "ev") UnR.neg)
  | ((with_reducible show Ev _ _ _ _ (Expr.Call (Expr.Name (Str.ofString "range") _) [_] [] _) _); exact Ev.range1 (by walk_at "evs"))
  | ((with_reducible show Ev _ _ _ _ (Expr.Call (Expr.Name (Str.ofString "range") _) [_, _] [] _) _); exact Ev.range2 (by walk_at "evs"))
  | ((with_reducible show Ev _ _ _ _ (Expr.Call (Expr.Name (Str.ofString "range") _) [_, _, _] [] _) _); exact Ev.range3 (by walk_at "evs"))
  | ((with_reducible show Ev _ _ _ _ (Expr.Call (Expr.Name (Str.ofString "sum") _) _ [] _) _); exact Ev.sum (by walk_at "evs")))
local macro_rules | `(tactic| walk_at "tr") => `(tactic| first
  | ((with_reducible show Tr _ _ _ _ (Expr.Compare _ _ _ _) _); exact Tr.cmp (by walk_at "ev") (by walk_at "ev") (by walk_at "cmp")))
local macro_rules | `(tactic| walk_at "sto") => `(tactic| first | exact .inl rfl | exact .inr rfl)
local macro_rules | `(tactic| walk_at "stos") => `(tactic| exact sto_all rfl)
local macro_rules | `(tactic| walk_at "b0") => `(tactic| (intro pm cd doc vs hv; match vs, hv with | [], _ => rfl))
local macro_rules | `(tactic| walk_at "b1") => `(tactic| (intro pm cd doc vs hv; match vs, hv with | [v], _ => rfl))
local macro_rules | `(tactic| walk_at "b2") => `(tactic| (intro pm cd doc vs hv; match vs, hv with | [v, w], _ => rfl))
local macro_rules | `(tactic| walk_at "b3") => `(tactic| (intro pm cd doc vs hv; match vs, hv with | [v, w, x], _ => rfl))
local macro_rules | `(tactic| walk_at "b4") => `(tactic| (intro pm cd doc vs hv; match vs, hv with | [v, w, x, y], _ => rfl))
local macro_rules | `(tactic| walk_at "b5") => `(tactic| (intro pm cd doc vs hv; match vs, hv with | [v, w, x, y, z], _ => rfl))
local macro_rules | `(tactic| walk_at "sub1") => `(tactic| first | with_reducible exact Subl.nil | (refine Subl.cons (by walk_at "mem1") ?_; walk_at "sub1"))
local macro_rules | `(tactic| walk_at "sub") => `(tactic| (refine Subl.get ?_; (try dsimp only [Sg.all]); walk_at "sub1"))
local macro_rules | `(tactic| walk_at "subn1") => `(tactic| first | with_reducible exact SubN.nil | (refine SubN.keep (by walk_at "mem1") (by decide) ?_; walk_at "subn1"))
local macro_rules | `(tactic| walk_at "subn") => `(tactic| (refine SubN.get ?_; (try dsimp only [Sg.all, List.zip_cons_cons, List.zip_nil_left, List.zip_nil_right]); walk_at "subn1"))

def st1 (i : Nat) : Stmt := PySem.Challenge.pw_rs0011_01.main.body.getD i (.Pass default)
def rISB : DefRec := recOfSt (st1 1)
def rHB : DefRec := recOfSt (st1 2)
def rAP : DefRec := recOfSt (st1 4)

section
variable {c : Cx} {n : Nat}
theorem rISB_sc : ScOk rISB.scope := ⟨rfl, rfl, rfl, by decide⟩
theorem rHB_sc : ScOk rHB.scope := ⟨rfl, rfl, rfl, by decide⟩
theorem rAP_sc : ScOk rAP.scope := ⟨rfl, rfl, rfl, by decide⟩

theorem isb_fn (h : Has c rISB) (k : Int) : Fn c (n + 1) (Str.ofString "_is_single_bit") [.int k] (.bool (isb k)) := by
  refine Fn.of (d := rISB) (ps := [Str.ofString "num"]) h rISB_sc (by walk_at "b1") rfl (by decide) (by walk_at "stos") ?_ rfl rfl
  · show St c n rISB.scope ⟨[(Str.ofString "num", .int k)], none⟩ rISB.body (.ret (.bool (isb k)))
    unfold isb
    by_cases q : (k == 0) = true
    · rw [if_pos q]
      refine St.ret ?_
      refine St1.ite (b := true) (Tr.cast (by walk_at "tr") q) (fun _ => ?_) (fun e => by cases e)
      exact St.ret (St1.ret (by walk_at "ev"))
    · rw [if_neg q]
      refine St.cons (St1.ite (b := false) (Tr.cast (by walk_at "tr") (by simpa using q)) (fun e => by cases e) (fun _ => St.nil)) ?_
      refine St.cons (St1.iand (by walk_at "mem") (by walk_at "ev") (.inl rfl) (put_hd rfl)) ?_
      exact St.ret (St1.ret (by walk_at "ev"))

theorem hb_fn (h : Has c rHB) (k : Int) : Fn c (n + 1) (Str.ofString "_high_bit") [.int k] (.int ((Builtin.Int.intBits k : Nat) - 1)) := by
  refine Fn.of (d := rHB) (ps := [Str.ofString "value"]) h rHB_sc (by walk_at "b1") rfl (by decide) (by walk_at "stos") ?_ rfl rfl
  · exact St.ret (St1.ret (Ev.bin (Ev.bitLength (by walk_at "ev")) (by walk_at "ev") BinR.sub))

theorem ap_fn (h : Has c rAP) (k : Int) (hk : k.natAbs < 16 ^ 20) : Fn c (n + 1) (Str.ofString "Int2AP") [.int k] (.bytes (ap k.natAbs)) := by
  refine Fn.of (d := rAP) (ps := [Str.ofString "num"]) h rAP_sc (by walk_at "b1") rfl (by decide) (by walk_at "stos") ?_ rfl rfl
  · refine St.cons (St1.assign (by walk_at "ev") (.inl rfl) (put_new rfl rfl)) ?_
    refine St.cons (St1.assign (by walk_at "ev") (.inl rfl) (put_new rfl rfl)) ?_
    refine St.cons (σ' := ⟨[(Str.ofString "num", .int (k.natAbs : Nat)), (Str.ofString "val", .bytes []), (Str.ofString "AP", .bytes apAll)], none⟩)
      (St1.assign (Ev.cast (d' := .int (k.natAbs : Nat)) (Ev.int (.cons (Ev.abs (by walk_at "evs")) .nil)) (by congr 1; split <;> omega)) (.inl rfl) (put_s (by walk_at "subx"))) ?_
    refine St.cons (σ' := ⟨[(Str.ofString "num", .int ((0 : Nat) : Int)), (Str.ofString "val", .bytes (ap k.natAbs)), (Str.ofString "AP", .bytes apAll)], none⟩) (St1.while_ (WhileR.of (α := Nat × List UInt8)
      (fun a => ⟨[(Str.ofString "num", .int (a.1 : Int)), (Str.ofString "val", .bytes a.2), (Str.ofString "AP", .bytes apAll)], none⟩)
      (fun a => ap a.1 ++ a.2 = ap k.natAbs ∧ ∃ j, a.1 < 16 ^ j ∧ a.2.length + j ≤ 20) (fun a => a.1) (k.natAbs, []) ⟨by simp, 20, hk, by simp⟩ ?_)) ?_
    · rintro ⟨m, v⟩ ⟨h1, j, h2, h3⟩
      dsimp only at h1 h2 h3
      by_cases h0 : m = 0
      · subst h0
        refine .inl ⟨Tr.cast (Tr.val (by walk_at "ev") TruR.int) (by decide), ?_⟩
        rw [ap_zero, List.nil_append] at h1
        dsimp only
        rw [h1]
      · refine .inr ⟨(m / 16, letter (m % 16) :: v), ⟨?_, j - 1, ?_, ?_⟩, ?_, ?_, ?_⟩
        · dsimp only
          rw [← h1, ap_pos h0, List.append_assoc]; rfl
        · dsimp only
          cases j with
          | zero => simp at h2; omega
          | succ j => rw [Nat.pow_succ] at h2; simp only [Nat.add_sub_cancel]; omega
        · dsimp only [List.length_cons]
          cases j with
          | zero => simp at h2; omega
          | succ j => omega
        · dsimp only; omega
        · exact Tr.cast (Tr.val (by walk_at "ev") TruR.int) (by simpa using h0)
        · have e1 : ((m : Int) / 16) = ((m / 16 : Nat) : Int) := by omega
          have e2 : ((m : Int) % 16) = ((m % 16 : Nat) : Int) := by omega
          refine St.cons (σ' := ⟨[(Str.ofString "mod", .int ((m % 16 : Nat) : Int)), (Str.ofString "num", .int ((m / 16 : Nat) : Int)), (Str.ofString "val", .bytes v), (Str.ofString "AP", .bytes apAll)], none⟩) (St1.assignT (ds := [.int ((m / 16 : Nat) : Int), .int ((m % 16 : Nat) : Int)]) (Ev.cast (Ev.divmod (by walk_at "evs") (by decide) (by decide)) (by rw [e1, e2]))
            (.cons (σ1 := ⟨[(Str.ofString "num", .int ((m / 16 : Nat) : Int)), (Str.ofString "val", .bytes v), (Str.ofString "AP", .bytes apAll)], none⟩) (by walk_at "sto") (put_s (by walk_at "subx")) (.cons (by walk_at "sto") (put_s (by walk_at "subx")) (.nil _)))) ?_
          refine St.cons (σ' := ⟨[(Str.ofString "num", .int ((m / 16 : Nat) : Int)), (Str.ofString "val", .bytes (letter (m % 16) :: v)), (Str.ofString "AP", .bytes apAll)], none⟩) (St1.assign (d := .bytes (letter (m % 16) :: v)) (Ev.bin (Ev.cast (d' := .bytes [letter (m % 16)]) (Ev.sliceB (by walk_at "ev") (by walk_at "part") (by walk_at "part") (by decide)) (by rw [apCut _ (Nat.mod_lt _ (by decide))])) (by walk_at "ev") (BinR.addB (by simp only [List.length_cons, List.length_nil]; omega))) (by walk_at "sto") (put_s (by walk_at "subx"))) ?_
          exact St.nil
    exact St.ret (St1.ret (by walk_at "ev"))
end
end Mine

/-! part L2 -/
namespace Mine
local macro_rules | `(tactic| walk_at "mem1") => `(tactic| with_reducible first | exact List.mem_cons_self | (refine List.mem_cons_of_mem _ ?_; walk_at "mem1"))
local macro_rules | `(tactic| walk_at "mem") => `(tactic| ((try dsimp only [Sg.all, List.zip_cons_cons, List.zip_nil_left, List.zip_nil_right]); walk_at "mem1"))
local macro_rules | `(tactic| walk_at "subx1") => `(tactic| first | with_reducible exact SubX.nil | ((with_reducible refine SubX.hd ?_); walk_at "subx1") | (refine SubX.keep (by walk_at "mem1") (by decide) ?_; walk_at "subx1"))
local macro_rules | `(tactic| walk_at "subx") => `(tactic| ((try dsimp only [Sg.all, List.zip_cons_cons, List.zip_nil_left, List.zip_nil_right]); walk_at "subx1"))
local macro_rules | `(tactic| walk_at "side") => `(tactic| first | assumption | decide | omega)
local macro_rules | `(tactic| walk_at "fr") => `(tactic| first | with_reducible exact FrR.nil | (refine FrR.skip rfl ?_; walk_at "fr") | (refine FrR.take (by walk_at "mem") rfl ?_; walk_at "fr"))
local macro_rules | `(tactic| walk_at "bin") => `(tactic| first
  | with_reducible exact BinR.add | with_reducible exact BinR.sub | with_reducible exact BinR.xor
  | ((with_reducible show BinR _ _ Operator.Mod _ _ _); exact BinR.mod (by walk_at "side"))
  | ((with_reducible show BinR _ _ Operator.Pow _ _ _); exact BinR.pow (by walk_at "side") (by walk_at "side") (by decide))
  | ((with_reducible show BinR _ _ Operator.FloorDiv _ _ _); exact BinR.fdiv (by walk_at "side") (.inl (by walk_at "side")))
  | ((with_reducible show BinR _ _ Operator.Mult (.int _) _ _); exact BinR.mul (by walk_at "side") (by walk_at "side"))
  | ((with_reducible show BinR _ _ Operator.Add (.bytes _) _ _); exact BinR.addB (by walk_at "side"))
  | ((with_reducible show BinR _ _ Operator.Add (.lst _) _ _); exact BinR.addL (by walk_at "side")))
local macro_rules | `(tactic| walk_at "cmp") => `(tactic| with_reducible first
  | exact CmpR.eq | exact CmpR.ne | exact CmpR.lt | exact CmpR.gt | exact CmpR.le | exact CmpR.ge | exact CmpR.eqB | exact CmpR.neB | exact CmpR.isBool | exact CmpR.isNotBool | exact CmpR.isNone)
local macro_rules | `(tactic| walk_at "evs") => `(tactic| first | with_reducible exact EvAll.nil | exact EvAll.cons (by walk_at "ev") (by walk_at "evs"))
local macro_rules | `(tactic| walk_at "part") => `(tactic| first | with_reducible exact PartR.none | exact PartR.some (by walk_at "ev"))
local macro_rules | `(tactic| walk_at "ev") => `(tactic| first
  | with_reducible exact Ev.cint | with_reducible exact Ev.cnone | with_reducible exact Ev.cbool | with_reducible exact Ev.cbytes
  | ((with_reducible show Ev _ _ _ _ (Expr.Name _ _) _); exact Ev.name (by walk_at "mem"))
  | ((with_reducible show Ev _ _ _ _ (Expr.BinOp _ _ _ _) _); exact Ev.bin (by walk_at "ev") (by walk_at "ev") (by walk_at "bin"))
  | ((with_reducible show Ev _ _ _ _ (Expr.Compare _ _ _ _) _); exact Ev.cmp (by walk_at "ev") (by walk_at "ev") (by walk_at "cmp"))
  | ((with_reducible show Ev _ _ _ _ (Expr.UnaryOp _ _ _) _); exact Ev.un (by walk_at "ev") UnR.neg)
  | ((with_reducible show Ev _ _ _ _ (Expr.Call (Expr.Name (Str.ofString "range") _) [_] [] _) _); exact Ev.range1 (by walk_at "evs"))
  | ((with_reducible show Ev _ _ _ _ (Expr.Call (Expr.Name (Str.ofString "range") _) [_, _] [] _) _); exact Ev.range2 (by walk_at "evs"))
  | ((with_reducible show Ev _ _ _ _ (Expr.Call (Expr.Name (Str.ofString "range") _) [_, _, _] [] _) _); exact Ev.range3 (by walk_at "evs"))
  | ((with_reducible show Ev _ _ _ _ (Expr.Call (Expr.Name (Str.ofString "sum") _) _ [] _) _); exact Ev.sum (by walk_at "evs")))
local macro_rules | `(tactic| walk_at "tr") => `(tactic| first
  | ((with_reducible show Tr _ _ _ _ (Expr.Compare _ _ _ _) _); exact Tr.cmp (by walk_at "ev") (by walk_at "ev") (by walk_at "cmp")))
local macro_rules | `(tactic| walk_at "sto") => `(tactic| first | exact .inl rfl | exact .inr rfl)
local macro_rules | `(tactic| walk_at "stos") => `(tactic| exact sto_all rfl)
local macro_rules | `(tactic| walk_at "b0") => `(tactic| (intro pm cd doc vs hv; match vs, hv with | [], _ => rfl))
local macro_rules | `(tactic| walk_at "b1") => `(tactic| (intro pm cd doc vs hv; match vs, hv with | [v], _ => rfl))
local macro_rules | `(tactic| walk_at "b2") => `(tactic| (intro pm cd doc vs hv; match vs, hv with | [v, w], _ => rfl))
local macro_rules | `(tactic| walk_at "b3") => `(tactic| (intro pm cd doc vs hv; match vs, hv with | [v, w, x], _ => rfl))
local macro_rules | `(tactic| walk_at "b4") => `(tactic| (intro pm cd doc vs hv; match vs, hv with | [v, w, x, y], _ => rfl))
local macro_rules | `(tactic| walk_at "b5") => `(tactic| (intro pm cd doc vs hv; match vs, hv with | [v, w, x, y, z], _ => rfl))
local macro_rules | `(tactic| walk_at "sub1") => `(tactic| first | with_reducible exact Subl.nil | (refine Subl.cons (by walk_at "mem1") ?_; walk_at "sub1"))
local macro_rules | `(tactic| walk_at "sub") => `(tactic| (refine Subl.get ?_; (try dsimp only [Sg.all]); walk_at "sub1"))
local macro_rules | `(tactic| walk_at "subn1") => `(tactic| first | with_reducible exact SubN.nil | (refine SubN.keep (by walk_at "mem1") (by decide) ?_; walk_at "subn1"))
local macro_rules | `(tactic| walk_at "subn") => `(tactic| (refine SubN.get ?_; (try dsimp only [Sg.all, List.zip_cons_cons, List.zip_nil_left, List.zip_nil_right]); walk_at "subn1"))
def rPL : DefRec := recOfSt (st1 6)
def rSE : DefRec := recOfSt (st1 7)
def rWY : DefRec := recOfSt (st1 8)
section
variable {c : Cx} {n : Nat}
theorem rPL_sc : ScOk rPL.scope := ⟨rfl, rfl, rfl, by decide⟩
theorem rSE_sc : ScOk rSE.scope := ⟨rfl, rfl, rfl, by decide⟩
theorem rWY_sc : ScOk rWY.scope := ⟨rfl, rfl, rfl, by decide⟩

/-- places from gaps -/
def pl : Int → List Nat → List Int
  | _, [] => []
  | a, g :: gs => (a + 1 + g) :: pl (a + 1 + g) gs
def plStep (a : Int × Int × List Int) (_ : Int) : Int × Int × List Int := (a.1 + 1 + a.2.1 % 5, a.2.1 / 5, a.2.2 ++ [a.1 + 1 + a.2.1 % 5])
theorem pl_run (l : Int) (h : 0 ≤ l) : ∃ gs : List Nat, gs.length = 7 ∧ (∀ g ∈ gs, g ≤ 4) ∧ ((upto 0 7).foldl plStep (-1, l, [])).2.2 = pl (-1) gs := by
  have key : ∀ (xs : List Int) (a l : Int) (ps : List Int), 0 ≤ l → ∃ gs : List Nat, gs.length = xs.length ∧ (∀ g ∈ gs, g ≤ 4) ∧ (xs.foldl plStep (a, l, ps)).2.2 = ps ++ pl a gs := by
    intro xs
    induction xs with
    | nil => intro a l ps _; exact ⟨[], rfl, by simp, by simp [pl]⟩
    | cons x xs ih =>
      intro a l ps hl
      obtain ⟨gs, h1, h2, h3⟩ := ih (a + 1 + l % 5) (l / 5) (ps ++ [a + 1 + l % 5]) (by omega)
      refine ⟨(l % 5).toNat :: gs, by simp [h1], ?_, ?_⟩
      · intro g hg
        rcases List.mem_cons.mp hg with rfl | hg
        · omega
        · exact h2 g hg
      · rw [List.foldl_cons]
        show (List.foldl plStep (a + 1 + l % 5, l / 5, ps ++ [a + 1 + l % 5]) xs).2.2 = _
        rw [h3, pl]
        have : ((l % 5).toNat : Int) = l % 5 := by omega
        rw [this]; simp
  obtain ⟨gs, h1, h2, h3⟩ := key (upto 0 7) (-1) l [] h
  exact ⟨gs, by rw [h1]; rfl, h2, by simpa using h3⟩

theorem pl_fn (h : Has c rPL) (ns : List Int) (hs : 0 ≤ ns.sum) : ∃ gs : List Nat, gs.length = 7 ∧ (∀ g ∈ gs, g ≤ 4) ∧ Fn c (n + 1) (Str.ofString "_law_places") [dInts ns] (dInts (pl (-1) gs)) := by
  obtain ⟨gs, h1, h2, h3⟩ := pl_run (67551 + ns.sum) (by omega)
  refine ⟨gs, h1, h2, ?_⟩
  refine Fn.of (d := rPL) (ps := [Str.ofString "drawn"]) h rPL_sc (by walk_at "b1") rfl (by decide) (by walk_at "stos") ?_ rfl rfl
  refine St.cons (σ' := ⟨[(Str.ofString "left", .int (67551 + ns.sum))], none⟩) (St1.assign (d := .int (67551 + ns.sum)) (by walk_at "ev") (by walk_at "sto") (put_s (by walk_at "subx"))) ?_
  refine St.cons (σ' := ⟨[(Str.ofString "at", .int (-1)), (Str.ofString "left", .int (67551 + ns.sum))], none⟩) (St1.assign (d := .int (-1)) (by walk_at "ev") (by walk_at "sto") (put_s (by walk_at "subx"))) ?_
  refine St.cons (σ' := ⟨[(Str.ofString "at", .int (-1)), (Str.ofString "left", .int (67551 + ns.sum))], some (Str.ofString "places", [])⟩) (St1.assignNew (ds := []) (EvNew.list .nil) (by walk_at "sto") (by walk_at "subn") rfl) ?_
  refine St.cons (St1.for_ (Ev.range1 (by walk_at "evs")) (Items.up (by decide) (by decide) (by decide) (by decide))
    (ForR.ofN (α := Int × Int × List Int) (fun a => ⟨[(Str.ofString "at", .int a.1), (Str.ofString "left", .int a.2.1)], some (Str.ofString "places", a.2.2.map .int)⟩) .int plStep (fun k a => a.2.2.length = k) (upto 0 7) (-1, 67551 + ns.sum, []) rfl ?_)) ?_
  · rintro k ⟨a, l, ps⟩ x hk hx
    have hk7 : k < 7 := by
      by_cases q : k < 7
      · exact q
      · have : (upto 0 7)[k]? = none := List.getElem?_eq_none (by show 7 ≤ k; omega)
        rw [this] at hx; cases hx
    dsimp only at hk
    refine ⟨by simp [plStep, hk], _, AsgR.name (by walk_at "sto") (σ' := ⟨[(Str.ofString "at", .int a), (Str.ofString "left", .int l)], some (Str.ofString "places", ps.map .int)⟩) (put_so (by walk_at "subx") (by decide)), ?_⟩
    refine St.cons (σ' := ⟨[(Str.ofString "at", .int (a + 1 + l % 5)), (Str.ofString "left", .int l)], some (Str.ofString "places", ps.map .int)⟩) (St1.assign (d := .int (a + 1 + l % 5)) (by walk_at "ev") (by walk_at "sto") (put_so (by walk_at "subx") (by decide))) ?_
    refine St.cons (σ' := ⟨[(Str.ofString "at", .int (a + 1 + l % 5)), (Str.ofString "left", .int (l / 5))], some (Str.ofString "places", ps.map .int)⟩) (St1.assign (d := .int (l / 5)) (by walk_at "ev") (by walk_at "sto") (put_so (by walk_at "subx") (by decide))) ?_
    refine St.cons (St1.append rfl (.inl (by walk_at "ev")) rfl (by rw [List.length_map]; omega)) ?_
    dsimp only [plStep]
    rw [List.map_append]
    exact St.nil
  · refine St.ret (St1.ret ?_)
    rw [← h3]
    exact Ev.name List.mem_cons_self

/-! _law_sets -/
def setStep (t : List (List Int)) (p : Int) : List (List Int) := [0] :: (upto 1 5).map fun s => t.getD s.toNat [] ++ (t.getD (s - 1).toNat []).map fun x => x + 2 ^ p.toNat
def setsOf (ps : List Int) : List (List Int) := ps.foldl setStep [[0], [], [], [], []]
def sLen (k : Nat) (t : List (List Int)) : Prop := t.length = 5 ∧ ∀ l ∈ t, l.length ≤ 2 ^ k
theorem getD_le {t : List (List Int)} {k i : Nat} (h : ∀ l ∈ t, l.length ≤ 2 ^ k) : (t.getD i []).length ≤ 2 ^ k := by
  by_cases q : i < t.length
  · rw [List.getD_eq_getElem?_getD, List.getElem?_eq_getElem q]; exact h _ (List.getElem_mem q)
  · rw [List.getD_eq_getElem?_getD, List.getElem?_eq_none (by omega)]; exact Nat.zero_le _
theorem sLen_step {k : Nat} {t : List (List Int)} (p : Int) (h : sLen k t) : sLen (k + 1) (setStep t p) := by
  refine ⟨rfl, ?_⟩
  intro l hl
  unfold setStep at hl
  rcases List.mem_cons.mp hl with rfl | hl
  · simp; exact Nat.one_le_two_pow
  · obtain ⟨s, hs, rfl⟩ := List.mem_map.mp hl
    rw [List.length_append, List.length_map, Nat.pow_succ]
    have := getD_le (i := s.toNat) h.2
    have := getD_le (i := (s - 1).toNat) h.2
    omega
theorem getD_some {t : List (List Int)} {i : Int} (h : i.toNat < t.length) : (t.map dInts)[i.toNat]? = some (dInts (t.getD i.toNat [])) := by
  rw [List.getElem?_map, List.getElem?_eq_getElem h, List.getD_eq_getElem?_getD, List.getElem?_eq_getElem h]; rfl

theorem se_fn (h : Has c rSE) (ps : List Int) (hp : ∀ p ∈ ps, 0 ≤ p ∧ p ≤ 1000) (hl : ps.length ≤ 7) : Fn c (n + 1) (Str.ofString "_law_sets") [dInts ps] (.lst ((setsOf ps).map dInts)) := by
  refine Fn.of (d := rSE) (ps := [Str.ofString "places"]) h rSE_sc (by walk_at "b1") rfl (by decide) (by walk_at "stos") ?_ rfl rfl
  refine St.cons (σ' := ⟨[(Str.ofString "table", .lst ([[0], [], [], [], []].map dInts)), (Str.ofString "places", dInts ps)], none⟩)
    (St1.assign (d := .lst ([[0], [], [], [], []].map dInts)) ?_ (by walk_at "sto") (put_s (by walk_at "subx"))) ?_
  · exact Ev.cast (d := .lst [.lst [.int 0], .lst [], .lst [], .lst [], .lst []]) (Ev.list (.cons (Ev.list (.cons Ev.cint .nil)) (.cons (Ev.list .nil) (.cons (Ev.list .nil) (.cons (Ev.list .nil) (.cons (Ev.list .nil) .nil)))))) rfl
  refine St.cons (St1.for_ (Ev.name (d := dInts ps) (by walk_at "mem")) (Items.lst (ps.map .int))
    (ForR.ofN (α := List (List Int)) (fun t => ⟨[(Str.ofString "table", .lst (t.map dInts)), (Str.ofString "places", dInts ps)], none⟩) .int setStep sLen ps [[0], [], [], [], []] ⟨rfl, by decide⟩ ?_)) ?_
  · intro k t p hk hx
    have hk7 : k < 7 := by
      by_cases q : k < 7
      · exact q
      · rw [List.getElem?_eq_none (by omega)] at hx; cases hx
    have hb : ∀ i, (t.getD i []).length ≤ 64 := fun i => Nat.le_trans (getD_le hk.2) (Nat.le_trans (Nat.pow_le_pow_right (by decide) (show k ≤ 6 by omega)) (by decide))
    have hpp := hp p (List.mem_of_getElem? hx)
    refine ⟨sLen_step p hk, _, AsgR.name (by walk_at "sto") (σ' := ⟨[(Str.ofString "place", .int p), (Str.ofString "table", .lst (t.map dInts)), (Str.ofString "places", dInts ps)], none⟩) (put_s (by walk_at "subx")), ?_⟩
    refine St.cons (St1.assign (d := .lst ((setStep t p).map dInts)) ?_ (by walk_at "sto") (put_s (by walk_at "subx"))) St.nil
    have e0 : (setStep t p).map dInts = [.lst [.int 0]] ++ (upto 1 5).map fun s => dInts (t.getD s.toNat [] ++ (t.getD (s - 1).toNat []).map fun x => x + 2 ^ p.toNat) := by
      simp only [setStep, List.map_cons, List.map_map]; rfl
    rw [e0]
    refine Ev.bin (d1 := .lst [.lst [.int 0]]) (d2 := .lst ((upto 1 5).map fun s => dInts (t.getD s.toNat [] ++ (t.getD (s - 1).toNat []).map fun x => x + 2 ^ p.toNat))) ?_ ?_ (BinR.addL ?_)
    · exact Ev.list (.cons (Ev.list (.cons Ev.cint .nil)) .nil)
    · refine Ev.comp (βρ := [(Str.ofString "place", .int p), (Str.ofString "table", .lst (t.map dInts))]) ⟨rfl, rfl, rfl, by decide⟩ ?_ (Ev.range2 (by walk_at "evs")) (Items.up (by decide) (by decide) (by decide) (by decide)) (Lp.map (upto 1 5) .int _ ?_ ?_ ?_) ?_
      · walk_at "fr"
      · walk_at "sto"
      · rfl
      · intro s hs
        have hs' := mem_upto hs
        have l1 := hb s.toNat
        have l2 := hb (s - 1).toNat
        have e1 : dInts (t.getD s.toNat [] ++ (t.getD (s - 1).toNat []).map fun x => x + 2 ^ p.toNat) = .lst ((t.getD s.toNat []).map .int ++ ((t.getD (s - 1).toNat []).map fun x => x + 2 ^ p.toNat).map .int) := by simp only [dInts, List.map_append]
        rw [e1]
        refine Ev.bin (d1 := dInts (t.getD s.toNat [])) (d2 := .lst (((t.getD (s - 1).toNat []).map fun x => x + 2 ^ p.toNat).map .int)) ?_ ?_ (BinR.addL ?_)
        · exact Ev.item (by walk_at "ev") (by walk_at "ev") (ItemR.lst (by omega) (getD_some (by have := hk.1; omega)) (by rw [List.length_map, hk.1]; decide))
        · refine Ev.comp (d := dInts (t.getD (s - 1).toNat [])) (βρ := [(Str.ofString "place", .int p)]) ⟨rfl, rfl, rfl, by decide⟩ ?_ ?_ (Items.lst _) (Lp.mapI (t.getD (s - 1).toNat []) .int (fun x => x + 2 ^ p.toNat) ?_ ?_ ?_) ?_
          · walk_at "fr"
          · exact Ev.item (by walk_at "ev") (by walk_at "ev") (ItemR.lst (by omega) (getD_some (by have := hk.1; omega)) (by rw [List.length_map, hk.1]; decide))
          · walk_at "sto"
          · rfl
          · intro x _
            walk_at "ev"
          · simp only [List.length_map]; omega
        · simp only [List.length_map]; omega
      · simp only [List.length_map]; decide
    · simp only [List.length_map]; decide
  · exact St.ret (St1.ret (Ev.name List.mem_cons_self))

/-! _law_ways -/
def wRow (r : List Int) : List Int := 1 :: (upto 1 5).map fun k => r.getD (k - 1).toNat 0 + r.getD k.toNat 0
def wStep (w : List (List Int)) (_ : Int) : List (List Int) := w ++ [wRow (w.getLastD [])]
def waysL : List (List Int) := (upto 0 6).foldl wStep [[1, 0, 0, 0, 0]]
theorem getI_some {r : List Int} {i : Int} (h : i.toNat < r.length) : (r.map D.int)[i.toNat]? = some (.int (r.getD i.toNat 0)) := by
  rw [List.getElem?_map, List.getElem?_eq_getElem h, List.getD_eq_getElem?_getD, List.getElem?_eq_getElem h]; rfl
theorem getLast_some {w : List (List Int)} (h : w ≠ []) : (w.map dInts).getLast? = some (dInts (w.getLastD [])) := by
  rw [List.getLast?_map, List.getLastD_eq_getLast?, List.getLast?_eq_some_getLast h]; rfl

theorem wy_fn (h : Has c rWY) : Fn c (n + 1) (Str.ofString "_law_ways") [] (.lst (waysL.map dInts)) := by
  refine Fn.of (d := rWY) (ps := []) h rWY_sc (by walk_at "b0") rfl (by decide) (by intro p hp; cases hp) ?_ rfl rfl
  refine St.cons (σ' := ⟨[], some (Str.ofString "ways", [[1, 0, 0, 0, 0]].map dInts)⟩) (St1.assignNew (ds := [[1, 0, 0, 0, 0]].map dInts) ?_ (by walk_at "sto") (by intro p hp; cases hp) rfl) ?_
  · exact EvNew.list (ds := [.lst [.int 1, .int 0, .int 0, .int 0, .int 0]]) (.cons (Ev.list (.cons Ev.cint (.cons Ev.cint (.cons Ev.cint (.cons Ev.cint (.cons Ev.cint .nil)))))) .nil)
  refine St.cons (St1.for_ (Ev.range1 (by walk_at "evs")) (Items.up (by decide) (by decide) (by decide) (by decide))
    (ForR.ofN (α := List (List Int)) (fun w => ⟨[], some (Str.ofString "ways", w.map dInts)⟩) .int wStep (fun k w => w.length = k + 1 ∧ (w.getLastD []).length = 5) (upto 0 6) [[1, 0, 0, 0, 0]] ⟨rfl, rfl⟩ ?_)) ?_
  · intro k w x hk hx
    have hk6 : k < 6 := by
      by_cases q : k < 6
      · exact q
      · have : (upto 0 6)[k]? = none := List.getElem?_eq_none (by show 6 ≤ k; omega)
        rw [this] at hx; cases hx
    have hw : w ≠ [] := by rintro rfl; simp at hk
    refine ⟨⟨by simp [wStep, hk.1], by simp only [wStep, List.getLastD_concat]; rfl⟩, ⟨[], some (Str.ofString "ways", w.map dInts)⟩, AsgR.name (by walk_at "sto") (put_so (by walk_at "subx") (by decide)), ?_⟩
    refine St.cons (St1.appendNew (es := [.int 1] ++ ((upto 1 5).map fun k => (w.getLastD []).getD (k - 1).toNat 0 + (w.getLastD []).getD k.toNat 0).map .int) rfl ?_ ?_ rfl ?_) ?_
    · refine EvNew.addL (a := [.int 1]) ?_ ?_ (by simp only [List.length_map]; decide)
      · exact Ev.list (.cons Ev.cint .nil)
      · refine Ev.comp (βρ := [(Str.ofString "ways", .lst (w.map dInts))]) ⟨rfl, rfl, rfl, by decide⟩ ?_ (Ev.range2 (by walk_at "evs")) (Items.up (by decide) (by decide) (by decide) (by decide)) (Lp.mapI (upto 1 5) .int _ ?_ ?_ ?_) ?_
        · walk_at "fr"
        · walk_at "sto"
        · rfl
        · intro i hi
          have hi' := mem_upto hi
          refine Ev.bin (Ev.item (Ev.item (by walk_at "ev") (by walk_at "ev") (ItemR.lstNeg (getLast_some hw))) (by walk_at "ev") (ItemR.lst (by omega) (getI_some (by rw [hk.2]; omega)) (by rw [List.length_map, hk.2]; decide)))
            (Ev.item (Ev.item (by walk_at "ev") (by walk_at "ev") (ItemR.lstNeg (getLast_some hw))) (by walk_at "ev") (ItemR.lst (by omega) (getI_some (by rw [hk.2]; omega)) (by rw [List.length_map, hk.2]; decide))) BinR.add
        · simp only [List.length_map]; decide
    · intro d hd
      rcases List.mem_append.mp hd with hd | hd
      · rw [List.mem_singleton.mp hd]; rfl
      · obtain ⟨i, _, rfl⟩ := List.mem_map.mp hd; rfl
    · rw [List.length_map]; omega
    · have e : (wStep w x).map dInts = w.map dInts ++ [.lst ([.int 1] ++ ((upto 1 5).map fun k => (w.getLastD []).getD (k - 1).toNat 0 + (w.getLastD []).getD k.toNat 0).map .int)] := by
        simp only [wStep, List.map_append, List.map_cons, List.map_nil]; rfl
      rw [e]
      exact St.nil
  · exact St.ret (St1.ret (Ev.name List.mem_cons_self))
end
end Mine

/-! part L3 -/
namespace Mine
local macro_rules | `(tactic| walk_at "mem1") => `(tactic| with_reducible first | exact List.mem_cons_self | (refine List.mem_cons_of_mem _ ?_; walk_at "mem1"))
local macro_rules | `(tactic| walk_at "mem") => `(tactic| ((try dsimp only [Sg.all, List.zip_cons_cons, List.zip_nil_left, List.zip_nil_right]); walk_at "mem1"))
local macro_rules | `(tactic| walk_at "subx1") => `(tactic| first | with_reducible exact SubX.nil | ((with_reducible refine SubX.hd ?_); walk_at "subx1") | (refine SubX.keep (by walk_at "mem1") (by decide) ?_; walk_at "subx1"))
local macro_rules | `(tactic| walk_at "subx") => `(tactic| ((try dsimp only [Sg.all, List.zip_cons_cons, List.zip_nil_left, List.zip_nil_right]); walk_at "subx1"))
local macro_rules | `(tactic| walk_at "side") => `(tactic| first | assumption | decide | omega)
local macro_rules | `(tactic| walk_at "fr") => `(tactic| first | with_reducible exact FrR.nil | (refine FrR.skip rfl ?_; walk_at "fr") | (refine FrR.take (by walk_at "mem") rfl ?_; walk_at "fr"))
local macro_rules | `(tactic| walk_at "bin") => `(tactic| first
  | with_reducible exact BinR.add | with_reducible exact BinR.sub | with_reducible exact BinR.xor
  | ((with_reducible show BinR _ _ Operator.Mod _ _ _); exact BinR.mod (by walk_at "side"))
  | ((with_reducible show BinR _ _ Operator.Pow _ _ _); exact BinR.pow (by walk_at "side") (by walk_at "side") (by decide))
  | ((with_reducible show BinR _ _ Operator.FloorDiv _ _ _); exact BinR.fdiv (by walk_at "side") (.inl (by walk_at "side")))
  | ((with_reducible show BinR _ _ Operator.Mult (.int _) _ _); exact BinR.mul (by walk_at "side") (by walk_at "side"))
  | ((with_reducible show BinR _ _ Operator.Add (.bytes _) _ _); exact BinR.addB (by walk_at "side"))
  | ((with_reducible show BinR _ _ Operator.Add (.lst _) _ _); exact BinR.addL (by walk_at "side")))
local macro_rules | `(tactic| walk_at "cmp") => `(tactic| with_reducible first
  | exact CmpR.eq | exact CmpR.ne | exact CmpR.lt | exact CmpR.gt | exact CmpR.le | exact CmpR.ge | exact CmpR.eqB | exact CmpR.neB | exact CmpR.isBool | exact CmpR.isNotBool | exact CmpR.isNone)
local macro_rules | `(tactic| walk_at "evs") => `(tactic| first | with_reducible exact EvAll.nil | exact EvAll.cons (by walk_at "ev") (by walk_at "evs"))
local macro_rules | `(tactic| walk_at "part") => `(tactic| first | with_reducible exact PartR.none | exact PartR.some (by walk_at "ev"))
local macro_rules | `(tactic| walk_at "ev") => `(tactic| first
  | with_reducible exact Ev.cint | with_reducible exact Ev.cnone | with_reducible exact Ev.cbool | with_reducible exact Ev.cbytes
  | ((with_reducible show Ev _ _ _ _ (Expr.Name _ _) _); exact Ev.name (by walk_at "mem"))
  | ((with_reducible show Ev _ _ _ _ (Expr.BinOp _ _ _ _) _); exact Ev.bin (by walk_at "ev") (by walk_at "ev") (by walk_at "bin"))
  | ((with_reducible show Ev _ _ _ _ (Expr.Compare _ _ _ _) _); exact Ev.cmp (by walk_at "ev") (by walk_at "ev") (by walk_at "cmp"))
  | ((with_reducible show Ev _ _ _ _ (Expr.UnaryOp _ _ _) _); exact Ev.un (by walk_at "ev") UnR.neg)
  | ((with_reducible show Ev _ _ _ _ (Expr.Call (Expr.Name (Str.ofString "range") _) [_] [] _) _); exact Ev.range1 (by walk_at "evs"))
  | ((with_reducible show Ev _ _ _ _ (Expr.Call (Expr.Name (Str.ofString "range") _) [_, _] [] _) _); exact Ev.range2 (by walk_at "evs"))
  | ((with_reducible show Ev _ _ _ _ (Expr.Call (Expr.Name (Str.ofString "range") _) [_, _, _] [] _) _); exact Ev.range3 (by walk_at "evs"))
  | ((with_reducible show Ev _ _ _ _ (Expr.Call (Expr.Name (Str.ofString "sum") _) _ [] _) _); exact Ev.sum (by walk_at "evs")))
local macro_rules | `(tactic| walk_at "tr") => `(tactic| first
  | ((with_reducible show Tr _ _ _ _ (Expr.Compare _ _ _ _) _); exact Tr.cmp (by walk_at "ev") (by walk_at "ev") (by walk_at "cmp")))
local macro_rules | `(tactic| walk_at "sto") => `(tactic| first | exact .inl rfl | exact .inr rfl)
local macro_rules | `(tactic| walk_at "stos") => `(tactic| exact sto_all rfl)
local macro_rules | `(tactic| walk_at "b0") => `(tactic| (intro pm cd doc vs hv; match vs, hv with | [], _ => rfl))
local macro_rules | `(tactic| walk_at "b1") => `(tactic| (intro pm cd doc vs hv; match vs, hv with | [v], _ => rfl))
local macro_rules | `(tactic| walk_at "b2") => `(tactic| (intro pm cd doc vs hv; match vs, hv with | [v, w], _ => rfl))
local macro_rules | `(tactic| walk_at "b3") => `(tactic| (intro pm cd doc vs hv; match vs, hv with | [v, w, x], _ => rfl))
local macro_rules | `(tactic| walk_at "b4") => `(tactic| (intro pm cd doc vs hv; match vs, hv with | [v, w, x, y], _ => rfl))
local macro_rules | `(tactic| walk_at "b5") => `(tactic| (intro pm cd doc vs hv; match vs, hv with | [v, w, x, y, z], _ => rfl))
local macro_rules | `(tactic| walk_at "sub1") => `(tactic| first | with_reducible exact Subl.nil | (refine Subl.cons (by walk_at "mem1") ?_; walk_at "sub1"))
local macro_rules | `(tactic| walk_at "sub") => `(tactic| (refine Subl.get ?_; (try dsimp only [Sg.all]); walk_at "sub1"))
local macro_rules | `(tactic| walk_at "subn1") => `(tactic| first | with_reducible exact SubN.nil | (refine SubN.keep (by walk_at "mem1") (by decide) ?_; walk_at "subn1"))
local macro_rules | `(tactic| walk_at "subn") => `(tactic| (refine SubN.get ?_; (try dsimp only [Sg.all, List.zip_cons_cons, List.zip_nil_left, List.zip_nil_right]); walk_at "subn1"))
def rON : DefRec := recOfSt (st1 9)
def rRK : DefRec := recOfSt (st1 10)
section
variable {c : Cx} {n : Nat}
theorem rON_sc : ScOk rON.scope := ⟨rfl, rfl, rfl, by decide⟩
theorem rRK_sc : ScOk rRK.scope := ⟨rfl, rfl, rfl, by decide⟩

structure Inc (P : List Int) : Prop where
  up : ∀ i j, i < j → j < P.length → P.getD i 0 < P.getD j 0
  low : ∀ i, i < P.length → 0 ≤ P.getD i 0
  high : ∀ i, i < P.length → P.getD i 0 ≤ 40
  len : P.length ≤ 7
def numOf (P : List Int) (bs : List Nat) : Int := (bs.map fun b => (2 : Int) ^ (P.getD b 0).toNat).sum
theorem numOf_nil (P : List Int) : numOf P [] = 0 := rfl
theorem numOf_cons (P : List Int) (b : Nat) (bs : List Nat) : numOf P (b :: bs) = 2 ^ (P.getD b 0).toNat + numOf P bs := by simp [numOf]
theorem two_pow_pos (k : Nat) : (0 : Int) < 2 ^ k := by exact_mod_cast Nat.two_pow_pos k
theorem two_pow_le {a b : Nat} (h : a ≤ b) : (2 : Int) ^ a ≤ 2 ^ b := by exact_mod_cast Nat.pow_le_pow_right (by decide) h
theorem two_pow_succ (a : Nat) : (2 : Int) ^ (a + 1) = 2 ^ a + 2 ^ a := by rw [Int.pow_succ]; omega
theorem numOf_nonneg (P : List Int) (bs : List Nat) : 0 ≤ numOf P bs := by
  induction bs with
  | nil => exact Int.le_refl _
  | cons b bs ih => rw [numOf_cons]; have := two_pow_pos (P.getD b 0).toNat; omega
theorem numOf_lt {P : List Int} (hP : Inc P) : ∀ {bs : List Nat} {b : Nat}, bs.Pairwise (· > ·) → (∀ x ∈ bs, x < b) → b < P.length → numOf P bs < 2 ^ (P.getD b 0).toNat := by
  intro bs
  induction bs with
  | nil => intro b _ _ _; exact two_pow_pos _
  | cons x xs ih =>
    intro b hd hb hl
    rw [List.pairwise_cons] at hd
    have hx := hb x List.mem_cons_self
    have h1 := ih hd.2 (fun y hy => hd.1 y hy) (by omega)
    rw [numOf_cons]
    have h2 := hP.up x b hx hl
    have h3 := hP.low x (by omega)
    have h4 := two_pow_le (show (P.getD x 0).toNat + 1 ≤ (P.getD b 0).toNat by omega)
    have h5 := two_pow_succ (P.getD x 0).toNat
    omega
theorem hb_eq {N : Int} {e : Nat} (h1 : (2 : Int) ^ e ≤ N) (h2 : N < 2 ^ (e + 1)) : ((Builtin.Int.intBits N : Nat) : Int) - 1 = e := by
  have hp := two_pow_pos e
  unfold Builtin.Int.intBits
  have : (N == 0) = false := by simp; omega
  rw [this]
  have e1 : ((2 ^ e : Nat) : Int) = 2 ^ e := by norm_cast
  have e2 : ((2 ^ (e + 1) : Nat) : Int) = 2 ^ (e + 1) := by norm_cast
  have : N.natAbs.log2 = e := (Nat.log2_eq_iff (by omega)).mpr ⟨by omega, by omega⟩
  simp [this]
theorem mem_getD {P : List Int} {i : Nat} (h : i < P.length) : P.getD i 0 ∈ P := by
  rw [List.getD_eq_getElem?_getD, List.getElem?_eq_getElem h]; exact List.getElem_mem h
theorem idx_eq {P : List Int} (hP : Inc P) {b : Nat} (h : b < P.length) : P.idxOf (P.getD b 0) = b := by
  have hm := mem_getD h
  have h1 := List.idxOf_lt_length_of_mem hm
  have h2 : P.getD (P.idxOf (P.getD b 0)) 0 = P.getD b 0 := by
    rw [List.getD_eq_getElem?_getD, List.getElem?_eq_getElem h1, List.getElem_idxOf h1]; rfl
  rcases Nat.lt_trichotomy (P.idxOf (P.getD b 0)) b with q | q | q
  · have := hP.up _ _ q h; omega
  · exact q
  · have := hP.up _ _ q h1; omega
theorem any_mem {P : List Int} {x : Int} (h : x ∈ P) : ((P.map D.int).any (·.eqF (.int x))) = true := by
  rw [List.any_map, List.any_eq_true]
  exact ⟨x, h, by simp [D.eqF]⟩
theorem comp_ints {P : List Int} {x : Int} : ∀ d ∈ P.map D.int, d.comparable (.int x) = true := by
  intro d hd
  obtain ⟨i, _, rfl⟩ := List.mem_map.mp hd
  rfl

theorem on_fn (h : Has c rON) (hh : Has c rHB) (P : List Int) (hP : Inc P) (bs : List Nat) (hd : bs.Pairwise (· > ·)) (hb : ∀ b ∈ bs, b < P.length) (hl : bs.length ≤ 7) :
    Fn c (n + 2) (Str.ofString "_law_ones") [.int (numOf P bs), dInts P, .int (bs.length : Nat)] (dInts (bs.map fun b : Nat => (b : Int))) := by
  refine Fn.of (d := rON) (ps := [Str.ofString "number", Str.ofString "places", Str.ofString "size"]) h rON_sc (by walk_at "b3") rfl (by decide) (by walk_at "stos") ?_ rfl rfl
  refine St.cons (σ' := ⟨[(Str.ofString "number", .int (numOf P bs)), (Str.ofString "places", dInts P), (Str.ofString "size", .int (bs.length : Nat))], some (Str.ofString "told", [])⟩) (St1.assignNew (ds := []) (EvNew.list .nil) (by walk_at "sto") (by walk_at "subn") rfl) ?_
  refine St.cons (St1.for_ (Ev.range1 (by walk_at "evs")) (Items.up (by decide) (by decide) (by omega) (by omega))
    (ForR.ofN (α := Nat) (fun k => ⟨[(Str.ofString "number", .int (numOf P (bs.drop k))), (Str.ofString "places", dInts P), (Str.ofString "size", .int (bs.length : Nat))], some (Str.ofString "told", ((bs.take k).map fun b : Nat => (b : Int)).map .int)⟩) .int (fun k _ => k + 1) (fun k a => a = k) (upto 0 (bs.length : Nat)) 0 rfl ?_)) ?_
  · intro k k2 x hj hx
    have hj' : k = k2 := Eq.symm hj
    clear hj
    subst hj'
    obtain ⟨_, hk⟩ := upto_get hx
    have hk' : k < bs.length := by omega
    have hdr : bs.drop k = bs[k] :: bs.drop (k + 1) := List.drop_eq_getElem_cons hk'
    have hdd : (bs.drop k).Pairwise (· > ·) := hd.drop
    have hbl : bs[k] < P.length := hb _ (List.getElem_mem hk')
    rw [hdr, List.pairwise_cons] at hdd
    have u1 := numOf_lt hP hdd.2 (fun y hy => hdd.1 y hy) hbl
    have u0 := numOf_nonneg P (bs.drop (k + 1))
    have eN : numOf P (bs.drop k) = 2 ^ (P.getD bs[k] 0).toNat + numOf P (bs.drop (k + 1)) := by rw [hdr, numOf_cons]
    have hlo := hP.low _ hbl
    have hhi := hP.high _ hbl
    have htop : ((Builtin.Int.intBits (numOf P (bs.drop k)) : Nat) : Int) - 1 = P.getD bs[k] 0 := by
      rw [hb_eq (e := (P.getD bs[k] 0).toNat) (by rw [eN]; omega) (by rw [eN, two_pow_succ]; omega)]; omega
    refine ⟨rfl, _, AsgR.name (by walk_at "sto") (σ' := ⟨[(Str.ofString "number", .int (numOf P (bs.drop k))), (Str.ofString "places", dInts P), (Str.ofString "size", .int (bs.length : Nat))], some (Str.ofString "told", ((bs.take k).map fun b : Nat => (b : Int)).map .int)⟩) (put_so (by walk_at "subx") (by decide)), ?_⟩
    refine St.cons (σ' := ⟨[(Str.ofString "top", .int (P.getD bs[k] 0)), (Str.ofString "number", .int (numOf P (bs.drop k))), (Str.ofString "places", dInts P), (Str.ofString "size", .int (bs.length : Nat))], some (Str.ofString "told", ((bs.take k).map fun b : Nat => (b : Int)).map .int)⟩)
      (St1.assign (d := .int (P.getD bs[k] 0)) ?_ (by walk_at "sto") (put_so (by walk_at "subx") (by decide))) ?_
    · rw [← htop]
      exact Ev.callF rfl (by walk_at "evs") (hb_fn hh _)
    refine St.cons (St1.ite (b := false) (Tr.cast (Tr.cmp (by walk_at "ev") (by walk_at "ev") (CmpR.notInL comp_ints)) (by rw [any_mem (mem_getD hbl)]; rfl)) (fun e => by cases e) (fun _ => St.nil)) ?_
    refine St.cons (St1.append (d := .int (bs[k] : Nat)) rfl (.inl ?_) rfl (by rw [List.length_map, List.length_map, List.length_take]; omega)) ?_
    · refine Ev.cast (Ev.index (ns := P) (by walk_at "ev") (by walk_at "ev") (mem_getD hbl) (by have := hP.len; omega)) (by rw [idx_eq hP hbl])
    refine St.cons (σ' := ⟨[(Str.ofString "number", .int (numOf P (bs.drop (k + 1)))), (Str.ofString "places", dInts P), (Str.ofString "size", .int (bs.length : Nat))], some (Str.ofString "told", ((bs.take (k + 1)).map fun b : Nat => (b : Int)).map .int)⟩)
      (St1.assign (d := .int (numOf P (bs.drop (k + 1)))) (Ev.cast (by walk_at "ev") (by rw [eN]; congr 1; omega)) (by walk_at "sto") ?_) St.nil
    have et : ((bs.take (k + 1)).map fun b : Nat => (b : Int)).map D.int = ((bs.take k).map fun b : Nat => (b : Int)).map D.int ++ [.int (bs[k] : Nat)] := by
      rw [List.take_add_one, List.getElem?_eq_getElem hk']; simp only [List.map_append, List.map_cons, List.map_nil, Option.toList]
    rw [et]
    exact put_so (by walk_at "subx") (by decide)
  · rw [foldl_count, upto_length, show 0 + (((bs.length : Nat) : Int) - 0).toNat = bs.length by omega, List.drop_length, List.take_length]
    refine St.ret (St1.ret (Ev.ite (b := true) (Tr.cast (by walk_at "tr") (by rw [numOf_nil]; rfl)) (fun _ => Ev.name List.mem_cons_self) (fun q => by cases q)))

/-! _law_ranks -/
def rankOf (s : Nat) (bs : List Nat) : Int := ((upto 1 (s + 1)).map fun i => (waysL.getD (bs.getD ((s : Int) - i).toNat 0) []).getD i.toNat 0).sum
theorem rk_fn (h : Has c rRK) (ho : Has c rON) (hh : Has c rHB) (P : List Int) (hP : Inc P) (h7 : P.length = 7) (s : Nat) (hs : s ≤ 4) (bls : List (List Nat)) (hbl : ∀ bs ∈ bls, bs.Pairwise (· > ·) ∧ (∀ b ∈ bs, b < P.length) ∧ bs.length = s)
    (hr : ∀ k, (hk : k < bls.length) → rankOf s bls[k] = k) (hz : bls.length ≤ 100) :
    Fn c (n + 3) (Str.ofString "_law_ranks") [dInts (bls.map (numOf P)), dInts P, .int (s : Nat), .lst (waysL.map dInts)] (.lst (bls.map fun bs => dInts (bs.map fun b : Nat => (b : Int)))) := by
  refine Fn.of (d := rRK) (ps := [Str.ofString "order", Str.ofString "places", Str.ofString "size", Str.ofString "ways"]) h rRK_sc (by walk_at "b4") rfl (by decide) (by walk_at "stos") ?_ rfl rfl
  refine St.cons (σ' := ⟨[(Str.ofString "order", dInts (bls.map (numOf P))), (Str.ofString "places", dInts P), (Str.ofString "size", .int (s : Nat)), (Str.ofString "ways", .lst (waysL.map dInts))], some (Str.ofString "ones", [])⟩) (St1.assignNew (ds := []) (EvNew.list .nil) (by walk_at "sto") (by walk_at "subn") rfl) ?_
  refine St.cons (St1.for_ (Ev.range1 (.cons (Ev.lenI (ns := bls.map (numOf P)) (by walk_at "evs") (by rw [List.length_map]; omega)) .nil)) (Items.up (by decide) (by decide) (by rw [List.length_map]; omega) (by rw [List.length_map]; omega))
    (ForR.ofN (α := Nat) (fun k => ⟨[(Str.ofString "order", dInts (bls.map (numOf P))), (Str.ofString "places", dInts P), (Str.ofString "size", .int (s : Nat)), (Str.ofString "ways", .lst (waysL.map dInts))], some (Str.ofString "ones", ((bls.take k).map fun bs => dInts (bs.map fun b : Nat => (b : Int))))⟩) .int (fun k _ => k + 1) (fun k a => a = k) (upto 0 ((bls.map (numOf P)).length : Nat)) 0 rfl ?_)) ?_
  · intro k k2 x hj hx
    have hj' : k = k2 := Eq.symm hj
    clear hj
    subst hj'
    obtain ⟨hxk, hk⟩ := upto_get hx
    rw [List.length_map] at hk
    have hk' : k < bls.length := by omega
    obtain ⟨q1, q2, q3⟩ := hbl _ (List.getElem_mem hk')
    have hrk := hr k hk'
    generalize hB : bls[k] = B at q1 q2 q3 hrk
    have hxk : x = (k : Nat) := by omega
    subst hxk
    refine ⟨rfl, _, AsgR.name (by walk_at "sto") (σ' := ⟨[(Str.ofString "k", .int (k : Nat)), (Str.ofString "order", dInts (bls.map (numOf P))), (Str.ofString "places", dInts P), (Str.ofString "size", .int (s : Nat)), (Str.ofString "ways", .lst (waysL.map dInts))], some (Str.ofString "ones", ((bls.take k).map fun bs => dInts (bs.map fun b : Nat => (b : Int))))⟩) (put_so (by walk_at "subx") (by decide)), ?_⟩
    refine St.cons (σ' := ⟨[(Str.ofString "told", dInts (B.map fun b : Nat => (b : Int))), (Str.ofString "k", .int (k : Nat)), (Str.ofString "order", dInts (bls.map (numOf P))), (Str.ofString "places", dInts P), (Str.ofString "size", .int (s : Nat)), (Str.ofString "ways", .lst (waysL.map dInts))], some (Str.ofString "ones", ((bls.take k).map fun bs => dInts (bs.map fun b : Nat => (b : Int))))⟩)
      (St1.assign (d := dInts (B.map fun b : Nat => (b : Int))) ?_ (by walk_at "sto") (put_so (by walk_at "subx") (by decide))) ?_
    · refine Ev.callF rfl (.cons (d := .int (numOf P B)) (Ev.item (by walk_at "ev") (by walk_at "ev") (ItemR.lst (by omega) ?_ (by simp only [List.length_map]; omega))) (by walk_at "evs")) (q3 ▸ on_fn ho hh P hP B q1 q2 (by omega))
      rw [Int.toNat_natCast, List.getElem?_map, List.getElem?_map, List.getElem?_eq_getElem hk', hB]; rfl
    refine St.cons (St1.ite (b := false) (Tr.cast (Tr.boolop (TrAll.or_cons (Tr.cmp (by walk_at "ev") (by walk_at "ev") CmpR.isNone) (fun _ => TrAll.or_cons (Tr.cmp (d1 := .int (rankOf s B)) ?_ (by walk_at "ev") CmpR.ne) (fun _ => TrAll.or_nil)))) ?_) (fun e => by cases e) (fun _ => St.nil)) ?_
    · refine Ev.sum (.cons ?_ .nil)
      refine Ev.comp (βρ := [(Str.ofString "size", .int (s : Nat)), (Str.ofString "told", dInts (B.map fun b : Nat => (b : Int))), (Str.ofString "ways", .lst (waysL.map dInts))]) ⟨rfl, rfl, rfl, by decide⟩ ?_ (Ev.range2 (by walk_at "evs")) (Items.up (by decide) (by decide) (by omega) (by omega)) (Lp.mapI (upto 1 (s + 1)) .int _ ?_ ?_ ?_) ?_
      · walk_at "fr"
      · walk_at "sto"
      · rfl
      · intro i hi
        have hi' := mem_upto hi
        have hlt : ((s : Int) - i).toNat < B.length := by omega
        have hB7 : B.getD ((s : Int) - i).toNat 0 < 7 := by
          rw [List.getD_eq_getElem?_getD, List.getElem?_eq_getElem hlt]
          have := q2 _ (List.getElem_mem hlt)
          simpa [h7] using this
        have hrow : ∀ j < 7, (waysL.getD j []).length = 5 := by decide
        refine Ev.item (d1 := dInts (waysL.getD (B.getD ((s : Int) - i).toNat 0) [])) (Ev.item (d2 := .int ((B.getD ((s : Int) - i).toNat 0 : Nat) : Int)) (by walk_at "ev") (Ev.item (by walk_at "ev") (by walk_at "ev") (ItemR.lst (by omega) ?_ (by simp only [List.length_map]; omega))) (ItemR.lst (by omega) ?_ (by decide))) (by walk_at "ev") (ItemR.lst (by omega) (getI_some (by rw [hrow _ hB7]; omega)) (by rw [List.length_map, hrow _ hB7]; decide))
        · rw [List.getElem?_map, List.getElem?_map, List.getElem?_eq_getElem hlt, List.getD_eq_getElem?_getD, List.getElem?_eq_getElem hlt]; rfl
        · rw [getD_some (by rw [Int.toNat_natCast]; exact hB7), Int.toNat_natCast]
      · simp only [List.length_map, upto_length]; omega
    · rw [hrk]; simp [dInts]
    refine St.cons (St1.append (d := dInts (B.map fun b : Nat => (b : Int))) rfl (.inl (by walk_at "ev")) rfl (by rw [List.length_map, List.length_take]; omega)) ?_
    have et : ((bls.take (k + 1)).map fun bs => dInts (bs.map fun b : Nat => (b : Int))) = ((bls.take k).map fun bs => dInts (bs.map fun b : Nat => (b : Int))) ++ [dInts (B.map fun b : Nat => (b : Int))] := by
      rw [List.take_add_one, List.getElem?_eq_getElem hk', hB]; simp
    rw [et]
    exact StG.weak St.nil (by walk_at "sub") (.inr rfl)
  · rw [foldl_count, upto_length, List.length_map, show 0 + (((bls.length : Nat) : Int) - 0).toNat = bls.length by omega, List.take_length]
    exact St.ret (St1.ret (Ev.name List.mem_cons_self))
end
end Mine

/-! part L4 -/
namespace Mine
local macro_rules | `(tactic| walk_at "mem1") => `(tactic| with_reducible first | exact List.mem_cons_self | (refine List.mem_cons_of_mem _ ?_; walk_at "mem1"))
local macro_rules | `(tactic| walk_at "mem") => `(tactic| ((try dsimp only [Sg.all, List.zip_cons_cons, List.zip_nil_left, List.zip_nil_right]); walk_at "mem1"))
local macro_rules | `(tactic| walk_at "subx1") => `(tactic| first | with_reducible exact SubX.nil | ((with_reducible refine SubX.hd ?_); walk_at "subx1") | (refine SubX.keep (by walk_at "mem1") (by decide) ?_; walk_at "subx1"))
local macro_rules | `(tactic| walk_at "subx") => `(tactic| ((try dsimp only [Sg.all, List.zip_cons_cons, List.zip_nil_left, List.zip_nil_right]); walk_at "subx1"))
local macro_rules | `(tactic| walk_at "side") => `(tactic| first | assumption | decide | omega)
local macro_rules | `(tactic| walk_at "fr") => `(tactic| first | with_reducible exact FrR.nil | (refine FrR.skip rfl ?_; walk_at "fr") | (refine FrR.take (by walk_at "mem") rfl ?_; walk_at "fr"))
local macro_rules | `(tactic| walk_at "bin") => `(tactic| first
  | with_reducible exact BinR.add | with_reducible exact BinR.sub | with_reducible exact BinR.xor
  | ((with_reducible show BinR _ _ Operator.Mod _ _ _); exact BinR.mod (by walk_at "side"))
  | ((with_reducible show BinR _ _ Operator.Pow _ _ _); exact BinR.pow (by walk_at "side") (by walk_at "side") (by decide))
  | ((with_reducible show BinR _ _ Operator.FloorDiv _ _ _); exact BinR.fdiv (by walk_at "side") (.inl (by walk_at "side")))
  | ((with_reducible show BinR _ _ Operator.Mult (.int _) _ _); exact BinR.mul (by walk_at "side") (by walk_at "side"))
  | ((with_reducible show BinR _ _ Operator.Add (.bytes _) _ _); exact BinR.addB (by walk_at "side"))
  | ((with_reducible show BinR _ _ Operator.Add (.lst _) _ _); exact BinR.addL (by walk_at "side")))
local macro_rules | `(tactic| walk_at "cmp") => `(tactic| with_reducible first
  | exact CmpR.eq | exact CmpR.ne | exact CmpR.lt | exact CmpR.gt | exact CmpR.le | exact CmpR.ge | exact CmpR.eqB | exact CmpR.neB | exact CmpR.isBool | exact CmpR.isNotBool | exact CmpR.isNone)
local macro_rules | `(tactic| walk_at "evs") => `(tactic| first | with_reducible exact EvAll.nil | exact EvAll.cons (by walk_at "ev") (by walk_at "evs"))
local macro_rules | `(tactic| walk_at "part") => `(tactic| first | with_reducible exact PartR.none | exact PartR.some (by walk_at "ev"))
local macro_rules | `(tactic| walk_at "ev") => `(tactic| first
  | with_reducible exact Ev.cint | with_reducible exact Ev.cnone | with_reducible exact Ev.cbool | with_reducible exact Ev.cbytes
  | ((with_reducible show Ev _ _ _ _ (Expr.Name _ _) _); exact Ev.name (by walk_at "mem"))
  | ((with_reducible show Ev _ _ _ _ (Expr.BinOp _ _ _ _) _); exact Ev.bin (by walk_at "ev") (by walk_at "ev") (by walk_at "bin"))
  | ((with_reducible show Ev _ _ _ _ (Expr.Compare _ _ _ _) _); exact Ev.cmp (by walk_at "ev") (by walk_at "ev") (by walk_at "cmp"))
  | ((with_reducible show Ev _ _ _ _ (Expr.UnaryOp _ _ _) _); exact Ev.un (by walk_at "ev") UnR.neg)
  | ((with_reducible show Ev _ _ _ _ (Expr.Call (Expr.Name (Str.ofString "range") _) [_] [] _) _); exact Ev.range1 (by walk_at "evs"))
  | ((with_reducible show Ev _ _ _ _ (Expr.Call (Expr.Name (Str.ofString "range") _) [_, _] [] _) _); exact Ev.range2 (by walk_at "evs"))
  | ((with_reducible show Ev _ _ _ _ (Expr.Call (Expr.Name (Str.ofString "range") _) [_, _, _] [] _) _); exact Ev.range3 (by walk_at "evs"))
  | ((with_reducible show Ev _ _ _ _ (Expr.Call (Expr.Name (Str.ofString "sum") _) _ [] _) _); exact Ev.sum (by walk_at "evs")))
local macro_rules | `(tactic| walk_at "tr") => `(tactic| first
  | ((with_reducible show Tr _ _ _ _ (Expr.Compare _ _ _ _) _); exact Tr.cmp (by walk_at "ev") (by walk_at "ev") (by walk_at "cmp")))
local macro_rules | `(tactic| walk_at "sto") => `(tactic| first | exact .inl rfl | exact .inr rfl)
local macro_rules | `(tactic| walk_at "stos") => `(tactic| exact sto_all rfl)
local macro_rules | `(tactic| walk_at "b0") => `(tactic| (intro pm cd doc vs hv; match vs, hv with | [], _ => rfl))
local macro_rules | `(tactic| walk_at "b1") => `(tactic| (intro pm cd doc vs hv; match vs, hv with | [v], _ => rfl))
local macro_rules | `(tactic| walk_at "b2") => `(tactic| (intro pm cd doc vs hv; match vs, hv with | [v, w], _ => rfl))
local macro_rules | `(tactic| walk_at "b3") => `(tactic| (intro pm cd doc vs hv; match vs, hv with | [v, w, x], _ => rfl))
local macro_rules | `(tactic| walk_at "b4") => `(tactic| (intro pm cd doc vs hv; match vs, hv with | [v, w, x, y], _ => rfl))
local macro_rules | `(tactic| walk_at "b5") => `(tactic| (intro pm cd doc vs hv; match vs, hv with | [v, w, x, y, z], _ => rfl))
local macro_rules | `(tactic| walk_at "sub1") => `(tactic| first | with_reducible exact Subl.nil | (refine Subl.cons (by walk_at "mem1") ?_; walk_at "sub1"))
local macro_rules | `(tactic| walk_at "sub") => `(tactic| (refine Subl.get ?_; (try dsimp only [Sg.all]); walk_at "sub1"))
local macro_rules | `(tactic| walk_at "subn1") => `(tactic| first | with_reducible exact SubN.nil | (refine SubN.keep (by walk_at "mem1") (by decide) ?_; walk_at "subn1"))
local macro_rules | `(tactic| walk_at "subn") => `(tactic| (refine SubN.get ?_; (try dsimp only [Sg.all, List.zip_cons_cons, List.zip_nil_left, List.zip_nil_right]); walk_at "subn1"))
def rWD : DefRec := recOfSt (st1 11)
def rDR : DefRec := recOfSt (st1 12)
section
variable {c : Cx} {n : Nat}
theorem rWD_sc : ScOk rWD.scope := ⟨rfl, rfl, rfl, by decide⟩
theorem rDR_sc : ScOk rDR.scope := ⟨rfl, rfl, rfl, by decide⟩

theorem mem_downto {a b x : Int} (h : x ∈ downto a b) : b < x ∧ x ≤ a := by
  unfold downto at h
  obtain ⟨i, hi, rfl⟩ := List.mem_map.mp h
  have := List.mem_range.mp hi
  omega
theorem p16_pos (k : Nat) : (0 : Int) < 16 ^ k := by exact_mod_cast Nat.pow_pos (by decide)
theorem p16_log (k : Nat) (h : k ≤ 100) : ((16 : Int) ^ k).natAbs.log2 < 9000 := by
  have e : ((16 : Int) ^ k).natAbs = 2 ^ (4 * k) := by
    rw [Int.natAbs_pow, Nat.pow_mul]; rfl
  rw [e, Nat.log2_two_pow]; omega
def wordL (w : Nat) (x : Int) : List Int := 66 :: (downto ((w : Int) - 1) (-1)).map fun k => 65 + x / 16 ^ k.toNat % 16
def wordI (w : Nat) (x : Int) : List UInt8 := (wordL w x).map fun y => y.toNat.toUInt8
theorem wd_fn (h : Has c rWD) (xs : List Int) (w : Nat) (hw : w ≤ 20) (hz : xs.length ≤ 100) : Fn c (n + 1) (Str.ofString "_law_words") [dInts xs, .int (w : Nat)] (.lst (xs.map fun x => .bytes (wordI w x))) := by
  refine Fn.of (d := rWD) (ps := [Str.ofString "numbers", Str.ofString "width"]) h rWD_sc (by walk_at "b2") rfl (by decide) (by walk_at "stos") ?_ rfl rfl
  refine St.ret (St1.ret ?_)
  refine Ev.comp (d := dInts xs) (βρ := [(Str.ofString "width", .int (w : Nat))]) ⟨rfl, rfl, rfl, by decide⟩ ?_ (by walk_at "ev") (Items.lst _) (Lp.map xs .int _ ?_ ?_ ?_) ?_
  · walk_at "fr"
  · walk_at "sto"
  · rfl
  · intro x _
    refine Ev.bytes (ns := wordL w x) (.cons ?_ .nil) ?_ ?_
    · refine Ev.cast (d := .lst ([.int 66] ++ ((downto ((w : Int) - 1) (-1)).map fun k => 65 + x / 16 ^ k.toNat % 16).map .int)) (Ev.bin (d1 := .lst [.int 66]) (d2 := .lst (((downto ((w : Int) - 1) (-1)).map fun k => 65 + x / 16 ^ k.toNat % 16).map .int)) (Ev.list (.cons Ev.cint .nil)) ?_ (BinR.addL ?_)) (by simp [dInts, wordL])
      · refine Ev.comp (βρ := [(Str.ofString "x", .int x)]) ⟨rfl, rfl, rfl, by decide⟩ ?_ (Ev.range3 (by walk_at "evs")) (Items.down (by omega) (by omega) (by decide) (by decide)) (Lp.mapI (downto ((w : Int) - 1) (-1)) .int _ ?_ ?_ ?_) ?_
        · walk_at "fr"
        · walk_at "sto"
        · rfl
        · intro k hk
          have hk' := mem_downto hk
          exact Ev.bin (by walk_at "ev") (Ev.bin (Ev.bin (by walk_at "ev") (Ev.bin (by walk_at "ev") (by walk_at "ev") (BinR.pow (by omega) (by omega) (by decide))) (BinR.fdiv (p16_pos _) (.inr (p16_log _ (by omega))))) (by walk_at "ev") (BinR.mod (by decide))) BinR.add
        · simp [downto]; omega
      · simp [downto]; omega
    · intro y hy
      rcases List.mem_cons.mp hy with rfl | hy
      · decide
      · obtain ⟨k, _, rfl⟩ := List.mem_map.mp hy
        omega
    · simp [wordL, downto]; omega
  · rw [List.length_map]; omega

/-! _law_drops -/
def dropOne (word : List UInt8) (k : Nat) (o : Int) : List UInt8 := word.take k ++ [(((word.getD k 0).toNat : Int) - o).toNat.toUInt8] ++ word.drop (k + 1)
def dropIn (word : List UInt8) (k : Nat) (acc : List (List UInt8)) (o : Int) : List (List UInt8) := if (((word.getD k 0).toNat : Int) - 65) / o % 2 == 1 then acc ++ [dropOne word k o] else acc
def dropAt (word : List UInt8) (acc : List (List UInt8)) (k : Int) : List (List UInt8) := if (65 : Int) < ((word.getD k.toNat 0).toNat : Int) then [1, 2, 4, 8].foldl (dropIn word k.toNat) acc else acc
def dropsOf (word : List UInt8) : List (List UInt8) := (upto 1 word.length).foldl (dropAt word) []

theorem dropIn_len (word : List UInt8) (k : Nat) (acc : List (List UInt8)) (o : Int) : (dropIn word k acc o).length ≤ acc.length + 1 := by
  unfold dropIn; split <;> simp

theorem dr_fn (h : Has c rDR) (word : List UInt8) (hw : word.length ≤ 100) : Fn c (n + 1) (Str.ofString "_law_drops") [.bytes word] (.lst ((dropsOf word).map .bytes)) := by
  refine Fn.of (d := rDR) (ps := [Str.ofString "word"]) h rDR_sc (by walk_at "b1") rfl (by decide) (by walk_at "stos") ?_ rfl rfl
  refine St.cons (σ' := ⟨[(Str.ofString "word", .bytes word)], some (Str.ofString "drops", [])⟩) (St1.assignNew (ds := []) (EvNew.list .nil) (by walk_at "sto") (by walk_at "subn") rfl) ?_
  refine St.cons (St1.for_ (Ev.range2 (.cons (by walk_at "ev") (.cons (Ev.lenB (by walk_at "evs") (by omega)) .nil))) (Items.up (by decide) (by decide) (by omega) (by omega))
    (ForR.ofN (α := List (List UInt8)) (fun a => ⟨[(Str.ofString "word", .bytes word)], some (Str.ofString "drops", a.map .bytes)⟩) .int (dropAt word) (fun k a => a.length ≤ 4 * k) (upto 1 word.length) [] (by decide) ?_)) ?_
  · intro j acc k hj hk
    obtain ⟨e1, e2⟩ := upto_get hk
    have k0 : 0 ≤ k := by omega
    have kl : k < word.length := by omega
    obtain ⟨m, rfl⟩ : ∃ m : Nat, k = m := ⟨k.toNat, by omega⟩
    have hm : m < word.length := by omega
    generalize hb : ((word.getD m 0).toNat : Int) = b
    have hb' : b < 256 := by rw [← hb]; have := (word.getD m 0).toNat_lt; omega
    have hi : ∀ {sc : Scope}, ItemR c n (.bytes word) (.int (m : Int)) (.int b) := by
      intro _
      have := ItemR.bytes (c := c) (n := n) (b := word) (i := (m : Int)) (by omega) (by omega) (by omega)
      rw [Int.toNat_natCast, hb] at this; exact this
    have hda : dropAt word acc (m : Int) = if 65 < b then [1, 2, 4, 8].foldl (dropIn word m) acc else acc := by
      unfold dropAt; rw [Int.toNat_natCast, hb]
    refine ⟨?_, ⟨[(Str.ofString "k", .int (m : Int)), (Str.ofString "word", .bytes word)], some (Str.ofString "drops", acc.map .bytes)⟩, AsgR.name (by walk_at "sto") (put_so (by walk_at "subx") (by decide)), ?_⟩
    · rw [hda]
      split
      · have l1 := dropIn_len word m acc 1
        have l2 := dropIn_len word m (dropIn word m acc 1) 2
        have l3 := dropIn_len word m (dropIn word m (dropIn word m acc 1) 2) 4
        have l4 := dropIn_len word m (dropIn word m (dropIn word m (dropIn word m acc 1) 2) 4) 8
        simp only [List.foldl_cons, List.foldl_nil]
        omega
      · omega
    · rw [hda]
      by_cases q : 65 < b
      · rw [if_pos q]
        refine St.cons (σ' := ⟨[(Str.ofString "word", .bytes word)], some (Str.ofString "drops", ([1, 2, 4, 8].foldl (dropIn word m) acc).map .bytes)⟩) (St1.ite (b := true) (Tr.cast (Tr.cmp (Ev.item (by walk_at "ev") (by walk_at "ev") (hi (sc := rDR.scope))) (by walk_at "ev") CmpR.gt) (by simpa using q)) (fun _ => ?_) (fun e => by cases e)) St.nil
        refine StG.weak (St.cons (St1.for_ (d := .tup [.int 1, .int 2, .int 4, .int 8]) (Ev.tuple (.cons Ev.cint (.cons Ev.cint (.cons Ev.cint (.cons Ev.cint .nil))))) (Items.tup ([1, 2, 4, 8].map .int))
          (ForR.ofN (α := List (List UInt8)) (fun a => ⟨[(Str.ofString "k", .int (m : Int)), (Str.ofString "word", .bytes word)], some (Str.ofString "drops", a.map .bytes)⟩) .int (dropIn word m) (fun i a => a.length ≤ 4 * j + i) [1, 2, 4, 8] acc (by omega) ?_)) St.nil) (by walk_at "sub") (.inr rfl)
        intro i a o hia ho
        have hi4 : i < 4 := by
          by_cases q : i < 4
          · exact q
          · rw [List.getElem?_eq_none (by show 4 ≤ i; omega)] at ho; cases ho
        have hom : o = 1 ∨ o = 2 ∨ o = 4 ∨ o = 8 := by simpa using List.mem_of_getElem? ho
        have o0 : 0 < o := by omega
        have o9 : o < 9 := by omega
        refine ⟨by have := dropIn_len word m a o; omega, ⟨[(Str.ofString "one", .int o), (Str.ofString "k", .int (m : Int)), (Str.ofString "word", .bytes word)], some (Str.ofString "drops", a.map .bytes)⟩, AsgR.name (by walk_at "sto") (put_so (by walk_at "subx") (by decide)), ?_⟩
        have hdi : dropIn word m a o = if (b - 65) / o % 2 == 1 then a ++ [dropOne word m o] else a := by unfold dropIn; rw [hb]
        rw [hdi]
        by_cases q1 : ((b - 65) / o % 2 == 1) = true
        · rw [if_pos q1]
          have hbo : o ≤ b - 65 := by
            have q2 : (b - 65) / o % 2 = 1 := by simpa using q1
            rcases hom with rfl | rfl | rfl | rfl <;> omega
          refine St.cons (St1.ite (b := true) (Tr.cast (Tr.cmp (Ev.bin (Ev.bin (Ev.bin (Ev.item (by walk_at "ev") (by walk_at "ev") (hi (sc := rDR.scope))) (by walk_at "ev") BinR.sub) (by walk_at "ev") (BinR.fdiv (by omega) (.inl (by omega)))) (by walk_at "ev") (BinR.mod (by decide))) (by walk_at "ev") CmpR.eq) q1) (fun _ => ?_) (fun e => by cases e)) St.nil
          have et : (a ++ [dropOne word m o]).map D.bytes = a.map D.bytes ++ [.bytes (dropOne word m o)] := by simp
          rw [et]
          refine StG.weak (St.cons (St1.append (d := .bytes (dropOne word m o)) rfl (.inl ?_) rfl (by rw [List.length_map]; omega)) St.nil) (by walk_at "sub") (.inr rfl)
          have hl1 : (word.take m).length ≤ 100 := by rw [List.length_take]; omega
          have hl2 : (word.drop (m + 1)).length ≤ 100 := by rw [List.length_drop]; omega
          refine Ev.bin (d1 := .bytes (word.take m ++ [(((word.getD m 0).toNat : Int) - o).toNat.toUInt8])) (d2 := .bytes (word.drop (m + 1)))
            (Ev.bin (d1 := .bytes (word.take m)) (d2 := .bytes [(((word.getD m 0).toNat : Int) - o).toNat.toUInt8]) ?_ ?_ (BinR.addB ?_)) ?_ (BinR.addB ?_)
          · exact Ev.cast (Ev.sliceB (by walk_at "ev") (by walk_at "part") (by walk_at "part") (by omega)) (by rw [bPick_upto])
          · rw [hb]
            refine Ev.bytes (ns := [b - o]) (.cons ?_ .nil) ?_ (by simp)
            · exact Ev.list (ds := [.int (b - o)]) (.cons (Ev.bin (Ev.item (by walk_at "ev") (by walk_at "ev") (hi (sc := rDR.scope))) (by walk_at "ev") BinR.sub) .nil) (by simp)
            · intro y hy; rw [List.mem_singleton.mp hy]; omega
          · simp only [List.length_cons, List.length_nil]; omega
          · exact Ev.cast (Ev.sliceB (by walk_at "ev") (by walk_at "part") (by walk_at "part") (by omega)) (by rw [show (m : Int) + 1 = ((m + 1 : Nat) : Int) by omega, bPick_from])
          · simp only [List.length_append, List.length_cons, List.length_nil]; omega
        · rw [if_neg q1]
          refine St.cons (St1.ite (b := false) (Tr.cast (Tr.cmp (Ev.bin (Ev.bin (Ev.bin (Ev.item (by walk_at "ev") (by walk_at "ev") (hi (sc := rDR.scope))) (by walk_at "ev") BinR.sub) (by walk_at "ev") (BinR.fdiv (by omega) (.inl (by omega)))) (by walk_at "ev") (BinR.mod (by decide))) (by walk_at "ev") CmpR.eq) (by simpa using q1)) (fun e => by cases e) (fun _ => St.nil)) ?_
          exact StG.weak St.nil (by walk_at "sub") (.inr rfl)
      · rw [if_neg q]
        refine St.cons (St1.ite (b := false) (Tr.cast (Tr.cmp (Ev.item (by walk_at "ev") (by walk_at "ev") (hi (sc := rDR.scope))) (by walk_at "ev") CmpR.gt) (by simpa using q)) (fun e => by cases e) (fun _ => St.nil)) ?_
        exact StG.weak St.nil (by walk_at "sub") (.inr rfl)
  · exact St.ret (St1.ret (Ev.name List.mem_cons_self))
end
end Mine

/-! part L5 -/
namespace Mine
local macro_rules | `(tactic| walk_at "mem1") => `(tactic| with_reducible first | exact List.mem_cons_self | (refine List.mem_cons_of_mem _ ?_; walk_at "mem1"))
local macro_rules | `(tactic| walk_at "mem") => `(tactic| ((try dsimp only [Sg.all, List.zip_cons_cons, List.zip_nil_left, List.zip_nil_right]); walk_at "mem1"))
local macro_rules | `(tactic| walk_at "subx1") => `(tactic| first | with_reducible exact SubX.nil | ((with_reducible refine SubX.hd ?_); walk_at "subx1") | (refine SubX.keep (by walk_at "mem1") (by decide) ?_; walk_at "subx1"))
local macro_rules | `(tactic| walk_at "subx") => `(tactic| ((try dsimp only [Sg.all, List.zip_cons_cons, List.zip_nil_left, List.zip_nil_right]); walk_at "subx1"))
local macro_rules | `(tactic| walk_at "side") => `(tactic| first | assumption | decide | omega)
local macro_rules | `(tactic| walk_at "fr") => `(tactic| first | with_reducible exact FrR.nil | (refine FrR.skip rfl ?_; walk_at "fr") | (refine FrR.take (by walk_at "mem") rfl ?_; walk_at "fr"))
local macro_rules | `(tactic| walk_at "bin") => `(tactic| first
  | with_reducible exact BinR.add | with_reducible exact BinR.sub | with_reducible exact BinR.xor
  | ((with_reducible show BinR _ _ Operator.Mod _ _ _); exact BinR.mod (by walk_at "side"))
  | ((with_reducible show BinR _ _ Operator.Pow _ _ _); exact BinR.pow (by walk_at "side") (by walk_at "side") (by decide))
  | ((with_reducible show BinR _ _ Operator.FloorDiv _ _ _); exact BinR.fdiv (by walk_at "side") (.inl (by walk_at "side")))
  | ((with_reducible show BinR _ _ Operator.Mult (.int _) _ _); exact BinR.mul (by walk_at "side") (by walk_at "side"))
  | ((with_reducible show BinR _ _ Operator.Add (.bytes _) _ _); exact BinR.addB (by walk_at "side"))
  | ((with_reducible show BinR _ _ Operator.Add (.lst _) _ _); exact BinR.addL (by walk_at "side")))
local macro_rules | `(tactic| walk_at "cmp") => `(tactic| with_reducible first
  | exact CmpR.eq | exact CmpR.ne | exact CmpR.lt | exact CmpR.gt | exact CmpR.le | exact CmpR.ge | exact CmpR.eqB | exact CmpR.neB | exact CmpR.isBool | exact CmpR.isNotBool | exact CmpR.isNone)
local macro_rules | `(tactic| walk_at "evs") => `(tactic| first | with_reducible exact EvAll.nil | exact EvAll.cons (by walk_at "ev") (by walk_at "evs"))
local macro_rules | `(tactic| walk_at "part") => `(tactic| first | with_reducible exact PartR.none | exact PartR.some (by walk_at "ev"))
local macro_rules | `(tactic| walk_at "ev") => `(tactic| first
  | with_reducible exact Ev.cint | with_reducible exact Ev.cnone | with_reducible exact Ev.cbool | with_reducible exact Ev.cbytes
  | ((with_reducible show Ev _ _ _ _ (Expr.Name _ _) _); exact Ev.name (by walk_at "mem"))
  | ((with_reducible show Ev _ _ _ _ (Expr.BinOp _ _ _ _) _); exact Ev.bin (by walk_at "ev") (by walk_at "ev") (by walk_at "bin"))
  | ((with_reducible show Ev _ _ _ _ (Expr.Compare _ _ _ _) _); exact Ev.cmp (by walk_at "ev") (by walk_at "ev") (by walk_at "cmp"))
  | ((with_reducible show Ev _ _ _ _ (Expr.UnaryOp _ _ _) _); exact Ev.un (by walk_at "ev") UnR.neg)
  | ((with_reducible show Ev _ _ _ _ (Expr.Call (Expr.Name (Str.ofString "range") _) [_] [] _) _); exact Ev.range1 (by walk_at "evs"))
  | ((with_reducible show Ev _ _ _ _ (Expr.Call (Expr.Name (Str.ofString "range") _) [_, _] [] _) _); exact Ev.range2 (by walk_at "evs"))
  | ((with_reducible show Ev _ _ _ _ (Expr.Call (Expr.Name (Str.ofString "range") _) [_, _, _] [] _) _); exact Ev.range3 (by walk_at "evs"))
  | ((with_reducible show Ev _ _ _ _ (Expr.Call (Expr.Name (Str.ofString "sum") _) _ [] _) _); exact Ev.sum (by walk_at "evs")))
local macro_rules | `(tactic| walk_at "tr") => `(tactic| first
  | ((with_reducible show Tr _ _ _ _ (Expr.Compare _ _ _ _) _); exact Tr.cmp (by walk_at "ev") (by walk_at "ev") (by walk_at "cmp")))
local macro_rules | `(tactic| walk_at "sto") => `(tactic| first | exact .inl rfl | exact .inr rfl)
local macro_rules | `(tactic| walk_at "stos") => `(tactic| exact sto_all rfl)
local macro_rules | `(tactic| walk_at "b0") => `(tactic| (intro pm cd doc vs hv; match vs, hv with | [], _ => rfl))
local macro_rules | `(tactic| walk_at "b1") => `(tactic| (intro pm cd doc vs hv; match vs, hv with | [v], _ => rfl))
local macro_rules | `(tactic| walk_at "b2") => `(tactic| (intro pm cd doc vs hv; match vs, hv with | [v, w], _ => rfl))
local macro_rules | `(tactic| walk_at "b3") => `(tactic| (intro pm cd doc vs hv; match vs, hv with | [v, w, x], _ => rfl))
local macro_rules | `(tactic| walk_at "b4") => `(tactic| (intro pm cd doc vs hv; match vs, hv with | [v, w, x, y], _ => rfl))
local macro_rules | `(tactic| walk_at "b5") => `(tactic| (intro pm cd doc vs hv; match vs, hv with | [v, w, x, y, z], _ => rfl))
local macro_rules | `(tactic| walk_at "sub1") => `(tactic| first | with_reducible exact Subl.nil | (refine Subl.cons (by walk_at "mem1") ?_; walk_at "sub1"))
local macro_rules | `(tactic| walk_at "sub") => `(tactic| (refine Subl.get ?_; (try dsimp only [Sg.all]); walk_at "sub1"))
local macro_rules | `(tactic| walk_at "subn1") => `(tactic| first | with_reducible exact SubN.nil | (refine SubN.keep (by walk_at "mem1") (by decide) ?_; walk_at "subn1"))
local macro_rules | `(tactic| walk_at "subn") => `(tactic| (refine SubN.get ?_; (try dsimp only [Sg.all, List.zip_cons_cons, List.zip_nil_left, List.zip_nil_right]); walk_at "subn1"))
def rFI : DefRec := recOfSt (st1 13)
section
variable {c : Cx} {n : Nat}
theorem rFI_sc : ScOk rFI.scope := ⟨rfl, rfl, rfl, by decide⟩

theorem ap_pow : ∀ e : Nat, ap (2 ^ e) = bPick [66, 67, 69, 73] (some ((e % 4 : Nat) : Int)) (some (((e % 4 : Nat) : Int) + 1)) ++ List.replicate (e / 4) 65 := by
  intro e
  induction e using Nat.strongRecOn with
  | ind e ih =>
    by_cases q : e < 4
    · have : ∀ e < 4, ap (2 ^ e) = bPick [66, 67, 69, 73] (some ((e % 4 : Nat) : Int)) (some (((e % 4 : Nat) : Int) + 1)) ++ List.replicate (e / 4) 65 := by
        intro e he
        rcases (by omega : e = 0 ∨ e = 1 ∨ e = 2 ∨ e = 3) with rfl | rfl | rfl | rfl <;> (rw [ap_pos (by decide), show ∀ k : Nat, k < 16 → ap (k / 16) = [] from fun k hk => by rw [Nat.div_eq_of_lt hk, ap_zero]] <;> decide)
      exact this e q
    · obtain ⟨f, rfl⟩ : ∃ f, e = f + 4 := ⟨e - 4, by omega⟩
      have h1 : (2 : Nat) ^ (f + 4) = 16 * 2 ^ f := by rw [Nat.pow_add]; omega
      have h2 := Nat.two_pow_pos f
      rw [ap_pos (by omega), h1, Nat.mul_div_cancel_left _ (by decide), Nat.mul_mod_right, ih f (by omega), show (f + 4) % 4 = f % 4 by omega, show (f + 4) / 4 = f / 4 + 1 by omega, List.replicate_succ', List.append_assoc]
      rfl
theorem isb_neg (e : Nat) : isb (-(2 ^ e)) = false := by
  have := two_pow_pos e
  unfold isb
  rw [if_neg (by simp; omega)]
  unfold Builtin.bitAnd
  rw [decide_eq_false (show ¬ (0 : Int) ≤ -(2 ^ e) by omega), decide_eq_false (show ¬ (0 : Int) ≤ -(2 ^ e) - 1 by omega)]
  simp only [Builtin.bitNot, beq_eq_false_iff_ne, ne_eq]
  omega

def lostIn (adj : Nat → Nat → Bool) (k : Nat) (lost : List Int) (j : Int) : List Int := if adj k j.toNat && !(lost.contains j) then lost ++ [j] else lost
def lostAt (adj : Nat → Nat → Bool) (m : Nat) (lost : List Int) (k : Int) : List Int := (upto 0 m).foldl (lostIn adj k.toNat) lost
def lostF (adj : Nat → Nat → Bool) (many m : Nat) : List Int := (upto 0 many).foldl (lostAt adj m) []
theorem lostIn_nd {adj : Nat → Nat → Bool} {k : Nat} {l : List Int} {j : Int} (h : l.Nodup) : (lostIn adj k l j).Nodup := by
  unfold lostIn
  split
  · rename_i q
    simp at q
    rw [List.nodup_append]
    refine ⟨h, by simp, ?_⟩
    intro a ha b hb
    rw [List.mem_singleton.mp hb]
    rintro rfl
    exact q.2 ha
  · exact h
theorem lostIn_mem {adj : Nat → Nat → Bool} {k : Nat} {l : List Int} {j x : Int} : x ∈ lostIn adj k l j ↔ x ∈ l ∨ (x = j ∧ adj k j.toNat = true) := by
  unfold lostIn
  by_cases q1 : adj k j.toNat = true
  · by_cases q2 : j ∈ l
    · rw [if_neg (by simp [q1, q2])]
      constructor
      · exact .inl
      · rintro (h | ⟨rfl, _⟩)
        · exact h
        · exact q2
    · rw [if_pos (by simp [q1, q2]), List.mem_append, List.mem_singleton]
      simp [q1]
  · rw [if_neg (by simp [q1])]
    simp [q1]
theorem lostIns {adj : Nat → Nat → Bool} {k : Nat} (js : List Int) : ∀ {l : List Int}, l.Nodup → (js.foldl (lostIn adj k) l).Nodup ∧ ∀ x, x ∈ js.foldl (lostIn adj k) l ↔ x ∈ l ∨ (x ∈ js ∧ adj k x.toNat = true) := by
  induction js with
  | nil => intro l h; exact ⟨h, fun x => by simp⟩
  | cons j js ih =>
    intro l h
    obtain ⟨h1, h2⟩ := ih (l := lostIn adj k l j) (lostIn_nd h)
    refine ⟨h1, fun x => ?_⟩
    rw [List.foldl_cons, h2, lostIn_mem, List.mem_cons]
    constructor
    · rintro ((h | ⟨rfl, h⟩) | ⟨h, h'⟩)
      · exact .inl h
      · exact .inr ⟨.inl rfl, h⟩
      · exact .inr ⟨.inr h, h'⟩
    · rintro (h | ⟨rfl | h, h'⟩)
      · exact .inl (.inl h)
      · exact .inl (.inr ⟨rfl, h'⟩)
      · exact .inr ⟨h, h'⟩
theorem lostAts {adj : Nat → Nat → Bool} {m : Nat} (ks : List Int) : ∀ {l : List Int}, l.Nodup → (ks.foldl (lostAt adj m) l).Nodup ∧ ∀ x, x ∈ ks.foldl (lostAt adj m) l ↔ x ∈ l ∨ (x ∈ upto 0 m ∧ ∃ k ∈ ks, adj k.toNat x.toNat = true) := by
  induction ks with
  | nil => intro l h; exact ⟨h, fun x => by simp⟩
  | cons k ks ih =>
    intro l h
    obtain ⟨h1, h2⟩ := lostIns (adj := adj) (k := k.toNat) (upto 0 m) h
    obtain ⟨h3, h4⟩ := ih (l := lostAt adj m l k) h1
    refine ⟨h3, fun x => ?_⟩
    rw [List.foldl_cons, h4]
    show (x ∈ lostAt adj m l k ∨ _) ↔ _
    unfold lostAt
    rw [h2]
    constructor
    · rintro ((h | ⟨h, h'⟩) | ⟨h, k', hk, h'⟩)
      · exact .inl h
      · exact .inr ⟨h, k, List.mem_cons_self, h'⟩
      · exact .inr ⟨h, k', List.mem_cons_of_mem _ hk, h'⟩
    · rintro (h | ⟨h, k', hk, h'⟩)
      · exact .inl (.inl h)
      · rcases List.mem_cons.mp hk with rfl | hk
        · exact .inl (.inr ⟨h, h'⟩)
        · exact .inr ⟨h, k', hk, h'⟩
def shadow (adj : Nat → Nat → Bool) (many m : Nat) : List Int := (upto 0 m).filter fun j => (upto 0 many).any fun k => adj k.toNat j.toNat
theorem upto_pw (a b : Int) : (upto a b).Pairwise (· < ·) := by
  unfold upto
  rw [List.pairwise_map]
  exact List.Pairwise.imp (fun {i j} h => by omega) List.pairwise_lt_range
theorem lost_perm (adj : Nat → Nat → Bool) (many m : Nat) : (shadow adj many m).Perm (lostF adj many m) := by
  obtain ⟨h1, h2⟩ := lostAts (adj := adj) (m := m) (upto 0 many) (l := []) List.nodup_nil
  refine (List.perm_ext_iff_of_nodup ?_ h1).mpr fun x => ?_
  · exact List.Nodup.sublist List.filter_sublist ((upto_pw 0 m).imp fun h => Int.ne_of_lt h)
  · show x ∈ shadow adj many m ↔ _
    rw [h2]
    simp [shadow, List.mem_filter, List.any_eq_true]
theorem shadow_sorted (adj : Nat → Nat → Bool) (many m : Nat) : (shadow adj many m).Pairwise (· ≤ ·) := ((upto_pw 0 m).imp fun h => Int.le_of_lt h).sublist List.filter_sublist
theorem shadow_len (adj : Nat → Nat → Bool) (many m : Nat) : (shadow adj many m).length ≤ m := by
  refine Nat.le_trans (List.length_filter_le _ _) ?_
  rw [upto_length]; omega
end
end Mine

/-! part L6 -/
namespace Mine
local macro_rules | `(tactic| walk_at "mem1") => `(tactic| with_reducible first | exact List.mem_cons_self | (refine List.mem_cons_of_mem _ ?_; walk_at "mem1"))
local macro_rules | `(tactic| walk_at "mem") => `(tactic| ((try dsimp only [Sg.all, List.zip_cons_cons, List.zip_nil_left, List.zip_nil_right]); walk_at "mem1"))
local macro_rules | `(tactic| walk_at "subx1") => `(tactic| first | with_reducible exact SubX.nil | ((with_reducible refine SubX.hd ?_); walk_at "subx1") | (refine SubX.keep (by walk_at "mem1") (by decide) ?_; walk_at "subx1"))
local macro_rules | `(tactic| walk_at "subx") => `(tactic| ((try dsimp only [Sg.all, List.zip_cons_cons, List.zip_nil_left, List.zip_nil_right]); walk_at "subx1"))
local macro_rules | `(tactic| walk_at "side") => `(tactic| first | assumption | decide | omega)
local macro_rules | `(tactic| walk_at "fr") => `(tactic| first | with_reducible exact FrR.nil | (refine FrR.skip rfl ?_; walk_at "fr") | (refine FrR.take (by walk_at "mem") rfl ?_; walk_at "fr"))
local macro_rules | `(tactic| walk_at "bin") => `(tactic| first
  | with_reducible exact BinR.add | with_reducible exact BinR.sub | with_reducible exact BinR.xor
  | ((with_reducible show BinR _ _ Operator.Mod _ _ _); exact BinR.mod (by walk_at "side"))
  | ((with_reducible show BinR _ _ Operator.Pow _ _ _); exact BinR.pow (by walk_at "side") (by walk_at "side") (by decide))
  | ((with_reducible show BinR _ _ Operator.FloorDiv _ _ _); exact BinR.fdiv (by walk_at "side") (.inl (by walk_at "side")))
  | ((with_reducible show BinR _ _ Operator.Mult (.int _) _ _); exact BinR.mul (by walk_at "side") (by walk_at "side"))
  | ((with_reducible show BinR _ _ Operator.Add (.bytes _) _ _); exact BinR.addB (by walk_at "side"))
  | ((with_reducible show BinR _ _ Operator.Add (.lst _) _ _); exact BinR.addL (by walk_at "side")))
local macro_rules | `(tactic| walk_at "cmp") => `(tactic| with_reducible first
  | exact CmpR.eq | exact CmpR.ne | exact CmpR.lt | exact CmpR.gt | exact CmpR.le | exact CmpR.ge | exact CmpR.eqB | exact CmpR.neB | exact CmpR.isBool | exact CmpR.isNotBool | exact CmpR.isNone)
local macro_rules | `(tactic| walk_at "evs") => `(tactic| first | with_reducible exact EvAll.nil | exact EvAll.cons (by walk_at "ev") (by walk_at "evs"))
local macro_rules | `(tactic| walk_at "part") => `(tactic| first | with_reducible exact PartR.none | exact PartR.some (by walk_at "ev"))
local macro_rules | `(tactic| walk_at "ev") => `(tactic| first
  | with_reducible exact Ev.cint | with_reducible exact Ev.cnone | with_reducible exact Ev.cbool | with_reducible exact Ev.cbytes
  | ((with_reducible show Ev _ _ _ _ (Expr.Name _ _) _); exact Ev.name (by walk_at "mem"))
  | ((with_reducible show Ev _ _ _ _ (Expr.BinOp _ _ _ _) _); exact Ev.bin (by walk_at "ev") (by walk_at "ev") (by walk_at "bin"))
  | ((with_reducible show Ev _ _ _ _ (Expr.Compare _ _ _ _) _); exact Ev.cmp (by walk_at "ev") (by walk_at "ev") (by walk_at "cmp"))
  | ((with_reducible show Ev _ _ _ _ (Expr.UnaryOp _ _ _) _); exact Ev.un (by walk_at "ev") UnR.neg)
  | ((with_reducible show Ev _ _ _ _ (Expr.Call (Expr.Name (Str.ofString "range") _) [_] [] _) _); exact Ev.range1 (by walk_at "evs"))
  | ((with_reducible show Ev _ _ _ _ (Expr.Call (Expr.Name (Str.ofString "range") _) [_, _] [] _) _); exact Ev.range2 (by walk_at "evs"))
  | ((with_reducible show Ev _ _ _ _ (Expr.Call (Expr.Name (Str.ofString "range") _) [_, _, _] [] _) _); exact Ev.range3 (by walk_at "evs"))
  | ((with_reducible show Ev _ _ _ _ (Expr.Call (Expr.Name (Str.ofString "sum") _) _ [] _) _); exact Ev.sum (by walk_at "evs")))
local macro_rules | `(tactic| walk_at "tr") => `(tactic| first
  | ((with_reducible show Tr _ _ _ _ (Expr.Compare _ _ _ _) _); exact Tr.cmp (by walk_at "ev") (by walk_at "ev") (by walk_at "cmp")))
local macro_rules | `(tactic| walk_at "sto") => `(tactic| first | exact .inl rfl | exact .inr rfl)
local macro_rules | `(tactic| walk_at "stos") => `(tactic| exact sto_all rfl)
local macro_rules | `(tactic| walk_at "b0") => `(tactic| (intro pm cd doc vs hv; match vs, hv with | [], _ => rfl))
local macro_rules | `(tactic| walk_at "b1") => `(tactic| (intro pm cd doc vs hv; match vs, hv with | [v], _ => rfl))
local macro_rules | `(tactic| walk_at "b2") => `(tactic| (intro pm cd doc vs hv; match vs, hv with | [v, w], _ => rfl))
local macro_rules | `(tactic| walk_at "b3") => `(tactic| (intro pm cd doc vs hv; match vs, hv with | [v, w, x], _ => rfl))
local macro_rules | `(tactic| walk_at "b4") => `(tactic| (intro pm cd doc vs hv; match vs, hv with | [v, w, x, y], _ => rfl))
local macro_rules | `(tactic| walk_at "b5") => `(tactic| (intro pm cd doc vs hv; match vs, hv with | [v, w, x, y, z], _ => rfl))
local macro_rules | `(tactic| walk_at "sub1") => `(tactic| first | with_reducible exact Subl.nil | (refine Subl.cons (by walk_at "mem1") ?_; walk_at "sub1"))
local macro_rules | `(tactic| walk_at "sub") => `(tactic| (refine Subl.get ?_; (try dsimp only [Sg.all]); walk_at "sub1"))
local macro_rules | `(tactic| walk_at "subn1") => `(tactic| first | with_reducible exact SubN.nil | (refine SubN.keep (by walk_at "mem1") (by decide) ?_; walk_at "subn1"))
local macro_rules | `(tactic| walk_at "subn") => `(tactic| (refine SubN.get ?_; (try dsimp only [Sg.all, List.zip_cons_cons, List.zip_nil_left, List.zip_nil_right]); walk_at "subn1"))
section
variable {c : Cx} {n : Nat}
theorem comp_bytes {l : List (List UInt8)} {x : List UInt8} : ∀ d ∈ l.map D.bytes, d.comparable (.bytes x) = true := by
  intro d hd
  obtain ⟨i, _, rfl⟩ := List.mem_map.mp hd
  rfl
theorem any_bytes {l : List (List UInt8)} {x : List UInt8} : ((l.map D.bytes).any (·.eqF (.bytes x))) = l.any (· == x) := by
  rw [List.any_map]; rfl
theorem any_ints {l : List Int} {x : Int} : ((l.map D.int).any (·.eqF (.int x))) = l.contains x := by
  rw [List.any_map]
  induction l with
  | nil => rfl
  | cons a l ih =>
    rw [List.any_cons, ih, List.contains_cons]
    congr 1
    show (a == x) = (x == a)
    rw [Bool.eq_iff_iff]; simp; exact eq_comm
theorem ints_at {O : List Int} {k : Nat} (h : k < O.length) : ((O.map D.int)[((k : Nat) : Int).toNat]?) = some (.int (O.getD k 0)) := by
  rw [Int.toNat_natCast, List.getElem?_map, List.getElem?_eq_getElem h, List.getD_eq_getElem?_getD, List.getElem?_eq_getElem h]; rfl
theorem bytes_at {O : List (List UInt8)} {k : Nat} (h : k < O.length) : ((O.map D.bytes)[((k : Nat) : Int).toNat]?) = some (.bytes (O.getD k [])) := by
  rw [Int.toNat_natCast, List.getElem?_map, List.getElem?_eq_getElem h, List.getD_eq_getElem?_getD, List.getElem?_eq_getElem h]; rfl
theorem lists_at {O : List (List (List UInt8))} {k : Nat} (h : k < O.length) : ((O.map fun l => D.lst (l.map .bytes))[((k : Nat) : Int).toNat]?) = some (.lst ((O.getD k []).map .bytes)) := by
  rw [Int.toNat_natCast, List.getElem?_map, List.getElem?_eq_getElem h, List.getD_eq_getElem?_getD, List.getElem?_eq_getElem h]; rfl
theorem lostIn_len (adj : Nat → Nat → Bool) (k : Nat) (l : List Int) (j : Int) : (lostIn adj k l j).length ≤ l.length + 1 := by
  unfold lostIn; split <;> simp
theorem lostIns_len (adj : Nat → Nat → Bool) (k : Nat) (js : List Int) : ∀ l : List Int, (js.foldl (lostIn adj k) l).length ≤ l.length + js.length := by
  induction js with
  | nil => intro l; simp
  | cons j js ih => intro l; rw [List.foldl_cons]; have := ih (lostIn adj k l j); have := lostIn_len adj k l j; rw [List.length_cons]; omega

theorem fi_fn (h : Has c rFI) (h1 : Has c rISB) (h2 : Has c rHB) (h3 : Has c rAP) (many : Nat) (O L : List Int) (DD : List (List (List UInt8))) (lows : List (List UInt8)) (adj : Nat → Nat → Bool)
    (hm : many ≤ O.length) (hO : O.length ≤ 50) (hd : DD.length = many) (hl : lows.length = L.length) (hL : L.length ≤ 50)
    (H : ∀ k j, k < many → j < L.length → isb (Builtin.bitXor (O.getD k 0) (L.getD j 0)) = adj k j ∧ ((DD.getD k []).any (· == lows.getD j [])) = adj k j ∧ (adj k j = true → ∃ e : Nat, e ≤ 40 ∧ Builtin.bitXor (O.getD k 0) (L.getD j 0) = 2 ^ e)) :
    Fn c (n + 2) (Str.ofString "_law_first") [.int (many : Nat), dInts O, .lst (DD.map fun l => .lst (l.map .bytes)), dInts L, .lst (lows.map .bytes)] (dInts (shadow adj many L.length)) := by
  refine Fn.of (d := rFI) (ps := [Str.ofString "many", Str.ofString "order", Str.ofString "drops", Str.ofString "lower", Str.ofString "lows"]) h rFI_sc (by walk_at "b5") rfl (by decide) (by walk_at "stos") ?_ rfl rfl
  refine St.cons (σ' := ⟨[(Str.ofString "many", .int (many : Nat)), (Str.ofString "order", dInts O), (Str.ofString "drops", .lst (DD.map fun l => .lst (l.map .bytes))), (Str.ofString "lower", dInts L), (Str.ofString "lows", .lst (lows.map .bytes))], some (Str.ofString "lost", [])⟩) (St1.assignNew (ds := []) (EvNew.list .nil) (by walk_at "sto") (by walk_at "subn") rfl) ?_
  refine St.cons (St1.for_ (Ev.range1 (by walk_at "evs")) (Items.up (by decide) (by decide) (by omega) (by omega))
    (ForR.ofN (α := List Int) (fun a => ⟨[(Str.ofString "many", .int (many : Nat)), (Str.ofString "order", dInts O), (Str.ofString "drops", .lst (DD.map fun l => .lst (l.map .bytes))), (Str.ofString "lower", dInts L), (Str.ofString "lows", .lst (lows.map .bytes))], some (Str.ofString "lost", a.map .int)⟩) .int (lostAt adj L.length) (fun k a => a.length ≤ 50 * k) (upto 0 (many : Nat)) [] (by decide) ?_)) ?_
  · intro i acc kk hi hk
    obtain ⟨e1, e2⟩ := upto_get hk
    obtain ⟨k, rfl⟩ : ∃ m : Nat, kk = m := ⟨kk.toNat, by omega⟩
    have hkm : k < many := by omega
    have hkO : k < O.length := by omega
    have hkD : k < DD.length := by omega
    have hik : i = k := by omega
    have hla : lostAt adj L.length acc (k : Int) = (upto 0 (L.length : Nat)).foldl (lostIn adj k) acc := by unfold lostAt; rw [Int.toNat_natCast]
    refine ⟨?_, ⟨[(Str.ofString "k", .int (k : Int)), (Str.ofString "many", .int (many : Nat)), (Str.ofString "order", dInts O), (Str.ofString "drops", .lst (DD.map fun l => .lst (l.map .bytes))), (Str.ofString "lower", dInts L), (Str.ofString "lows", .lst (lows.map .bytes))], some (Str.ofString "lost", acc.map .int)⟩, AsgR.name (by walk_at "sto") (put_so (by walk_at "subx") (by decide)), ?_⟩
    · rw [hla]
      have := lostIns_len adj k (upto 0 (L.length : Nat)) acc
      rw [upto_length] at this
      omega
    rw [hla]
    have hacc : acc.length ≤ 50 * k + 0 := by rw [← hik]; omega
    refine StG.weak (σ1 := ⟨[(Str.ofString "k", .int (k : Int)), (Str.ofString "many", .int (many : Nat)), (Str.ofString "order", dInts O), (Str.ofString "drops", .lst (DD.map fun l => .lst (l.map .bytes))), (Str.ofString "lower", dInts L), (Str.ofString "lows", .lst (lows.map .bytes))], some (Str.ofString "lost", ((upto 0 (L.length : Nat)).foldl (lostIn adj k) acc).map .int)⟩) ?_ (by walk_at "sub") (.inr rfl)
    refine St.cons (St1.for_ (Ev.range1 (.cons (Ev.lenI (ns := L) (by walk_at "evs") (by omega)) .nil)) (Items.up (by decide) (by decide) (by omega) (by omega))
      (ForR.ofN (α := List Int) (fun a => ⟨[(Str.ofString "k", .int (k : Int)), (Str.ofString "many", .int (many : Nat)), (Str.ofString "order", dInts O), (Str.ofString "drops", .lst (DD.map fun l => .lst (l.map .bytes))), (Str.ofString "lower", dInts L), (Str.ofString "lows", .lst (lows.map .bytes))], some (Str.ofString "lost", a.map .int)⟩) .int (lostIn adj k) (fun j a => a.length ≤ 50 * k + j) (upto 0 (L.length : Nat)) acc hacc ?_)) St.nil
    intro i2 a jj hi2 hj
    obtain ⟨e3, e4⟩ := upto_get hj
    obtain ⟨j, rfl⟩ : ∃ m : Nat, jj = m := ⟨jj.toNat, by omega⟩
    have hjL : j < L.length := by omega
    have hjl : j < lows.length := by omega
    obtain ⟨H1, H2, H3⟩ := H k j hkm hjL
    have hi' : i2 = j := by omega
    refine ⟨by have := lostIn_len adj k a j; omega, ⟨[(Str.ofString "j", .int (j : Int)), (Str.ofString "k", .int (k : Int)), (Str.ofString "many", .int (many : Nat)), (Str.ofString "order", dInts O), (Str.ofString "drops", .lst (DD.map fun l => .lst (l.map .bytes))), (Str.ofString "lower", dInts L), (Str.ofString "lows", .lst (lows.map .bytes))], some (Str.ofString "lost", a.map .int)⟩, AsgR.name (by walk_at "sto") (put_so (by walk_at "subx") (by decide)), ?_⟩
    refine St.cons (σ' := ⟨[(Str.ofString "flag", .int (Builtin.bitXor (O.getD k 0) (L.getD j 0))), (Str.ofString "j", .int (j : Int)), (Str.ofString "k", .int (k : Int)), (Str.ofString "many", .int (many : Nat)), (Str.ofString "order", dInts O), (Str.ofString "drops", .lst (DD.map fun l => .lst (l.map .bytes))), (Str.ofString "lower", dInts L), (Str.ofString "lows", .lst (lows.map .bytes))], some (Str.ofString "lost", a.map .int)⟩)
      (St1.assign (Ev.bin (Ev.item (by walk_at "ev") (by walk_at "ev") (ItemR.lst (by omega) (ints_at hkO) (by rw [List.length_map]; omega))) (Ev.item (by walk_at "ev") (by walk_at "ev") (ItemR.lst (by omega) (ints_at hjL) (by rw [List.length_map]; omega))) BinR.xor) (by walk_at "sto") (put_so (by walk_at "subx") (by decide))) ?_
    refine St.cons (σ' := ⟨[(Str.ofString "told", .bool (adj k j)), (Str.ofString "flag", .int (Builtin.bitXor (O.getD k 0) (L.getD j 0))), (Str.ofString "j", .int (j : Int)), (Str.ofString "k", .int (k : Int)), (Str.ofString "many", .int (many : Nat)), (Str.ofString "order", dInts O), (Str.ofString "drops", .lst (DD.map fun l => .lst (l.map .bytes))), (Str.ofString "lower", dInts L), (Str.ofString "lows", .lst (lows.map .bytes))], some (Str.ofString "lost", a.map .int)⟩)
      (St1.assign (d := .bool (adj k j)) (Ev.cast (Ev.callF rfl (by walk_at "evs") (isb_fn h1 _)) (by rw [H1])) (by walk_at "sto") (put_so (by walk_at "subx") (by decide))) ?_
    refine St.cons (St1.ite (b := false) (Tr.cast (Tr.cmp (by walk_at "ev") (Ev.cmp (Ev.item (by walk_at "ev") (by walk_at "ev") (ItemR.lst (by omega) (bytes_at hjl) (by rw [List.length_map]; omega))) (Ev.item (by walk_at "ev") (by walk_at "ev") (ItemR.lst (by omega) (lists_at hkD) (by rw [List.length_map]; omega))) (CmpR.inL comp_bytes)) CmpR.isNotBool) (by rw [any_bytes, H2]; cases adj k j <;> rfl)) (fun e => by cases e) (fun _ => St.nil)) ?_
    by_cases q : adj k j = true
    · obtain ⟨e, he, hx⟩ := H3 q
      have hb := hb_eq (N := 2 ^ e) (e := e) (Int.le_refl _) (by rw [two_pow_succ]; have := two_pow_pos e; omega)
      rw [hx, q]
      refine St.cons (σ' := ⟨[(Str.ofString "many", .int (many : Nat)), (Str.ofString "order", dInts O), (Str.ofString "drops", .lst (DD.map fun l => .lst (l.map .bytes))), (Str.ofString "lower", dInts L), (Str.ofString "lows", .lst (lows.map .bytes)), (Str.ofString "k", .int (k : Int))], some (Str.ofString "lost", (lostIn adj k a j).map .int)⟩) (St1.ite (b := true) (Tr.val (by walk_at "ev") TruR.bool) (fun _ => ?_) (fun e => by cases e)) (StG.weak St.nil (by walk_at "sub") (.inr rfl))
      refine St.cons (σ' := ⟨[(Str.ofString "place", .int (e : Int)), (Str.ofString "flag", .int (2 ^ e)), (Str.ofString "j", .int (j : Int)), (Str.ofString "k", .int (k : Int)), (Str.ofString "many", .int (many : Nat)), (Str.ofString "order", dInts O), (Str.ofString "drops", .lst (DD.map fun l => .lst (l.map .bytes))), (Str.ofString "lower", dInts L), (Str.ofString "lows", .lst (lows.map .bytes))], some (Str.ofString "lost", a.map .int)⟩)
        (St1.assign (d := .int (e : Int)) (Ev.cast (Ev.callF rfl (by walk_at "evs") (hb_fn h2 _)) (by rw [hb])) (by walk_at "sto") (put_so (by walk_at "subx") (by decide))) ?_
      refine St.cons (St1.ite (b := false) (Tr.cast (Tr.boolop (TrAll.or_cons (b := false) (Tr.cast (Tr.cmp (d1 := .bytes (ap (2 ^ e))) (d2 := .bytes (ap (2 ^ e))) ?_ ?_ CmpR.neB) (by simp)) (fun _ => TrAll.or_cons (b := false) (Tr.cast (Tr.cmp (d1 := .bool false) (Ev.cast (Ev.callF rfl (by walk_at "evs") (isb_fn h1 _)) (by rw [isb_neg])) (by walk_at "ev") CmpR.isNotBool) rfl) (fun _ => TrAll.or_nil)))) rfl) (fun e => by cases e) (fun _ => St.nil)) ?_
      · have en : ((2 : Int) ^ e).natAbs = 2 ^ e := by rw [Int.natAbs_pow]; rfl
        refine Ev.cast (Ev.callF rfl (by walk_at "evs") (ap_fn h3 (2 ^ e) ?_)) (by rw [en])
        rw [en]
        exact Nat.lt_of_le_of_lt (Nat.pow_le_pow_right (by decide) he) (by decide)
      · have em : (e : Int) % 4 = ((e % 4 : Nat) : Int) := by omega
        have ed : ((e : Int) / 4).toNat = e / 4 := by omega
        rw [ap_pow]
        refine Ev.bin (d1 := .bytes (bPick [66, 67, 69, 73] (some ((e % 4 : Nat) : Int)) (some (((e % 4 : Nat) : Int) + 1)))) (d2 := .bytes (List.replicate (e / 4) 65)) ?_ ?_ (BinR.addB ?_)
        · rw [← em]
          exact Ev.sliceB (by walk_at "ev") (by walk_at "part") (by walk_at "part") (by decide)
        · rw [← ed]
          exact Ev.bin (by walk_at "ev") (by walk_at "ev") (BinR.mulB (by omega) (by omega))
        · rw [List.length_replicate]
          have : (bPick [66, 67, 69, 73] (some ((e % 4 : Nat) : Int)) (some (((e % 4 : Nat) : Int) + 1))).length ≤ 4 := by unfold bPick; rw [List.length_take, List.length_drop]; simp only [List.length_cons, List.length_nil]; omega
          omega
      by_cases q3 : a.contains (j : Int) = true
      · have el : lostIn adj k a (j : Int) = a := by unfold lostIn; rw [Int.toNat_natCast, q, q3]; rfl
        rw [el]
        refine St.cons (St1.ite (b := false) (Tr.cast (Tr.cmp (by walk_at "ev") (by walk_at "ev") (CmpR.notInL comp_ints)) (by rw [any_ints, q3]; rfl)) (fun e => by cases e) (fun _ => St.nil)) (StG.weak St.nil (by walk_at "sub") (.inr rfl))
      · have q3' : a.contains (j : Int) = false := by simpa using q3
        have el : lostIn adj k a (j : Int) = a ++ [(j : Int)] := by unfold lostIn; rw [Int.toNat_natCast, q, q3']; rfl
        have et : (a ++ [(j : Int)]).map D.int = a.map D.int ++ [.int (j : Int)] := by simp
        rw [el, et]
        refine St.cons (St1.ite (b := true) (Tr.cast (Tr.cmp (by walk_at "ev") (by walk_at "ev") (CmpR.notInL comp_ints)) (by rw [any_ints, q3']; rfl)) (fun _ => ?_) (fun e => by cases e)) (StG.weak St.nil (by walk_at "sub") (.inr rfl))
        exact St.cons (St1.append (d := .int (j : Int)) rfl (.inl (by walk_at "ev")) rfl (by rw [List.length_map]; omega)) (StG.weak St.nil (by walk_at "sub") (.inr rfl))
    · have q' : adj k j = false := by simpa using q
      have el : lostIn adj k a (j : Int) = a := by unfold lostIn; rw [Int.toNat_natCast, q']; rfl
      rw [el, q']
      exact St.cons (St1.ite (b := false) (Tr.val (by walk_at "ev") TruR.bool) (fun e => by cases e) (fun _ => St.nil)) (StG.weak St.nil (by walk_at "sub") (.inr rfl))
  · refine St.ret (St1.ret ?_)
    refine Ev.sorted (ns := lostF adj many L.length) (.cons (Ev.name List.mem_cons_self) .nil) ?_ (lost_perm adj many L.length) (shadow_sorted adj many L.length)
    have := (lost_perm adj many L.length).length_eq
    have := shadow_len adj many L.length
    omega
end
end Mine

/-! part L7 -/
namespace Mine
local macro_rules | `(tactic| walk_at "mem1") => `(tactic| with_reducible first | exact List.mem_cons_self | (refine List.mem_cons_of_mem _ ?_; walk_at "mem1"))
local macro_rules | `(tactic| walk_at "mem") => `(tactic| ((try dsimp only [Sg.all, List.zip_cons_cons, List.zip_nil_left, List.zip_nil_right]); walk_at "mem1"))
local macro_rules | `(tactic| walk_at "subx1") => `(tactic| first | with_reducible exact SubX.nil | ((with_reducible refine SubX.hd ?_); walk_at "subx1") | (refine SubX.keep (by walk_at "mem1") (by decide) ?_; walk_at "subx1"))
local macro_rules | `(tactic| walk_at "subx") => `(tactic| ((try dsimp only [Sg.all, List.zip_cons_cons, List.zip_nil_left, List.zip_nil_right]); walk_at "subx1"))
local macro_rules | `(tactic| walk_at "side") => `(tactic| first | assumption | decide | omega)
local macro_rules | `(tactic| walk_at "fr") => `(tactic| first | with_reducible exact FrR.nil | (refine FrR.skip rfl ?_; walk_at "fr") | (refine FrR.take (by walk_at "mem") rfl ?_; walk_at "fr"))
local macro_rules | `(tactic| walk_at "bin") => `(tactic| first
  | with_reducible exact BinR.add | with_reducible exact BinR.sub | with_reducible exact BinR.xor
  | ((with_reducible show BinR _ _ Operator.Mod _ _ _); exact BinR.mod (by walk_at "side"))
  | ((with_reducible show BinR _ _ Operator.Pow _ _ _); exact BinR.pow (by walk_at "side") (by walk_at "side") (by decide))
  | ((with_reducible show BinR _ _ Operator.FloorDiv _ _ _); exact BinR.fdiv (by walk_at "side") (.inl (by walk_at "side")))
  | ((with_reducible show BinR _ _ Operator.Mult (.int _) _ _); exact BinR.mul (by walk_at "side") (by walk_at "side"))
  | ((with_reducible show BinR _ _ Operator.Add (.bytes _) _ _); exact BinR.addB (by walk_at "side"))
  | ((with_reducible show BinR _ _ Operator.Add (.lst _) _ _); exact BinR.addL (by walk_at "side")))
local macro_rules | `(tactic| walk_at "cmp") => `(tactic| with_reducible first
  | exact CmpR.eq | exact CmpR.ne | exact CmpR.lt | exact CmpR.gt | exact CmpR.le | exact CmpR.ge | exact CmpR.eqB | exact CmpR.neB | exact CmpR.isBool | exact CmpR.isNotBool | exact CmpR.isNone)
local macro_rules | `(tactic| walk_at "evs") => `(tactic| first | with_reducible exact EvAll.nil | exact EvAll.cons (by walk_at "ev") (by walk_at "evs"))
local macro_rules | `(tactic| walk_at "part") => `(tactic| first | with_reducible exact PartR.none | exact PartR.some (by walk_at "ev"))
local macro_rules | `(tactic| walk_at "ev") => `(tactic| first
  | with_reducible exact Ev.cint | with_reducible exact Ev.cnone | with_reducible exact Ev.cbool | with_reducible exact Ev.cbytes
  | ((with_reducible show Ev _ _ _ _ (Expr.Name _ _) _); exact Ev.name (by walk_at "mem"))
  | ((with_reducible show Ev _ _ _ _ (Expr.BinOp _ _ _ _) _); exact Ev.bin (by walk_at "ev") (by walk_at "ev") (by walk_at "bin"))
  | ((with_reducible show Ev _ _ _ _ (Expr.Compare _ _ _ _) _); exact Ev.cmp (by walk_at "ev") (by walk_at "ev") (by walk_at "cmp"))
  | ((with_reducible show Ev _ _ _ _ (Expr.UnaryOp _ _ _) _); exact Ev.un (by walk_at "ev") UnR.neg)
  | ((with_reducible show Ev _ _ _ _ (Expr.Call (Expr.Name (Str.ofString "range") _) [_] [] _) _); exact Ev.range1 (by walk_at "evs"))
  | ((with_reducible show Ev _ _ _ _ (Expr.Call (Expr.Name (Str.ofString "range") _) [_, _] [] _) _); exact Ev.range2 (by walk_at "evs"))
  | ((with_reducible show Ev _ _ _ _ (Expr.Call (Expr.Name (Str.ofString "range") _) [_, _, _] [] _) _); exact Ev.range3 (by walk_at "evs"))
  | ((with_reducible show Ev _ _ _ _ (Expr.Call (Expr.Name (Str.ofString "sum") _) _ [] _) _); exact Ev.sum (by walk_at "evs")))
local macro_rules | `(tactic| walk_at "tr") => `(tactic| first
  | ((with_reducible show Tr _ _ _ _ (Expr.Compare _ _ _ _) _); exact Tr.cmp (by walk_at "ev") (by walk_at "ev") (by walk_at "cmp")))
local macro_rules | `(tactic| walk_at "sto") => `(tactic| first | exact .inl rfl | exact .inr rfl)
local macro_rules | `(tactic| walk_at "stos") => `(tactic| exact sto_all rfl)
local macro_rules | `(tactic| walk_at "b0") => `(tactic| (intro pm cd doc vs hv; match vs, hv with | [], _ => rfl))
local macro_rules | `(tactic| walk_at "b1") => `(tactic| (intro pm cd doc vs hv; match vs, hv with | [v], _ => rfl))
local macro_rules | `(tactic| walk_at "b2") => `(tactic| (intro pm cd doc vs hv; match vs, hv with | [v, w], _ => rfl))
local macro_rules | `(tactic| walk_at "b3") => `(tactic| (intro pm cd doc vs hv; match vs, hv with | [v, w, x], _ => rfl))
local macro_rules | `(tactic| walk_at "b4") => `(tactic| (intro pm cd doc vs hv; match vs, hv with | [v, w, x, y], _ => rfl))
local macro_rules | `(tactic| walk_at "b5") => `(tactic| (intro pm cd doc vs hv; match vs, hv with | [v, w, x, y, z], _ => rfl))
local macro_rules | `(tactic| walk_at "sub1") => `(tactic| first | with_reducible exact Subl.nil | (refine Subl.cons (by walk_at "mem1") ?_; walk_at "sub1"))
local macro_rules | `(tactic| walk_at "sub") => `(tactic| (refine Subl.get ?_; (try dsimp only [Sg.all]); walk_at "sub1"))
local macro_rules | `(tactic| walk_at "subn1") => `(tactic| first | with_reducible exact SubN.nil | (refine SubN.keep (by walk_at "mem1") (by decide) ?_; walk_at "subn1"))
local macro_rules | `(tactic| walk_at "subn") => `(tactic| (refine SubN.get ?_; (try dsimp only [Sg.all, List.zip_cons_cons, List.zip_nil_left, List.zip_nil_right]); walk_at "subn1"))
def rLW : DefRec := recOfSt (st1 14)
def dueOf (s : Nat) (bs : List Nat) : Int := (((upto 1 ((s : Int) + 1)).filter fun i => decide (i ≤ ((bs.getD ((s : Int) - i).toNat 0 : Nat) : Int))).map fun i => (waysL.getD (bs.getD ((s : Int) - i).toNat 0) []).getD (i - 1).toNat 0).sum
def hitsOf (adj : Nat → Nat → Bool) (m : Nat) (fam : List Int) : List Int := fam.flatMap fun k => (upto 0 (m : Nat)).filter fun j => adj k.toNat j.toNat

structure Facts (P : List Int) (s w : Nat) (bls lls : List (List Nat)) (adj : Nat → Nat → Bool) : Prop where
  inc : Inc P
  len : P.length = 7
  s2 : 2 ≤ s
  s4 : s ≤ 4
  wd : P.getD 6 0 / 4 + 1 = (w : Nat)
  w15 : w ≤ 15
  tlen : (setsOf (P.take 6)).length = 5
  tabL : (setsOf (P.take 6)).getD (s - 1) [] = lls.map (numOf P)
  tabS : (setsOf (P.take 6)).getD s [] ++ [2 ^ (P.getD 6 0).toNat + ((P.take (s - 1)).map fun p => (2 : Int) ^ p.toNat).sum] = bls.map (numOf P)
  bits : ∀ bs ∈ bls, bs.Pairwise (· > ·) ∧ (∀ b ∈ bs, b < P.length) ∧ bs.length = s
  rank : ∀ k, (hk : k < bls.length) → rankOf s bls[k] = k
  bl1 : 1 ≤ bls.length
  bl50 : bls.length ≤ 50
  ll50 : lls.length ≤ 50
  big : ∀ x ∈ bls.map (numOf P) ++ lls.map (numOf P), 0 ≤ x ∧ x < 16 ^ w
  word : ∀ x ∈ bls.map (numOf P) ++ lls.map (numOf P), ap (16 ^ w + x).natAbs = wordI w x
  near : ∀ k : Nat, k + 1 < bls.length → isb (Builtin.bitXor ((bls.map (numOf P)).getD k 0) ((bls.map (numOf P)).getD (k + 1) 0)) = false
  adj1 : ∀ k j, k < bls.length → j < lls.length → isb (Builtin.bitXor ((bls.map (numOf P)).getD k 0) ((lls.map (numOf P)).getD j 0)) = adj k j
  adj2 : ∀ k j, k + 1 < bls.length → j < lls.length → (dropsOf (wordI w ((bls.map (numOf P)).getD k 0))).any (· == wordI w ((lls.map (numOf P)).getD j 0)) = adj k j
  adj3 : ∀ k j, k + 1 < bls.length → j < lls.length → adj k j = true → ∃ e : Nat, e ≤ 40 ∧ Builtin.bitXor ((bls.map (numOf P)).getD k 0) ((lls.map (numOf P)).getD j 0) = 2 ^ e
  due0 : ∀ k, k < bls.length → 0 ≤ dueOf s (bls.getD k []) ∧ dueOf s (bls.getD k []) ≤ 1000
  kk1 : ∀ m, m < bls.length → shadow adj m lls.length = upto 0 (dueOf s (bls.getD m []))
  kk2 : ∀ q : Int → Bool, dueOf s (bls.getD ((upto 0 ((bls.length : Nat) - 1 : Int)).filter q).length []) ≤ (((upto 0 (lls.length : Nat)).filter fun j => (hitsOf adj lls.length ((upto 0 ((bls.length : Nat) - 1 : Int)).filter q)).contains j).length : Nat)
  kk3 : ∀ q : Int → Bool, (hitsOf adj lls.length ((upto 0 ((bls.length : Nat) - 1 : Int)).filter q)).length = s * ((upto 0 ((bls.length : Nat) - 1 : Int)).filter q).length

section
variable {c : Cx} {n : Nat}
theorem rLW_sc : ScOk rLW.scope := ⟨rfl, rfl, rfl, by decide⟩

theorem eqL_map {α : Type} (f : α → D) (l : List α) (hf : ∀ a, (f a).eqF (f a) = true) : eqL (l.map f) (l.map f) = true := by
  unfold Mine.eqL
  simp only [beq_self_eq_true, Bool.true_and, List.all_eq_true, List.mem_range, List.length_map]
  intro j hj
  rw [List.getD_eq_getElem?_getD, List.getElem?_map, List.getElem?_eq_getElem hj]
  exact hf _
theorem cmp_bytes2 {l m : List (List UInt8)} : ∀ x ∈ l.map D.bytes, ∀ y ∈ m.map D.bytes, x.comparable y = true := by
  intro x hx y hy
  obtain ⟨_, _, rfl⟩ := List.mem_map.mp hx
  obtain ⟨_, _, rfl⟩ := List.mem_map.mp hy
  rfl
theorem cmp_ints2 {l m : List Int} : ∀ x ∈ l.map D.int, ∀ y ∈ m.map D.int, x.comparable y = true := by
  intro x hx y hy
  obtain ⟨_, _, rfl⟩ := List.mem_map.mp hx
  obtain ⟨_, _, rfl⟩ := List.mem_map.mp hy
  rfl
theorem eqF_int (a : Int) : (D.int a).eqF (.int a) = true := by simp [D.eqF]
theorem eqF_bytes (a : List UInt8) : (D.bytes a).eqF (.bytes a) = true := by simp [D.eqF]

set_option maxHeartbeats 4000000 in
theorem law_fn (h : Has c rLW) (hPL : Has c rPL) (hSE : Has c rSE) (hWY : Has c rWY) (hON : Has c rON) (hRK : Has c rRK) (hWD : Has c rWD) (hDR : Has c rDR) (hFI : Has c rFI) (hIS : Has c rISB) (hHB : Has c rHB) (hAP : Has c rAP)
    (ns : List Int) (hn : ns.length ≤ 63)
    (facts : ∀ gs : List Nat, gs.length = 7 → (∀ g ∈ gs, g ≤ 4) → ∀ s, 2 ≤ s → s ≤ 4 → ∃ w bls lls adj, Facts (pl (-1) gs) s w bls lls adj) :
    Fn c (n + 4) (Str.ofString "law") [dInts ns] (.bool true) := by
  have hdl : ((ns.take 60).map fun x => x % 1000000).length ≤ 60 := by rw [List.length_map, List.length_take]; omega
  have hd0 : ∀ x ∈ (ns.take 60).map fun x => x % 1000000, 0 ≤ x := by
    intro x hx
    obtain ⟨y, _, rfl⟩ := List.mem_map.mp hx
    omega
  generalize hdr : (ns.take 60).map (fun x => x % 1000000) = dr at hdl hd0
  obtain ⟨gs, g7, g4, hpl⟩ := pl_fn (n := n + 2) hPL dr (sum_nonneg hd0)
  obtain ⟨w, bls, lls, adj, F⟩ := facts gs g7 g4 (2 + dr.length % 3) (by omega) (by omega)
  generalize pl (-1) gs = P at hpl F
  generalize hS : 2 + dr.length % 3 = s at F
  refine Fn.of (d := rLW) (ps := [Str.ofString "script"]) h rLW_sc (by walk_at "b1") rfl (by decide) (by walk_at "stos") ?_ rfl rfl
  refine St.cons (St1.assign (d := dInts dr) ?_ (by walk_at "sto") (put_new rfl rfl) (swaps_cell rfl)) ?_
  · rw [← hdr]
    refine Ev.comp (d := dInts (ns.take 60)) (βρ := []) ⟨rfl, rfl, rfl, by decide⟩ ?_ ?_ (Items.lst _) (Lp.mapI (ns.take 60) .int (fun x => x % 1000000) ?_ ?_ ?_) ?_
    · walk_at "fr"
    · exact Ev.cast (Ev.sliceI (ns := ns) (a := none) (b := some 60) (k := none) (by walk_at "ev") (by walk_at "part") (by walk_at "part") (by walk_at "part") (by decide) (by omega)) (congrArg dInts (pk_upto ns 60))
    · walk_at "sto"
    · rfl
    · intro x _
      exact Ev.cast (by walk_at "ev") rfl
    · simp only [List.length_map, List.length_take]; omega
  refine St.cons (St1.assign (d := dInts P) (Ev.callF rfl (by walk_at "evs") hpl) (by walk_at "sto") (put_new rfl rfl)) ?_
  refine St.cons (St1.assign (d := .int (s : Nat)) (Ev.cast (Ev.bin (by walk_at "ev") (Ev.bin (Ev.lenI (ns := dr) (by walk_at "evs") (by omega)) (by walk_at "ev") (BinR.mod (by decide))) BinR.add) (by rw [← hS]; congr 1)) (by walk_at "sto") (put_new rfl rfl)) ?_
  have hp6 : ∀ p ∈ P.take 6, 0 ≤ p ∧ p ≤ 1000 := by
    intro p hp
    obtain ⟨i, hi, rfl⟩ := List.mem_iff_getElem.mp (List.mem_of_mem_take hp)
    have h1 := F.inc.low i hi
    have h2 := F.inc.high i hi
    rw [List.getD_eq_getElem?_getD, List.getElem?_eq_getElem hi] at h1 h2
    simp at h1 h2
    omega
  have hl7 := F.len
  have hs2 := F.s2
  have hs4 := F.s4
  have ht5 := F.tlen
  refine St.cons (St1.assign (d := .lst ((setsOf (P.take 6)).map dInts)) (Ev.callF rfl (.cons (d := dInts (P.take 6)) (Ev.cast (Ev.sliceI (ns := P) (a := none) (b := some 6) (k := none) (by walk_at "ev") (by walk_at "part") (by walk_at "part") (by walk_at "part") (by decide) (by omega)) (congrArg dInts (pk_upto P 6))) .nil) (se_fn hSE (P.take 6) hp6 (by rw [List.length_take]; omega))) (by walk_at "sto") (put_new rfl rfl)) ?_
  refine St.cons (St1.assign (d := dInts (lls.map (numOf P))) (Ev.cast (Ev.item (by walk_at "ev") (by walk_at "ev") (ItemR.lst (by omega) (getD_some (by omega)) (by rw [List.length_map, ht5]; decide))) (by rw [show ((s : Int) - 1).toNat = s - 1 by omega, F.tabL])) (by walk_at "sto") (put_new rfl rfl)) ?_
  refine St.cons (St1.assign (d := dInts (bls.map (numOf P))) ?_ (by walk_at "sto") (put_new rfl rfl)) ?_
  · rw [← F.tabS]
    have hsl : ((setsOf (P.take 6)).getD s []).length ≤ 50 := by
      have := congrArg List.length F.tabS
      rw [List.length_append, List.length_map] at this
      have := F.bl50
      simp only [List.length_cons, List.length_nil] at *
      omega
    refine Ev.cast (d := .lst (((setsOf (P.take 6)).getD s []).map .int ++ [.int (2 ^ (P.getD 6 0).toNat + ((P.take (s - 1)).map fun p => (2 : Int) ^ p.toNat).sum)])) ?_ (by simp [dInts])
    refine Ev.bin (d1 := dInts ((setsOf (P.take 6)).getD s [])) (d2 := .lst [.int (2 ^ (P.getD 6 0).toNat + ((P.take (s - 1)).map fun p => (2 : Int) ^ p.toNat).sum)]) ?_ ?_ (BinR.addL ?_)
    · exact Ev.cast (Ev.item (by walk_at "ev") (by walk_at "ev") (ItemR.lst (by omega) (getD_some (i := (s : Int)) (by omega)) (by rw [List.length_map, ht5]; decide))) (by rw [Int.toNat_natCast])
    · refine Ev.list (.cons (Ev.bin (d1 := .int (2 ^ (P.getD 6 0).toNat)) (d2 := .int (((P.take (s - 1)).map fun p => (2 : Int) ^ p.toNat).sum)) ?_ ?_ BinR.add) .nil) (by simp)
      · have h1 := F.inc.low 6 (by omega)
        have h2 := F.inc.high 6 (by omega)
        exact Ev.bin (by walk_at "ev") (Ev.item (by walk_at "ev") (by walk_at "ev") (ItemR.lst (i := 6) (by decide) (ints_at (k := 6) (by omega)) (by rw [List.length_map]; omega))) (BinR.pow (by omega) (by omega) (by decide))
      · refine Ev.sum (.cons ?_ .nil)
        refine Ev.comp (d := dInts (P.take (s - 1))) (βρ := []) ⟨rfl, rfl, rfl, by decide⟩ ?_ ?_ (Items.lst _) (Lp.mapI (P.take (s - 1)) .int (fun p => (2 : Int) ^ p.toNat) ?_ ?_ ?_) ?_
        · walk_at "fr"
        · exact Ev.cast (Ev.sliceI (ns := P) (a := none) (b := some ((s : Int) - 1)) (k := none) (by walk_at "ev") (by walk_at "part") (by walk_at "part") (by walk_at "part") (by decide) (by omega)) (by rw [show (s : Int) - 1 = ((s - 1 : Nat) : Int) by omega, pk_upto])
        · walk_at "sto"
        · rfl
        · intro p hp
          have hp' : p ∈ P.take 6 := List.take_subset_take_left P (by omega) hp
          have := hp6 p hp'
          exact Ev.bin (by walk_at "ev") (by walk_at "ev") (BinR.pow (by omega) (by omega) (by decide))
        · simp only [List.length_map, List.length_take]; omega
    · simp only [List.length_map, List.length_cons, List.length_nil]; omega
  have hb50 := F.bl50
  have hl50 := F.ll50
  have hb1 := F.bl1
  have hw15 := F.w15
  generalize hO : bls.map (numOf P) = O
  generalize hL : lls.map (numOf P) = L
  have hOl : O.length = bls.length := by rw [← hO, List.length_map]
  have hLl : L.length = lls.length := by rw [← hL, List.length_map]
  have hbig := F.big
  have hword := F.word
  have hnear := F.near
  have hadj1 := F.adj1
  have hadj2 := F.adj2
  have hadj3 := F.adj3
  rw [hO, hL] at hbig hword
  simp only [hO] at hnear
  simp only [hO, hL] at hadj1 hadj2 hadj3
  have hwf : ∀ x ∈ O ++ L, Fn c (n + 3) (Str.ofString "Int2AP") [.int (-(16 : Int) ^ (w : Int).toNat - x)] (.bytes (wordI w x)) := by
    intro x hx
    have h1 := hbig x hx
    have h2 := p16_pos w
    have e : (-(16 : Int) ^ (w : Int).toNat - x).natAbs = (16 ^ w + x).natAbs := by
      rw [Int.toNat_natCast, show -(16 : Int) ^ w - x = -(16 ^ w + x) by omega, Int.natAbs_neg]
    have := ap_fn (n := n + 2) hAP (-(16 : Int) ^ (w : Int).toNat - x) (by
      rw [e]
      have h3 : ((16 ^ w : Nat) : Int) = 16 ^ w := by norm_cast
      have h4 : (16 : Nat) ^ w ≤ 16 ^ 15 := Nat.pow_le_pow_right (by decide) hw15
      have h5 : (16 ^ w + x).natAbs < 16 ^ w + 16 ^ w := by omega
      exact Nat.lt_of_lt_of_le h5 (Nat.le_trans (Nat.add_le_add h4 h4) (by decide)))
    rw [e, hword x hx] at this
    exact this
  refine St.cons (St1.assign (d := .lst (waysL.map dInts)) (Ev.callF rfl .nil (wy_fn hWY)) (by walk_at "sto") (put_new rfl rfl)) ?_
  refine St.cons (St1.assign (d := .lst (bls.map fun bs => dInts (bs.map fun b : Nat => (b : Int)))) (Ev.callF rfl (by walk_at "evs") (hO ▸ rk_fn hRK hON hHB P F.inc F.len s hs4 bls F.bits F.rank (by omega))) (by walk_at "sto") (put_new rfl rfl)) ?_
  refine St.cons (St1.assign (d := .int (w : Nat)) (Ev.cast (Ev.bin (Ev.bin (Ev.item (by walk_at "ev") (by walk_at "ev") (ItemR.lst (i := 6) (by decide) (ints_at (k := 6) (by omega)) (by rw [List.length_map]; omega))) (by walk_at "ev") (BinR.fdiv (by decide) (.inl (by decide)))) (by walk_at "ev") BinR.add) (by rw [F.wd])) (by walk_at "sto") (put_new rfl rfl)) ?_
  refine St.cons (St1.assignComp (d := dInts O) (out := (O.map (wordI w)).map .bytes) (βρ := [(Str.ofString "width", .int (w : Nat))]) ⟨rfl, rfl, rfl, by decide⟩ ?_ (by walk_at "ev") (Items.lst _) (by rw [List.map_map]; exact Lp.map O .int (D.bytes ∘ wordI w) (by walk_at "sto") rfl (fun x hx => Ev.callF rfl (.cons (Ev.bin (Ev.un (Ev.bin (by walk_at "ev") (by walk_at "ev") (BinR.pow (by omega) (by omega) (by decide))) UnR.neg) (by walk_at "ev") BinR.sub) .nil) (hwf x (List.mem_append_left _ hx)))) (by simp only [List.length_map]; omega) rfl (put_new rfl rfl) rfl) ?_
  · walk_at "fr"
  refine St.cons (St1.assignComp (d := dInts L) (out := (L.map (wordI w)).map .bytes) (βρ := [(Str.ofString "width", .int (w : Nat))]) ⟨rfl, rfl, rfl, by decide⟩ ?_ (by walk_at "ev") (Items.lst _) (by rw [List.map_map]; exact Lp.map L .int (D.bytes ∘ wordI w) (by walk_at "sto") rfl (fun x hx => Ev.callF rfl (.cons (Ev.bin (Ev.un (Ev.bin (by walk_at "ev") (by walk_at "ev") (BinR.pow (by omega) (by omega) (by decide))) UnR.neg) (by walk_at "ev") BinR.sub) .nil) (hwf x (List.mem_append_right _ hx)))) (by simp only [List.length_map]; omega) rfl (put_new rfl rfl) rfl) ?_
  · walk_at "fr"
  refine St.cons (St1.ite (b := false) (Tr.cast (Tr.boolop (TrAll.or_cons (b := false) (Tr.cmp (by walk_at "ev") (by walk_at "ev") CmpR.isNone) (fun _ => TrAll.or_cons (b := false) (Tr.cast (Tr.cmp (d1 := .lst []) (d2 := .lst []) ?_ (Ev.list .nil) (CmpR.neL (by intro x hx; cases hx))) rfl) (fun _ => TrAll.or_nil)))) rfl) (fun e => by cases e) (fun _ => St.nil)) ?_
  · refine Ev.cast (Ev.comp (d := .lst ((O.map (wordI w) ++ L.map (wordI w)).map .bytes)) (βρ := []) ⟨rfl, rfl, rfl, by decide⟩ (by walk_at "fr") ?_ (Items.lst _) (Lp.filt (O.map (wordI w) ++ L.map (wordI w)) .bytes .bytes (fun _ => false) (by walk_at "sto") rfl ?_ (fun a _ q => by cases q)) ?_) (by simp)
    · rw [List.map_append]
      exact Ev.bin (by walk_at "ev") (by walk_at "ev") (BinR.addL (by simp only [List.length_map]; omega))
    · intro a _
      exact Tr.cast (Tr.not (Tr.val (Ev.isBytes (.cons (by walk_at "ev") (.cons (Ev.nameB rfl (by decide) boot_bytes) .nil))) TruR.bool)) rfl
    · rw [List.length_map]; refine Nat.le_trans (List.length_filter_le _ _) ?_; simp only [List.length_append, List.length_map]; omega
  refine St.cons (St1.ite (b := false) (Tr.cast (Tr.cmp (d1 := .lst []) (d2 := .lst []) ?_ (Ev.list .nil) (CmpR.neL (by intro x hx; cases hx))) rfl) (fun e => by cases e) (fun _ => St.nil)) ?_
  · refine Ev.cast (Ev.comp (βρ := [(Str.ofString "order", dInts O)]) ⟨rfl, rfl, rfl, by decide⟩ (by walk_at "fr") (Ev.range2 (.cons (by walk_at "ev") (.cons (Ev.lenI (ns := O) (by walk_at "evs") (by omega)) .nil))) (Items.up (by decide) (by decide) (by omega) (by omega)) (Lp.filt (upto 1 O.length) .int .int (fun _ => false) (by walk_at "sto") rfl ?_ (fun a _ q => by cases q)) ?_) (by simp)
    · intro a ha
      have ha' := mem_upto ha
      obtain ⟨k, rfl⟩ : ∃ k : Nat, a = (k : Int) + 1 := ⟨(a - 1).toNat, by omega⟩
      have e1 : ((k : Int) + 1 - 1) = (k : Int) := by omega
      have e2 : ((k : Int) + 1) = ((k + 1 : Nat) : Int) := by omega
      have hk := hnear k (by omega)
      refine Tr.cast (Tr.cmp (d1 := .bool false) (Ev.cast (Ev.callF rfl (.cons (Ev.bin (Ev.item (d2 := .int (k : Int)) (by walk_at "ev") (Ev.cast (by walk_at "ev") (by rw [e1])) (ItemR.lst (by omega) (ints_at (k := k) (by omega)) (by rw [List.length_map]; omega))) (Ev.item (d2 := .int ((k + 1 : Nat) : Int)) (by walk_at "ev") (Ev.cast (by walk_at "ev") (by rw [e2])) (ItemR.lst (by omega) (ints_at (k := k + 1) (by omega)) (by rw [List.length_map]; omega))) BinR.xor) .nil) (isb_fn hIS _)) (by rw [hk])) (by walk_at "ev") CmpR.isNotBool) rfl
    · rw [List.length_map]; refine Nat.le_trans (List.length_filter_le _ _) ?_; rw [upto_length]; omega
  refine St.cons (St1.assignComp (out := (((upto 0 ((O.length : Int) - 1)).filter fun k => ((k + (pk dr (some k) none (some 20)).sum) % 3 == 0)).map id).map .int) (βρ := [(Str.ofString "drawn", dInts dr)]) ⟨rfl, rfl, rfl, by decide⟩ ?_ (Ev.range1 (.cons (Ev.bin (Ev.lenI (ns := O) (by walk_at "evs") (by omega)) (by walk_at "ev") BinR.sub) .nil)) (Items.up (by decide) (by decide) (by omega) (by omega)) (Lp.filtI (upto 0 ((O.length : Int) - 1)) .int id (fun k => ((k + (pk dr (some k) none (some 20)).sum) % 3 == 0)) (by walk_at "sto") rfl ?_ ?_) ?_ rfl (put_new rfl rfl) rfl) ?_
  · walk_at "fr"
  · intro k hk
    exact Tr.cmp (Ev.bin (Ev.bin (by walk_at "ev") (Ev.sum (.cons (Ev.sliceI (ns := dr) (by walk_at "ev") (by walk_at "part") (by walk_at "part") (by walk_at "part") (by decide) (by omega)) .nil)) BinR.add) (by walk_at "ev") (BinR.mod (by decide))) (by walk_at "ev") CmpR.eq
  · intro k hk _
    exact Ev.name List.mem_cons_self
  · rw [List.length_map, List.length_map]; refine Nat.le_trans (List.length_filter_le _ _) ?_; rw [upto_length]; omega
  rw [List.map_id]
  have kk2 := F.kk2 fun k => ((k + (pk dr (some k) none (some 20)).sum) % 3 == 0)
  have kk3 := F.kk3 fun k => ((k + (pk dr (some k) none (some 20)).sum) % 3 == 0)
  rw [← hOl] at kk2 kk3
  have hfm : ∀ k ∈ (upto 0 ((O.length : Int) - 1)).filter (fun k => ((k + (pk dr (some k) none (some 20)).sum) % 3 == 0)), 0 ≤ k ∧ k < (O.length : Int) - 1 := fun k hk => mem_upto (List.mem_filter.mp hk).1
  have hfl : ((upto 0 ((O.length : Int) - 1)).filter (fun k => ((k + (pk dr (some k) none (some 20)).sum) % 3 == 0))).length ≤ O.length - 1 := by
    refine Nat.le_trans (List.length_filter_le _ _) ?_; rw [upto_length]; omega
  generalize (upto 0 ((O.length : Int) - 1)).filter (fun k => ((k + (pk dr (some k) none (some 20)).sum) % 3 == 0)) = fam at kk2 kk3 hfm hfl
  generalize hM : fam.length = many at kk2 kk3 hfl
  refine St.cons (St1.assign (d := .int (many : Nat)) (Ev.cast (Ev.lenI (ns := fam) (by walk_at "evs") (by omega)) (by rw [hM])) (by walk_at "sto") (put_new rfl rfl)) ?_
  refine St.cons (St1.assignComp (d := .lst (((O.map (wordI w)).take many).map .bytes)) (out := (((O.map (wordI w)).take many).map dropsOf).map fun l => .lst (l.map .bytes)) (βρ := []) ⟨rfl, rfl, rfl, by decide⟩ ?_ ?_ (Items.lst _) ?_ ?_ rfl (put_new rfl rfl) rfl) ?_
  · walk_at "fr"
  · exact Ev.cast (Ev.sliceL (ds := (O.map (wordI w)).map .bytes) (by walk_at "ev") (by walk_at "part") (by walk_at "part") (by walk_at "part") (by decide) (by simp only [List.length_map]; omega)) (by rw [dPick_upto, List.map_take])
  · rw [List.map_map]
    refine Lp.map ((O.map (wordI w)).take many) .bytes ((fun l => D.lst (l.map .bytes)) ∘ dropsOf) ?_ ?_ ?_
    · walk_at "sto"
    · rfl
    intro x hx
    refine Ev.callF rfl (.cons (Ev.name List.mem_cons_self) .nil) (dr_fn hDR x ?_)
    obtain ⟨y, _, rfl⟩ := List.mem_map.mp (List.mem_of_mem_take hx)
    simp [wordI, wordL, downto]; omega
  · simp only [List.length_map, List.length_take]; omega
  have hmb : many < bls.length := by omega
  have hH : ∀ k j, k < many → j < L.length → isb (Builtin.bitXor (O.getD k 0) (L.getD j 0)) = adj k j ∧ (((((O.map (wordI w)).take many).map dropsOf).getD k []).any (· == (L.map (wordI w)).getD j [])) = adj k j ∧ (adj k j = true → ∃ e : Nat, e ≤ 40 ∧ Builtin.bitXor (O.getD k 0) (L.getD j 0) = 2 ^ e) := by
    intro k j hk hj
    have hkO : k < O.length := by omega
    refine ⟨hadj1 k j (by omega) (by omega), ?_, hadj3 k j (by omega) (by omega)⟩
    have e1 : (((O.map (wordI w)).take many).map dropsOf).getD k [] = dropsOf (wordI w (O.getD k 0)) := by
      rw [List.getD_eq_getElem?_getD, List.getElem?_map, List.getElem?_take_of_lt hk, List.getElem?_map, List.getElem?_eq_getElem hkO, List.getD_eq_getElem?_getD, List.getElem?_eq_getElem hkO]; rfl
    have e2 : (L.map (wordI w)).getD j [] = wordI w (L.getD j 0) := by
      rw [List.getD_eq_getElem?_getD, List.getElem?_map, List.getElem?_eq_getElem hj, List.getD_eq_getElem?_getD, List.getElem?_eq_getElem hj]; rfl
    rw [e1, e2]
    exact hadj2 k j (by omega) (by omega)
  refine St.cons (St1.assign (d := dInts (shadow adj many L.length)) (Ev.callF rfl (by walk_at "evs") (fi_fn hFI hIS hHB hAP many O L (((O.map (wordI w)).take many).map dropsOf) (L.map (wordI w)) adj (by omega) (by omega) (by simp only [List.length_map, List.length_take]; omega) (by rw [List.length_map]) (by omega) hH)) (by walk_at "sto") (put_new rfl rfl)) ?_
  have hBm := F.bits (bls[many]) (List.getElem_mem hmb)
  have hBd : bls.getD many [] = bls[many] := by rw [List.getD_eq_getElem?_getD, List.getElem?_eq_getElem hmb]; rfl
  have hdu := F.due0 many hmb
  have hk1 := F.kk1 many hmb
  rw [hBd] at kk2 hdu hk1
  rw [← hLl] at kk2 kk3 hk1
  generalize hB : bls[many] = B at hBm hBd kk2 hdu hk1
  obtain ⟨_, hB7', hBs⟩ := hBm
  refine St.cons (St1.assign (d := .int (dueOf s B)) ?_ (by walk_at "sto") (put_new rfl rfl)) ?_
  · refine Ev.sum (.cons ?_ .nil)
    have told : ∀ {ρ : List (Str × D)} {i : Int}, 1 ≤ i → i ≤ s → ((Str.ofString "ones", D.lst (bls.map fun bs => dInts (bs.map fun b : Nat => (b : Int)))) ∈ ρ) → True := fun _ _ _ => trivial
    have hones : (bls.map fun bs => dInts (bs.map fun b : Nat => (b : Int)))[((many : Nat) : Int).toNat]? = some (dInts (B.map fun b : Nat => (b : Int))) := by
      rw [Int.toNat_natCast, List.getElem?_map, List.getElem?_eq_getElem hmb, hB]; rfl
    have hit : ∀ i : Int, 1 ≤ i → i ≤ s → ((B.map fun b : Nat => (b : Int)).map D.int)[((s : Int) - i).toNat]? = some (.int ((B.getD ((s : Int) - i).toNat 0 : Nat) : Int)) := by
      intro i h1 h2
      have hlt : ((s : Int) - i).toNat < B.length := by omega
      rw [List.getElem?_map, List.getElem?_map, List.getElem?_eq_getElem hlt, List.getD_eq_getElem?_getD, List.getElem?_eq_getElem hlt]; rfl
    refine Ev.comp (βρ := [(Str.ofString "many", .int (many : Nat)), (Str.ofString "ones", .lst (bls.map fun bs => dInts (bs.map fun b : Nat => (b : Int)))), (Str.ofString "size", .int (s : Nat)), (Str.ofString "ways", .lst (waysL.map dInts))]) ⟨rfl, rfl, rfl, by decide⟩ ?_ (Ev.range2 (by walk_at "evs")) (Items.up (by decide) (by decide) (by omega) (by omega)) (Lp.filtI (upto 1 ((s : Int) + 1)) .int (fun i => (waysL.getD (B.getD ((s : Int) - i).toNat 0) []).getD (i - 1).toNat 0) (fun i => decide (i ≤ ((B.getD ((s : Int) - i).toNat 0 : Nat) : Int))) ?_ ?_ ?_ ?_) ?_
    · walk_at "fr"
    · walk_at "sto"
    · rfl
    · intro i hi
      have hi' := mem_upto hi
      exact Tr.cmp (Ev.item (d1 := dInts (B.map fun b : Nat => (b : Int))) (Ev.item (by walk_at "ev") (by walk_at "ev") (ItemR.lst (by omega) hones (by rw [List.length_map]; omega))) (by walk_at "ev") (ItemR.lst (by omega) (hit i (by omega) (by omega)) (by simp only [List.length_map]; omega))) (by walk_at "ev") CmpR.ge
    · intro i hi _
      have hi' := mem_upto hi
      have hlt : ((s : Int) - i).toNat < B.length := by omega
      have hB7 : B.getD ((s : Int) - i).toNat 0 < 7 := by
        rw [List.getD_eq_getElem?_getD, List.getElem?_eq_getElem hlt]
        have := hB7' _ (List.getElem_mem hlt)
        simpa [hl7] using this
      have hrow : ∀ j < 7, (waysL.getD j []).length = 5 := by decide
      refine Ev.item (d1 := dInts (waysL.getD (B.getD ((s : Int) - i).toNat 0) [])) (Ev.item (d2 := .int ((B.getD ((s : Int) - i).toNat 0 : Nat) : Int)) (by walk_at "ev") (Ev.item (d1 := dInts (B.map fun b : Nat => (b : Int))) (Ev.item (by walk_at "ev") (by walk_at "ev") (ItemR.lst (by omega) hones (by rw [List.length_map]; omega))) (by walk_at "ev") (ItemR.lst (by omega) (hit i (by omega) (by omega)) (by simp only [List.length_map]; omega))) (ItemR.lst (by omega) ?_ (by decide))) (by walk_at "ev") (ItemR.lst (by omega) (getI_some (by rw [hrow _ hB7]; omega)) (by rw [List.length_map, hrow _ hB7]; decide))
      rw [getD_some (by rw [Int.toNat_natCast]; exact hB7), Int.toNat_natCast]
    · rw [List.length_map, List.length_map]; refine Nat.le_trans (List.length_filter_le _ _) ?_; rw [upto_length]; omega
  have hhl : (hitsOf adj L.length fam).length ≤ 1000 := by rw [kk3]; exact Nat.le_trans (Nat.mul_le_mul hs4 (show many ≤ 50 by omega)) (by decide)
  refine St.cons (St1.assign (d := dInts (hitsOf adj L.length fam)) ?_ (by walk_at "sto") (put_new rfl rfl) (swaps_cell rfl)) ?_
  · have eh : dInts (hitsOf adj L.length fam) = .lst (fam.flatMap fun k => ((upto 0 (L.length : Nat)).filter fun j => adj k.toNat j.toNat).map D.int) := by
      unfold hitsOf dInts; rw [List.map_flatMap]
    rw [eh]
    refine Ev.comp (d := dInts fam) (βρ := [(Str.ofString "lower", dInts L), (Str.ofString "order", dInts O)]) ⟨rfl, rfl, rfl, by decide⟩ ?_ (by walk_at "ev") (Items.lst _) (Lp.in2 fam (fun _ => upto 0 (L.length : Nat)) .int .int (fun _ => .rng 0 (L.length : Nat) 1) (fun _ j => .int j) (fun k j => adj k.toNat j.toNat) ?_ ?_ ?_ ?_ ?_ ?_ ?_ ?_ ?_) ?_
    · walk_at "fr"
    · walk_at "sto"
    · rfl
    · walk_at "sto"
    · rfl
    · intro k _
      exact Ev.range1 (.cons (Ev.lenI (ns := L) (by walk_at "evs") (by omega)) .nil)
    · intro k _
      exact Items.up (by decide) (by decide) (by omega) (by omega)
    · intro _ _; rfl
    · intro kk hk jj hj
      have hk' := hfm kk hk
      have hj' := mem_upto hj
      obtain ⟨k, rfl⟩ : ∃ k : Nat, kk = k := ⟨kk.toNat, by omega⟩
      obtain ⟨j, rfl⟩ : ∃ j : Nat, jj = j := ⟨jj.toNat, by omega⟩
      refine Tr.val (d := .bool (adj k j)) (Ev.cast (Ev.callF rfl (.cons (Ev.bin (Ev.item (by walk_at "ev") (by walk_at "ev") (ItemR.lst (by omega) (ints_at (k := k) (by omega)) (by rw [List.length_map]; omega))) (Ev.item (by walk_at "ev") (by walk_at "ev") (ItemR.lst (by omega) (ints_at (k := j) (by omega)) (by rw [List.length_map]; omega))) BinR.xor) .nil) (isb_fn hIS _)) (by rw [hadj1 k j (by omega) (by omega)])) TruR.bool
    · intro kk hk jj hj _
      exact Ev.name List.mem_cons_self
    · have := congrArg (fun d => match d with | D.lst l => l.length | _ => 0) eh
      simp only [dInts, List.length_map] at this
      rw [← this]; omega
  have hx0 : ∀ {sc : Scope} {ρ : List (Str × D)} {p1 p2 p3 p4 p5 p6 p7 : Pos} {k1 k2 : Nat}, ((Str.ofString "order"), dInts O) ∈ ρ → Ev c (n + 3) sc ρ (.BinOp (.Subscript (.Name (Str.ofString "order") p1) (.Constant (.int 0) k1 p2) p3) .BitXor (.Subscript (.Name (Str.ofString "order") p4) (.Constant (.int 0) k2 p5) p6) p7) (.int 0) := by
    intro sc ρ p1 p2 p3 p4 p5 p6 p7 k1 k2 hm
    exact Ev.cast (Ev.bin (Ev.item (Ev.name hm) Ev.cint (ItemR.lst (i := 0) (by decide) (ints_at (k := 0) (by omega)) (by rw [List.length_map]; omega))) (Ev.item (Ev.name hm) Ev.cint (ItemR.lst (i := 0) (by decide) (ints_at (k := 0) (by omega)) (by rw [List.length_map]; omega))) BinR.xor) (by rw [bitXor_self])
  refine St.cons (St1.assign (d := .bool true) ?_ (by walk_at "sto") (put_new rfl rfl)) ?_
  · refine Ev.cast (Ev.and (EvAnd.cons (b := true) (Ev.cast (Ev.cmp (d1 := .bool false) (Ev.cast (Ev.callF rfl (.cons (hx0 (by walk_at "mem")) .nil) (isb_fn hIS 0)) rfl) (by walk_at "ev") CmpR.isBool) rfl) (fun _ => EvAnd.cons (b := true) (Ev.cast (Ev.cmp (d1 := .int (-1)) (Ev.cast (Ev.callF rfl (.cons (hx0 (by walk_at "mem")) .nil) (hb_fn hHB 0)) rfl) (by walk_at "ev") CmpR.eq) rfl) (fun _ => EvAnd.one (b := true) (Ev.cast (Ev.cmp (d1 := .bytes []) (Ev.cast (Ev.callF rfl (.cons (hx0 (by walk_at "mem")) .nil) (ap_fn hAP 0 (by decide))) (by rw [show (0 : Int).natAbs = 0 from rfl, ap_zero])) (by walk_at "ev") CmpR.eqB) rfl))))) rfl
  refine St.cons (St1.ite (b := false) (Tr.cast (Tr.boolop (TrAll.or_cons (b := false) (Tr.cast (Tr.not (Tr.val (by walk_at "ev") TruR.bool)) rfl) (fun _ => TrAll.or_cons (b := false) ?_ (fun _ => TrAll.or_cons (b := false) ?_ (fun _ => TrAll.or_nil))))) rfl) (fun e => by cases e) (fun _ => St.nil)) ?_
  · refine Tr.cast (Tr.cmp (d1 := .lst ((shadow adj many L.length).map .int)) (d2 := .lst ((upto 0 (dueOf s B)).map .int)) (Ev.name (by walk_at "mem")) (Ev.listRange (.cons (Ev.range1 (by walk_at "evs")) .nil) (by omega) (by omega)) (CmpR.neL cmp_ints2)) (by rw [hk1, eqL_map D.int _ eqF_int]; rfl)
  · refine Tr.cast (Tr.cmp (d1 := .int (((upto 0 (L.length : Nat)).filter fun j => (hitsOf adj L.length fam).contains j).length : Nat)) (d2 := .int (dueOf s B)) ?_ (by walk_at "ev") CmpR.lt) (by rw [decide_eq_false_iff_not]; omega)
    refine Ev.cast (Ev.lenI (ns := (((upto 0 (L.length : Nat)).filter fun j => (hitsOf adj L.length fam).contains j).map id)) (.cons ?_ .nil) ?_) (by rw [List.length_map])
    · refine Ev.comp (βρ := [(Str.ofString "hits", dInts (hitsOf adj L.length fam))]) ⟨rfl, rfl, rfl, by decide⟩ ?_ (Ev.range1 (.cons (Ev.lenI (ns := L) (by walk_at "evs") (by omega)) .nil)) (Items.up (by decide) (by decide) (by omega) (by omega)) (Lp.filtI (upto 0 (L.length : Nat)) .int id (fun j => (hitsOf adj L.length fam).contains j) ?_ ?_ ?_ ?_) ?_
      · walk_at "fr"
      · walk_at "sto"
      · rfl
      · intro j _
        exact Tr.cast (Tr.cmp (d2 := .lst ((hitsOf adj L.length fam).map .int)) (by walk_at "ev") (Ev.name (List.mem_cons_of_mem _ List.mem_cons_self)) (CmpR.inL comp_ints)) any_ints
      · intro j _ _
        exact Ev.name List.mem_cons_self
      · rw [List.length_map, List.length_map]; refine Nat.le_trans (List.length_filter_le _ _) ?_; rw [upto_length]; omega
    · rw [List.length_map]; refine Nat.le_trans (List.length_filter_le _ _) ?_; rw [upto_length]; omega
  refine St.ret (St1.ret ?_)
  have em : (((hitsOf adj L.length fam).length : Nat) : Int) = (s : Int) * (many : Int) := by rw [kk3]; exact Int.natCast_mul _ _
  refine Ev.cast (Ev.and (EvAnd.cons (b := true) (Ev.cast (Ev.cmp (d1 := .int ((s : Int) * (many : Int))) (d2 := .int ((s : Int) * (many : Int))) ?_ ?_ CmpR.eq) (by simp)) (fun _ => EvAnd.cons (b := true) (Ev.cast (Ev.cmp (d1 := .lst ((O.map (wordI w)).map .bytes)) (d2 := .lst ((O.map (wordI w)).map .bytes)) ?_ ?_ (CmpR.eqL cmp_bytes2)) (by rw [eqL_map D.bytes _ eqF_bytes])) (fun _ => EvAnd.one (b := true) (Ev.cast (Ev.cmp (d1 := .lst ((L.map (wordI w)).map .bytes)) (d2 := .lst ((L.map (wordI w)).map .bytes)) ?_ ?_ (CmpR.eqL cmp_bytes2)) (by rw [eqL_map D.bytes _ eqF_bytes])))))) rfl
  · rw [← em]
    exact Ev.lenI (by walk_at "evs") (by omega)
  · exact Ev.bin (by walk_at "ev") (by walk_at "ev") (BinR.mul (by omega) (by omega))
  · walk_at "ev"
  · exact Ev.cast (Ev.callF rfl (by walk_at "evs") (wd_fn hWD O w (by omega) (by omega))) (by rw [List.map_map]; rfl)
  · walk_at "ev"
  · exact Ev.cast (Ev.callF rfl (by walk_at "evs") (wd_fn hWD L w (by omega) (by omega))) (by rw [List.map_map]; rfl)
end
end Mine

/-! part M1 -/
namespace Mine

/-! ## numbers with few bits -/
def V : List Nat → Nat → Int
  | [], _ => 0
  | g :: gs, m => 2 ^ g * ((m % 2 : Nat) + 2 * V gs (m / 2))
def Q : List Nat → Nat → Nat
  | [], _ => 0
  | g :: _, 0 => g
  | g :: gs, i + 1 => g + 1 + Q gs i
theorem V_nonneg : ∀ (gs : List Nat) (m : Nat), 0 ≤ V gs m
  | [], _ => Int.le_refl _
  | g :: gs, m => by
    have := V_nonneg gs (m / 2)
    have h := two_pow_pos g
    exact Int.mul_nonneg (by omega) (by omega)
theorem pl_get : ∀ (gs : List Nat) (a : Int) (i : Nat), i < gs.length → (pl a gs).getD i 0 = a + 1 + Q gs i
  | [], _, _, h => absurd h (Nat.not_lt_zero _)
  | g :: gs, a, 0, _ => rfl
  | g :: gs, a, i + 1, h => by
    show (pl (a + 1 + g) gs).getD i 0 = _
    rw [pl_get gs _ i (by simpa using h)]
    show _ = a + 1 + ((g + 1 + Q gs i : Nat) : Int)
    omega
theorem pl_length : ∀ (gs : List Nat) (a : Int), (pl a gs).length = gs.length
  | [], _ => rfl
  | _ :: gs, a => by simp [pl, pl_length gs]
theorem V_add : ∀ (gs : List Nat) (m b : Nat), b < gs.length → m / 2 ^ b % 2 = 0 → V gs (m + 2 ^ b) = 2 ^ (Q gs b) + V gs m
  | [], _, _, h, _ => absurd h (Nat.not_lt_zero _)
  | g :: gs, m, 0, _, h => by
    have h1 : m % 2 = 0 := by simpa using h
    show 2 ^ g * (((m + 2 ^ 0) % 2 : Nat) + 2 * V gs ((m + 2 ^ 0) / 2)) = 2 ^ g + 2 ^ g * ((m % 2 : Nat) + 2 * V gs (m / 2))
    rw [show (m + 2 ^ 0) % 2 = 1 by simp; omega, show (m + 2 ^ 0) / 2 = m / 2 by simp; omega, h1, Int.mul_add, Int.mul_add]
    simp
  | g :: gs, m, b + 1, hb, h => by
    have h1 : (m / 2) / 2 ^ b % 2 = 0 := by rw [Nat.div_div_eq_div_mul, Nat.mul_comm, ← Nat.pow_succ]; exact h
    have ih := V_add gs (m / 2) b (by simpa using hb) h1
    have e : 2 ^ (b + 1) = 2 * 2 ^ b := by rw [Nat.pow_succ, Nat.mul_comm]
    show 2 ^ g * (((m + 2 ^ (b + 1)) % 2 : Nat) + 2 * V gs ((m + 2 ^ (b + 1)) / 2)) = 2 ^ (g + 1 + Q gs b) + 2 ^ g * ((m % 2 : Nat) + 2 * V gs (m / 2))
    rw [e, show (m + 2 * 2 ^ b) % 2 = m % 2 by omega, show (m + 2 * 2 ^ b) / 2 = m / 2 + 2 ^ b by omega, ih, Int.pow_add, Int.pow_add]
    rw [Int.mul_add, Int.mul_add, Int.mul_add, Int.mul_add]
    have : (2 : Int) ^ g * (2 * 2 ^ Q gs b) = 2 ^ g * 2 ^ 1 * 2 ^ Q gs b := by rw [Int.mul_assoc]; rfl
    omega
theorem V_zero : ∀ gs : List Nat, V gs 0 = 0
  | [] => rfl
  | g :: gs => by simp [V, V_zero gs]
def mask (bs : List Nat) : Nat := (bs.map (2 ^ ·)).sum
theorem mask_cons (b : Nat) (bs : List Nat) : mask (b :: bs) = 2 ^ b + mask bs := by simp [mask]
theorem mask_lt : ∀ {bs : List Nat} {b : Nat}, bs.Pairwise (· > ·) → (∀ x ∈ bs, x < b) → mask bs < 2 ^ b := by
  intro bs
  induction bs with
  | nil => intro b _ _; exact Nat.two_pow_pos b
  | cons x xs ih =>
    intro b hd hb
    rw [List.pairwise_cons] at hd
    have h1 := ih hd.2 (fun y hy => hd.1 y hy)
    have h2 := Nat.pow_le_pow_right (n := 2) (by decide) (show x + 1 ≤ b from hb x List.mem_cons_self)
    rw [Nat.pow_succ] at h2
    rw [mask_cons]; omega
theorem numOf_V (gs : List Nat) : ∀ {bs : List Nat}, bs.Pairwise (· > ·) → (∀ x ∈ bs, x < gs.length) → numOf (pl (-1) gs) bs = V gs (mask bs) := by
  intro bs
  induction bs with
  | nil => intro _ _; rw [numOf_nil]; exact (V_zero gs).symm
  | cons b bs ih =>
    intro hd hb
    rw [List.pairwise_cons] at hd
    have hl := mask_lt hd.2 (fun y hy => hd.1 y hy)
    rw [numOf_cons, ih hd.2 (fun x hx => hb x (List.mem_cons_of_mem _ hx)), mask_cons, Nat.add_comm, V_add gs _ _ (hb b List.mem_cons_self) (by rw [Nat.div_eq_of_lt hl]), pl_get _ _ _ (hb b List.mem_cons_self)]
    congr 3
    omega

theorem xor_half (x y : Int) (a b : Int) (ha : a = 0 ∨ a = 1) (hb : b = 0 ∨ b = 1) : Builtin.bitXor (a + 2 * x) (b + 2 * y) = (a + b) % 2 + 2 * Builtin.bitXor x y := by
  rw [bitXor_and, bitXor_and, kbt_halves, show (a + 2 * x) / 2 = x by omega, show (b + 2 * y) / 2 = y by omega, show (a + 2 * x) % 2 = a by omega, show (b + 2 * y) % 2 = b by omega]
  rcases ha with rfl | rfl <;> rcases hb with rfl | rfl <;> simp <;> omega
theorem xor_pow (g : Nat) (x y : Int) : Builtin.bitXor (2 ^ g * x) (2 ^ g * y) = 2 ^ g * Builtin.bitXor x y := by
  induction g with
  | zero => simp
  | succ g ih =>
    have e : ∀ z : Int, 2 ^ (g + 1) * z = 0 + 2 * (2 ^ g * z) := by intro z; rw [Int.pow_succ, Int.mul_comm (2 ^ g) 2, Int.mul_assoc]; omega
    rw [e, e, xor_half _ _ 0 0 (.inl rfl) (.inl rfl), ih, e]; rfl
theorem V_xor : ∀ (gs : List Nat) (m m' : Nat), Builtin.bitXor (V gs m) (V gs m') = V gs (m ^^^ m')
  | [], _, _ => bitXor_self 0
  | g :: gs, m, m' => by
    show Builtin.bitXor (2 ^ g * ((m % 2 : Nat) + 2 * V gs (m / 2))) (2 ^ g * ((m' % 2 : Nat) + 2 * V gs (m' / 2))) = 2 ^ g * (((m ^^^ m') % 2 : Nat) + 2 * V gs ((m ^^^ m') / 2))
    rw [xor_pow, xor_half _ _ _ _ (by omega) (by omega), V_xor gs, Nat.xor_div_two]
    congr 2
    have := Nat.xor_mod_two_eq_one (a := m) (b := m')
    omega

theorem isb_even (a : Int) : isb (2 * a) = isb a := by
  unfold isb
  by_cases h : a = 0
  · subst h; rfl
  · rw [if_neg (by simp; omega), if_neg (by simpa using h), kbt_halves, show 2 * a / 2 = a by omega, show (2 * a - 1) / 2 = a - 1 by omega, if_neg (by omega)]
    rw [Bool.eq_iff_iff]; simp; omega
theorem and_self (x : Int) : Builtin.bitAnd x x = x := by
  have h1 := bitXor_and x x
  rw [bitXor_self] at h1; omega
theorem isb_odd (a : Int) : isb (1 + 2 * a) = (a == 0) := by
  unfold isb
  rw [if_neg (by simp; omega), kbt_halves, show (1 + 2 * a) / 2 = a by omega, show (1 + 2 * a - 1) / 2 = a by omega, if_neg (by omega), and_self]
  rw [Bool.eq_iff_iff]; simp; omega
theorem isb_pow (g : Nat) (a : Int) : isb (2 ^ g * a) = isb a := by
  induction g with
  | zero => simp
  | succ g ih => rw [Int.pow_succ, Int.mul_comm (2 ^ g) 2, Int.mul_assoc, isb_even, ih]
def one1 : Nat → Nat → Bool
  | 0, _ => false
  | l + 1, m => if m % 2 = 1 then m / 2 % 2 ^ l == 0 else one1 l (m / 2)
theorem V_eq_zero : ∀ (gs : List Nat) (m : Nat), (V gs m == 0) = (m % 2 ^ gs.length == 0)
  | [], m => by simp [V, Nat.mod_one]
  | g :: gs, m => by
    have ih := V_eq_zero gs (m / 2)
    have hp := two_pow_pos g
    have hv := V_nonneg gs (m / 2)
    rw [Bool.eq_iff_iff] at ih ⊢
    simp only [beq_iff_eq] at ih ⊢
    have e : (2 : Nat) ^ (g :: gs).length = 2 * 2 ^ gs.length := by rw [List.length_cons, Nat.pow_succ, Nat.mul_comm]
    rw [e, Nat.mod_mul]
    show 2 ^ g * (((m % 2 : Nat) : Int) + 2 * V gs (m / 2)) = 0 ↔ _
    constructor
    · intro h
      rcases Int.mul_eq_zero.mp h with h | h
      · omega
      · have : V gs (m / 2) = 0 := by omega
        have := ih.mp this
        omega
    · intro h
      have h2 := ih.mpr (by omega)
      rw [h2, show m % 2 = 0 by omega]; simp
theorem V_isb : ∀ (gs : List Nat) (m : Nat), isb (V gs m) = one1 gs.length m
  | [], _ => rfl
  | g :: gs, m => by
    show isb (2 ^ g * ((m % 2 : Nat) + 2 * V gs (m / 2))) = _
    rw [isb_pow]
    show _ = if m % 2 = 1 then m / 2 % 2 ^ gs.length == 0 else one1 gs.length (m / 2)
    by_cases h : m % 2 = 1
    · rw [if_pos h, h]
      show isb (1 + 2 * V gs (m / 2)) = _
      rw [isb_odd, V_eq_zero]
    · rw [if_neg h, show m % 2 = 0 by omega]
      show isb (0 + 2 * V gs (m / 2)) = _
      rw [Int.zero_add, isb_even, V_isb gs]
theorem V_one : ∀ (gs : List Nat) (i : Nat), i < gs.length → V gs (2 ^ i) = 2 ^ (Q gs i) := by
  intro gs i h
  have := V_add gs 0 i h (by simp)
  rw [Nat.zero_add, V_zero] at this
  omega
theorem V_bit : ∀ (gs : List Nat) (m i : Nat), i < gs.length → V gs m / 2 ^ (Q gs i) % 2 = (m / 2 ^ i % 2 : Nat)
  | [], _, _, h => absurd h (Nat.not_lt_zero _)
  | g :: gs, m, 0, _ => by
    show 2 ^ g * ((m % 2 : Nat) + 2 * V gs (m / 2)) / 2 ^ g % 2 = _
    rw [Int.mul_ediv_cancel_left _ (by have := two_pow_pos g; omega)]
    simp
  | g :: gs, m, i + 1, h => by
    show 2 ^ g * ((m % 2 : Nat) + 2 * V gs (m / 2)) / 2 ^ (g + 1 + Q gs i) % 2 = _
    rw [Int.pow_add, Int.pow_add, Int.mul_assoc, ← Int.ediv_ediv_of_nonneg (by have := two_pow_pos g; omega), Int.mul_ediv_cancel_left _ (by have := two_pow_pos g; omega), ← Int.ediv_ediv_of_nonneg (by decide), show (((m % 2 : Nat) : Int) + 2 * V gs (m / 2)) / 2 ^ 1 = V gs (m / 2) by omega, V_bit gs (m / 2) i (by simpa using h), Nat.div_div_eq_div_mul, Nat.pow_succ, Nat.mul_comm]
theorem Q_le : ∀ (gs : List Nat) (i : Nat), (∀ g ∈ gs, g ≤ 4) → i < gs.length → Q gs i + 1 ≤ 5 * gs.length
  | [], _, _, h => absurd h (Nat.not_lt_zero _)
  | g :: gs, 0, hg, _ => by have := hg g List.mem_cons_self; simp only [Q, List.length_cons]; omega
  | g :: gs, i + 1, hg, h => by
    have := hg g List.mem_cons_self
    have := Q_le gs i (fun x hx => hg x (List.mem_cons_of_mem _ hx)) (by simpa using h)
    simp only [Q, List.length_cons]; omega
end Mine

/-! part M2 -/
namespace Mine

/-! ## words -/
def dg : Nat → Nat → List UInt8
  | 0, _ => []
  | w + 1, x => dg w (x / 16) ++ [letter (x % 16)]
theorem dg_length : ∀ w x, (dg w x).length = w
  | 0, _ => rfl
  | w + 1, x => by simp [dg, dg_length w]
theorem ap_dg : ∀ (w x : Nat), x < 16 ^ w → ap (16 ^ w + x) = 66 :: dg w x
  | 0, x, h => by
    have : x = 0 := by simpa using h
    subst this
    rw [ap_pos (by decide), show (16 ^ 0 + 0) / 16 = 0 from rfl, ap_zero]
    decide
  | w + 1, x, h => by
    have hp : 0 < 16 ^ w := Nat.pow_pos (by decide)
    rw [Nat.pow_succ] at h ⊢
    rw [ap_pos (by omega), show (16 ^ w * 16 + x) / 16 = 16 ^ w + x / 16 by omega, show (16 ^ w * 16 + x) % 16 = x % 16 by omega, ap_dg w (x / 16) (by omega)]
    rfl
theorem dg_range : ∀ (w x : Nat), (List.range w).map (fun i => letter (x / 16 ^ (w - 1 - i) % 16)) = dg w x
  | 0, _ => rfl
  | w + 1, x => by
    rw [List.range_succ, List.map_append, dg, ← dg_range w (x / 16)]
    congr 1
    · apply List.map_congr_left
      intro i hi
      have := List.mem_range.mp hi
      rw [Nat.div_div_eq_div_mul, Nat.mul_comm, ← Nat.pow_succ, show w + 1 - 1 - i = (w - 1 - i).succ by omega]
    · simp
theorem wordI_dg (w x : Nat) : wordI w (x : Int) = 66 :: dg w x := by
  unfold wordI wordL downto
  rw [List.map_cons, ← dg_range, List.map_map, List.map_map, show ((w : Int) - 1 - -1).toNat = w by omega]
  congr 1
  apply List.map_congr_left
  intro i hi
  have := List.mem_range.mp hi
  simp only [Function.comp]
  rw [show ((w : Int) - 1 - (i : Int)).toNat = w - 1 - i by omega]
  have e : (65 + (x : Int) / 16 ^ (w - 1 - i) % 16).toNat = 65 + x / 16 ^ (w - 1 - i) % 16 := by
    have : ((x : Int) / 16 ^ (w - 1 - i) % 16) = ((x / 16 ^ (w - 1 - i) % 16 : Nat) : Int) := by norm_cast
    rw [this]; omega
  rw [e]; rfl
def unw (l : List UInt8) : Nat := l.foldl (fun a b => 16 * a + (b.toNat - 65)) 0
theorem letter_toNat {d : Nat} (h : d < 16) : (letter d).toNat = 65 + d := by
  have : ∀ d < 16, (letter d).toNat = 65 + d := by decide
  exact this d h
theorem unw_dg : ∀ w x, x < 16 ^ w → unw (dg w x) = x
  | 0, x, h => by have : x = 0 := by simpa using h
                  subst this; rfl
  | w + 1, x, h => by
    rw [Nat.pow_succ] at h
    have ih := unw_dg w (x / 16) (by omega)
    unfold unw at ih ⊢
    rw [dg, List.foldl_append, ih]
    simp only [List.foldl_cons, List.foldl_nil]
    rw [letter_toNat (by omega)]; omega
theorem dg_inj {w x y : Nat} (hx : x < 16 ^ w) (hy : y < 16 ^ w) (h : dg w x = dg w y) : x = y := by rw [← unw_dg w x hx, ← unw_dg w y hy, h]

/-! ## drops -/
theorem mem_dropIn {word z : List UInt8} {k : Nat} {acc : List (List UInt8)} {o : Int} : z ∈ dropIn word k acc o ↔ z ∈ acc ∨ ((((word.getD k 0).toNat : Int) - 65) / o % 2 = 1 ∧ z = dropOne word k o) := by
  unfold dropIn
  split
  · rename_i h
    simp only [beq_iff_eq] at h
    simp only [h, true_and, List.mem_append, List.mem_singleton]
  · rename_i h
    simp only [beq_iff_eq] at h
    simp only [h, false_and, or_false]
theorem mem_dropAt {word z : List UInt8} {acc : List (List UInt8)} {k : Int} : z ∈ dropAt word acc k ↔ z ∈ acc ∨ ((65 : Int) < (word.getD k.toNat 0).toNat ∧ ∃ o ∈ [(1 : Int), 2, 4, 8], (((word.getD k.toNat 0).toNat : Int) - 65) / o % 2 = 1 ∧ z = dropOne word k.toNat o) := by
  unfold dropAt
  split
  · rename_i h
    simp only [List.foldl_cons, List.foldl_nil, mem_dropIn, h, true_and, List.mem_cons, List.not_mem_nil, or_false]
    constructor
    · rintro ((((h | h) | h) | h) | h)
      · exact .inl h
      · exact .inr ⟨1, .inl rfl, h⟩
      · exact .inr ⟨2, .inr (.inl rfl), h⟩
      · exact .inr ⟨4, .inr (.inr (.inl rfl)), h⟩
      · exact .inr ⟨8, .inr (.inr (.inr rfl)), h⟩
    · rintro (h | ⟨o, rfl | rfl | rfl | rfl, h⟩)
      · exact .inl (.inl (.inl (.inl h)))
      · exact .inl (.inl (.inl (.inr h)))
      · exact .inl (.inl (.inr h))
      · exact .inl (.inr h)
      · exact .inr h
  · rename_i h
    simp only [h, false_and, or_false]
theorem mem_dropsOf {word z : List UInt8} : z ∈ dropsOf word ↔ ∃ k ∈ upto 1 (word.length : Nat), (65 : Int) < (word.getD k.toNat 0).toNat ∧ ∃ o ∈ [(1 : Int), 2, 4, 8], (((word.getD k.toNat 0).toNat : Int) - 65) / o % 2 = 1 ∧ z = dropOne word k.toNat o := by
  unfold dropsOf
  have key : ∀ (ks : List Int) (acc : List (List UInt8)), z ∈ ks.foldl (dropAt word) acc ↔ z ∈ acc ∨ ∃ k ∈ ks, (65 : Int) < (word.getD k.toNat 0).toNat ∧ ∃ o ∈ [(1 : Int), 2, 4, 8], (((word.getD k.toNat 0).toNat : Int) - 65) / o % 2 = 1 ∧ z = dropOne word k.toNat o := by
    intro ks
    induction ks with
    | nil => intro acc; simp
    | cons k ks ih =>
      intro acc
      rw [List.foldl_cons, ih, mem_dropAt]
      constructor
      · rintro ((h | h) | ⟨k', hk, h⟩)
        · exact .inl h
        · exact .inr ⟨k, List.mem_cons_self, h⟩
        · exact .inr ⟨k', List.mem_cons_of_mem _ hk, h⟩
      · rintro (h | ⟨k', hk, h⟩)
        · exact .inl (.inl h)
        · rcases List.mem_cons.mp hk with rfl | hk
          · exact .inl (.inr h)
          · exact .inr ⟨k', hk, h⟩
  rw [key]; simp
theorem dg_get {w x i : Nat} (h : i < w) : (66 :: dg w x).getD (i + 1) 0 = letter (x / 16 ^ (w - 1 - i) % 16) := by
  rw [← dg_range, List.getD_eq_getElem?_getD, List.getElem?_cons_succ, List.getElem?_map, List.getElem?_range h]; rfl
theorem low_digit {x y o p q : Nat} (hx : x = y + o * 16 ^ p) (hq : q < p) : x / 16 ^ q % 16 = y / 16 ^ q % 16 := by
  obtain ⟨r, rfl⟩ : ∃ r, p = q + (r + 1) := ⟨p - q - 1, by omega⟩
  have e : y + o * 16 ^ (q + (r + 1)) = y + 16 ^ q * (o * 16 ^ r * 16) := by rw [Nat.pow_add, Nat.pow_succ]; ac_rfl
  rw [hx, e, Nat.add_mul_div_left _ _ (Nat.pow_pos (by decide))]; omega
theorem high_digit {x y o p q : Nat} (hx : x = y + o * 16 ^ p) (ho : o ≤ x / 16 ^ p % 16) (hq : p < q) : x / 16 ^ q = y / 16 ^ q := by
  obtain ⟨r, rfl⟩ : ∃ r, q = p + 1 + r := ⟨q - p - 1, by omega⟩
  have hp : 0 < 16 ^ p := Nat.pow_pos (by decide)
  have h1 : x / 16 ^ p = y / 16 ^ p + o := by rw [hx, Nat.mul_comm, Nat.add_mul_div_left _ _ hp]
  rw [Nat.pow_add, Nat.pow_succ, ← Nat.div_div_eq_div_mul, ← Nat.div_div_eq_div_mul, ← Nat.div_div_eq_div_mul, ← Nat.div_div_eq_div_mul]
  congr 1
  omega
theorem drop_dg {w x i o : Nat} (hi : i < w) (ho : o ≤ x / 16 ^ (w - 1 - i) % 16) : dropOne (66 :: dg w x) (i + 1) (o : Int) = 66 :: dg w (x - o * 16 ^ (w - 1 - i)) := by
  unfold dropOne
  have hp : 0 < 16 ^ (w - 1 - i) := Nat.pow_pos (by decide)
  have hle : o * 16 ^ (w - 1 - i) ≤ x := by
    have h1 : o ≤ x / 16 ^ (w - 1 - i) := Nat.le_trans ho (Nat.mod_le _ _)
    exact Nat.le_trans (Nat.mul_le_mul_right _ h1) (Nat.div_mul_le_self _ _)
  obtain ⟨y, hy⟩ : ∃ y, x - o * 16 ^ (w - 1 - i) = y := ⟨_, rfl⟩
  have hx : x = y + o * 16 ^ (w - 1 - i) := by omega
  rw [hy, dg_get hi, letter_toNat (Nat.mod_lt _ (by decide))]
  have hy2 : x / 16 ^ (w - 1 - i) = y / 16 ^ (w - 1 - i) + o := by
    conv => lhs; rw [hx, Nat.mul_comm, Nat.add_mul_div_left _ _ hp]
  have hd : y / 16 ^ (w - 1 - i) % 16 = x / 16 ^ (w - 1 - i) % 16 - o := by omega
  have e : (((65 + x / 16 ^ (w - 1 - i) % 16 : Nat) : Int) - (o : Int)).toNat.toUInt8 = letter (y / 16 ^ (w - 1 - i) % 16) := by
    rw [hd]; unfold letter; congr 1; omega
  rw [e, List.take_succ_cons, List.drop_succ_cons, List.cons_append, List.cons_append]
  congr 1
  rw [List.append_assoc, List.singleton_append]
  have hs := List.set_eq_take_append_cons_drop (l := dg w x) (i := i) (a := letter (y / 16 ^ (w - 1 - i) % 16))
  rw [if_pos (by rw [dg_length]; exact hi)] at hs
  rw [← hs]
  apply List.ext_getElem?
  intro j
  by_cases hj : j < w
  · have gx : (dg w x)[j]? = some (letter (x / 16 ^ (w - 1 - j) % 16)) := by rw [← dg_range, List.getElem?_map, List.getElem?_range hj]; rfl
    have gy : (dg w y)[j]? = some (letter (y / 16 ^ (w - 1 - j) % 16)) := by rw [← dg_range, List.getElem?_map, List.getElem?_range hj]; rfl
    rw [List.getElem?_set, gx, gy, dg_length]
    rcases Nat.lt_trichotomy i j with q | q | q
    · rw [if_neg (by omega), low_digit hx (show w - 1 - j < w - 1 - i by omega)]
    · subst q; rw [if_pos rfl, if_pos hi]
    · rw [if_neg (by omega), high_digit hx ho (show w - 1 - i < w - 1 - j by omega)]
  · rw [List.getElem?_eq_none (by rw [List.length_set, dg_length]; omega), List.getElem?_eq_none (by rw [dg_length]; omega)]

theorem drops_iff {w x y : Nat} (hx : x < 16 ^ w) (hy : y < 16 ^ w) : (dropsOf (wordI w (x : Int))).any (· == wordI w (y : Int)) = true ↔ ∃ e, x / 2 ^ e % 2 = 1 ∧ y + 2 ^ e = x := by
  rw [List.any_eq_true]
  simp only [beq_iff_eq, wordI_dg]
  have dig : ∀ i o : Nat, i < w → o ∈ [1, 2, 4, 8] → (x / 16 ^ (w - 1 - i) % 16) / o % 2 = 1 → o ≤ x / 16 ^ (w - 1 - i) % 16 := by
    intro i o _ ho h
    have : o = 1 ∨ o = 2 ∨ o = 4 ∨ o = 8 := by simpa using ho
    rcases this with rfl | rfl | rfl | rfl <;> omega
  have bit : ∀ i r : Nat, i < w → r < 4 → ((x / 16 ^ (w - 1 - i) % 16) / 2 ^ r % 2 = 1 ↔ x / 2 ^ (4 * (w - 1 - i) + r) % 2 = 1) := by
    intro i r _ hr
    rw [Nat.pow_add, Nat.pow_mul, show (2 : Nat) ^ 4 = 16 from rfl, ← Nat.div_div_eq_div_mul]
    generalize x / 16 ^ (w - 1 - i) = z
    rcases (by omega : r = 0 ∨ r = 1 ∨ r = 2 ∨ r = 3) with rfl | rfl | rfl | rfl <;> simp <;> omega
  have pw : ∀ i r : Nat, 2 ^ r * 16 ^ (w - 1 - i) = 2 ^ (4 * (w - 1 - i) + r) := by
    intro i r
    rw [Nat.pow_add, Nat.pow_mul, show (2 : Nat) ^ 4 = 16 from rfl, Nat.mul_comm]
  constructor
  · rintro ⟨z, hz, rfl⟩
    obtain ⟨k, hk, h65, o, ho, hb, he⟩ := mem_dropsOf.mp hz
    have hk' := mem_upto hk
    rw [List.length_cons, dg_length] at hk'
    obtain ⟨i, rfl⟩ : ∃ i : Nat, k = ((i + 1 : Nat) : Int) := ⟨(k - 1).toNat, by omega⟩
    have hi : i < w := by omega
    rw [Int.toNat_natCast] at hb he
    rw [dg_get hi, letter_toNat (Nat.mod_lt _ (by decide))] at hb
    obtain ⟨r, hr, rfl⟩ : ∃ r : Nat, r < 4 ∧ o = ((2 ^ r : Nat) : Int) := by
      have : o = 1 ∨ o = 2 ∨ o = 4 ∨ o = 8 := by simpa using ho
      rcases this with rfl | rfl | rfl | rfl
      · exact ⟨0, by decide, rfl⟩
      · exact ⟨1, by decide, rfl⟩
      · exact ⟨2, by decide, rfl⟩
      · exact ⟨3, by decide, rfl⟩
    have hb' : (x / 16 ^ (w - 1 - i) % 16) / 2 ^ r % 2 = 1 := by
      have e1 : (((65 + x / 16 ^ (w - 1 - i) % 16 : Nat) : Int) - 65) = ((x / 16 ^ (w - 1 - i) % 16 : Nat) : Int) := by omega
      rw [e1] at hb
      exact_mod_cast hb
    have hmem : 2 ^ r ∈ [1, 2, 4, 8] := by
      rcases (by omega : r = 0 ∨ r = 1 ∨ r = 2 ∨ r = 3) with rfl | rfl | rfl | rfl <;> decide
    have hle := dig i _ hi hmem hb'
    rw [drop_dg hi hle] at he
    injection he with _ he
    have hle2 : 2 ^ r * 16 ^ (w - 1 - i) ≤ x := Nat.le_trans (Nat.mul_le_mul_right _ (Nat.le_trans hle (Nat.mod_le _ _))) (Nat.div_mul_le_self _ _)
    have hxy := dg_inj hy (by omega) he
    refine ⟨4 * (w - 1 - i) + r, (bit i r hi hr).mp hb', ?_⟩
    rw [← pw]; omega
  · rintro ⟨e, hb, hxy⟩
    have hw : e < 4 * w := by
      have h1 : 2 ^ e ≤ x := by omega
      have h2 : 2 ^ e < 2 ^ (4 * w) := by rw [Nat.pow_mul]; exact Nat.lt_of_le_of_lt h1 hx
      exact (Nat.pow_lt_pow_iff_right (by decide)).mp h2
    obtain ⟨i, r, hi, hr, rfl⟩ : ∃ i r, i < w ∧ r < 4 ∧ e = 4 * (w - 1 - i) + r := ⟨w - 1 - e / 4, e % 4, by omega, by omega, by omega⟩
    have hb' := (bit i r hi hr).mpr hb
    have hmem : 2 ^ r ∈ [1, 2, 4, 8] := by
      rcases (by omega : r = 0 ∨ r = 1 ∨ r = 2 ∨ r = 3) with rfl | rfl | rfl | rfl <;> decide
    have hle := dig i _ hi hmem hb'
    refine ⟨_, mem_dropsOf.mpr ⟨((i + 1 : Nat) : Int), ?_, ?_, ((2 ^ r : Nat) : Int), ?_, ?_, rfl⟩, ?_⟩
    · unfold upto
      rw [List.length_cons, dg_length]
      exact List.mem_map.mpr ⟨i, List.mem_range.mpr (by omega), by omega⟩
    · rw [Int.toNat_natCast, dg_get hi, letter_toNat (Nat.mod_lt _ (by decide))]
      have : 0 < 2 ^ r := Nat.two_pow_pos r
      omega
    · rcases (by omega : r = 0 ∨ r = 1 ∨ r = 2 ∨ r = 3) with rfl | rfl | rfl | rfl <;> decide
    · rw [Int.toNat_natCast, dg_get hi, letter_toNat (Nat.mod_lt _ (by decide)), show (((65 + x / 16 ^ (w - 1 - i) % 16 : Nat) : Int) - 65) = ((x / 16 ^ (w - 1 - i) % 16 : Nat) : Int) by omega]
      exact_mod_cast hb'
    · rw [Int.toNat_natCast, drop_dg hi hle, pw]
      congr 2
      omega
theorem xor_drop : ∀ (e : Nat) (x : Int), x / 2 ^ e % 2 = 1 → Builtin.bitXor x (x - 2 ^ e) = 2 ^ e
  | 0, x, h => by
    have h1 : x = 1 + 2 * (x / 2) := by simp at h; omega
    have h2 : x - 2 ^ 0 = 0 + 2 * (x / 2) := by simp; omega
    rw [h2]
    conv => lhs; rw [h1]
    rw [show (1 + 2 * (x / 2)) / 2 = x / 2 by omega, xor_half _ _ 1 0 (.inr rfl) (.inl rfl), bitXor_self]; rfl
  | e + 1, x, h => by
    have h0 : x / 2 / 2 ^ e % 2 = 1 := by rw [Int.ediv_ediv_of_nonneg (by decide), Int.mul_comm, ← Int.pow_succ]; exact h
    have ih := xor_drop e (x / 2) h0
    have e1 : (2 : Int) ^ (e + 1) = 2 * 2 ^ e := by rw [Int.pow_succ, Int.mul_comm]
    have h1 : x = x % 2 + 2 * (x / 2) := by omega
    have h2 : x - 2 ^ (e + 1) = x % 2 + 2 * (x / 2 - 2 ^ e) := by rw [e1]; omega
    rw [h2]
    have h3 := xor_half (x / 2) (x / 2 - 2 ^ e) (x % 2) (x % 2) (by omega) (by omega)
    rw [← h1, ih] at h3
    rw [h3, e1]; omega
theorem isb_two (e : Nat) : isb (2 ^ e) = true := by
  have := isb_pow e 1
  rw [Int.mul_one] at this
  rw [this]; decide
end Mine

/-! part M3a -/
namespace Mine
def pop : Nat → Nat → Nat
  | 0, _ => 0
  | m + 1, a => a % 2 + pop m (a / 2)
def chk (M : Nat) (D : List Nat) : List Nat → Nat → Nat → Bool
  | [], acc, cnt => Nat.ble (D.getD cnt 0) (pop M acc)
  | r :: rs, acc, cnt => Nat.ble (D.getD (cnt + (rs.length + 1)) 0) (pop M acc) || (chk M D rs acc cnt && chk M D rs (acc ||| r) (cnt + 1))
def chkB (D : List Nat) : Nat → Nat → Nat → List Nat → Bool
  | 0, _, inn, rows => Nat.ble (D.getD rows.length 0) inn
  | m + 1, j, inn, rows => Nat.ble (D.getD rows.length 0) inn || (chkB D m (j + 1) (inn + 1) rows && chkB D m (j + 1) inn (rows.filter fun r => !r.testBit j))
theorem pop_or : ∀ M a b, pop M a ≤ pop M (a ||| b)
  | 0, _, _ => Nat.le_refl _
  | M + 1, a, b => by
    have ih := pop_or M (a / 2) (b / 2)
    rw [← Nat.or_div_two] at ih
    have h1 := Nat.or_mod_two_eq_one (a := a) (b := b)
    show a % 2 + pop M (a / 2) ≤ (a ||| b) % 2 + pop M ((a ||| b) / 2)
    omega
theorem pop_ors (M : Nat) : ∀ (R : List Nat) (a : Nat), pop M a ≤ pop M (R.foldl (· ||| ·) a)
  | [], _ => Nat.le_refl _
  | r :: R, a => Nat.le_trans (pop_or M a r) (pop_ors M R (a ||| r))
theorem chk_ok {M N : Nat} {D : List Nat} (hD : ∀ j < N, ∀ i < j, D.getD i 0 ≤ D.getD j 0) : ∀ (rows : List Nat) (acc cnt : Nat), cnt + rows.length < N → chk M D rows acc cnt = true →
    ∀ R : List Nat, R.Sublist rows → D.getD (cnt + R.length) 0 ≤ pop M (R.foldl (· ||| ·) acc)
  | [], acc, cnt, _, h, R, hs => by
    rw [List.sublist_nil.mp hs]
    exact Nat.le_of_ble_eq_true h
  | r :: rs, acc, cnt, hn, h, R, hs => by
    rw [List.length_cons] at hn
    unfold chk at h
    rw [Bool.or_eq_true, Bool.and_eq_true] at h
    rcases h with h | ⟨h1, h2⟩
    · have hl := hs.length_le
      rw [List.length_cons] at hl
      have h3 := Nat.le_of_ble_eq_true h
      refine Nat.le_trans ?_ (Nat.le_trans h3 (pop_ors M R acc))
      rcases Nat.lt_or_ge (cnt + R.length) (cnt + (rs.length + 1)) with q | q
      · exact hD _ (by omega) _ q
      · rw [show cnt + R.length = cnt + (rs.length + 1) by omega]; exact Nat.le_refl _
    · cases hs with
      | cons _ hs => exact chk_ok hD rs acc cnt (by omega) h1 R hs
      | @cons_cons R' _ _ hs =>
        have := chk_ok hD rs (acc ||| r) (cnt + 1) (by omega) h2 R' hs
        rw [List.length_cons, List.foldl_cons, show cnt + (R'.length + 1) = cnt + 1 + R'.length by omega]
        exact this
theorem pop_count : ∀ (M a : Nat), pop M a = ((List.range M).filter a.testBit).length
  | 0, _ => rfl
  | M + 1, a => by
    rw [List.range_succ_eq_map, List.filter_cons, List.filter_map, pop, pop_count M (a / 2)]
    have e : (a.testBit ∘ Nat.succ) = (a / 2).testBit := by funext i; simp [Nat.testBit_succ]
    rw [e, Nat.testBit_zero]
    by_cases h : a % 2 = 1
    · rw [if_pos (by simpa using h), List.length_cons, List.length_map]; omega
    · rw [if_neg (by simpa using h), List.length_map]; omega
theorem D_le {N : Nat} {D : List Nat} (hD : ∀ j < N, ∀ i < j, D.getD i 0 ≤ D.getD j 0) {a b : Nat} (h : a ≤ b) (hb : b < N) : D.getD a 0 ≤ D.getD b 0 := by
  rcases Nat.lt_or_ge a b with q | q
  · exact hD b hb a q
  · rw [show a = b by omega]; exact Nat.le_refl _
theorem chkB_ok {N : Nat} {D : List Nat} (hD : ∀ j < N, ∀ i < j, D.getD i 0 ≤ D.getD j 0) (U : Nat) : ∀ (m j inn : Nat) (rows : List Nat), rows.length < N → chkB D m j inn rows = true →
    ∀ R : List Nat, R.Sublist rows → (∀ r ∈ R, ∀ i, r.testBit i = true → U.testBit i = true) → D.getD R.length 0 ≤ inn + pop m (U / 2 ^ j)
  | 0, j, inn, rows, hn, h, R, hs, _ => Nat.le_trans (D_le hD hs.length_le hn) (Nat.le_trans (Nat.le_of_ble_eq_true h) (Nat.le_add_right _ _))
  | m + 1, j, inn, rows, hn, h, R, hs, hu => by
    unfold chkB at h
    rw [Bool.or_eq_true, Bool.and_eq_true] at h
    have e : U / 2 ^ j / 2 = U / 2 ^ (j + 1) := by rw [Nat.div_div_eq_div_mul, Nat.pow_succ]
    show _ ≤ inn + (U / 2 ^ j % 2 + pop m (U / 2 ^ j / 2))
    rw [e]
    rcases h with h | ⟨h1, h2⟩
    · have := D_le hD hs.length_le hn
      have := Nat.le_of_ble_eq_true h
      omega
    · by_cases q : U.testBit j = true
      · have := chkB_ok hD U m (j + 1) (inn + 1) rows hn h1 R hs hu
        have q' : U / 2 ^ j % 2 = 1 := by simpa [Nat.testBit_eq_decide_div_mod_eq] using q
        omega
      · have hf : R.filter (fun r => !r.testBit j) = R := by
          rw [List.filter_eq_self]
          intro r hr
          cases t : r.testBit j with
          | false => rfl
          | true => exact absurd (hu r hr j t) q
        have hs2 := hs.filter (fun r => !r.testBit j)
        rw [hf] at hs2
        have := chkB_ok hD U m (j + 1) inn _ (Nat.lt_of_le_of_lt (List.length_filter_le _ _) hn) h2 R hs2 hu
        omega
theorem or_bits (i : Nat) : ∀ (R : List Nat) (a : Nat), (a.testBit i = true → (R.foldl (· ||| ·) a).testBit i = true) ∧ ∀ r ∈ R, r.testBit i = true → (R.foldl (· ||| ·) a).testBit i = true
  | [], a => ⟨id, fun r hr => by cases hr⟩
  | x :: R, a => by
    have ih := or_bits i R (a ||| x)
    refine ⟨fun h => ih.1 (by rw [Nat.testBit_or, h]; rfl), fun r hr h => ?_⟩
    rcases List.mem_cons.mp hr with rfl | hr
    · exact ih.1 (by rw [Nat.testBit_or, h, Bool.or_true])
    · exact ih.2 r hr h
theorem chkB_all {M N : Nat} {D : List Nat} (hD : ∀ j < N, ∀ i < j, D.getD i 0 ≤ D.getD j 0) (rows : List Nat) (hn : rows.length < N) (h : chkB D M 0 0 rows = true) (R : List Nat) (hs : R.Sublist rows) : D.getD R.length 0 ≤ pop M (R.foldl (· ||| ·) 0) := by
  have := chkB_ok hD (R.foldl (· ||| ·) 0) M 0 0 rows hn h R hs fun r hr i hi => (or_bits i R 0).2 r hr hi
  simpa using this
end Mine

/-! part M3b -/
namespace Mine
/-! ## the search, with packed tables -/
def tab (x : Nat) : Nat := 691891631198144392856559290268183413079358697706568855457126045549567151088131691256626159056844317618317923606893351643854468403619043166814076576414268406326350923042017063301076029212981813820886919023201834597812901077391424196553977413717454895703075866534550517438105614166057806665998121116531295109689203875226550385671292864339073848932627294921111414458750574984356947255711960357219955671903730422407417440176864161555058810512547260001497845276262617956733113709245299355299752976167191424794909384033701045106410182777541842746488003463172238779362120797824316313995566458595695663231716811629701661978332670584337785522496192446517623708042648828658246934940923359184773613698346691450602677467744274600681034513233152844416435211660154309936063013525879158435914870983724555214555273057434592165555363815217522168032015953599143577327254351958092045457434946665763835491478172321915335078720581711880441120768020105460112867763827221107738879880274733212236587000790378039248184331915894421225801759436105632157507993068486763007017993245207393048855564932976062782041797226457386880135454852809196006524511772020756940829358804825465443494801516909017007020981467251299052172145039322024649071247711858340863347335440 / 16 ^ x % 16
theorem tab_ok : ∀ x < 1024, tab x = pop 10 x := by decide +kernel
def popF (a : Nat) : Nat := tab (a % 1024) + tab (a / 1024 % 1024)
theorem pop_mod : ∀ (m a : Nat), pop m (a % 2 ^ m) = pop m a
  | 0, _ => rfl
  | m + 1, a => by
    have e : (2 : Nat) ^ (m + 1) = 2 * 2 ^ m := by rw [Nat.pow_succ, Nat.mul_comm]
    show a % 2 ^ (m + 1) % 2 + pop m (a % 2 ^ (m + 1) / 2) = a % 2 + pop m (a / 2)
    rw [e, Nat.mod_mul_right_mod, Nat.mod_mul_right_div_self, pop_mod m (a / 2)]
theorem pop_split : ∀ (m n a : Nat), pop (m + n) a = pop m a + pop n (a / 2 ^ m)
  | 0, n, a => by rw [Nat.zero_add, Nat.pow_zero, Nat.div_one]; show _ = 0 + _; rw [Nat.zero_add]
  | m + 1, n, a => by
    have ih := pop_split m n (a / 2)
    rw [show m + 1 + n = (m + n) + 1 by omega]
    show a % 2 + pop (m + n) (a / 2) = a % 2 + pop m (a / 2) + pop n (a / 2 ^ (m + 1))
    rw [ih, Nat.div_div_eq_div_mul, Nat.pow_succ, Nat.mul_comm 2, Nat.add_assoc]
theorem popF_ok (a : Nat) : popF a = pop 20 a := by
  unfold popF
  rw [tab_ok _ (Nat.mod_lt _ (by decide)), tab_ok _ (Nat.mod_lt _ (by decide)), pop_split 10 10 a]
  show pop 10 (a % 2 ^ 10) + pop 10 (a / 2 ^ 10 % 2 ^ 10) = _
  rw [pop_mod, pop_mod]
def dp (L u : Nat) : Nat := L / 32 ^ u % 32
theorem dp_ok {L : Nat} {D : List Nat} (h1 : ∀ u < D.length, dp L u = D.getD u 0) (h2 : L < 32 ^ D.length) (u : Nat) : dp L u = D.getD u 0 := by
  by_cases q : u < D.length
  · exact h1 u q
  · rw [List.getD_eq_getElem?_getD, List.getElem?_eq_none (by omega)]
    unfold dp
    rw [Nat.div_eq_of_lt (Nat.lt_of_lt_of_le h2 (Nat.pow_le_pow_right (by decide) (by omega)))]
    rfl
def chkF (L : Nat) : List Nat → Nat → Nat → Bool
  | [], acc, u => Nat.ble (dp L u) (popF acc)
  | r :: rs, acc, u => Nat.ble (dp L u) (popF acc) || (chkF L rs acc (u - 1) && chkF L rs (acc ||| r) u)
theorem chkF_ok {L : Nat} {D : List Nat} (hd : ∀ u, dp L u = D.getD u 0) : ∀ (rows : List Nat) (acc cnt : Nat), chkF L rows acc (cnt + rows.length) = chk 20 D rows acc cnt
  | [], acc, cnt => by
    show Nat.ble (dp L cnt) (popF acc) = Nat.ble (D.getD cnt 0) (pop 20 acc)
    rw [hd, popF_ok]
  | r :: rs, acc, cnt => by
    have i1 := chkF_ok hd rs acc cnt
    have i2 := chkF_ok hd rs (acc ||| r) (cnt + 1)
    unfold chkF chk
    rw [List.length_cons, show cnt + (rs.length + 1) - 1 = cnt + rs.length by omega, i1, hd, popF_ok, show cnt + (rs.length + 1) = cnt + 1 + rs.length by omega, i2]
/-- the rows that a mask tells -/
def atM : List Nat → Nat → List Nat
  | [], _ => []
  | r :: rows, m => if m % 2 = 1 then r :: atM rows (m / 2) else atM rows (m / 2)
theorem atM_length : ∀ (rows : List Nat) (m : Nat), (atM rows m).length = pop rows.length m
  | [], _ => rfl
  | r :: rows, m => by
    show (if m % 2 = 1 then r :: atM rows (m / 2) else atM rows (m / 2)).length = m % 2 + pop rows.length (m / 2)
    rw [← atM_length rows (m / 2)]
    split
    · rw [List.length_cons]; omega
    · omega
def colOk : List Nat → Nat → Nat → Bool
  | [], _, _ => true
  | r :: rows, n, j => (n % 2 == if r.testBit j then 0 else 1) && colOk rows (n / 2) j
theorem atM_filter (j : Nat) : ∀ (rows : List Nat) (m n : Nat), colOk rows n j = true → (atM rows m).filter (fun r => !r.testBit j) = atM rows (m &&& n)
  | [], _, _, _ => rfl
  | r :: rows, m, n, h => by
    unfold colOk at h
    rw [Bool.and_eq_true, beq_iff_eq] at h
    have ih := atM_filter j rows (m / 2) (n / 2) h.2
    have e2 : (m &&& n) % 2 = 1 ↔ m % 2 = 1 ∧ n % 2 = 1 := Nat.and_mod_two_eq_one
    unfold atM
    rw [Nat.and_div_two, ← ih]
    by_cases q : m % 2 = 1
    · rw [if_pos q, List.filter_cons]
      cases t : r.testBit j with
      | true =>
        rw [t, if_pos rfl] at h
        rw [if_neg (by simp), if_neg (by rw [e2]; omega)]
      | false =>
        rw [t, if_neg (by simp)] at h
        rw [if_pos (by simp), if_pos (e2.mpr ⟨q, h.1⟩)]
    · rw [if_neg q, if_neg (by rw [e2]; omega)]
def chkC (L : Nat) : List Nat → Nat → Nat → Bool
  | [], inn, m => Nat.ble (dp L (popF m)) inn
  | n :: ns, inn, m => Nat.ble (dp L (popF m)) inn || (chkC L ns (inn + 1) m && chkC L ns inn (m &&& n))
def colsOk (rows : List Nat) : List Nat → Nat → Bool
  | [], _ => true
  | n :: ns, j => colOk rows n j && colsOk rows ns (j + 1)
theorem chkC_ok {L : Nat} {D rows : List Nat} (hd : ∀ u, dp L u = D.getD u 0) (hl : rows.length = 20) : ∀ (ns : List Nat) (j inn m : Nat), colsOk rows ns j = true → chkC L ns inn m = chkB D ns.length j inn (atM rows m)
  | [], j, inn, m, _ => by
    show Nat.ble (dp L (popF m)) inn = Nat.ble (D.getD (atM rows m).length 0) inn
    rw [hd, popF_ok, atM_length, hl]
  | n :: ns, j, inn, m, h => by
    unfold colsOk at h
    rw [Bool.and_eq_true] at h
    have i1 := chkC_ok hd hl ns (j + 1) (inn + 1) m h.2
    have i2 := chkC_ok hd hl ns (j + 1) inn (m &&& n) h.2
    unfold chkC
    rw [i1, i2, ← atM_filter j rows m n h.1, hd, popF_ok, ← hl, ← atM_length]
    rfl
def dl3 : Nat := 19628137078152969949979588367456
def dl4 : Nat := 779950950339440896416896
def ncol3 : List Nat := [1047532, 1046490, 1044406, 1040249, 1031925, 1015283, 982863, 917167, 785823, 523391, 971775, 895999, 747519, 466943, 65535]
end Mine

/-! part M3 -/
namespace Mine
def bStep (t : List (List (List Nat))) (i : Nat) : List (List (List Nat)) := [[]] :: (upto 1 5).map fun s => t.getD s.toNat [] ++ (t.getD (s - 1).toNat []).map (i :: ·)
def bS : List (List (List Nat)) := [0, 1, 2, 3, 4, 5].foldl bStep [[[]], [], [], [], []]
def adjT (T : List Nat) (k j : Nat) : Bool := (T.getD k 0).testBit j
structure Dat (s : Nat) (bls lls : List (List Nat)) (T D : List Nat) : Prop where
  s2 : 2 ≤ s
  s4 : s ≤ 4
  tL : bS.getD (s - 1) [] = lls
  tS : bS.getD s [] ++ [6 :: (List.range (s - 1)).reverse] = bls
  bits : ∀ bs ∈ bls, bs.Pairwise (· > ·) ∧ (∀ b ∈ bs, b < 7) ∧ bs.length = s
  lbits : ∀ bs ∈ lls, bs.Pairwise (· > ·) ∧ (∀ b ∈ bs, b < 7)
  rank : ∀ k < bls.length, rankOf s (bls.getD k []) = k
  bl1 : 1 ≤ bls.length
  bl50 : bls.length ≤ 50
  ll50 : lls.length ≤ 50
  near : ∀ k < bls.length - 1, one1 7 (mask (bls.getD k []) ^^^ mask (bls.getD (k + 1) [])) = false
  adj : ∀ k < bls.length, ∀ j < lls.length, one1 7 (mask (bls.getD k []) ^^^ mask (lls.getD j [])) = adjT T k j
  adjI : ∀ k < bls.length, ∀ j < lls.length, adjT T k j = true → ∃ i ∈ List.range 7, mask (bls.getD k []) = mask (lls.getD j []) + 2 ^ i ∧ mask (lls.getD j []) / 2 ^ i % 2 = 0 ∧ mask (bls.getD k []) / 2 ^ i % 2 = 1
  due : ∀ k < bls.length, dueOf s (bls.getD k []) = (D.getD k 0 : Nat) ∧ D.getD k 0 ≤ 1000
  kk1 : ∀ m < bls.length, shadow (adjT T) m lls.length = upto 0 (D.getD m 0 : Nat)
  row : ∀ k < bls.length - 1, ((upto 0 (lls.length : Nat)).filter fun j => adjT T k j.toNat).length = s
  mono : ∀ j < bls.length, ∀ i < j, D.getD i 0 ≤ D.getD j 0
  tlen : T.length = bls.length
  kkR : ∀ R : List Nat, R.Sublist (T.take (bls.length - 1)) → D.getD R.length 0 ≤ pop lls.length (R.foldl (· ||| ·) 0)
def bl2 : List (List Nat) := [[1, 0], [2, 0], [2, 1], [3, 0], [3, 1], [3, 2], [4, 0], [4, 1], [4, 2], [4, 3], [5, 0], [5, 1], [5, 2], [5, 3], [5, 4], [6, 0]]
def ll2 : List (List Nat) := [[0], [1], [2], [3], [4], [5]]
def row2 : List Nat := [3, 5, 6, 9, 10, 12, 17, 18, 20, 24, 33, 34, 36, 40, 48, 1]
def due2 : List Nat := [0, 2, 3, 3, 4, 4, 4, 5, 5, 5, 5, 6, 6, 6, 6, 6]
def bl3 : List (List Nat) := [[2, 1, 0], [3, 1, 0], [3, 2, 0], [3, 2, 1], [4, 1, 0], [4, 2, 0], [4, 2, 1], [4, 3, 0], [4, 3, 1], [4, 3, 2], [5, 1, 0], [5, 2, 0], [5, 2, 1], [5, 3, 0], [5, 3, 1], [5, 3, 2], [5, 4, 0], [5, 4, 1], [5, 4, 2], [5, 4, 3], [6, 1, 0]]
def ll3 : List (List Nat) := [[1, 0], [2, 0], [2, 1], [3, 0], [3, 1], [3, 2], [4, 0], [4, 1], [4, 2], [4, 3], [5, 0], [5, 1], [5, 2], [5, 3], [5, 4]]
def row3 : List Nat := [7, 25, 42, 52, 193, 322, 388, 584, 656, 800, 3073, 5122, 6148, 9224, 10256, 12320, 17472, 18560, 20736, 25088, 1]
def due3 : List Nat := [0, 3, 5, 6, 6, 8, 9, 9, 10, 10, 10, 12, 13, 13, 14, 14, 14, 15, 15, 15, 15]
def bl4 : List (List Nat) := [[3, 2, 1, 0], [4, 2, 1, 0], [4, 3, 1, 0], [4, 3, 2, 0], [4, 3, 2, 1], [5, 2, 1, 0], [5, 3, 1, 0], [5, 3, 2, 0], [5, 3, 2, 1], [5, 4, 1, 0], [5, 4, 2, 0], [5, 4, 2, 1], [5, 4, 3, 0], [5, 4, 3, 1], [5, 4, 3, 2], [6, 2, 1, 0]]
def ll4 : List (List Nat) := [[2, 1, 0], [3, 1, 0], [3, 2, 0], [3, 2, 1], [4, 1, 0], [4, 2, 0], [4, 2, 1], [4, 3, 0], [4, 3, 1], [4, 3, 2], [5, 1, 0], [5, 2, 0], [5, 2, 1], [5, 3, 0], [5, 3, 1], [5, 3, 2], [5, 4, 0], [5, 4, 1], [5, 4, 2], [5, 4, 3]]
def row4 : List Nat := [15, 113, 402, 676, 840, 7169, 25602, 43012, 53256, 197648, 329760, 397376, 598144, 672000, 819712, 1]
def due4 : List Nat := [0, 4, 7, 9, 10, 10, 13, 15, 16, 16, 18, 19, 19, 20, 20, 20]
theorem mono2 : ∀ j < bl2.length, ∀ i < j, due2.getD i 0 ≤ due2.getD j 0 := by decide +kernel
theorem mono3 : ∀ j < bl3.length, ∀ i < j, due3.getD i 0 ≤ due3.getD j 0 := by decide +kernel
theorem mono4 : ∀ j < bl4.length, ∀ i < j, due4.getD i 0 ≤ due4.getD j 0 := by decide +kernel
theorem chk2 : chk 6 due2 (row2.take 15) 0 0 = true := by decide +kernel
theorem dp3 (u : Nat) : dp dl3 u = due3.getD u 0 := dp_ok (by decide +kernel) (by decide +kernel) u
theorem dp4 (u : Nat) : dp dl4 u = due4.getD u 0 := dp_ok (by decide +kernel) (by decide +kernel) u
theorem cols3 : colsOk (row3.take 20) ncol3 0 = true := by decide +kernel
theorem all3 : atM (row3.take 20) 1048575 = row3.take 20 := by decide +kernel
theorem chkC3 : chkC dl3 ncol3 0 1048575 = true := by decide +kernel
theorem chkF4 : chkF dl4 (row4.take 15) 0 15 = true := by decide +kernel
theorem chk3 : chkB due3 15 0 0 (row3.take 20) = true := by
  have h := chkC_ok dp3 (rows := row3.take 20) rfl ncol3 0 0 1048575 cols3
  rw [chkC3, all3] at h
  exact h.symm
theorem chk4 : chk 20 due4 (row4.take 15) 0 0 = true := by
  rw [← chkF_ok dp4]
  exact chkF4
theorem kkR2 : ∀ R : List Nat, R.Sublist (row2.take (bl2.length - 1)) → due2.getD R.length 0 ≤ pop ll2.length (R.foldl (· ||| ·) 0) := by
  intro R hR
  have := chk_ok (M := 6) mono2 (row2.take 15) 0 0 (by decide) chk2 R hR
  rwa [Nat.zero_add] at this
theorem kkR3 : ∀ R : List Nat, R.Sublist (row3.take (bl3.length - 1)) → due3.getD R.length 0 ≤ pop ll3.length (R.foldl (· ||| ·) 0) := fun R hR => chkB_all (M := 15) mono3 (row3.take 20) (by decide) chk3 R hR
theorem kkR4 : ∀ R : List Nat, R.Sublist (row4.take (bl4.length - 1)) → due4.getD R.length 0 ≤ pop ll4.length (R.foldl (· ||| ·) 0) := by
  intro R hR
  have := chk_ok (M := 20) mono4 (row4.take 15) 0 0 (by decide) chk4 R hR
  rwa [Nat.zero_add] at this
theorem dat2 : Dat 2 bl2 ll2 row2 due2 := ⟨by decide, by decide, by decide +kernel, by decide +kernel, by decide +kernel, by decide +kernel, by decide +kernel, by decide, by decide, by decide, by decide +kernel, by decide +kernel, by decide +kernel, by decide +kernel, by decide +kernel, by decide +kernel, mono2, by decide, kkR2⟩
theorem dat3 : Dat 3 bl3 ll3 row3 due3 := ⟨by decide, by decide, by decide +kernel, by decide +kernel, by decide +kernel, by decide +kernel, by decide +kernel, by decide, by decide, by decide, by decide +kernel, by decide +kernel, by decide +kernel, by decide +kernel, by decide +kernel, by decide +kernel, mono3, by decide, kkR3⟩
theorem dat4 : Dat 4 bl4 ll4 row4 due4 := ⟨by decide, by decide, by decide +kernel, by decide +kernel, by decide +kernel, by decide +kernel, by decide +kernel, by decide, by decide, by decide, by decide +kernel, by decide +kernel, by decide +kernel, by decide +kernel, by decide +kernel, by decide +kernel, mono4, by decide, kkR4⟩
end Mine

/-! part M4 -/
namespace Mine

theorem foldl_or_testBit (j : Nat) : ∀ (R : List Nat) (a : Nat), (R.foldl (· ||| ·) a).testBit j = (a.testBit j || R.any (·.testBit j))
  | [], a => by simp
  | r :: R, a => by rw [List.foldl_cons, foldl_or_testBit j R, Nat.testBit_or, List.any_cons, Bool.or_assoc]

theorem setStep_map (P : List Int) (t : List (List (List Nat))) (i : Nat) : setStep (t.map fun l => l.map (numOf P)) (P.getD i 0) = (bStep t i).map fun l => l.map (numOf P) := by
  have hg : ∀ k, (t.map fun l => l.map (numOf P)).getD k [] = (t.getD k []).map (numOf P) := by
    intro k
    rw [List.getD_eq_getElem?_getD, List.getElem?_map, List.getD_eq_getElem?_getD]
    cases t[k]? <;> rfl
  unfold setStep bStep
  rw [List.map_cons, List.map_map]
  congr 1
  apply List.map_congr_left
  intro s _
  simp only [Function.comp, hg, List.map_append, List.map_map]
  congr 1
  apply List.map_congr_left
  intro bs _
  simp only [Function.comp, numOf_cons]
  omega
theorem sets_map (P : List Int) : ∀ (is : List Nat) (t : List (List (List Nat))), (is.map fun i => P.getD i 0).foldl setStep (t.map fun l => l.map (numOf P)) = (is.foldl bStep t).map fun l => l.map (numOf P)
  | [], _ => rfl
  | i :: is, t => by rw [List.map_cons, List.foldl_cons, setStep_map, sets_map P is, List.foldl_cons]
theorem sets_bS (P : List Int) (h : P.length = 7) : setsOf (P.take 6) = bS.map fun l => l.map (numOf P) := by
  have e : P.take 6 = [0, 1, 2, 3, 4, 5].map fun i => P.getD i 0 := by
    match P, h with
    | [a, b, c, d, e, f, g], _ => rfl
  unfold setsOf
  rw [e]
  exact sets_map P [0, 1, 2, 3, 4, 5] [[[]], [], [], [], []]
theorem getD_map {α β : Type} (f : α → β) (l : List α) (k : Nat) (x : α) (y : β) (h : k < l.length) : (l.map f).getD k y = f (l.getD k x) := by
  rw [List.getD_eq_getElem?_getD, List.getElem?_map, List.getElem?_eq_getElem h, List.getD_eq_getElem?_getD, List.getElem?_eq_getElem h]; rfl
theorem mem_getDn {α : Type} {l : List α} {k : Nat} {x : α} (h : k < l.length) : l.getD k x ∈ l := by
  rw [List.getD_eq_getElem?_getD, List.getElem?_eq_getElem h]; exact List.getElem_mem h
theorem last_sum (P : List Int) (s : Nat) (h : P.length = 7) (h2 : 2 ≤ s) (h4 : s ≤ 4) : 2 ^ (P.getD 6 0).toNat + ((P.take (s - 1)).map fun p => (2 : Int) ^ p.toNat).sum = numOf P (6 :: (List.range (s - 1)).reverse) := by
  rw [numOf_cons]
  match P, h with
  | [a, b, c, d, e, f, g], _ =>
    rcases (by omega : s = 2 ∨ s = 3 ∨ s = 4) with rfl | rfl | rfl
    · show _ = _ + numOf _ [0]
      simp [numOf]
    · show _ = _ + numOf _ [1, 0]
      simp [numOf]; omega
    · show _ = _ + numOf _ [2, 1, 0]
      simp [numOf]; omega
theorem Q_lt : ∀ (gs : List Nat) (i j : Nat), i < j → j < gs.length → Q gs i < Q gs j
  | [], _, _, _, h => absurd h (Nat.not_lt_zero _)
  | g :: gs, 0, j + 1, _, _ => by simp only [Q]; omega
  | g :: gs, i + 1, j + 1, h, hj => by simp only [Q]; have := Q_lt gs i j (by omega) (by simpa using hj); omega
theorem inc_pl (gs : List Nat) (h7 : gs.length = 7) (h4 : ∀ g ∈ gs, g ≤ 4) : Inc (pl (-1) gs) where
  up := by
    intro i j h hj
    rw [pl_length] at hj
    rw [pl_get _ _ _ (by omega), pl_get _ _ _ hj]
    have := Q_lt gs i j h hj
    omega
  low := by
    intro i h
    rw [pl_length] at h
    rw [pl_get _ _ _ h]; omega
  high := by
    intro i h
    rw [pl_length] at h
    have := Q_le gs i h4 h
    rw [pl_get _ _ _ h]; omega
  len := by rw [pl_length]; omega
end Mine

/-! part M5 -/
namespace Mine
theorem upto_nat (M : Nat) : upto 0 (M : Nat) = (List.range M).map fun (i : Nat) => (i : Int) := by
  unfold upto
  rw [show ((M : Int) - 0).toNat = M by omega]
  apply List.map_congr_left
  intro i _; omega
theorem filter_upto (M : Nat) (q : Nat → Bool) : ((upto 0 (M : Nat)).filter fun j => q j.toNat).length = ((List.range M).filter q).length := by
  rw [upto_nat, List.filter_map, List.length_map]; rfl
theorem num_top {P : List Int} (hP : Inc P) (h7 : P.length = 7) {bs : List Nat} (hd : bs.Pairwise (· > ·)) (hb : ∀ b ∈ bs, b < 7) : numOf P bs < 2 ^ ((P.getD 6 0).toNat + 1) := by
  rw [two_pow_succ]
  have hp := two_pow_pos (P.getD 6 0).toNat
  cases bs with
  | nil => rw [numOf_nil]; omega
  | cons b bs =>
    rw [List.pairwise_cons] at hd
    rw [numOf_cons]
    have h1 := numOf_lt hP hd.2 (fun y hy => hd.1 y hy) (by rw [h7]; exact hb b List.mem_cons_self)
    have hb6 := hb b List.mem_cons_self
    have h2 : (P.getD b 0).toNat ≤ (P.getD 6 0).toNat := by
      rcases Nat.lt_or_ge b 6 with q | q
      · have := hP.up b 6 q (by omega); omega
      · rw [show b = 6 by omega]; exact Nat.le_refl _
    have h3 := two_pow_le h2
    omega

theorem facts_of {s : Nat} {bls lls : List (List Nat)} {T D : List Nat} (d : Dat s bls lls T D) (gs : List Nat) (h7 : gs.length = 7) (h4 : ∀ g ∈ gs, g ≤ 4) :
    Facts (pl (-1) gs) s (((pl (-1) gs).getD 6 0 / 4 + 1).toNat) bls lls (adjT T) := by
  have inc := inc_pl gs h7 h4
  have hl : (pl (-1) gs).length = 7 := by rw [pl_length]; exact h7
  have sets := sets_bS (pl (-1) gs) hl
  have lo6 := inc.low 6 (by omega)
  have hi6 := inc.high 6 (by omega)
  have vb : ∀ bs ∈ bls, numOf (pl (-1) gs) bs = V gs (mask bs) := fun bs h => numOf_V gs (d.bits bs h).1 (fun x hx => by rw [h7]; exact (d.bits bs h).2.1 x hx)
  have vl : ∀ bs ∈ lls, numOf (pl (-1) gs) bs = V gs (mask bs) := fun bs h => numOf_V gs (d.lbits bs h).1 (fun x hx => by rw [h7]; exact (d.lbits bs h).2 x hx)
  have gb : ∀ k < bls.length, (bls.map (numOf (pl (-1) gs))).getD k 0 = V gs (mask (bls.getD k [])) := fun k hk => by rw [getD_map _ _ _ [] _ hk, vb _ (mem_getDn hk)]
  have gl : ∀ k < lls.length, (lls.map (numOf (pl (-1) gs))).getD k 0 = V gs (mask (lls.getD k [])) := fun k hk => by rw [getD_map _ _ _ [] _ hk, vl _ (mem_getDn hk)]
  have big : ∀ x ∈ bls.map (numOf (pl (-1) gs)) ++ lls.map (numOf (pl (-1) gs)), 0 ≤ x ∧ x < 16 ^ (((pl (-1) gs).getD 6 0 / 4 + 1).toNat) := by
    intro x hx
    have key : 0 ≤ x ∧ x < 2 ^ (((pl (-1) gs).getD 6 0).toNat + 1) := by
      rcases List.mem_append.mp hx with hx | hx
      · obtain ⟨bs, hb, rfl⟩ := List.mem_map.mp hx
        exact ⟨numOf_nonneg _ _, num_top inc hl (d.bits bs hb).1 (d.bits bs hb).2.1⟩
      · obtain ⟨bs, hb, rfl⟩ := List.mem_map.mp hx
        exact ⟨numOf_nonneg _ _, num_top inc hl (d.lbits bs hb).1 (d.lbits bs hb).2⟩
    refine ⟨key.1, Int.lt_of_lt_of_le key.2 ?_⟩
    rw [show (16 : Int) = 2 ^ 4 from rfl, ← Int.pow_mul]
    exact two_pow_le (by omega)
  have adj1 : ∀ k j, k < bls.length → j < lls.length → Builtin.bitXor ((bls.map (numOf (pl (-1) gs))).getD k 0) ((lls.map (numOf (pl (-1) gs))).getD j 0) = V gs (mask (bls.getD k []) ^^^ mask (lls.getD j [])) := by
    intro k j hk hj
    rw [gb k hk, gl j hj, V_xor]
  have adj1' : ∀ k j, k < bls.length → j < lls.length → isb (Builtin.bitXor ((bls.map (numOf (pl (-1) gs))).getD k 0) ((lls.map (numOf (pl (-1) gs))).getD j 0)) = adjT T k j := by
    intro k j hk hj
    rw [adj1 k j hk hj, V_isb, h7, d.adj k hk j hj]
  have adjE : ∀ k j, k < bls.length → j < lls.length → adjT T k j = true → ∃ e : Nat, e ≤ 40 ∧ (bls.map (numOf (pl (-1) gs))).getD k 0 = (lls.map (numOf (pl (-1) gs))).getD j 0 + 2 ^ e ∧ (bls.map (numOf (pl (-1) gs))).getD k 0 / 2 ^ e % 2 = 1 := by
    intro k j hk hj ha
    obtain ⟨i, hi, e1, e2, e3⟩ := d.adjI k hk j hj ha
    have hi7 : i < gs.length := by rw [h7]; exact List.mem_range.mp hi
    have hq := Q_le gs i h4 hi7
    refine ⟨Q gs i, by omega, ?_, ?_⟩
    · rw [gb k hk, gl j hj, e1, V_add gs _ _ hi7 e2]; omega
    · rw [gb k hk, V_bit gs _ _ hi7, e3]; rfl
  have w15 : ((pl (-1) gs).getD 6 0 / 4 + 1).toNat ≤ 15 := by omega
  generalize hw : ((pl (-1) gs).getD 6 0 / 4 + 1).toNat = w at big w15
  exact {
    inc := inc
    len := hl
    s2 := d.s2
    s4 := d.s4
    wd := by omega
    w15 := w15
    tlen := by rw [sets, List.length_map]; rfl
    tabL := by
      rw [sets, List.getD_eq_getElem?_getD, List.getElem?_map, ← d.tL, List.getD_eq_getElem?_getD]
      cases bS[s - 1]? <;> rfl
    tabS := by
      rw [← d.tS, List.map_append, List.map_cons, List.map_nil, ← last_sum _ s hl d.s2 d.s4, sets]
      congr 1
      rw [List.getD_eq_getElem?_getD, List.getElem?_map, List.getD_eq_getElem?_getD]
      cases bS[s]? <;> rfl
    bits := fun bs h => ⟨(d.bits bs h).1, fun b hb => by rw [hl]; exact (d.bits bs h).2.1 b hb, (d.bits bs h).2.2⟩
    rank := by
      intro k hk
      have := d.rank k hk
      rw [List.getD_eq_getElem?_getD, List.getElem?_eq_getElem hk] at this
      exact this
    bl1 := d.bl1
    bl50 := d.bl50
    ll50 := d.ll50
    big := big
    word := by
      intro x hx
      have h := big x hx
      obtain ⟨n, rfl⟩ : ∃ n : Nat, x = n := ⟨x.toNat, by omega⟩
      have hn : n < 16 ^ w := by exact_mod_cast h.2
      rw [wordI_dg, ← ap_dg w n hn]
      have : ((16 : Int) ^ w + (n : Int)) = ((16 ^ w + n : Nat) : Int) := by norm_cast
      rw [this]; rfl
    near := by
      intro k hk
      rw [gb k (by omega), gb (k + 1) hk, V_xor, V_isb, h7, d.near k (by omega)]
    adj1 := adj1'
    adj2 := by
      intro k j hk hj
      have hk' : k < bls.length := by omega
      have bx := big ((bls.map (numOf (pl (-1) gs))).getD k 0) (List.mem_append_left _ (mem_getDn (by rw [List.length_map]; exact hk')))
      have by_ := big ((lls.map (numOf (pl (-1) gs))).getD j 0) (List.mem_append_right _ (mem_getDn (by rw [List.length_map]; exact hj)))
      have a1 := adj1' k j hk' hj
      have a2 := adjE k j hk' hj
      generalize (bls.map (numOf (pl (-1) gs))).getD k 0 = x at bx a1 a2
      generalize (lls.map (numOf (pl (-1) gs))).getD j 0 = y at by_ a1 a2
      obtain ⟨x, rfl⟩ : ∃ n : Nat, x = n := ⟨x.toNat, by omega⟩
      obtain ⟨y, rfl⟩ : ∃ n : Nat, y = n := ⟨y.toNat, by omega⟩
      have hx : x < 16 ^ w := by exact_mod_cast bx.2
      have hy : y < 16 ^ w := by exact_mod_cast by_.2
      rw [Bool.eq_iff_iff, drops_iff hx hy]
      constructor
      · rintro ⟨e, h1, h2⟩
        have h3 := xor_drop e (x : Int) (by exact_mod_cast h1)
        have h4 : (x : Int) - 2 ^ e = (y : Int) := by
          have : ((2 ^ e : Nat) : Int) = 2 ^ e := by norm_cast
          omega
        rw [h4] at h3
        rw [← a1, h3, isb_two]
      · intro h
        obtain ⟨e, _, h1, h2⟩ := a2 h
        refine ⟨e, by exact_mod_cast h2, ?_⟩
        have : ((2 ^ e : Nat) : Int) = 2 ^ e := by norm_cast
        omega
    adj3 := by
      intro k j hk hj ha
      obtain ⟨e, h1, h2, h3⟩ := adjE k j (by omega) hj ha
      refine ⟨e, h1, ?_⟩
      have := xor_drop e _ h3
      rw [show (bls.map (numOf (pl (-1) gs))).getD k 0 - 2 ^ e = (lls.map (numOf (pl (-1) gs))).getD j 0 by omega] at this
      exact this
    due0 := by
      intro k hk
      have := d.due k hk
      omega
    kk1 := by
      intro m hm
      rw [d.kk1 m hm, (d.due m hm).1]
    kk2 := by
      intro q
      have hsub : ((upto 0 ((bls.length : Nat) - 1 : Int)).filter q).Sublist (upto 0 ((bls.length : Nat) - 1 : Int)) := List.filter_sublist
      have b1 := d.bl1
      rw [show ((bls.length : Nat) - 1 : Int) = ((bls.length - 1 : Nat) : Int) by omega] at hsub ⊢
      generalize (upto 0 ((bls.length - 1 : Nat) : Int)).filter q = fam at hsub
      have hfl : fam.length ≤ bls.length - 1 := by
        have := hsub.length_le
        rw [upto_length] at this; omega
      rw [(d.due fam.length (by omega)).1]
      have hrows : (upto 0 ((bls.length - 1 : Nat) : Int)).map (fun k => T.getD k.toNat 0) = T.take (bls.length - 1) := by
        rw [upto_nat, List.map_map]
        apply List.ext_getElem?
        intro i
        rw [List.getElem?_map]
        by_cases hi : i < bls.length - 1
        · have hiT : i < T.length := by rw [d.tlen]; omega
          rw [List.getElem?_range hi, List.getElem?_take_of_lt hi, List.getElem?_eq_getElem hiT]
          simp [List.getElem?_eq_getElem hiT]
        · rw [List.getElem?_eq_none (by simp; omega), List.getElem?_eq_none (by rw [List.length_take]; omega)]; rfl
      have hS := hsub.map (fun k => T.getD k.toNat 0)
      rw [hrows] at hS
      have key := d.kkR _ hS
      rw [List.length_map, pop_count] at key
      have hcount : ((upto 0 (lls.length : Nat)).filter fun j => (hitsOf (adjT T) lls.length fam).contains j) = (upto 0 (lls.length : Nat)).filter fun j => ((fam.map fun k : Int => T.getD k.toNat 0).foldl (· ||| ·) 0).testBit j.toNat := by
        apply List.filter_congr
        intro j hj
        rw [foldl_or_testBit, Nat.zero_testBit, Bool.false_or, List.any_map, Bool.eq_iff_iff, List.contains_iff_mem, List.any_eq_true]
        unfold hitsOf
        rw [List.mem_flatMap]
        constructor
        · rintro ⟨k, hk, h⟩
          exact ⟨k, hk, (List.mem_filter.mp h).2⟩
        · rintro ⟨k, hk, h⟩
          exact ⟨k, hk, List.mem_filter.mpr ⟨hj, h⟩⟩
      generalize (fam.map fun k : Int => T.getD k.toNat 0).foldl (· ||| ·) 0 = U at hcount key
      have fu := filter_upto lls.length U.testBit
      rw [hcount]
      omega
    kk3 := by
      intro q
      have hm : ∀ k ∈ (upto 0 ((bls.length : Nat) - 1 : Int)).filter q, 0 ≤ k ∧ k < (bls.length : Int) - 1 := fun k hk => mem_upto (List.mem_filter.mp hk).1
      generalize (upto 0 ((bls.length : Nat) - 1 : Int)).filter q = fam at hm
      induction fam with
      | nil => rfl
      | cons k fam ih =>
        have ih' := ih (fun x hx => hm x (List.mem_cons_of_mem _ hx))
        have hk := hm k List.mem_cons_self
        have hr := d.row k.toNat (by omega)
        unfold hitsOf at ih' ⊢
        rw [List.flatMap_cons, List.length_append, hr, ih', List.length_cons, Nat.mul_add]; omega
  }
theorem facts_all (gs : List Nat) (h7 : gs.length = 7) (h4 : ∀ g ∈ gs, g ≤ 4) (s : Nat) (h2 : 2 ≤ s) (hs4 : s ≤ 4) : ∃ w bls lls adj, Facts (pl (-1) gs) s w bls lls adj := by
  rcases (by omega : s = 2 ∨ s = 3 ∨ s = 4) with rfl | rfl | rfl
  · exact ⟨_, _, _, _, facts_of dat2 gs h7 h4⟩
  · exact ⟨_, _, _, _, facts_of dat3 gs h7 h4⟩
  · exact ⟨_, _, _, _, facts_of dat4 gs h7 h4⟩
end Mine

/-! part TOP0 -/
namespace Mine
def HasAll (c : Cx) (ds : List DefRec) : Prop := ∀ d ∈ ds, Has c d

theorem closeG {cl : Str → Option Addr} {mean : ExcName → Option Value} {args : List WData} {s₁ s' : Shared} (hk : Ext s₁.heap s'.heap) (hos : s'.os = s₁.os) (hg : s'.gens = #[]) : GoodWG PySem.Challenge.rw_rs0011_01.row.claim cl mean args s₁ (.ok (.ret (.bool true))) s' := by
  refine ⟨.inl ⟨.bool true, .bool true, [], rfl, fun _ => rfl, .bool true, ?_, fun _ => ⟨.nil, fun _ h => nomatch h⟩⟩, .of_keep hk, hos, .of_eq hg⟩
  first
    | rfl
    | (with_unfolding_all rfl)
    | kernel_rfl

def freeOk (p : Program) (loose : List Str) (x : Str) : Bool :=
  !startupNames.contains x && !loose.contains x && !((recsOf p).map (·.name)).contains x && !((litsOf p).map (·.1)).contains x && !((clssOf p loose).map (·.name)).contains x

theorem cx_ok {p : Program} {loose : List Str} {mean : ExcName → Option Value} {mg mb : Str → Option Value} {h : Heap} {prog : Program} {w : World} (T : Top p loose mean mg mb h) (hf : bnames.all (freeOk p loose) = true) : (⟨prog, w, h, mg, mb⟩ : Cx).Ok where
  g := T.g
  b := T.b
  nolimit := T.nolimit
  builtins := T.builtins
  free := by
    intro x hx
    have := List.all_eq_true.mp hf x hx
    simp only [freeOk, Bool.and_eq_true, Bool.not_eq_true', List.contains_eq_mem, decide_eq_false_iff_not] at this
    exact T.free x this.1.1.1.1 this.1.1.1.2 this.1.1.2 this.1.2 this.2

theorem has_all {p : Program} {loose : List Str} {mean : ExcName → Option Value} {mg mb : Str → Option Value} {h : Heap} {prog : Program} {w : World} {ds : List DefRec} (T : Top p loose mean mg mb h) (hr : recsOf p = ds) : HasAll ⟨prog, w, h, mg, mb⟩ ds := by
  intro d hd
  obtain ⟨a, o, pm, code, doc, h1, h2, h3, h4⟩ := T.fn d (hr ▸ hd)
  exact ⟨a, pm, code, doc, ⟨h1, ⟨o, h2, h3⟩⟩, h4⟩

theorem run_law {c : Cx} {s : Shared} {a l : Addr} {ns : List Int} {vs : List Value} {Q E : Value → Shared → Prop} (ok : c.Ok) (hb : c.B = s.heap) (hf : Fn c 20 (Str.ofString "law") [dInts ns] (.bool true)) (ha : c.mg (Str.ofString "law") = some (.ref a))
    (hl : s.heap.get? l = some { cls := .type "list", data := .seq vs.toArray }) (hi : IntsAre vs ns) (K : ∀ h' tk, Ext s.heap h' → Q (.bool true) { s with heap := h', toks := tk }) : wpAny c.M callerA (call (.ref a) [.ref l]) Q E s := by
  obtain ⟨b, fd, h1, h2⟩ := hf
  have e := h1.g
  rw [ha] at e; cases e
  refine h2 callerA (fun _ => True) s Q E [.ref l] ⟨⟨rfl, by decide, by decide⟩, ok, fun a o q => hb ▸ q, fun _ _ => trivial⟩ ⟨_, _, rfl, ⟨l, vs, rfl, trivial, ⟨_, 0, hl, rfl, rfl, rfl⟩, .of_ints hi⟩, rfl⟩ fun v h' tk x r => ?_
  cases r
  exact K h' tk x
end Mine

/-! part TOP1 -/
open PySem.W.X PySem.W.ZRun
namespace Mine
def defs1 : List DefRec := [st1 1, st1 2, st1 4, st1 6, st1 7, st1 8, st1 9, st1 10, st1 11, st1 12, st1 13, st1 14].map recOfSt
theorem law1_ok {c : Cx} (h : HasAll c defs1) (ns : List Int) (hn : ns.length ≤ 63) : Fn c 20 (Str.ofString "law") [dInts ns] (.bool true) := by
  refine law_fn (n := 16) (h _ ?_) (h _ ?_) (h _ ?_) (h _ ?_) (h _ ?_) (h _ ?_) (h _ ?_) (h _ ?_) (h _ ?_) (h _ ?_) (h _ ?_) (h _ ?_) ns hn facts_all <;> simp only [defs1, List.map_cons, List.map_nil, rLW, rPL, rSE, rWY, rON, rRK, rWD, rDR, rFI, rISB, rHB, rAP, List.mem_cons, true_or, or_true]
end Mine
open Mine
set_option maxRecDepth 100000 in
set_option maxHeartbeats 0 in
theorem PySem.Challenge.cw_rs0011_01_holds : PySem.Challenge.rw_rs0011_01.Holds := by
  w_on; o_law; z_head; (case hw => w_witness2)
  k_fill
  intro w s₀ s₁ mg mb G y fa o pm cd doc dV kV ho hd hcd hD hmg hg args vals as L hpre hlay hrd hwl hlo
  z_open y L KX ZH ZN ZT
  refine Ground.open G ?_
  intro T B D TE TW
  wrow_args hpre hlay hrd hwl hlo
  rename_i ns _ _ _ _ _ _ _ _ _ _ _ _ _ _ _ _ _ _
  have hn : ns.length ≤ 63 := by
    rename_i hcond _
    omega
  refine run_law (c := ⟨_, w, s₁.heap, mg, mb⟩) (cx_ok T (by kernel_rfl)) rfl (law1_ok (has_all T (by kernel_rfl)) ns hn) hmg (script_obj L (by assumption)) (by assumption) ?_
  intro h' tk x
  exact closeG x rfl hg

