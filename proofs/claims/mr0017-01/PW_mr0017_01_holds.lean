import PyProof.Rows.All
import Wide.All
import OpenK.AllK
import Wide.FinOn
import PySem.Challenge.RW_mr0017_01
set_option Elab.async false
set_option linter.unusedVariables false
namespace Mine
open PySem PyProof.Rows

/-- plain data -/
inductive D where
  | none
  | bool (b : Bool)
  | int (i : Int)
  | bytes (b : List UInt8)
  | list (ds : List D)
  | tuple (ds : List D)
  | arg (xs : List Int)
  | ty (n : String)
  | tab (ks : List (Int × Int))

/-- a dict from numbers to numbers -/
def TabIs (o : Obj) (ks : List (Int × Int)) : Prop := o.cls = .type "dict" ∧ ∃ es ep, o.data = .dict es ep ∧ IntKeys es ∧ es.size ≠ 0 ∧ ∀ k j, (k, j) ∈ ks → ∃ t, findBy Value.isInt es k = some (.int j t)
/-- what is never turned while somebody reads it: lists, tuples, dicts of numbers -/
def Seq (o : Obj) : Prop := (∃ xs k, o.data = .seq xs k) ∨ ∃ es ep, o.data = .dict es ep ∧ IntKeys es ∧ es.size ≠ 0
theorem TabIs.seq {o : Obj} {ks : List (Int × Int)} (h : TabIs o ks) : Seq o := let ⟨_, es, ep, a, b, c, _⟩ := h; .inr ⟨es, ep, a, b, c⟩

mutual
/-- a value and what it stands for; the lists met on the way lie outside B -/
inductive Rep (h : Heap) (B : Addr → Prop) : Value → D → Prop
  | none : Rep h B .none .none
  | bool (b : Bool) : Rep h B (.bool b) (.bool b)
  | int (i : Int) (t : Tok) : Rep h B (.int i t) (.int i)
  | bytes (b : List UInt8) (t : Tok) : Rep h B (.bytes b.toArray t) (.bytes b)
  | list {a : Addr} {vs : List Value} {n : Nat} {ds : List D} : ¬ B a → IsL h a vs.toArray n → RepL h B vs ds → Rep h B (.ref a) (.list ds)
  | tuple {a : Addr} {vs : List Value} {n : Nat} {ds : List D} : ¬ B a → IsT h a vs.toArray n → RepL h B vs ds → Rep h B (.ref a) (.tuple ds)
  | arg {a : Addr} {vs : List Value} {xs : List Int} : ¬ B a → h.IsList a vs.toArray → IntsAre vs xs → Rep h B (.ref a) (.arg xs)
  | ty (n : String) : Rep h B (.type n) (.ty n)
  | tab {a : Addr} {o : Obj} {ks : List (Int × Int)} : ¬ B a → h.get? a = some o → TabIs o ks → Rep h B (.ref a) (.tab ks)
inductive RepL (h : Heap) (B : Addr → Prop) : List Value → List D → Prop
  | nil : RepL h B [] []
  | cons {v : Value} {vs : List Value} {d : D} {ds : List D} : Rep h B v d → RepL h B vs ds → RepL h B (v :: vs) (d :: ds)
end

/-- lists and tuples outside B are kept -/
def Kp (B : Addr → Prop) (h h' : Heap) : Prop :=
  ∀ a o, h.get? a = some o → Seq o → ¬ B a → h'.get? a = some o

mutual
theorem Rep.mono {h h' : Heap} {B B' : Addr → Prop} (hk : Kp B h h') (hb : ∀ a, a < h.objs.size → B' a → B a) : ∀ {v : Value} {d : D}, Rep h B v d → Rep h' B' v d
  | _, _, .none => .none
  | _, _, .bool b => .bool b
  | _, _, .int i t => .int i t
  | _, _, .bytes b t => .bytes b t
  | _, _, .list hn hl r => .list (fun q => hn (hb _ (Heap.lt_size hl) q)) (hk _ _ hl (.inl ⟨_, _, rfl⟩) hn) (r.mono hk hb)
  | _, _, .tuple hn hl r => .tuple (fun q => hn (hb _ (Heap.lt_size hl) q)) (hk _ _ hl (.inl ⟨_, _, rfl⟩) hn) (r.mono hk hb)
  | _, _, .arg hn hl hi => .arg (fun q => hn (let ⟨_, ho, _⟩ := hl; hb _ (Heap.lt_size ho) q)) (let ⟨o, ho, hc, m, r⟩ := hl; ⟨o, hk _ _ ho (.inl ⟨_, _, r⟩) hn, hc, m, r⟩) hi
  | _, _, .ty n => .ty n
  | _, _, .tab hn ho t => .tab (fun q => hn (hb _ (Heap.lt_size ho) q)) (hk _ _ ho t.seq hn) t
theorem RepL.mono {h h' : Heap} {B B' : Addr → Prop} (hk : Kp B h h') (hb : ∀ a, a < h.objs.size → B' a → B a) : ∀ {vs : List Value} {ds : List D}, RepL h B vs ds → RepL h' B' vs ds
  | _, _, .nil => .nil
  | _, _, .cons r rs => .cons (r.mono hk hb) (rs.mono hk hb)
end

theorem Kp.of {B : Addr → Prop} {h h' : Heap} (hk : ∀ b o, h.get? b = some o → h'.get? b = some o) : Kp B h h' := fun a o e _ _ => hk a o e
theorem Rep.keeps {h h' : Heap} {B : Addr → Prop} {v : Value} {d : D} (r : Rep h B v d) (hk : ∀ b o, h.get? b = some o → h'.get? b = some o) : Rep h' B v d := r.mono (.of hk) fun _ _ q => q
theorem RepL.keeps {h h' : Heap} {B : Addr → Prop} {v : List Value} {d : List D} (r : RepL h B v d) (hk : ∀ b o, h.get? b = some o → h'.get? b = some o) : RepL h' B v d := r.mono (.of hk) fun _ _ q => q
theorem Rep.less {h : Heap} {B B' : Addr → Prop} {v : Value} {d : D} (r : Rep h B v d) (hb : ∀ a, B' a → B a) : Rep h B' v d := r.mono (.of fun _ _ e => e) fun a _ q => hb a q
theorem RepL.less {h : Heap} {B B' : Addr → Prop} {v : List Value} {d : List D} (r : RepL h B v d) (hb : ∀ a, B' a → B a) : RepL h B' v d := r.mono (.of fun _ _ e => e) fun a _ q => hb a q
theorem RepL.length {h : Heap} {B : Addr → Prop} : ∀ {vs : List Value} {ds : List D}, RepL h B vs ds → vs.length = ds.length
  | _, _, .nil => rfl
  | _, _, .cons _ r => congrArg (· + 1) r.length
theorem RepL.append {h : Heap} {B : Addr → Prop} : ∀ {vs ws : List Value} {ds es : List D}, RepL h B vs ds → RepL h B ws es → RepL h B (vs ++ ws) (ds ++ es)
  | _, _, _, _, .nil, q => q
  | _, _, _, _, .cons r rs, q => .cons r (rs.append q)
theorem RepL.get {h : Heap} {B : Addr → Prop} : ∀ {vs : List Value} {ds : List D}, RepL h B vs ds → ∀ {i : Nat} {d : D}, ds[i]? = some d → ∃ v, vs[i]? = some v ∧ Rep h B v d
  | _, _, .cons r _, 0, _, e => by cases e; exact ⟨_, rfl, r⟩
  | _, _, .cons _ rs, i + 1, _, e => by simpa using rs.get (by simpa using e)
theorem RepL.drop {h : Heap} {B : Addr → Prop} : ∀ {vs : List Value} {ds : List D}, RepL h B vs ds → ∀ n, RepL h B (vs.drop n) (ds.drop n)
  | _, _, r, 0 => r
  | _, _, .nil, _ + 1 => .nil
  | _, _, .cons _ rs, n + 1 => rs.drop n
theorem RepL.take {h : Heap} {B : Addr → Prop} : ∀ {vs : List Value} {ds : List D}, RepL h B vs ds → ∀ n, RepL h B (vs.take n) (ds.take n)
  | _, _, _, 0 => by simpa using RepL.nil
  | _, _, .nil, _ + 1 => .nil
  | _, _, .cons r rs, n + 1 => .cons r (rs.take n)

/-- the room that a call has left -/
def AOk (n : Nat) (A : Around) : Prop := A.handled = none ∧ A.depth + n ≤ 900 ∧ A.units + 4 * n ≤ 9000
def Fl : Value → Shared → Prop := fun _ _ => False

theorem keeps_refl (s : Shared) : Keeps s s := ⟨s.heap, s.toks, rfl, fun _ _ e => e⟩
theorem keeps_tok (s : Shared) (t : Nat) : Keeps s { s with toks := t } := ⟨s.heap, t, rfl, fun _ _ e => e⟩
theorem keeps_trans {s s' s'' : Shared} (a : Keeps s s') (b : Keeps s' s'') : Keeps s s'' := by
  obtain ⟨h, t, rfl, k⟩ := a
  obtain ⟨h', t', rfl, k'⟩ := b
  exact ⟨h', t', rfl, fun b o e => k' b o (k b o e)⟩
theorem keeps_push (s : Shared) (o : Obj) : Keeps s { s with heap := s.heap.push o } := ⟨_, s.toks, rfl, fun _ _ e => Heap.get?_push_of_some _ e⟩
theorem keeps_heap {s s' : Shared} (a : Keeps s s') : ∀ b o, s.heap.get? b = some o → s'.heap.get? b = some o := by
  obtain ⟨h, t, rfl, k⟩ := a; exact k

/-- a slot of the state -/
inductive Sl where
  | v (d : D)
  /-- a list that is only read here, or that this call fills -/
  | own (ds : List D)
  | bor (ds : List D)
def SlR (h : Heap) (B : Addr → Prop) (v : Value) : Sl → Prop
  | .v d => Rep h B v d
  | .own ds => ∃ a vs n, v = .ref a ∧ IsL h a vs.toArray n ∧ RepL h B vs ds
  | .bor ds => ∃ a vs n, v = .ref a ∧ IsL h a vs.toArray n ∧ RepL h B vs ds

/-- what a frame's name stands for -/
def Sees (env : Env) (h : Heap) (x : Str) (v : Value) : Prop :=
  (env.kindOf x = some .local ∧ ∃ m, h.Ns env.locals m ∧ m x = some v) ∨
  ((env.kindOf x = some .cell ∨ env.kindOf x = some .free) ∧ ∃ c, env.cells.lookup x = some c ∧ h.IsCell c (some v))

/-- the i-th statement of the text, a def -/
def defAt (i : Nat) : Arguments × List Stmt × Scope := match PySem.Challenge.pw_mr0017_01.main.body[i]? with | some (.FunctionDef _ a b _ _ _ sc _ _ _) => (a, b, sc) | _ => default
/-- a def of the text stands at f -/
structure FnIs (h : Heap) (f : Addr) (name : Str) (i : Nat) (dV kV : Value) : Prop where
  get : ∃ o doc pm an cd ct, h.get? f = some o ∧ o.data = .func (PySem.W.fnOf name name (defAt i).1 (defAt i).2.1 (defAt i).2.2 dV kV doc pm an cd ct) ∧ h.CodeRec cd name
theorem FnIs.keeps {h h' : Heap} {f : Addr} {name : Str} {i : Nat} {dV kV : Value} (F : FnIs h f name i dV kV) (hk : ∀ b o, h.get? b = some o → h'.get? b = some o) : FnIs h' f name i dV kV :=
  let ⟨o, doc, pm, an, cd, ct, h1, h2, h3⟩ := F.get; ⟨o, doc, pm, an, cd, ct, hk _ _ h1, h2, h3.keeps hk⟩

/-- the plain defs -/
def fnTable : List (Str × Nat) := [("_buffer", 2), ("_truth", 3), ("ISTERMINAL", 11), ("ISNONTERMINAL", 12), ("ISEOF", 13), ("_law_texts", 15), ("_law_part", 16), ("_law_parts", 17)]

structure Glo (mg mb : Str → Option Value) (h : Heap) : Prop where
  g : h.Ns mainGlobals mg
  b : h.Ns builtinsNs mb
  lim : h.NoLimit
  fn : ∀ p ∈ fnTable, ∃ f, mg p.1 = some (.ref f) ∧ FnIs h f p.1 p.2 .none .none
  b64 : ∃ f T o k, mg "b64encode" = some (.ref f) ∧ FnIs h f "b64encode" 7 (.ref T) .none ∧ h.get? T = some o ∧ o.data = .seq #[.none] k
  b2a : ∃ f kV, mg "b2a_base64" = some (.ref f) ∧ FnIs h f "b2a_base64" 5 .none kV

structure EnvOk (env : Env) : Prop where
  kind : env.scope.kind = .function
  globals : env.globals = mainGlobals
  builtins : env.builtins = builtinsNs

/-- what an expression may read -/
structure Rd (mg mb : Str → Option Value) (env : Env) (B : Addr → Prop) (σ : List (Str × Sl)) (s : Shared) : Prop where
  envOk : EnvOk env
  glo : Glo mg mb s.heap
  ex : ∀ b, B b → ∃ o, s.heap.get? b = some o
  var : ∀ x sl, σ.lookup x = some sl → ∃ v, Sees env s.heap x v ∧ SlR s.heap B v sl

theorem Glo.keeps {mg mb : Str → Option Value} {h h' : Heap} (G : Glo mg mb h) (hk : ∀ b o, h.get? b = some o → h'.get? b = some o) : Glo mg mb h' :=
  ⟨G.g.keeps hk, G.b.keeps hk, G.lim.keeps hk, fun p hp => let ⟨f, a, b⟩ := G.fn p hp; ⟨f, a, b.keeps hk⟩,
    let ⟨f, T, o, k, a, b, c, e⟩ := G.b64; ⟨f, T, o, k, a, b.keeps hk, hk _ _ c, e⟩, let ⟨f, kV, a, b⟩ := G.b2a; ⟨f, kV, a, b.keeps hk⟩⟩
theorem Sees.keeps {env : Env} {h h' : Heap} {x : Str} {v : Value} (S : Sees env h x v) (hk : ∀ b o, h.get? b = some o → h'.get? b = some o) : Sees env h' x v := by
  rcases S with ⟨a, m, n, e⟩ | ⟨a, c, l, i⟩
  · exact .inl ⟨a, m, n.keeps hk, e⟩
  · exact .inr ⟨a, c, l, i.keeps hk⟩
theorem SlR.keeps {h h' : Heap} {B : Addr → Prop} {v : Value} {sl : Sl} (S : SlR h B v sl) (hk : ∀ b o, h.get? b = some o → h'.get? b = some o) : SlR h' B v sl := by
  cases sl with
  | v d => exact Rep.keeps S hk
  | own ds => obtain ⟨a, vs, n, e, l, r⟩ := S; exact ⟨a, vs, n, e, hk _ _ l, r.keeps hk⟩
  | bor ds => obtain ⟨a, vs, n, e, l, r⟩ := S; exact ⟨a, vs, n, e, hk _ _ l, r.keeps hk⟩
theorem size_le {h h' : Heap} (hk : ∀ b o, h.get? b = some o → h'.get? b = some o) {b : Addr} {o : Obj} (e : h.get? b = some o) : b < h'.objs.size := Heap.lt_size (hk b o e)

/-- the built-in names that the text reads -/
def biTable : List (Str × Value) := [("len", .builtin "len"), ("type", .type "type"), ("bytes", .type "bytes"), ("int", .type "int"), ("range", .type "range"), ("bool", .type "bool"), ("sum", .builtin "sum"),
  ("enumerate", .type "enumerate"), ("zip", .type "zip"), ("isinstance", .builtin "isinstance")]
/-- the sixty-four signs -/
def tabN (i : Nat) : Nat := if i < 26 then 65 + i else if i < 52 then 71 + i else if i < 62 then i - 4 else if i = 62 then 43 else 47
def b64L : List UInt8 := (List.range 64).map fun i => (tabN i).toUInt8
structure Nm (mg mb : Str → Option Value) : Prop where
  bi : ∀ p ∈ biTable, mg p.1 = none ∧ mb p.1 = some p.2
  tab : ∃ t, mg "_B64" = some (.bytes b64L.toArray t)
  nt : ∃ t, mg "NT_OFFSET" = some (.int 256 t)
  em : ∃ t, mg "ENDMARKER" = some (.int 0 t)

theorem Rd.keeps {mg mb : Str → Option Value} {env : Env} {B : Addr → Prop} {σ : List (Str × Sl)} {s s' : Shared} (R : Rd mg mb env B σ s) (k : Keeps s s') : Rd mg mb env B σ s' :=
  have hk := keeps_heap k
  ⟨R.envOk, R.glo.keeps hk, fun b q => let ⟨o, e⟩ := R.ex b q; ⟨o, hk _ _ e⟩, fun x sl e => let ⟨v, a, r⟩ := R.var x sl e; ⟨v, a.keeps hk, r.keeps hk⟩⟩
end Mine

namespace Mine
open PySem PyProof.Rows

structure Rel where
  r : Heap → Value → Prop
  st : ∀ {h h' : Heap} (v : Value), (∀ b o, h.get? b = some o → h'.get? b = some o) → r h v → r h' v

def rep (B : Addr → Prop) (d : D) : Rel := ⟨fun h v => Rep h B v d, fun _ k r => r.keeps k⟩
def lst (B : Addr → Prop) (ds : List D) : Rel := ⟨fun h v => ∃ a vs n, v = .ref a ∧ IsL h a vs.toArray n ∧ RepL h B vs ds,
  fun _ k q => by obtain ⟨a, vs, n, e, l, r⟩ := q; exact ⟨a, vs, n, e, k _ _ l, r.keeps k⟩⟩
def val (x : Value) : Rel := ⟨fun _ v => v = x, fun _ _ r => r⟩

section
variable (prog : Program) (w : World) (mg mb : Str → Option Value) (env : Env) (B : Addr → Prop) (σ : List (Str × Sl)) (n : Nat)

def Ev (e : Expr) (R : Rel) : Prop :=
  ∀ A s, AOk n A → Rd mg mb env B σ s → wpAny (model prog w) A (eval e env) (fun v s' => Keeps s s' ∧ R.r s'.heap v) Fl s

def RelL (h : Heap) : List Rel → List Value → Prop
  | [], [] => True
  | R :: Rs, v :: vs => R.r h v ∧ RelL h Rs vs
  | _, _ => False

def EvA (es : List Expr) (Rs : List Rel) : Prop :=
  ∀ A s pos, AOk n A → Rd mg mb env B σ s → wpAny (model prog w) A (spliced (backTo pos (starEach es env))) (fun vs s' => Keeps s s' ∧ RelL s'.heap Rs vs) Fl s

/-- a test -/
def Tr (e : Expr) (b : Bool) : Prop :=
  ∀ A s, AOk n A → Rd mg mb env B σ s → wpAny (model prog w) A (isTrue e env (eval e env)) (fun v s' => Keeps s s' ∧ v = b) Fl s
end

section
variable {prog : Program} {w : World} {mg mb : Str → Option Value} {env : Env} {B : Addr → Prop} {σ : List (Str × Sl)} {n : Nat}

theorem Ev.mono {e : Expr} {R R' : Rel} (h : Ev prog w mg mb env B σ n e R) (hr : ∀ h v, R.r h v → R'.r h v) : Ev prog w mg mb env B σ n e R' :=
  fun A s a r => wpAny_mono (h A s a r) (fun _ _ ⟨k, q⟩ => ⟨k, hr _ _ q⟩) fun _ _ x => x

theorem ev_lst {e : Expr} {ds : List D} (h : Ev prog w mg mb env B σ n e (rep B (.list ds))) : Ev prog w mg mb env B σ n e (lst B ds) :=
  h.mono fun _ _ r => by cases r with | list _ l q => exact ⟨_, _, _, rfl, l, q⟩

theorem loadName_sees {A : Around} {s : Shared} {x : Str} {v : Value} {Q : Value → Shared → Prop} {E : Value → Shared → Prop} {M : Model} (hk : EnvOk env) (S : Sees env s.heap x v) (hc : (x == ("__classdict__" : Str)) = false) (h : Q v s) : wpAny M A (loadName env x) Q E s := by
  rcases S with ⟨k, m, ns, e⟩ | ⟨k | k, c, l, i⟩
  · exact wpAny_loadName_local hk.kind k ns e h
  · exact wpAny_loadName_cell hk.kind k l i h
  · exact wpAny_loadName_free hk.kind k l i h hc

theorem ev_sees {x : Str} {pos : Pos} {sl : Sl} {R : Rel} (hx : σ.lookup x = some sl) (hr : ∀ h v, SlR h B v sl → R.r h v) (hd : (x == ("__debug__" : Str)) = false := by rfl) (hc : (x == ("__classdict__" : Str)) = false := by rfl) :
    Ev prog w mg mb env B σ n (.Name x pos) R := fun A s _ r => by
  obtain ⟨v, S, q⟩ := r.var x sl hx
  exact wpAny_Name (loadName_sees r.envOk S hc ⟨keeps_refl _, hr _ _ q⟩) hd
theorem ev_name {x : Str} {pos : Pos} {d : D} (hx : σ.lookup x = some (.v d) := by rfl) (hd : (x == ("__debug__" : Str)) = false := by rfl) (hc : (x == ("__classdict__" : Str)) = false := by rfl) :
    Ev prog w mg mb env B σ n (.Name x pos) (rep B d) := ev_sees hx (fun _ _ q => q) hd hc
theorem ev_own {x : Str} {pos : Pos} {ds : List D} (hx : σ.lookup x = some (.own ds) := by rfl) (hd : (x == ("__debug__" : Str)) = false := by rfl) (hc : (x == ("__classdict__" : Str)) = false := by rfl) :
    Ev prog w mg mb env B σ n (.Name x pos) (lst B ds) := ev_sees hx (fun _ _ q => q) hd hc

theorem ev_bor {x : Str} {pos : Pos} {ds : List D} (hx : σ.lookup x = some (.bor ds) := by rfl) (hd : (x == ("__debug__" : Str)) = false := by rfl) (hc : (x == ("__classdict__" : Str)) = false := by rfl) :
    Ev prog w mg mb env B σ n (.Name x pos) (lst B ds) := ev_sees hx (fun _ _ q => q) hd hc

theorem ev_global {x : Str} {pos : Pos} {v : Value} (hv : mg x = some v) (hx : env.kindOf x = some .globalImplicit := by rfl) (hd : (x == ("__debug__" : Str)) = false := by rfl) :
    Ev prog w mg mb env B σ n (.Name x pos) (val v) := fun A s _ r =>
  wpAny_Name (PySem.W.ks_loadName_global r.envOk.kind hx (Calls.loadGlobal_global (by rw [r.envOk.globals]; exact r.glo.g) hv ⟨keeps_refl _, rfl⟩)) hd
theorem ev_builtin {x : Str} {pos : Pos} {v : Value} (hg : mg x = none) (hv : mb x = some v) (hx : env.kindOf x = some .globalImplicit := by rfl) (hd : (x == ("__debug__" : Str)) = false := by rfl) :
    Ev prog w mg mb env B σ n (.Name x pos) (val v) := fun A s _ r =>
  wpAny_Name (PySem.W.ks_loadName_global r.envOk.kind hx (Calls.loadGlobal_builtin (by rw [r.envOk.globals]; exact r.glo.g) hg (by rw [r.envOk.builtins]; exact r.glo.b) hv ⟨keeps_refl _, rfl⟩)) hd

theorem ev_int {i : Int} {k : Nat} {pos : Pos} : Ev prog w mg mb env B σ n (.Constant (.int i) k pos) (rep B (.int i)) := fun _ s _ _ => by
  show wpAny _ _ (mkInt i) _ _ s
  exact wpAny_mkInt ⟨keeps_tok _ _, .int _ _⟩
theorem ev_bytes {x : List UInt8} {k : Nat} {pos : Pos} : Ev prog w mg mb env B σ n (.Constant (.bytes x) k pos) (rep B (.bytes x)) := fun _ s _ _ =>
  PySem.W.Constant_bytes ⟨keeps_tok _ _, .bytes _ _⟩
theorem ev_bool {b : Bool} {k : Nat} {pos : Pos} : Ev prog w mg mb env B σ n (.Constant (.bool b) k pos) (rep B (.bool b)) := fun _ s _ _ => by
  show wpAny _ _ (pure (Value.bool b) : Sem Value) _ _ s
  exact wpAny_pure ⟨keeps_refl _, .bool _⟩
theorem ev_none {k : Nat} {pos : Pos} : Ev prog w mg mb env B σ n (.Constant .none k pos) (rep B .none) := fun _ s _ _ => by
  show wpAny _ _ (pure Value.none : Sem Value) _ _ s
  exact wpAny_pure ⟨keeps_refl _, .none⟩

/-- two operands -/
theorem ev_bin {l r : Expr} {op : Operator} {pos : Pos} {R₁ R₂ R : Rel} (h₁ : Ev prog w mg mb env B σ n l R₁) (h₂ : Ev prog w mg mb env B σ n r R₂)
    (h : ∀ A s v₁ v₂, AOk n A → Rd mg mb env B σ s → R₁.r s.heap v₁ → R₂.r s.heap v₂ → wpAny (model prog w) A (binaryOp op v₁ v₂) (fun v s' => Keeps s s' ∧ R.r s'.heap v) Fl s) :
    Ev prog w mg mb env B σ n (.BinOp l op r pos) R := fun A s a rd =>
  wpAny_BinOp (wpAny_mono (h₁ A s a rd) (fun v₁ s₁ ⟨k₁, q₁⟩ => wpAny_mono (h₂ A s₁ a (rd.keeps k₁)) (fun v₂ s₂ ⟨k₂, q₂⟩ =>
    wpAny_mono (h A s₂ v₁ v₂ a ((rd.keeps k₁).keeps k₂) (R₁.st _ (keeps_heap k₂) q₁) q₂) (fun _ _ ⟨k, q⟩ => ⟨keeps_trans k₁ (keeps_trans k₂ k), q⟩) fun _ _ x => x) fun _ _ x => x) fun _ _ x => x)

theorem ev_binI {l r : Expr} {op : Operator} {pos : Pos} {a b c : Int} (h₁ : Ev prog w mg mb env B σ n l (rep B (.int a))) (h₂ : Ev prog w mg mb env B σ n r (rep B (.int b)))
    (h : ∀ A s t u, AOk n A → Rd mg mb env B σ s → wpAny (model prog w) A (binaryOp op (.int a t) (.int b u)) (fun v s' => v = .int c s.toks ∧ s' = { s with toks := s.toks + 1 }) Fl s) :
    Ev prog w mg mb env B σ n (.BinOp l op r pos) (rep B (.int c)) :=
  ev_bin h₁ h₂ fun A s v₁ v₂ ha hr q₁ q₂ => by
    cases q₁ with | int _ t => cases q₂ with | int _ u => exact wpAny_mono (h A s t u ha hr) (fun v s' ⟨e, e'⟩ => by subst e e'; exact ⟨keeps_tok _ _, .int _ _⟩) fun _ _ x => x

theorem ev_add {l r : Expr} {pos : Pos} {a b : Int} (h₁ : Ev prog w mg mb env B σ n l (rep B (.int a))) (h₂ : Ev prog w mg mb env B σ n r (rep B (.int b))) :
    Ev prog w mg mb env B σ n (.BinOp l .Add r pos) (rep B (.int (a + b))) := ev_binI h₁ h₂ fun _ _ _ _ _ _ => add_int ⟨rfl, rfl⟩
theorem ev_sub {l r : Expr} {pos : Pos} {a b : Int} (h₁ : Ev prog w mg mb env B σ n l (rep B (.int a))) (h₂ : Ev prog w mg mb env B σ n r (rep B (.int b))) :
    Ev prog w mg mb env B σ n (.BinOp l .Sub r pos) (rep B (.int (a - b))) := ev_binI h₁ h₂ fun _ _ _ _ _ _ => sub_int ⟨rfl, rfl⟩
theorem ev_mul {l r : Expr} {pos : Pos} {a b : Int} (h₁ : Ev prog w mg mb env B σ n l (rep B (.int a))) (h₂ : Ev prog w mg mb env B σ n r (rep B (.int b))) (hm : IntMulOk a b) :
    Ev prog w mg mb env B σ n (.BinOp l .Mult r pos) (rep B (.int (a * b))) := ev_binI h₁ h₂ fun _ _ _ _ _ _ => mul_int ⟨rfl, rfl⟩ hm
theorem ev_mod {l r : Expr} {pos : Pos} {a b : Int} (h₁ : Ev prog w mg mb env B σ n l (rep B (.int a))) (h₂ : Ev prog w mg mb env B σ n r (rep B (.int b))) (hb : 0 < b) :
    Ev prog w mg mb env B σ n (.BinOp l .Mod r pos) (rep B (.int (a % b))) := ev_binI h₁ h₂ fun _ _ _ _ _ _ => mod_int' (by omega) ⟨by rw [Int.fmod_eq_emod_of_nonneg _ (Int.le_of_lt hb)], rfl⟩
theorem ev_div {l r : Expr} {pos : Pos} {a b : Int} (h₁ : Ev prog w mg mb env B σ n l (rep B (.int a))) (h₂ : Ev prog w mg mb env B σ n r (rep B (.int b))) (hb : 0 < b) (hb' : b < 1000000) :
    Ev prog w mg mb env B σ n (.BinOp l .FloorDiv r pos) (rep B (.int (a / b))) := ev_binI h₁ h₂ fun _ _ _ _ _ _ =>
  floordiv_int (by omega) ⟨by rw [Int.fdiv_eq_ediv_of_nonneg _ (Int.le_of_lt hb)], rfl⟩ (Or.inl (PyProof.noPylong_small (by omega)))
theorem ev_shl {l r : Expr} {pos : Pos} {a b : Int} (h₁ : Ev prog w mg mb env B σ n l (rep B (.int a))) (h₂ : Ev prog w mg mb env B σ n r (rep B (.int b))) (hb : 0 ≤ b) (hb' : b ≤ 1000000) (ha : a.natAbs < 2 ^ 64) :
    Ev prog w mg mb env B σ n (.BinOp l .LShift r pos) (rep B (.int (a * 2 ^ b.toNat))) := ev_binI h₁ h₂ fun _ _ _ _ _ _ => lshift_int_small hb hb' ha ⟨rfl, rfl⟩
theorem ev_shr {l r : Expr} {pos : Pos} {a b : Int} (h₁ : Ev prog w mg mb env B σ n l (rep B (.int a))) (h₂ : Ev prog w mg mb env B σ n r (rep B (.int b))) (hb : 0 ≤ b) :
    Ev prog w mg mb env B σ n (.BinOp l .RShift r pos) (rep B (.int (a.fdiv (2 ^ b.toNat)))) := ev_binI h₁ h₂ fun _ _ _ _ _ _ => rshift_int hb ⟨rfl, rfl⟩
theorem ev_and {l r : Expr} {pos : Pos} {a b : Int} (h₁ : Ev prog w mg mb env B σ n l (rep B (.int a))) (h₂ : Ev prog w mg mb env B σ n r (rep B (.int b))) :
    Ev prog w mg mb env B σ n (.BinOp l .BitAnd r pos) (rep B (.int (Builtin.bitAnd a b))) := ev_binI h₁ h₂ fun _ _ _ _ _ _ => and_int ⟨rfl, rfl⟩
theorem ev_or {l r : Expr} {pos : Pos} {a b : Int} (h₁ : Ev prog w mg mb env B σ n l (rep B (.int a))) (h₂ : Ev prog w mg mb env B σ n r (rep B (.int b))) :
    Ev prog w mg mb env B σ n (.BinOp l .BitOr r pos) (rep B (.int (Builtin.bitOr a b))) := ev_binI h₁ h₂ fun _ _ _ _ _ _ => or_int ⟨rfl, rfl⟩

theorem Rd.fresh {s : Shared} (R : Rd mg mb env B σ s) : ¬ B s.heap.objs.size := fun q => by
  obtain ⟨o, e⟩ := R.ex _ q
  exact Nat.lt_irrefl _ (Heap.lt_size e)

theorem rep_newList {s : Shared} {vs : List Value} {ds : List D} (R : Rd mg mb env B σ s) (r : RepL s.heap B vs ds) :
    Keeps s { s with heap := s.heap.push { cls := .type "list", data := .seq vs.toArray } } ∧ (rep B (.list ds)).r (s.heap.push { cls := .type "list", data := .seq vs.toArray }) (.ref s.heap.objs.size) :=
  ⟨keeps_push _ _, .list R.fresh (IsL.new _ _) (r.keeps fun _ _ e => Heap.get?_push_of_some _ e)⟩

/-- two lists glued -/
theorem ev_cat {l r : Expr} {pos : Pos} {a b : List D} (h₁ : Ev prog w mg mb env B σ n l (lst B a)) (h₂ : Ev prog w mg mb env B σ n r (lst B b)) (hz : a.length + b.length ≤ sizeLine) :
    Ev prog w mg mb env B σ n (.BinOp l .Add r pos) (rep B (.list (a ++ b))) :=
  ev_bin h₁ h₂ fun A s v₁ v₂ ha hr ⟨l₁, vs₁, n₁, e₁, i₁, q₁⟩ ⟨l₂, vs₂, n₂, e₂, i₂, q₂⟩ => by
    subst e₁ e₂
    refine P.add_list i₁ i₂ ?_ (by simp only [List.size_toArray]; rw [q₁.length, q₂.length]; exact hz)
    rw [List.append_toArray]
    exact rep_newList hr (q₁.append q₂)
end
end Mine

namespace Mine
open PySem PyProof.Rows

section
variable {prog : Program} {w : World} {mg mb : Str → Option Value} {env : Env} {B : Addr → Prop} {σ : List (Str × Sl)} {n : Nat}

theorem ea_nil : EvA prog w mg mb env B σ n [] [] := fun A s pos a rd => wpAny_items_nil ⟨keeps_refl _, trivial⟩
theorem RelL.st {h h' : Heap} (hk : ∀ b o, h.get? b = some o → h'.get? b = some o) : ∀ {Rs : List Rel} {vs : List Value}, RelL h Rs vs → RelL h' Rs vs
  | [], [], _ => trivial
  | R :: _, _ :: _, ⟨a, b⟩ => ⟨R.st _ hk a, b.st hk⟩
  | [], _ :: _, x => x.elim
  | _ :: _, [], x => x.elim
theorem ea_cons {e : Expr} {es : List Expr} {R : Rel} {Rs : List Rel} (h : Ev prog w mg mb env B σ n e R) (t : EvA prog w mg mb env B σ n es Rs)
    (he : starEach (e :: es) env = (false, eval e env) :: starEach es env := by rfl) : EvA prog w mg mb env B σ n (e :: es) (R :: Rs) := fun A s pos a rd =>
  wpAny_items_cons (wpAny_mono (h A s a rd) (fun v s₁ ⟨k₁, q₁⟩ => wpAny_mono (t A s₁ pos a (rd.keeps k₁)) (fun vs s₂ ⟨k₂, q₂⟩ => ⟨keeps_trans k₁ k₂, R.st _ (keeps_heap k₂) q₁, q₂⟩) fun _ _ x => x) fun _ _ x => x) he

theorem relL_rep {h : Heap} : ∀ {ds : List D} {vs : List Value}, RelL h (ds.map (rep B)) vs → RepL h B vs ds
  | [], [], _ => .nil
  | _ :: _, _ :: _, ⟨a, b⟩ => .cons a (relL_rep b)
  | [], _ :: _, x => x.elim
  | _ :: _, [], x => x.elim

theorem ev_list {es : List Expr} {ds : List D} {pos : Pos} (h : EvA prog w mg mb env B σ n es (ds.map (rep B))) (hz : ds.length ≤ sizeLine := by first | decide | exact Nat.le_of_ble_eq_true rfl) : Ev prog w mg mb env B σ n (.List es pos) (rep B (.list ds)) := fun A s a rd =>
  wpAny_List (wpAny_mono (h A s pos a rd) (fun vs s₁ ⟨k₁, q₁⟩ => by
    have r := relL_rep q₁
    refine ⟨by rw [r.length]; exact hz, ?_⟩
    have := rep_newList (rd.keeps k₁) r
    exact ⟨keeps_trans k₁ this.1, this.2⟩) fun _ _ x => x)
theorem ev_tuple {es : List Expr} {ds : List D} {k : Nat} {pos : Pos} (h : EvA prog w mg mb env B σ n es (ds.map (rep B))) (hz : ds.length ≤ sizeLine := by first | decide | exact Nat.le_of_ble_eq_true rfl) : Ev prog w mg mb env B σ n (.Tuple es k pos) (rep B (.tuple ds)) := fun A s a rd =>
  wpAny_Tuple (wpAny_mono (h A s pos a rd) (fun vs s₁ ⟨k₁, q₁⟩ => by
    have r := relL_rep q₁
    refine ⟨by rw [r.length]; exact hz, keeps_trans k₁ (keeps_push _ _), ?_⟩
    exact Rep.tuple (n := 0) (rd.keeps k₁).fresh (Heap.get?_push_size _ rfl) (r.keeps fun _ _ e => Heap.get?_push_of_some _ e)) fun _ _ x => x)

/-- an item -/
theorem ev_item {value slice : Expr} {pos : Pos} {ds : List D} {k : Int} {d : D} (h₁ : Ev prog w mg mb env B σ n value (lst B ds)) (h₂ : Ev prog w mg mb env B σ n slice (rep B (.int k))) (h0 : 0 ≤ k) (hz : k < 2 ^ 63) (hd : ds[k.toNat]? = some d)
    (hs : ∀ o i, subscripted slice false o i = operate [o, i] (getItem o i) := by intro _ _; rfl) : Ev prog w mg mb env B σ n (.Subscript value slice pos) (rep B d) := fun A s a rd =>
  Subscript_ (wpAny_mono (h₁ A s a rd) (fun o s₁ ⟨k₁, q₁⟩ => wpAny_mono (h₂ A s₁ a (rd.keeps k₁)) (fun i s₂ ⟨k₂, q₂⟩ => by
    obtain ⟨l, vs, m, rfl, il, r⟩ := (lst B ds).st _ (keeps_heap k₂) q₁
    cases q₂ with | int _ t => 
    obtain ⟨v, hv, rv⟩ := r.get hd
    exact tail_any il.isList.typeIs slot_list_getitem.lookup (wpAny_getItem_list il.isList h0 hz (by simpa using hv) ⟨keeps_trans k₁ k₂, rv⟩) (hs _ _)) fun _ _ x => x) fun _ _ x => x)

/-- an octet of bytes -/
theorem ev_octet {value slice : Expr} {pos : Pos} {x : List UInt8} {k : Int} (h₁ : Ev prog w mg mb env B σ n value (rep B (.bytes x))) (h₂ : Ev prog w mg mb env B σ n slice (rep B (.int k))) (h0 : 0 ≤ k) (h1 : k < x.length) (hz : x.length ≤ 1099511627776)
    (hs : ∀ o i, subscripted slice false o i = operate [o, i] (getItem o i) := by intro _ _; rfl) : Ev prog w mg mb env B σ n (.Subscript value slice pos) (rep B (.int (x.getD k.toNat 0).toNat)) := fun A s a rd =>
  Subscript_ (wpAny_mono (h₁ A s a rd) (fun o s₁ ⟨k₁, q₁⟩ => wpAny_mono (h₂ A s₁ a (rd.keeps k₁)) (fun i s₂ ⟨k₂, q₂⟩ => by
    cases q₁ with | bytes _ t =>
    cases q₂ with | int _ u =>
    exact tail_any (PySem.W.typeIs_bytes _ _ _) PySem.W.FB.slot_bytes_getitem.lookup (PySem.W.getItem_bytes hz h0 h1 ⟨keeps_trans k₁ (keeps_trans k₂ (keeps_tok _ _)), .int _ _⟩) (hs _ _)) fun _ _ x => x) fun _ _ x => x)

/-- the parts of a slice -/
def EvP (e : Option Expr) (k : Option Int) : Prop :=
  ∀ A s, AOk n A → Rd mg mb env B σ s → wpAny (model prog w) A (evalPart e env) (fun v s' => Keeps s s' ∧ IsPart v k) Fl s
theorem ep_none : EvP (prog := prog) (w := w) (mg := mg) (mb := mb) (env := env) (B := B) (σ := σ) (n := n) none none := fun A s _ _ => by
  rw [evalPart_none]; exact wpAny_pure ⟨keeps_refl _, .none⟩
theorem ep_some {e : Expr} {k : Int} (h : Ev prog w mg mb env B σ n e (rep B (.int k))) : EvP (prog := prog) (w := w) (mg := mg) (mb := mb) (env := env) (B := B) (σ := σ) (n := n) (some e) (some k) := fun A s a rd => by
  rw [evalPart_some]
  exact wpAny_mono (h A s a rd) (fun v s' ⟨q, r⟩ => by cases r with | int _ t => exact ⟨q, .int _ _⟩) fun _ _ x => x
theorem keeps_push2 (s : Shared) (o o' : Obj) : Keeps s { s with heap := (s.heap.push o).push o' } := ⟨_, s.toks, rfl, fun _ _ e => Heap.get?_push_of_some _ (Heap.get?_push_of_some _ e)⟩
theorem ev_slice {value : Expr} {lower upper : Option Expr} {p pos : Pos} {ds es : List D} {lo hi : Option Int} (h₁ : Ev prog w mg mb env B σ n value (lst B ds))
    (h₂ : EvP (prog := prog) (w := w) (mg := mg) (mb := mb) (env := env) (B := B) (σ := σ) (n := n) lower lo) (h₃ : EvP (prog := prog) (w := w) (mg := mg) (mb := mb) (env := env) (B := B) (σ := σ) (n := n) upper hi)
    (hz : ds.length ≤ sizeLine) (he : ∀ (h : Heap) (vs : List Value), RepL h B vs ds → RepL h B (slicePick vs.toArray lo hi none).toList es)
    (ht : ∀ o r, letTemporaryGo value o r = pure () := by intro _ _; rfl) : Ev prog w mg mb env B σ n (.Subscript value (.Slice lower upper none p) pos) (rep B (.list es)) := fun A s a rd =>
  wpAny_Subscript_list_slice (wpAny_mono (h₁ A s a rd) (fun o s₁ ⟨k₁, q₁⟩ => wpAny_mono (h₂ A s₁ a (rd.keeps k₁)) (fun vl s₂ ⟨k₂, q₂⟩ => wpAny_mono (h₃ A s₂ a ((rd.keeps k₁).keeps k₂)) (fun vu s₃ ⟨k₃, q₃⟩ => by
    have k : Keeps s s₃ := keeps_trans k₁ (keeps_trans k₂ k₃)
    obtain ⟨l, vs, m, rfl, il, r⟩ := (lst B ds).st _ (keeps_heap (keeps_trans k₂ k₃)) q₁
    refine ⟨l, _, lo, hi, rfl, il.isList, by rw [List.size_toArray, r.length]; exact hz, q₂, q₃, keeps_trans k (keeps_push2 _ _ _), ?_⟩
    have hf : ¬ B (s₃.heap.objs.size + 1) := fun q => by
      obtain ⟨o, e⟩ := (rd.keeps k).ex _ q
      exact Nat.not_succ_le_self _ (Nat.le_of_lt (Heap.lt_size e))
    have e1 : (slicePick vs.toArray lo hi none) = (slicePick vs.toArray lo hi none).toList.toArray := by simp
    rw [e1]
    refine Rep.list (n := 0) hf ?_ ((he _ _ r).keeps fun _ _ e => Heap.get?_push_of_some _ (Heap.get?_push_of_some _ e))
    have := IsL.new (s₃.heap.push { cls := .type "slice", data := .fields #[vl, vu, .none] }) ((slicePick vs.toArray lo hi none).toList.toArray)
    rwa [Heap.size_push] at this) fun _ _ x => x) fun _ _ x => x) fun _ _ x => x) ht
theorem ev_from {value e : Expr} {p pos : Pos} {ds : List D} {k : Nat} (h₁ : Ev prog w mg mb env B σ n value (lst B ds)) (h₂ : Ev prog w mg mb env B σ n e (rep B (.int k))) (hz : ds.length ≤ sizeLine)
    (ht : ∀ o r, letTemporaryGo value o r = pure () := by intro _ _; rfl) : Ev prog w mg mb env B σ n (.Subscript value (.Slice (some e) none none p) pos) (rep B (.list (ds.drop k))) :=
  ev_slice h₁ (ep_some h₂) ep_none hz (fun h vs r => by rw [slicePick_from']; simpa using r.drop k) ht
theorem ev_upto {value e : Expr} {p pos : Pos} {ds : List D} {k : Nat} (h₁ : Ev prog w mg mb env B σ n value (lst B ds)) (h₂ : Ev prog w mg mb env B σ n e (rep B (.int (-(k : Int))))) (hk : 1 ≤ k) (hz : ds.length ≤ sizeLine)
    (ht : ∀ o r, letTemporaryGo value o r = pure () := by intro _ _; rfl) : Ev prog w mg mb env B σ n (.Subscript value (.Slice none (some e) none p) pos) (rep B (.list (ds.take (ds.length - k)))) :=
  ev_slice h₁ ep_none (ep_some h₂) hz (fun h vs r => by rw [slicePick_butLast _ _ hk]; simpa [r.length] using r.take (ds.length - k)) ht
theorem ev_neg {e : Expr} {pos : Pos} {a : Int} (h : Ev prog w mg mb env B σ n e (rep B (.int a))) : Ev prog w mg mb env B σ n (.UnaryOp .USub e pos) (rep B (.int (-a))) := fun A s ha rd => by
  rw [arm_eval_UnaryOp]
  refine wpAny_bind (wpAny_mono (h A s ha rd) (fun v s₁ ⟨k, r⟩ => ?_) fun _ _ x => x)
  cases r with | int _ t =>
  exact wpAny_bind (wpAny_standAt (wpAny_holding (neg_int ⟨keeps_trans k (keeps_tok _ _), .int _ _⟩)))

/-- comparisons -/
theorem ev_cmp {l r : Expr} {op : CmpOp} {pos : Pos} {R₁ R₂ : Rel} {b : Bool} (h₁ : Ev prog w mg mb env B σ n l R₁) (h₂ : Ev prog w mg mb env B σ n r R₂)
    (h : ∀ A s v₁ v₂, AOk n A → Rd mg mb env B σ s → R₁.r s.heap v₁ → R₂.r s.heap v₂ → wpAny (model prog w) A (compareOp op v₁ v₂) (fun v s' => Keeps s s' ∧ v = .bool b) Fl s)
    (hm : behindInMarks op r = false := by rfl) : Ev prog w mg mb env B σ n (.Compare l [op] [r] pos) (rep B (.bool b)) := fun A s a rd =>
  wpAny_Compare1 (wpAny_mono (h₁ A s a rd) (fun v₁ s₁ ⟨k₁, q₁⟩ => wpAny_mono (h₂ A s₁ a (rd.keeps k₁)) (fun v₂ s₂ ⟨k₂, q₂⟩ =>
    wpAny_mono (h A s₂ v₁ v₂ a ((rd.keeps k₁).keeps k₂) (R₁.st _ (keeps_heap k₂) q₁) q₂) (fun _ _ ⟨k, q⟩ => by subst q; exact ⟨keeps_trans k₁ (keeps_trans k₂ k), .bool _⟩) fun _ _ x => x) fun _ _ x => x) fun _ _ x => x) hm
theorem tr_cmp {l r : Expr} {op : CmpOp} {pos : Pos} {R₁ R₂ : Rel} {b : Bool} (h₁ : Ev prog w mg mb env B σ n l R₁) (h₂ : Ev prog w mg mb env B σ n r R₂)
    (h : ∀ A s v₁ v₂, AOk n A → Rd mg mb env B σ s → R₁.r s.heap v₁ → R₂.r s.heap v₂ → wpAny (model prog w) A (compareOp op v₁ v₂) (fun v s' => Keeps s s' ∧ v = .bool b) Fl s)
    (hm : behindInMarks op r = false := by rfl) : Tr prog w mg mb env B σ n (.Compare l [op] [r] pos) b := fun A s a rd =>
  wpAny_isTrue_Compare1 (wpAny_mono (h₁ A s a rd) (fun v₁ s₁ ⟨k₁, q₁⟩ => wpAny_mono (h₂ A s₁ a (rd.keeps k₁)) (fun v₂ s₂ ⟨k₂, q₂⟩ =>
    wpAny_mono (h A s₂ v₁ v₂ a ((rd.keeps k₁).keeps k₂) (R₁.st _ (keeps_heap k₂) q₁) q₂) (fun _ _ ⟨k, q⟩ => by subst q; exact wpAny_truthy_bool ⟨keeps_trans k₁ (keeps_trans k₂ k), rfl⟩) fun _ _ x => x) fun _ _ x => x) fun _ _ x => x) hm

section
variable {A : Around} {s : Shared}
theorem cmp_lt {a b : Int} {v₁ v₂ : Value} (q₁ : (rep B (.int a)).r s.heap v₁) (q₂ : (rep B (.int b)).r s.heap v₂) : wpAny (model prog w) A (compareOp .Lt v₁ v₂) (fun v s' => Keeps s s' ∧ v = .bool (decide (a < b))) Fl s := by
  cases q₁ with | int _ t => cases q₂ with | int _ u => exact lt_int ⟨keeps_refl _, rfl⟩
theorem cmp_ge {a b : Int} {v₁ v₂ : Value} (q₁ : (rep B (.int a)).r s.heap v₁) (q₂ : (rep B (.int b)).r s.heap v₂) : wpAny (model prog w) A (compareOp .GtE v₁ v₂) (fun v s' => Keeps s s' ∧ v = .bool (decide (b ≤ a))) Fl s := by
  cases q₁ with | int _ t => cases q₂ with | int _ u => exact ge_int ⟨keeps_refl _, rfl⟩
theorem cmp_eq {a b : Int} {v₁ v₂ : Value} (q₁ : (rep B (.int a)).r s.heap v₁) (q₂ : (rep B (.int b)).r s.heap v₂) : wpAny (model prog w) A (compareOp .Eq v₁ v₂) (fun v s' => Keeps s s' ∧ v = .bool (a == b)) Fl s := by
  cases q₁ with | int _ t => cases q₂ with | int _ u => exact eq_int ⟨keeps_refl _, rfl⟩
theorem cmp_ne {a b : Int} {v₁ v₂ : Value} (q₁ : (rep B (.int a)).r s.heap v₁) (q₂ : (rep B (.int b)).r s.heap v₂) : wpAny (model prog w) A (compareOp .NotEq v₁ v₂) (fun v s' => Keeps s s' ∧ v = .bool (a != b)) Fl s := by
  cases q₁ with | int _ t => cases q₂ with | int _ u => exact ne_int ⟨keeps_refl _, rfl⟩
theorem cmp_neB {a b : List UInt8} {v₁ v₂ : Value} (q₁ : (rep B (.bytes a)).r s.heap v₁) (q₂ : (rep B (.bytes b)).r s.heap v₂) : wpAny (model prog w) A (compareOp .NotEq v₁ v₂) (fun v s' => Keeps s s' ∧ v = .bool (a != b)) Fl s := by
  cases q₁ with | bytes _ t => cases q₂ with | bytes _ u => exact PySem.W.ne_bytes ⟨keeps_refl _, rfl⟩
theorem intsAre {h : Heap} : ∀ {xs : List Int} {vs : List Value}, RepL h B vs (xs.map D.int) → IntsAre vs xs
  | [], [], .nil => .nil
  | _ :: _, _ :: _, .cons (.int _ t) r => .cons _ t (intsAre r)
theorem cmp_neL {a b : List Int} {v₁ v₂ : Value} (ha : AOk n A) (q₁ : (lst B (a.map D.int)).r s.heap v₁) (q₂ : (lst B (b.map D.int)).r s.heap v₂) : wpAny (model prog w) A (compareOp .NotEq v₁ v₂) (fun v s' => Keeps s s' ∧ v = .bool (!decide (a = b))) Fl s := by
  obtain ⟨l, vs, m, rfl, il, r⟩ := q₁
  obtain ⟨l', vs', m', rfl, il', r'⟩ := q₂
  exact PySem.W.ne_intsK il.isList (intsAre r) il'.isList (intsAre r') (by have := ha.2.2; simp only [cLine]; omega) ⟨keeps_refl _, rfl⟩
theorem cmp_isT {a b : String} {v₁ v₂ : Value} (q₁ : (rep B (.ty a)).r s.heap v₁) (q₂ : (val (.type b)).r s.heap v₂) : wpAny (model prog w) A (compareOp .Is v₁ v₂) (fun v s' => Keeps s s' ∧ v = .bool (Value.type a == Value.type b)) Fl s := by
  cases q₁ with | ty => have e : v₂ = .type b := q₂; subst e; exact wpAny_is_plain rfl ⟨keeps_refl _, rfl⟩
theorem cmp_isN {d : D} {v₁ v₂ : Value} (hd : d ≠ .none) (q₁ : (rep B d).r s.heap v₁) (q₂ : (rep B .none).r s.heap v₂) : wpAny (model prog w) A (compareOp .Is v₁ v₂) (fun v s' => Keeps s s' ∧ v = .bool false) Fl s := by
  cases q₂
  exact is_none_ne (by rintro rfl; cases q₁; exact hd rfl) ⟨keeps_refl _, rfl⟩
theorem cmp_isntN {d : D} {v₁ v₂ : Value} (hd : d ≠ .none) (q₁ : (rep B d).r s.heap v₁) (q₂ : (rep B .none).r s.heap v₂) : wpAny (model prog w) A (compareOp .IsNot v₁ v₂) (fun v s' => Keeps s s' ∧ v = .bool true) Fl s := by
  cases q₂
  exact isnot_none_ne (by rintro rfl; cases q₁; exact hd rfl) ⟨keeps_refl _, rfl⟩
theorem cmp_isntNN {v₁ v₂ : Value} (q₁ : (rep B .none).r s.heap v₁) (q₂ : (rep B .none).r s.heap v₂) : wpAny (model prog w) A (compareOp .IsNot v₁ v₂) (fun v s' => Keeps s s' ∧ v = .bool false) Fl s := by
  cases q₂; cases q₁
  exact isnot_none_none ⟨keeps_refl _, rfl⟩
end

theorem tr_not {e : Expr} {pos : Pos} {b : Bool} (h : Tr prog w mg mb env B σ n e b) : Tr prog w mg mb env B σ n (.UnaryOp .Not e pos) (!b) := fun A s a rd =>
  isTrue_not (wpAny_mono (h A s a rd) (fun _ _ ⟨k, q⟩ => ⟨k, by rw [q]⟩) fun _ _ x => x)
theorem tr_or_nil {pos : Pos} : Tr prog w mg mb env B σ n (.BoolOp .Or [] pos) false := fun A s a rd => isTrue_or_nil ⟨keeps_refl _, rfl⟩
theorem tr_or {e : Expr} {es : List Expr} {pos : Pos} {b c : Bool} (h : Tr prog w mg mb env B σ n e b) (t : b = false → Tr prog w mg mb env B σ n (.BoolOp .Or es pos) c) : Tr prog w mg mb env B σ n (.BoolOp .Or (e :: es) pos) (b || c) := fun A s a rd => by
  show wpAny _ _ (allTrue .Or (e :: es) env) _ _ s
  rw [show allTrue .Or (e :: es) env = (do match BoolOp.Or, ← isTrue e env (eval e env) with | .And, false => pure false | .Or, true => pure true | _, _ => allTrue .Or es env) from rfl]
  refine wpAny_bind (wpAny_mono (h A s a rd) (fun x s₁ ⟨k, q⟩ => ?_) fun _ _ x => x)
  subst q
  cases x with
  | true => exact wpAny_pure ⟨k, rfl⟩
  | false => exact wpAny_mono (t rfl A s₁ a (rd.keeps k)) (fun _ _ ⟨k', q'⟩ => ⟨keeps_trans k k', by simpa using q'⟩) fun _ _ x => x
theorem tr_bool {e : Expr} {b : Bool} (h : Ev prog w mg mb env B σ n e (rep B (.bool b))) (he : ∀ whole, isTrue e env whole = (do let v ← whole; standAt e.pos; holding [v] (truthy v)) := by intro _; rfl) : Tr prog w mg mb env B σ n e b := fun A s a rd =>
  isTrue_plain (wpAny_mono (h A s a rd) (fun v s₁ ⟨k, q⟩ => by cases q; exact wpAny_truthy_bool ⟨k, rfl⟩) fun _ _ x => x) (he _)
theorem ev_ifexp {t b o : Expr} {pos : Pos} {c : Bool} {R : Rel} (h : Tr prog w mg mb env B σ n t c) (h₁ : c = true → Ev prog w mg mb env B σ n b R) (h₂ : c = false → Ev prog w mg mb env B σ n o R) : Ev prog w mg mb env B σ n (.IfExp t b o pos) R := fun A s a rd =>
  IfExp_ (wpAny_mono (h A s a rd) (fun x s₁ ⟨k, q⟩ => by
    subst q
    cases x with
    | true => exact wpAny_mono (h₁ rfl A s₁ a (rd.keeps k)) (fun _ _ ⟨k', q'⟩ => ⟨keeps_trans k k', q'⟩) fun _ _ x => x
    | false => exact wpAny_mono (h₂ rfl A s₁ a (rd.keeps k)) (fun _ _ ⟨k', q'⟩ => ⟨keeps_trans k k', q'⟩) fun _ _ x => x) fun _ _ x => x)
end
end Mine

namespace Mine
open PySem PyProof.Rows

section
variable {prog : Program} {w : World} {mg mb : Str → Option Value} {env : Env} {B : Addr → Prop} {σ : List (Str × Sl)} {n : Nat}

/-- what a call of fv makes of such arguments, in a frame's state -/
def Co (prog : Program) (w : World) (mg mb : Str → Option Value) (env : Env) (B : Addr → Prop) (σ : List (Str × Sl)) (n : Nat) (fv : Value) (Rs : List Rel) (R : Rel) : Prop :=
  ∀ A s vs, AOk n A → Rd mg mb env B σ s → RelL s.heap Rs vs → wpAny (model prog w) A (call fv vs) (fun v s' => Keeps s s' ∧ R.r s'.heap v) Fl s

theorem ev_callB {func e : Expr} {rest : List Expr} {pos : Pos} {id : String} {Rs : List Rel} {R : Rel} (hf : Ev prog w mg mb env B σ n func (val (.builtin id))) (ha : EvA prog w mg mb env B σ n (e :: rest) Rs)
    (hc : Co prog w mg mb env B σ n (.builtin id) Rs R)
    (he : starEach (e :: rest) env = (false, eval e env) :: starEach rest env := by rfl) (hplain : (backTo pos (starEach rest env)).any (·.1) = false := by rfl)
    (hcall : eval (.Call func (e :: rest) [] pos) env = (do callWith pos (← eval func env) [] (backTo pos (starEach (e :: rest) env)) (backToKw pos (keywordEach [] env))) := by rfl) :
    Ev prog w mg mb env B σ n (.Call func (e :: rest) [] pos) R := fun A s a rd =>
  Call_ (wpAny_mono (hf A s a rd) (fun f s₁ ⟨k₁, q₁⟩ => by
    have e1 : f = .builtin id := q₁
    subst e1
    exact callWith_method1 (first := []) (wpAny_mono (ha A s₁ pos a (rd.keeps k₁)) (fun vs s₂ ⟨k₂, q₂⟩ =>
      wpAny_mono (hc A s₂ vs a ((rd.keeps k₁).keeps k₂) q₂) (fun _ _ ⟨k, q⟩ => ⟨keeps_trans k₁ (keeps_trans k₂ k), q⟩) fun _ _ x => x) fun _ _ x => x) he hplain) fun _ _ x => x) hcall
theorem ev_callT {func e : Expr} {rest : List Expr} {pos : Pos} {T : String} {Rs : List Rel} {R : Rel} (hf : Ev prog w mg mb env B σ n func (val (.type T))) (ha : EvA prog w mg mb env B σ n (e :: rest) Rs)
    (hc : Co prog w mg mb env B σ n (.type T) Rs R)
    (he : starEach (e :: rest) env = (false, eval e env) :: starEach rest env := by rfl) (hplain : (backTo pos (starEach rest env)).any (·.1) = false := by rfl)
    (hcall : eval (.Call func (e :: rest) [] pos) env = (do callWith pos (← eval func env) [] (backTo pos (starEach (e :: rest) env)) (backToKw pos (keywordEach [] env))) := by rfl) :
    Ev prog w mg mb env B σ n (.Call func (e :: rest) [] pos) R := fun A s a rd =>
  Call_ (wpAny_mono (hf A s a rd) (fun f s₁ ⟨k₁, q₁⟩ => by
    have e1 : f = .type T := q₁
    subst e1
    exact PyProof.Rows.callWith_type1 (wpAny_mono (ha A s₁ pos a (rd.keeps k₁)) (fun vs s₂ ⟨k₂, q₂⟩ =>
      wpAny_mono (hc A s₂ vs a ((rd.keeps k₁).keeps k₂) q₂) (fun _ _ ⟨k, q⟩ => ⟨keeps_trans k₁ (keeps_trans k₂ k), q⟩) fun _ _ x => x) fun _ _ x => x) he hplain) fun _ _ x => x) hcall
theorem ev_callF {func e : Expr} {rest : List Expr} {pos : Pos} {f : Addr} {Rs : List Rel} {R : Rel} (hf : Ev prog w mg mb env B σ n func (val (.ref f))) (ha : EvA prog w mg mb env B σ n (e :: rest) Rs)
    (ho : ∀ s, Rd mg mb env B σ s → ∃ o fd, s.heap.get? f = some o ∧ o.data = .func fd)
    (hc : Co prog w mg mb env B σ n (.ref f) Rs R)
    (he : starEach (e :: rest) env = (false, eval e env) :: starEach rest env := by rfl) (hplain : (backTo pos (starEach rest env)).any (·.1) = false := by rfl)
    (hcall : eval (.Call func (e :: rest) [] pos) env = (do callWith pos (← eval func env) [] (backTo pos (starEach (e :: rest) env)) (backToKw pos (keywordEach [] env))) := by rfl) :
    Ev prog w mg mb env B σ n (.Call func (e :: rest) [] pos) R := fun A s a rd =>
  Call_ (wpAny_mono (hf A s a rd) (fun f' s₁ ⟨k₁, q₁⟩ => by
    have e1 : f' = .ref f := q₁
    subst e1
    obtain ⟨o, fd, ho1, ho2⟩ := ho s₁ (rd.keeps k₁)
    exact callWith_meth (first := []) ho2 ho1 (wpAny_mono (ha A s₁ pos a (rd.keeps k₁)) (fun vs s₂ ⟨k₂, q₂⟩ =>
      ⟨keeps_heap k₂, wpAny_mono (hc A s₂ vs a ((rd.keeps k₁).keeps k₂) q₂) (fun _ _ ⟨k, q⟩ => ⟨keeps_trans k₁ (keeps_trans k₂ k), q⟩) fun _ _ x => x⟩) fun _ _ x => x) he) fun _ _ x => x) hcall

theorem relL1 {h : Heap} {R : Rel} {vs : List Value} (q : RelL h [R] vs) : ∃ v, vs = [v] ∧ R.r h v := by
  match vs, q with
  | [v], q => exact ⟨v, rfl, q.1⟩
theorem relL2 {h : Heap} {R R' : Rel} {vs : List Value} (q : RelL h [R, R'] vs) : ∃ v v', vs = [v, v'] ∧ R.r h v ∧ R'.r h v' := by
  match vs, q with
  | [v, v'], q => exact ⟨v, v', rfl, q.1, q.2.1⟩
theorem relL3 {h : Heap} {R R' R'' : Rel} {vs : List Value} (q : RelL h [R, R', R''] vs) : ∃ v v' v'', vs = [v, v', v''] ∧ R.r h v ∧ R'.r h v' ∧ R''.r h v'' := by
  match vs, q with
  | [v, v', v''], q => exact ⟨v, v', v'', rfl, q.1, q.2.1, q.2.2.1⟩

theorem co_lenL {ds : List D} (hz : ds.length ≤ sizeLine) : Co prog w mg mb env B σ n (.builtin "len") [lst B ds] (rep B (.int ds.length)) := fun A s vs a rd q => by
  obtain ⟨v, rfl, l, us, m, rfl, il, r⟩ := relL1 q
  have hz' : ds.length ≤ 2 ^ 24 := by simpa [sizeLine] using hz
  refine len_list il.isList (by simp [r.length]; omega) ⟨keeps_tok _ _, ?_⟩
  have e : us.toArray.size = ds.length := by simp [r.length]
  rw [e]; exact .int _ _
theorem co_lenB {x : List UInt8} (hz : x.length ≤ 1099511627776) : Co prog w mg mb env B σ n (.builtin "len") [rep B (.bytes x)] (rep B (.int x.length)) := fun A s vs a rd q => by
  obtain ⟨v, rfl, r⟩ := relL1 q
  cases r
  refine PySem.W.len_bytes (by simpa using hz) ⟨keeps_tok _ _, ?_⟩
  simp only [List.size_toArray]
  exact .int _ _
theorem co_typeB {x : List UInt8} : Co prog w mg mb env B σ n (.type "type") [rep B (.bytes x)] (rep B (.ty "bytes")) := fun A s vs a rd q => by
  obtain ⟨v, rfl, r⟩ := relL1 q
  cases r
  exact call_type_of (PySem.W.typeIs_bytes _ _ _) (by decide) ⟨keeps_refl _, .ty _⟩
theorem co_typeBool {b : Bool} : Co prog w mg mb env B σ n (.type "type") [rep B (.bool b)] (rep B (.ty "bool")) := fun A s vs a rd q => by
  obtain ⟨v, rfl, r⟩ := relL1 q
  cases r
  exact call_type_of (show s.TypeIs (.bool b) "bool" from rfl) (by decide) ⟨keeps_refl _, .ty _⟩
theorem co_intBool {b : Bool} : Co prog w mg mb env B σ n (.type "int") [rep B (.bool b)] (rep B (.int (if b then 1 else 0))) := fun A s vs a rd q => by
  obtain ⟨v, rfl, r⟩ := relL1 q
  cases r
  exact call_int_bool ⟨keeps_tok _ _, .int _ _⟩
def octs (xs : List Int) : List UInt8 := xs.map fun n => n.toNat.toUInt8
theorem co_bytes {xs : List Int} (hr : ∀ n ∈ xs, 0 ≤ n ∧ n < 256) (hz : xs.length ≤ sizeLine) : Co prog w mg mb env B σ n (.type "bytes") [lst B (xs.map D.int)] (rep B (.bytes (octs xs))) := fun A s vs a rd q => by
  obtain ⟨v, rfl, l, us, m, rfl, il, r⟩ := relL1 q
  refine call_bytes_ints il.isList (intsAre r) hr (by rw [r.length]; simpa using hz) a.1 fun h' t k hk => ⟨⟨h', k, rfl, hk⟩, ?_⟩
  exact .bytes (octs xs) t
theorem co_isBytes {x : List UInt8} : Co prog w mg mb env B σ n (.builtin "isinstance") [rep B (.bytes x), val (.type "bytes")] (rep B (.bool true)) := fun A s vs a rd q => by
  obtain ⟨v, v', rfl, r, r'⟩ := relL2 q
  cases r
  have e : v' = .type "bytes" := r'
  subst e
  exact call_isinstance (isinstance_true (Tx := "bytes") (by kernel_rfl) F.sub_bytes_bytes) ⟨PySem.W.typeIs_bytes _ _ _, keeps_refl _, .bool _⟩
theorem co_sum {xs : List Int} : Co prog w mg mb env B σ n (.builtin "sum") [rep B (.arg xs)] (rep B (.int xs.sum)) := fun A s vs a rd q => by
  obtain ⟨v, rfl, r⟩ := relL1 q
  cases r with | arg hb hl hi =>
  rename_i l us
  refine call_sum_walkG (wpAny_pyIter_list hl ?_)
  obtain ⟨ol, hol, _⟩ := id hl
  have hne : l ≠ s.heap.objs.size := Nat.ne_of_lt (Heap.lt_size hol)
  refine ⟨_, _, _, _, _, _, fun i => xs.getD i 0, rfl, Walks.list (A := A.in1) a.1 s.heap.objs.size l hne us.toArray, ⟨⟨_, Heap.get?_push_size _ rfl, rfl, rfl⟩, hl.push _⟩, ?_, ?_, ?_⟩
  · intro b hb
    simp only [List.mem_cons, List.not_mem_nil, or_false] at hb
    show b < (s.heap.push _).objs.size
    rw [Heap.size_push]
    rcases hb with rfl | rfl
    · exact Nat.lt_succ_self _
    · exact Nat.lt_succ_of_lt (Heap.lt_size hol)
  · intro i v hv
    have hi' : us[i]? = some v := by simpa using hv
    have hlt : i < us.length := (List.getElem?_eq_some_iff.mp hi').1
    have hlx : i < xs.length := by rw [← hi.length]; exact hlt
    obtain ⟨t, ht⟩ := hi.get i (xs.getD i 0) (by simp [hlx])
    rw [hi'] at ht
    exact ⟨t, Option.some.inj ht⟩
  · intro h' tk t' hk
    refine ⟨⟨h', tk, rfl, fun b o e => hk b o (by simp; have := Heap.lt_size e; exact Nat.ne_of_lt this) (Heap.get?_push_of_some _ e)⟩, ?_⟩
    rw [preSum_getD, List.size_toArray, hi.length, List.take_length]
    exact .int _ _
end
end Mine

namespace Mine
open PySem PyProof.Rows

theorem ns_det {h : Heap} {a : Addr} {m m' : Str → Option Value} (x : h.Ns a m) (y : h.Ns a m') (n : Str) : m n = m' n := by
  obtain ⟨o, es, ep, ho, hd, _, hm⟩ := x
  obtain ⟨o', es', ep', ho', hd', _, hm'⟩ := y
  rw [ho] at ho'; cases ho'
  rw [hd] at hd'; cases hd'
  rw [← hm, ← hm']
theorem cell_det {h : Heap} {c : Addr} {v v' : Option Value} (x : h.IsCell c v) (y : h.IsCell c v') : v = v' := by
  obtain ⟨o, ho, hd⟩ := x
  obtain ⟨o', ho', hd'⟩ := y
  rw [ho] at ho'; cases ho'
  rw [hd] at hd'; cases hd'; rfl
theorem Sees.det {env : Env} {h : Heap} {x : Str} {v v' : Value} (S : Sees env h x v) (S' : Sees env h x v') : v = v' := by
  rcases S with ⟨k, m, ns, e⟩ | ⟨k, c, l, i⟩ <;> rcases S' with ⟨k', m', ns', e'⟩ | ⟨k', c', l', i'⟩
  · have := ns_det ns ns' x; rw [e, e'] at this; exact Option.some.inj this
  · rw [k] at k'; rcases k' with k' | k' <;> cases k'
  · rw [k'] at k; rcases k with k | k <;> cases k
  · rw [l] at l'; cases l'; exact Option.some.inj (cell_det i i')

/-- what a frame's run may lean on: the bans that stand at least and at most, the state of the call's start, the objects that are held still -/
structure Fm where
  Lo : Addr → Prop
  Lim : Addr → Prop
  s₀ : Shared
  Hd : Addr → Obj → Prop

structure OkB (mg mb : Str → Option Value) (env : Env) (B0 B : Addr → Prop) (φ : Fm) (σ : List (Str × Sl)) (s : Shared) : Prop where
  rd : Rd mg mb env B σ s
  glo0 : Glo mg mb φ.s₀.heap
  base : ∀ b o, φ.s₀.heap.get? b = some o → φ.Hd b o
  sub : ∀ b, B0 b → B b
  same : ∃ h tk, s = { φ.s₀ with heap := h, toks := tk }
  ns : ∃ m, s.heap.Ns env.locals m
  cell : ∀ x c, env.cells.lookup x = some c → ∃ v, s.heap.IsCell c v
  apart : ∀ x y c, env.cells.lookup x = some c → env.cells.lookup y = some c → x = y
  hold : ∀ b o, φ.Hd b o → s.heap.get? b = some o
  hL : ∀ o, ¬ φ.Hd env.locals o
  hC : ∀ x c o, env.cells.lookup x = some c → ¬ φ.Hd c o
  own : ∀ x ds a, σ.lookup x = some (.own ds) → Sees env s.heap x (.ref a) → B a ∧ ¬ B0 a ∧ ∀ o, ¬ φ.Hd a o
  bor : ∀ x ds a, σ.lookup x = some (.bor ds) → Sees env s.heap x (.ref a) → ∃ o, φ.s₀.heap.get? a = some o
  dist : ∀ x y ds es a, σ.lookup x = some (.own ds) → σ.lookup y = some (.own es) → Sees env s.heap x (.ref a) → Sees env s.heap y (.ref a) → x = y
  lim : ∀ b o, φ.Hd b o → B b → φ.Lim b
  lo : ∀ b, φ.Lo b → B b

section
variable {mg mb : Str → Option Value} {env : Env} {B0 B : Addr → Prop} {φ : Fm} {σ : List (Str × Sl)} {s : Shared}

theorem OkB.back (O : OkB mg mb env B0 B φ σ s) {s' : Shared} (hS : ∀ x v, Sees env s.heap x v → Sees env s'.heap x v) {x : Str} {sl : Sl} {v : Value} (hx : σ.lookup x = some sl) (S : Sees env s'.heap x v) : Sees env s.heap x v := by
  obtain ⟨u, U, _⟩ := O.rd.var x sl hx
  have := (hS x u U).det S
  subst this; exact U

theorem OkB.keeps (O : OkB mg mb env B0 B φ σ s) {s' : Shared} (k : Keeps s s') : OkB mg mb env B0 B φ σ s' := by
  have hk := keeps_heap k
  have hS : ∀ x v, Sees env s.heap x v → Sees env s'.heap x v := fun x v S => S.keeps hk
  refine ⟨O.rd.keeps k, O.glo0, O.base, O.sub, ?_, ?_, fun x c e => let ⟨v, i⟩ := O.cell x c e; ⟨v, i.keeps hk⟩, O.apart, fun b o q => hk b o (O.hold b o q), O.hL, O.hC,
    fun x ds a hx S => O.own x ds a hx (O.back hS hx S), fun x ds a hx S => O.bor x ds a hx (O.back hS hx S), fun x y ds es a hx hy S S' => O.dist x y ds es a hx hy (O.back hS hx S) (O.back hS hy S'), O.lim, O.lo⟩
  · obtain ⟨h, t, e⟩ := O.same
    obtain ⟨h', t', e', _⟩ := k
    exact ⟨h', t', by rw [e', e]⟩
  · obtain ⟨m, ns⟩ := O.ns; exact ⟨m, ns.keeps hk⟩

theorem OkB.weaken (O : OkB mg mb env B0 B φ σ s) {σ' : List (Str × Sl)} (hw : ∀ x sl, σ'.lookup x = some sl → σ.lookup x = some sl) : OkB mg mb env B0 B φ σ' s :=
  ⟨⟨O.rd.envOk, O.rd.glo, O.rd.ex, fun x sl e => O.rd.var x sl (hw x sl e)⟩, O.glo0, O.base, O.sub, O.same, O.ns, O.cell, O.apart, O.hold, O.hL, O.hC,
    fun x ds a hx => O.own x ds a (hw _ _ hx), fun x ds a hx => O.bor x ds a (hw _ _ hx), fun x y ds es a hx hy => O.dist x y ds es a (hw _ _ hx) (hw _ _ hy), O.lim, O.lo⟩

theorem seq_ne_dict {h : Heap} {a : Addr} {m : Str → Option Value} (n : h.Ns a m) {o : Obj} (e : h.get? a = some o) : ¬ Seq o := by
  obtain ⟨o', es, ep, ho, hd, hs, _⟩ := n
  rw [ho] at e; cases e
  rintro (⟨xs, k, q⟩ | ⟨es', ep', q, hi, hz⟩)
  · rw [hd] at q; cases q
  · rw [hd] at q; cases q
    have hm : es[0]'(Nat.pos_of_ne_zero hz) ∈ es := Array.getElem_mem _
    obtain ⟨k, t, e1, _⟩ := hi _ hm
    obtain ⟨m, t', e2⟩ := hs _ hm
    rw [e1] at e2; cases e2
theorem seq_ne_cell {h : Heap} {c : Addr} {v : Option Value} (n : h.IsCell c v) {o : Obj} (e : h.get? c = some o) : ¬ Seq o := by
  obtain ⟨o', ho, hd⟩ := n
  rw [ho] at e; cases e
  rintro (⟨xs, k, q⟩ | ⟨es', ep', q, _⟩) <;> (rw [hd] at q; cases q)
theorem cell_ne_ns {h : Heap} {a c : Addr} {m : Str → Option Value} {v : Option Value} (n : h.Ns a m) (i : h.IsCell c v) : c ≠ a := by
  rintro rfl
  obtain ⟨o', es, ep, ho, hd, _⟩ := n
  obtain ⟨o, ho', hd'⟩ := i
  rw [ho] at ho'; cases ho'
  rw [hd] at hd'; cases hd'

/-- one object that is no list and no tuple, and that nobody holds, has turned; a name may have a new value -/
theorem OkB.turn (O : OkB mg mb env B0 B φ σ s) {t : Addr} {h' : Heap} {tk : Nat}
    (hk : ∀ b o, b ≠ t → s.heap.get? b = some o → h'.get? b = some o) (hsome : ∃ o, h'.get? t = some o) (hseq : ∀ o, s.heap.get? t = some o → ¬ Seq o)
    (hh : ∀ o, ¬ φ.Hd t o) (hns : ∃ m, h'.Ns env.locals m) (hcell : ∀ x c, env.cells.lookup x = some c → ∃ v, h'.IsCell c v)
    {x : Option Str} {v : Value} {sl : Sl} (hS : ∀ y u, some y ≠ x → Sees env s.heap y u → Sees env h' y u)
    (hx : ∀ y, x = some y → Sees env h' y v ∧ SlR s.heap B v sl ∧ (∀ ds, sl = .own ds → ∃ a, v = .ref a ∧ B a ∧ ¬ B0 a ∧ (∀ o, ¬ φ.Hd a o) ∧ ∀ z es, z ≠ y → σ.lookup z = some (.own es) → ¬ Sees env s.heap z (.ref a)) ∧ (∀ ds, sl = .bor ds → ∃ a o, v = .ref a ∧ φ.s₀.heap.get? a = some o)) :
    OkB mg mb env B0 B φ (match x with | some y => (y, sl) :: σ | none => σ) { s with heap := h', toks := tk } := by
  have hkh : ∀ b o, φ.Hd b o → h'.get? b = some o := fun b o q => hk b o (fun e => hh o (e ▸ q)) (O.hold b o q)
  have kp : Kp B s.heap h' := fun a o e q _ => hk a o (fun z => hseq o (z ▸ e) q) e
  have slm : ∀ u l, SlR s.heap B u l → SlR h' B u l := by
    intro u l r
    cases l with
    | v d => exact Rep.mono kp (fun _ _ q => q) r
    | own ds => obtain ⟨a, vs, n, e, i, q⟩ := r; exact ⟨a, vs, n, e, hk _ _ (fun z => hseq _ (z ▸ i) (.inl ⟨_, _, rfl⟩)) i, q.mono kp fun _ _ q => q⟩
    | bor ds => obtain ⟨a, vs, n, e, i, q⟩ := r; exact ⟨a, vs, n, e, hk _ _ (fun z => hseq _ (z ▸ i) (.inl ⟨_, _, rfl⟩)) i, q.mono kp fun _ _ q => q⟩
  have ex : ∀ b, B b → ∃ o, h'.get? b = some o := fun b q => by
    by_cases hb : b = t
    · rw [hb]; exact hsome
    · obtain ⟨o, e⟩ := O.rd.ex b q; exact ⟨o, hk b o hb e⟩
  have glo : Glo mg mb h' := O.glo0.keeps fun b o e => hkh b o (O.base b o e)
  have same : ∃ h tk', ({ s with heap := h', toks := tk } : Shared) = { φ.s₀ with heap := h, toks := tk' } := by
    obtain ⟨h, t', e⟩ := O.same; exact ⟨h', tk, by rw [e]⟩
  cases x with
  | none =>
    have hS' : ∀ y u, Sees env s.heap y u → Sees env h' y u := fun y u => hS y u (fun e => nomatch e)
    have bk : ∀ {y l u}, σ.lookup y = some l → Sees env h' y u → Sees env s.heap y u := fun {y l u} hy S => O.back (s' := { s with heap := h', toks := tk }) hS' hy S
    exact ⟨⟨O.rd.envOk, glo, ex, fun y l e => let ⟨u, U, r⟩ := O.rd.var y l e; ⟨u, hS' y u U, slm u l r⟩⟩, O.glo0, O.base, O.sub, same, hns, hcell, O.apart, hkh, O.hL, O.hC,
      fun y ds a hy S => O.own y ds a hy (bk hy S), fun y ds a hy S => O.bor y ds a hy (bk hy S), fun y z ds es a hy hz S S' => O.dist y z ds es a hy hz (bk hy S) (bk hz S'), O.lim, O.lo⟩
  | some x =>
    obtain ⟨Sx, rx, ox, bx⟩ := hx x rfl
    have hS' : ∀ y u, y ≠ x → Sees env s.heap y u → Sees env h' y u := fun y u q => hS y u (fun e => q (Option.some.inj e))
    have bk : ∀ {y l u}, y ≠ x → σ.lookup y = some l → Sees env h' y u → Sees env s.heap y u := fun {y l u} q hy S => by
      obtain ⟨u', U, _⟩ := O.rd.var y l hy
      have := (hS' y u' q U).det S
      subst this; exact U
    have lk : ∀ {y l}, List.lookup y ((x, sl) :: σ) = some l → (y = x ∧ l = sl) ∨ (y ≠ x ∧ σ.lookup y = some l) := by
      intro y l e
      rw [List.lookup_cons] at e
      by_cases q : y = x
      · subst q; simp at e; exact .inl ⟨rfl, e.symm⟩
      · have : (y == x) = false := beq_eq_false_iff_ne.mpr q
        rw [this] at e; exact .inr ⟨q, e⟩
    refine ⟨⟨O.rd.envOk, glo, ex, fun y l e => ?_⟩, O.glo0, O.base, O.sub, same, hns, hcell, O.apart, hkh, O.hL, O.hC, fun y ds a e S => ?_, fun y ds a e S => ?_, fun y z ds es a e e' S S' => ?_, O.lim, O.lo⟩
    · rcases lk e with ⟨rfl, rfl⟩ | ⟨q, e⟩
      · exact ⟨v, Sx, slm v _ rx⟩
      · obtain ⟨u, U, r⟩ := O.rd.var y l e
        exact ⟨u, hS' y u q U, slm u l r⟩
    · rcases lk e with ⟨rfl, rfl⟩ | ⟨q, e⟩
      · obtain ⟨a', e1, h1, h2, h3, _⟩ := ox ds rfl
        have := Sx.det S; rw [e1] at this; cases this
        exact ⟨h1, h2, h3⟩
      · exact O.own y ds a e (bk q e S)
    · rcases lk e with ⟨rfl, rfl⟩ | ⟨q, e⟩
      · obtain ⟨a', o, e1, h1⟩ := bx ds rfl
        have := Sx.det S; rw [e1] at this; cases this
        exact ⟨o, h1⟩
      · exact O.bor y ds a e (bk q e S)
    · rcases lk e with ⟨rfl, e1⟩ | ⟨q, e1⟩ <;> rcases lk e' with ⟨rfl, e2⟩ | ⟨q', e2⟩
      · rfl
      · obtain ⟨a', e3, _, _, _, h4⟩ := ox ds e1.symm
        have := Sx.det S; rw [e3] at this; cases this
        exact absurd (bk q' e2 S') (h4 z es q' e2)
      · obtain ⟨a', e3, _, _, _, h4⟩ := ox es e2.symm
        have := Sx.det S'; rw [e3] at this; cases this
        exact absurd (bk q e1 S) (h4 y ds q e1)
      · exact O.dist y z ds es a e1 e2 (bk q e1 S) (bk q' e2 S')
end
end Mine

namespace Mine
open PySem PyProof.Rows

section
variable {mg mb : Str → Option Value} {env : Env} {B0 B : Addr → Prop} {φ : Fm} {σ : List (Str × Sl)} {s : Shared}

/-- lists and tuples stay -/
def KS (h h' : Heap) : Prop := ∀ a o, h.get? a = some o → Seq o → h'.get? a = some o
theorem KS.kp {h h' : Heap} (k : KS h h') (B : Addr → Prop) : Kp B h h' := fun a o e q _ => k a o e q

def Stores (env : Env) (x : Str) : Prop := env.kindOf x = some .local ∨ (env.kindOf x = some .cell ∧ (env.cells.lookup x).isSome = true)

theorem OkB.store {M : Model} {A : Around} {E : Value → Shared → Prop} {x : Str} {v : Value} {sl : Sl} (O : OkB mg mb env B0 B φ σ s) (hx : Stores env x) (hr : SlR s.heap B v sl)
    (ho : ∀ ds, sl = .own ds → ∃ a, v = .ref a ∧ B a ∧ ¬ B0 a ∧ (∀ o, ¬ φ.Hd a o) ∧ ∀ z es, z ≠ x → σ.lookup z = some (.own es) → ¬ Sees env s.heap z (.ref a))
    (hb : ∀ ds, sl = .bor ds → ∃ a o, v = .ref a ∧ φ.s₀.heap.get? a = some o) {Q : Unit → Shared → Prop} (h : ∀ s', OkB mg mb env B0 B φ ((x, sl) :: σ) s' → KS s.heap s'.heap → (∀ z u, z ≠ x → Sees env s.heap z u → Sees env s'.heap z u) ∧ Sees env s'.heap x v → Q () s') :
    wpAny M A (storeName env x v) Q E s := by
  obtain ⟨m, ns⟩ := O.ns
  have hp : (env.scope.kind == .class || (env.scope.kind == .module && env.locals != env.globals)) = false := by rw [O.rd.envOk.kind]; rfl
  rcases hx with hl | ⟨hl, hc⟩
  · refine wpAny_storeName_local hl ns (fun h' ns' hs => ?_) hp
    have hS : ∀ y u, y ≠ x → Sees env s.heap y u → Sees env h' y u := fun y u hy S => by
      rcases S with ⟨k, m', n', e'⟩ | ⟨k, c, l, i⟩
      · refine .inl ⟨k, _, ns', ?_⟩
        rw [if_neg hy, ns_det ns n' y]; exact e'
      · exact .inr ⟨k, c, l, i.sameBut hs (cell_ne_ns ns i)⟩
    refine h _ ?_ (fun a o e q => hs.extBut a o (fun z => seq_ne_dict ns (z ▸ e) q) e) ⟨hS, .inl ⟨hl, _, ns', by simp⟩⟩
    refine O.turn (t := env.locals) (x := some x) (v := v) (sl := sl) (fun b o hb e => hs.extBut b o hb e) (let ⟨o, _, _, ho, _⟩ := ns'; ⟨o, ho⟩) (fun o e => seq_ne_dict ns e) O.hL ⟨_, ns'⟩
      (fun y c e => let ⟨u, i⟩ := O.cell y c e; ⟨u, i.sameBut hs (cell_ne_ns ns i)⟩) (fun y u hy S => hS y u (fun q => hy (by rw [q])) S) (fun y e => ?_)
    cases e
    exact ⟨.inl ⟨hl, _, ns', by simp⟩, hr, ho, hb⟩
  · obtain ⟨c, hc⟩ := Option.isSome_iff_exists.mp hc
    obtain ⟨u, iu⟩ := O.cell x c hc
    refine wpAny_storeName_cell O.rd.envOk.kind hl hc iu (fun h' i' hs => ?_)
    have hS : ∀ y u, y ≠ x → Sees env s.heap y u → Sees env h' y u := fun y u hy S => by
      rcases S with ⟨k, m', n', e'⟩ | ⟨k, c', l, i⟩
      · exact .inl ⟨k, m', n'.sameBut hs (Ne.symm (cell_ne_ns n' iu)), e'⟩
      · refine .inr ⟨k, c', l, i.sameBut hs ?_⟩
        rintro rfl
        exact hy (O.apart y x _ l hc)
    refine h _ ?_ (fun a o e q => hs.extBut a o (fun z => seq_ne_cell iu (z ▸ e) q) e) ⟨hS, .inr ⟨.inl hl, c, hc, i'⟩⟩
    have := O.turn (tk := s.toks) (t := c) (x := some x) (v := v) (sl := sl) (fun b o hb e => hs.extBut b o hb e) (let ⟨o, ho, _⟩ := i'; ⟨o, ho⟩) (fun o e => seq_ne_cell iu e) (fun o => O.hC x c o hc) ⟨_, ns.sameBut hs (Ne.symm (cell_ne_ns ns iu))⟩
      (fun y c' e => by
        by_cases q : c' = c
        · subst q; exact ⟨_, i'⟩
        · obtain ⟨u', i2⟩ := O.cell y c' e; exact ⟨u', i2.sameBut hs q⟩) (fun y u hy S => hS y u (fun q => hy (by rw [q])) S) (fun y e => by
        cases e
        exact ⟨.inr ⟨.inl hl, c, hc, i'⟩, hr, ho, hb⟩)
    exact this

theorem OkB.storeV {M : Model} {A : Around} {E : Value → Shared → Prop} {x : Str} {v : Value} {d : D} (O : OkB mg mb env B0 B φ σ s) (hx : Stores env x) (hr : Rep s.heap B v d)
    {Q : Unit → Shared → Prop} (h : ∀ s', OkB mg mb env B0 B φ ((x, .v d) :: σ) s' → KS s.heap s'.heap → Q () s') : wpAny M A (storeName env x v) Q E s :=
  O.store hx (sl := .v d) hr (fun _ e => nomatch e) (fun _ e => nomatch e) fun s' O' k _ => h s' O' k

/-- a new list, held back for growing -/
theorem OkB.alloc (O : OkB mg mb env B0 B φ σ s) {vs : List Value} {ds : List D} (r : RepL s.heap B vs ds) :
    OkB mg mb env B0 (fun b => b = s.heap.objs.size ∨ B b) φ σ { s with heap := s.heap.push { cls := .type "list", data := .seq vs.toArray } } ∧
    SlR (s.heap.push { cls := .type "list", data := .seq vs.toArray }) (fun b => b = s.heap.objs.size ∨ B b) (.ref s.heap.objs.size) (.own ds) ∧ ¬ B0 s.heap.objs.size ∧ (∀ o, ¬ φ.Hd s.heap.objs.size o) ∧
    ∀ z es, σ.lookup z = some (.own es) → ¬ Sees env (s.heap.push { cls := .type "list", data := .seq vs.toArray }) z (.ref s.heap.objs.size) := by
  have hk : ∀ b o, s.heap.get? b = some o → (s.heap.push { cls := .type "list", data := .seq vs.toArray }).get? b = some o := fun _ _ e => Heap.get?_push_of_some _ e
  have O' := O.keeps (keeps_push s { cls := .type "list", data := .seq vs.toArray })
  have lt : ∀ a, a < s.heap.objs.size → (a = s.heap.objs.size ∨ B a) → B a := fun a h q => q.resolve_left (Nat.ne_of_lt h)
  have rm : ∀ {v d}, Rep s.heap B v d → Rep (s.heap.push { cls := .type "list", data := .seq vs.toArray }) (fun b => b = s.heap.objs.size ∨ B b) v d := fun r => r.mono (.of hk) lt
  have rl : ∀ {v d}, RepL s.heap B v d → RepL (s.heap.push { cls := .type "list", data := .seq vs.toArray }) (fun b => b = s.heap.objs.size ∨ B b) v d := fun r => r.mono (.of hk) lt
  have hold : ∀ o, ¬ φ.Hd s.heap.objs.size o := fun o q => Nat.lt_irrefl _ (Heap.lt_size (O.hold _ _ q))
  refine ⟨⟨⟨O'.rd.envOk, O'.rd.glo, fun b q => ?_, fun x sl e => ?_⟩, O.glo0, O.base, fun b q => .inr (O.sub b q), O'.same, O'.ns, O'.cell, O.apart, O'.hold, O.hL, O.hC,
    fun x ds a hx S => let ⟨q1, q2, q3⟩ := O'.own x ds a hx S; ⟨.inr q1, q2, q3⟩, O'.bor, O'.dist, fun b o q q' => ?_, fun b q => .inr (O.lo b q)⟩, ⟨_, vs, 0, rfl, IsL.new _ _, rl r⟩, fun q => ?_, hold, fun z es hz S => ?_⟩
  · rcases q with rfl | q
    · exact ⟨_, Heap.get?_push_size _ rfl⟩
    · obtain ⟨o, e⟩ := O.rd.ex b q; exact ⟨o, hk b o e⟩
  · obtain ⟨v, S, q⟩ := O.rd.var x sl e
    refine ⟨v, S.keeps hk, ?_⟩
    cases sl with
    | v d => exact rm q
    | own ds => obtain ⟨a, us, n, e, i, q⟩ := q; exact ⟨a, us, n, e, hk _ _ i, rl q⟩
    | bor ds => obtain ⟨a, us, n, e, i, q⟩ := q; exact ⟨a, us, n, e, hk _ _ i, rl q⟩
  · rcases q' with rfl | q'
    · exact absurd q (hold _)
    · exact O.lim b o q q'
  · obtain ⟨o, e⟩ := O.rd.ex _ (O.sub _ q); exact Nat.lt_irrefl _ (Heap.lt_size e)
  · obtain ⟨v, S', a, us, n, e, i, _⟩ := O.rd.var z _ hz
    have := (S'.keeps hk).det S
    rw [e] at this; cases this
    exact Nat.lt_irrefl _ (Heap.lt_size i)

/-- an own list grown by one -/
theorem OkB.grow (O : OkB mg mb env B0 B φ σ s) {x : Str} {ds : List D} {d : D} {v : Value} {a : Addr} {vs : List Value} {m : Nat} (hx : σ.lookup x = some (.own ds)) (S : Sees env s.heap x (.ref a)) (hl : IsL s.heap a vs.toArray m) (hv : RepL s.heap B vs ds) (hr : Rep s.heap B v d) :
    OkB mg mb env B0 B φ ((x, .own (ds ++ [d])) :: σ) { s with heap := s.heap.update a (Obj.mapSeq fun xs => xs.push v) } := by
  have ha := O.own x ds a hx S
  have hk : ∀ b o, b ≠ a → s.heap.get? b = some o → (s.heap.update a (Obj.mapSeq fun xs => xs.push v)).get? b = some o := fun b o hb e => (Heap.get?_update_ne _ _ _ _ hb).trans e
  have hself := IsL.update hl (fun xs => xs.push v)
  have kp : Kp B s.heap (s.heap.update a (Obj.mapSeq fun xs => xs.push v)) := fun b o e _ q => by
    refine hk b o ?_ e
    rintro rfl
    exact q ha.1
  have hkh : ∀ b o, φ.Hd b o → (s.heap.update a (Obj.mapSeq fun xs => xs.push v)).get? b = some o := fun b o q => hk b o (fun e => ha.2.2 o (e ▸ q)) (O.hold b o q)
  obtain ⟨mm, ns⟩ := O.ns
  have haL : env.locals ≠ a := by rintro rfl; exact seq_ne_dict ns hl (.inl ⟨_, _, rfl⟩)
  have haC : ∀ y c, env.cells.lookup y = some c → c ≠ a := by
    rintro y c e rfl
    obtain ⟨u, i⟩ := O.cell y c e
    exact seq_ne_cell i hl (.inl ⟨_, _, rfl⟩)
  have cellk : ∀ {c u}, c ≠ a → s.heap.IsCell c u → (s.heap.update a (Obj.mapSeq fun xs => xs.push v)).IsCell c u := fun hc ⟨o, ho, hd⟩ => ⟨o, hk _ _ hc ho, hd⟩
  have nsk : ∀ {m}, s.heap.Ns env.locals m → (s.heap.update a (Obj.mapSeq fun xs => xs.push v)).Ns env.locals m := fun n => n.at' fun o e => hk _ o haL e
  have hS : ∀ y u, Sees env s.heap y u → Sees env (s.heap.update a (Obj.mapSeq fun xs => xs.push v)) y u := by
    intro y u S
    rcases S with ⟨k, m', n', e'⟩ | ⟨k, c, l, i⟩
    · exact .inl ⟨k, m', nsk n', e'⟩
    · exact .inr ⟨k, c, l, cellk (haC y c l) i⟩
  have lk : ∀ {y l}, List.lookup y ((x, .own (ds ++ [d])) :: σ) = some l → (y = x ∧ l = .own (ds ++ [d])) ∨ (y ≠ x ∧ σ.lookup y = some l) := by
    intro y l e
    rw [List.lookup_cons] at e
    by_cases q : y = x
    · subst q; simp at e; exact .inl ⟨rfl, e.symm⟩
    · have : (y == x) = false := beq_eq_false_iff_ne.mpr q
      rw [this] at e; exact .inr ⟨q, e⟩
  have bk : ∀ {y l u}, σ.lookup y = some l → Sees env (s.heap.update a (Obj.mapSeq fun xs => xs.push v)) y u → Sees env s.heap y u := fun {y l u} hy S =>
    O.back (s' := { s with heap := s.heap.update a (Obj.mapSeq fun xs => xs.push v) }) hS hy S
  refine ⟨⟨O.rd.envOk, O.glo0.keeps fun b o e => hkh b o (O.base b o e), fun b q => ?_, fun y l e => ?_⟩, O.glo0, O.base, O.sub, ?_, ⟨mm, nsk ns⟩, fun y c e => let ⟨u, i⟩ := O.cell y c e; ⟨u, cellk (haC y c e) i⟩, O.apart, hkh, O.hL, O.hC,
    fun y es b e S' => ?_, fun y es b e S' => ?_, fun y z es fs b e e' S1 S2 => ?_, O.lim, O.lo⟩
  · by_cases hb : b = a
    · rw [hb]; exact ⟨_, hself⟩
    · obtain ⟨o, e⟩ := O.rd.ex b q; exact ⟨o, hk b o hb e⟩
  · rcases lk e with ⟨rfl, rfl⟩ | ⟨q, e1⟩
    · have e3 : (vs ++ [v]).toArray = vs.toArray.push v := by simp
      have h1 := hself
      rw [← e3] at h1
      exact ⟨.ref a, hS _ _ S, a, vs ++ [v], _, rfl, h1, (hv.append (.cons hr .nil)).mono kp fun _ _ q => q⟩
    · obtain ⟨u, U, r⟩ := O.rd.var y l e1
      refine ⟨u, hS _ _ U, ?_⟩
      cases l with
      | v d => exact Rep.mono kp (fun _ _ q => q) r
      | own es =>
        obtain ⟨b, us, n, e2, i, r⟩ := r
        subst e2
        have hb : b ≠ a := by rintro rfl; exact q (O.dist y x es ds b e1 hx U S)
        exact ⟨b, us, n, rfl, hk _ _ hb i, r.mono kp fun _ _ q => q⟩
      | bor es =>
        obtain ⟨b, us, n, e2, i, r⟩ := r
        subst e2
        obtain ⟨o, ho⟩ := O.bor y es b e1 U
        have hb : b ≠ a := by rintro rfl; exact ha.2.2 o (O.base _ _ ho)
        exact ⟨b, us, n, rfl, hk _ _ hb i, r.mono kp fun _ _ q => q⟩
  · obtain ⟨h, tk, e⟩ := O.same
    exact ⟨_, s.toks, by rw [e]⟩
  · rcases lk e with ⟨rfl, _⟩ | ⟨q, e1⟩
    · exact O.own _ _ b hx (bk hx S')
    · exact O.own y es b e1 (bk e1 S')
  · rcases lk e with ⟨rfl, q⟩ | ⟨q, e1⟩
    · cases q
    · exact O.bor y es b e1 (bk e1 S')
  · rcases lk e with ⟨rfl, _⟩ | ⟨q, e1⟩ <;> rcases lk e' with ⟨rfl, _⟩ | ⟨q', e2⟩
    · rfl
    · exact O.dist _ z _ fs b hx e2 (bk hx S1) (bk e2 S2)
    · exact O.dist y _ es _ b e1 hx (bk e1 S1) (bk hx S2)
    · exact O.dist y z es fs b e1 e2 (bk e1 S1) (bk e2 S2)
end

section
variable (prog : Program) (w : World) (mg mb : Str → Option Value) (env : Env) (B0 : Addr → Prop) (n : Nat)
def Ok (φ : Fm) (σ : List (Str × Sl)) (s : Shared) : Prop := ∃ B, OkB mg mb env B0 B φ σ s
abbrev Post := Fm → Flow → Shared → Prop
def St (σ : List (Str × Sl)) (body : List Stmt) (P : Post) : Prop :=
  ∀ A φ s, AOk n A → Ok mg mb env B0 φ σ s → wpAny (model prog w) A (execs body env) (P φ) Fl s
def PNext (σ : List (Str × Sl)) : Post := fun φ f s => f = .next ∧ Ok mg mb env B0 φ σ s
def PRet (d : D) : Post := fun φ f s => ∃ v, f = .ret v ∧ (∃ h tk, s = { φ.s₀ with heap := h, toks := tk }) ∧ (∀ b o, φ.Hd b o → s.heap.get? b = some o) ∧ Rep s.heap B0 v d
/-- an expression, whatever lies apart -/
def Ex (σ : List (Str × Sl)) (e : Expr) (d : D) : Prop := ∀ B, Ev prog w mg mb env B σ n e (rep B d)
def Te (σ : List (Str × Sl)) (e : Expr) (b : Bool) : Prop := ∀ B, Tr prog w mg mb env B σ n e b
end

section
variable {prog : Program} {w : World} {mg mb : Str → Option Value} {env : Env} {B0 : Addr → Prop} {n : Nat} {σ : List (Str × Sl)}

theorem lookup_of_mem {σ σ' : List (Str × Sl)} (h : ∀ p ∈ σ', σ.lookup p.1 = some p.2) : ∀ x sl, σ'.lookup x = some sl → σ.lookup x = some sl := fun x sl e => by
  have hm : ∀ {l : List (Str × Sl)}, l.lookup x = some sl → (x, sl) ∈ l := by
    intro l
    induction l with
    | nil => intro e; cases e
    | cons p r ih =>
      intro e
      obtain ⟨y, t⟩ := p
      rw [List.lookup_cons] at e
      by_cases q : x = y
      · subst q; simp at e; rw [e]; exact .head _
      · have : (x == y) = false := beq_eq_false_iff_ne.mpr q
        rw [this] at e; exact .tail _ (ih e)
  exact h _ (hm e)

theorem st_nil {σ' : List (Str × Sl)} (hw : ∀ x sl, σ'.lookup x = some sl → σ.lookup x = some sl) : St prog w mg mb env B0 n σ [] (PNext mg mb env B0 σ') := fun A φ s a ⟨B, O⟩ =>
  wpAny_execs_nil ⟨rfl, B, O.weaken hw⟩
theorem St.weaken {σ' : List (Str × Sl)} {body : List Stmt} {P : Post} (h : St prog w mg mb env B0 n σ' body P) (hw : ∀ x sl, σ'.lookup x = some sl → σ.lookup x = some sl) : St prog w mg mb env B0 n σ body P :=
  fun A φ s a ⟨B, O⟩ => h A φ s a ⟨B, O.weaken hw⟩

theorem st_assign {x : Str} {px pos : Pos} {e : Expr} {d : D} {rest : List Stmt} {P : Post} (he : Ex prog w mg mb env n σ e d) (h : St prog w mg mb env B0 n ((x, .v d) :: σ) rest P)
    (hx : Stores env x) (hs : swapsWith e (some (.Name x px)) pos.line env = pure false := by rfl) :
    St prog w mg mb env B0 n σ (.Assign [.Name x px] e pos :: rest) P := fun A φ s a ⟨B, O⟩ =>
  wpAny_execs_cons (wpAny_Assign_Name (wpAny_mono (he B A s a O.rd) (fun v s₁ ⟨k, r⟩ => (O.keeps k).storeV hx r fun s₂ O₂ _ => h A φ s₂ a ⟨B, O₂⟩) fun _ _ x => x) hs)

theorem st_return {e : Expr} {pos : Pos} {d : D} {rest : List Stmt} (he : Ex prog w mg mb env n σ e d) : St prog w mg mb env B0 n σ (.Return (some e) pos :: rest) (PRet B0 d) := fun A φ s a ⟨B, O⟩ =>
  wpAny_execs_cons (wpAny_Return_some (wpAny_mono (he B A s a O.rd) (fun v s₁ ⟨k, r⟩ => ⟨v, rfl, (O.keeps k).same, (O.keeps k).hold, r.less O.sub⟩) fun _ _ x => x))

theorem st_if {t : Expr} {body orelse rest : List Stmt} {pos : Pos} {b : Bool} {σ' : List (Str × Sl)} {P : Post} (ht : Te prog w mg mb env n σ t b)
    (h₁ : b = true → St prog w mg mb env B0 n σ body (PNext mg mb env B0 σ')) (h₂ : b = false → St prog w mg mb env B0 n σ orelse (PNext mg mb env B0 σ')) (h : St prog w mg mb env B0 n σ' rest P) :
    St prog w mg mb env B0 n σ (.If t body orelse pos :: rest) P := fun A φ s a ⟨B, O⟩ =>
  wpAny_execs_cons (wpAny_If (wpAny_mono (ht B A s a O.rd) (fun c s₁ ⟨k, q⟩ => by
    subst q
    cases c with
    | true => exact wpAny_mono (h₁ rfl A φ s₁ a ⟨B, O.keeps k⟩) (fun f s₂ ⟨e, O₂⟩ => by subst e; exact h A φ s₂ a O₂) fun _ _ x => x
    | false => exact wpAny_mono (h₂ rfl A φ s₁ a ⟨B, O.keeps k⟩) (fun f s₂ ⟨e, O₂⟩ => by subst e; exact h A φ s₂ a O₂) fun _ _ x => x) fun _ _ x => x))
/-- an if that returns -/
theorem st_if_ret {t : Expr} {body orelse rest : List Stmt} {pos : Pos} {d : D} (ht : Te prog w mg mb env n σ t true)
    (h₁ : St prog w mg mb env B0 n σ body (PRet B0 d)) : St prog w mg mb env B0 n σ (.If t body orelse pos :: rest) (PRet B0 d) := fun A φ s a ⟨B, O⟩ =>
  wpAny_execs_cons (wpAny_If (wpAny_mono (ht B A s a O.rd) (fun c s₁ ⟨k, q⟩ => by
    subst q
    exact wpAny_mono (h₁ A φ s₁ a ⟨B, O.keeps k⟩) (fun f s₂ q => by obtain ⟨v, e, r⟩ := q; subst e; exact ⟨v, rfl, r⟩) fun _ _ x => x) fun _ _ x => x))
theorem st_assert {t : Expr} {msg : Option Expr} {rest : List Stmt} {pos : Pos} {P : Post} (ht : Te prog w mg mb env n σ t true) (h : St prog w mg mb env B0 n σ rest P) : St prog w mg mb env B0 n σ (.Assert t msg pos :: rest) P := fun A φ s a ⟨B, O⟩ =>
  wpAny_execs_cons (wpAny_Assert_holds (wpAny_mono (ht B A s a O.rd) (fun c s₁ ⟨k, q⟩ => ⟨q, h A φ s₁ a ⟨B, O.keeps k⟩⟩) fun _ _ x => x))

/-- x = [..], a list that is to grow -/
theorem st_own {x : Str} {px lp pos : Pos} {es : List Expr} {ds : List D} {rest : List Stmt} {P : Post} (he : ∀ B, EvA prog w mg mb env B σ n es (ds.map (rep B))) (h : St prog w mg mb env B0 n ((x, .own ds) :: σ) rest P)
    (hx : Stores env x) (hz : ds.length ≤ sizeLine := by first | decide | exact Nat.le_of_ble_eq_true rfl) :
    St prog w mg mb env B0 n σ (.Assign [.Name x px] (.List es lp) pos :: rest) P := fun A φ s a ⟨B, O⟩ =>
  wpAny_execs_cons (wpAny_Assign_Name (wpAny_List (wpAny_mono (he B A s lp a O.rd) (fun vs s₁ ⟨k, q⟩ => by
    have r := relL_rep q
    obtain ⟨O₂, S, h1, h2, h3⟩ := (O.keeps k).alloc r
    refine ⟨by rw [r.length]; exact hz, O₂.store hx S (fun es e => ⟨_, rfl, .inl rfl, h1, h2, fun z fs _ hz => h3 z fs hz⟩) (fun _ e => nomatch e) fun s₃ O₃ _ _ => h A φ s₃ a ⟨_, O₃⟩⟩) fun _ _ x => x)) rfl)

/-- x.append(e) -/
theorem st_append {x : Str} {px ap cp pos : Pos} {e : Expr} {d : D} {ds : List D} {rest : List Stmt} {P : Post} (hx : σ.lookup x = some (.own ds)) (he : Ex prog w mg mb env n σ e d) (h : St prog w mg mb env B0 n ((x, .own (ds ++ [d])) :: σ) rest P)
    (hz : ds.length ≤ sizeLine) (hi : interactive env = false) (hline : (ap.endLine == cp.line) = true := by rfl) (htrees : backTo cp (starEach [e] env) = [(false, eval e env)] := by rfl)
    (hd : (x == ("__debug__" : Str)) = false := by rfl) (hc : (x == ("__classdict__" : Str)) = false := by rfl) :
    St prog w mg mb env B0 n σ (.Expr (.Call (.Attribute (.Name x px) "append" ap) [e] [] cp) pos :: rest) P := fun A φ s a ⟨B, O⟩ => by
  obtain ⟨v, S, l, vs, m, rfl, hl, r⟩ := O.rd.var x _ hx
  refine wpAny_execs_cons (wpAny_Expr_any (wpAny_Call_method1_late rfl hline htrees (wpAny_Name (loadName_sees O.rd.envOk S hc ?_) hd)) hi rfl)
  refine ⟨"list", "list.append", F.plainAttrs_list, F.slot_list_append, F.type_list_append, hl.isList.typeIs, fun b e => by cases e; exact ⟨_, hl, rfl⟩, ?_⟩
  refine PySem.P.append_list (wpAny_mono (he B A s a O.rd) (fun u s₁ ⟨k, q⟩ => ?_) fun _ _ x => x)
  have hl' := keeps_heap k _ _ hl
  refine ⟨vs.toArray, m, by rw [List.size_toArray, r.length]; exact hz, hl', ?_⟩
  exact h A φ _ a ⟨B, (O.keeps k).grow hx (S.keeps (keeps_heap k)) hl' (r.keeps (keeps_heap k)) q⟩
end
end Mine

set_option maxRecDepth 100000
namespace Mine
open PySem PyProof.Rows

def envC (S : Scope) (L : Addr) (cs : List (Str × Addr)) (q : Str) (f : Addr) (cd : Value) : Env := { scope := S, locals := L, globals := mainGlobals, cells := cs, qual := q, func := some f, code := cd, frame := some L, builtins := builtinsNs }

section
variable {prog : Program} {w : World} {mg mb : Str → Option Value} {B0 : Addr → Prop} {n : Nat} {A : Around} {s : Shared}

theorem AOk.deeper {A : Around} {n : Nat} (h : AOk (n + 1) A) (env : Env) : AOk n (A.deeper env) := by
  obtain ⟨h1, h2, h3⟩ := h
  refine ⟨h1, ?_, ?_⟩
  · show A.depth + 1 + n ≤ 900; omega
  · show A.units + 3 + 4 * n ≤ 9000; omega

theorem call_fn {f : Addr} {name : Str} {i : Nat} {dV kV : Value} {args : List Value} {kw : List (Str × Value)} {binds : List (Str × Value)} {σ : List (Str × Sl)} {d : D}
    (hA : AOk (n + 1) A) (G : Glo mg mb s.heap) (hex : ∀ b, B0 b → ∃ o, s.heap.get? b = some o) (F : FnIs s.heap f name i dV kV)
    (hbind : ∀ doc pm an cd ct, BindsTo s (PySem.W.fnOf name name (defAt i).1 (defAt i).2.1 (defAt i).2.2 dV kV doc pm an cd ct) ⟨args, kw⟩ binds)
    (hcell : ∀ x ∈ (defAt i).2.2.names, x.2 ≠ .cell) (hloc : ∀ x ∈ binds, (defAt i).2.2.names.lookup x.1 = some .local)
    (hσ : ∀ x sl, σ.lookup x = some sl → ∃ v, binds.reverse.lookup x = some v ∧ (defAt i).2.2.names.lookup x = some .local ∧ SlR s.heap B0 v sl ∧ ∀ ds, sl ≠ .own ds)
    (hb : ∀ L q cd, St prog w mg mb (envC (defAt i).2.2 L [] q f cd) B0 n σ (defAt i).2.1 (PRet B0 d))
    (hco : (defAt i).2.2.isCoroutine = false := by rfl) (hgen : (defAt i).2.2.isGenerator = false := by rfl) (hk : (defAt i).2.2.kind = .function := by rfl) :
    wpAny (model prog w) A (call (.ref f) args kw) (fun v s' => Keeps s s' ∧ Rep s'.heap B0 v d) Fl s := by
  obtain ⟨o, doc, pm, an, cd, ct, h1, h2, h3⟩ := F.get
  refine wpAny_call (codeAny_call_def (fd := PySem.W.fnOf name name (defAt i).1 (defAt i).2.1 (defAt i).2.2 dV kV doc pm an cd ct) (body := (defAt i).2.1) (binds := binds)
    (by have := hA.2.1; simp only [recursionLimit]; omega) h1 h2 G.lim h3 rfl (hbind doc pm an cd ct) hcell hloc (fun h₀ ns keep => ?_) hco hgen hk)
  have hst := hb s.heap.objs.size (name ++ ".<locals>.") cd
  refine wpAny_mono (hst (A.deeper (envC (defAt i).2.2 s.heap.objs.size [] (name ++ ".<locals>.") f cd)) ⟨B0, B0, s, fun b o => s.heap.get? b = some o⟩ { s with heap := h₀, toks := s.toks + binds.length } (hA.deeper _) ⟨B0, ?_⟩) (fun fl s' q => ?_) fun _ _ x => x.elim
  · have hS : ∀ x sl, σ.lookup x = some sl → ∃ v, Sees (envC (defAt i).2.2 s.heap.objs.size [] (name ++ ".<locals>.") f cd) h₀ x v ∧ SlR s.heap B0 v sl ∧ ∀ ds, sl ≠ .own ds := fun x sl e => by
      obtain ⟨v, e1, e2, r, hno⟩ := hσ x sl e
      exact ⟨v, .inl ⟨e2, _, ns, e1⟩, r, hno⟩
    refine ⟨⟨⟨hk, rfl, rfl⟩, G.keeps keep, fun b q => let ⟨o, e⟩ := hex b q; ⟨o, keep b o e⟩, fun x sl e => let ⟨v, S, r, _⟩ := hS x sl e; ⟨v, S, r.keeps keep⟩⟩, G, fun b o e => e, fun b q => q, ⟨_, _, rfl⟩, ⟨_, ns⟩,
      (by intro x c e; cases e), (by intro x y c e; cases e), keep, fun o e => Nat.lt_irrefl _ (Heap.lt_size e), (by intro x c o e; cases e), fun x ds a e S => ?_, fun x ds a e S => ?_, fun x y ds es a e => ?_, fun b o _ q => q, fun b q => q⟩
    · obtain ⟨_, _, _, q⟩ := hS x _ e; exact absurd rfl (q ds)
    · obtain ⟨v, S', r, q⟩ := hS x _ e
      have := S'.det S
      subst this
      obtain ⟨a', vs, m, e1, il, _⟩ := r
      cases e1
      exact ⟨_, il⟩
    · obtain ⟨_, _, _, q⟩ := hS x _ e; exact absurd rfl (q ds)
  · obtain ⟨v, rfl, ⟨h, tk, e⟩, hold, r⟩ := q
    exact ⟨⟨s'.heap, s'.toks, by rw [e], fun b o e => hold b o e⟩, r⟩

theorem call_fnC {f : Addr} {name : Str} {i : Nat} {args : List Value} {binds : List (Str × Value)} {σ : List (Str × Sl)} {d : D}
    (hA : AOk (n + 1) A) (G : Glo mg mb s.heap) (hex : ∀ b, B0 b → ∃ o, s.heap.get? b = some o) (F : FnIs s.heap f name i .none .none)
    (hbind : ∀ doc pm an cd ct, bindArgs (PySem.W.fnOf name name (defAt i).1 (defAt i).2.1 (defAt i).2.2 .none .none doc pm an cd ct) ⟨args, []⟩ = pure binds)
    (hkind : ∀ x ∈ binds, (defAt i).2.2.names.lookup x.1 = some .local)
    (hσ : ∀ x sl, σ.lookup x = some sl → ∃ v, (∀ (kindOf : Str → Option NameKind), kindOf = (fun y => (defAt i).2.2.names.lookup y) → bindL kindOf binds (fun _ => none) x = some v) ∧ (defAt i).2.2.names.lookup x = some .local ∧ SlR s.heap B0 v sl ∧ ∀ ds, sl ≠ .own ds)
    (hb : ∀ L q cd, St prog w mg mb (envC (defAt i).2.2 L (cellsFrom (L + 1) (defAt i).2.2.names []) q f cd) B0 n σ (defAt i).2.1 (PRet B0 d))
    (hco : (defAt i).2.2.isCoroutine = false := by rfl) (hgen : (defAt i).2.2.isGenerator = false := by rfl) (hk : (defAt i).2.2.kind = .function := by rfl) :
    wpAny (model prog w) A (call (.ref f) args) (fun v s' => Keeps s s' ∧ Rep s'.heap B0 v d) Fl s := by
  obtain ⟨o, doc, pm, an, cd, ct, h1, h2, h3⟩ := F.get
  refine wpAny_call (codeAny_call_cells (fd := PySem.W.fnOf name name (defAt i).1 (defAt i).2.1 (defAt i).2.2 .none .none doc pm an cd ct) (body := (defAt i).2.1) (binds := binds)
    (by have := hA.2.1; simp only [recursionLimit]; omega) h1 h2 G.lim h3 rfl (hbind doc pm an cd ct) rfl (fun x hx => .inl (hkind x hx)) (fun s₁ I => ?_) hco hgen hk)
  have hst := hb s.heap.objs.size (name ++ ".<locals>.") cd
  refine wpAny_mono (hst (A.deeper (envC (defAt i).2.2 s.heap.objs.size (cellsFrom (s.heap.objs.size + 1) (defAt i).2.2.names []) (name ++ ".<locals>.") f cd)) ⟨B0, B0, s, fun b o => s.heap.get? b = some o⟩ s₁ (hA.deeper _) ⟨B0, ?_⟩) (fun fl s' q => ?_) fun _ _ x => x.elim
  · have keep := I.toInCall.keep
    have ns := I.toInCall.ns
    have hS : ∀ x sl, σ.lookup x = some sl → ∃ v, Sees (envC (defAt i).2.2 s.heap.objs.size (cellsFrom (s.heap.objs.size + 1) (defAt i).2.2.names []) (name ++ ".<locals>.") f cd) s₁.heap x v ∧ SlR s.heap B0 v sl ∧ ∀ ds, sl ≠ .own ds := fun x sl e => by
      obtain ⟨v, e1, e2, r, hno⟩ := hσ x sl e
      exact ⟨v, .inl ⟨e2, _, ns, e1 _ rfl⟩, r, hno⟩
    refine ⟨⟨⟨hk, rfl, rfl⟩, G.keeps keep, fun b q => let ⟨o, e⟩ := hex b q; ⟨o, keep b o e⟩, fun x sl e => let ⟨v, S, r, _⟩ := hS x sl e; ⟨v, S, r.keeps keep⟩⟩, G, fun b o e => e, fun b q => q, I.toInCall.same, ⟨_, ns⟩,
      fun x c e => ⟨_, I.cell x c e⟩, fun x y c e e' => name_of_addr I.apart (mem_of_lookup e) (mem_of_lookup e'), keep, fun o e => Nat.lt_irrefl _ (Heap.lt_size e), fun x c o e q => ?_, fun x ds a e S => ?_, fun x ds a e S => ?_, fun x y ds es a e => ?_, fun b o _ q => q, fun b q => q⟩
    · have h5 : s.heap.objs.size < c := I.above x c (mem_of_lookup e)
      exact Nat.lt_asymm h5 (Heap.lt_size q)
    · obtain ⟨_, _, _, q⟩ := hS x _ e; exact absurd rfl (q ds)
    · obtain ⟨v, S', r, q⟩ := hS x _ e
      have := S'.det S
      subst this
      obtain ⟨a', vs, m, e1, il, _⟩ := r
      cases e1
      exact ⟨_, il⟩
    · obtain ⟨_, _, _, q⟩ := hS x _ e; exact absurd rfl (q ds)
  · obtain ⟨v, rfl, ⟨h, tk, e⟩, hold, r⟩ := q
    exact ⟨⟨s'.heap, s'.toks, by rw [e], fun b o e => hold b o e⟩, r⟩

end
end Mine

set_option maxRecDepth 100000
namespace Mine
open PySem PyProof.Rows

theorem all0 {α : Type} {P : α → Prop} : ∀ p ∈ ([] : List α), P p := fun _ h => nomatch h
theorem allC {α : Type} {P : α → Prop} {a : α} {l : List α} (h : P a) (t : ∀ p ∈ l, P p) : ∀ p ∈ a :: l, P p := fun p hp => by
  rcases List.mem_cons.mp hp with rfl | hp
  · exact h
  · exact t p hp
theorem look_mem {P : Str → Sl → Prop} {σ : List (Str × Sl)} (h : ∀ p ∈ σ, P p.1 p.2) : ∀ x sl, σ.lookup x = some sl → P x sl := fun x sl e => h (x, sl) (mem_of_lookup e)

theorem Nm.look {mg mb : Str → Option Value} (N : Nm mg mb) (i : Nat) {x : Str} {v : Value} (h : biTable[i]? = some (x, v)) : mg x = none ∧ mb x = some v := N.bi _ (List.mem_of_getElem? h)

section
variable {prog : Program} {w : World} {mg mb : Str → Option Value} {env : Env} {B : Addr → Prop} {σ : List (Str × Sl)} {n : Nat}

theorem ev_bi (N : Nm mg mb) (i : Nat) {x : Str} {pos : Pos} {v : Value} (h : biTable[i]? = some (x, v)) (hx : env.kindOf x = some .globalImplicit := by rfl) (hd : (x == ("__debug__" : Str)) = false := by rfl) :
    Ev prog w mg mb env B σ n (.Name x pos) (val v) := ev_builtin (N.look i h).1 (N.look i h).2 hx hd
theorem ev_gint {x : Str} {pos : Pos} {i : Int} (h : ∃ t, mg x = some (.int i t)) (hx : env.kindOf x = some .globalImplicit := by rfl) (hd : (x == ("__debug__" : Str)) = false := by rfl) :
    Ev prog w mg mb env B σ n (.Name x pos) (rep B (.int i)) := by
  obtain ⟨t, h⟩ := h
  exact (ev_global h hx hd).mono fun h v (e : v = _) => by subst e; exact .int _ _
theorem ev_gbytes {x : Str} {pos : Pos} {b : List UInt8} (h : ∃ t, mg x = some (.bytes b.toArray t)) (hx : env.kindOf x = some .globalImplicit := by rfl) (hd : (x == ("__debug__" : Str)) = false := by rfl) :
    Ev prog w mg mb env B σ n (.Name x pos) (rep B (.bytes b)) := by
  obtain ⟨t, h⟩ := h
  exact (ev_global h hx hd).mono fun h v (e : v = _) => by subst e; exact .bytes _ _

/-- a plain def's contract: one argument -/
theorem co_fn1 {f : Addr} {name p : Str} {i : Nat} {d r : D} (hp : (name, i) ∈ fnTable) (hf : mg name = some (.ref f))
    (hbind : ∀ v doc pm an cd ct, bindArgs (PySem.W.fnOf name name (defAt i).1 (defAt i).2.1 (defAt i).2.2 .none .none doc pm an cd ct) ⟨[v], []⟩ = pure [(p, v)])
    (hloc : (defAt i).2.2.names.lookup p = some .local) (hcell : ∀ x ∈ (defAt i).2.2.names, x.2 ≠ .cell)
    (hb : ∀ L q cd, St prog w mg mb (envC (defAt i).2.2 L [] q f cd) B n [(p, .v d)] (defAt i).2.1 (PRet B r))
    (hco : (defAt i).2.2.isCoroutine = false := by rfl) (hgen : (defAt i).2.2.isGenerator = false := by rfl) (hk : (defAt i).2.2.kind = .function := by rfl) :
    Co prog w mg mb env B σ (n + 1) (.ref f) [rep B d] (rep B r) := fun A s vs a rd q => by
  obtain ⟨v, rfl, rv⟩ := relL1 q
  obtain ⟨f', e, F⟩ := rd.glo.fn _ hp
  have e1 : f' = f := by rw [hf] at e; cases e; rfl
  subst e1
  exact call_fn (binds := [(p, v)]) a rd.glo rd.ex F (fun doc pm an cd ct => .of_eq (hbind v doc pm an cd ct)) hcell (allC hloc all0)
    (look_mem (P := fun x sl => ∃ u, ([(p, v)] : List (Str × Value)).reverse.lookup x = some u ∧ (defAt i).2.2.names.lookup x = some .local ∧ SlR s.heap B u sl ∧ ∀ ds, sl ≠ .own ds) (allC (a := (p, Sl.v d)) ⟨v, by simp, hloc, rv, fun _ e => nomatch e⟩ all0)) hb hco hgen hk
end

section
variable {prog : Program} {w : World} {mg mb : Str → Option Value} {env : Env} {B : Addr → Prop} {σ : List (Str × Sl)} {n : Nat}

theorem mem_fn (k : Nat) {x : Str × Nat} (h : fnTable[k]? = some x) : x ∈ fnTable := List.mem_of_getElem? h

theorem co_isT (N : Nm mg mb) {f : Addr} {x : Int} (hf : mg "ISTERMINAL" = some (.ref f)) : Co prog w mg mb env B σ (n + 1) (.ref f) [rep B (.int x)] (rep B (.bool (decide (x < 256)))) :=
  co_fn1 (mem_fn 2 rfl) hf (fun _ _ _ _ _ _ => rfl) rfl (by decide +kernel) fun L q cd => by
    refine st_return fun B => ?_
    exact ev_cmp (R₁ := rep B (.int x)) (R₂ := rep B (.int 256)) ev_name (ev_gint N.nt) fun A s v₁ v₂ _ _ q₁ q₂ => cmp_lt q₁ q₂
theorem co_isN (N : Nm mg mb) {f : Addr} {x : Int} (hf : mg "ISNONTERMINAL" = some (.ref f)) : Co prog w mg mb env B σ (n + 1) (.ref f) [rep B (.int x)] (rep B (.bool (decide (256 ≤ x)))) :=
  co_fn1 (mem_fn 3 rfl) hf (fun _ _ _ _ _ _ => rfl) rfl (by decide +kernel) fun L q cd => by
    refine st_return fun B => ?_
    exact ev_cmp (R₁ := rep B (.int x)) (R₂ := rep B (.int 256)) ev_name (ev_gint N.nt) fun A s v₁ v₂ _ _ q₁ q₂ => cmp_ge q₁ q₂
theorem co_isE (N : Nm mg mb) {f : Addr} {x : Int} (hf : mg "ISEOF" = some (.ref f)) : Co prog w mg mb env B σ (n + 1) (.ref f) [rep B (.int x)] (rep B (.bool (x == 0))) :=
  co_fn1 (mem_fn 4 rfl) hf (fun _ _ _ _ _ _ => rfl) rfl (by decide +kernel) fun L q cd => by
    refine st_return fun B => ?_
    exact ev_cmp (R₁ := rep B (.int x)) (R₂ := rep B (.int 0)) ev_name (ev_gint N.em) fun A s v₁ v₂ _ _ q₁ q₂ => cmp_eq q₁ q₂
theorem co_buffer (N : Nm mg mb) {f : Addr} {x : List UInt8} (hf : mg "_buffer" = some (.ref f)) : Co prog w mg mb env B σ (n + 1) (.ref f) [rep B (.bytes x)] (rep B (.bytes x)) :=
  co_fn1 (mem_fn 0 rfl) hf (fun _ _ _ _ _ _ => rfl) rfl (by decide +kernel) fun L q cd => by
    refine st_assign (d := .ty "bytes") (fun B => ev_callT (ev_bi N 1 rfl) (ea_cons (R := rep B (.bytes x)) ev_name ea_nil) co_typeB) ?_ (.inl rfl)
    refine st_if_ret (fun B => tr_cmp (b := true) (R₁ := rep B (.ty "bytes")) ev_name (ev_bi N 2 rfl) fun A s v₁ v₂ _ _ q₁ q₂ => cmp_isT q₁ q₂) ?_
    exact st_return fun B => ev_name
theorem co_truth (N : Nm mg mb) {f : Addr} {x : Bool} (hf : mg "_truth" = some (.ref f)) : Co prog w mg mb env B σ (n + 1) (.ref f) [rep B (.bool x)] (rep B (.bool x)) :=
  co_fn1 (mem_fn 1 rfl) hf (fun _ _ _ _ _ _ => rfl) rfl (by decide +kernel) fun L q cd => by
    refine st_assign (d := .ty "bool") (fun B => ev_callT (ev_bi N 1 rfl) (ea_cons (R := rep B (.bool x)) ev_name ea_nil) co_typeBool) ?_ (.inl rfl)
    refine st_if_ret (fun B => ?_) ?_
    · refine tr_or (b := false) (c := true) (tr_cmp (R₁ := rep B (.bool x)) (R₂ := rep B .none) ev_name ev_none fun A s v₁ v₂ _ _ q₁ q₂ => cmp_isN (d := .bool x) (fun e => nomatch e) q₁ q₂) fun _ => ?_
      refine tr_or (b := true) (c := true) (tr_cmp (R₁ := rep B (.ty "bool")) ev_name (ev_bi N 5 rfl) fun A s v₁ v₂ _ _ q₁ q₂ => cmp_isT q₁ q₂) fun e => nomatch e
    · refine st_return fun B => ev_ifexp (c := x) (tr_bool ev_name) (fun e => ?_) fun e => ?_
      · subst e; exact ev_bool
      · subst e; exact ev_bool
end
end Mine

set_option maxRecDepth 100000
namespace Mine
open PySem PyProof.Rows PySem.W


section
variable {mg mb : Str → Option Value} {env : Env} {B0 B : Addr → Prop} {φ : Fm} {σ : List (Str × Sl)} {s : Shared}

theorem SlR.mono {h h' : Heap} {B B' : Addr → Prop} (hk : Kp B h h') (hb : ∀ a, a < h.objs.size → B' a → B a) (hl : ∀ a vs n, IsL h a vs n → h'.get? a = h.get? a ∨ ¬ B a) {v : Value} {sl : Sl} (r : SlR h B v sl) : SlR h' B' v sl := by
  have key : ∀ ds, (∃ a vs n, v = .ref a ∧ IsL h a vs.toArray n ∧ RepL h B vs ds) → ∃ a vs n, v = .ref a ∧ IsL h' a vs.toArray n ∧ RepL h' B' vs ds := by
    rintro ds ⟨a, vs, n, e, i, q⟩
    refine ⟨a, vs, n, e, ?_, q.mono hk hb⟩
    rcases hl a _ _ i with e' | nb
    · exact e'.trans i
    · exact hk _ _ i (.inl ⟨_, _, rfl⟩) nb
  cases sl with
  | v d => exact Rep.mono hk hb r
  | own ds => exact key ds r
  | bor ds => exact key ds r

theorem OkB.ban (O : OkB mg mb env B0 B φ σ s) {s' : Shared} (k : Keeps s s') (F : Addr → Prop) (hF : ∀ a, F a → s.heap.objs.size ≤ a ∧ ∃ o, s'.heap.get? a = some o) : OkB mg mb env B0 (fun b => B b ∨ F b) φ σ s' := by
  have hk := keeps_heap k
  have O' := O.keeps k
  have lt : ∀ a, a < s.heap.objs.size → (B a ∨ F a) → B a := fun a h q => q.resolve_right fun f => Nat.lt_irrefl _ (Nat.lt_of_lt_of_le h (hF a f).1)
  refine ⟨⟨O'.rd.envOk, O'.rd.glo, fun b q => ?_, fun x sl e => ?_⟩, O.glo0, O.base, fun b q => .inl (O.sub b q), O'.same, O'.ns, O'.cell, O.apart, O'.hold, O.hL, O.hC,
    fun x ds a hx S => let ⟨q1, q2, q3⟩ := O'.own x ds a hx S; ⟨.inl q1, q2, q3⟩, O'.bor, O'.dist, fun b o q q' => ?_, fun b q => .inl (O.lo b q)⟩
  · rcases q with q | q
    · exact O'.rd.ex b q
    · exact (hF b q).2
  · obtain ⟨v, S, r⟩ := O.rd.var x sl e
    exact ⟨v, S.keeps hk, r.mono (.of hk) lt fun a vs n i => .inl ((hk _ _ i).trans i.symm)⟩
  · rcases q' with q' | q'
    · exact O.lim b o q q'
    · exact absurd (Heap.lt_size (O.hold b o q)) (Nat.not_lt.mpr (hF b q').1)

/-- some objects that nobody sees have turned -/
theorem OkB.turnT (O : OkB mg mb env B0 B φ σ s) {h' : Heap} {tk : Nat} (T : Addr → Prop) (hk : ∀ b o, ¬ T b → s.heap.get? b = some o → h'.get? b = some o)
    (hT : ∀ b, T b → (∀ o, ¬ φ.Hd b o) ∧ B b ∧ (∃ o, h'.get? b = some o) ∧ ∃ o, s.heap.get? b = some o ∧ o.cls ≠ .type "list" ∧ (∀ es ep, o.data ≠ .dict es ep) ∧ ∀ c, o.data ≠ .cell c) :
    OkB mg mb env B0 B φ σ { s with heap := h', toks := tk } := by
  have hkh : ∀ b o, φ.Hd b o → h'.get? b = some o := fun b o q => hk b o (fun t => (hT b t).1 o q) (O.hold b o q)
  have kp : Kp B s.heap h' := fun a o e q nb => hk a o (fun t => nb (hT a t).2.1) e
  obtain ⟨m, ns⟩ := O.ns
  have nL : ¬ T env.locals := fun t => by
    obtain ⟨o, ho, _, hd, _⟩ := (hT _ t).2.2.2
    obtain ⟨o', es, ep, ho', hd', _⟩ := ns
    rw [ho] at ho'; cases ho'
    exact hd es ep hd'
  have nC : ∀ x c, env.cells.lookup x = some c → ¬ T c := fun x c e t => by
    obtain ⟨o, ho, _, _, hd⟩ := (hT _ t).2.2.2
    obtain ⟨u, o', ho', hd'⟩ := O.cell x c e
    rw [ho] at ho'; cases ho'
    exact hd u hd'
  have nsk : ∀ {m}, s.heap.Ns env.locals m → h'.Ns env.locals m := fun n => n.at' fun o e => hk _ o nL e
  have hS : ∀ y u, Sees env s.heap y u → Sees env h' y u := by
    intro y u S
    rcases S with ⟨k, m', n', e'⟩ | ⟨k, c, l, o, ho, hd⟩
    · exact .inl ⟨k, m', nsk n', e'⟩
    · exact .inr ⟨k, c, l, o, hk _ _ (nC y c l) ho, hd⟩
  have bk : ∀ {y l u}, σ.lookup y = some l → Sees env h' y u → Sees env s.heap y u := fun {y l u} hy S => O.back (s' := { s with heap := h', toks := tk }) hS hy S
  refine ⟨⟨O.rd.envOk, O.glo0.keeps fun b o e => hkh b o (O.base b o e), fun b q => ?_, fun x sl e => ?_⟩, O.glo0, O.base, O.sub, ?_, ⟨m, nsk ns⟩, fun x c e => ?_, O.apart, hkh, O.hL, O.hC,
    fun x ds a hx S => O.own x ds a hx (bk hx S), fun x ds a hx S => O.bor x ds a hx (bk hx S), fun x y ds es a hx hy S S' => O.dist x y ds es a hx hy (bk hx S) (bk hy S'), O.lim, O.lo⟩
  · by_cases t : T b
    · exact (hT b t).2.2.1
    · obtain ⟨o, e⟩ := O.rd.ex b q; exact ⟨o, hk b o t e⟩
  · obtain ⟨v, S, r⟩ := O.rd.var x sl e
    refine ⟨v, hS _ _ S, r.mono kp (fun _ _ q => q) fun a vs n i => .inl ((hk _ _ (fun t => ?_) i).trans i.symm)⟩
    obtain ⟨o, ho, hc, _⟩ := (hT _ t).2.2.2
    rw [show s.heap.get? a = _ from i] at ho; cases ho
    exact hc rfl
  · obtain ⟨h, t', e⟩ := O.same; exact ⟨h', tk, by rw [e]⟩
  · obtain ⟨u, o, ho, hd⟩ := O.cell x c e; exact ⟨u, o, hk _ _ (nC x c e) ho, hd⟩

/-- some objects that nobody sees have turned, and are let go -/
theorem OkB.turnU (O : OkB mg mb env B0 B φ σ s) {h' : Heap} {tk : Nat} (T : Addr → Prop) (hk : ∀ b o, ¬ T b → s.heap.get? b = some o → h'.get? b = some o)
    (hT : ∀ b, T b → (∀ o, ¬ φ.Hd b o) ∧ B b ∧ True ∧ ∃ o, s.heap.get? b = some o ∧ o.cls ≠ .type "list" ∧ (∀ es ep, o.data ≠ .dict es ep) ∧ ∀ c, o.data ≠ .cell c) (h0 : ∀ b, B0 b → ¬ T b) (hlo : ∀ b, φ.Lo b → ¬ T b) :
    OkB mg mb env B0 (fun b => B b ∧ ¬ T b) φ σ { s with heap := h', toks := tk } := by
  have hkh : ∀ b o, φ.Hd b o → h'.get? b = some o := fun b o q => hk b o (fun t => (hT b t).1 o q) (O.hold b o q)
  have kp : Kp B s.heap h' := fun a o e q nb => hk a o (fun t => nb (hT a t).2.1) e
  obtain ⟨m, ns⟩ := O.ns
  have nL : ¬ T env.locals := fun t => by
    obtain ⟨o, ho, _, hd, _⟩ := (hT _ t).2.2.2
    obtain ⟨o', es, ep, ho', hd', _⟩ := ns
    rw [ho] at ho'; cases ho'
    exact hd es ep hd'
  have nC : ∀ x c, env.cells.lookup x = some c → ¬ T c := fun x c e t => by
    obtain ⟨o, ho, _, _, hd⟩ := (hT _ t).2.2.2
    obtain ⟨u, o', ho', hd'⟩ := O.cell x c e
    rw [ho] at ho'; cases ho'
    exact hd u hd'
  have nsk : ∀ {m}, s.heap.Ns env.locals m → h'.Ns env.locals m := fun n => n.at' fun o e => hk _ o nL e
  have hS : ∀ y u, Sees env s.heap y u → Sees env h' y u := by
    intro y u S
    rcases S with ⟨k, m', n', e'⟩ | ⟨k, c, l, o, ho, hd⟩
    · exact .inl ⟨k, m', nsk n', e'⟩
    · exact .inr ⟨k, c, l, o, hk _ _ (nC y c l) ho, hd⟩
  have bk : ∀ {y l u}, σ.lookup y = some l → Sees env h' y u → Sees env s.heap y u := fun {y l u} hy S => O.back (s' := { s with heap := h', toks := tk }) hS hy S
  refine ⟨⟨O.rd.envOk, O.glo0.keeps fun b o e => hkh b o (O.base b o e), fun b q => ?_, fun x sl e => ?_⟩, O.glo0, O.base, fun b q => ⟨O.sub b q, h0 b q⟩, ?_, ⟨m, nsk ns⟩, fun x c e => ?_, O.apart, hkh, O.hL, O.hC,
    fun x ds a hx S => ?_, fun x ds a hx S => O.bor x ds a hx (bk hx S), fun x y ds es a hx hy S S' => O.dist x y ds es a hx hy (bk hx S) (bk hy S'), fun b o q q' => O.lim b o q q'.1, fun b q => ⟨O.lo b q, hlo b q⟩⟩
  · obtain ⟨o, e⟩ := O.rd.ex b q.1; exact ⟨o, hk b o q.2 e⟩
  · obtain ⟨v, S, r⟩ := O.rd.var x sl e
    refine ⟨v, hS _ _ S, r.mono kp (fun _ _ q => q.1) fun a vs n i => .inl ((hk _ _ (fun t => ?_) i).trans i.symm)⟩
    obtain ⟨o, ho, hc, _⟩ := (hT _ t).2.2.2
    rw [show s.heap.get? a = _ from i] at ho; cases ho
    exact hc rfl
  · obtain ⟨h, t', e⟩ := O.same; exact ⟨h', tk, by rw [e]⟩
  · obtain ⟨u, o, ho, hd⟩ := O.cell x c e; exact ⟨u, o, hk _ _ (nC x c e) ho, hd⟩
  · have S' := bk hx S
    obtain ⟨q1, q2, q3⟩ := O.own x ds a hx S'
    refine ⟨⟨q1, fun t => ?_⟩, q2, q3⟩
    obtain ⟨v, Sv, a', vs, n, e, i, _⟩ := O.rd.var x _ hx
    have := Sv.det S'; rw [e] at this; cases this
    obtain ⟨o, ho, hc, _⟩ := (hT _ t).2.2.2
    rw [show s.heap.get? a = _ from i] at ho; cases ho
    exact hc rfl

theorem OkB.refit {φ' : Fm} (O : OkB mg mb env B0 B φ σ s) (e : φ'.s₀ = φ.s₀) (base : ∀ b o, φ.s₀.heap.get? b = some o → φ'.Hd b o) (hold : ∀ b o, φ'.Hd b o → s.heap.get? b = some o)
    (hL : ∀ o, ¬ φ'.Hd env.locals o) (hC : ∀ x c o, env.cells.lookup x = some c → ¬ φ'.Hd c o) (hown : ∀ x ds a, σ.lookup x = some (.own ds) → Sees env s.heap x (.ref a) → ∀ o, ¬ φ'.Hd a o)
    (lim : ∀ b o, φ'.Hd b o → B b → φ'.Lim b) (lo : ∀ b, φ'.Lo b → B b) : OkB mg mb env B0 B φ' σ s :=
  ⟨O.rd, e ▸ O.glo0, fun b o q => base b o (e ▸ q), O.sub, e ▸ O.same, O.ns, O.cell, O.apart, hold, hL, hC, fun x ds a hx S => let ⟨q1, q2, _⟩ := O.own x ds a hx S; ⟨q1, q2, hown x ds a hx S⟩, fun x ds a hx S => e ▸ O.bor x ds a hx S, O.dist, lim, lo⟩
end

section
variable {prog : Program} {w : World} {mg mb : Str → Option Value} {env : Env} {B0 : Addr → Prop} {n : Nat}

/-- a walk over something, begun at s₂; s is the state ahead of it -/
def IterOk (prog : Program) (w : World) (A : Around) (target : Expr) (B K : Addr → Prop) (s s₂ : Shared) (it : Value) (N : Nat) (Item : Nat → (Addr → Prop) → Heap → Value → Prop) : Prop :=
  ∃ I fp wr P Md St, it = .ref I ∧ KTurns prog w A target I fp wr N P Md St ∧ St 0 s₂.heap ∧
    (∀ b ∈ wr, s.heap.objs.size ≤ b) ∧
    (∀ i h, St i h → ∀ b ∈ wr, ∃ o, h.get? b = some o ∧ o.cls ≠ .type "list" ∧ (∀ es ep, o.data ≠ .dict es ep) ∧ ∀ c, o.data ≠ .cell c) ∧
    (∀ i v h, Md i v h → ∀ b ∈ wr, ∃ o, h.get? b = some o ∧ o.cls ≠ .type "list" ∧ (∀ es ep, o.data ≠ .dict es ep) ∧ ∀ c, o.data ≠ .cell c) ∧
    (∀ b ∈ fp, b ∈ wr ∨ (∃ o, s₂.heap.get? b = some o ∧ Seq o ∧ ¬ B b) ∨ K b) ∧
    (∀ i (s' : Shared) (Q : Value → Shared → Prop) (E : Value → Shared → Prop), St i s'.heap → Q (.ref I) s' → wpAny (model prog w) A (pyIter (.ref I)) Q E s') ∧
    (∀ i v h B', i < N → P i v h → (∀ a o, s₂.heap.get? a = some o → Seq o → ¬ B a → a ∉ wr → h.get? a = some o ∧ ¬ B' a) → Item i B' h v)

theorem for_core {A : Around} {target : Expr} {body : List Stmt} {B : Addr → Prop} {φ : Fm} {s s₂ : Shared} {it : Value} {N : Nat} {Item : Nat → (Addr → Prop) → Heap → Value → Prop} {inv bnd : Nat → List (Str × Sl)}
    (hA : AOk n A) (O : OkB mg mb env B0 B φ (inv 0) s) (k : Keeps s s₂) (hit : IterOk prog w A target B (fun b => ∃ o, φ.s₀.heap.get? b = some o) s s₂ it N Item)
    (hbind : ∀ i, i < N → ∀ A φ s B v, AOk n A → OkB mg mb env B0 B φ (inv i) s → Item i B s.heap v → wpAny (model prog w) A (assign target env v) (fun _ s' => Ok mg mb env B0 φ (bnd i) s') Fl s)
    (hbody : ∀ i, i < N → Mine.St prog w mg mb env B0 n (bnd i) body (PNext mg mb env B0 (inv (i + 1)))) :
    codeAny (model prog w) A (.forLoop target it body [] env) (fun r s' => r = .ok .next ∧ Ok mg mb env B0 φ (inv N) s') s₂ := by
  obtain ⟨I, fp, wr, P, Md, St, rfl, W, hst, hwr, hobj, hobjM, hfp, hself, hitem⟩ := hit
  have O₂ := O.ban k (fun b => b ∈ wr) fun a ha => ⟨hwr a ha, let ⟨o, e, _⟩ := hobj 0 _ hst a ha; ⟨o, e⟩⟩
  generalize hB2 : (fun b => B b ∨ b ∈ wr) = B₂ at O₂
  have B2l : ∀ b, B b → B₂ b := fun b q => by rw [← hB2]; exact .inl q
  have B2r : ∀ b, b ∈ wr → B₂ b := fun b q => by rw [← hB2]; exact .inr q
  have B2c : ∀ b, B₂ b → B b ∨ b ∈ wr := fun b q => by rw [← hB2] at q; exact q
  let Hd' : Addr → Obj → Prop := fun b o => φ.Hd b o ∨ (s₂.heap.get? b = some o ∧ Seq o ∧ ¬ B₂ b)
  let φ' : Fm := ⟨B₂, B₂, φ.s₀, Hd'⟩
  have nwr : ∀ b o, φ.Hd b o → b ∉ wr := fun b o q hw => Nat.lt_irrefl _ (Nat.lt_of_lt_of_le (Heap.lt_size (O.hold b o q)) (hwr b hw))
  have nwr' : ∀ b o, Hd' b o → b ∉ wr := fun b o q => q.elim (nwr b o) fun q hw => q.2.2 (B2r b hw)
  have O3 : OkB mg mb env B0 B₂ φ' (inv 0) s₂ := O₂.refit (φ' := φ') rfl (fun b o e => .inl (O.base b o e)) (fun b o q => q.elim (O₂.hold b o) (·.1))
    (fun o q => q.elim (O₂.hL o) fun q => by obtain ⟨m, ns⟩ := O₂.ns; exact seq_ne_dict ns q.1 q.2.1)
    (fun x c o e q => q.elim (O₂.hC x c o e) fun q => by obtain ⟨u, i⟩ := O₂.cell x c e; exact seq_ne_cell i q.1 q.2.1)
    (fun x ds a hx S o q => q.elim ((O₂.own x ds a hx S).2.2 o) fun q => q.2.2 (O₂.own x ds a hx S).1)
    (fun b o q q' => q') (fun b q => q)
  refine codeAny_forLoop_any (fun k s' => ∃ i B', k = N + 1 - i ∧ i ≤ N ∧ OkB mg mb env B0 B' φ' (inv i) s' ∧ St i s'.heap) ?_ (N + 1) ⟨0, B₂, rfl, Nat.zero_le _, O3, hst⟩
  rintro k' s' ⟨i, B', rfl, hi, O', hst'⟩
  have tT : ∀ (s'' : Shared) (B'' : Addr → Prop), (∀ b, B₂ b → B'' b) → ∀ b, b ∈ wr → (∀ o, ¬ φ'.Hd b o) ∧ B'' b := fun s'' B'' hb b hw => ⟨fun o q => nwr' b o q hw, hb b (B2r b hw)⟩
  by_cases hlt : i < N
  · refine W.item i s' _ _ hlt hst' fun v h₁ tk₁ hMd hk₁ => ?_
    have O4 : OkB mg mb env B0 B' φ' (inv i) { s' with heap := h₁, toks := tk₁ } := O'.turnT (fun b => b ∈ wr) hk₁ fun b hw => ⟨(tT s' B' O'.lo b hw).1, (tT s' B' O'.lo b hw).2, let ⟨o, e, _⟩ := hobjM i v h₁ hMd b hw; ⟨o, e⟩, hobj i _ hst' b hw⟩
    refine W.go i v _ _ _ hMd fun h₂ hP hst₂ hk₂ => ?_
    have O5 : OkB mg mb env B0 B' φ' (inv i) { s' with heap := h₂, toks := tk₁ } := O4.turnT (tk := tk₁) (fun b => b ∈ wr) hk₂ fun b hw => ⟨(tT s' B' O'.lo b hw).1, (tT s' B' O'.lo b hw).2, let ⟨o, e, _⟩ := hobj (i + 1) h₂ hst₂ b hw; ⟨o, e⟩, hobjM i v h₁ hMd b hw⟩
    let Hd'' : Addr → Obj → Prop := fun b o => Hd' b o ∨ (b ∈ wr ∧ h₂.get? b = some o)
    let φ'' : Fm := ⟨B₂, B₂, φ.s₀, Hd''⟩
    have O6 : OkB mg mb env B0 B' φ'' (inv i) { s' with heap := h₂, toks := tk₁ } := O5.refit (φ' := φ'') rfl (fun b o e => .inl (.inl (O.base b o e))) (fun b o q => q.elim (O5.hold b o) (·.2))
      (fun o q => q.elim (O5.hL o) fun q => by
        obtain ⟨m, o', es, ep, ho, hd, _⟩ := O5.ns
        obtain ⟨o2, ho2, _, hd2, _⟩ := hobj (i + 1) h₂ hst₂ _ q.1
        rw [show h₂.get? env.locals = _ from ho] at ho2; cases ho2
        exact hd2 es ep hd)
      (fun x c o e q => q.elim (O5.hC x c o e) fun q => by
        obtain ⟨u, o', ho, hd⟩ := O5.cell x c e
        obtain ⟨o2, ho2, _, _, hd2⟩ := hobj (i + 1) h₂ hst₂ _ q.1
        rw [show h₂.get? c = _ from ho] at ho2; cases ho2
        exact hd2 u hd)
      (fun x ds a hx S o q => q.elim ((O5.own x ds a hx S).2.2 o) fun q => by
        obtain ⟨v', S', a', vs, m, e, il, _⟩ := O5.rd.var x _ hx
        have := S'.det S; rw [e] at this; cases this
        obtain ⟨o2, ho2, hc, _⟩ := hobj (i + 1) h₂ hst₂ _ q.1
        rw [show h₂.get? a = _ from il] at ho2; cases ho2
        exact hc rfl)
      (fun b o q q' => q.elim (fun q => O5.lim b o q q') fun q => B2r b q.1) O5.lo
    have hItem : Item i B' h₂ v := hitem i v h₂ B' hlt hP fun a o e hs nb nw => by
      have n2 : ¬ B₂ a := fun q => (B2c a q).elim nb nw
      have hd : φ'.Hd a o := .inr ⟨e, hs, n2⟩
      exact ⟨O5.hold a o hd, fun q => n2 (O5.lim a o hd q)⟩
    refine wpAny_mono (hbind i hlt A φ'' _ B' v hA O6 hItem) (fun _ s₃ O7 => ?_) fun _ _ x => x.elim
    refine wpAny_mono (hbody i hlt A φ'' s₃ hA O7) (fun f s₄ ⟨e, B8, O8⟩ => ?_) fun _ _ x => x.elim
    subst e
    refine ⟨N + 1 - (i + 1), by omega, i + 1, B8, rfl, hlt, ?_, ?_⟩
    · exact O8.refit (φ' := φ') rfl (fun b o e => .inl (O.base b o e)) (fun b o q => O8.hold b o (.inl q)) (fun o q => O8.hL o (.inl q)) (fun x c o e q => O8.hC x c o e (.inl q))
        (fun x ds a hx S o q => (O8.own x ds a hx S).2.2 o (.inl q)) (fun b o q q' => O8.lim b o (.inl q) q') O8.lo
    · refine W.frame _ _ _ hst₂ fun b hb o e => ?_
      rcases hfp b hb with hw | ⟨o', e', hs, nb⟩ | ⟨o', e'⟩
      · exact O8.hold b o (.inr ⟨hw, e⟩)
      · by_cases hw : b ∈ wr
        · exact O8.hold b o (.inr ⟨hw, e⟩)
        · have hd : φ'.Hd b o' := .inr ⟨e', hs, fun q => (B2c b q).elim nb hw⟩
          have := O5.hold b o' hd
          rw [show h₂.get? b = _ from this] at e; cases e
          exact O8.hold b _ (.inl hd)
      · have hd : φ'.Hd b o' := .inl (O.base b o' e')
        have := O5.hold b o' hd
        rw [show h₂.get? b = _ from this] at e; cases e
        exact O8.hold b _ (.inl hd)
  · have hin : i = N := by omega
    subst hin
    refine W.done s' _ _ hst' fun h₁ tk₁ hk₁ => wpAny_execs_nil ⟨rfl, (fun b => B' b ∧ b ∉ wr), ?_⟩
    have nwB : ∀ b, B b → b ∉ wr := fun b q hw => by
      obtain ⟨o, e⟩ := O.rd.ex b q
      exact Nat.lt_irrefl _ (Nat.lt_of_lt_of_le (Heap.lt_size e) (hwr b hw))
    have O3' : OkB mg mb env B0 B' ⟨φ.Lo, B₂, φ.s₀, Hd'⟩ (inv i) s' := O'.refit rfl (fun b o e => .inl (O.base b o e)) O'.hold O'.hL O'.hC (fun x ds a hx S o q => (O'.own x ds a hx S).2.2 o q) O'.lim (fun b q => O'.lo b (B2l b (O.lo b q)))
    have O4 := O3'.turnU (h' := h₁) (tk := tk₁) (fun b => b ∈ wr) hk₁ (fun b hw => ⟨(tT s' B' O'.lo b hw).1, (tT s' B' O'.lo b hw).2, trivial, hobj _ _ hst' b hw⟩) (fun b q => nwB b (O.sub b q)) (fun b q => nwB b (O.lo b q))
    exact O4.refit (φ' := φ) rfl O.base (fun b o q => O4.hold b o (.inl q)) O.hL O.hC (fun x ds a hx S o q => (O4.own x ds a hx S).2.2 o (.inl q))
      (fun b o q q' => O.lim b o q ((B2c b (O4.lim b o (.inl q) q')).resolve_right (nwr b o q))) O4.lo
end
end Mine

set_option maxRecDepth 100000
namespace Mine
open PySem PyProof.Rows PySem.W

mutual
theorem Rep.move {h h' : Heap} {B B' : Addr → Prop} (hk : ∀ a o, h.get? a = some o → Seq o → ¬ B a → h'.get? a = some o ∧ ¬ B' a) : ∀ {v : Value} {d : D}, Rep h B v d → Rep h' B' v d
  | _, _, .none => .none
  | _, _, .bool b => .bool b
  | _, _, .int i t => .int i t
  | _, _, .bytes b t => .bytes b t
  | _, _, .list hn hl r => .list (hk _ _ hl (.inl ⟨_, _, rfl⟩) hn).2 (hk _ _ hl (.inl ⟨_, _, rfl⟩) hn).1 (r.move hk)
  | _, _, .tuple hn hl r => .tuple (hk _ _ hl (.inl ⟨_, _, rfl⟩) hn).2 (hk _ _ hl (.inl ⟨_, _, rfl⟩) hn).1 (r.move hk)
  | _, _, .arg hn hl hi => .arg (let ⟨_, ho, _, _, r⟩ := hl; (hk _ _ ho (.inl ⟨_, _, r⟩) hn).2) (let ⟨o, ho, hc, m, r⟩ := hl; ⟨o, (hk _ _ ho (.inl ⟨_, _, r⟩) hn).1, hc, m, r⟩) hi
  | _, _, .ty n => .ty n
  | _, _, .tab hn ho t => .tab (hk _ _ ho t.seq hn).2 (hk _ _ ho t.seq hn).1 t
theorem RepL.move {h h' : Heap} {B B' : Addr → Prop} (hk : ∀ a o, h.get? a = some o → Seq o → ¬ B a → h'.get? a = some o ∧ ¬ B' a) : ∀ {vs : List Value} {ds : List D}, RepL h B vs ds → RepL h' B' vs ds
  | _, _, .nil => .nil
  | _, _, .cons r rs => .cons (r.move hk) (rs.move hk)
end

def ItemN (ds : List D) (i : Nat) (B : Addr → Prop) (h : Heap) (v : Value) : Prop := ∃ d, ds[i]? = some d ∧ Rep h B v d
def ItemT (ds : Nat → List D) (i : Nat) (B : Addr → Prop) (h : Heap) (v : Value) : Prop := ∃ T vs, v = .ref T ∧ h.IsTuple T vs.toArray ∧ RepL h B vs (ds i)

section
variable {prog : Program} {w : World} {mg mb : Str → Option Value} {env : Env} {B0 : Addr → Prop} {n : Nat} {σ : List (Str × Sl)}

theorem IterOk.mono {A : Around} {target : Expr} {B K : Addr → Prop} {s s₂ : Shared} {it : Value} {N : Nat} {Item Item' : Nat → (Addr → Prop) → Heap → Value → Prop} (h : IterOk prog w A target B K s s₂ it N Item)
    (hi : ∀ i B h v, i < N → Item i B h v → Item' i B h v) : IterOk prog w A target B K s s₂ it N Item' := by
  obtain ⟨I, fp, wr, P, Md, St, h1, h2, h3, h4, h5, h6, h7, h7', h8⟩ := h
  exact ⟨I, fp, wr, P, Md, St, h1, h2, h3, h4, h5, h6, h7, h7', fun i v h B' hlt p q => hi i B' h v hlt (h8 i v h B' hlt p q)⟩

/-- of one iterator object alone -/
theorem iter_obj {h : Heap} {b : Addr} {c : String} {vs : Array Value} (hc : c ≠ "list") (e : ∃ o, h.get? b = some o ∧ o.cls = .type c ∧ o.data = .fields vs) :
    ∃ o, h.get? b = some o ∧ o.cls ≠ .type "list" ∧ (∀ es ep, o.data ≠ .dict es ep) ∧ ∀ c, o.data ≠ .cell c := by
  obtain ⟨o, ho, hc', hd⟩ := e
  exact ⟨o, ho, fun q => hc (by rw [hc'] at q; exact Value.type.inj q), fun _ _ q => (by rw [hd] at q; cases q), fun _ q => (by rw [hd] at q; cases q)⟩

theorem it_list {A : Around} {target : Expr} {B K : Addr → Prop} {s : Shared} {l : Addr} {us : List Value} {m : Nat} {ds : List D} (hh : A.handled = none) (il : IsL s.heap l us.toArray m) (r : RepL s.heap B us ds) (hl : ¬ B l ∨ K l) :
    IterOk prog w A target B K s { s with heap := s.heap.push { cls := .type "list_iterator", data := .fields #[.ref l, .int 0 0] } } (.ref s.heap.objs.size) ds.length (ItemN ds) := by
  have hne : l ≠ s.heap.objs.size := Nat.ne_of_lt (Heap.lt_size il)
  have W0 := Walks.list (prog := prog) (w := w) hh s.heap.objs.size l hne us.toArray
  have W := KTurns.ofWalks (target := target) W0 fun i v s Q E st q => letGo_listiter st.1 q
  have e1 : us.toArray.size = ds.length := by simp [r.length]
  rw [e1] at W
  have ob : ∀ i (h : Heap), h.IsListIter s.heap.objs.size l i → ∀ b ∈ [s.heap.objs.size], ∃ o, h.get? b = some o ∧ o.cls ≠ .type "list" ∧ (∀ es ep, o.data ≠ .dict es ep) ∧ ∀ c, o.data ≠ .cell c := fun i h st b hb => by
    rw [List.mem_singleton.mp hb]; exact iter_obj (c := "list_iterator") (by decide) st
  refine ⟨_, _, _, _, _, _, rfl, W, ⟨⟨_, Heap.get?_push_size _ rfl, rfl, rfl⟩, il.isList.push _⟩, fun b hb => by rw [List.mem_singleton.mp hb]; exact Nat.le_refl _, fun i h st => ob i h st.1, fun i v h st => ob (i + 1) h st.2.1, fun b hb => ?_, W0.self, fun i v h B' hlt p q => ?_⟩
  · rcases List.mem_cons.mp hb with rfl | hb
    · exact .inl (.head _)
    · rw [List.mem_singleton.mp hb]
      rcases hl with hl | hl
      · exact .inr (.inl ⟨_, Heap.get?_push_of_some _ il, .inl ⟨_, _, rfl⟩, hl⟩)
      · exact .inr (.inr hl)
  · have hv : us[i]? = some v := by simpa using p
    obtain ⟨d, hd⟩ : ∃ d, ds[i]? = some d := ⟨ds[i], by simp [hlt]⟩
    obtain ⟨v', hv', rv⟩ := r.get hd
    rw [hv] at hv'; cases hv'
    refine ⟨d, hd, rv.move fun a o e hs nb => q a o (Heap.get?_push_of_some _ e) hs nb fun hw => ?_⟩
    rw [List.mem_singleton.mp hw] at e
    exact Nat.lt_irrefl _ (Heap.lt_size e)

theorem it_tuple {A : Around} {target : Expr} {B K : Addr → Prop} {s : Shared} {l : Addr} {us : List Value} {m : Nat} {ds : List D} (hh : A.handled = none) (il : IsT s.heap l us.toArray m) (r : RepL s.heap B us ds) (hl : ¬ B l) :
    IterOk prog w A target B K s { s with heap := s.heap.push { cls := .type "tuple_iterator", data := .fields #[.ref l, .int 0 0] } } (.ref s.heap.objs.size) ds.length (ItemN ds) := by
  have hne : l ≠ s.heap.objs.size := Nat.ne_of_lt (Heap.lt_size il)
  have iT : s.heap.IsTuple l us.toArray := ⟨_, il, rfl, _, rfl⟩
  have W0 := Walks.tuple (prog := prog) (w := w) hh s.heap.objs.size l hne us.toArray
  have W := KTurns.ofWalks (target := target) W0 fun i v s Q E st q => letGo_tupleiter st.1 q
  have e1 : us.toArray.size = ds.length := by simp [r.length]
  rw [e1] at W
  have ob : ∀ i (h : Heap), h.IsTupleIter s.heap.objs.size l i → ∀ b ∈ [s.heap.objs.size], ∃ o, h.get? b = some o ∧ o.cls ≠ .type "list" ∧ (∀ es ep, o.data ≠ .dict es ep) ∧ ∀ c, o.data ≠ .cell c := fun i h st b hb => by
    rw [List.mem_singleton.mp hb]; exact iter_obj (c := "tuple_iterator") (by decide) st
  refine ⟨_, _, _, _, _, _, rfl, W, ⟨⟨_, Heap.get?_push_size _ rfl, rfl, rfl⟩, iT.at fun o e => Heap.get?_push_of_some _ e⟩, fun b hb => by rw [List.mem_singleton.mp hb]; exact Nat.le_refl _, fun i h st => ob i h st.1, fun i v h st => ob (i + 1) h st.2.1, fun b hb => ?_, W0.self, fun i v h B' hlt p q => ?_⟩
  · rcases List.mem_cons.mp hb with rfl | hb
    · exact .inl (.head _)
    · rw [List.mem_singleton.mp hb]
      exact .inr (.inl ⟨_, Heap.get?_push_of_some _ il, .inl ⟨_, _, rfl⟩, hl⟩)
  · have hv : us[i]? = some v := by simpa using p
    obtain ⟨d, hd⟩ : ∃ d, ds[i]? = some d := ⟨ds[i], by simp [hlt]⟩
    obtain ⟨v', hv', rv⟩ := r.get hd
    rw [hv] at hv'; cases hv'
    refine ⟨d, hd, rv.move fun a o e hs nb => q a o (Heap.get?_push_of_some _ e) hs nb fun hw => ?_⟩
    rw [List.mem_singleton.mp hw] at e
    exact Nat.lt_irrefl _ (Heap.lt_size e)

/-- a walk over one object that stands alone and hands out values -/
theorem it_alone {A : Around} {target : Expr} {B K : Addr → Prop} {s : Shared} {o : Obj} {P : Nat → Value → Prop} {St : Nat → Heap → Prop} {N : Nat} {Item : Nat → (Addr → Prop) → Heap → Value → Prop} {c : String} (hc : c ≠ "list")
    (W : Walks prog w A s.heap.objs.size [s.heap.objs.size] [s.heap.objs.size] N P St) (hgo : ∀ i v (s' : Shared) (Q : Unit → Shared → Prop) (E : Value → Shared → Prop), St i s'.heap → Q () s' → wpAny (model prog w) A (letOwnedTupleGo target (.ref s.heap.objs.size) v) Q E s')
    (hst : St 0 (s.heap.push o)) (hobj : ∀ i h, St i h → ∃ o vs, h.get? s.heap.objs.size = some o ∧ o.cls = .type c ∧ o.data = .fields vs) (hi : ∀ i v B h, i < N → P i v → Item i B h v) :
    IterOk prog w A target B K s { s with heap := s.heap.push o } (.ref s.heap.objs.size) N Item := by
  have W' := KTurns.ofWalks (target := target) W fun i v s Q E st q => hgo i v s Q E st q
  have ob : ∀ i (h : Heap), St i h → ∀ b ∈ [s.heap.objs.size], ∃ o, h.get? b = some o ∧ o.cls ≠ .type "list" ∧ (∀ es ep, o.data ≠ .dict es ep) ∧ ∀ c, o.data ≠ .cell c := fun i h st b hb => by
    rw [List.mem_singleton.mp hb]
    obtain ⟨o, vs, h1, h2, h3⟩ := hobj i h st
    exact iter_obj hc ⟨o, h1, h2, h3⟩
  exact ⟨_, _, _, _, _, _, rfl, W', hst, fun b hb => by rw [List.mem_singleton.mp hb]; exact Nat.le_refl _, ob, fun i v h st => ob (i + 1) h st.2, fun b hb => .inl hb, W.self, fun i v h B' hlt p q => hi i v B' h hlt p⟩

theorem go_fields {A : Around} {target : Expr} {I : Addr} {v : Value} {s' : Shared} {Q : Unit → Shared → Prop} {E : Value → Shared → Prop} {c : String} {vs : Array Value}
    (hc : ["enumerate", "zip", "dict_itemiterator", "dict_reverseitemiterator", "odict_iterator", "itertools.zip_longest", "itertools.pairwise"].contains c = false)
    (e : ∃ o, s'.heap.get? I = some o ∧ o.cls = .type c ∧ o.data = .fields vs) (q : Q () s') : wpAny (model prog w) A (letOwnedTupleGo target (.ref I) v) Q E s' := by
  obtain ⟨o, ho, h1, h2⟩ := e
  unfold letOwnedTupleGo
  split
  all_goals first | exact wpAny_pure q | skip
  all_goals (
    split
    · rename_i r a e2
      cases e2
      refine wpAny_bind (wpAny_load ho ?_)
      rw [h1, h2]
      simp only [hc, Bool.false_and, Bool.false_eq_true, if_false]
      exact wpAny_pure q
    · exact wpAny_pure q)

/-- the source of a loop -/
def Src (prog : Program) (w : World) (mg mb : Str → Option Value) (env : Env) (n : Nat) (σ : List (Str × Sl)) (target iter : Expr) (N : Nat) (Item : Nat → (Addr → Prop) → Heap → Value → Prop) : Prop :=
  ∀ B K A s, AOk n A → Rd mg mb env B σ s → (∀ x ds a, σ.lookup x = some (.bor ds) → Sees env s.heap x (.ref a) → K a) →
    wpAny (model prog w) A (eval iter env) (fun xv s₁ => wpAny (model prog w) A (pyIter xv) (fun it s₂ => ∃ s', Keeps s s' ∧ Keeps s' s₂ ∧ IterOk prog w A target B K s' s₂ it N Item) Fl s₁) Fl s

theorem Src.mono {target iter : Expr} {N : Nat} {Item Item' : Nat → (Addr → Prop) → Heap → Value → Prop} (h : Src prog w mg mb env n σ target iter N Item) (hi : ∀ i B h v, i < N → Item i B h v → Item' i B h v) : Src prog w mg mb env n σ target iter N Item' :=
  fun B K A s a rd hK => wpAny_mono (h B K A s a rd hK) (fun xv s₁ h₁ => wpAny_mono h₁ (fun it s₂ ⟨s', k1, k2, q⟩ => ⟨s', k1, k2, q.mono hi⟩) fun _ _ x => x) fun _ _ x => x

theorem src_list {target iter : Expr} {ds : List D} (h : Ex prog w mg mb env n σ iter (.list ds)) : Src prog w mg mb env n σ target iter ds.length (ItemN ds) := fun B K A s a rd hK =>
  wpAny_mono (h B A s a rd) (fun xv s₁ ⟨k, q⟩ => by
    cases q with | list nb il r =>
    exact wpAny_pyIter_list il.isList ⟨s₁, k, keeps_push _ _, it_list a.1 il r (.inl nb)⟩) fun _ _ x => x
theorem src_bor {target : Expr} {x : Str} {px : Pos} {ds : List D} (hx : σ.lookup x = some (.bor ds)) (hd : (x == ("__debug__" : Str)) = false := by rfl) (hc : (x == ("__classdict__" : Str)) = false := by rfl) : Src prog w mg mb env n σ target (.Name x px) ds.length (ItemN ds) := fun B K A s a rd hK => by
  obtain ⟨v, S, l, us, m, rfl, il, r⟩ := rd.var x _ hx
  exact wpAny_Name (loadName_sees rd.envOk S hc (wpAny_pyIter_list il.isList ⟨s, keeps_refl _, keeps_push _ _, it_list a.1 il r (.inr (hK x ds l hx S))⟩)) hd
theorem src_tuple {target iter : Expr} {ds : List D} (h : Ex prog w mg mb env n σ iter (.tuple ds)) : Src prog w mg mb env n σ target iter ds.length (ItemN ds) := fun B K A s a rd hK =>
  wpAny_mono (h B A s a rd) (fun xv s₁ ⟨k, q⟩ => by
    cases q with | tuple nb il r =>
    exact wpAny_pyIter_tuple ⟨_, il, rfl, _, rfl⟩ ⟨s₁, k, keeps_push _ _, it_tuple a.1 il r nb⟩) fun _ _ x => x
theorem src_bytes {target iter : Expr} {b : List UInt8} (h : Ex prog w mg mb env n σ iter (.bytes b)) : Src prog w mg mb env n σ target iter b.length (ItemN (b.map fun c => D.int c.toNat)) := fun B K A s a rd hK =>
  wpAny_mono (h B A s a rd) (fun xv s₁ ⟨k, q⟩ => by
    cases q with | bytes _ t =>
    refine KBw.pyIter_bytes ⟨s₁, k, keeps_push _ _, ?_⟩
    have W := KBw.walks (prog := prog) (w := w) a.1 s₁.heap.objs.size b.toArray t
    have e1 : b.toArray.size = b.length := by simp
    rw [e1] at W
    refine it_alone (c := "bytes_iterator") (by decide) W (fun i v s' Q E st q => go_fields (c := "bytes_iterator") (by decide) st q) ⟨_, Heap.get?_push_size _ rfl, rfl, rfl⟩ (fun i h ⟨o, h1, h2, h3⟩ => ⟨o, _, h1, h2, h3⟩) fun i v B h hlt p => ?_
    obtain ⟨c, u, hc, rfl⟩ := p
    refine ⟨.int c.toNat, ?_, .int _ _⟩
    have hc' : b[i]? = some c := by simpa using hc
    simp [hc']) fun _ _ x => x

/-- range objects -/
def rng (a b c : Int) : Rel := ⟨fun h v => ∃ r t u x, v = .ref r ∧ IsRange h r a b c t u x, fun _ k ⟨r, t, u, x, e, h⟩ => ⟨r, t, u, x, e, k _ _ h⟩⟩
theorem co_range1 {B : Addr → Prop} {b : Int} : Co prog w mg mb env B σ n (.type "range") [rep B (.int b)] (rng 0 b 1) := fun A s vs a rd q => by
  obtain ⟨v, rfl, r⟩ := relL1 q
  cases r
  exact call_range_1 ⟨⟨_, _, rfl, fun _ _ e => Heap.get?_push_of_some _ e⟩, _, _, _, _, rfl, Heap.get?_push_size _ rfl⟩
theorem co_range3 {B : Addr → Prop} {a b c : Int} (hc : 0 < c) (hc' : c < 1000) : Co prog w mg mb env B σ n (.type "range") [rep B (.int a), rep B (.int b), rep B (.int c)] (rng a b c) := fun A s vs ha rd q => by
  obtain ⟨v, v', v'', rfl, r, r', r''⟩ := relL3 q
  cases r; cases r'; cases r''
  exact call_range_3 (by omega) ⟨⟨_, _, rfl, fun _ _ e => Heap.get?_push_of_some _ e⟩, _, _, _, _, rfl, Heap.get?_push_size _ rfl⟩ (Or.inl (PyProof.noPylong_small (by omega)))
theorem src_range {target iter : Expr} {a b c : Int} {N : Nat} (h : ∀ B, Ev prog w mg mb env B σ n iter (rng a b c)) (hN : Builtin.Range.rangeSize a b c = N) (hsm : Builtin.Range.small a b c = true) :
    Src prog w mg mb env n σ target iter N (ItemN ((List.range N).map fun (i : Nat) => D.int (a + i * c))) := fun B K A s ha rd hK =>
  wpAny_mono (h B A s ha rd) (fun xv s₁ ⟨k, r, t, u, x, e, hr⟩ => by
    subst e
    refine wpAny_pyIter_range hr hsm ⟨s₁, k, keeps_push _ _, ?_⟩
    have W := Walks.range (prog := prog) (w := w) ha.1 s₁.heap.objs.size a c N
    refine it_alone (c := "range_iterator") (by decide) W (fun i v s' Q E st q => go_fields (c := "range_iterator") (by decide) ⟨_, st, rfl, rfl⟩ q) ?_ (fun i h st => ⟨_, _, st, rfl, rfl⟩) fun i v B h hlt p => ?_
    · rw [hN]
      show IsRangeIter _ _ _ _ _
      have := Heap.get?_push_size s₁.heap (o := { cls := .type "range_iterator", data := .fields #[rawInt a, rawInt (N : Int), rawInt c] }) rfl
      simpa using this
    · obtain ⟨t, rfl⟩ := p
      exact ⟨_, by simp [hlt], .int _ _⟩) fun _ _ x => x

/-- for -/
theorem st_for {target iter : Expr} {body rest : List Stmt} {pos : Pos} {N : Nat} {Item : Nat → (Addr → Prop) → Heap → Value → Prop} {inv bnd : Nat → List (Str × Sl)} {P : Post}
    (hsrc : Src prog w mg mb env n σ target iter N Item) (h0 : ∀ x sl, (inv 0).lookup x = some sl → σ.lookup x = some sl)
    (hbind : ∀ i, i < N → ∀ A φ s B v, AOk n A → OkB mg mb env B0 B φ (inv i) s → Item i B s.heap v → wpAny (model prog w) A (assign target env v) (fun _ s' => Ok mg mb env B0 φ (bnd i) s') Fl s)
    (hbody : ∀ i, i < N → St prog w mg mb env B0 n (bnd i) body (PNext mg mb env B0 (inv (i + 1))))
    (h : St prog w mg mb env B0 n (inv N) rest P) (hs : ∀ x, foldedSetIterable iter env x = pure x := by intro _; rfl) :
    St prog w mg mb env B0 n σ (.For target iter body [] pos :: rest) P := fun A φ s a ⟨B, O⟩ =>
  wpAny_execs_cons (wpAny_For (wpAny_mono (hsrc B (fun b => ∃ o, φ.s₀.heap.get? b = some o) A s a O.rd (fun x ds b hx S => O.bor x ds b hx S)) (fun xv s₁ h₁ => wpAny_mono h₁ (fun it s₂ ⟨s', k1, k2, q⟩ => by
    refine codeAny_mono (for_core a ((O.keeps k1).weaken h0) k2 q hbind hbody) fun r s₃ ⟨e, O₃⟩ => ?_
    subst e
    exact h A φ s₃ a O₃) fun _ _ x => x) fun _ _ x => x) hs)

theorem bind_name {x : Str} {px : Pos} {ds : List D} {N : Nat} {inv : Nat → List (Str × Sl)} (d : Nat → D) (hd : ∀ i, i < N → ds[i]? = some (d i)) (hx : Stores env x) :
    ∀ i, i < N → ∀ A φ s B v, AOk n A → OkB mg mb env B0 B φ (inv i) s → ItemN ds i B s.heap v → wpAny (model prog w) A (assign (.Name x px) env v) (fun _ s' => Ok mg mb env B0 φ ((x, .v (d i)) :: inv i) s') Fl s :=
  fun i hi A φ s B v a O ⟨d', e, r⟩ => by
    rw [hd i hi] at e; cases e
    exact wpAny_assign_Name (O.storeV hx r fun s' O' _ => ⟨B, O'⟩)
theorem assign_tup2 {A : Around} {φ : Fm} {s : Shared} {B : Addr → Prop} {x y : Str} {px py pt : Pos} {k : Nat} {T : Addr} {vs : List Value} {d₁ d₂ : D} (hx : Stores env x) (hy : Stores env y) (a : AOk n A) (O : OkB mg mb env B0 B φ σ s) (hT : s.heap.IsTuple T vs.toArray) (r : RepL s.heap B vs [d₁, d₂]) :
    wpAny (model prog w) A (assign (.Tuple [.Name x px, .Name y py] k pt) env (.ref T)) (fun _ s' => Ok mg mb env B0 φ ((y, .v d₂) :: (x, .v d₁) :: σ) s') Fl s := by
  cases r with | cons r₁ r =>
  cases r with | cons r₂ r =>
  cases r
  rename_i v₁ v₂
  refine assign_Tuple_tuple a.1 hT rfl rfl fun h' he => ?_
  have kk : Keeps s { s with heap := h' } := ⟨h', s.toks, rfl, fun b o e => he b o (Nat.ne_of_lt (Heap.lt_size e)) e⟩
  show wpAny _ _ (assignInOrder [assign (.Name x px) env, assign (.Name y py) env] [v₁, v₂]) _ _ _
  refine wpAny_bind (wpAny_holding (wpAny_assign_Name ((O.keeps kk).storeV hx (r₁.keeps (keeps_heap kk)) fun s₁ O₁ kp => ?_)))
  refine wpAny_bind (wpAny_holding (wpAny_assign_Name (O₁.storeV hy ((r₂.keeps (keeps_heap kk)).mono (kp.kp _) fun _ _ q => q) fun s₂ O₂ _ => ?_)))
  exact wpAny_pure ⟨B, O₂⟩
theorem bind_tup2 {x y : Str} {px py pt : Pos} {k : Nat} {ds : Nat → List D} {N : Nat} {inv : Nat → List (Str × Sl)} (d₁ d₂ : Nat → D) (hd : ∀ i, i < N → ds i = [d₁ i, d₂ i]) (hx : Stores env x) (hy : Stores env y) :
    ∀ i, i < N → ∀ A φ s B v, AOk n A → OkB mg mb env B0 B φ (inv i) s → ItemT ds i B s.heap v → wpAny (model prog w) A (assign (.Tuple [.Name x px, .Name y py] k pt) env v) (fun _ s' => Ok mg mb env B0 φ ((y, .v (d₂ i)) :: (x, .v (d₁ i)) :: inv i) s') Fl s :=
  fun i hi A φ s B v a O ⟨T, vs, e, hT, r⟩ => by
    subst e
    rw [hd i hi] at r
    exact assign_tup2 hx hy a O hT r
theorem itemT_of {ds : List D} {es : Nat → List D} {i : Nat} {B : Addr → Prop} {h : Heap} {v : Value} (hd : ds[i]? = some (.tuple (es i))) (q : ItemN ds i B h v) : ItemT es i B h v := by
  obtain ⟨d, e, r⟩ := q
  rw [hd] at e; cases e
  cases r with | tuple nb il r => exact ⟨_, _, rfl, ⟨_, il, rfl, _, rfl⟩, r⟩
end
end Mine

set_option maxRecDepth 100000
namespace Mine
open PySem PyProof.Rows PySem.W

section
variable {prog : Program} {w : World} {mg mb : Str → Option Value} {env : Env} {B0 : Addr → Prop} {n : Nat} {σ : List (Str × Sl)}

theorem wpAny_bindName' {M : Model} {A : Around} {E : Value → Shared → Prop} {s : Shared} {x : Str} {v : Value} {Q : Unit → Shared → Prop} (h : wpAny M A (storeName env x v) Q E s) : wpAny M A (bindName env x v) Q E s := wpAny_bindName h

theorem st_tup2 {x y : Str} {px py pt pos : Pos} {k : Nat} {e : Expr} {d₁ d₂ : D} {rest : List Stmt} {P : Post} (he : Ex prog w mg mb env n σ e (.tuple [d₁, d₂])) (h : St prog w mg mb env B0 n ((y, .v d₂) :: (x, .v d₁) :: σ) rest P)
    (hx : Stores env x) (hy : Stores env y) (hs : swapsWithSole [.Tuple [.Name x px, .Name y py] k pt] e pos.line env = pure false := by rfl) (hw : swappedStores [.Tuple [.Name x px, .Name y py] k pt] e env = pure none := by rfl) :
    St prog w mg mb env B0 n σ (.Assign [.Tuple [.Name x px, .Name y py] k pt] e pos :: rest) P := fun A φ s a ⟨B, O⟩ =>
  wpAny_execs_cons (Assign_Tuple (wpAny_mono (he B A s a O.rd) (fun v s₁ ⟨kk, r⟩ => by
    cases r with | tuple nb il r =>
    exact wpAny_mono (assign_tup2 hx hy a (O.keeps kk) ⟨_, il, rfl, _, rfl⟩ r) (fun _ s₂ O₂ => h A φ s₂ a O₂) fun _ _ x => x) fun _ _ x => x) hs hw)

theorem st_tup2s {x y : Str} {px py pt pos : Pos} {k : Nat} {e : Expr} {d₁ d₂ : D} {rest : List Stmt} {P : Post} (he : Ex prog w mg mb env n σ e (.tuple [d₁, d₂])) (h : St prog w mg mb env B0 n ((x, .v d₁) :: (y, .v d₂) :: σ) rest P)
    (hx : Stores env x) (hy : Stores env y) (hs : swapsWithSole [.Tuple [.Name x px, .Name y py] k pt] e pos.line env = pure false := by rfl) (hw : swappedStores [.Tuple [.Name x px, .Name y py] k pt] e env = pure (some [x, y]) := by rfl) :
    St prog w mg mb env B0 n σ (.Assign [.Tuple [.Name x px, .Name y py] k pt] e pos :: rest) P := fun A φ s a ⟨B, O⟩ =>
  wpAny_execs_cons (Assign_Tuple_swapped (names := [x, y]) (wpAny_mono (he B A s a O.rd) (fun v s₁ ⟨kk, r⟩ => by
    cases r with | tuple nb il r =>
    rename_i T vs m
    cases r with | cons r₁ r =>
    cases r with | cons r₂ r =>
    cases r
    rename_i v₁ v₂
    refine unpackItems_tuple (items := #[v₁, v₂]) a.1 ⟨_, il, rfl, _, rfl⟩ fun h' he => ?_
    have k2 : Keeps s₁ { s₁ with heap := h' } := ⟨h', s₁.toks, rfl, fun b o e => he b o (Nat.ne_of_lt (Heap.lt_size e)) e⟩
    have O2 := (O.keeps kk).keeps k2
    show wpAny _ _ (assignInOrder [bindName env y, bindName env x] [v₂, v₁]) _ _ _
    refine wpAny_bind (wpAny_holding (wpAny_bindName (O2.storeV hy (r₂.keeps (keeps_heap k2)) fun s₃ O₃ kp => ?_)))
    refine wpAny_bind (wpAny_holding (wpAny_bindName (O₃.storeV hx ((r₁.keeps (keeps_heap k2)).mono (kp.kp _) fun _ _ q => q) fun s₄ O₄ _ => ?_)))
    exact wpAny_pure (h A φ s₄ a ⟨B, O₄⟩)) fun _ _ x => x) hs hw)

theorem st_tup3 {x y z : Str} {px py pz pt pos : Pos} {k : Nat} {e : Expr} {d₁ d₂ d₃ : D} {rest : List Stmt} {P : Post} (he : Ex prog w mg mb env n σ e (.tuple [d₁, d₂, d₃])) (h : St prog w mg mb env B0 n ((z, .v d₃) :: (y, .v d₂) :: (x, .v d₁) :: σ) rest P)
    (hx : Stores env x) (hy : Stores env y) (hz : Stores env z) (hs : swapsWithSole [.Tuple [.Name x px, .Name y py, .Name z pz] k pt] e pos.line env = pure false := by rfl) (hw : swappedStores [.Tuple [.Name x px, .Name y py, .Name z pz] k pt] e env = pure none := by rfl) :
    St prog w mg mb env B0 n σ (.Assign [.Tuple [.Name x px, .Name y py, .Name z pz] k pt] e pos :: rest) P := fun A φ s a ⟨B, O⟩ =>
  wpAny_execs_cons (Assign_Tuple (wpAny_mono (he B A s a O.rd) (fun v s₁ ⟨kk, r⟩ => by
    cases r with | tuple nb il r =>
    cases r with | cons r₁ r =>
    cases r with | cons r₂ r =>
    cases r with | cons r₃ r =>
    cases r
    rename_i v₁ v₂ v₃
    refine assign_Tuple_tuple (items := #[v₁, v₂, v₃]) a.1 ⟨_, il, rfl, _, rfl⟩ rfl rfl fun h' he => ?_
    have k2 : Keeps s₁ { s₁ with heap := h' } := ⟨h', s₁.toks, rfl, fun b o e => he b o (Nat.ne_of_lt (Heap.lt_size e)) e⟩
    have O2 := (O.keeps kk).keeps k2
    show wpAny _ _ (assignInOrder [assign (.Name x px) env, assign (.Name y py) env, assign (.Name z pz) env] [v₁, v₂, v₃]) _ _ _
    refine wpAny_bind (wpAny_holding (wpAny_assign_Name (O2.storeV hx (r₁.keeps (keeps_heap k2)) fun s₃ O₃ kp => ?_)))
    refine wpAny_bind (wpAny_holding (wpAny_assign_Name (O₃.storeV hy ((r₂.keeps (keeps_heap k2)).mono (kp.kp _) fun _ _ q => q) fun s₄ O₄ kp' => ?_)))
    refine wpAny_bind (wpAny_holding (wpAny_assign_Name (O₄.storeV hz (((r₃.keeps (keeps_heap k2)).mono (kp.kp _) fun _ _ q => q).mono (kp'.kp _) fun _ _ q => q) fun s₅ O₅ _ => ?_)))
    exact wpAny_pure (h A φ s₅ a ⟨B, O₅⟩)) fun _ _ x => x) hs hw)

/-- while -/
theorem st_while {test : Expr} {body rest : List Stmt} {pos : Pos} {P : Post} (N : Nat) {inv : Nat → List (Str × Sl)} (h0 : ∀ x sl, (inv 0).lookup x = some sl → σ.lookup x = some sl)
    (ht : ∀ i, i ≤ N → Te prog w mg mb env n (inv i) test (decide (i < N))) (hb : ∀ i, i < N → St prog w mg mb env B0 n (inv i) body (PNext mg mb env B0 (inv (i + 1))))
    (h : St prog w mg mb env B0 n (inv N) rest P) : St prog w mg mb env B0 n σ (.While test body [] pos :: rest) P := fun A φ s a ⟨B, O⟩ =>
  wpAny_execs_cons (wpAny_While (codeAny_mono (R := fun r s' => r = .ok .next ∧ Ok mg mb env B0 φ (inv N) s') (codeAny_whileLoop (fun k s' => ∃ i, k = N - i ∧ i ≤ N ∧ Ok mg mb env B0 φ (inv i) s') (fun k s' ⟨i, hk, hi, B', O'⟩ => by
    refine wpAny_mono (ht i hi B' A s' a O'.rd) (fun b s₂ ⟨kk, q⟩ => ?_) fun _ _ x => x.elim
    subst q
    by_cases hlt : i < N
    · simp only [hlt, decide_true, if_true]
      refine wpAny_mono (hb i hlt A φ s₂ a ⟨B', O'.keeps kk⟩) (fun f s₃ ⟨e, O₃⟩ => ?_) fun _ _ x => x.elim
      subst e
      exact ⟨N - (i + 1), by omega, i + 1, rfl, hlt, O₃⟩
    · have hin : i = N := by omega
      subst hin
      simp only [Nat.lt_irrefl, decide_false, Bool.false_eq_true, if_false]
      exact wpAny_execs_nil ⟨rfl, B', O'.keeps kk⟩) N ⟨0, rfl, Nat.zero_le _, B, O.weaken h0⟩) fun r s₃ ⟨e, O₃⟩ => by
    subst e
    exact h A φ s₃ a O₃))
end
end Mine

namespace Mine
open PySem PyProof.Rows

/-- one octet more: the six-bit values so far, the bits left over, the octets behind in the group of three -/
def stp (st : List Nat × Nat × Nat) (b : Nat) : List Nat × Nat × Nat :=
  if st.2.2 = 0 then (st.1 ++ [b / 4], b % 4, 1)
  else if st.2.2 = 1 then (st.1 ++ [st.2.1 * 16 + b / 16], b % 16, 2)
  else (st.1 ++ [st.2.1 * 4 + b / 64, b % 64], 0, 0)
def run (bs : List Nat) : List Nat × Nat × Nat := bs.foldl stp ([], 0, 0)
def lcs (lc b : Nat) : Nat := (lc * 256 + b) % 65536
def lcf (bs : List Nat) : Nat := bs.foldl lcs 0

theorem run_snoc (bs : List Nat) (b : Nat) : run (bs ++ [b]) = stp (run bs) b := by simp [run]
theorem lcf_snoc (bs : List Nat) (b : Nat) : lcf (bs ++ [b]) = lcs (lcf bs) b := by simp [lcf]

theorem snoc_ind {α : Type} {P : List α → Prop} (h0 : P []) (h : ∀ l a, P l → P (l ++ [a])) : ∀ l, P l := fun l => by
  have : ∀ r : List α, P r.reverse := by
    intro r
    induction r with
    | nil => exact h0
    | cons a r ih => rw [List.reverse_cons]; exact h _ _ ih
  have := this l.reverse
  rwa [List.reverse_reverse] at this

structure RunOk (bs : List Nat) : Prop where
  ph : (run bs).2.2 < 3
  rest : (run bs).2.1 = lcf bs % 4 ^ (run bs).2.2
  lc : lcf bs < 65536
  val : ∀ v ∈ (run bs).1, v < 64
  len : (run bs).1.length * 3 + (run bs).2.2 = bs.length * 4 

theorem run_ok : ∀ bs : List Nat, (∀ b ∈ bs, b < 256) → RunOk bs := by
  refine snoc_ind (fun _ => ⟨by decide, by decide, by decide, by simp [run], by decide⟩) fun bs b ih hb => ?_
  have hb' : b < 256 := hb b (by simp)
  obtain ⟨h1, h2, h3, h4, h5⟩ := ih fun x hx => hb x (by simp [hx])
  have hp : (run bs).2.2 = 0 ∨ (run bs).2.2 = 1 ∨ (run bs).2.2 = 2 := by omega
  generalize hr : run bs = st at *
  obtain ⟨V, r, p⟩ := st
  simp only at h1 h2 h4 h5 hp
  have e : run (bs ++ [b]) = stp (V, r, p) b := by rw [run_snoc, hr]
  have el := lcf_snoc bs b
  unfold lcs at el
  rcases hp with rfl | rfl | rfl
  · have e' : run (bs ++ [b]) = (V ++ [b / 4], b % 4, 1) := by rw [e]; simp [stp]
    refine ⟨by rw [e']; simp only; omega, by rw [e', el]; simp only; omega, by rw [el]; omega, ?_, ?_⟩
    · rw [e']; intro v hv; simp only [List.mem_append, List.mem_singleton] at hv; rcases hv with hv | rfl
      · exact h4 v hv
      · omega
    · rw [e']; simp only [List.length_append, List.length_cons, List.length_nil] at *; omega
  · have e' : run (bs ++ [b]) = (V ++ [r * 16 + b / 16], b % 16, 2) := by rw [e]; simp [stp]
    have hr4 : r < 4 := by rw [h2]; exact Nat.mod_lt _ (by decide)
    refine ⟨by rw [e']; simp only; omega, by rw [e', el]; simp only; omega, by rw [el]; omega, ?_, ?_⟩
    · rw [e']; intro v hv; simp only [List.mem_append, List.mem_singleton] at hv; rcases hv with hv | rfl
      · exact h4 v hv
      · omega
    · rw [e']; simp only [List.length_append, List.length_cons, List.length_nil] at *; omega
  · have e' : run (bs ++ [b]) = (V ++ [r * 4 + b / 64, b % 64], 0, 0) := by rw [e]; simp [stp]
    have hr4 : r < 16 := by rw [h2]; exact Nat.mod_lt _ (by decide)
    refine ⟨by rw [e']; simp only; omega, by rw [e']; simp only; omega, by rw [el]; omega, ?_, ?_⟩
    · rw [e']; intro v hv; simp only [List.mem_append, List.mem_cons, List.not_mem_nil, or_false] at hv; rcases hv with hv | rfl | rfl
      · exact h4 v hv
      · omega
      · omega
    · rw [e']; simp only [List.length_append, List.length_cons, List.length_nil] at *; omega

/-- the values that the octet brings -/
def nv (p lc : Nat) : List Nat := if p = 2 then [lc / 64 % 64, lc % 64] else [lc / 2 ^ (2 * p + 2) % 64]

theorem run_nv (bs : List Nat) (b : Nat) (hb : ∀ x ∈ bs, x < 256) (hb' : b < 256) : (run (bs ++ [b])).1 = (run bs).1 ++ nv (run bs).2.2 (lcf (bs ++ [b])) ∧ (run (bs ++ [b])).2.2 = ((run bs).2.2 + 1) % 3 := by
  obtain ⟨h1, h2, h3, h4, _⟩ := run_ok bs hb
  have hp : (run bs).2.2 = 0 ∨ (run bs).2.2 = 1 ∨ (run bs).2.2 = 2 := by omega
  have el := lcf_snoc bs b
  unfold lcs at el
  rw [run_snoc, el]
  generalize hr : run bs = st at *
  obtain ⟨V, r, p⟩ := st
  simp only at h1 h2 h4 hp ⊢
  rcases hp with rfl | rfl | rfl
  · simp only [stp, nv, if_true]; refine ⟨?_, by decide⟩; rw [if_neg (by decide)]; congr 2; omega
  · simp only [stp, nv, if_true, if_neg (show ¬ (1 = 0) by decide), if_neg (show ¬ (1 = 2) by decide)]; refine ⟨?_, by decide⟩; congr 2; omega
  · simp only [stp, nv, if_true, if_neg (show ¬ (2 = 0) by decide), if_neg (show ¬ (2 = 1) by decide)]; refine ⟨?_, by decide⟩
    congr 1
    have e1 : r * 4 + b / 64 = (lcf bs * 256 + b) % 65536 / 64 % 64 := by omega
    have e2 : b % 64 = (lcf bs * 256 + b) % 65536 % 64 := by omega
    rw [e1, e2]

theorem bor_low (x b : Nat) (hb : b < 256) : Builtin.bitOr ((x : Int) * 256) b = ((x * 256 + b : Nat) : Int) := by
  rw [bitOr_and, bitAnd_pp (by omega) (by omega)]
  have e1 : ((x : Int) * 256).toNat = x * 256 := by omega
  have e2 : ((b : Int)).toNat = b := by omega
  rw [e1, e2]
  have e3 : (x * 256) &&& b = 0 := by
    have h1 : b &&& 255 = b := by
      have := Nat.and_two_pow_sub_one_eq_mod b 8
      simp at this; rw [this]; omega
    have h2 : (x * 256) &&& 255 = 0 := by
      have := Nat.and_two_pow_sub_one_eq_mod (x * 256) 8
      simp at this; rw [this]
    rw [← h1, Nat.and_comm b 255, ← Nat.and_assoc, h2, Nat.zero_and]
  rw [e3]; omega
theorem band_mask (x k : Nat) : Builtin.bitAnd (x : Int) ((2 ^ k - 1 : Nat) : Int) = ((x % 2 ^ k : Nat) : Int) := by
  rw [bitAnd_pp (Int.natCast_nonneg _) (Int.natCast_nonneg _), Int.toNat_natCast, Int.toNat_natCast, Nat.and_two_pow_sub_one_eq_mod]
end Mine

set_option maxRecDepth 100000
namespace Mine
open PySem PyProof.Rows PySem.W

def nats (bs : List UInt8) : List Nat := bs.map (·.toNat)
theorem nats_lt (bs : List UInt8) : ∀ b ∈ nats bs, b < 256 := fun b hb => by
  obtain ⟨c, _, rfl⟩ := List.mem_map.mp hb; exact c.toNat_lt
theorem nats_take (bs : List UInt8) (i : Nat) : nats (bs.take i) = (nats bs).take i := by simp [nats]
theorem nats_take_succ {bs : List UInt8} {i : Nat} (h : i < bs.length) : nats (bs.take (i + 1)) = nats (bs.take i) ++ [(bs[i]).toNat] := by
  rw [List.take_add_one, List.getElem?_eq_getElem h]; simp only [nats, List.map_append, Option.toList, List.map_cons, List.map_nil]

theorem tab_at : ∀ v, v < 64 → (b64L.getD v 0).toNat = tabN v := by decide +kernel
theorem b64_len : b64L.length = 64 := by decide +kernel

/-- the list of signs -/
def sg (vs : List Nat) : List D := vs.map fun v => D.int (tabN v)

/-- what is written: the signs and the filling -/
def fin (st : List Nat × Nat × Nat) : List Int :=
  if st.2.2 = 1 then (st.1.map fun v => (tabN v : Int)) ++ [(tabN (st.2.1 * 16) : Int), 61, 61]
  else if st.2.2 = 2 then (st.1.map fun v => (tabN v : Int)) ++ [(tabN (st.2.1 * 4) : Int), 61]
  else st.1.map fun v => (tabN v : Int)
/-- the written octets -/
def enc (bs : List UInt8) : List UInt8 := octs (fin (run (nats bs)))
theorem tabN_lt : ∀ v, tabN v < 256 := fun v => by unfold tabN; split <;> (try split) <;> (try split) <;> (try split) <;> omega
theorem sg_eq (V : List Nat) : sg V = (V.map fun v => (tabN v : Int)).map D.int := by simp [sg]
theorem fin_in (st : List Nat × Nat × Nat) : ∀ x ∈ fin st, 0 ≤ x ∧ x < 256 := by
  have h : ∀ x ∈ (st.1.map fun v => (tabN v : Int)), 0 ≤ x ∧ x < 256 := fun x hx => by
    obtain ⟨v, _, rfl⟩ := List.mem_map.mp hx; have := tabN_lt v; omega
  intro x hx
  unfold fin at hx
  split at hx
  · rcases List.mem_append.mp hx with hx | hx
    · exact h x hx
    · simp only [List.mem_cons, List.not_mem_nil, or_false] at hx
      have := tabN_lt (st.2.1 * 16)
      omega
  · split at hx
    · rcases List.mem_append.mp hx with hx | hx
      · exact h x hx
      · simp only [List.mem_cons, List.not_mem_nil, or_false] at hx
        have := tabN_lt (st.2.1 * 4)
        omega
    · exact h x hx
theorem fin_len (st : List Nat × Nat × Nat) : (fin st).length ≤ st.1.length + 3 := by
  unfold fin; split
  · simp
  · split <;> simp

section
variable {prog : Program} {w : World} {mg mb : Str → Option Value} {B : Addr → Prop} {n : Nat}

theorem Ex.cast {env : Env} {σ : List (Str × Sl)} {e : Expr} {d d' : D} (h : Ex prog w mg mb env n σ e d) (hd : d = d') : Ex prog w mg mb env n σ e d' := hd ▸ h
theorem Ev.cast {env : Env} {σ : List (Str × Sl)} {e : Expr} {d d' : D} (h : Ev prog w mg mb env B σ n e (rep B d)) (hd : d = d') : Ev prog w mg mb env B σ n e (rep B d') := hd ▸ h

theorem Tr.cast' {env : Env} {σ : List (Str × Sl)} {e : Expr} {b b' : Bool} (h : Tr prog w mg mb env B σ n e b) (hd : b = b') : Tr prog w mg mb env B σ n e b' := hd ▸ h

/-- the state ahead of the octet i -/
def s5 (bs : List UInt8) (nl : Bool) (lc lb : Nat) (V : List Nat) : List (Str × Sl) :=
  [("leftchar", .v (.int lc)), ("leftbits", .v (.int lb)), ("out", .own (sg V)), ("bin_data", .v (.bytes bs)), ("newline", .v (.bool nl))]
def i5 (bs : List UInt8) (nl : Bool) (i : Nat) : List (Str × Sl) := s5 bs nl (lcf (nats (bs.take i))) (2 * (run (nats (bs.take i))).2.2) (run (nats (bs.take i))).1

theorem st_b2a (N : Nm mg mb) {L f : Addr} {q : Str} {cd : Value} {bs : List UInt8} (hz : bs.length ≤ 100000) {fb ft : Addr} (hfb : mg "_buffer" = some (.ref fb)) (hft : mg "_truth" = some (.ref ft))
    (hob : ∀ (env : Env) (B : Addr → Prop) σ s, Rd mg mb env B σ s → ∃ o fd, s.heap.get? fb = some o ∧ o.data = .func fd) (hot : ∀ (env : Env) (B : Addr → Prop) σ s, Rd mg mb env B σ s → ∃ o fd, s.heap.get? ft = some o ∧ o.data = .func fd) :
    St prog w mg mb (envC (defAt 5).2.2 L [] q f cd) B (n + 1) [("data", .v (.bytes bs)), ("newline", .v (.bool false))] (defAt 5).2.1 (PRet B (.bytes (enc bs))) := by
  refine st_assign (d := .bytes bs) (fun B => ev_callF (ev_global hfb) (ea_cons (R := rep B (.bytes bs)) ev_name ea_nil) (hob _ _ _) (co_buffer N hfb)) ?_ (.inl rfl)
  refine st_assign (d := .bool false) (fun B => ev_callF (ev_global hft) (ea_cons (R := rep B (.bool false)) ev_name ea_nil) (hot _ _ _) (co_truth N hft)) ?_ (.inl rfl)
  refine st_own (ds := []) (fun B => ea_nil) ?_ (.inl rfl)
  refine st_assign (d := .int 0) (fun B => ev_int) ?_ (.inl rfl)
  refine st_assign (d := .int 0) (fun B => ev_int) ?_ (.inl rfl)
  refine st_for (N := bs.length) (inv := i5 bs false) (bnd := fun i => ("b", .v (.int (bs.getD i 0).toNat)) :: i5 bs false i) (src_bytes fun B => ev_name) (lookup_of_mem ?_) (bind_name _ (fun i hi => by simp [hi]) (.inl rfl)) (fun i hi => ?_) ?_
  · exact allC rfl (allC rfl (allC rfl (allC rfl (allC rfl all0))))
  · -- one octet
    have hb : (bs.getD i 0) = bs[i] := by simp [hi]
    have hb8 : (bs.getD i 0).toNat < 256 := (bs.getD i 0).toNat_lt
    have hsn : nats (bs.take (i + 1)) = nats (bs.take i) ++ [(bs.getD i 0).toNat] := by rw [nats_take_succ hi, hb]
    have hlt := nats_lt (bs.take i)
    obtain ⟨h1, h2, h3, h4, h5⟩ := run_ok _ hlt
    obtain ⟨hV, hp⟩ := run_nv _ (bs.getD i 0).toNat hlt hb8
    have hlc : lcf (nats (bs.take (i + 1))) = (lcf (nats (bs.take i)) * 256 + (bs.getD i 0).toNat) % 65536 := by rw [hsn, lcf_snoc, lcs]
    have hlc' : lcf (nats (bs.take (i + 1))) < 65536 := by rw [hlc]; omega
    rw [← hsn] at hV hp
    unfold i5
    have hlen : (run (nats (bs.take i))).1.length ≤ 140000 := by
      have : (nats (bs.take i)).length ≤ bs.length := by simp [nats]; omega
      omega
    refine st_assign (d := .int (lcf (nats (bs.take (i + 1))))) (fun B => ?_) ?_ (.inl rfl)
    · refine (ev_and (ev_or (ev_shl ev_name ev_int (by decide) (by decide) (by omega)) ev_name) ev_int).cast ?_
      congr 1
      rw [show (2 : Int) ^ (8 : Int).toNat = 256 by decide, bor_low _ _ hb8, hlc]
      exact band_mask _ 16
    refine st_assign (d := .int ((2 * (run (nats (bs.take i))).2.2 + 8 : Nat) : Int)) (fun B => (ev_add ev_name ev_int).cast (by congr 1)) ?_ (.inl rfl)
    generalize hlc1 : lcf (nats (bs.take (i + 1))) = lc1 at *
    rw [hV, hp]
    generalize (run (nats (bs.take i))).1 = V at *
    generalize (run (nats (bs.take i))).2.2 = p at *
    have hnl : (nv p lc1).length = (2 * p + 8) / 6 := by
      have : p = 0 ∨ p = 1 ∨ p = 2 := by omega
      rcases this with rfl | rfl | rfl <;> simp [nv]
    have hnv : ∀ j, j < (2 * p + 8) / 6 → (nv p lc1)[j]? = some (lc1 / 2 ^ (2 * p + 8 - 6 * j - 6) % 64) := by
      intro j hj
      have : p = 0 ∨ p = 1 ∨ p = 2 := by omega
      rcases this with rfl | rfl | rfl
      · have : j = 0 := by omega
        subst this; simp [nv]
      · have : j = 0 := by omega
        subst this; simp [nv]
      · have : j = 0 ∨ j = 1 := by omega
        rcases this with rfl | rfl <;> simp [nv]
    refine st_while ((2 * p + 8) / 6) (inv := fun j => s5 bs false lc1 (2 * p + 8 - 6 * j) (V ++ (nv p lc1).take j)) (lookup_of_mem ?_) (fun j hj B => ?_) (fun j hj => ?_) (st_nil (lookup_of_mem ?_))
    · refine allC rfl (allC rfl (allC ?_ (allC rfl (allC rfl all0))))
      simp only [List.take_zero, List.append_nil]; rfl
    · refine (tr_cmp (b := decide ((6 : Int) ≤ ((2 * p + 8 - 6 * j : Nat) : Int))) (ev_name (d := .int ((2 * p + 8 - 6 * j : Nat) : Int))) ev_int fun A s v₁ v₂ _ _ q₁ q₂ => cmp_ge q₁ q₂).cast' ?_
      apply decide_eq_decide.mpr
      omega
    · have hv := hnv j hj
      refine st_append (d := .int (tabN (lc1 / 2 ^ (2 * p + 8 - 6 * j - 6) % 64))) (ds := sg (V ++ (nv p lc1).take j)) rfl (fun B => ?_) ?_ (by simp [sg, sizeLine]; omega) rfl
      · refine (ev_octet (x := b64L) (k := ((lc1 / 2 ^ (2 * p + 8 - 6 * j - 6) % 64 : Nat) : Int)) (ev_gbytes N.tab) ((ev_and (ev_shr ev_name (ev_sub ev_name ev_int) ?_) ev_int).cast ?_) ?_ ?_ ?_).cast ?_
        · omega
        · congr 1
          have e1 : ((2 * p + 8 - 6 * j : Nat) : Int) - 6 = ((2 * p + 8 - 6 * j - 6 : Nat) : Int) := by omega
          rw [e1, Int.toNat_natCast]
          generalize 2 * p + 8 - 6 * j - 6 = e
          have e2 : Int.fdiv (lc1 : Int) (2 ^ e) = ((lc1 / 2 ^ e : Nat) : Int) := by
            rw [Int.fdiv_eq_ediv_of_nonneg _ (Int.le_of_lt (Int.pow_pos (by decide)))]
            simp
          rw [e2]
          exact band_mask _ 6
        · omega
        · rw [b64_len]; omega
        · rw [b64_len]; decide
        · rw [Int.toNat_natCast, tab_at _ (Nat.mod_lt _ (by decide))]
      · refine st_assign (d := .int ((2 * p + 8 - 6 * (j + 1) : Nat) : Int)) (fun B => (ev_sub ev_name ev_int).cast (by congr 1; omega)) (st_nil (lookup_of_mem ?_)) (.inl rfl)
        refine allC rfl (allC rfl (allC ?_ (allC rfl (allC rfl all0))))
        have e1 : (nv p lc1).take (j + 1) = (nv p lc1).take j ++ [lc1 / 2 ^ (2 * p + 8 - 6 * j - 6) % 64] := by rw [List.take_add_one, hv]; rfl
        simp only [e1, ← List.append_assoc]
        simp only [sg, List.map_append, List.map_cons, List.map_nil]
        rfl
    · refine allC rfl (allC ?_ (allC ?_ (allC rfl (allC rfl all0))))
      · have : 2 * p + 8 - 6 * ((2 * p + 8) / 6) = 2 * ((p + 1) % 3) := by omega
        simp only [this]; rfl
      · simp only [← hnl, List.take_length]; rfl
  · -- behind the octets
    unfold i5
    rw [List.take_length]
    have hlt := nats_lt bs
    obtain ⟨h1, h2, h3, h4, h5⟩ := run_ok _ hlt
    have hlen : (run (nats bs)).1.length ≤ 140000 := by
      have : (nats bs).length = bs.length := by simp [nats]
      omega
    have hfl := fin_len (run (nats bs))
    unfold enc
    generalize hst : run (nats bs) = st at *
    obtain ⟨V, r, p⟩ := st
    simp only at h1 h2 h4 h5 hlen hfl ⊢
    generalize lcf (nats bs) = lc at *
    have hp : p = 0 ∨ p = 1 ∨ p = 2 := by omega
    refine st_if (b := decide (p = 1)) (σ' := [("out", .own ((fin (V, r, p)).map D.int)), ("newline", .v (.bool false))]) (fun B => ?_) (fun hb => ?_) (fun hb => ?_) ?_
    · refine (tr_cmp (b := (((2 * p : Nat) : Int) == 2)) (ev_name (d := .int ((2 * p : Nat) : Int))) ev_int fun A s v₁ v₂ _ _ q₁ q₂ => cmp_eq q₁ q₂).cast' ?_
      rcases hp with rfl | rfl | rfl <;> rfl
    · have e : p = 1 := of_decide_eq_true hb
      subst e
      have hr : r < 4 := by rw [h2]; exact Nat.mod_lt _ (by decide)
      refine st_append (d := .int (tabN (r * 16))) (ds := sg V) rfl (fun B => ?_) ?_ (by simp [sg, sizeLine]; omega) rfl
      · refine (ev_octet (x := b64L) (k := ((r * 16 : Nat) : Int)) (ev_gbytes N.tab) ((ev_shl (a := ((lc % 2 ^ 2 : Nat) : Int)) ((ev_and ev_name ev_int).cast (by congr 1; exact band_mask _ 2)) ev_int (by decide) (by decide) (by omega)).cast ?_) (by omega) (by rw [b64_len]; omega) (by rw [b64_len]; decide)).cast ?_
        · congr 1
          rw [show (2 : Int) ^ (4 : Int).toNat = 16 by decide]
          have : r = lc % 4 := h2
          omega
        · rw [Int.toNat_natCast, tab_at _ (by omega)]
      refine st_append (d := .int 61) rfl (fun B => ev_int) ?_ (by simp [sg, sizeLine]; omega) rfl
      refine st_append (d := .int 61) rfl (fun B => ev_int) ?_ (by simp [sg, sizeLine]; omega) rfl
      refine st_nil (lookup_of_mem (allC ?_ (allC rfl all0)))
      simp only [fin, if_true, sg_eq, List.map_append, List.append_assoc]
      rfl
    · have e : p ≠ 1 := of_decide_eq_false hb
      refine st_if (b := decide (p = 2)) (σ' := [("out", .own ((fin (V, r, p)).map D.int)), ("newline", .v (.bool false))]) (fun B => ?_) (fun hb => ?_) (fun hb => ?_) (st_nil fun _ _ e => e)
      · refine (tr_cmp (b := (((2 * p : Nat) : Int) == 4)) (ev_name (d := .int ((2 * p : Nat) : Int))) ev_int fun A s v₁ v₂ _ _ q₁ q₂ => cmp_eq q₁ q₂).cast' ?_
        rcases hp with rfl | rfl | rfl <;> rfl
      · have e : p = 2 := of_decide_eq_true hb
        subst e
        have hr : r < 16 := by rw [h2]; exact Nat.mod_lt _ (by decide)
        refine st_append (d := .int (tabN (r * 4))) (ds := sg V) rfl (fun B => ?_) ?_ (by simp [sg, sizeLine]; omega) rfl
        · refine (ev_octet (x := b64L) (k := ((r * 4 : Nat) : Int)) (ev_gbytes N.tab) ((ev_shl (a := ((lc % 2 ^ 4 : Nat) : Int)) ((ev_and ev_name ev_int).cast (by congr 1; exact band_mask _ 4)) ev_int (by decide) (by decide) (by omega)).cast ?_) (by omega) (by rw [b64_len]; omega) (by rw [b64_len]; decide)).cast ?_
          · congr 1
            rw [show (2 : Int) ^ (2 : Int).toNat = 4 by decide]
            have : r = lc % 16 := h2
            omega
          · rw [Int.toNat_natCast, tab_at _ (by omega)]
        refine st_append (d := .int 61) rfl (fun B => ev_int) ?_ (by simp [sg, sizeLine]; omega) rfl
        refine st_nil (lookup_of_mem (allC ?_ (allC rfl all0)))
        simp only [fin, if_neg (show ¬ (2 = 1) by decide), if_true, sg_eq, List.map_append, List.append_assoc]
        rfl
      · have e2 : p ≠ 2 := of_decide_eq_false hb
        refine st_nil (lookup_of_mem (allC ?_ (allC rfl all0)))
        simp only [fin, if_neg e, if_neg e2]
        rw [← sg_eq]; rfl
    · refine st_if (b := false) (σ' := [("out", .own ((fin (V, r, p)).map D.int))]) (fun B => tr_bool ev_name) (fun e => nomatch e) (fun _ => st_nil (lookup_of_mem (allC rfl all0))) ?_
      refine st_return fun B => ev_callT (ev_bi N 2 rfl) (ea_cons (R := lst B ((fin (V, r, p)).map D.int)) ev_own ea_nil) (co_bytes (fin_in _) (by simp only [sizeLine]; omega))
end
end Mine

set_option maxRecDepth 100000
namespace Mine
open PySem PyProof.Rows PySem.W

/-- the table of translations -/
def mkT (f t : List UInt8) : List UInt8 := ((f.zip t).foldl (fun (t : Array UInt8) (p : UInt8 × UInt8) => t.setIfInBounds p.1.toNat p.2) ((Array.range 256).map (·.toUInt8))).toList
theorem mkT_len (f t : List UInt8) : (mkT f t).length = 256 := by
  unfold mkT
  have : ∀ (l : List (UInt8 × UInt8)) (a : Array UInt8), (l.foldl (fun (t : Array UInt8) (p : UInt8 × UInt8) => t.setIfInBounds p.1.toNat p.2) a).size = a.size := by
    intro l
    induction l with
    | nil => intro a; rfl
    | cons p r ih => intro a; rw [List.foldl_cons, ih]; simp
  rw [Array.length_toList, this]; simp

theorem fc_mt : findCls [] (.type "bytes") (.type "type") (Str.ofString "maketrans") = some (.val (.builtin "bytes.maketrans")) := by kernel_rfl
theorem ty_bytes : typeOf (.type "bytes") = pure (.type "type") := by first | rfl | kernel_rfl
theorem handed_mt : handedIn (.builtin "bytes.maketrans") = true := by decide +kernel
theorem stub_bytes : Manifest.isStub "bytes" = false := by decide +kernel
theorem in_nil (h : Heap) : Frag.In [] h := fun _ _ e => by cases e
theorem fr_none {h : Heap} {L : Addr} {m : Str → Option Value} (n : h.Ns L m) : Fr ({} : Heap) L h m := ⟨n, fun b o e => by simp [Heap.get?] at e, Nat.zero_le _⟩
theorem plain_mt : plainId "bytes.maketrans" = true := by decide +kernel
theorem entry_mt : entryFor table "bytes.maketrans" = some Builtin.«bytes.maketrans» := entryFor_of_tree (by kernel_rfl)
theorem check_mt (a b : Value) : checkBuiltinCall "bytes.maketrans" ⟨[a, b], []⟩ = pure () := by kernel_rfl
theorem slot_tr : Slot "bytes" "translate" "bytes.translate" :=
  .of (owner := "bytes") (n := "translate") (by rw [typeLookup_type, builtinLookup_eq_fast]; kernel_rfl) (by decide +kernel) (by decide +kernel) (by decide +kernel)
    (by first | exact .inl (by decide +kernel) | exact .inr (by decide +kernel)) (by rw [isSubtype_type]; kernel_rfl)
theorem type_tr : typeOf (.builtin "bytes.translate") = pure (.type "method_descriptor") := by show builtinType _ = _; rw [builtinType_eq_fast]; kernel_rfl
theorem entry_tr : entryFor table "bytes.translate" = some Builtin.«bytes.translate» := entryFor_of_tree (by kernel_rfl)
theorem args_tr (a b : Value) : argsOk "bytes.translate" ⟨[a, b], []⟩ := by unfold argsOk; kernel_rfl

section
variable {prog : Program} {w : World} {mg mb : Str → Option Value} {env : Env} {B : Addr → Prop} {σ : List (Str × Sl)} {n : Nat}

theorem bytesLike_eq {id : String} {b : Array UInt8} {t : Tok} : Builtin.Bytes.bytesLike id (.bytes b t) = pure b := by
  unfold Builtin.Bytes.bytesLike
  rw [KBy.buffer_eq]; rfl

theorem mkBytes_wp {M : Model} {A : Around} {E : Value → Shared → Prop} {s : Shared} {b : Array UInt8} {Q : Value → Shared → Prop} (hz : b.size ≤ sizeLine) (h : Q (.bytes b s.toks) { s with toks := s.toks + 1 }) : wpAny M A (mkBytes b) Q E s := by
  unfold mkBytes
  rw [if_neg (Nat.not_lt.mpr hz)]
  exact fun _ _ _ => h

theorem co_mt {f t : List UInt8} (hl : f.length = t.length) : Co prog w mg mb env B σ n (.builtin "bytes.maketrans") [rep B (.bytes f), rep B (.bytes t)] (rep B (.bytes (mkT f t))) := fun A s vs a rd q => by
  obtain ⟨v, v', rfl, r, r'⟩ := relL2 q
  cases r with | bytes _ tk =>
  cases r' with | bytes _ tk' =>
  refine wpAny_call (codeAny_call_builtin plain_mt entry_mt (wpAny_of_eq (check_mt _ _) ?_))
  show wpAny _ _ (Builtin.Bytes.bytesLike _ (.bytes f.toArray tk) >>= _) _ _ s
  refine wpAny_bind (wpAny_of_eq bytesLike_eq ?_)
  show wpAny _ _ (Builtin.Bytes.bytesLike _ (.bytes t.toArray tk') >>= _) _ _ s
  refine wpAny_bind (wpAny_of_eq bytesLike_eq ?_)
  rw [if_neg (by simp [hl])]
  show wpAny _ _ (mkBytes (mkT f t).toArray >>= _) _ _ s
  refine wpAny_bind (mkBytes_wp ?_ (wpAny_pure ⟨keeps_tok _ _, .bytes _ _⟩))
  rw [List.size_toArray, mkT_len]; decide

/-- what a table makes of octets -/
def trans (T b : List UInt8) : List UInt8 := b.map fun c => T.getD c.toNat c

theorem tr_run {M : Model} {A : Around} {E : Value → Shared → Prop} {s : Shared} {T b : List UInt8} {t u : Tok} {Q : Fin → Shared → Prop} (hT : T.length = 256) (hz : b.length ≤ sizeLine)
    (h : ∀ tk k, Q (.done (.ret (.bytes (trans T b).toArray tk))) { s with toks := k }) : wpAny M A (Builtin.«bytes.translate» ⟨[.bytes b.toArray t, .bytes T.toArray u], []⟩) Q E s := by
  unfold Builtin.«bytes.translate» Builtin.Bytes.translateM
  simp only [List.length_cons, List.length_nil, Nat.zero_add, Nat.add_zero, List.any_nil, List.head?_nil, Option.map_none, Bool.false_eq_true, if_false, bytesLike_eq, pure_bind]
  rw [if_neg (show ¬ (1 > 2) by decide), if_neg (show ¬ ((Value.bytes T.toArray u == Value.none) = true) from Bool.false_ne_true), if_neg (by simp [hT])]
  show wpAny _ _ (Builtin.Bytes.payload (.bytes b.toArray t) >>= _) _ _ s
  refine wpAny_bind (wpAny_of_eq (a := b.toArray) rfl ?_)
  have e1 : Array.map (fun c => T.toArray.getD c.toNat c) (Array.filter (fun x => !(#[] : Array UInt8).contains x) b.toArray) = (trans T b).toArray := by
    have : Array.filter (fun x => !(#[] : Array UInt8).contains x) b.toArray = b.toArray := by simp
    rw [this]; simp [trans]
  rw [e1]
  split
  · rename_i e2
    have e3 := eq_of_beq e2
    refine wpAny_bind (wpAny_rule (wpAny_bind ?_))
    refine wpAny_of_eq (a := .bytes b.toArray t) (by first | rfl | kernel_rfl) (wpAny_pure ?_)
    rw [← e3]
    exact h t s.toks
  · refine wpAny_bind (mkBytes_wp ?_ (wpAny_pure (h _ _)))
    simpa [trans] using hz

/-- b.translate(table) -/
theorem ev_translate {o e : Expr} {ap pos : Pos} {T b : List UInt8} (ho : Ev prog w mg mb env B σ n o (rep B (.bytes b))) (he : Ev prog w mg mb env B σ n e (rep B (.bytes T))) (hT : T.length = 256) (hz : b.length ≤ sizeLine)
    (hbase : attributeBase o "translate" env (eval o env) = eval o env := by rfl) (hline : (ap.endLine == pos.line) = true := by rfl) (htrees : backTo pos (starEach [e] env) = [(false, eval e env)] := by rfl) :
    Ev prog w mg mb env B σ n (.Call (.Attribute o "translate" ap) [e] [] pos) (rep B (.bytes (trans T b))) := fun A s a rd => by
  refine wpAny_Call_method1_late hbase hline htrees (wpAny_mono (ho A s a rd) (fun ov s₁ ⟨k₁, q₁⟩ => ?_) fun _ _ x => x)
  cases q₁ with | bytes _ t =>
  refine ⟨"bytes", "bytes.translate", FB.plainAttrs_bytes, slot_tr, type_tr, typeIs_bytes _ _ _, (fun _ e => nomatch e), ?_⟩
  refine Calls.callWith_builtin rfl (Calls.evalArgs_plain (Calls.spliced_cons (wpAny_mono (he A s₁ a (rd.keeps k₁)) (fun u s₂ ⟨k₂, q₂⟩ => Calls.spliced_nil ?_) fun _ _ x => x)))
  cases q₂ with | bytes _ tu =>
  show wpAny _ _ (call (.builtin "bytes.translate") [.bytes b.toArray t, .bytes T.toArray tu]) _ _ _
  refine wpAny_call_entry slot_tr (typeIs_bytes _ _ _) entry_tr (tr_run hT hz fun tk k => ⟨_, rfl, keeps_trans k₁ (keeps_trans k₂ (keeps_tok _ _)), .bytes _ _⟩) (args_tr _ _)

theorem gm_bytes {A : Around} {E : Value → Shared → Prop} {s : Shared} {L : Addr} {m : Str → Option Value} {pl : Sem Bool} {Q : Value × List Value → Shared → Prop} (hn : s.heap.Ns L m) (h : Q (.builtin "bytes.maketrans", []) { s with toks := s.toks + 1 }) :
    wpAny (model prog w) A (getMethod (.type "bytes") (Str.ofString "maketrans") pl) Q E s :=
  @method_type prog w A E s [] L {} m (Str.ofString "maketrans") (.builtin "bytes.maketrans") "bytes" pl Q (fr_none hn) (in_nil _) ty_bytes stub_bytes fc_mt handed_mt h

/-- bytes.maketrans(a, b) -/
theorem ev_maketrans {o e₁ e₂ : Expr} {ap pos : Pos} {f t : List UInt8} (ho : Ev prog w mg mb env B σ n o (val (.type "bytes"))) (h₁ : Ev prog w mg mb env B σ n e₁ (rep B (.bytes f))) (h₂ : Ev prog w mg mb env B σ n e₂ (rep B (.bytes t))) (hl : f.length = t.length)
    {pl : Sem Bool} (hcall : eval (.Call (.Attribute o "maketrans" ap) [e₁, e₂] [] pos) env = (do let ov ← eval o env; standAt ap.atName; let (f, first) ← holding [ov] (getMethod ov "maketrans" pl); callWith pos f first (backTo pos (starEach [e₁, e₂] env)) (backToKw pos (keywordEach [] env))))
    (he1 : starEach [e₁, e₂] env = (false, eval e₁ env) :: starEach [e₂] env := by rfl) (he2 : starEach [e₂] env = (false, eval e₂ env) :: starEach [] env := by rfl) (hplain : (backTo pos (starEach [e₂] env)).any (·.1) = false := by rfl) :
    Ev prog w mg mb env B σ n (.Call (.Attribute o "maketrans" ap) [e₁, e₂] [] pos) (rep B (.bytes (mkT f t))) := fun A s a rd => by
  refine methodCall_KW (pl := pl) (wpAny_mono (ho A s a rd) (fun ov s₁ ⟨k₁, q₁⟩ => ?_) fun _ _ x => x) hcall
  have e1 : ov = .type "bytes" := q₁
  subst e1
  have rd₁ := rd.keeps k₁
  refine gm_bytes rd₁.glo.g ?_
  have ek : backToKw pos (keywordEach [] env) = [] := by simp only [keywordEach, backToKw, List.map_nil]
  show wpAny _ _ (callWith pos (.builtin "bytes.maketrans") [] (backTo pos (starEach [e₁, e₂] env)) (backToKw pos (keywordEach [] env))) _ _ _
  rw [ek]
  refine callWith_method1 (first := []) (wpAny_mono ((ea_cons h₁ (ea_cons h₂ ea_nil he2) he1) A _ pos a (rd₁.keeps (keeps_tok _ _))) (fun vs s₂ ⟨k₂, q₂⟩ => ?_) fun _ _ x => x) he1 hplain
  exact wpAny_mono (co_mt hl A s₂ vs a ((rd₁.keeps (keeps_tok _ _)).keeps k₂) q₂) (fun _ _ ⟨k, q⟩ => ⟨keeps_trans k₁ (keeps_trans (keeps_tok _ _) (keeps_trans k₂ k)), q⟩) fun _ _ x => x
end
end Mine

set_option maxRecDepth 100000
namespace Mine
open PySem PyProof.Rows PySem.W

section
variable {prog : Program} {w : World} {mg mb : Str → Option Value} {env : Env} {B : Addr → Prop} {σ : List (Str × Sl)} {n : Nat}

/-- f(e, k=v) -/
theorem ev_callKw {func e v : Expr} {pos kp : Pos} {kn : Str} {f : Addr} {R₁ R₂ R : Rel} (hf : Ev prog w mg mb env B σ n func (val (.ref f))) (h₁ : Ev prog w mg mb env B σ n e R₁) (h₂ : Ev prog w mg mb env B σ n v R₂)
    (ho : ∀ s, Rd mg mb env B σ s → ∃ o fd, s.heap.get? f = some o ∧ o.data = .func fd)
    (hc : ∀ A s x y, AOk n A → Rd mg mb env B σ s → R₁.r s.heap x → R₂.r s.heap y → wpAny (model prog w) A (call (.ref f) [x] [(kn, y)]) (fun v s' => Keeps s s' ∧ R.r s'.heap v) Fl s)
    (he : starEach [e] env = (false, eval e env) :: starEach [] env := by rfl)
    (hcall : eval (.Call func [e] [⟨some kn, v, kp⟩] pos) env = (do callWith pos (← eval func env) [] (backTo pos (starEach [e] env)) (backToKw pos (keywordEach [⟨some kn, v, kp⟩] env))) := by rfl) :
    Ev prog w mg mb env B σ n (.Call func [e] [⟨some kn, v, kp⟩] pos) R := fun A s a rd => by
  rw [hcall]
  refine wpAny_bind (wpAny_mono (hf A s a rd) (fun f' s₁ ⟨k₁, q₁⟩ => ?_) fun _ _ x => x)
  have e1 : f' = .ref f := q₁
  subst e1
  obtain ⟨o, fd, ho1, ho2⟩ := ho s₁ (rd.keeps k₁)
  refine callWith_def_kw ho2 (evalArgs_kw2 (by simp only [keywordEach, backToKw, List.map_cons, List.map_nil, List.all_cons, List.all_nil, Option.isSome_some, Bool.and_self]) (wpAny_items_cons (wpAny_mono (h₁ A s₁ a (rd.keeps k₁)) (fun x s₂ ⟨k₂, q₂⟩ => wpAny_items_nil ?_) fun _ _ x => x) he) he)
  refine kwAll_cons (wpAny_mono (h₂ A s₂ a ((rd.keeps k₁).keeps k₂)) (fun y s₃ ⟨k₃, q₃⟩ => kwAll_nil ?_) fun _ _ x => x)
  refine ⟨keeps_heap (keeps_trans k₂ k₃) _ _ ho1, ?_⟩
  have e2 : ((backToKw pos (keywordEach [⟨some kn, v, kp⟩] env)).filterMap (·.1)).zip [y] = [(kn, y)] := by simp only [keywordEach, backToKw, List.map_cons, List.map_nil, List.filterMap_cons, List.filterMap_nil, List.zip_cons_cons, List.zip_nil_left]
  rw [e2]
  exact wpAny_mono (hc A s₃ x y a (((rd.keeps k₁).keeps k₂).keeps k₃) (R₁.st _ (keeps_heap k₃) q₂) q₃) (fun _ _ ⟨k, q⟩ => ⟨keeps_trans k₁ (keeps_trans k₂ (keeps_trans k₃ k)), q⟩) fun _ _ x => x
end

section
variable {prog : Program} {w : World} {mg mb : Str → Option Value} {env : Env} {B : Addr → Prop} {σ : List (Str × Sl)} {n : Nat}

theorem Glo.has {h : Heap} (G : Glo mg mb h) (k : Nat) {name : Str} {i : Nat} {f : Addr} (hp : fnTable[k]? = some (name, i)) (hf : mg name = some (.ref f)) : ∃ o fd, h.get? f = some o ∧ o.data = .func fd := by
  obtain ⟨f', e, F⟩ := G.fn _ (List.mem_of_getElem? hp)
  rw [hf] at e; cases e
  obtain ⟨o, doc, pm, an, cd, ct, h1, h2, h3⟩ := F.get
  exact ⟨o, _, h1, h2⟩
theorem Glo.name {h : Heap} (G : Glo mg mb h) (k : Nat) {name : Str} {i : Nat} (hp : fnTable[k]? = some (name, i)) : ∃ f, mg name = some (.ref f) := by
  obtain ⟨f', e, F⟩ := G.fn _ (List.mem_of_getElem? hp)
  exact ⟨f', e⟩

/-- the writer itself, without a new line -/
theorem call_b2a (N : Nm mg mb) {f : Addr} {bs : List UInt8} (hz : bs.length ≤ 100000) (hf : mg "b2a_base64" = some (.ref f)) {A : Around} {s : Shared} {x y : Value} (a : AOk (n + 2) A) (rd : Rd mg mb env B σ s) (q₁ : (rep B (.bytes bs)).r s.heap x) (q₂ : (rep B (.bool false)).r s.heap y) :
    wpAny (model prog w) A (call (.ref f) [x] [("newline", y)]) (fun v s' => Keeps s s' ∧ (rep B (.bytes (enc bs))).r s'.heap v) Fl s := by
  obtain ⟨f', kV, e, F⟩ := rd.glo.b2a
  rw [hf] at e; cases e
  obtain ⟨fb, hfb⟩ := rd.glo.name 0 rfl
  obtain ⟨ft, hft⟩ := rd.glo.name 1 rfl
  refine call_fn (n := n + 1) (binds := [("data", x), ("newline", y)]) (σ := [("data", .v (.bytes bs)), ("newline", .v (.bool false))]) a rd.glo rd.ex F (fun doc pm an cd ct => .of_eq rfl) (by decide +kernel) (allC rfl (allC rfl all0))
    (look_mem (P := fun z sl => ∃ u, ([("data", x), ("newline", y)] : List (Str × Value)).reverse.lookup z = some u ∧ (defAt 5).2.2.names.lookup z = some .local ∧ SlR s.heap B u sl ∧ ∀ ds, sl ≠ .own ds)
      (allC (a := (_, Sl.v _)) ⟨x, rfl, rfl, q₁, fun _ e => nomatch e⟩ (allC (a := (_, Sl.v _)) ⟨y, rfl, rfl, q₂, fun _ e => nomatch e⟩ all0)))
    fun L q cd => st_b2a N hz hfb hft (fun env B σ s rd => rd.glo.has 0 rfl hfb) (fun env B σ s rd => rd.glo.has 1 rfl hft)

theorem enc_len (bs : List UInt8) : (enc bs).length ≤ 2 * bs.length + 3 := by
  obtain ⟨_, _, _, _, h5⟩ := run_ok _ (nats_lt bs)
  have h1 := fin_len (run (nats bs))
  have h2 : (nats bs).length = bs.length := by simp [nats]
  have h3 : (enc bs).length = (fin (run (nats bs))).length := by simp [enc, octs]
  omega

theorem st_b64 (N : Nm mg mb) {L f : Addr} {q : Str} {cd : Value} {bs : List UInt8} (hz : bs.length ≤ 100000) {fb : Addr} (hfb : mg "b2a_base64" = some (.ref fb)) (hob : ∀ (env : Env) (B : Addr → Prop) σ s, Rd mg mb env B σ s → ∃ o fd, s.heap.get? fb = some o ∧ o.data = .func fd) :
    St prog w mg mb (envC (defAt 7).2.2 L [] q f cd) B (n + 2) [("s", .v (.bytes bs)), ("altchars", .v .none)] (defAt 7).2.1 (PRet B (.bytes (enc bs))) := by
  refine st_assign (d := .bytes (enc bs)) (fun B => ev_callKw (R₁ := rep B (.bytes bs)) (R₂ := rep B (.bool false)) (ev_global hfb) ev_name ev_bool (hob _ _ _) fun A s x y a rd q₁ q₂ => call_b2a N hz hfb a rd q₁ q₂) ?_ (.inl rfl)
  refine st_if (b := false) (σ' := [("encoded", .v (.bytes (enc bs)))]) (fun B => tr_cmp (R₁ := rep B .none) (R₂ := rep B .none) ev_name ev_none fun A s v₁ v₂ _ _ q₁ q₂ => cmp_isntNN q₁ q₂) (fun e => nomatch e) (fun _ => st_nil (lookup_of_mem (allC rfl all0))) ?_
  exact st_return fun B => ev_name
theorem st_b64a (N : Nm mg mb) {L f : Addr} {q : Str} {cd : Value} {bs alt : List UInt8} (hz : bs.length ≤ 100000) (ha : alt.length = 2) {fb : Addr} (hfb : mg "b2a_base64" = some (.ref fb)) (hob : ∀ (env : Env) (B : Addr → Prop) σ s, Rd mg mb env B σ s → ∃ o fd, s.heap.get? fb = some o ∧ o.data = .func fd) :
    St prog w mg mb (envC (defAt 7).2.2 L [] q f cd) B (n + 2) [("s", .v (.bytes bs)), ("altchars", .v (.bytes alt))] (defAt 7).2.1 (PRet B (.bytes (trans (mkT [43, 47] alt) (enc bs)))) := by
  have hl := enc_len bs
  refine st_assign (d := .bytes (enc bs)) (fun B => ev_callKw (R₁ := rep B (.bytes bs)) (R₂ := rep B (.bool false)) (ev_global hfb) ev_name ev_bool (hob _ _ _) fun A s x y a rd q₁ q₂ => call_b2a N hz hfb a rd q₁ q₂) ?_ (.inl rfl)
  refine st_if_ret (fun B => tr_cmp (R₁ := rep B (.bytes alt)) (R₂ := rep B .none) ev_name ev_none fun A s v₁ v₂ _ _ q₁ q₂ => cmp_isntN (d := .bytes alt) (fun e => nomatch e) q₁ q₂) ?_
  refine st_assert (fun B => ?_) ?_
  · refine (tr_cmp (R₁ := rep B (.int alt.length)) (R₂ := rep B (.int 2)) (ev_callB (ev_bi N 0 rfl) (ea_cons (R := rep B (.bytes alt)) ev_name ea_nil) (co_lenB (by omega))) ev_int fun A s v₁ v₂ _ _ q₁ q₂ => cmp_eq q₁ q₂).cast' ?_
    rw [ha]; rfl
  · refine st_return fun B => ev_translate ev_name (ev_maketrans (ev_bi N 2 rfl) ev_bytes ev_name (by rw [ha]; rfl) rfl) (mkT_len _ _) (by simp only [sizeLine]; omega)

theorem co_b64 (N : Nm mg mb) {f : Addr} {bs : List UInt8} (hz : bs.length ≤ 100000) (hf : mg "b64encode" = some (.ref f)) : Co prog w mg mb env B σ (n + 3) (.ref f) [rep B (.bytes bs)] (rep B (.bytes (enc bs))) := fun A s vs a rd q => by
  obtain ⟨v, rfl, r⟩ := relL1 q
  obtain ⟨f', T, o, k, e, F, hT, hd⟩ := rd.glo.b64
  rw [hf] at e; cases e
  obtain ⟨fb, kV, hfb, Fb⟩ := rd.glo.b2a
  refine call_fn (n := n + 2) (binds := [("s", v), ("altchars", .none)]) (σ := [("s", .v (.bytes bs)), ("altchars", .v .none)]) a rd.glo rd.ex F (fun doc pm an cd ct => .of_defaults rfl hT hd rfl rfl) (by decide +kernel) (allC rfl (allC rfl all0))
    (look_mem (P := fun z sl => ∃ u, ([("s", v), ("altchars", .none)] : List (Str × Value)).reverse.lookup z = some u ∧ (defAt 7).2.2.names.lookup z = some .local ∧ SlR s.heap B u sl ∧ ∀ ds, sl ≠ .own ds)
      (allC (a := (_, Sl.v _)) ⟨v, rfl, rfl, r, fun _ e => nomatch e⟩ (allC (a := (_, Sl.v _)) ⟨.none, rfl, rfl, .none, fun _ e => nomatch e⟩ all0)))
    fun L q cd => st_b64 N hz hfb fun env B σ s rd => ?_
  obtain ⟨f2, kV2, e2, F2⟩ := rd.glo.b2a
  rw [hfb] at e2; cases e2
  obtain ⟨o, doc, pm, an, cd, ct, h1, h2, h3⟩ := F2.get
  exact ⟨o, _, h1, h2⟩
theorem co_b64a (N : Nm mg mb) {f : Addr} {bs alt : List UInt8} (hz : bs.length ≤ 100000) (ha : alt.length = 2) (hf : mg "b64encode" = some (.ref f)) : Co prog w mg mb env B σ (n + 3) (.ref f) [rep B (.bytes bs), rep B (.bytes alt)] (rep B (.bytes (trans (mkT [43, 47] alt) (enc bs)))) := fun A s vs a rd q => by
  obtain ⟨v, v', rfl, r, r'⟩ := relL2 q
  obtain ⟨f', T, o, k, e, F, hT, hd⟩ := rd.glo.b64
  rw [hf] at e; cases e
  obtain ⟨fb, kV, hfb, Fb⟩ := rd.glo.b2a
  refine call_fn (n := n + 2) (binds := [("s", v), ("altchars", v')]) (σ := [("s", .v (.bytes bs)), ("altchars", .v (.bytes alt))]) a rd.glo rd.ex F (fun doc pm an cd ct => .of_defaults rfl hT hd rfl rfl) (by decide +kernel) (allC rfl (allC rfl all0))
    (look_mem (P := fun z sl => ∃ u, ([("s", v), ("altchars", v')] : List (Str × Value)).reverse.lookup z = some u ∧ (defAt 7).2.2.names.lookup z = some .local ∧ SlR s.heap B u sl ∧ ∀ ds, sl ≠ .own ds)
      (allC (a := (_, Sl.v _)) ⟨v, rfl, rfl, r, fun _ e => nomatch e⟩ (allC (a := (_, Sl.v _)) ⟨v', rfl, rfl, r', fun _ e => nomatch e⟩ all0)))
    fun L q cd => st_b64a N hz ha hfb fun env B σ s rd => ?_
  obtain ⟨f2, kV2, e2, F2⟩ := rd.glo.b2a
  rw [hfb] at e2; cases e2
  obtain ⟨o, doc, pm, an, cd, ct, h1, h2, h3⟩ := F2.get
  exact ⟨o, _, h1, h2⟩
end
end Mine

set_option maxRecDepth 100000
namespace Mine
open PySem PyProof.Rows PySem.W

section
variable {prog : Program} {w : World} {mg mb : Str → Option Value} {env : Env} {B : Addr → Prop} {σ : List (Str × Sl)} {n : Nat}

theorem mul_wp {A : Around} {E : Value → Shared → Prop} {s : Shared} {l : Addr} {us : List Value} {k : Nat} {x : Int} {u : Tok} {Q : Value → Shared → Prop} (hl : IsL s.heap l us.toArray k) (hx : 0 ≤ x) (hx' : x ≤ 10) (hz : us.length ≤ 100000)
    (h : Q (.ref s.heap.objs.size) { s with heap := s.heap.push { cls := .type "list", data := .seq (List.replicate x.toNat us).flatten.toArray } }) : wpAny (model prog w) A (binaryOp .Mult (.ref l) (.int x u)) Q E s := by
  have hb : us.length * x.toNat ≤ 100000 * 10 := Nat.mul_le_mul hz (by omega)
  have e : (List.foldl (fun x1 x2 => x1 ++ x2) #[] (List.replicate (if us.toArray.isEmpty = true then 0 else x.toNat) us.toArray)) = (List.replicate x.toNat us).flatten.toArray := by
    rw [listMul_foldl]
    cases us with
    | nil => simp
    | cons a r => simp
  rw [← e] at h
  refine wpAny_binaryOp_repeat_ref (T := "list") (U := "int") (by decide) ⟨_, hl, rfl⟩ (fun s' => typeIs_int s' x u) noFill_list_mul PySem.F.fills_int_mul PySem.F.slot_int_rmul repeat_list PySem.F.slot_int_index.lookup ?_
  refine call_meets PySem.F.slot_int_rmul (typeIs_int s x u) PySem.F.entry_int_rmul (PySem.F.args_int_rmul_2 _ _) (int___rmul___int_list x u l us.toArray k) ⟨hl, rfl, ⟨_, hl, rfl⟩, ?_⟩
  refine call_meets PySem.F.slot_list_mul ⟨_, hl, rfl⟩ PySem.F.entry_list_mul (PySem.F.args_list_mul_2 _ _) (AutoListH.list___mul___list_int_3 l us.toArray k x u (by simp [Builtin.List.listFitsIndex]; omega) (by simp; omega) (by simp [Builtin.List.listTooLong, sizeLine]; omega)) ⟨hl, h⟩

theorem RepL.rep {h : Heap} {us : List Value} {ds : List D} (r : RepL h B us ds) : ∀ k, RepL h B (List.replicate k us).flatten (List.replicate k ds).flatten
  | 0 => by simpa using RepL.nil
  | k + 1 => by simpa [List.replicate_succ] using r.append (r.rep k)

theorem ev_mulL {l r : Expr} {pos : Pos} {ds : List D} {k : Int} (h₁ : Ev prog w mg mb env B σ n l (lst B ds)) (h₂ : Ev prog w mg mb env B σ n r (rep B (.int k))) (h0 : 0 ≤ k) (hk : k ≤ 10) (hz : ds.length ≤ 100000) :
    Ev prog w mg mb env B σ n (.BinOp l .Mult r pos) (rep B (.list (List.replicate k.toNat ds).flatten)) :=
  ev_bin h₁ h₂ fun A s v₁ v₂ ha hr ⟨l₁, vs₁, n₁, e₁, i₁, q₁⟩ q₂ => by
    subst e₁
    cases q₂
    exact mul_wp i₁ h0 hk (by rw [q₁.length]; exact hz) (rep_newList hr (q₁.rep _))
end
end Mine

set_option maxRecDepth 100000
namespace Mine
open PySem PyProof.Rows PySem.W

section
variable {prog : Program} {w : World} {mg mb : Str → Option Value} {env : Env} {B0 : Addr → Prop} {n : Nat} {σ : List (Str × Sl)}

/-- the list of an own slot, moved on -/
theorem own_keeps {h h' : Heap} {B : Addr → Prop} {v : Value} {ds : List D} (S : SlR h B v (.own ds)) (k : KS h h') : SlR h' B v (.own ds) := by
  obtain ⟨a, vs, n, e, i, r⟩ := S
  exact ⟨a, vs, n, e, k _ _ i (.inl ⟨_, _, rfl⟩), r.mono (k.kp _) fun _ _ q => q⟩

/-- x, y = [..], e: x is to grow; the stores go backwards -/
theorem st_tup_own {x y : Str} {px py pt pos lp tp : Pos} {k k2 : Nat} {es : List Expr} {e : Expr} {ds : List D} {d : D} {rest : List Stmt} {P : Post} (h₁ : ∀ B, EvA prog w mg mb env B σ n es (ds.map (rep B))) (h₂ : Ex prog w mg mb env n σ e d)
    (h : St prog w mg mb env B0 n ((x, .own ds) :: (y, .v d) :: σ) rest P) (hx : Stores env x) (hy : Stores env y) (hxy : x ≠ y) (hz : ds.length ≤ sizeLine := by decide)
    (hs : swapsWithSole [.Tuple [.Name x px, .Name y py] k pt] (.Tuple [.List es lp, e] k2 tp) pos.line env = pure false := by rfl) (hw : swappedStores [.Tuple [.Name x px, .Name y py] k pt] (.Tuple [.List es lp, e] k2 tp) env = pure (some [x, y]) := by rfl)
    (he1 : starEach [.List es lp, e] env = (false, eval (.List es lp) env) :: starEach [e] env := by rfl) (he2 : starEach [e] env = (false, eval e env) :: starEach [] env := by rfl) :
    St prog w mg mb env B0 n σ (.Assign [.Tuple [.Name x px, .Name y py] k pt] (.Tuple [.List es lp, e] k2 tp) pos :: rest) P := fun A φ s a ⟨B, O⟩ => by
  refine wpAny_execs_cons (Assign_Tuple_swapped (names := [x, y]) (wpAny_Tuple (wpAny_items_cons (wpAny_List (wpAny_mono (h₁ B A s lp a O.rd) (fun vs s₁ ⟨k₁, q₁⟩ => ?_) fun _ _ x => x)) he1)) hs hw)
  have r := relL_rep q₁
  refine ⟨by rw [r.length]; exact hz, ?_⟩
  obtain ⟨O₂, S, g1, g2, g3⟩ := (O.keeps k₁).alloc r
  generalize hB' : (fun b => b = s₁.heap.objs.size ∨ B b) = B' at *
  have hBa : B' s₁.heap.objs.size := by rw [← hB']; exact .inl rfl
  refine wpAny_items_cons (wpAny_mono (h₂ B' A _ a O₂.rd) (fun v₂ s₃ ⟨k₃, q₃⟩ => wpAny_items_nil ⟨by simp [sizeLine], ?_⟩) fun _ _ x => x) he2
  refine unpackItems_tuple (items := #[.ref s₁.heap.objs.size, v₂]) a.1 ⟨_, Heap.get?_push_size _ rfl, rfl, _, rfl⟩ fun h' he => ?_
  have k5 : Keeps s₃ { s₃ with heap := h' } := ⟨h', s₃.toks, rfl, fun b o e => he b o (Nat.ne_of_lt (Heap.lt_size (Heap.get?_push_of_some _ e))) (Heap.get?_push_of_some _ e)⟩
  have k35 := keeps_trans k₃ k5
  have O5 := O₂.keeps k35
  have S5 := S.keeps (keeps_heap k35)
  show wpAny _ _ (assignInOrder [bindName env y, bindName env x] [v₂, .ref s₁.heap.objs.size]) _ _ _
  refine wpAny_bind (wpAny_holding (wpAny_bindName (O5.store (sl := .v d) hy (q₃.keeps (keeps_heap k5)) (fun _ e => nomatch e) (fun _ e => nomatch e) fun s₆ O₆ ks ⟨hS, hSx⟩ => ?_)))
  refine wpAny_bind (wpAny_holding (wpAny_bindName (O₆.store hx (own_keeps S5 ks) (fun es e => ⟨_, rfl, hBa, g1, g2, fun z fs hzx hz => ?_⟩) (fun _ e => nomatch e) fun s₇ O₇ _ _ => ?_)))
  · intro Sz
    rw [List.lookup_cons] at hz
    by_cases q : z = y
    · subst q; simp at hz
    · rw [beq_eq_false_iff_ne.mpr q] at hz
      obtain ⟨u, Su, _⟩ := O₂.rd.var z _ hz
      have e7 := (hS z u q (Su.keeps (keeps_heap k35))).det Sz
      rw [e7] at Su
      exact g3 z fs hz Su
  · exact wpAny_pure (h A φ s₇ a ⟨_, O₇⟩)

/-- x, y = [..], [..]: both are to grow -/
theorem st_tup_own2 {x y : Str} {px py pt pos lp lq tp : Pos} {k k2 : Nat} {es fs : List Expr} {ds ds' : List D} {rest : List Stmt} {P : Post} (h₁ : ∀ B, EvA prog w mg mb env B σ n es (ds.map (rep B))) (h₂ : ∀ B, EvA prog w mg mb env B σ n fs (ds'.map (rep B)))
    (h : St prog w mg mb env B0 n ((y, .own ds') :: (x, .own ds) :: σ) rest P) (hx : Stores env x) (hy : Stores env y) (hxy : x ≠ y) (hz : ds.length ≤ sizeLine := by decide) (hz' : ds'.length ≤ sizeLine := by decide)
    (hs : swapsWithSole [.Tuple [.Name x px, .Name y py] k pt] (.Tuple [.List es lp, .List fs lq] k2 tp) pos.line env = pure false := by rfl) (hw : swappedStores [.Tuple [.Name x px, .Name y py] k pt] (.Tuple [.List es lp, .List fs lq] k2 tp) env = pure none := by rfl)
    (he1 : starEach [.List es lp, .List fs lq] env = (false, eval (.List es lp) env) :: starEach [.List fs lq] env := by rfl) (he2 : starEach [.List fs lq] env = (false, eval (.List fs lq) env) :: starEach [] env := by rfl) :
    St prog w mg mb env B0 n σ (.Assign [.Tuple [.Name x px, .Name y py] k pt] (.Tuple [.List es lp, .List fs lq] k2 tp) pos :: rest) P := fun A φ s a ⟨B, O⟩ => by
  refine wpAny_execs_cons (Assign_Tuple (wpAny_Tuple (wpAny_items_cons (wpAny_List (wpAny_mono (h₁ B A s lp a O.rd) (fun vs s₁ ⟨k₁, q₁⟩ => ?_) fun _ _ x => x)) he1)) hs hw)
  have r := relL_rep q₁
  refine ⟨by rw [r.length]; exact hz, ?_⟩
  obtain ⟨O₂, S, g1, g2, g3⟩ := (O.keeps k₁).alloc r
  generalize hB' : (fun b => b = s₁.heap.objs.size ∨ B b) = B' at *
  have hBa : B' s₁.heap.objs.size := by rw [← hB']; exact .inl rfl
  refine wpAny_items_cons (wpAny_List (wpAny_mono (h₂ B' A _ lq a O₂.rd) (fun us s₃ ⟨k₃, q₃⟩ => ?_) fun _ _ x => x)) he2
  have r3 := relL_rep q₃
  refine ⟨by rw [r3.length]; exact hz', wpAny_items_nil ⟨by simp [sizeLine], ?_⟩⟩
  obtain ⟨O4, S4, f1, f2, f3⟩ := (O₂.keeps k₃).alloc r3
  have hne : s₁.heap.objs.size ≠ s₃.heap.objs.size := by
    obtain ⟨o, e⟩ := (O₂.keeps k₃).rd.ex _ hBa
    exact Nat.ne_of_lt (Heap.lt_size e)
  generalize hB2 : (fun b => b = s₃.heap.objs.size ∨ B' b) = B2 at *
  have hBb : B2 s₃.heap.objs.size := by rw [← hB2]; exact .inl rfl
  have hBa2 : B2 s₁.heap.objs.size := by rw [← hB2]; exact .inr hBa
  have lt2 : ∀ b, b < s₃.heap.objs.size → B2 b → B' b := fun b hb q => by rw [← hB2] at q; exact q.resolve_left (Nat.ne_of_lt hb)
  refine assign_Tuple_tuple (items := #[.ref s₁.heap.objs.size, .ref s₃.heap.objs.size]) a.1 ⟨_, Heap.get?_push_size _ rfl, rfl, _, rfl⟩ rfl rfl fun h' he => ?_
  have k5 : Keeps { s₃ with heap := s₃.heap.push { cls := .type "list", data := .seq us.toArray } } { s₃ with heap := h' } := ⟨h', s₃.toks, rfl, fun b o e => he b o (Nat.ne_of_lt (Heap.lt_size (Heap.get?_push_of_some _ e))) (Heap.get?_push_of_some _ e)⟩
  have O5 := O4.keeps k5
  have S5 : SlR h' B2 (.ref s₁.heap.objs.size) (.own ds) := by
    have t := S.keeps (keeps_heap k₃)
    have t2 : SlR (s₃.heap.push { cls := .type "list", data := .seq us.toArray }) B2 (.ref s₁.heap.objs.size) (.own ds) := t.mono (.of fun _ _ e => Heap.get?_push_of_some _ e) lt2 fun a vs n i => .inl ((Heap.get?_push_of_some _ i).trans i.symm)
    exact t2.keeps (keeps_heap k5)
  have S5' := S4.keeps (keeps_heap k5)
  have lift : ∀ z u, Sees env (s₁.heap.push { cls := .type "list", data := .seq vs.toArray }) z u → Sees env h' z u := fun z u Sz => ((Sz.keeps (keeps_heap k₃)).keeps (keeps_heap (keeps_push s₃ _))).keeps (keeps_heap k5)
  show wpAny _ _ (assignInOrder [assign (.Name x px) env, assign (.Name y py) env] [.ref s₁.heap.objs.size, .ref s₃.heap.objs.size]) _ _ _
  refine wpAny_bind (wpAny_holding (wpAny_assign_Name (O5.store hx S5 (fun es e => ⟨_, rfl, hBa2, g1, g2, fun z fs hzx hz Sz => ?_⟩) (fun _ e => nomatch e) fun s₆ O₆ ks ⟨hS, hSx⟩ => ?_)))
  · obtain ⟨u, Su, _⟩ := O₂.rd.var z _ hz
    have e7 := (lift z u Su).det Sz
    rw [e7] at Su
    exact g3 z fs hz Su
  refine wpAny_bind (wpAny_holding (wpAny_assign_Name (O₆.store hy (own_keeps S5' ks) (fun es e => ⟨_, rfl, hBb, f1, f2, fun z fs hzy hz Sz => ?_⟩) (fun _ e => nomatch e) fun s₇ O₇ _ _ => ?_)))
  · rw [List.lookup_cons] at hz
    by_cases q : z = x
    · subst q
      have e8 := hSx.det Sz
      exact hne (Value.ref.inj e8)
    · rw [beq_eq_false_iff_ne.mpr q] at hz
      obtain ⟨u, Su, _⟩ := O₂.rd.var z _ hz
      have e7 := (hS z u q (lift z u Su)).det Sz
      rw [e7] at Su
      exact f3 z fs hz (((Su.keeps (keeps_heap k₃)).keeps (keeps_heap (keeps_push s₃ _))))
  · exact wpAny_pure (h A φ s₇ a ⟨_, O₇⟩)
end
end Mine

namespace Mine

/-- the texts told so far and the text at hand -/
def tstep (st : List (List Int) × List Int) (x : Int) : List (List Int) × List Int :=
  let text := st.2 ++ (if x < 256 then [x % 256] else []) ++ (if 256 ≤ x then st.1.getD ((x - 256) % st.1.length).toNat [] else [])
  if x = 0 then (st.1 ++ [text.dropLast], []) else (st.1, text)
def textsOf (row : List Int) : List (List Int) × List Int := row.foldl tstep ([[0], [251, 255]], [])
theorem textsOf_snoc (row : List Int) (x : Int) : textsOf (row ++ [x]) = tstep (textsOf row) x := by simp [textsOf]

structure TxOk (row : List Int) : Prop where
  pos : 2 ≤ (textsOf row).1.length
  most : (textsOf row).1.length ≤ row.length + 2
  len : ∀ t ∈ (textsOf row).1, t.length ≤ 2 ^ (row.length + 1)
  cur : (textsOf row).2.length ≤ 2 ^ (row.length + 1)
  oct : ∀ t ∈ (textsOf row).1, ∀ x ∈ t, 0 ≤ x ∧ x < 256
  curo : ∀ x ∈ (textsOf row).2, 0 ≤ x ∧ x < 256

theorem getD_mem_or {α : Type} (l : List α) (i : Nat) (d : α) : l.getD i d ∈ l ∨ l.getD i d = d := by
  rw [List.getD_eq_getElem?_getD]
  cases h : l[i]? with
  | none => exact .inr rfl
  | some a => exact .inl (List.mem_of_getElem? h)

theorem tx_ok : ∀ row : List Int, TxOk row := by
  refine snoc_ind ⟨by decide, by decide, by decide, by decide, by decide, by decide⟩ fun row x ih => ?_
  obtain ⟨h1, h2, h3, h4, h5, h6⟩ := ih
  have e := textsOf_snoc row x
  generalize hs : textsOf row = st at *
  obtain ⟨T, t⟩ := st
  simp only at h1 h2 h3 h4 h5 h6
  unfold tstep at e
  simp only at e
  have told := getD_mem_or T ((x - 256) % T.length).toNat []
  generalize T.getD ((x - 256) % T.length).toNat [] = u at *
  have hu : u.length ≤ 2 ^ (row.length + 1) := by
    rcases told with q | q
    · exact h3 u q
    · rw [q]; simp
  have huo : ∀ y ∈ u, 0 ≤ y ∧ y < 256 := by
    rcases told with q | q
    · exact h5 u q
    · rw [q]; simp
  have hp : 2 ^ (row.length + 1 + 1) = 2 ^ (row.length + 1) + 2 ^ (row.length + 1) := by rw [Nat.pow_succ]; omega
  have hpos : 0 < 2 ^ (row.length + 1) := Nat.pow_pos (by decide)
  have hlen : (row ++ [x]).length = row.length + 1 := by simp
  -- the text at hand, one symbol on
  have key : ∀ v : List Int, v = t ++ (if x < 256 then [x % 256] else []) ++ (if 256 ≤ x then u else []) → v.length ≤ 2 ^ (row.length + 1 + 1) ∧ ∀ y ∈ v, 0 ≤ y ∧ y < 256 := by
    rintro v rfl
    by_cases hx : x < 256
    · have hx' : ¬ 256 ≤ x := by omega
      simp only [hx, hx', if_true, if_false, List.append_nil]
      refine ⟨by rw [List.length_append, List.length_singleton]; omega, fun y hy => ?_⟩
      rcases List.mem_append.mp hy with q | q
      · exact h6 y q
      · rw [List.mem_singleton.mp q]; omega
    · have hx' : 256 ≤ x := by omega
      simp only [hx, hx', if_true, if_false, List.append_nil]
      refine ⟨by rw [List.length_append]; omega, fun y hy => ?_⟩
      rcases List.mem_append.mp hy with q | q
      · exact h6 y q
      · exact huo y q
  generalize hv : t ++ (if x < 256 then [x % 256] else []) ++ (if 256 ≤ x then u else []) = v at *
  obtain ⟨k1, k2⟩ := key v rfl
  by_cases hx : x = 0
  · rw [if_pos hx] at e
    refine ⟨?_, ?_, ?_, ?_, ?_, ?_⟩
    · rw [e]; simp only [List.length_append]; omega
    · rw [e, hlen]; simp only [List.length_append, List.length_singleton]; omega
    · rw [e, hlen]; intro w hw
      rcases List.mem_append.mp hw with q | q
      · have := h3 w q; omega
      · rw [List.mem_singleton.mp q, List.length_dropLast]; omega
    · rw [e]; simp
    · rw [e]; intro w hw
      rcases List.mem_append.mp hw with q | q
      · exact h5 w q
      · rw [List.mem_singleton.mp q]; intro y hy; exact k2 y (List.dropLast_subset _ hy)
    · rw [e]; simp
  · rw [if_neg hx] at e
    refine ⟨?_, ?_, ?_, ?_, ?_, ?_⟩
    · rw [e]; exact h1
    · rw [e, hlen]; simp only; omega
    · rw [e, hlen]; intro w hw; have := h3 w hw; omega
    · rw [e, hlen]; exact k1
    · rw [e]; exact h5
    · rw [e]; exact k2
end Mine

set_option maxRecDepth 100000
namespace Mine
open PySem PyProof.Rows PySem.W

def dI (xs : List Int) : D := .list (xs.map D.int)
def i15 (row : List Int) (i : Nat) : List (Str × Sl) := [("texts", .own ((textsOf (row.take i)).1.map dI)), ("text", .v (dI (textsOf (row.take i)).2)), ("row", .v (dI row))]

theorem rep_if (b : Bool) (ds : List D) : (List.replicate (if b = true then (1 : Int) else 0).toNat ds).flatten = if b = true then ds else [] := by
  cases b <;> simp

section
variable {prog : Program} {w : World} {mg mb : Str → Option Value} {env : Env} {B : Addr → Prop} {σ : List (Str × Sl)} {n : Nat}

theorem Src.cast {target iter : Expr} {N N' : Nat} {Item : Nat → (Addr → Prop) → Heap → Value → Prop} (h : Src prog w mg mb env n σ target iter N Item) (e : N = N') : Src prog w mg mb env n σ target iter N' Item := e ▸ h
/-- an own list handed back -/
theorem st_return_own {x : Str} {px pos : Pos} {ds : List D} {rest : List Stmt} (hx : σ.lookup x = some (.own ds)) (hd : (x == ("__debug__" : Str)) = false := by rfl) (hc : (x == ("__classdict__" : Str)) = false := by rfl) :
    St prog w mg mb env B n σ (.Return (some (.Name x px)) pos :: rest) (PRet B (.list ds)) := fun A φ s a ⟨B', O⟩ => by
  obtain ⟨v, S, l, vs, m, rfl, il, r⟩ := O.rd.var x _ hx
  refine wpAny_execs_cons (wpAny_Return_some (wpAny_Name (loadName_sees O.rd.envOk S hc ?_) hd))
  exact ⟨_, rfl, O.same, O.hold, .list (O.own x ds l hx S).2.1 il (r.less O.sub)⟩

theorem st_texts (N : Nm mg mb) {L f : Addr} {q : Str} {cd : Value} {row : List Int} (hz : row.length ≤ 14) {ft fn fe : Addr} (hft : mg "ISTERMINAL" = some (.ref ft)) (hfn : mg "ISNONTERMINAL" = some (.ref fn)) (hfe : mg "ISEOF" = some (.ref fe)) :
    St prog w mg mb (envC (defAt 15).2.2 L [] q f cd) B (n + 1) [("row", .v (dI row))] (defAt 15).2.1 (PRet B (.list ((textsOf row).1.map dI))) := by
  refine st_tup_own (ds := [dI [0], dI [251, 255]]) (d := dI []) (fun B => ?_) (fun B => ?_) ?_ (.inl rfl) (.inl rfl) (by decide)
  · exact ea_cons (ev_list (ds := [.int 0]) (ea_cons ev_int ea_nil)) (ea_cons (ev_list (ds := [.int 251, .int 255]) (ea_cons ev_int (ea_cons ev_int ea_nil))) ea_nil)
  · exact ev_list (ds := []) ea_nil
  refine st_for (N := row.length) (inv := i15 row) (bnd := fun i => ("x", .v (.int (row.getD i 0))) :: i15 row i) ((src_list (ds := row.map D.int) fun B => ev_name).cast (by simp)) (lookup_of_mem (allC rfl (allC rfl (allC rfl all0)))) (bind_name _ (fun i hi => by simp [hi]) (.inl rfl)) (fun i hi => ?_) ?_
  · have hsn : row.take (i + 1) = row.take i ++ [row.getD i 0] := by
      rw [List.take_add_one]; simp [hi]
    obtain ⟨h1, h2, h3, h4, h5, h6⟩ := tx_ok (row.take i)
    have hl : (row.take i).length = i := by simp; omega
    rw [hl] at h2 h3 h4
    have hp : 2 ^ (i + 1) ≤ 2 ^ 14 := Nat.pow_le_pow_right (by decide) (by omega)
    unfold i15
    rw [hsn, textsOf_snoc]
    generalize row.getD i 0 = x at *
    generalize hs : textsOf (row.take i) = st at *
    obtain ⟨T, t⟩ := st
    simp only at h1 h2 h3 h4 ⊢
    have hk0 : 0 ≤ (x - 256) % (T.length : Int) := Int.emod_nonneg _ (by omega)
    have hk1 : (x - 256) % (T.length : Int) < T.length := Int.emod_lt_of_pos _ (by omega)
    generalize hu : T.getD ((x - 256) % (T.length : Int)).toNat [] = u at *
    have hat : T[((x - 256) % (T.length : Int)).toNat]? = some u := by
      have : ((x - 256) % (T.length : Int)).toNat < T.length := by omega
      rw [← hu]; simp [this]
    have hul : u.length ≤ 2 ^ 14 := Nat.le_trans (h3 u (List.mem_of_getElem? hat)) hp
    have htl : t.length ≤ 2 ^ 14 := Nat.le_trans h4 hp
    refine st_assign (d := dI u) (fun B => ?_) ?_ (.inl rfl)
    · refine ev_item (ds := T.map dI) (k := (x - 256) % (T.length : Int)) ev_own ((ev_mod (ev_sub ev_name ev_int) ((ev_callB (ev_bi N 0 rfl) (ea_cons (R := lst B (T.map dI)) ev_own ea_nil) (co_lenL (by simp [sizeLine]; omega))).cast (by simp)) (by omega))) hk0 (by omega) ?_
      rw [List.getElem?_map, hat]; rfl
    have hx1 : (if x < 256 then [x % 256] else ([] : List Int)).length ≤ 1 := by split <;> simp
    have hx2 : (if 256 ≤ x then u else ([] : List Int)).length ≤ 2 ^ 14 := by split <;> simp [hul]
    refine st_assign (d := dI (t ++ (if x < 256 then [x % 256] else []) ++ (if 256 ≤ x then u else []))) (fun B => ?_) ?_ (.inl rfl)
    · refine (ev_cat (a := t.map D.int ++ (if x < 256 then [x % 256] else []).map D.int) (b := (if 256 ≤ x then u else []).map D.int) (ev_lst (ev_cat (a := t.map D.int) (b := (if x < 256 then [x % 256] else []).map D.int) (ev_lst (ev_name (d := dI t))) (ev_lst ?_) ?_)) (ev_lst ?_) ?_).cast ?_
      · refine (ev_mulL (ds := [.int (x % 256)]) (ev_lst (ev_list (ds := [.int (x % 256)]) (ea_cons (ev_mod ev_name ev_int (by decide)) ea_nil))) (ev_callT (ev_bi N 3 rfl) (ea_cons (ev_callF (ev_global hft) (ea_cons (R := rep B (.int x)) ev_name ea_nil) (fun s rd => rd.glo.has 2 rfl hft) (co_isT N hft)) ea_nil) co_intBool) (by split <;> decide) (by split <;> decide) (Nat.le_of_ble_eq_true rfl)).cast ?_
        rw [rep_if]; by_cases hx : x < 256 <;> simp [hx]
      · simp only [List.length_map, sizeLine]; omega
      · refine (ev_mulL (ds := u.map D.int) (ev_lst (ev_name (d := dI u))) (ev_callT (ev_bi N 3 rfl) (ea_cons (ev_callF (ev_global hfn) (ea_cons (R := rep B (.int x)) ev_name ea_nil) (fun s rd => rd.glo.has 3 rfl hfn) (co_isN N hfn)) ea_nil) co_intBool) (by split <;> decide) (by split <;> decide) (by rw [List.length_map]; omega)).cast ?_
        rw [rep_if]; by_cases hx : 256 ≤ x <;> simp [hx]
      · simp only [List.length_append, List.length_map, sizeLine]; omega
      · simp [dI]
    generalize hv : t ++ (if x < 256 then [x % 256] else []) ++ (if 256 ≤ x then u else []) = v at *
    have hvl : v.length ≤ 2 ^ 16 := by rw [← hv]; simp only [List.length_append]; omega
    have hts : tstep (T, t) x = if x = 0 then (T ++ [v.dropLast], []) else (T, v) := by
      unfold tstep; simp only [hu, hv]
    rw [hts]
    refine st_if (b := (x == 0)) (σ' := [("texts", .own ((if x = 0 then (T ++ [v.dropLast], []) else (T, v) : List (List Int) × List Int).1.map dI)), ("text", .v (dI (if x = 0 then (T ++ [v.dropLast], []) else (T, v) : List (List Int) × List Int).2)), ("row", .v (dI row))])
      (fun B => tr_bool (ev_callF (ev_global hfe) (ea_cons (R := rep B (.int x)) ev_name ea_nil) (fun s rd => rd.glo.has 4 rfl hfe) (co_isE N hfe))) (fun hb => ?_) (fun hb => ?_) (st_nil fun _ _ e => e)
    · have hx : x = 0 := eq_of_beq hb
      simp only [hx, if_true]
      refine st_append (d := dI v.dropLast) (ds := T.map dI) rfl (fun B => ?_) ?_ (by simp [sizeLine]; omega) rfl
      · refine (ev_upto (k := 1) (ev_lst (ev_name (d := dI v))) (ev_neg ev_int) (by decide) (by simp only [List.length_map, sizeLine]; omega)).cast ?_
        simp [dI, List.dropLast_eq_take, List.map_take]
      · refine st_assign (d := dI []) (fun B => ev_list (ds := []) ea_nil) (st_nil (lookup_of_mem (allC ?_ (allC rfl (allC rfl all0))))) (.inl rfl)
        rw [List.map_append]; rfl
    · have hx : ¬ x = 0 := by simpa using hb
      simp only [hx, if_false]
      exact st_nil (lookup_of_mem (allC rfl (allC rfl (allC rfl all0))))
  · unfold i15
    rw [List.take_length]
    exact st_return_own rfl

theorem cells15 : ∀ x ∈ (defAt 15).2.2.names, x.2 ≠ .cell := by decide +kernel
theorem loc15 : (defAt 15).2.2.names.lookup (Str.ofString "row") = some .local := by rfl
theorem bind15 (v : Value) (doc pm : Value) (an : Option Addr) (cd ct : Value) : bindArgs (PySem.W.fnOf (Str.ofString "_law_texts") (Str.ofString "_law_texts") (defAt 15).1 (defAt 15).2.1 (defAt 15).2.2 .none .none doc pm an cd ct) ⟨[v], []⟩ = pure [(Str.ofString "row", v)] := by rfl
theorem co_texts (N : Nm mg mb) {f : Addr} {row : List Int} (hz : row.length ≤ 14) (hf : mg "_law_texts" = some (.ref f)) : Co prog w mg mb env B σ (n + 2) (.ref f) [rep B (dI row)] (rep B (.list ((textsOf row).1.map dI))) := fun A s vs a rd q => by
  obtain ⟨ft, hft⟩ := rd.glo.name 2 (name := "ISTERMINAL") (i := 11) rfl
  obtain ⟨fn, hfn⟩ := rd.glo.name 3 (name := "ISNONTERMINAL") (i := 12) rfl
  obtain ⟨fe, hfe⟩ := rd.glo.name 4 (name := "ISEOF") (i := 13) rfl
  have hb : ∀ L q cd, St prog w mg mb (envC (defAt 15).2.2 L [] q f cd) B (n + 1) [("row", .v (dI row))] (defAt 15).2.1 (PRet B (.list ((textsOf row).1.map dI))) := fun L q cd => @st_texts prog w mg mb B n N L f q cd row hz ft fn fe hft hfn hfe
  have C : Co prog w mg mb env B σ (n + 2) (.ref f) [rep B (dI row)] (rep B (.list ((textsOf row).1.map dI))) :=
    co_fn1 (n := n + 1) (i := 15) (p := "row") (d := dI row) (mem_fn 5 rfl) hf bind15 loc15 cells15 hb rfl rfl rfl
  exact C A s vs a rd q
end
end Mine

namespace Mine

def runp (p : Nat) (t : List Nat) : List Nat × Nat × Nat := t.foldl stp ([], 0, p)
theorem runp_zero (t : List Nat) : runp 0 t = run t := rfl

theorem stp_prefix (V W : List Nat) (r q b : Nat) : stp (V ++ W, r, q) b = (V ++ (stp (W, r, q) b).1, (stp (W, r, q) b).2) := by
  unfold stp; simp only
  split
  · simp
  · split <;> simp
theorem fold_prefix (V : List Nat) : ∀ (u : List Nat) (W : List Nat) (r q : Nat), u.foldl stp (V ++ W, r, q) = (V ++ (u.foldl stp (W, r, q)).1, (u.foldl stp (W, r, q)).2)
  | [], _, _, _ => rfl
  | b :: u, W, r, q => by
    rw [List.foldl_cons, List.foldl_cons, stp_prefix]
    exact fold_prefix V u _ _ _

def mulp (q : Nat) : Nat := if q = 1 then 16 else if q = 2 then 4 else 0

/-- what is at hand goes on by a piece that was reckoned from its own phase on -/
def join (st e : List Nat × Nat × Nat) : List Nat × Nat × Nat := if e.1 = [] then st else (st.1 ++ [e.1.headD 0 + st.2.1 * mulp st.2.2] ++ e.1.drop 1, e.2.1, e.2.2)

theorem stp_ne (st : List Nat × Nat × Nat) (b : Nat) : (stp st b).1 ≠ [] := by
  unfold stp; split
  · simp
  · split <;> simp
theorem fold_ne : ∀ (u : List Nat) (st : List Nat × Nat × Nat), st.1 ≠ [] → (u.foldl stp st).1 ≠ []
  | [], _, h => h
  | b :: u, st, h => fold_ne u _ (stp_ne st b)

theorem runp_append (p : Nat) (s u : List Nat) (hq : (runp p s).2.2 < 3) : runp p (s ++ u) = join (runp p s) (runp (runp p s).2.2 u) := by
  unfold runp at *
  rw [List.foldl_append]
  generalize s.foldl stp ([], 0, p) = st at *
  obtain ⟨V, r, q⟩ := st
  simp only at hq ⊢
  cases u with
  | nil => simp [join]
  | cons c u =>
    have hne : ((c :: u).foldl stp ([], 0, q)).1 ≠ [] := fold_ne u _ (stp_ne _ c)
    rw [join, if_neg hne, List.foldl_cons, List.foldl_cons]
    have hq' : q = 0 ∨ q = 1 ∨ q = 2 := by omega
    rcases hq' with rfl | rfl | rfl
    · have e1 : stp (V, r, 0) c = (V ++ [c / 4], c % 4, 1) := by simp [stp]
      have e2 : stp ([], 0, 0) c = ([c / 4] ++ [], c % 4, 1) := by simp [stp]
      rw [e1, e2, show V ++ [c / 4] = (V ++ [c / 4]) ++ [] by simp, fold_prefix, fold_prefix]
      simp [mulp]
    · have e1 : stp (V, r, 1) c = (V ++ [r * 16 + c / 16], c % 16, 2) := by simp [stp]
      have e2 : stp ([], 0, 1) c = ([c / 16] ++ [], c % 16, 2) := by simp [stp]
      rw [e1, e2, show V ++ [r * 16 + c / 16] = (V ++ [r * 16 + c / 16]) ++ [] by simp, fold_prefix, fold_prefix]
      simp [mulp, Nat.add_comm]
    · have e1 : stp (V, r, 2) c = (V ++ [r * 4 + c / 64, c % 64], 0, 0) := by simp [stp]
      have e2 : stp ([], 0, 2) c = ([c / 64] ++ [c % 64], 0, 0) := by simp [stp]
      rw [e1, e2, show V ++ [r * 4 + c / 64, c % 64] = (V ++ [r * 4 + c / 64]) ++ [c % 64] by simp, fold_prefix, fold_prefix]
      simp [mulp, Nat.add_comm]

structure RpOk (p : Nat) (t : List Nat) : Prop where
  ph : (runp p t).2.2 < 3
  rest : (runp p t).2.1 < 4 ^ (runp p t).2.2
  val : ∀ v ∈ (runp p t).1, v < 64
  len : (runp p t).1.length ≤ 2 * t.length

theorem rp_ok (p : Nat) (hp : p < 3) : ∀ t : List Nat, (∀ b ∈ t, b < 256) → RpOk p t := by
  refine snoc_ind (fun _ => ⟨hp, by show 0 < _; exact Nat.pow_pos (by decide), by simp [runp], by simp [runp]⟩) fun t b ih hb => ?_
  have hb' : b < 256 := hb b (by simp)
  obtain ⟨h1, h2, h4, h5⟩ := ih fun x hx => hb x (by simp [hx])
  have e : runp p (t ++ [b]) = stp (runp p t) b := by simp [runp]
  generalize runp p t = st at *
  obtain ⟨V, r, q⟩ := st
  simp only at h1 h2 h4 h5
  have hq : q = 0 ∨ q = 1 ∨ q = 2 := by omega
  rcases hq with rfl | rfl | rfl
  · have e' : runp p (t ++ [b]) = (V ++ [b / 4], b % 4, 1) := by rw [e]; simp [stp]
    refine ⟨by rw [e']; simp only; omega, by rw [e']; simp only; omega, ?_, ?_⟩
    · rw [e']; intro v hv; simp only [List.mem_append, List.mem_singleton] at hv; rcases hv with hv | rfl
      · exact h4 v hv
      · omega
    · rw [e']; simp only [List.length_append, List.length_cons, List.length_nil] at *; omega
  · have e' : runp p (t ++ [b]) = (V ++ [r * 16 + b / 16], b % 16, 2) := by rw [e]; simp [stp]
    refine ⟨by rw [e']; simp only; omega, by rw [e']; simp only; omega, ?_, ?_⟩
    · rw [e']; intro v hv; simp only [List.mem_append, List.mem_singleton] at hv; rcases hv with hv | rfl
      · exact h4 v hv
      · omega
    · rw [e']; simp only [List.length_append, List.length_cons, List.length_nil] at *; omega
  · have e' : runp p (t ++ [b]) = (V ++ [r * 4 + b / 64, b % 64], 0, 0) := by rw [e]; simp [stp]
    refine ⟨by rw [e']; simp only; omega, by rw [e']; simp only; omega, ?_, ?_⟩
    · rw [e']; intro v hv; simp only [List.mem_append, List.mem_cons, List.not_mem_nil, or_false] at hv; rcases hv with hv | rfl | rfl
      · exact h4 v hv
      · omega
      · omega
    · rw [e']; simp only [List.length_append, List.length_cons, List.length_nil] at *; omega

/-- what a symbol stands for -/
def sym (T : List (List Nat)) (x : Nat) : List Nat := if x < 256 then [x] else T.getD ((x - 256) % T.length) []
def cat (T : List (List Nat)) (xs : List Nat) : List Nat := (xs.map (sym T)).flatten
theorem cat_snoc (T : List (List Nat)) (xs : List Nat) (x : Nat) : cat T (xs ++ [x]) = cat T xs ++ sym T x := by simp [cat]

theorem sym_octet (T : List (List Nat)) (x : Nat) (hT : ∀ t ∈ T, ∀ b ∈ t, b < 256) : ∀ b ∈ sym T x, b < 256 := by
  intro b hb
  unfold sym at hb
  split at hb
  · rw [List.mem_singleton.mp hb]; assumption
  · rcases getD_mem_or T ((x - 256) % T.length) [] with q | q
    · exact hT _ q b hb
    · rw [q] at hb; cases hb
theorem cat_octet (T : List (List Nat)) (xs : List Nat) (hT : ∀ t ∈ T, ∀ b ∈ t, b < 256) : ∀ b ∈ cat T xs, b < 256 := by
  intro b hb
  obtain ⟨l, hl, hb⟩ := List.mem_flatten.mp hb
  obtain ⟨x, _, rfl⟩ := List.mem_map.mp hl
  exact sym_octet T x hT b hb

theorem sym_len {T : List (List Nat)} {M : Nat} (hM : 1 ≤ M) (x : Nat) (hT : ∀ t ∈ T, t.length ≤ M) : (sym T x).length ≤ M := by
  unfold sym
  by_cases h : x < 256
  · rw [if_pos h]; exact hM
  · rw [if_neg h]
    rcases getD_mem_or T ((x - 256) % T.length) [] with q | q
    · exact hT _ q
    · rw [q]; exact Nat.zero_le _
theorem cat_len {T : List (List Nat)} {M : Nat} (hM : 1 ≤ M) (xs : List Nat) (hT : ∀ t ∈ T, t.length ≤ M) : (cat T xs).length ≤ xs.length * M := by
  induction xs with
  | nil => simp [cat]
  | cons x r ih =>
    have := sym_len hM x hT
    have e : (cat T (x :: r)).length = (sym T x).length + (cat T r).length := by simp [cat]
    rw [e, List.length_cons, Nat.add_mul]
    omega

/-- the values of one octet, from each phase -/
theorem runp_octet (x p : Nat) (hp : p < 3) : runp p [x] = if p = 0 then ([x / 64 * 16 + x % 64 / 4], x % 64 % 4, 1) else if p = 1 then ([x / 64 * 4 + x % 64 / 16], x % 64 % 16, 2) else ([x / 64, x % 64], 0, 0) := by
  have hq : p = 0 ∨ p = 1 ∨ p = 2 := by omega
  rcases hq with rfl | rfl | rfl
  · simp [runp, stp]; omega
  · simp [runp, stp]; omega
  · simp [runp, stp]
end Mine

set_option maxRecDepth 100000
namespace Mine
open PySem PyProof.Rows PySem.W

def nI (V : List Nat) : List Int := V.map fun (v : Nat) => (v : Int)
def dN (V : List Nat) : D := dI (nI V)
def ptD (e : List Nat × Nat × Nat) : D := .tuple [dN e.1, .int e.2.1, .int e.2.2]
def partD (t : List Nat) : D := .list [ptD (runp 0 t), ptD (runp 1 t), ptD (runp 2 t)]
def symD (x : Nat) : D := .tuple [.int (x / 64 : Nat), .int (x % 64 : Nat)]
def s16 (T : List (List Nat)) (xs : List Nat) (st : List Nat × Nat × Nat) : List (Str × Sl) :=
  [("values", .v (dN st.1)), ("rest", .v (.int st.2.1)), ("phase", .v (.int st.2.2)), ("parts", .bor (T.map partD)), ("row", .bor (xs.map symD))]

theorem partD_at (t : List Nat) (p : Nat) (hp : p < 3) : [ptD (runp 0 t), ptD (runp 1 t), ptD (runp 2 t)][((p : Nat) : Int).toNat]? = some (ptD (runp p t)) := by
  have hq : p = 0 ∨ p = 1 ∨ p = 2 := by omega
  rcases hq with rfl | rfl | rfl <;> rfl

section
variable {prog : Program} {w : World} {mg mb : Str → Option Value} {env : Env} {B : Addr → Prop} {σ : List (Str × Sl)} {n : Nat}

set_option maxHeartbeats 4000000 in
theorem st_part (N : Nm mg mb) {L f : Addr} {q : Str} {cd : Value} {T : List (List Nat)} {xs : List Nat} {p : Nat} (hp : p < 3) (hx : xs.length ≤ 14) (hT : ∀ t ∈ T, t.length ≤ 32768) (hTo : ∀ t ∈ T, ∀ b ∈ t, b < 256) (hTl : T.length ≤ 100) (hTn : ∀ x ∈ xs, 256 ≤ x → T ≠ []) (hxs : ∀ x ∈ xs, x < 4096) :
    St prog w mg mb (envC (defAt 16).2.2 L [] q f cd) B (n + 1) [("parts", .bor (T.map partD)), ("row", .bor (xs.map symD)), ("phase", .v (.int p))] (defAt 16).2.1 (PRet B (ptD (runp p (cat T xs)))) := by
  refine st_tup2s (d₁ := dN []) (d₂ := .int 0) (fun B => ev_tuple (ds := [dN [], .int 0]) (ea_cons (ev_list (ds := []) ea_nil) (ea_cons ev_int ea_nil))) ?_ (.inl rfl) (.inl rfl)
  refine st_for (N := xs.length) (inv := fun i => s16 T xs (runp p (cat T (xs.take i)))) (bnd := fun i => ("b", .v (.int (xs.getD i 0 % 64 : Nat))) :: ("a", .v (.int (xs.getD i 0 / 64 : Nat))) :: s16 T xs (runp p (cat T (xs.take i))))
    (((src_bor (ds := xs.map symD) rfl).cast (by simp)).mono (Item' := ItemT fun i => [.int (xs.getD i 0 / 64 : Nat), .int (xs.getD i 0 % 64 : Nat)]) fun i B h v hi q => itemT_of (by simp [hi, symD]) q)
    (lookup_of_mem (allC rfl (allC rfl (allC rfl (allC rfl (allC rfl all0)))))) (bind_tup2 _ _ (fun i hi => rfl) (.inl rfl) (.inl rfl)) (fun i hi => ?_) ?_
  · have hmem : xs.getD i 0 ∈ xs := by simp [hi]
    have hsn : xs.take (i + 1) = xs.take i ++ [xs.getD i 0] := by rw [List.take_add_one]; simp [hi]
    have hx4 := hxs _ hmem
    have hTn' := hTn _ hmem
    rw [hsn, cat_snoc]
    obtain ⟨h1, h2, h3, h4⟩ := rp_ok p hp (cat T (xs.take i)) (cat_octet T _ hTo)
    rw [runp_append p _ _ h1]
    have hcl : (cat T (xs.take i)).length ≤ 14 * 32768 := by
      have h9 := cat_len (M := 32768) (by decide) (xs.take i) hT
      have h8 : (xs.take i).length ≤ 14 := by simp; omega
      exact Nat.le_trans h9 (Nat.mul_le_mul_right _ h8)
    generalize xs.getD i 0 = x at *
    have hso := sym_octet T x hTo
    have hsl : (sym T x).length ≤ 32768 := sym_len (by decide) x hT
    generalize hst : runp p (cat T (xs.take i)) = st at *
    obtain ⟨V, r, ph⟩ := st
    simp only at h1 h2 h3 h4 ⊢
    obtain ⟨g1, g2, g3, g4⟩ := rp_ok ph h1 (sym T x) hso
    have hr64 : r < 16 := by
      have hq : ph = 0 ∨ ph = 1 ∨ ph = 2 := by omega
      rcases hq with rfl | rfl | rfl <;> omega
    refine st_if (b := decide (((x / 64 : Nat) : Int) < 4)) (σ' := ("behind", .v (.int (runp ph (sym T x)).2.2)) :: ("left", .v (.int (runp ph (sym T x)).2.1)) :: ("more", .v (dN (runp ph (sym T x)).1)) :: s16 T xs (V, r, ph))
      (fun B => tr_cmp (R₁ := rep B (.int (x / 64 : Nat))) (R₂ := rep B (.int 4)) ev_name ev_int fun A s v₁ v₂ _ _ q₁ q₂ => cmp_lt q₁ q₂) (fun hb => ?_) (fun hb => ?_) ?_
    · have hb' := of_decide_eq_true hb
      have hxl : x < 256 := by omega
      have es : sym T x = [x] := by simp [sym, hxl]
      rw [es]
      refine st_tup3 (d₁ := dN (runp ph [x]).1) (d₂ := .int (runp ph [x]).2.1) (d₃ := .int (runp ph [x]).2.2) (fun B => ?_) (st_nil (lookup_of_mem (allC rfl (allC rfl (allC rfl (allC rfl (allC rfl (allC rfl (allC rfl (allC rfl all0)))))))))) (.inl rfl) (.inl rfl) (.inl rfl)
      refine ev_item (ds := [ptD (runp 0 [x]), ptD (runp 1 [x]), ptD (runp 2 [x])]) (k := (ph : Int)) (ev_lst (ev_list (ds := [ptD (runp 0 [x]), ptD (runp 1 [x]), ptD (runp 2 [x])]) (ea_cons ?_ (ea_cons ?_ (ea_cons ?_ ea_nil))))) (ev_name (d := .int (ph : Int))) (by omega) (by omega) (partD_at [x] ph h1)
      · rw [runp_octet x 0 (by decide)]
        refine ev_tuple (ds := [dN [x / 64 * 16 + x % 64 / 4], .int ((x % 64 % 4 : Nat) : Int), .int ((1 : Nat) : Int)]) (ea_cons (ev_list (ds := [.int ((x / 64 * 16 + x % 64 / 4 : Nat) : Int)]) (ea_cons ((ev_add (ev_mul (ev_name (d := .int (x / 64 : Nat))) ev_int (.of_right (by decide))) (ev_div (ev_name (d := .int (x % 64 : Nat))) ev_int (by decide) (by decide))).cast (by congr 1)) ea_nil)) (ea_cons ((ev_mod (ev_name (d := .int (x % 64 : Nat))) ev_int (by decide)).cast (by congr 1)) (ea_cons ev_int ea_nil)))
      · rw [runp_octet x 1 (by decide)]
        refine ev_tuple (ds := [dN [x / 64 * 4 + x % 64 / 16], .int ((x % 64 % 16 : Nat) : Int), .int ((2 : Nat) : Int)]) (ea_cons (ev_list (ds := [.int ((x / 64 * 4 + x % 64 / 16 : Nat) : Int)]) (ea_cons ((ev_add (ev_mul (ev_name (d := .int (x / 64 : Nat))) ev_int (.of_right (by decide))) (ev_div (ev_name (d := .int (x % 64 : Nat))) ev_int (by decide) (by decide))).cast (by congr 1)) ea_nil)) (ea_cons ((ev_mod (ev_name (d := .int (x % 64 : Nat))) ev_int (by decide)).cast (by congr 1)) (ea_cons ev_int ea_nil)))
      · rw [runp_octet x 2 (by decide)]
        refine ev_tuple (ds := [dN [x / 64, x % 64], .int ((0 : Nat) : Int), .int ((0 : Nat) : Int)]) (ea_cons (ev_list (ds := [.int ((x / 64 : Nat) : Int), .int ((x % 64 : Nat) : Int)]) (ea_cons ev_name (ea_cons ev_name ea_nil))) (ea_cons ev_int (ea_cons ev_int ea_nil)))
    · have hb' := of_decide_eq_false hb
      have hxl : ¬ x < 256 := by omega
      have hne := hTn' (by omega)
      have hpos : 0 < T.length := List.length_pos_iff.mpr hne
      have hlt : (x - 256) % T.length < T.length := Nat.mod_lt _ hpos
      obtain ⟨t, ht⟩ : ∃ t, T[(x - 256) % T.length]? = some t := ⟨T[(x - 256) % T.length], by simp [hlt]⟩
      have es : sym T x = t := by simp only [sym, hxl, if_false, List.getD_eq_getElem?_getD, ht, Option.getD_some]
      rw [es]
      refine st_tup3 (d₁ := dN (runp ph t).1) (d₂ := .int (runp ph t).2.1) (d₃ := .int (runp ph t).2.2) (fun B => ?_) (st_nil (lookup_of_mem (allC rfl (allC rfl (allC rfl (allC rfl (allC rfl (allC rfl (allC rfl (allC rfl all0)))))))))) (.inl rfl) (.inl rfl) (.inl rfl)
      refine ev_item (ds := [ptD (runp 0 t), ptD (runp 1 t), ptD (runp 2 t)]) (k := (ph : Int)) (ev_lst ?_) (ev_name (d := .int (ph : Int))) (by omega) (by omega) (partD_at t ph h1)
      refine ev_item (ds := T.map partD) (k := (((x - 256) % T.length : Nat) : Int)) ev_bor ((ev_mod (ev_sub (ev_add (ev_mul (ev_name (d := .int (x / 64 : Nat))) ev_int (.of_right (by decide))) (ev_name (d := .int (x % 64 : Nat)))) ev_int) ((ev_callB (ev_bi N 0 rfl) (ea_cons (R := lst B (T.map partD)) ev_bor ea_nil) (co_lenL (by simp [sizeLine]; omega))).cast (by rw [List.length_map])) (by omega)).cast ?_) (by omega) (by omega) ?_
      · congr 1
        have : ((x / 64 : Nat) : Int) * 64 + ((x % 64 : Nat) : Int) - 256 = ((x - 256 : Nat) : Int) := by omega
        rw [this]; omega
      · rw [Int.toNat_natCast, List.getElem?_map, ht]; rfl
    · generalize hE : runp ph (sym T x) = E at *
      obtain ⟨W, l, q2⟩ := E
      simp only at g1 g2 g3 g4 ⊢
      refine st_if (b := !decide (nI W = [])) (σ' := s16 T xs (join (V, r, ph) (W, l, q2))) (fun B => tr_cmp (R₁ := lst B ((nI W).map D.int)) (R₂ := lst B (([] : List Int).map D.int)) (ev_lst (ev_name (d := dN W))) (ev_lst (ev_list (ds := []) ea_nil)) fun A s v₁ v₂ a _ q₁ q₂ => cmp_neL a q₁ q₂) (fun hb => ?_) (fun hb => ?_) (st_nil fun _ _ e => e)
      · have hW : W ≠ [] := by
          rintro rfl
          simp [nI] at hb
        obtain ⟨w0, W', rfl⟩ : ∃ w0 W', W = w0 :: W' := by
          cases W with
          | nil => exact absurd rfl hW
          | cons a b => exact ⟨a, b, rfl⟩
        have ej : join (V, r, ph) (w0 :: W', l, q2) = (V ++ [w0 + r * mulp ph] ++ W', l, q2) := by simp [join]
        rw [ej]
        have hWl : W'.length ≤ 2 * 32768 := by simp only [List.length_cons] at g4; omega
        refine st_assign (d := dN (V ++ [w0 + r * mulp ph] ++ W')) (fun B => ?_) ?_ (.inl rfl)
        · refine (ev_cat (a := (nI V).map D.int ++ [.int ((w0 + r * mulp ph : Nat) : Int)]) (b := (nI W').map D.int) (ev_lst (ev_cat (a := (nI V).map D.int) (b := [.int ((w0 + r * mulp ph : Nat) : Int)]) (ev_lst (ev_name (d := dN V))) (ev_lst (ev_list (ds := [.int ((w0 + r * mulp ph : Nat) : Int)]) (ea_cons ?_ ea_nil))) ?_)) (ev_lst ?_) ?_).cast ?_
          · refine (ev_add (a := ((w0 : Nat) : Int)) (b := ((r * mulp ph : Nat) : Int)) (ev_item (ds := (nI (w0 :: W')).map D.int) (k := 0) (ev_lst (ev_name (d := dN (w0 :: W')))) ev_int (by decide) (by decide) rfl) ((ev_mul (a := ((r : Nat) : Int)) (b := ((mulp ph : Nat) : Int)) ev_name (ev_item (ds := [.int 0, .int 16, .int 4]) (k := (ph : Int)) (ev_lst (ev_list (ds := [.int 0, .int 16, .int 4]) (ea_cons ev_int (ea_cons ev_int (ea_cons ev_int ea_nil))))) (ev_name (d := .int (ph : Int))) (by omega) (by omega) ?_) ?_).cast ?_)).cast ?_
            · have hq : ph = 0 ∨ ph = 1 ∨ ph = 2 := by omega
              rcases hq with rfl | rfl | rfl <;> rfl
            · have hq : ph = 0 ∨ ph = 1 ∨ ph = 2 := by omega
              rcases hq with rfl | rfl | rfl <;> exact .of_right (by decide)
            · congr 1
            · congr 1
          · simp only [List.length_map, nI, List.length_singleton, sizeLine]; omega
          · exact (ev_from (k := 1) (ev_lst (ev_name (d := dN (w0 :: W')))) ev_int (by simp only [List.length_map, nI, List.length_cons, sizeLine]; omega)).cast (by simp [nI])
          · simp only [List.length_append, List.length_map, nI, List.length_singleton, sizeLine]; omega
          · simp [dN, dI, nI]
        · exact st_tup2s (d₁ := .int (l : Int)) (d₂ := .int (q2 : Int)) (fun B => ev_tuple (ds := [.int (l : Int), .int (q2 : Int)]) (ea_cons ev_name (ea_cons ev_name ea_nil))) (st_nil (lookup_of_mem (allC rfl (allC rfl (allC rfl (allC rfl (allC rfl all0))))))) (.inl rfl) (.inl rfl)
      · have hW : W = [] := by
          cases W with
          | nil => rfl
          | cons a b => simp [nI] at hb
        have ej : join (V, r, ph) (W, l, q2) = (V, r, ph) := by simp [join, hW]
        rw [ej]
        exact st_nil (lookup_of_mem (allC rfl (allC rfl (allC rfl (allC rfl (allC rfl all0))))))
  · rw [List.take_length]
    exact st_return fun B => ev_tuple (ds := [dN (runp p (cat T xs)).1, .int (runp p (cat T xs)).2.1, .int (runp p (cat T xs)).2.2]) (ea_cons ev_name (ea_cons ev_name (ea_cons ev_name ea_nil)))
end
end Mine

set_option maxRecDepth 100000
namespace Mine
open PySem PyProof.Rows PySem.W

section
variable {prog : Program} {w : World} {mg mb : Str → Option Value} {env : Env} {n : Nat} {σ : List (Str × Sl)}

/-- the names that a comprehension's block takes from the frame around it -/
def Frees (env : Env) (scope : Scope) (cl : List (Str × Addr)) (σ σf : List (Str × Sl)) : Prop :=
  ∀ y sl, σf.lookup y = some sl → σ.lookup y = some sl ∧ (env.kindOf y = some .cell ∨ env.kindOf y = some .free) ∧ (∀ C, (compEnvC scope cl C env).kindOf y = some .cell ∨ (compEnvC scope cl C env).kindOf y = some .free) ∧ cl.lookup y = env.cells.lookup y

theorem Sees.cell {h : Heap} {y : Str} {v : Value} (S : Sees env h y v) (hk : env.kindOf y = some .cell ∨ env.kindOf y = some .free) : ∃ c, env.cells.lookup y = some c ∧ h.IsCell c (some v) := by
  rcases S with ⟨k, _⟩ | ⟨_, c, l, i⟩
  · rw [k] at hk; rcases hk with hk | hk <;> cases hk
  · exact ⟨c, l, i⟩

theorem comp_core {A : Around} {B : Addr → Prop} {scope : Scope} {cl : List (Str × Addr)} {elt iter : Expr} {x : Str} {px pos : Pos} {s s₂ : Shared} {it : Value} {N : Nat} {ds : List D} {d d' : Nat → D} {σf : List (Str × Sl)} {RR : Value → Addr → Result → Shared → Prop} {K : Addr → Prop}
    (a : AOk n A) (rd : Rd mg mb env B σ s) (k : Keeps s s₂) (hK : ∀ b, K b → ∃ o, s₂.heap.get? b = some o) (hit : IterOk prog w A (.Name x px) B K s s₂ it N (ItemN ds)) (hd : ∀ i, i < N → ds[i]? = some (d i))
    (hkind : scope.kind = .function) (hcell : ∀ y ∈ scope.names, y.2 ≠ .cell) (hx : scope.names.lookup x = some .local) (hf : Frees env scope cl σ σf)
    (helt : ∀ i, i < N → ∀ C B, Ev prog w mg mb (compEnvC scope cl C env) B ((x, .v (d i)) :: σf) n elt (rep B (d' i))) (hz : N ≤ sizeLine)
    (hRR : ∀ D C (s' : Shared) m', Keeps s s' → s.heap.get? C = none → C ≠ D → s'.heap.Ns C m' → Rep s'.heap B (.ref D) (.list ((List.range N).map d')) → RR (.ref D) C (.ok .next) s') :
    wpAny (model prog w) A (newList []) (fun acc s₃ => wpAny (model prog w) A (newFunctionEnv scope env.globals cl [] env.qual none .none (some env)) (fun cenv s₄ =>
      codeAny (model prog w) A (.compStart (.ListComp elt [⟨.Name x px, iter, [], 0⟩] scope pos) 0 it acc { cenv with scope := relabel scope env }) (RR acc cenv.locals) s₄) Fl s₃) Fl s₂ := by
  obtain ⟨I, fp, wr, P, Md, St, rfl, W, hst, hwr, hobj, hobjM, hfp, hself, hitem⟩ := hit
  have rd₂ := rd.keeps k
  have ks := keeps_heap k
  refine wpAny_newObj_type (wpAny_newFunctionEnv hcell (by intro y hy; simp at hy) (fun h₁ hns₁ hsb₁ => ?_) hkind)
  dsimp only at hns₁ hsb₁ ⊢
  have hDg := IsL.new s₂.heap ([] : List Value).toArray
  generalize hH2 : s₂.heap.push { cls := .type "list", dict := none, data := .seq ([] : List Value).toArray } = H2 at hns₁ hsb₁ hDg ⊢
  have hC : H2.objs.size = s₂.heap.objs.size + 1 := by rw [← hH2, Heap.size_push]
  generalize hDe : s₂.heap.objs.size = D at *
  generalize hCe : H2.objs.size = C at *
  have hltC : D < C := by rw [hC]; exact Nat.lt_succ_self _
  have hDC : D ≠ C := Nat.ne_of_lt hltC
  have neD : ∀ b : Addr, b < D → b ≠ D := fun b h => Nat.ne_of_lt h
  have neC : ∀ b : Addr, b < D → b ≠ C := fun b h => Nat.ne_of_lt (Nat.lt_trans h hltC)
  have blw : ∀ b o, s₂.heap.get? b = some o → b < D := fun b o e => by rw [← hDe]; exact Heap.lt_size e
  have wrD : ∀ b ∈ wr, b < D := fun b hb => by obtain ⟨o, e, _⟩ := hobj 0 _ hst b hb; exact blw b o e
  have old : ∀ b o, s₂.heap.get? b = some o → h₁.get? b = some o := fun b o e => hsb₁.extBut b o (neC b (blw b o e)) (Heap.get?_push_of_some _ (hH2 ▸ Heap.get?_push_of_some _ e))
  have hD1 : IsL h₁ D ([] : List Value).toArray 0 := hsb₁.extBut _ _ hDC (Heap.get?_push_of_some _ hDg)
  have fpD : ∀ b ∈ fp, b < D := fun b hb => by
    rcases hfp b hb with q | ⟨o, e, _⟩ | q
    · exact wrD b q
    · exact blw b o e
    · obtain ⟨o, e⟩ := hK b q; exact blw b o e
  have hst₁ : St 0 h₁ := W.frame _ _ _ hst fun b _ o e => old b o e
  have nwr : ∀ b o, s.heap.get? b = some o → b ∉ wr := fun b o e hb => Nat.lt_irrefl _ (Nat.lt_of_lt_of_le (Heap.lt_size e) (hwr b hb))
  let B2 : Addr → Prop := fun b => B b ∨ b = D ∨ b ∈ wr
  -- the loop
  have loop : ∀ s₃ : Shared, s₃ = { s₂ with heap := h₁, toks := s₂.toks + ([] : List (Str × Value)).length } →
      codeAny (model prog w) A (.compLoop (.ListComp elt [⟨.Name x px, iter, [], 0⟩] scope pos) 0 (.ref I) (.ref D) (compEnvC scope cl C env)) (RR (.ref D) C) s₃ := by
    rintro s₃ rfl
    refine codeAny_compLoop_list (fun kk s' => ∃ i ys m mC h tk, s' = { s₂ with heap := h, toks := tk } ∧ kk = N + 1 - i ∧ i ≤ N ∧ St i h ∧ IsL h D ys m ∧ RepL h B2 ys.toList ((List.range i).map d') ∧ h.Ns C mC ∧ ∀ b o, b ∉ wr → s₂.heap.get? b = some o → h.get? b = some o) ?_ (N + 1)
      ⟨0, #[], 0, _, h₁, _, rfl, rfl, Nat.zero_le _, hst₁, hD1, .nil, hns₁, fun b o _ e => old b o e⟩
    rintro kk s' ⟨i, ys, m, mC, h, tk, rfl, rfl, hi, hst', hD', hR', hC', hk'⟩
    by_cases hlt : i < N
    · refine W.item i _ _ _ hlt hst' fun v h₂ tk₂ hMd hk₂ => ?_
      show wpAny _ _ (letOwnedTupleGo (.Name x px) (.ref I) v >>= fun _ => assign (.Name x px) (compEnvC scope cl C env) v) _ _ _
      refine wpAny_bind (W.go i v _ _ _ hMd fun h₃ hP hst₃ hk₃ => ?_)
      have up₃ : ∀ b o, b ∉ wr → h.get? b = some o → h₃.get? b = some o := fun b o hb e => hk₃ b o hb (hk₂ b o hb e)
      have nCw : C ∉ wr := fun hb => neC C (wrD C hb) rfl
      have nDw : D ∉ wr := fun hb => neD D (wrD D hb) rfl
      have hC3 : h₃.Ns C mC := hC'.at' fun o e => up₃ C o nCw e
      refine wpAny_assign_Name (wpAny_storeName_local (lookup_relabel_local hx) hC3 (fun h₄ hns₄ hs₄ => ?_) (by simp [compEnvC, relabel, hkind]))
      have up₄ : ∀ b o, b ∉ wr → b ≠ C → h.get? b = some o → h₄.get? b = some o := fun b o hb hbC e => hs₄.extBut b o hbC (up₃ b o hb e)
      have hst₄ : St (i + 1) h₄ := W.frame _ _ _ hst₃ fun b hb o e => hs₄.extBut b o (neC b (fpD b hb)) e
      have old₄ : ∀ b o, b ∉ wr → s₂.heap.get? b = some o → h₄.get? b = some o := fun b o hb e => up₄ b o hb (neC b (blw b o e)) (hk' b o hb e)
      have olds : ∀ b o, s.heap.get? b = some o → h₄.get? b = some o := fun b o e => old₄ b o (nwr b o e) (ks b o e)
      have hD4 : IsL h₄ D ys m := up₄ D _ nDw hDC hD'
      -- what stood still
      have mv : ∀ a o, s₂.heap.get? a = some o → Seq o → ¬ B a → a ∉ wr → h₄.get? a = some o ∧ ¬ B2 a := fun a o e hs nb nw => ⟨old₄ a o nw e, fun q => by
        rcases q with q | q | q
        · exact nb q
        · exact neD a (blw a o e) q
        · exact nw q⟩
      have mvs : ∀ a o, s.heap.get? a = some o → Seq o → ¬ B a → h₄.get? a = some o ∧ ¬ B2 a := fun a o e hs nb => mv a o (ks a o e) hs nb (nwr a o e)
      obtain ⟨dd, hdd, rv⟩ := hitem i v h₃ B2 hlt hP fun a o e hs nb nw => ⟨up₃ a o nw (hk' a o nw e), (mv a o e hs nb nw).2⟩
      rw [hd i hlt] at hdd
      have edd := Option.some.inj hdd
      subst edd
      have rv4 : Rep h₄ B2 v (d i) := rv.mono (fun a o e q nb => hs₄.extBut a o (by
        rintro rfl
        exact seq_ne_dict hC3 e q) e) fun _ _ q => q
      have rdc : Rd mg mb (compEnvC scope cl C env) B2 ((x, .v (d i)) :: σf) { s₂ with heap := h₄, toks := tk₂ + 1 } := by
        refine ⟨⟨hkind, rd.envOk.globals, rd.envOk.builtins⟩, rd.glo.keeps olds, fun b q => ?_, fun y sl e => ?_⟩
        · rcases q with q | rfl | q
          · obtain ⟨o, e⟩ := rd.ex b q; exact ⟨o, olds b o e⟩
          · exact ⟨_, hD4⟩
          · obtain ⟨o, e, _⟩ := hobj (i + 1) h₄ hst₄ b q; exact ⟨o, e⟩
        · rw [List.lookup_cons] at e
          by_cases q : y = x
          · subst q
            simp at e
            subst e
            exact ⟨v, .inl ⟨lookup_relabel_local hx, _, hns₄, by simp⟩, rv4⟩
          · rw [beq_eq_false_iff_ne.mpr q] at e
            obtain ⟨e1, hk1, hk2, e2⟩ := hf y sl e
            obtain ⟨u, S, r⟩ := rd.var y sl e1
            obtain ⟨c, hc, ic⟩ := S.cell hk1
            refine ⟨u, .inr ⟨hk2 C, c, e2.trans hc, ic.keeps olds⟩, ?_⟩
            cases sl with
            | v d => exact Rep.move mvs r
            | own es => obtain ⟨b, us, m', e3, i3, r3⟩ := r; exact ⟨b, us, m', e3, olds _ _ i3, r3.move mvs⟩
            | bor es => obtain ⟨b, us, m', e3, i3, r3⟩ := r; exact ⟨b, us, m', e3, olds _ _ i3, r3.move mvs⟩
      refine wpAny_mono (helt i hlt C B2 A _ a rdc) (fun y s₅ ⟨k₅, r₅⟩ => ?_) fun _ _ x => x.elim
      obtain ⟨h₅, tk₅, rfl, hk₅⟩ := k₅
      have hysz : ys.size ≤ sizeLine := by
        have := hR'.length
        simp at this; omega
      refine wpAny_list_append_plain (hsz := hysz) ⟨m, hk₅ _ _ hD4⟩ fun h₆ hl₆ hs₆ => ?_
      obtain ⟨m6, hl₆⟩ := hl₆
      have kp6 : ∀ a o, h₅.get? a = some o → Seq o → ¬ B2 a → h₆.get? a = some o ∧ ¬ B2 a := fun a o e _ nb => ⟨hs₆.extBut a o (fun q => nb (.inr (.inl q))) e, nb⟩
      refine ⟨N + 1 - (i + 1), by omega, i + 1, ys.push y, m6, (fun z => if z = x then some v else mC z), h₆, tk₅, rfl, rfl, hlt, ?_, hl₆, ?_, ?_, fun b o hb e => ?_⟩
      · refine W.frame _ _ _ hst₄ fun b hb o e => hs₆.extBut b o (neD b (fpD b hb)) (hk₅ b o e)
      · have r4 : RepL h₅ B2 ys.toList ((List.range i).map d') := by
          refine (hR'.move (h' := h₄) (B' := B2) fun a o e hs nb => ⟨up₄ a o (fun hb => nb (.inr (.inr hb))) ?_ e, nb⟩).keeps hk₅
          rintro rfl
          exact seq_ne_dict hC' e hs
        rw [Array.toList_push, List.range_succ, List.map_append]
        exact (r4.append (.cons r₅ .nil)).move kp6
      · exact (hns₄.keeps hk₅).sameBut hs₆ (Ne.symm hDC)
      · exact hs₆.extBut b o (neD b (blw b o e)) (hk₅ b o (old₄ b o hb e))
    · have hin : i = N := by omega
      subst hin
      refine W.done _ _ _ hst' fun h₂ tk₂ hk₂ => ?_
      have nCw : C ∉ wr := fun hb => neC C (wrD C hb) rfl
      have nDw : D ∉ wr := fun hb => neD D (wrD D hb) rfl
      have fin : Keeps s { s₂ with heap := h₂, toks := tk₂ } := by
        obtain ⟨h0, t0, e0, k0⟩ := k
        refine ⟨h₂, tk₂, by rw [e0], fun b o e => hk₂ b o (nwr b o e) (hk' b o (nwr b o e) (by rw [e0]; exact k0 b o e))⟩
      have sD : s.heap.get? C = none := by
        cases e : s.heap.get? C with
        | none => rfl
        | some o => exact absurd rfl (neC C (blw C o (ks C o e)))
      have nBD : ¬ B D := fun q => by
        obtain ⟨o, e⟩ := rd.ex D q
        exact neD D (blw D o (ks D o e)) rfl
      refine hRR D C _ mC fin sD (Ne.symm hDC) (hC'.at' fun o e => hk₂ _ o nCw e) ?_
      have e9 : ys = ys.toList.toArray := by simp
      refine .list (n := m) nBD (e9 ▸ hk₂ _ _ nDw hD') (hR'.move fun a o e hs nb => ⟨hk₂ a o (fun hb => nb (.inr (.inr hb))) e, fun q => nb (.inl q)⟩)
  exact codeAny_compStart_list (loop _ rfl) (hself 0 _ _ _ hst₁ (loop _ rfl))

/-- [elt for x in iter] -/
theorem ev_comp {B : Addr → Prop} {scope : Scope} {cl : List (Str × Addr)} {elt iter : Expr} {x : Str} {px pos : Pos} {N : Nat} {ds : List D} {d d' : Nat → D} {σf : List (Str × Sl)} (hsrc : Src prog w mg mb env n σ (.Name x px) iter N (ItemN ds)) (hd : ∀ i, i < N → ds[i]? = some (d i))
    (hf : Frees env scope cl σ σf) (helt : ∀ i, i < N → ∀ C B, Ev prog w mg mb (compEnvC scope cl C env) B ((x, .v (d i)) :: σf) n elt (rep B (d' i))) (hz : N ≤ sizeLine)
    (hclos : closureFor scope env = pure cl) (hkind : scope.kind = .function) (hcell : ∀ y ∈ scope.names, y.2 ≠ .cell) (hx : scope.names.lookup x = some .local)
    (hnames : ∀ y ∈ scope.names, y.2 = .local → scope.names.lookup y.1 = some .local) (hs : ∀ x, foldedSetIterable iter env x = pure x := by intro _; rfl) :
    Ev prog w mg mb env B σ n (.ListComp elt [⟨.Name x px, iter, [], 0⟩] scope pos) (rep B (.list ((List.range N).map d'))) := fun A s a rd => by
  rw [eval_ListComp]
  refine wpAny_comprehension_free (use := none) rfl hs hclos hkind hnames (wpAny_mono (hsrc B (fun b => ∃ o, s.heap.get? b = some o) A s a rd (fun y es b hy S => ?_)) (fun xv s₁ h₁ => wpAny_mono h₁ (fun it s₂ h₂ => ?_) fun _ _ e => e) fun _ _ e => e)
  · obtain ⟨v, S', b', us, m, e, il, _⟩ := rd.var y _ hy
    have := S'.det S
    rw [e] at this
    exact ⟨_, (Value.ref.inj this) ▸ il⟩
  · obtain ⟨s', k1, k2, q⟩ := h₂
    refine comp_core (RR := fun acc C => compPost (model prog w) A Fl none _ acc C) a (rd.keeps k1) k2 (fun b ⟨o, e⟩ => ⟨o, keeps_heap (keeps_trans k1 k2) b o e⟩) q hd hkind hcell hx hf helt hz fun D C s₃ m' k3 hC hDC hn r => ?_
    refine ⟨m', hn, fun h' hs' => ⟨?_, ?_⟩⟩
    · obtain ⟨h3, t3, e3, kk3⟩ := k3
      obtain ⟨h1, t1, e1, kk1⟩ := k1
      refine ⟨h', s₃.toks, by rw [e3, e1], fun b o e => hs'.extBut b o ?_ ?_⟩
      · rintro rfl
        have := kk1 _ _ e
        rw [e1] at hC
        rw [show h1.get? _ = _ from this] at hC; cases hC
      · rw [e3]; exact kk3 b o (by rw [e1]; exact kk1 b o e)
    · exact r.mono (fun b o e q _ => hs'.extBut b o (by rintro rfl; exact seq_ne_dict hn e q) e) fun _ _ q => q
end
end Mine

namespace Mine

/-- the texts, told by whole rules -/
def qstep (st : List (List Nat) × List Nat) (x : Nat) : List (List Nat) × List Nat := if x = 0 then (st.1 ++ [cat st.1 st.2], []) else (st.1, st.2 ++ [x])
def qfold (xs : List Nat) : List (List Nat) × List Nat := xs.foldl qstep ([[0], [251, 255]], [])
theorem qfold_snoc (xs : List Nat) (x : Nat) : qfold (xs ++ [x]) = qstep (qfold xs) x := by simp [qfold]

structure QOk (xs : List Nat) : Prop where
  pos : 2 ≤ (qfold xs).1.length
  most : (qfold xs).1.length ≤ xs.length + 2
  row : (qfold xs).2.length ≤ xs.length
  mem : ∀ x ∈ (qfold xs).2, x ∈ xs
  len : ∀ t ∈ (qfold xs).1, t.length ≤ 2 ^ (xs.length + 1)
  cur : (cat (qfold xs).1 (qfold xs).2).length ≤ 2 ^ (xs.length + 1)
  oct : ∀ t ∈ (qfold xs).1, ∀ b ∈ t, b < 256

theorem q_ok : ∀ xs : List Nat, QOk xs := by
  refine snoc_ind ⟨by decide, by decide, by decide, by decide, by decide, by decide, by decide⟩ fun xs x ih => ?_
  obtain ⟨h1, h2, h3, h4, h5, h6, h7⟩ := ih
  have e := qfold_snoc xs x
  generalize hs : qfold xs = st at *
  obtain ⟨T, r⟩ := st
  simp only at h1 h2 h3 h4 h5 h6 h7
  have hp : 2 ^ (xs.length + 1 + 1) = 2 ^ (xs.length + 1) + 2 ^ (xs.length + 1) := by rw [Nat.pow_succ]; omega
  have hpos : 1 ≤ 2 ^ (xs.length + 1) := Nat.one_le_two_pow
  have hlen : (xs ++ [x]).length = xs.length + 1 := by simp
  by_cases hx : x = 0
  · have e' : qfold (xs ++ [x]) = (T ++ [cat T r], []) := by rw [e]; simp [qstep, hx]
    refine ⟨?_, ?_, ?_, ?_, ?_, ?_, ?_⟩
    · rw [e']; simp only [List.length_append]; omega
    · rw [e', hlen]; simp only [List.length_append, List.length_singleton]; omega
    · rw [e', hlen]; simp
    · rw [e']; simp
    · rw [e', hlen]; intro t ht
      rcases List.mem_append.mp ht with q | q
      · have := h5 t q; omega
      · rw [List.mem_singleton.mp q]; omega
    · rw [e', hlen]; simp [cat]
    · rw [e']; intro t ht
      rcases List.mem_append.mp ht with q | q
      · exact h7 t q
      · rw [List.mem_singleton.mp q]; exact cat_octet T r h7
  · have e' : qfold (xs ++ [x]) = (T, r ++ [x]) := by rw [e]; simp [qstep, hx]
    have hs := sym_len hpos x h5
    refine ⟨?_, ?_, ?_, ?_, ?_, ?_, ?_⟩
    · rw [e']; exact h1
    · rw [e', hlen]; simp only; omega
    · rw [e', hlen]; simp only [List.length_append, List.length_singleton]; omega
    · rw [e']; intro y hy
      rcases List.mem_append.mp hy with q | q
      · exact List.mem_append_left _ (h4 y q)
      · exact List.mem_append_right _ q
    · rw [e', hlen]; intro t ht; have := h5 t ht; omega
    · rw [e', hlen]; simp only; rw [cat_snoc, List.length_append]; omega
    · rw [e']; exact h7
end Mine

set_option maxRecDepth 100000
namespace Mine
open PySem PyProof.Rows PySem.W

theorem cells16 : ∀ x ∈ (defAt 16).2.2.names, x.2 ≠ .cell := by decide +kernel
theorem bind16 (a b c : Value) (doc pm : Value) (an : Option Addr) (cd ct : Value) : bindArgs (PySem.W.fnOf (Str.ofString "_law_part") (Str.ofString "_law_part") (defAt 16).1 (defAt 16).2.1 (defAt 16).2.2 .none .none doc pm an cd ct) ⟨[a, b, c], []⟩ = pure [(Str.ofString "parts", a), (Str.ofString "row", b), (Str.ofString "phase", c)] := by rfl

section
variable {prog : Program} {w : World} {mg mb : Str → Option Value} {env : Env} {B : Addr → Prop} {σ : List (Str × Sl)} {n : Nat}

theorem co_part (N : Nm mg mb) {f : Addr} {T : List (List Nat)} {xs : List Nat} {p : Nat} (hp : p < 3) (hx : xs.length ≤ 14) (hT : ∀ t ∈ T, t.length ≤ 32768) (hTo : ∀ t ∈ T, ∀ b ∈ t, b < 256) (hTl : T.length ≤ 100) (hTn : ∀ x ∈ xs, 256 ≤ x → T ≠ []) (hxs : ∀ x ∈ xs, x < 4096)
    (hf : mg "_law_part" = some (.ref f)) : Co prog w mg mb env B σ (n + 2) (.ref f) [lst B (T.map partD), lst B (xs.map symD), rep B (.int p)] (rep B (ptD (runp p (cat T xs)))) := fun A s vs a rd q => by
  obtain ⟨v, v', v'', rfl, r, r', r''⟩ := relL3 q
  obtain ⟨f', e, F⟩ := rd.glo.fn _ (mem_fn 6 rfl)
  rw [hf] at e; cases e
  have hb : ∀ L q cd, St prog w mg mb (envC (defAt 16).2.2 L [] q f cd) B (n + 1) [("parts", .bor (T.map partD)), ("row", .bor (xs.map symD)), ("phase", .v (.int p))] (defAt 16).2.1 (PRet B (ptD (runp p (cat T xs)))) :=
    fun L q cd => @st_part prog w mg mb B n N L f q cd T xs p hp hx hT hTo hTl hTn hxs
  exact call_fn (n := n + 1) (binds := [("parts", v), ("row", v'), ("phase", v'')]) (σ := [("parts", .bor (T.map partD)), ("row", .bor (xs.map symD)), ("phase", .v (.int p))]) a rd.glo rd.ex F (fun doc pm an cd ct => .of_eq (bind16 v v' v'' doc pm an cd ct)) cells16 (allC rfl (allC rfl (allC rfl all0)))
    (look_mem (P := fun z sl => ∃ u, ([("parts", v), ("row", v'), ("phase", v'')] : List (Str × Value)).reverse.lookup z = some u ∧ (defAt 16).2.2.names.lookup z = some .local ∧ SlR s.heap B u sl ∧ ∀ ds, sl ≠ .own ds)
      (allC (a := (_, Sl.bor _)) ⟨v, rfl, rfl, r, fun _ e => nomatch e⟩ (allC (a := (_, Sl.bor _)) ⟨v', rfl, rfl, r', fun _ e => nomatch e⟩ (allC (a := (_, Sl.v _)) ⟨v'', rfl, rfl, r'', fun _ e => nomatch e⟩ all0)))) hb rfl rfl rfl
end
end Mine

set_option maxRecDepth 100000
namespace Mine
open PySem PyProof.Rows PySem.W

theorem bind17 (a : Value) (doc pm : Value) (an : Option Addr) (cd ct : Value) : bindArgs (PySem.W.fnOf (Str.ofString "_law_parts") (Str.ofString "_law_parts") (defAt 17).1 (defAt 17).2.1 (defAt 17).2.2 .none .none doc pm an cd ct) ⟨[a], []⟩ = pure [(Str.ofString "pairs", a)] := by rfl

def aheads : List (List Nat) := [[0], [251, 255]]
def i17 (xs : List Nat) (T : List (List Nat)) (row : List Nat) : List (Str × Sl) := [("parts", .own (T.map partD)), ("row", .own (row.map symD)), ("pairs", .v (.list (xs.map symD)))]

theorem frees_of {env : Env} {scope : Scope} {cl : List (Str × Addr)} {σ σf : List (Str × Sl)} (h : ∀ p ∈ σf, σ.lookup p.1 = some p.2 ∧ (env.kindOf p.1 = some .cell ∨ env.kindOf p.1 = some .free) ∧ (∀ C, (compEnvC scope cl C env).kindOf p.1 = some .cell ∨ (compEnvC scope cl C env).kindOf p.1 = some .free) ∧ cl.lookup p.1 = env.cells.lookup p.1) : Frees env scope cl σ σf :=
  fun y sl e => h (y, sl) (mem_of_lookup e)

section
variable {prog : Program} {w : World} {mg mb : Str → Option Value} {env : Env} {B : Addr → Prop} {σ : List (Str × Sl)} {n : Nat}

set_option maxHeartbeats 4000000 in
theorem st_parts (N : Nm mg mb) {L f : Addr} {q : Str} {cd : Value} {xs : List Nat} (hx : xs.length ≤ 14) (hxs : ∀ x ∈ xs, x < 4096) {fp : Addr} (hfp : mg "_law_part" = some (.ref fp)) :
    St prog w mg mb (envC (defAt 17).2.2 L (cellsFrom (L + 1) (defAt 17).2.2.names []) q f cd) B (n + 2) [("pairs", .v (.list (xs.map symD)))] (defAt 17).2.1 (PRet B (.list ((qfold xs).1.map partD))) := by
  refine st_tup_own2 (ds := []) (ds' := []) (fun B => ea_nil) (fun B => ea_nil) ?_ (.inr ⟨rfl, rfl⟩) (.inr ⟨rfl, rfl⟩) (by decide)
  refine st_for (N := 2) (inv := fun i => i17 xs (aheads.take i) []) (bnd := fun i => ("ahead", .v (.list ((aheads.getD i []).map symD))) :: i17 xs (aheads.take i) [])
    (src_tuple (ds := [.list ([0].map symD), .list ([251, 255].map symD)]) fun B => ev_tuple (ds := [.list ([0].map symD), .list ([251, 255].map symD)]) (ea_cons (ev_list (ds := [0].map symD) (ea_cons (ev_tuple (ds := [.int 0, .int 0]) (ea_cons ev_int (ea_cons ev_int ea_nil))) ea_nil)) (ea_cons (ev_list (ds := [251, 255].map symD) (ea_cons (ev_tuple (ds := [.int 3, .int 59]) (ea_cons ev_int (ea_cons ev_int ea_nil))) (ea_cons (ev_tuple (ds := [.int 3, .int 63]) (ea_cons ev_int (ea_cons ev_int ea_nil))) ea_nil))) ea_nil)))
    (lookup_of_mem (allC rfl (allC rfl (allC rfl all0)))) (bind_name _ (fun i hi => ?_) (.inr ⟨rfl, rfl⟩)) (fun i hi => ?_) ?_
  · have hq : i = 0 ∨ i = 1 := by omega
    rcases hq with rfl | rfl <;> rfl
  · have hah : (aheads.getD i []).length ≤ 14 ∧ (∀ x ∈ aheads.getD i [], x < 256) ∧ cat [] (aheads.getD i []) = aheads.getD i [] ∧ aheads.take (i + 1) = aheads.take i ++ [aheads.getD i []] := by
      have hq : i = 0 ∨ i = 1 := by omega
      rcases hq with rfl | rfl <;> decide
    obtain ⟨ha1, ha2, ha3, ha4⟩ := hah
    rw [ha4]
    generalize aheads.getD i [] = u at *
    have htl : (aheads.take i).length ≤ 2 := by simp [aheads]; omega
    generalize aheads.take i = T at *
    refine st_append (ds := T.map partD) (d := partD u) rfl (fun B => ?_) (st_nil (lookup_of_mem (allC (by rw [List.map_append]; rfl) (allC rfl (allC rfl all0))))) (by simp [sizeLine]; omega) rfl
    refine (ev_comp (N := 3) (ds := (List.range 3).map fun (i : Nat) => D.int (0 + i * 1)) (d := fun j => .int (j : Nat)) (d' := fun j => ptD (runp j u)) (cl := [("ahead", L + 3)]) (σf := [("ahead", .v (.list (u.map symD)))])
      (src_range (fun B => ev_callT (ev_bi N 4 rfl) (ea_cons ev_int ea_nil) co_range1) rfl rfl) (fun j hj => ?_) (frees_of (allC ⟨rfl, .inl rfl, fun C => .inl rfl, rfl⟩ all0)) (fun j hj C B => ?_) (by decide) rfl rfl (by decide +kernel) rfl (by decide +kernel)).cast ?_
    · have hq : j = 0 ∨ j = 1 ∨ j = 2 := by omega
      rcases hq with rfl | rfl | rfl <;> rfl
    · refine Ev.cast (ev_callF (ev_global hfp) (ea_cons (R := lst B (([] : List (List Nat)).map partD)) (ev_lst (ev_list (ds := []) ea_nil)) (ea_cons (R := lst B (u.map symD)) (ev_lst ev_name) (ea_cons (R := rep B (.int j)) ev_name ea_nil))) (fun s rd => rd.glo.has 6 rfl hfp)
        (co_part N (T := []) (xs := u) hj ha1 (by simp) (by simp) (by simp) (fun x hx h => absurd (ha2 x hx) (by omega)) (fun x hx => by have := ha2 x hx; omega) hfp)) ?_
      rw [ha3]
    · rfl
  · refine st_for (N := xs.length) (inv := fun i => i17 xs (qfold (xs.take i)).1 (qfold (xs.take i)).2) (bnd := fun i => ("b", .v (.int (xs.getD i 0 % 64 : Nat))) :: ("a", .v (.int (xs.getD i 0 / 64 : Nat))) :: i17 xs (qfold (xs.take i)).1 (qfold (xs.take i)).2)
      (((src_list (ds := xs.map symD) fun B => ev_name).cast (by simp)).mono (Item' := ItemT fun i => [.int (xs.getD i 0 / 64 : Nat), .int (xs.getD i 0 % 64 : Nat)]) fun i B h v hi q => itemT_of (by simp [hi, symD]) q)
      (lookup_of_mem (allC rfl (allC rfl (allC rfl all0)))) (bind_tup2 _ _ (fun i hi => rfl) (.inl rfl) (.inl rfl)) (fun i hi => ?_) ?_
    · have hmem : xs.getD i 0 ∈ xs := by simp [hi]
      have hsn : xs.take (i + 1) = xs.take i ++ [xs.getD i 0] := by rw [List.take_add_one]; simp [hi]
      have hx4 := hxs _ hmem
      rw [hsn, qfold_snoc]
      obtain ⟨h1, h2, h3, h4, h5, h6, h7⟩ := q_ok (xs.take i)
      have hlt : (xs.take i).length ≤ 13 := by simp; omega
      have hrow : ∀ x ∈ (qfold (xs.take i)).2, x < 4096 := fun x hx => hxs x (List.mem_of_mem_take (h4 x hx))
      generalize xs.getD i 0 = x at *
      have hpw : 2 ^ ((xs.take i).length + 1) ≤ 2 ^ 14 := Nat.pow_le_pow_right (by decide) (by omega)
      generalize hst : qfold (xs.take i) = st at *
      obtain ⟨T, row⟩ := st
      simp only at h1 h2 h3 h4 h5 h6 h7 hrow ⊢
      refine st_if (b := (((x / 64 : Nat) : Int) + ((x % 64 : Nat) : Int) == 0)) (σ' := i17 xs (qstep (T, row) x).1 (qstep (T, row) x).2) (fun B => tr_cmp (R₁ := rep B (.int (((x / 64 : Nat) : Int) + ((x % 64 : Nat) : Int)))) (R₂ := rep B (.int 0)) (ev_add ev_name ev_name) ev_int fun A s v₁ v₂ _ _ q₁ q₂ => cmp_eq q₁ q₂) (fun hb => ?_) (fun hb => ?_) (st_nil fun _ _ e => e)
      · have hx0 : x = 0 := by have := eq_of_beq hb; omega
        have e1 : qstep (T, row) x = (T ++ [cat T row], []) := by simp [qstep, hx0]
        rw [e1]
        refine st_append (ds := T.map partD) (d := partD (cat T row)) rfl (fun B => ?_) (st_own (ds := []) (fun B => ea_nil) (st_nil (lookup_of_mem (allC (by rw [List.map_append]; rfl) (allC rfl (allC rfl all0))))) (.inr ⟨rfl, rfl⟩)) (by simp [sizeLine]; omega) rfl
        refine (ev_comp (N := 3) (ds := (List.range 3).map fun (i : Nat) => D.int (0 + i * 1)) (d := fun j => .int (j : Nat)) (d' := fun j => ptD (runp j (cat T row))) (cl := [("row", L + 2), ("parts", L + 1)]) (σf := [("parts", .own (T.map partD)), ("row", .own (row.map symD))])
          (src_range (fun B => ev_callT (ev_bi N 4 rfl) (ea_cons ev_int ea_nil) co_range1) rfl rfl) (fun j hj => ?_) (frees_of (allC ⟨rfl, .inl rfl, fun C => .inl rfl, rfl⟩ (allC ⟨rfl, .inl rfl, fun C => .inl rfl, rfl⟩ all0))) (fun j hj C B => ?_) (by decide) rfl rfl (by decide +kernel) rfl (by decide +kernel)).cast ?_
        · have hq : j = 0 ∨ j = 1 ∨ j = 2 := by omega
          rcases hq with rfl | rfl | rfl <;> rfl
        · exact ev_callF (ev_global hfp) (ea_cons (R := lst B (T.map partD)) ev_own (ea_cons (R := lst B (row.map symD)) ev_own (ea_cons (R := rep B (.int j)) ev_name ea_nil))) (fun s rd => rd.glo.has 6 rfl hfp)
            (co_part N (T := T) (xs := row) hj (by omega) (fun t ht => by have := h5 t ht; omega) h7 (by omega) (fun _ _ _ e => by subst e; simp at h1) hrow hfp)
        · rfl
      · have hx0 : ¬ x = 0 := by rintro rfl; simp at hb
        have e1 : qstep (T, row) x = (T, row ++ [x]) := by simp [qstep, hx0]
        rw [e1]
        exact st_append (ds := row.map symD) (d := symD x) rfl (fun B => ev_tuple (ds := [.int (x / 64 : Nat), .int (x % 64 : Nat)]) (ea_cons ev_name (ea_cons ev_name ea_nil))) (st_nil (lookup_of_mem (allC rfl (allC (by rw [List.map_append]; rfl) (allC rfl all0))))) (by simp [sizeLine]; omega) rfl
    · rw [List.take_length]
      exact st_return_own rfl

theorem co_parts (N : Nm mg mb) {f : Addr} {xs : List Nat} (hx : xs.length ≤ 14) (hxs : ∀ x ∈ xs, x < 4096) (hf : mg "_law_parts" = some (.ref f)) :
    Co prog w mg mb env B σ (n + 3) (.ref f) [rep B (.list (xs.map symD))] (rep B (.list ((qfold xs).1.map partD))) := fun A s vs a rd q => by
  obtain ⟨v, rfl, r⟩ := relL1 q
  obtain ⟨f', e, F⟩ := rd.glo.fn _ (mem_fn 7 rfl)
  rw [hf] at e; cases e
  obtain ⟨fp, hfp⟩ := rd.glo.name 6 (name := "_law_part") (i := 16) rfl
  have hb : ∀ L q cd, St prog w mg mb (envC (defAt 17).2.2 L (cellsFrom (L + 1) (defAt 17).2.2.names []) q f cd) B (n + 2) [("pairs", .v (.list (xs.map symD)))] (defAt 17).2.1 (PRet B (.list ((qfold xs).1.map partD))) :=
    fun L q cd => @st_parts prog w mg mb B n N L f q cd xs hx hxs fp hfp
  exact call_fnC (n := n + 2) (binds := [("pairs", v)]) (σ := [("pairs", .v (.list (xs.map symD)))]) a rd.glo rd.ex F (fun doc pm an cd ct => bind17 v doc pm an cd ct) (allC rfl all0)
    (look_mem (P := fun z sl => ∃ u, (∀ (kindOf : Str → Option NameKind), kindOf = (fun y => (defAt 17).2.2.names.lookup y) → bindL kindOf [("pairs", v)] (fun _ => none) z = some u) ∧ (defAt 17).2.2.names.lookup z = some .local ∧ SlR s.heap B u sl ∧ ∀ ds, sl ≠ .own ds)
      (allC (a := (_, Sl.v _)) ⟨v, fun k hk => by subst hk; rfl, rfl, r, fun _ e => nomatch e⟩ all0)) hb rfl rfl rfl
end
end Mine

set_option maxRecDepth 100000
namespace Mine
open PySem PyProof.Rows PySem.W

section
variable {prog : Program} {w : World} {mg mb : Str → Option Value} {env : Env} {B : Addr → Prop} {σ : List (Str × Sl)} {n : Nat}

theorem callT_wp {A : Around} {s : Shared} {func e : Expr} {rest : List Expr} {pos : Pos} {T : String} {Rs : List Rel} {Q : Value → Shared → Prop} (a : AOk n A) (rd : Rd mg mb env B σ s) (hf : Ev prog w mg mb env B σ n func (val (.type T))) (ha : EvA prog w mg mb env B σ n (e :: rest) Rs)
    (hc : ∀ s₂ vs, Keeps s s₂ → RelL s₂.heap Rs vs → wpAny (model prog w) A (call (.type T) vs) Q Fl s₂)
    (he : starEach (e :: rest) env = (false, eval e env) :: starEach rest env := by rfl) (hplain : (backTo pos (starEach rest env)).any (·.1) = false := by rfl)
    (hcall : eval (.Call func (e :: rest) [] pos) env = (do callWith pos (← eval func env) [] (backTo pos (starEach (e :: rest) env)) (backToKw pos (keywordEach [] env))) := by rfl) :
    wpAny (model prog w) A (eval (.Call func (e :: rest) [] pos) env) Q Fl s :=
  Call_ (wpAny_mono (hf A s a rd) (fun f s₁ ⟨k₁, q₁⟩ => by
    have e1 : f = .type T := q₁
    subst e1
    exact PyProof.Rows.callWith_type1 (wpAny_mono (ha A s₁ pos a (rd.keeps k₁)) (fun vs s₂ ⟨k₂, q₂⟩ => hc s₂ vs (keeps_trans k₁ k₂) q₂) fun _ _ x => x) he hplain) fun _ _ x => x) hcall

theorem tup_obj {h : Heap} {b : Addr} {x y : Value} (e : IsPair h b x y) : ∃ o, h.get? b = some o ∧ o.cls ≠ .type "list" ∧ (∀ es ep, o.data ≠ .dict es ep) ∧ ∀ c, o.data ≠ .cell c :=
  ⟨_, e, (fun q => absurd (Value.type.inj q) (by decide)), (fun _ _ q => nomatch q), (fun _ q => nomatch q)⟩

theorem src_zip {func e₁ e₂ : Expr} {elts : List Expr} {k : Nat} {tp pos : Pos} {ds es : List D} {N : Nat} {d₁ d₂ : Nat → D} (hf : ∀ B, Ev prog w mg mb env B σ n func (val (.type "zip"))) (h₁ : Ex prog w mg mb env n σ e₁ (.list ds)) (h₂ : Ex prog w mg mb env n σ e₂ (.list es))
    (hN : ds.length = N) (hN' : es.length = N) (hd₁ : ∀ i, i < N → ds[i]? = some (d₁ i)) (hd₂ : ∀ i, i < N → es[i]? = some (d₂ i))
    (he1 : starEach [e₁, e₂] env = (false, eval e₁ env) :: starEach [e₂] env := by rfl) (he2 : starEach [e₂] env = (false, eval e₂ env) :: starEach [] env := by rfl) (hplain : (backTo pos (starEach [e₂] env)).any (·.1) = false := by rfl)
    (hcall : eval (.Call func [e₁, e₂] [] pos) env = (do callWith pos (← eval func env) [] (backTo pos (starEach [e₁, e₂] env)) (backToKw pos (keywordEach [] env))) := by rfl) :
    Src prog w mg mb env n σ (.Tuple elts k tp) (.Call func [e₁, e₂] [] pos) N (ItemT fun i => [d₁ i, d₂ i]) := fun B K A s a rd hK => by
  refine callT_wp (Rs := [rep B (.list ds), rep B (.list es)]) a rd (hf B) (ea_cons (h₁ B) (ea_cons (h₂ B) ea_nil he2) he1) (fun s₂ vs k₂ q => ?_) he1 hplain hcall
  obtain ⟨v, v', rfl, r, r'⟩ := relL2 q
  cases r with | list nb il r =>
  cases r' with | list nb' il' r' =>
  rename_i l1 us m l2 us' m'
  refine call_zip_2 il.isList il'.isList fun h' hz hTI hTO hi1 hi2 hsz hk => ?_
  refine wpAny_pyIter_zip hz ⟨s₂, k₂, ⟨h', s₂.toks, rfl, hk⟩, ?_⟩
  have l1 : l1 < s₂.heap.objs.size := Heap.lt_size il
  have l2 : l2 < s₂.heap.objs.size := Heap.lt_size il'
  generalize hM : s₂.heap.objs.size = M at *
  have nes : ∀ {x : Addr} (j : Nat), x < M → x ≠ M + j := fun j h => Nat.ne_of_lt (Nat.lt_of_lt_of_le h (Nat.le_add_right _ _))
  have ne0 : ∀ {x : Addr}, x < M → x ≠ M := fun h => Nat.ne_of_lt h
  have nej : ∀ (i j : Nat), i ≠ j → M + i ≠ M + j := fun i j h q => h (Nat.add_left_cancel q)
  have nej0 : ∀ (i : Nat), i ≠ 0 → M + i ≠ M := fun i h q => h (Nat.add_left_cancel (q.trans (Nat.add_zero M).symm))
  have W := KTurns.ofWalksU (elts := elts) (k := k) (pos := tp) (WalksT.zip2 (prog := prog) (w := w) a.1 (M + 4) (M + 2) (M + 3) M (M + 1) _ _
    ⟨nej 2 4 (by decide), nej 3 4 (by decide), (nej0 4 (by decide)).symm, nej 1 4 (by decide), nej 2 3 (by decide), nej0 2 (by decide), nej 2 1 (by decide), nej0 3 (by decide), nej 3 1 (by decide), (nej0 1 (by decide)).symm, nes 4 l1, nes 3 l1, ne0 l1, nes 1 l1, nes 4 l2, nes 3 l2, ne0 l2, nes 1 l2⟩ us.toArray us'.toArray).toU
  have e1 : min us.toArray.size us'.toArray.size = N := by simp [r.length, r'.length, hN, hN']
  rw [e1] at W
  have nB : ∀ b, M ≤ b → ¬ B b := fun b hb q => by
    obtain ⟨o, e⟩ := (rd.keeps k₂).ex b q
    have := Heap.lt_size e
    rw [hM] at this
    exact Nat.lt_irrefl _ (Nat.lt_of_lt_of_le this hb)
  refine ⟨_, _, _, _, _, _, rfl, W, ⟨hz, hTI, ⟨_, _, hTO⟩, hi1, hi2, il.isList.at fun o e => hk _ o e, il'.isList.at fun o e => hk _ o e⟩, fun b hb => ?_, fun i h st b hb => ?_, fun i v h md b hb => ?_, fun b hb => ?_, fun i s' Q E st q => wpAny_pyIter_zip st.1 q, fun i v h B' hlt p q => ?_⟩
  · rw [hM]
    simp only [List.mem_cons, List.not_mem_nil, or_false] at hb
    rcases hb with rfl | rfl | rfl | rfl
    · exact Nat.le_add_right _ _
    · exact Nat.le_add_right _ _
    · exact Nat.le_refl _
    · exact Nat.le_add_right _ _
  · simp only [List.mem_cons, List.not_mem_nil, or_false] at hb
    obtain ⟨g1, g2, ⟨_, _, g3⟩, g4, g5, _⟩ := st
    rcases hb with rfl | rfl | rfl | rfl
    · exact iter_obj (c := "zip") (by decide) ⟨_, g1, rfl, rfl⟩
    · exact tup_obj g3
    · exact iter_obj (c := "list_iterator") (by decide) g4
    · exact iter_obj (c := "list_iterator") (by decide) g5
  · simp only [List.mem_cons, List.not_mem_nil, or_false] at hb
    obtain ⟨_, _, _, _, _, g1, g2, ⟨_, _, g3⟩, g4, g5, _⟩ := md
    rcases hb with rfl | rfl | rfl | rfl
    · exact iter_obj (c := "zip") (by decide) ⟨_, g1, rfl, rfl⟩
    · exact tup_obj g3
    · exact iter_obj (c := "list_iterator") (by decide) g4
    · exact iter_obj (c := "list_iterator") (by decide) g5
  · simp only [List.mem_cons, List.not_mem_nil, or_false] at hb
    rcases hb with rfl | rfl | rfl | rfl | rfl | rfl | rfl
    · exact .inl (by simp)
    · exact .inr (.inl ⟨_, hTI, .inl ⟨_, _, rfl⟩, nB _ (Nat.le_add_right _ _)⟩)
    · exact .inl (by simp)
    · exact .inl (by simp)
    · exact .inl (by simp)
    · exact .inr (.inl ⟨_, hk _ _ il, .inl ⟨_, _, rfl⟩, nb⟩)
    · exact .inr (.inl ⟨_, hk _ _ il', .inl ⟨_, _, rfl⟩, nb'⟩)
  · obtain ⟨T, vals, rfl, ⟨x, y, hx, hy, rfl⟩, hT⟩ := p
    obtain ⟨u, hu, ru⟩ := r.get (hd₁ i hlt)
    obtain ⟨u', hu', ru'⟩ := r'.get (hd₂ i hlt)
    have ex : us[i]? = some x := by simpa using hx
    have ey : us'[i]? = some y := by simpa using hy
    rw [ex] at hu; cases hu
    rw [ey] at hu'; cases hu'
    have nwr : ∀ a o, s₂.heap.get? a = some o → a ∉ [M + 4, M + 3, M, M + 1] := fun a o e hb => by
      have hlt : a < M := by rw [← hM]; exact Heap.lt_size e
      simp only [List.mem_cons, List.not_mem_nil, or_false] at hb
      rcases hb with q | q | q | q
      · exact nes 4 hlt q
      · exact nes 3 hlt q
      · exact ne0 hlt q
      · exact nes 1 hlt q
    have mv : ∀ a o, s₂.heap.get? a = some o → Seq o → ¬ B a → h.get? a = some o ∧ ¬ B' a := fun a o e hs nb => q a o (hk a o e) hs nb (nwr a o e)
    exact ⟨T, [x, y], rfl, hT, .cons (ru.move mv) (.cons (ru'.move mv) .nil)⟩
end
end Mine

set_option maxRecDepth 100000
namespace Mine
open PySem PyProof.Rows PySem.W

section
variable {prog : Program} {w : World} {A : Around} {E : Value → Shared → Prop} {s : Shared} {b : Array UInt8} {t : Tok}

theorem nextOf_bytes_item {it : Addr} {i : Nat} {c : UInt8} {Q : Value → Shared → Prop} (hit : KBw.IsBytesIter s.heap it b t i) (hx : b[i]? = some c)
    (hQ : ∀ h', KBw.IsBytesIter h' it b t (i + 1) → Heap.SameBut it s.heap h' → Q (.int (c.toNat : Int) s.toks) { s with heap := h', toks := s.toks + 1 }) : wpAny (model prog w) A (Builtin.SmallTypes.nextOf (.ref it)) Q E s := by
  obtain ⟨o, ho, hc, hd⟩ := id hit
  unfold Builtin.SmallTypes.nextOf
  refine wpAny_bind (wpAny_callSpecial?_slot (name := PySem.Str.ofString "__next__") (KBw.iter_typeIs hit) KBw.slot_next
    (wpAny_call_entry KBw.slot_next (KBw.iter_typeIs hit) KBw.entry_next ?_ (KBw.args_next _)))
  show wpAny _ _ (field (.ref it) 0 >>= _) _ _ s
  refine wpAny_bind (wpAny_field ho hd (x := .bytes b t) rfl ?_)
  show wpAny _ _ (if (Value.bytes b t == Value.none) = true then _ else _) _ _ s
  rw [if_neg (show ¬ ((Value.bytes b t == Value.none) = true) from Bool.false_ne_true)]
  show wpAny _ _ (field (.ref it) 1 >>= _) _ _ s
  refine wpAny_bind (wpAny_field ho hd (x := .int i 0) rfl ?_)
  refine wpAny_bind (wpAny_of_eq (a := b) rfl ?_)
  simp only [Int.toNat_natCast, hx]
  refine wpAny_bind (wpAny_setField ho hd (by simp) (wpAny_bind (wpAny_mkInt (wpAny_pure ⟨_, rfl, wpAny_pure (hQ _ ?_ (Heap.SameBut.update ..))⟩))))
  exact ⟨_, Heap.get?_update_self _ ho (Obj.isFreed_of_fields (Obj.data_mapFields hd _)), (Obj.cls_mapFields ..).trans hc, by
    rw [Obj.data_mapFields hd]; simp [rawInt]⟩

theorem nextOf_bytes_end {it : Addr} {i : Nat} {Q : Value → Shared → Prop} (hh : A.handled = none) (hit : KBw.IsBytesIter s.heap it b t i) (hx : b[i]? = none)
    (hE : ∀ h' e, Heap.ExtBut it s.heap h' → (∃ o, h'.get? e = some o ∧ o.cls = .type "StopIteration") → E (.ref e) { s with heap := h' }) : wpAny (model prog w) A (Builtin.SmallTypes.nextOf (.ref it)) Q E s := by
  obtain ⟨o, ho, hc, hd⟩ := id hit
  unfold Builtin.SmallTypes.nextOf
  refine wpAny_bind (wpAny_callSpecial?_slot (name := PySem.Str.ofString "__next__") (KBw.iter_typeIs hit) KBw.slot_next
    (wpAny_call_entry KBw.slot_next (KBw.iter_typeIs hit) KBw.entry_next ?_ (KBw.args_next _)))
  show wpAny _ _ (field (.ref it) 0 >>= _) _ _ s
  refine wpAny_bind (wpAny_field ho hd (x := .bytes b t) rfl ?_)
  show wpAny _ _ (if (Value.bytes b t == Value.none) = true then _ else _) _ _ s
  rw [if_neg (show ¬ ((Value.bytes b t == Value.none) = true) from Bool.false_ne_true)]
  show wpAny _ _ (field (.ref it) 1 >>= _) _ _ s
  refine wpAny_bind (wpAny_field ho hd (x := .int i 0) rfl ?_)
  refine wpAny_bind (wpAny_of_eq (a := b) rfl ?_)
  simp only [Int.toNat_natCast, hx]
  refine wpAny_bind (wpAny_rule (wpAny_bind (wpAny_setField ho hd (by simp) ?_)))
  show wpAny _ _ (newExc (.type "StopIteration") [] >>= _) _ _ _
  refine wpAny_bind ?_
  simp only [newExc, newTuple]
  refine wpAny_bind (wpAny_newObj_type ?_ (by size_fits))
  refine wpAny_bind (m := firstArgMember _ _) (wpAny_of_eq (a := Value.none) (by first | rfl | (simp only [firstArgMember]; rfl)) ?_)
  refine wpAny_newObj_type ?_ (by size_fits)
  simp only [raiseNew]
  refine wpAny_bind (wpAny_handled ?_)
  first | rw [show A.in1.handled = none from hh] | rw [hh]
  refine wpAny_bind (wpAny_pure (wpAny_throw ?_))
  exact hE _ _ (((Heap.SameBut.update ..).extBut.push _).push _) ⟨_, Heap.get?_push_size _ rfl, rfl⟩
end

theorem draws_bytes {prog : Program} {w : World} {A : Around} (hh : A.handled = none) (it : Addr) (b : Array UInt8) (t : Tok) :
    Draws prog w A it [it] b.size (fun i v => ∃ c u, b[i]? = some c ∧ v = .int (c.toNat : Int) u) (fun i h => KBw.IsBytesIter h it b t i) where
  live := fun _ _ st => let ⟨o, ho, _⟩ := st; ⟨o, ho⟩
  frame := fun _ _ _ st hk => let ⟨o, ho, r⟩ := st; ⟨o, hk it (by simp) o ho, r⟩
  item := fun i s Q E hi st hQ => by
    refine nextOf_bytes_item st (c := b[i]) (by simp [hi]) fun h' hit' hs' => ?_
    exact hQ _ h' (s.toks + 1) ⟨_, _, by simp [hi], rfl⟩ hit' hs'
  done := fun s Q E st hE => nextOf_bytes_end hh st (by simp) hE

set_option maxHeartbeats 1000000 in
theorem meets_enumerate_newB (x : Array UInt8) (t : Tok) :
    Meets (Builtin.«enumerate.__new__» ⟨[.type "enumerate", .bytes x t], []⟩) (fun _ R s =>
      R (.ok (.ret (.ref (s.heap.push { cls := .type "bytes_iterator", data := .fields #[.bytes x t, .int 0 0] }).objs.size)))
        { s with heap := (s.heap.push { cls := .type "bytes_iterator", data := .fields #[.bytes x t, .int 0 0] }).push { cls := .type "enumerate", data := .fields #[.none, .bool false, .ref s.heap.objs.size, rawInt 0, .none, .none] } }) :=
  .of_wp fun prog w A R s h => by
    obtain ⟨hp, g, d, tk, os⟩ := s
    have hsub := sub_enumerate
    wp_walk
    refine wpAny_stack_any fun st => wpAny_pure ?_
    split
    · rename_i c _ _ _ _ _
      cases (c == Value.type "enumerate")
      · wp_walk using KBw.pyIter_bytes
        exact ⟨_, rfl, h⟩
      · wp_walk using KBw.pyIter_bytes
        exact ⟨_, rfl, h⟩
    · wp_walk using KBw.pyIter_bytes
      exact ⟨_, rfl, h⟩

section
variable {prog : Program} {w : World} {A : Around} {E : Value → Shared → Prop} {s : Shared}
theorem call_enumerate_bytes {x : Array UInt8} {t : Tok} {Q : Value → Shared → Prop}
    (h : ∀ h', IsEnum h' (s.heap.objs.size + 1) s.heap.objs.size 0 .none → KBw.IsBytesIter h' s.heap.objs.size x t 0 → h'.objs.size = s.heap.objs.size + 2 →
      (∀ b o, s.heap.get? b = some o → h'.get? b = some o) → Q (.ref (s.heap.objs.size + 1)) { s with heap := h' }) :
    wpAny (model prog w) A (call (.type "enumerate") [.bytes x t]) Q E s := by
  refine callType_new F.called_enumerate (by decide) (F.typeCall_enumerate_1 _) (F.newCall_enumerate_1 _) (fun obj => F.args_object_init_2 obj _) F.entry_enumerate_new
    (meets_enumerate_newB x t) ?_
  have hz : (s.heap.push { cls := .type "bytes_iterator", data := .fields #[.bytes x t, .int 0 0] }).objs.size = s.heap.objs.size + 1 := Heap.size_push ..
  show _ ∧ _
  rw [hz]
  have he : IsEnum ((s.heap.push { cls := .type "bytes_iterator", data := .fields #[.bytes x t, .int 0 0] }).push
      { cls := .type "enumerate", data := .fields #[.none, .bool false, .ref s.heap.objs.size, rawInt 0, .none, .none] }) (s.heap.objs.size + 1) s.heap.objs.size 0 .none := by
    have := Heap.get?_push_size (s.heap.push { cls := .type "bytes_iterator", data := .fields #[.bytes x t, .int 0 0] })
      (o := { cls := .type "enumerate", data := .fields #[.none, .bool false, .ref s.heap.objs.size, rawInt 0, .none, .none] }) rfl
    rw [hz] at this; exact this
  refine ⟨⟨_, he, rfl⟩, h _ he ⟨_, Heap.get?_push_of_some _ (Heap.get?_push_size _ rfl), rfl, rfl⟩ (by rw [Heap.size_push, hz]) fun b o y => Heap.get?_push_of_some _ (Heap.get?_push_of_some _ y)⟩
end

section
variable {prog : Program} {w : World} {A : Around} {R : Result → Shared → Prop} {s : Shared}
theorem compLoop_pairD {kx vx iter : Expr} {elts : List Expr} {x1 : Nat} {tp : Pos} {scope : Scope} {pos : Pos} {it : Value} {D : Addr} {env : Env} (I : Nat → Shared → Prop)
    (turn : ∀ n s, I n s → wpAny (model prog w) A (pyNext it) (fun r s₁ => match r with
      | none => R (.ok .next) s₁
      | some v => wpAny (model prog w) A (letOwnedTupleGo (.Tuple elts x1 tp) it v) (fun _ s₁' => wpAny (model prog w) A (assign (.Tuple elts x1 tp) env v) (fun _ s₂ =>
          wpAny (model prog w) A (eval kx env) (fun kv s₄ => wpAny (model prog w) A (eval vx env) (fun vv s₅ =>
              wpAny (model prog w) A (dictSet D kv vv) (fun _ s₆ => ∃ m, m < n ∧ I m s₆) (notedBy (model prog w) A env fun e s' => R (.error e) s') s₅) (notedBy (model prog w) A env fun e s' => R (.error e) s') s₄) (notedBy (model prog w) A env fun e s' => R (.error e) s') s₂)
          (notedBy (model prog w) A env fun e s' => R (.error e) s') s₁') (notedBy (model prog w) A env fun e s' => R (.error e) s') s₁) (notedBy (model prog w) A env fun e s' => R (.error e) s') s)
    (n : Nat) (h : I n s) : codeAny (model prog w) A (.compLoop (.DictComp kx vx [⟨.Tuple elts x1 tp, iter, [], 0⟩] scope pos) 0 it (.ref D) env) R s := by
  refine codeAny_loop rfl I (fun n s hI => ?_) n h
  show wpAny _ A ((compTurn (.DictComp kx vx [⟨.Tuple elts x1 tp, iter, [], 0⟩] scope pos) 0 it (.ref D) env).onRaise (fun x => do noteFrame x env; theTreesLotGoes x)) _ _ s
  refine wpAny_noted ?_
  rw [compTurn_dict]
  refine wpAny_bind (wpAny_standAt (wpAny_bind (wpAny_mono (turn n s hI) (fun r s₁ h₁ => ?_) fun _ _ h' => h')))
  cases r with
  | none => exact wpAny_pure h₁
  | some v =>
    refine wpAny_bind (wpAny_mono h₁ (fun _ s₁' h₁' => ?_) fun _ _ h' => h')
    refine wpAny_bind (wpAny_mono h₁' (fun _ s₂ h₂ => wpAny_bind (wpAny_mono (wpAny_tests_nil (Q := fun ok s₃ => ok = true ∧ s₃ = s₂) ⟨rfl, rfl⟩) (fun ok s₃ h₃ => ?_) fun _ _ h' => h')) fun _ _ h' => h')
    obtain ⟨rfl, rfl⟩ := h₃
    exact wpAny_bind (wpAny_bind (wpAny_mono h₂ (fun kv s₄ h₄ => wpAny_bind (wpAny_holding (wpAny_mono h₄ (fun vv s₅ h₅ => wpAny_bind (wpAny_standAt (wpAny_holding (wpAny_mono h₅ (fun _ s₆ h₆ => wpAny_pure ⟨rfl, h₆⟩) fun _ _ h' => h')))) fun _ _ h' => h'))) fun _ _ h' => h'))
end
end Mine

set_option maxRecDepth 100000
namespace Mine
open PySem PyProof.Rows PySem.W

def tabOf (b : List UInt8) : List (Int × Int) := (List.range b.length).map fun i => (((b.getD i 0).toNat : Int), (i : Int))

section
variable {prog : Program} {w : World} {mg mb : Str → Option Value} {env : Env} {B : Addr → Prop} {σ : List (Str × Sl)} {n : Nat}

theorem ev_place {value slice : Expr} {pos : Pos} {ks : List (Int × Int)} {k j : Int} (h₁ : Ev prog w mg mb env B σ n value (rep B (.tab ks))) (h₂ : Ev prog w mg mb env B σ n slice (rep B (.int k))) (hm : (k, j) ∈ ks)
    (hs : ∀ o i, subscripted slice false o i = operate [o, i] (getItem o i) := by intro _ _; rfl) : Ev prog w mg mb env B σ n (.Subscript value slice pos) (rep B (.int j)) := fun A s a rd =>
  Subscript_ (wpAny_mono (h₁ A s a rd) (fun o s₁ ⟨k₁, q₁⟩ => wpAny_mono (h₂ A s₁ a (rd.keeps k₁)) (fun i s₂ ⟨k₂, q₂⟩ => by
    cases q₂ with | int _ t =>
    have q := (rep B (.tab ks)).st _ (keeps_heap k₂) q₁
    cases q with | tab nb ho ht =>
    obtain ⟨hc, es, ep, hd, hk, _, hf⟩ := ht
    obtain ⟨u, hu⟩ := hf k j hm
    have im : s₂.heap.IntMap _ (fun k => findBy Value.isInt es k) := ⟨_, es, ep, ho, hc, hd, hk, fun _ => rfl⟩
    exact tail_any im.typeIs slot_dict_getitem.lookup (wpAny_getItem_intMap im hu ⟨keeps_trans k₁ (keeps_trans k₂ (keeps_tok _ _)), .int _ _⟩) (hs _ _)) fun _ _ x => x) fun _ _ x => x)

theorem findBy_nil (k : Int) : findBy Value.isInt #[] k = none := rfl

theorem ev_dictcomp {scope : Scope} {cl : List (Str × Addr)} {func e : Expr} {y z : Str} {py pz tp pos cp ky kz : Pos} {x1 : Nat} {b : List UInt8} (hf : Ev prog w mg mb env B σ n func (val (.type "enumerate"))) (he : Ev prog w mg mb env B σ n e (rep B (.bytes b)))
    (hnd : ∀ i j, i < j → j < b.length → b.getD i 0 ≠ b.getD j 0) (hne : b ≠ []) (hz : b.length ≤ sizeLine)
    (hyz : y ≠ z) (hclos : closureFor scope env = pure cl) (hkind : scope.kind = .function) (hcell : ∀ y ∈ scope.names, y.2 ≠ .cell) (hy : scope.names.lookup y = some .local) (hz' : scope.names.lookup z = some .local)
    (hnames : ∀ y ∈ scope.names, y.2 = .local → scope.names.lookup y.1 = some .local) (hs : ∀ x, foldedSetIterable (.Call func [e] [] cp) env x = pure x := by intro _; rfl)
    (he1 : starEach [e] env = (false, eval e env) :: starEach [] env := by rfl) (hplain : (backTo cp (starEach [] env)).any (·.1) = false := by rfl)
    (hcall : eval (.Call func [e] [] cp) env = (do callWith cp (← eval func env) [] (backTo cp (starEach [e] env)) (backToKw cp (keywordEach [] env))) := by rfl)
    (hdy : (y == ("__debug__" : Str)) = false := by rfl) (hdz : (z == ("__debug__" : Str)) = false := by rfl) :
    Ev prog w mg mb env B σ n (.DictComp (.Name z kz) (.Name y ky) [⟨.Tuple [.Name y py, .Name z pz] x1 tp, .Call func [e] [] cp, [], 0⟩] scope pos) (rep B (.tab (tabOf b))) := fun A s a rd => by
  rw [arm_eval_DictComp]
  refine wpAny_comprehension_free (use := none) rfl hs hclos hkind hnames (callT_wp (Rs := [rep B (.bytes b)]) a rd hf (ea_cons he ea_nil he1) (fun s₁ vs k₁ q => ?_) he1 hplain hcall)
  obtain ⟨v, rfl, r⟩ := relL1 q
  cases r with | bytes _ t =>
  refine call_enumerate_bytes fun h₀ hE hI hsz hk₀ => ?_
  refine wpAny_pyIter_enum hE ?_
  have k₂ : Keeps s { s₁ with heap := h₀ } := keeps_trans k₁ ⟨h₀, s₁.toks, rfl, hk₀⟩
  generalize hM : s₁.heap.objs.size = M at *
  have hei : M + 1 ≠ M := Nat.succ_ne_self M
  have W := KTurns.ofWalksU (elts := [.Name y py, .Name z pz]) (k := x1) (pos := tp) (WalksT.enumerateD (draws_bytes (prog := prog) (w := w) (A := A.in1) a.1 M b.toArray t) (M + 1) hei (by simp) (by simp)).toU
  have e1 : b.toArray.size = b.length := by simp
  rw [e1] at W
  have nwr : ∀ c o, s₁.heap.get? c = some o → c ∉ [M + 1, M] := fun c o e hb => by
    have hlt : c < M := by rw [← hM]; exact Heap.lt_size e
    simp only [List.mem_cons, List.not_mem_nil, or_false] at hb
    rcases hb with q | q
    · exact Nat.ne_of_lt (Nat.lt_succ_of_lt hlt) q
    · exact Nat.ne_of_lt hlt q
  refine wpAny_newObj_type (wpAny_newFunctionEnv hcell (by intro y hy; simp at hy) (fun h₁ hns₁ hsb₁ => ?_) hkind)
  dsimp only at hns₁ hsb₁ ⊢
  have hDg := Heap.IntMap.new h₀
  have hDl := Heap.DictLe.new h₀
  have hDo : (h₀.push { cls := .type "dict", dict := none, data := .dict #[] }).get? h₀.objs.size = some { cls := .type "dict", dict := none, data := .dict #[] } := Heap.get?_push_size _ rfl
  generalize hH2 : h₀.push { cls := .type "dict", dict := none, data := .dict #[] } = H2 at hns₁ hsb₁ hDg hDl hDo ⊢
  have hC : H2.objs.size = h₀.objs.size + 1 := by rw [← hH2, Heap.size_push]
  generalize hDe : h₀.objs.size = D at *
  generalize hCe : H2.objs.size = C at *
  have hltC : D < C := by rw [hC]; exact Nat.lt_succ_self _
  have hDC : D ≠ C := Nat.ne_of_lt hltC
  have neD : ∀ b : Addr, b < D → b ≠ D := fun b h => Nat.ne_of_lt h
  have neC : ∀ b : Addr, b < D → b ≠ C := fun b h => Nat.ne_of_lt (Nat.lt_trans h hltC)
  have blw : ∀ b o, h₀.get? b = some o → b < D := fun b o e => by rw [← hDe]; exact Heap.lt_size e
  have wrD : ∀ b ∈ [M + 1, M], b < D := fun b hb => by
    rw [hsz]
    simp only [List.mem_cons, List.not_mem_nil, or_false] at hb
    rcases hb with rfl | rfl
    · exact Nat.lt_succ_self _
    · exact Nat.lt_succ_of_lt (Nat.lt_succ_self _)
  have fpD : ∀ b ∈ [M + 1, M], b < D := wrD
  have old : ∀ b o, h₀.get? b = some o → h₁.get? b = some o := fun b o e => hsb₁.extBut b o (neC b (blw b o e)) (Heap.get?_push_of_some _ (hH2 ▸ Heap.get?_push_of_some _ e))
  have upD : ∀ o, H2.get? D = some o → h₁.get? D = some o := fun o e => hsb₁.extBut _ _ hDC (Heap.get?_push_of_some _ e)
  have hD1 : h₁.IntMap D (fun _ => none) := by
    obtain ⟨o, es, ep, ho, r⟩ := hDg
    exact ⟨o, es, ep, upD o ho, r⟩
  have hDl1 : h₁.DictLe D 0 := hDl.of_same hDo (upD _ hDo)
  have hst₁ : (fun i (h : Heap) => (∃ old, IsEnum h (M + 1) M (i : Nat) old) ∧ KBw.IsBytesIter h M b.toArray t i) 0 h₁ := W.frame 0 _ _ ⟨⟨_, hE⟩, hI⟩ fun b _ o e => old b o e
  have nCw : C ∉ [M + 1, M] := fun hb => neC C (wrD C hb) rfl
  have nDw : D ∉ [M + 1, M] := fun hb => neD D (wrD D hb) rfl
  have loop : ∀ s₃ : Shared, s₃ = { s₁ with heap := h₁, toks := s₁.toks + ([] : List (Str × Value)).length } →
      codeAny (model prog w) A (.compLoop (.DictComp (.Name z kz) (.Name y ky) [⟨.Tuple [.Name y py, .Name z pz] x1 tp, .Call func [e] [] cp, [], 0⟩] scope pos) 0 (.ref (M + 1)) (.ref D) (compEnvC scope cl C env)) (compPost (model prog w) A Fl none (fun v s' => Keeps s s' ∧ (rep B (.tab (tabOf b))).r s'.heap v) (.ref D) C) s₃ := by
    rintro s₃ rfl
    refine compLoop_pairD (fun kk s' => ∃ i f mC h tk, s' = { s₁ with heap := h, toks := tk } ∧ kk = b.length + 1 - i ∧ i ≤ b.length ∧ ((∃ old, IsEnum h (M + 1) M (i : Nat) old) ∧ KBw.IsBytesIter h M b.toArray t i) ∧ h.IntMap D f ∧ h.DictLe D i ∧
        (∀ j, j < i → ∃ t, f ((b.getD j 0).toNat : Int) = some (.int j t)) ∧ h.Ns C mC ∧ ∀ b o, b ∉ [M + 1, M] → h₀.get? b = some o → h.get? b = some o) ?_ (b.length + 1)
      ⟨0, _, _, h₁, _, rfl, rfl, Nat.zero_le _, hst₁, hD1, hDl1, fun j hj => absurd hj (Nat.not_lt_zero _), hns₁, fun b o _ e => old b o e⟩
    rintro kk s' ⟨i, f, mC, h, tk, rfl, rfl, hi, hst', hD', hL', hF', hC', hk'⟩
    by_cases hlt : i < b.length
    · refine W.item i _ _ _ hlt hst' fun v h₂ tk₂ hMd hk₂ => ?_
      refine W.go i v _ _ _ hMd fun h₃ hP hst₃ hk₃ => ?_
      obtain ⟨T, vals, rfl, ⟨t1, x, ⟨c, u, hc, rfl⟩, rfl⟩, hT⟩ := hP
      have up₃ : ∀ b o, b ∉ [M + 1, M] → h.get? b = some o → h₃.get? b = some o := fun b o hb e => hk₃ b o hb (hk₂ b o hb e)
      have hC3 : h₃.Ns C mC := hC'.at' fun o e => up₃ C o nCw e
      refine assign_Tuple_tuple (items := #[.int i t1, .int (c.toNat : Int) u]) a.1 hT rfl rfl fun h₄ he₄ => ?_
      have up₄ : ∀ b o, h₃.get? b = some o → h₄.get? b = some o := fun b o e => he₄ b o (Nat.ne_of_lt (Heap.lt_size e)) e
      show wpAny _ _ (assignInOrder [assign (.Name y py) (compEnvC scope cl C env), assign (.Name z pz) (compEnvC scope cl C env)] [.int i t1, .int (c.toNat : Int) u]) _ _ _
      refine wpAny_bind (wpAny_holding (wpAny_assign_Name (wpAny_storeName_local (lookup_relabel_local hy) (hC3.at' fun o e => up₄ C o e) (fun h₅ hns₅ hs₅ => ?_) (by simp [compEnvC, relabel, hkind]))))
      refine wpAny_bind (wpAny_holding (wpAny_assign_Name (wpAny_storeName_local (lookup_relabel_local hz') hns₅ (fun h₆ hns₆ hs₆ => ?_) (by simp [compEnvC, relabel, hkind]))))
      refine wpAny_pure (wpAny_Name (wpAny_loadName_local (v := .int (c.toNat : Int) u) hkind (lookup_relabel_local hz') hns₆ (by simp) (wpAny_Name (wpAny_loadName_local (v := .int i t1) hkind (lookup_relabel_local hy) hns₆ (by simp [hyz]) ?_) hdy)) hdz)
      have up₆ : ∀ b o, b ≠ C → h₃.get? b = some o → h₆.get? b = some o := fun b o hb e => hs₆.extBut b o hb (hs₅.extBut b o hb (up₄ b o e))
      have up : ∀ b o, b ∉ [M + 1, M] → b ≠ C → h.get? b = some o → h₆.get? b = some o := fun b o hb hbC e => up₆ b o hbC (up₃ b o hb e)
      have hD6 : h₆.IntMap D f := by
        obtain ⟨o, es, ep, ho, r⟩ := hD'
        exact ⟨o, es, ep, up D o nDw hDC ho, r⟩
      have hL6 : h₆.DictLe D i := by
        obtain ⟨o, es, ep, ho, r⟩ := hD'
        exact hL'.of_same ho (up D o nDw hDC ho)
      refine wpAny_dictSet_int_le hD6 hL6 (by omega) fun h₇ hm₇ hl₇ hs₇ => ?_
      have hcb : b.getD i 0 = c := by
        have : b[i]? = some c := by simpa using hc
        simp [this]
      refine ⟨b.length + 1 - (i + 1), by omega, i + 1, _, _, h₇, _, rfl, rfl, hlt, ?_, hm₇, hl₇, fun j hj => ?_, hns₆.sameBut hs₇ (Ne.symm hDC), fun b o hb e => ?_⟩
      · exact W.frame (i + 1) h₃ h₇ hst₃ fun b hb o e => hs₇.extBut b o (neD b (fpD b hb)) (up₆ b o (neC b (fpD b hb)) e)
      · by_cases hji : j = i
        · subst hji
          exact ⟨t1, by show (if _ then _ else _) = _; rw [hcb, if_pos rfl]⟩
        · obtain ⟨t', ht'⟩ := hF' j (by omega)
          refine ⟨t', ?_⟩
          have hne' := hnd j i (by omega) hlt
          rw [hcb] at hne'
          rw [if_neg]
          · exact ht'
          · intro q
            exact hne' (UInt8.toNat_inj.mp (by exact_mod_cast q))
      · exact hs₇.extBut b o (neD b (blw b o e)) (up b o hb (neC b (blw b o e)) (hk' b o hb e))
    · have hin : i = b.length := by omega
      subst hin
      refine W.done _ _ _ hst' fun h₂ tk₂ hk₂ => ?_
      refine ⟨mC, hC'.at' fun o e => hk₂ _ o nCw e, fun h₃ hs₃ => ⟨?_, ?_⟩⟩
      · obtain ⟨hh, tt, e0, k0⟩ := k₁
        refine ⟨h₃, tk₂, by rw [e0], fun c o e => ?_⟩
        have e' : s₁.heap.get? c = some o := by rw [e0]; exact k0 c o e
        have e'' := hk₀ c o e'
        exact hs₃.extBut c o (neC c (blw c o e'')) (hk₂ c o (nwr c o e') (hk' c o (nwr c o e') e''))
      · obtain ⟨o, es, ep, ho, hcl, hd, hik, hfk⟩ := hD'
        have nBD : ¬ B D := fun q => by
          obtain ⟨o, e⟩ := (rd.keeps k₂).ex D q
          exact neD D (blw D o e) rfl
        refine .tab nBD (hs₃.extBut D o hDC (hk₂ D o nDw ho)) ⟨hcl, es, ep, hd, hik, fun q => ?_, fun k j hkj => ?_⟩
        · have h0 : 0 < b.length := List.length_pos_iff.mpr hne
          obtain ⟨t0, ht0⟩ := hF' 0 h0
          rw [← hfk, Array.eq_empty_of_size_eq_zero q] at ht0
          cases ht0
        · simp only [tabOf, List.mem_map, List.mem_range, Prod.mk.injEq] at hkj
          obtain ⟨i, hi', rfl, rfl⟩ := hkj
          obtain ⟨t', ht'⟩ := hF' i hi'
          exact ⟨t', by rw [hfk]; exact ht'⟩
  obtain ⟨⟨od, hod⟩, _⟩ := hst₁
  exact codeAny_compStart_dict (loop _ rfl) (wpAny_pyIter_enum hod (loop _ rfl))
end
end Mine

set_option maxRecDepth 100000
namespace Mine
open PySem PyProof.Rows PySem.W

section
variable {mg mb : Str → Option Value} {env : Env} {B0 B : Addr → Prop} {φ : Fm} {σ : List (Str × Sl)} {s : Shared}

theorem OkB.storeL {M : Model} {A : Around} {E : Value → Shared → Prop} {x : Str} {v : Value} {d : D} (O : OkB mg mb env B0 B φ σ s) (hl : env.kindOf x = some .local) (hr : Rep s.heap B v d)
    {Q : Unit → Shared → Prop} (h : ∀ h' tk, OkB mg mb env B0 B φ ((x, .v d) :: σ) { s with heap := h', toks := tk } → Heap.SameBut env.locals s.heap h' → Q () { s with heap := h', toks := tk }) : wpAny M A (storeName env x v) Q E s := by
  obtain ⟨m, ns⟩ := O.ns
  have hp : (env.scope.kind == .class || (env.scope.kind == .module && env.locals != env.globals)) = false := by rw [O.rd.envOk.kind]; rfl
  refine wpAny_storeName_local hl ns (fun h' ns' hs => ?_) hp
  have hS : ∀ y u, y ≠ x → Sees env s.heap y u → Sees env h' y u := fun y u hy S => by
    rcases S with ⟨k, m', n', e'⟩ | ⟨k, c, l, i⟩
    · refine .inl ⟨k, _, ns', ?_⟩
      rw [if_neg hy, ns_det ns n' y]; exact e'
    · exact .inr ⟨k, c, l, i.sameBut hs (cell_ne_ns ns i)⟩
  refine h h' _ ?_ hs
  refine O.turn (t := env.locals) (x := some x) (v := v) (sl := .v d) (fun b o hb e => hs.extBut b o hb e) (let ⟨o, _, _, ho, _⟩ := ns'; ⟨o, ho⟩) (fun o e => seq_ne_dict ns e) O.hL ⟨_, ns'⟩
    (fun y c e => let ⟨u, i⟩ := O.cell y c e; ⟨u, i.sameBut hs (cell_ne_ns ns i)⟩) (fun y u hy S => hS y u (fun q => hy (by rw [q])) S) (fun y e => ?_)
  cases e
  exact ⟨.inl ⟨hl, _, ns', by simp⟩, hr, (fun _ e => nomatch e), (fun _ e => nomatch e)⟩

/-- an object that nobody knows has turned, or is gone -/
theorem OkB.drop (O : OkB mg mb env B0 B φ σ s) {t : Addr} {h' : Heap} (hk : ∀ b o, b ≠ t → s.heap.get? b = some o → h'.get? b = some o) (hB : ¬ B t) (hseq : ∀ o, s.heap.get? t = some o → ¬ Seq o) (hh : ∀ o, ¬ φ.Hd t o) (hL : env.locals ≠ t) (hC : ∀ x c, env.cells.lookup x = some c → c ≠ t) :
    OkB mg mb env B0 B φ σ { s with heap := h' } := by
  have hkh : ∀ b o, φ.Hd b o → h'.get? b = some o := fun b o q => hk b o (fun e => hh o (e ▸ q)) (O.hold b o q)
  have kp : Kp B s.heap h' := fun a o e q _ => hk a o (fun z => hseq o (z ▸ e) q) e
  have nsk : ∀ {m}, s.heap.Ns env.locals m → h'.Ns env.locals m := fun n => n.at' fun o e => hk _ o hL e
  have hS : ∀ y u, Sees env s.heap y u → Sees env h' y u := by
    intro y u S
    rcases S with ⟨k, m', n', e'⟩ | ⟨k, c, l, o, ho, hd⟩
    · exact .inl ⟨k, m', nsk n', e'⟩
    · exact .inr ⟨k, c, l, o, hk _ _ (hC y c l) ho, hd⟩
  have bk : ∀ {y l u}, σ.lookup y = some l → Sees env h' y u → Sees env s.heap y u := fun {y l u} hy S => O.back (s' := { s with heap := h' }) hS hy S
  obtain ⟨m, ns⟩ := O.ns
  refine ⟨⟨O.rd.envOk, O.glo0.keeps fun b o e => hkh b o (O.base b o e), fun b q => ?_, fun x sl e => ?_⟩, O.glo0, O.base, O.sub, ?_, ⟨m, nsk ns⟩, fun x c e => ?_, O.apart, hkh, O.hL, O.hC,
    fun x ds a hx S => O.own x ds a hx (bk hx S), fun x ds a hx S => O.bor x ds a hx (bk hx S), fun x y ds es a hx hy S S' => O.dist x y ds es a hx hy (bk hx S) (bk hy S'), O.lim, O.lo⟩
  · obtain ⟨o, e⟩ := O.rd.ex b q
    exact ⟨o, hk b o (fun z => hB (z ▸ q)) e⟩
  · obtain ⟨v, S, r⟩ := O.rd.var x sl e
    refine ⟨v, hS _ _ S, r.mono kp (fun _ _ q => q) fun a vs n i => .inl ((hk _ _ (fun z => ?_) i).trans i.symm)⟩
    exact hseq _ (z ▸ i) (.inl ⟨_, _, rfl⟩)
  · obtain ⟨h, t', e⟩ := O.same; exact ⟨h', s.toks, by rw [e]⟩
  · obtain ⟨u, o, ho, hd⟩ := O.cell x c e; exact ⟨u, o, hk _ _ (hC x c e) ho, hd⟩
end

section
variable {prog : Program} {w : World} {mg mb : Str → Option Value} {env : Env} {B0 B : Addr → Prop} {σ : List (Str × Sl)} {n : Nat}

/-- y = [elt for x in iter], y a local name -/
theorem st_comp {scope : Scope} {cl : List (Str × Addr)} {elt iter : Expr} {x y : Str} {px py pos spos : Pos} {N : Nat} {ds : List D} {d d' : Nat → D} {σf : List (Str × Sl)} {rest : List Stmt} {P : Post} (hsrc : Src prog w mg mb env n σ (.Name x px) iter N (ItemN ds)) (hd : ∀ i, i < N → ds[i]? = some (d i))
    (hf : Frees env scope cl σ σf) (helt : ∀ i, i < N → ∀ C B, Ev prog w mg mb (compEnvC scope cl C env) B ((x, .v (d i)) :: σf) n elt (rep B (d' i))) (hz : N ≤ sizeLine)
    (h : St prog w mg mb env B0 n ((y, .v (.list ((List.range N).map d'))) :: σ) rest P) (hy : env.kindOf y = some .local)
    (hclos : closureFor scope env = pure cl) (hkind : scope.kind = .function) (hcell : ∀ y ∈ scope.names, y.2 ≠ .cell) (hx : scope.names.lookup x = some .local)
    (hnames : ∀ y ∈ scope.names, y.2 = .local → scope.names.lookup y.1 = some .local) (hs : ∀ x, foldedSetIterable iter env x = pure x := by intro _; rfl)
    (hsw : swapsWith (.ListComp elt [⟨.Name x px, iter, [], 0⟩] scope pos) (some (.Name y py)) spos.line env = pure true := by rfl) :
    St prog w mg mb env B0 n σ (.Assign [.Name y py] (.ListComp elt [⟨.Name x px, iter, [], 0⟩] scope pos) spos :: rest) P := fun A φ s a ⟨B, O⟩ => by
  refine wpAny_execs_cons ?_
  rw [exec_Assign_Name_used _ _ _ _ hsw]
  refine wpAny_bind (wpAny_standAt (wpAny_bind ?_))
  rw [arm_evalThenUse_ListComp]
  refine wpAny_bind (wpAny_comprehension_free (use := some (assign (.Name y py) env)) rfl hs hclos hkind hnames (wpAny_mono (hsrc B (fun b => ∃ o, s.heap.get? b = some o) A s a O.rd (fun z es b hz S => ?_)) (fun xv s₁ h₁ => wpAny_mono h₁ (fun it s₂ h₂ => ?_) fun _ _ e => e) fun _ _ e => e))
  · obtain ⟨v, S', b', us, m, e, il, _⟩ := O.rd.var z _ hz
    have := S'.det S
    rw [e] at this
    exact ⟨_, (Value.ref.inj this) ▸ il⟩
  · obtain ⟨s', k1, k2, q⟩ := h₂
    have O1 := O.keeps k1
    refine comp_core (RR := fun acc C => compPost (model prog w) A Fl (some (assign (.Name y py) env)) _ acc C) a O1.rd k2 (fun b ⟨o, e⟩ => ⟨o, keeps_heap (keeps_trans k1 k2) b o e⟩) q hd hkind hcell hx hf helt hz fun D C s₃ m' k3 hC hDC hn r => ?_
    have O3 := O1.keeps k3
    obtain ⟨m0, ns0⟩ := O1.ns
    have nL : env.locals ≠ C := by
      rintro rfl
      obtain ⟨o, _, _, ho, _⟩ := ns0
      rw [ho] at hC; cases hC
    have nC : ∀ x c, env.cells.lookup x = some c → c ≠ C := by
      rintro x c e rfl
      obtain ⟨u, o, ho, _⟩ := O1.cell x c e
      rw [ho] at hC; cases hC
    have nB : ¬ B C := fun q => by
      obtain ⟨o, ho⟩ := O1.rd.ex C q
      rw [ho] at hC; cases hC
    have nH : ∀ o, ¬ φ.Hd C o := fun o q => by
      have := O1.hold C o q
      rw [this] at hC; cases hC
    refine wpAny_assign_Name (O3.storeL hy r fun h₄ tk₄ O4 hs₄ => ?_)
    have hn4 : h₄.Ns C m' := hn.at' fun o e => hs₄.extBut C o (Ne.symm nL) e
    refine ⟨m', hn4, fun h₅ hs₅ => wpAny_pure (wpAny_pure ?_)⟩
    refine h A φ _ a ⟨B, O4.drop (t := C) (fun b o hb e => hs₅.extBut b o hb e) nB (fun o e => seq_ne_dict hn4 e) nH nL nC⟩

theorem repL_int {h : Heap} {B : Addr → Prop} : ∀ {vs : List Value} {xs : List Int}, IntsAre vs xs → RepL h B vs (xs.map D.int)
  | _, _, .nil => .nil
  | _, _, .cons _ t r => .cons (.int _ t) (repL_int r)

theorem ev_head {value e : Expr} {p pos : Pos} {xs : List Int} {k : Nat} (h₁ : Ev prog w mg mb env B σ n value (rep B (.arg xs))) (h₂ : Ev prog w mg mb env B σ n e (rep B (.int k))) (hz : xs.length ≤ sizeLine)
    (ht : ∀ o r, letTemporaryGo value o r = pure () := by intro _ _; rfl) : Ev prog w mg mb env B σ n (.Subscript value (.Slice none (some e) none p) pos) (rep B (.list ((xs.take k).map D.int))) := fun A s a rd =>
  wpAny_Subscript_list_slice (wpAny_mono (h₁ A s a rd) (fun o s₁ ⟨k₁, q₁⟩ => wpAny_mono (ep_none A s₁ a (rd.keeps k₁)) (fun vl s₂ ⟨k₂, q₂⟩ => wpAny_mono (ep_some h₂ A s₂ a ((rd.keeps k₁).keeps k₂)) (fun vu s₃ ⟨k₃, q₃⟩ => by
    have kk : Keeps s s₃ := keeps_trans k₁ (keeps_trans k₂ k₃)
    have q := (rep B (.arg xs)).st _ (keeps_heap (keeps_trans k₂ k₃)) q₁
    cases q with | @arg l us _ nb il hi =>
    refine ⟨l, _, none, some (k : Int), rfl, il, by rw [List.size_toArray, hi.length]; exact hz, q₂, q₃, keeps_trans kk (keeps_push2 _ _ _), ?_⟩
    have hf : ¬ B (s₃.heap.objs.size + 1) := fun q => by
      obtain ⟨o, e⟩ := (rd.keeps kk).ex _ q
      exact Nat.not_succ_le_self _ (Nat.le_of_lt (Heap.lt_size e))
    rw [slicePick_upto']
    refine Rep.list (n := 0) hf ?_ (?_ : RepL _ B (us.take k) _)
    · have := IsL.new (s₃.heap.push { cls := .type "slice", data := .fields #[vl, vu, .none] }) ((us.toArray.toList.take k).toArray)
      rwa [Heap.size_push] at this
    · rw [List.map_take]
      exact (repL_int hi).take k) fun _ _ x => x) fun _ _ x => x) fun _ _ x => x) ht

theorem ev_addB {l r : Expr} {pos : Pos} {a b : List UInt8} (h₁ : Ev prog w mg mb env B σ n l (rep B (.bytes a))) (h₂ : Ev prog w mg mb env B σ n r (rep B (.bytes b))) (hz : a.length + b.length ≤ 16777216) :
    Ev prog w mg mb env B σ n (.BinOp l .Add r pos) (rep B (.bytes (a ++ b))) :=
  ev_bin h₁ h₂ fun A s v₁ v₂ ha hr q₁ q₂ => by
    cases q₁ with | bytes _ t => cases q₂ with | bytes _ u =>
    exact bytes_add_K (by simpa using hz) rfl fun t' k => ⟨keeps_tok _ _, .bytes _ _⟩
end
end Mine

namespace Mine

def oct2 : List Nat → List Nat
  | a :: b :: r => a / 16 :: (a % 16 * 16 + b / 256) :: b % 256 :: oct2 r
  | _ => []
def six : List Nat → List Nat
  | [] => []
  | x :: r => x / 64 :: x % 64 :: six r

theorem six_len : ∀ R : List Nat, (six R).length = 2 * R.length
  | [] => rfl
  | _ :: r => by simp only [six, List.length_cons, six_len r]; omega
theorem six_even : ∀ (R : List Nat) (i : Nat), i < R.length → (six R)[2 * i]? = some (R.getD i 0 / 64) ∧ (six R)[2 * i + 1]? = some (R.getD i 0 % 64)
  | [], i, h => absurd h (Nat.not_lt_zero _)
  | x :: r, 0, _ => ⟨rfl, rfl⟩
  | x :: r, i + 1, h => by
    have := six_even r i (by simpa using h)
    have e : 2 * (i + 1) = 2 * i + 1 + 1 := by omega
    rw [e]
    exact this
theorem oct2_snoc : ∀ (R : List Nat) (a b : Nat), R.length % 2 = 0 → oct2 (R ++ [a, b]) = oct2 R ++ [a / 16, a % 16 * 16 + b / 256, b % 256]
  | [], _, _, _ => rfl
  | [_], _, _, h => by simp at h
  | x :: y :: r, a, b, h => by
    have := oct2_snoc r a b (by simp only [List.length_cons] at h; omega)
    simp [oct2, this]
theorem oct2_lt : ∀ R : List Nat, (∀ x ∈ R, x < 4096) → ∀ o ∈ oct2 R, o < 256
  | [], _, _, h => by simp [oct2] at h
  | [_], _, _, h => by simp [oct2] at h
  | a :: b :: r, hR, o, h => by
    have ha := hR a (by simp)
    have hb := hR b (by simp)
    simp only [oct2, List.mem_cons] at h
    rcases h with rfl | rfl | rfl | h
    · omega
    · omega
    · omega
    · exact oct2_lt r (fun x hx => hR x (by simp [hx])) o h
theorem oct2_len : ∀ R : List Nat, (oct2 R).length ≤ 2 * R.length
  | [] => by simp [oct2]
  | [_] => by simp [oct2]
  | a :: b :: r => by have := oct2_len r; simp only [oct2, List.length_cons]; omega
theorem fold_oct2 : ∀ (R : List Nat) (V : List Nat), R.length % 2 = 0 → (∀ x ∈ R, x < 4096) → (oct2 R).foldl stp (V, 0, 0) = (V ++ six R, 0, 0)
  | [], V, _, _ => by simp [oct2, six]
  | [_], _, h, _ => by simp at h
  | a :: b :: r, V, h, hR => by
    have ha := hR a (by simp)
    have hb := hR b (by simp)
    have ih := fold_oct2 r (V ++ [a / 64, a % 64, b / 64, b % 64]) (by simp only [List.length_cons] at h; omega) fun x hx => hR x (by simp [hx])
    have e : stp (stp (stp (V, 0, 0) (a / 16)) (a % 16 * 16 + b / 256)) (b % 256) = (V ++ [a / 64, a % 64, b / 64, b % 64], 0, 0) := by
      simp [stp]
      omega
    rw [oct2, List.foldl_cons, List.foldl_cons, List.foldl_cons, e, ih]
    simp [six]
theorem run_oct2 (R : List Nat) (h : R.length % 2 = 0) (hR : ∀ x ∈ R, x < 4096) : run (oct2 R) = (six R, 0, 0) := by
  have := fold_oct2 R [] h hR
  simpa [run] using this

theorem nI_append (a b : List Nat) : nI (a ++ b) = nI a ++ nI b := by simp [nI]

theorem tx_q : ∀ R : List Nat, textsOf (nI R) = ((qfold R).1.map nI, nI (cat (qfold R).1 (qfold R).2)) := by
  refine snoc_ind rfl fun R x ih => ?_
  have e1 : nI (R ++ [x]) = nI R ++ [(x : Int)] := by simp [nI]
  rw [e1, textsOf_snoc, ih, qfold_snoc]
  obtain ⟨h1, _⟩ := q_ok R
  generalize qfold R = st at *
  obtain ⟨T, cur⟩ := st
  simp only at h1 ⊢
  have key : nI (cat T cur) ++ (if (x : Int) < 256 then [(x : Int) % 256] else []) ++ (if 256 ≤ (x : Int) then (T.map nI).getD (((x : Int) - 256) % ((T.map nI).length : Nat)).toNat [] else []) = nI (cat T (cur ++ [x])) := by
    rw [cat_snoc, nI_append, List.append_assoc]
    refine congrArg (nI (cat T cur) ++ ·) ?_
    unfold sym
    rcases Nat.lt_or_ge x 256 with hx | hx
    · have h2 : (x : Int) < 256 := by omega
      have h3 : ¬ 256 ≤ (x : Int) := by omega
      have h4 : (x : Int) % 256 = x := by omega
      rw [if_pos h2, if_neg h3, if_pos hx, h4]
      rfl
    · have h2 : ¬ (x : Int) < 256 := by omega
      have h3 : 256 ≤ (x : Int) := by omega
      rw [if_neg h2, if_pos h3, if_neg (Nat.not_lt.mpr hx), List.nil_append, List.length_map]
      have e2 : (((x : Int) - 256) % (T.length : Int)).toNat = (x - 256) % T.length := by
        have : (x : Int) - 256 = ((x - 256 : Nat) : Int) := by omega
        rw [this]; omega
      rw [e2]
      have hlt : (x - 256) % T.length < T.length := Nat.mod_lt _ (by omega)
      simp [hlt]
  unfold tstep qstep
  simp only [key]
  by_cases hx : x = 0
  · subst hx
    simp only [if_true, Int.ofNat_zero]
    have e3 : nI (cat T (cur ++ [0])) = nI (cat T cur) ++ [0] := by rw [cat_snoc, nI_append]; simp [sym, nI]
    rw [e3]
    simp [cat, nI]
  · have hx' : ¬ (x : Int) = 0 := by omega
    simp only [hx, hx', if_false]
end Mine

set_option maxRecDepth 100000
namespace Mine
open PySem

def lettersL : List UInt8 := [65, 66, 67, 68, 69, 70, 71, 72, 73, 74, 75, 76, 77, 78, 79, 80, 81, 82, 83, 84, 85, 86, 87, 88, 89, 90, 97, 98, 99, 100, 101, 102, 103, 104, 105, 106, 107, 108, 109, 110, 111, 112, 113, 114, 115, 116, 117, 118, 119, 120, 121, 122, 48, 49, 50, 51, 52, 53, 54, 55, 56, 57]
theorem letters_all : lettersL ++ [43, 47] = b64L := by decide +kernel
theorem letters_len : lettersL.length = 62 := rfl
theorem b64_apart : ∀ j, j < 64 → ∀ i, i < j → b64L.getD i 0 ≠ b64L.getD j 0 := by decide +kernel
theorem tab_u8 : ∀ v, v < 64 → (tabN v).toUInt8 = b64L.getD v 0 := by decide +kernel
theorem low_letters : ∀ v, v < 62 → b64L.getD v 0 = lettersL.getD v 0 ∧ b64L.getD v 0 ≠ 47 ∧ b64L.getD v 0 ≠ 43 := by decide +kernel

theorem oct_back (t : List Nat) (h : ∀ x ∈ t, x < 256) : nats (octs (nI t)) = t := by
  induction t with
  | nil => rfl
  | cons a r ih =>
    have ha := h a (by simp)
    have e : nats (octs (nI (a :: r))) = (a : Int).toNat.toUInt8.toNat :: nats (octs (nI r)) := rfl
    rw [e, ih fun x hx => h x (by simp [hx])]
    congr 1
    simp
    omega
theorem oct_len (xs : List Int) : (octs xs).length = xs.length := by simp [octs]

def pad (p : Nat) : List UInt8 := if p = 1 then [61, 61] else if p = 2 then [61] else []
def more (p r : Nat) : List Nat := if p = 1 then [r * 16] else if p = 2 then [r * 4] else []
def filled (st : List Nat × Nat × Nat) : List Nat := st.1 ++ more st.2.2 st.2.1
def sgn (S : List UInt8) (V : List Nat) : List UInt8 := V.map fun k => S.getD k 0

theorem oct_sgn (S : List UInt8) (V : List Nat) : octs (V.map fun k => ((S.getD k 0).toNat : Int)) = sgn S V := by
  induction V with
  | nil => rfl
  | cons a r ih =>
    have e : octs ((a :: r).map fun k => ((S.getD k 0).toNat : Int)) = ((S.getD a 0).toNat : Int).toNat.toUInt8 :: octs (r.map fun k => ((S.getD k 0).toNat : Int)) := rfl
    rw [e, ih]
    have e2 : ((S.getD a 0).toNat : Int).toNat.toUInt8 = S.getD a 0 := by rw [Int.toNat_natCast]; exact UInt8.ofNat_toNat
    rw [e2]; rfl
theorem oct_tab (V : List Nat) (h : ∀ v ∈ V, v < 64) : octs (V.map fun v => (tabN v : Int)) = sgn b64L V := by
  induction V with
  | nil => rfl
  | cons a r ih =>
    have e : octs ((a :: r).map fun v => (tabN v : Int)) = (tabN a : Int).toNat.toUInt8 :: octs (r.map fun v => (tabN v : Int)) := rfl
    rw [e, ih fun x hx => h x (by simp [hx])]
    rw [Int.toNat_natCast, tab_u8 a (h a (by simp))]; rfl

theorem fin_eq (st : List Nat × Nat × Nat) (h : ∀ v ∈ filled st, v < 64) : octs (fin st) = sgn b64L (filled st) ++ pad st.2.2 := by
  obtain ⟨V, r, p⟩ := st
  have hV : ∀ v ∈ V, v < 64 := fun v hv => h v (by simp [filled, hv])
  have key := oct_tab V hV
  unfold octs at key
  unfold fin
  simp only
  by_cases h1 : p = 1
  · subst h1
    have hm : r * 16 < 64 := h _ (by simp [filled, more])
    simp only [if_true, octs, List.map_append, key]
    simp only [filled, more, pad, sgn, if_true, List.map_append, List.append_assoc, List.map_cons, List.map_nil, List.cons_append, List.nil_append, Int.toNat_natCast, tab_u8 _ hm]
    rfl
  · by_cases h2 : p = 2
    · subst h2
      have hm : r * 4 < 64 := h _ (by simp [filled, more])
      simp only [octs, List.map_append, key, if_true, if_neg h1]
      simp only [filled, more, pad, sgn, if_true, if_neg h1, List.map_append, List.append_assoc, List.map_cons, List.map_nil, List.cons_append, List.nil_append, Int.toNat_natCast, tab_u8 _ hm]
      rfl
    · simp only [if_neg h1, if_neg h2, octs, key, filled, more, pad, sgn, List.append_nil]

theorem mkT_at (a b c : UInt8) : (mkT [43, 47] [a, b]).getD c.toNat c = if c = 47 then b else if c = 43 then a else c := by
  have e : mkT [43, 47] [a, b] = ((((Array.range 256).map (·.toUInt8)).setIfInBounds 43 a).setIfInBounds 47 b).toList := rfl
  have hc : c.toNat < 256 := c.toNat_lt
  rw [e, List.getD_eq_getElem?_getD, Array.getElem?_toList, Array.getElem?_setIfInBounds, Array.getElem?_setIfInBounds]
  have e47 : (c = 47) ↔ (47 = c.toNat) := by
    constructor
    · rintro rfl; rfl
    · intro h; exact UInt8.toNat_inj.mp h.symm
  have e43 : (c = 43) ↔ (43 = c.toNat) := by
    constructor
    · rintro rfl; rfl
    · intro h; exact UInt8.toNat_inj.mp h.symm
  by_cases h1 : c = 47
  · rw [if_pos h1, if_pos (e47.mp h1)]
    simp
  · rw [if_neg h1, if_neg (fun q => h1 (e47.mpr q))]
    by_cases h2 : c = 43
    · rw [if_pos h2, if_pos (e43.mp h2)]
      simp
    · rw [if_neg h2, if_neg (fun q => h2 (e43.mpr q))]
      simp [hc]

theorem trans_sgn (a b : UInt8) (V : List Nat) (h : ∀ v ∈ V, v < 64) : trans (mkT [43, 47] [a, b]) (sgn b64L V) = sgn (lettersL ++ [a, b]) V := by
  unfold trans sgn
  rw [List.map_map]
  apply List.map_congr_left
  intro v hv
  have hv' := h v hv
  show (mkT [43, 47] [a, b]).getD (b64L.getD v 0).toNat (b64L.getD v 0) = _
  rw [mkT_at]
  by_cases h1 : v < 62
  · obtain ⟨g1, g2, g3⟩ := low_letters v h1
    rw [if_neg g2, if_neg g3, g1, List.getD_eq_getElem?_getD, List.getD_eq_getElem?_getD, List.getElem?_append_left (by rw [letters_len]; exact h1)]
  · have h2 : v = 62 ∨ v = 63 := by omega
    rcases h2 with rfl | rfl <;> rfl
theorem trans_pad (a b : UInt8) (p : Nat) : trans (mkT [43, 47] [a, b]) (pad p) = pad p := by
  have e : (mkT [43, 47] [a, b]).getD (61 : UInt8).toNat 61 = 61 := by rw [mkT_at]; rfl
  unfold pad
  split
  · show [(mkT [43, 47] [a, b]).getD (61 : UInt8).toNat 61, (mkT [43, 47] [a, b]).getD (61 : UInt8).toNat 61] = _; rw [e]
  · split
    · show [(mkT [43, 47] [a, b]).getD (61 : UInt8).toNat 61] = _; rw [e]
    · rfl
theorem trans_app (T a b : List UInt8) : trans T (a ++ b) = trans T a ++ trans T b := by simp [trans]

/-- what is told is what is due -/
theorem due_plain (t : List Nat) (h : ∀ x ∈ t, x < 256) : enc (octs (nI t)) = sgn b64L (filled (run t)) ++ pad (run t).2.2 := by
  have hr := rp_ok 0 (by decide) t h
  unfold enc
  rw [oct_back t h]
  refine fin_eq _ fun v hv => ?_
  have e : runp 0 t = run t := rfl
  obtain ⟨h1, h2, h3, _⟩ := hr
  rw [e] at h1 h2 h3
  generalize run t = st at *
  obtain ⟨V, r, p⟩ := st
  simp only at h1 h2 h3
  simp only [filled, more, List.mem_append] at hv
  rcases hv with hv | hv
  · exact h3 v hv
  · have hp : p = 0 ∨ p = 1 ∨ p = 2 := by omega
    rcases hp with rfl | rfl | rfl <;> simp at hv <;> omega
theorem filled_lt (t : List Nat) (h : ∀ x ∈ t, x < 256) : ∀ v ∈ filled (run t), v < 64 := fun v hv => by
  have hr := rp_ok 0 (by decide) t h
  have e : runp 0 t = run t := rfl
  obtain ⟨h1, h2, h3, _⟩ := hr
  rw [e] at h1 h2 h3
  generalize run t = st at *
  obtain ⟨V, r, p⟩ := st
  simp only at h1 h2 h3
  simp only [filled, more, List.mem_append] at hv
  rcases hv with hv | hv
  · exact h3 v hv
  · have hp : p = 0 ∨ p = 1 ∨ p = 2 := by omega
    rcases hp with rfl | rfl | rfl <;> simp at hv <;> omega
theorem due_alt (t : List Nat) (h : ∀ x ∈ t, x < 256) (a b : UInt8) : trans (mkT [43, 47] [a, b]) (enc (octs (nI t))) = sgn (lettersL ++ [a, b]) (filled (run t)) ++ pad (run t).2.2 := by
  rw [due_plain t h, trans_app, trans_sgn a b _ (filled_lt t h), trans_pad]

/-- the written row -/
theorem given_eq (R : List Nat) (h : R.length % 2 = 0) (hR : ∀ x ∈ R, x < 4096) : enc (octs (nI (oct2 R))) = sgn b64L (six R) := by
  rw [due_plain _ (oct2_lt R hR), run_oct2 R h hR]
  simp [filled, more, pad]
theorem six_lt : ∀ R : List Nat, (∀ x ∈ R, x < 4096) → ∀ v ∈ six R, v < 64
  | [], _, _, h => by simp [six] at h
  | x :: r, hR, v, h => by
    have hx := hR x (by simp)
    simp only [six, List.mem_cons] at h
    rcases h with rfl | rfl | h
    · omega
    · omega
    · exact six_lt r (fun x hx => hR x (by simp [hx])) v h
end Mine

set_option maxRecDepth 100000
namespace Mine
open PySem PyProof.Rows PySem.W

theorem Glo.has64 {mg mb : Str → Option Value} {h : Heap} (G : Glo mg mb h) {f : Addr} (hf : mg "b64encode" = some (.ref f)) : ∃ o fd, h.get? f = some o ∧ o.data = .func fd := by
  obtain ⟨f', T, o, k, e, F, _⟩ := G.b64
  rw [hf] at e; cases e
  obtain ⟨o, doc, pm, an, cd, ct, h1, h2, _⟩ := F.get
  exact ⟨o, _, h1, h2⟩

theorem range_getD {α β : Type} (F : List α) (z : α) (g : α → β) : (List.range F.length).map (fun j => g (F.getD j z)) = F.map g := by
  apply List.ext_getElem
  · simp
  · intro i h1 h2
    have : i < F.length := by simpa using h2
    simp [this]

def c18 (T : List (List Nat)) (alt : List UInt8) : List (Str × Sl) := [("letters", .v (.bytes lettersL)), ("texts", .v (.list (T.map dN))), ("parts", .v (.list (T.map partD))), ("altchars", .v (.bytes alt))]
def d18 (T : List (List Nat)) (alt : List UInt8) (t F : List Nat) (p : Nat) : List (Str × Sl) := [("filled", .v (dN F)), ("phase", .v (.int (p : Nat))), ("text", .v (dN t)), ("letters", .v (.bytes lettersL)), ("texts", .v (.list (T.map dN))), ("parts", .v (.list (T.map partD))), ("altchars", .v (.bytes alt))]

theorem fill_at (r p : Nat) (hp : p < 3) : [dN [], dN [r * 16], dN [r * 4]][((p : Nat) : Int).toNat]? = some (dN (more p r)) := by
  have hq : p = 0 ∨ p = 1 ∨ p = 2 := by omega
  rcases hq with rfl | rfl | rfl <;> rfl
theorem pad_at (p : Nat) (hp : p < 3) : [D.bytes [], D.bytes [61, 61], D.bytes [61]][((p : Nat) : Int).toNat]? = some (D.bytes (pad p)) := by
  have hq : p = 0 ∨ p = 1 ∨ p = 2 := by omega
  rcases hq with rfl | rfl | rfl <;> rfl
theorem pad_len (p : Nat) : (pad p).length ≤ 2 := by unfold pad; split <;> (try split) <;> simp

section
variable {prog : Program} {w : World} {mg mb : Str → Option Value} {env : Env} {B : Addr → Prop} {σ : List (Str × Sl)} {n : Nat}

set_option maxHeartbeats 4000000 in
theorem st_law3 (N : Nm mg mb) {L f : Addr} {q : Str} {cd : Value} {T : List (List Nat)} {a0 a1 : UInt8} (hT : ∀ t ∈ T, t.length ≤ 32768) (hTo : ∀ t ∈ T, ∀ b ∈ t, b < 256) {fb : Addr} (hfb : mg "b64encode" = some (.ref fb)) :
    St prog w mg mb (envC (defAt 18).2.2 L (cellsFrom (L + 1) (defAt 18).2.2.names []) q f cd) B (n + 3) (c18 T [a0, a1]) ((defAt 18).2.1.drop 11) (PRet B (.bool true)) := by
  refine st_for (N := T.length) (inv := fun _ => c18 T [a0, a1]) (bnd := fun i => ("part", .v (partD (T.getD i []))) :: ("text", .v (dN (T.getD i []))) :: c18 T [a0, a1])
    (src_zip (ds := T.map dN) (es := T.map partD) (d₁ := fun i => dN (T.getD i [])) (d₂ := fun i => partD (T.getD i [])) (fun B => ev_bi N 8 rfl) (fun B => ev_name) (fun B => ev_name) (by simp) (by simp) (fun i hi => by simp [hi]) (fun i hi => by simp [hi]))
    (fun _ _ e => e) (bind_tup2 _ _ (fun i hi => rfl) (.inl rfl) (.inl rfl)) (fun i hi => ?_) ?_
  · have hmem : T.getD i [] ∈ T := by simp [hi]
    have ho := hTo _ hmem
    have hl := hT _ hmem
    generalize T.getD i [] = t at *
    have hr := rp_ok 0 (by decide) t ho
    obtain ⟨h1, h2, h3, h4⟩ := hr
    have e0 : runp 0 t = run t := rfl
    rw [e0] at h1 h2 h3 h4
    have hF := filled_lt t ho
    have hp1 := due_plain t ho
    have hp2 := due_alt t ho a0 a1
    have hFl : (filled (run t)).length ≤ 65537 := by
      unfold filled more
      rw [List.length_append]
      split
      · simp; omega
      · split <;> simp <;> omega
    refine st_tup3 (d₁ := dN (run t).1) (d₂ := .int ((run t).2.1 : Nat)) (d₃ := .int ((run t).2.2 : Nat)) (fun B => ev_item (ds := [ptD (runp 0 t), ptD (runp 1 t), ptD (runp 2 t)]) (k := 0) (ev_lst (ev_name (d := partD t))) ev_int (by decide) (by decide) rfl) ?_ (.inl rfl) (.inl rfl) (.inl rfl)
    refine st_assign (d := dN (filled (run t))) (fun B => ?_) ?_ (.inl rfl)
    · refine (ev_cat (a := (nI (run t).1).map D.int) (b := (nI (more (run t).2.2 (run t).2.1)).map D.int) (ev_lst (ev_name (d := dN (run t).1))) (ev_lst (ev_item (d := dN (more (run t).2.2 (run t).2.1)) (ds := [dN [], dN [(run t).2.1 * 16], dN [(run t).2.1 * 4]]) (k := ((run t).2.2 : Nat))
        (ev_lst (ev_list (ds := [dN [], dN [(run t).2.1 * 16], dN [(run t).2.1 * 4]]) (ea_cons (ev_list (ds := []) ea_nil) (ea_cons (ev_list (ds := [.int (((run t).2.1 * 16 : Nat) : Int)]) (ea_cons ((ev_mul (ev_name (d := .int ((run t).2.1 : Nat))) ev_int (.of_right (by decide))).cast (by congr 1)) ea_nil)) (ea_cons (ev_list (ds := [.int (((run t).2.1 * 4 : Nat) : Int)]) (ea_cons ((ev_mul (ev_name (d := .int ((run t).2.1 : Nat))) ev_int (.of_right (by decide))).cast (by congr 1)) ea_nil)) ea_nil)))))
        (ev_name (d := .int ((run t).2.2 : Nat))) (by omega) (by omega) (fill_at _ _ h1))) ?_).cast ?_
      · have : (filled (run t)).length = (nI (run t).1).length + (nI (more (run t).2.2 (run t).2.1)).length := by simp [filled, nI]
        simp only [List.length_map, sizeLine]; omega
      · simp [dN, dI, nI, filled]
    · refine St.weaken (σ' := d18 T [a0, a1] t (filled (run t)) (run t).2.2) ?_ (lookup_of_mem (allC rfl (allC rfl (allC rfl (allC rfl (allC rfl (allC rfl (allC rfl all0))))))))
      generalize filled (run t) = F at *
      generalize (run t).2.2 = p at *
      have htx : ∀ B, Ev prog w mg mb (envC (defAt 18).2.2 L (cellsFrom (L + 1) (defAt 18).2.2.names []) q f cd) B (d18 T [a0, a1] t F p) (n + 3) (.Call (.Name "bytes" ⟨105, 39, 105, 44⟩) [.Name "text" ⟨105, 45, 105, 49⟩] [] ⟨105, 39, 105, 50⟩) (rep B (.bytes (octs (nI t)))) := fun B =>
        ev_callT (ev_bi N 2 rfl) (ea_cons (R := lst B ((nI t).map D.int)) (ev_lst (ev_name (d := dN t))) ea_nil) (co_bytes (fun x hx => by obtain ⟨y, hy, rfl⟩ := List.mem_map.mp hx; have := ho y hy; omega) (by simp only [nI, List.length_map, sizeLine]; omega))
      have htx' : ∀ B, Ev prog w mg mb (envC (defAt 18).2.2 L (cellsFrom (L + 1) (defAt 18).2.2.names []) q f cd) B (d18 T [a0, a1] t F p) (n + 3) (.Call (.Name "bytes" ⟨105, 82, 105, 87⟩) [.Name "text" ⟨105, 88, 105, 92⟩] [] ⟨105, 82, 105, 93⟩) (rep B (.bytes (octs (nI t)))) := fun B =>
        ev_callT (ev_bi N 2 rfl) (ea_cons (R := lst B ((nI t).map D.int)) (ev_lst (ev_name (d := dN t))) ea_nil) (co_bytes (fun x hx => by obtain ⟨y, hy, rfl⟩ := List.mem_map.mp hx; have := ho y hy; omega) (by simp only [nI, List.length_map, sizeLine]; omega))
      have hol : (octs (nI t)).length ≤ 100000 := by rw [oct_len, nI, List.length_map]; omega
      refine st_for (N := 2) (inv := fun _ => d18 T [a0, a1] t F p) (bnd := fun i => ("signs", .v (.bytes ([b64L, lettersL ++ [a0, a1]].getD i []))) :: ("told", .v (.bytes (sgn ([b64L, lettersL ++ [a0, a1]].getD i []) F ++ pad p))) :: d18 T [a0, a1] t F p)
        ((src_tuple (ds := [.tuple [.bytes (sgn b64L F ++ pad p), .bytes b64L], .tuple [.bytes (sgn (lettersL ++ [a0, a1]) F ++ pad p), .bytes (lettersL ++ [a0, a1])]]) fun B => ?_).mono (Item' := ItemT fun i => [.bytes (sgn ([b64L, lettersL ++ [a0, a1]].getD i []) F ++ pad p), .bytes ([b64L, lettersL ++ [a0, a1]].getD i [])]) fun i B h v hi q => itemT_of ?_ q)
        (fun _ _ e => e) (bind_tup2 _ _ (fun i hi => rfl) (.inl rfl) (.inr ⟨rfl, rfl⟩)) (fun i hi => ?_) (st_nil (lookup_of_mem (allC rfl (allC rfl (allC rfl (allC rfl all0))))))
      · refine ev_tuple (ds := [.tuple [.bytes (sgn b64L F ++ pad p), .bytes b64L], .tuple [.bytes (sgn (lettersL ++ [a0, a1]) F ++ pad p), .bytes (lettersL ++ [a0, a1])]]) (ea_cons (ev_tuple (ds := [.bytes (sgn b64L F ++ pad p), .bytes b64L]) (ea_cons ?_ (ea_cons ?_ ea_nil))) (ea_cons (ev_tuple (ds := [.bytes (sgn (lettersL ++ [a0, a1]) F ++ pad p), .bytes (lettersL ++ [a0, a1])]) (ea_cons ?_ (ea_cons ?_ ea_nil))) ea_nil))
        · exact (ev_callF (ev_global hfb) (ea_cons (htx B) ea_nil) (fun s rd => rd.glo.has64 hfb) (co_b64 N hol hfb)).cast (by rw [hp1])
        · exact (ev_addB (ev_name (d := .bytes lettersL)) ev_bytes (by decide)).cast (by rw [letters_all])
        · exact (ev_callF (ev_global hfb) (ea_cons (htx' B) (ea_cons (ev_name (d := .bytes [a0, a1])) ea_nil)) (fun s rd => rd.glo.has64 hfb) (co_b64a N hol rfl hfb)).cast (by rw [hp2])
        · exact ev_addB (ev_name (d := .bytes lettersL)) (ev_name (d := .bytes [a0, a1])) (by simp [letters_len])
      · have hi2 : i < 2 := hi
        have hq : i = 0 ∨ i = 1 := by omega
        rcases hq with rfl | rfl <;> rfl
      · have hS : ([b64L, lettersL ++ [a0, a1]].getD i []).length = 64 := by
          have hq : i = 0 ∨ i = 1 := by omega
          rcases hq with rfl | rfl
          · exact b64_len
          · simp [letters_len]
        generalize [b64L, lettersL ++ [a0, a1]].getD i [] = S at *
        refine st_assign (d := .bytes (sgn S F ++ pad p)) (fun B => ?_) ?_ (.inl rfl)
        · refine ev_addB ((ev_callT (ev_bi N 2 rfl) (ea_cons (R := lst B ((F.map fun k => ((S.getD k 0).toNat : Int)).map D.int)) (ev_lst ?_) ea_nil) (co_bytes (fun x hx => ?_) ?_)).cast (by rw [oct_sgn]))
            (ev_item (d := .bytes (pad p)) (ds := [.bytes [], .bytes [61, 61], .bytes [61]]) (k := (p : Nat)) (ev_lst (ev_list (ds := [.bytes [], .bytes [61, 61], .bytes [61]]) (ea_cons ev_bytes (ea_cons ev_bytes (ea_cons ev_bytes ea_nil))))) (ev_name (d := .int (p : Nat))) (by omega) (by omega) (pad_at p h1)) ?_
          · refine (ev_comp (N := F.length) (ds := (nI F).map D.int) (d := fun j => .int (F.getD j 0 : Nat)) (d' := fun j => .int ((S.getD (F.getD j 0) 0).toNat : Nat)) (cl := [("signs", L + 3)]) (σf := [("signs", .v (.bytes S))])
              ((src_list (ds := (nI F).map D.int) fun B => ev_name (d := dN F)).cast (by simp [nI])) (fun j hj => by simp [nI, hj]) (frees_of (allC ⟨rfl, .inl rfl, fun C => .inl rfl, rfl⟩ all0)) (fun j hj C B => ?_) (by simp only [sizeLine]; omega) rfl rfl (by decide +kernel) rfl (by decide +kernel)).cast ?_
            · have hm : F.getD j 0 ∈ F := by simp [hj]
              have hlt := hF _ hm
              exact ev_octet (x := S) (k := (F.getD j 0 : Nat)) ev_name ev_name (by omega) (by rw [hS]; omega) (by rw [hS]; decide)
            · rw [List.map_map]
              exact congrArg D.list (range_getD F 0 fun k => D.int ((S.getD k 0).toNat : Nat))
          · obtain ⟨k, _, rfl⟩ := List.mem_map.mp hx
            have := (S.getD k 0).toNat_lt
            omega
          · simp only [List.length_map, sizeLine]; omega
          · have := pad_len p
            simp only [sgn, List.length_map]; omega
        · refine st_if (b := false) (σ' := d18 T [a0, a1] t F p) (fun B => ?_) (fun e => nomatch e) (fun _ => st_nil (lookup_of_mem (allC rfl (allC rfl (allC rfl (allC rfl (allC rfl (allC rfl (allC rfl all0))))))))) (st_nil fun _ _ e => e)
          refine tr_or (b := false) (c := false) (tr_not (b := true) (tr_bool (ev_callB (ev_bi N 9 rfl) (ea_cons (R := rep B (.bytes (sgn S F ++ pad p))) ev_name (ea_cons (ev_bi N 2 rfl) ea_nil)) co_isBytes))) fun _ => tr_or (b := false) (c := false) ?_ fun _ => tr_or_nil
          exact (tr_cmp (R₁ := rep B (.bytes (sgn S F ++ pad p))) (R₂ := rep B (.bytes (sgn S F ++ pad p))) ev_name ev_name fun A s v₁ v₂ _ _ q₁ q₂ => cmp_neB q₁ q₂).cast' (by simp)
  · exact st_return fun B => ev_bool
end
end Mine

set_option maxRecDepth 100000
namespace Mine
open PySem PyProof.Rows PySem.W

def r18 (xs : List Int) (R : List Nat) (O : List Nat) : List (Str × Sl) := [("octets", .v (dN O)), ("row", .v (dN R)), ("script", .v (.arg xs))]

theorem range2 (K : Nat) : Builtin.Range.rangeSize 0 ((2 * K : Nat) : Int) 2 = (K : Int) := by
  unfold Builtin.Range.rangeSize
  split
  · split <;> omega
  · omega
theorem small2' : ∀ K, K < 40 → Builtin.Range.small 0 ((2 * K : Nat) : Int) 2 = true := by decide +kernel
theorem small2 (K : Nat) (h : K < 40) : Builtin.Range.small 0 ((2 * K : Nat) : Int) 2 = true := small2' K h

theorem take_snoc (R : List Nat) {j : Nat} (h : j < R.length) : R.take (j + 1) = R.take j ++ [R.getD j 0] := by
  rw [List.take_add_one]; simp [h]

section
variable {prog : Program} {w : World} {mg mb : Str → Option Value} {env : Env} {B : Addr → Prop} {σ : List (Str × Sl)} {n : Nat}

theorem nI_get {R : List Nat} {i : Nat} {k : Int} (hi : i < R.length) (hk : k = (i : Int)) : ((nI R).map D.int)[k.toNat]? = some (.int (R.getD i 0 : Nat)) := by
  subst hk
  simp [nI, hi]

set_option maxHeartbeats 4000000 in
theorem st_law2 (N : Nm mg mb) {L f : Addr} {q : Str} {cd : Value} {xs : List Int} {R : List Nat} {K : Nat} (hR : ∀ x ∈ R, x < 4096) (hK : R.length = 2 * K) (hK7 : K ≤ 7) {fb ft fp : Addr} (hfb : mg "b64encode" = some (.ref fb)) (hft : mg "_law_texts" = some (.ref ft)) (hfp : mg "_law_parts" = some (.ref fp)) :
    St prog w mg mb (envC (defAt 18).2.2 L (cellsFrom (L + 1) (defAt 18).2.2.names []) q f cd) B (n + 3) [("row", .v (dN R)), ("script", .v (.arg xs))] ((defAt 18).2.1.drop 2) (PRet B (.bool true)) := by
  have hlen : ∀ (σ : List (Str × Sl)) (p₁ p₂ p₃ : Pos), List.lookup (Str.ofString "row") σ = some (Sl.v (dN R)) → ∀ B, Ev prog w mg mb (envC (defAt 18).2.2 L (cellsFrom (L + 1) (defAt 18).2.2.names []) q f cd) B σ (n + 3) (.Call (.Name "len" p₁) [.Name "row" p₂] [] p₃) (rep B (.int (2 * K : Nat))) := fun σ p₁ p₂ p₃ h B =>
    (ev_callB (ev_bi N 0 rfl) (ea_cons (R := lst B ((nI R).map D.int)) (ev_lst (ev_name (d := dN R) h)) ea_nil) (co_lenL (by simp only [List.length_map, nI, sizeLine]; omega))).cast (by rw [List.length_map, nI, List.length_map, hK])
  refine st_assign (d := dN []) (fun B => ev_list (ds := []) ea_nil) ?_ (.inl rfl)
  refine st_for (N := K) (inv := fun i => r18 xs R (oct2 (R.take (2 * i)))) (bnd := fun i => ("k", .v (.int (0 + i * 2))) :: r18 xs R (oct2 (R.take (2 * i))))
    (src_range (a := 0) (b := ((2 * K : Nat) : Int)) (c := 2) (N := K) (fun B => ev_callT (ev_bi N 4 rfl) (ea_cons ev_int (ea_cons (hlen _ _ _ _ rfl B) (ea_cons ev_int ea_nil))) (co_range3 (by decide) (by decide))) (range2 K) (small2 K (by omega)))
    (lookup_of_mem (allC rfl (allC rfl (allC rfl all0)))) (bind_name _ (fun i hi => by simp [hi]) (.inl rfl)) (fun i hi => ?_) ?_
  · have h1 : 2 * i < R.length := by omega
    have h2 : 2 * i + 1 < R.length := by omega
    have ht : R.take (2 * (i + 1)) = R.take (2 * i) ++ [R.getD (2 * i) 0, R.getD (2 * i + 1) 0] := by
      have e : 2 * (i + 1) = 2 * i + 1 + 1 := by omega
      have t1 := take_snoc R h1
      have t2 := take_snoc R h2
      rw [e, t2, t1, List.append_assoc]
      rfl
    rw [ht, oct2_snoc _ _ _ (by rw [List.length_take]; omega)]
    have hol : (oct2 (R.take (2 * i))).length ≤ 28 := by
      have := oct2_len (R.take (2 * i))
      rw [List.length_take] at this
      omega
    generalize oct2 (R.take (2 * i)) = O at *
    have hx : R.getD (2 * i) 0 < 4096 := hR _ (by simp [h1])
    have hy : R.getD (2 * i + 1) 0 < 4096 := hR _ (by simp [h2])
    have ea : ∀ B (p₁ p₂ p₃ : Pos), Ev prog w mg mb (envC (defAt 18).2.2 L (cellsFrom (L + 1) (defAt 18).2.2.names []) q f cd) B (("k", .v (.int (0 + i * 2))) :: r18 xs R O) (n + 3) (.Subscript (.Name "row" p₁) (.Name "k" p₂) p₃) (rep B (.int (R.getD (2 * i) 0 : Nat))) := fun B p₁ p₂ p₃ =>
      ev_item (ds := (nI R).map D.int) (k := 0 + i * 2) (ev_lst (ev_name (d := dN R))) ev_name (by omega) (by omega) (nI_get h1 (by omega))
    have eb : ∀ B (p₁ p₂ p₃ p₄ p₅ : Pos), Ev prog w mg mb (envC (defAt 18).2.2 L (cellsFrom (L + 1) (defAt 18).2.2.names []) q f cd) B (("k", .v (.int (0 + i * 2))) :: r18 xs R O) (n + 3) (.Subscript (.Name "row" p₁) (.BinOp (.Name "k" p₂) .Add (.Constant (.int 1) 0 p₃) p₄) p₅) (rep B (.int (R.getD (2 * i + 1) 0 : Nat))) := fun B p₁ p₂ p₃ p₄ p₅ =>
      ev_item (ds := (nI R).map D.int) (k := 0 + i * 2 + 1) (ev_lst (ev_name (d := dN R))) (ev_add (ev_name (d := .int (0 + i * 2))) ev_int) (by omega) (by omega) (nI_get h2 (by omega))
    generalize R.getD (2 * i) 0 = x at *
    generalize R.getD (2 * i + 1) 0 = y at *
    refine st_assign (d := dN (O ++ [x / 16, x % 16 * 16 + y / 256, y % 256])) (fun B => ?_) (st_nil (lookup_of_mem (allC rfl (allC rfl (allC rfl all0))))) (.inl rfl)
    refine (ev_cat (a := (nI O).map D.int) (b := [.int ((x / 16 : Nat) : Int), .int ((x % 16 * 16 + y / 256 : Nat) : Int), .int ((y % 256 : Nat) : Int)]) (ev_lst (ev_name (d := dN O))) (ev_lst (ev_list (ds := [.int ((x / 16 : Nat) : Int), .int ((x % 16 * 16 + y / 256 : Nat) : Int), .int ((y % 256 : Nat) : Int)]) (ea_cons ?_ (ea_cons ?_ (ea_cons ?_ ea_nil))))) ?_).cast ?_
    · exact (ev_div (ea B _ _ _) ev_int (by decide) (by decide)).cast (by congr 1)
    · exact (ev_add (ev_mul (ev_mod (ea B _ _ _) ev_int (by decide)) ev_int (.of_right (by decide))) (ev_div (eb B _ _ _ _ _) ev_int (by decide) (by decide))).cast (by congr 1)
    · exact (ev_mod (eb B _ _ _ _ _) ev_int (by decide)).cast (by congr 1)
    · simp only [List.length_map, nI, List.length_cons, List.length_nil, sizeLine]; omega
    · simp [dN, dI, nI]
  · have htk : R.take (2 * K) = R := by rw [← hK, List.take_length]
    rw [htk]
    have heven : R.length % 2 = 0 := by omega
    have hO : (oct2 R).length ≤ 28 := by have := oct2_len R; omega
    have hOo := oct2_lt R hR
    have h6 := six_lt R hR
    have hgiv := given_eq R heven hR
    have h6l := six_len R
    refine st_assign (d := .bytes lettersL) (fun B => ev_bytes) ?_ (.inl rfl)
    refine st_assign (d := .tab (tabOf b64L)) (fun B => ev_dictcomp (cl := []) (ev_bi N 7 rfl) ((ev_addB (ev_name (d := .bytes lettersL)) ev_bytes (by decide)).cast (by rw [letters_all])) (fun i j hij hj => b64_apart j (by rw [b64_len] at hj; exact hj) i hij) (by decide +kernel) (by rw [b64_len]; decide) (by decide) rfl rfl (by decide +kernel) rfl rfl (by decide +kernel)) ?_ (.inr ⟨rfl, rfl⟩)
    refine st_assign (d := dN (six R)) (fun B => ?_) ?_ (.inr ⟨rfl, rfl⟩)
    · refine (ev_comp (N := (six R).length) (ds := (sgn b64L (six R)).map fun c => D.int c.toNat) (d := fun j => .int (tabN ((six R).getD j 0) : Nat)) (d' := fun j => .int ((six R).getD j 0 : Nat)) (cl := [("places", L + 1)]) (σf := [("places", .v (.tab (tabOf b64L)))])
        ((src_bytes (b := sgn b64L (six R)) fun B => ?_).cast (by simp [sgn])) (fun j hj => ?_) (frees_of (allC ⟨rfl, .inl rfl, fun C => .inl rfl, rfl⟩ all0)) (fun j hj C B => ?_) (by simp only [sizeLine]; omega) rfl rfl (by decide +kernel) rfl (by decide +kernel)).cast ?_
      · exact (ev_callF (ev_global hfb) (ea_cons (R := rep B (.bytes (octs (nI (oct2 R))))) (ev_callT (ev_bi N 2 rfl) (ea_cons (R := lst B ((nI (oct2 R)).map D.int)) (ev_lst (ev_name (d := dN (oct2 R)))) ea_nil) (co_bytes (fun x hx => by obtain ⟨y, hy, rfl⟩ := List.mem_map.mp hx; have := hOo y hy; omega) (by simp only [nI, List.length_map, sizeLine]; omega))) ea_nil) (fun s rd => rd.glo.has64 hfb) (co_b64 N (by rw [oct_len, nI, List.length_map]; omega) hfb)).cast (by rw [hgiv])
      · have hm : (six R).getD j 0 ∈ six R := by simp [hj]
        have := tab_at _ (h6 _ hm)
        rw [← this]
        simp [sgn, hj]
      · have hm : (six R).getD j 0 ∈ six R := by simp [hj]
        have hlt := h6 _ hm
        refine ev_place (ks := tabOf b64L) (k := (tabN ((six R).getD j 0) : Nat)) ev_name ev_name ?_
        rw [← tab_at _ hlt]
        exact List.mem_map.mpr ⟨(six R).getD j 0, by rw [b64_len]; simpa using hlt, rfl⟩
      · rw [dN, dI, nI, List.map_map]
        exact congrArg D.list (range_getD (six R) 0 fun v => D.int (v : Nat))
    · obtain ⟨q1, q2, q3, q4, q5, q6, q7⟩ := q_ok R
      have htq := tx_q R
      have hpw : 2 ^ (R.length + 1) ≤ 2 ^ 15 := Nat.pow_le_pow_right (by decide) (by omega)
      have hm1 : (textsOf (nI R)).1.map dI = (qfold R).1.map dN := by rw [htq, List.map_map]; rfl
      refine st_tup2s (d₁ := .list ((qfold R).1.map dN)) (d₂ := .list ((qfold R).1.map partD)) (fun B => ev_tuple (ds := [.list ((qfold R).1.map dN), .list ((qfold R).1.map partD)]) (ea_cons ?_ (ea_cons ?_ ea_nil))) ?_ (.inl rfl) (.inl rfl)
      · exact (ev_callF (ev_global hft) (ea_cons (R := rep B (dI (nI R))) (ev_name (d := dN R)) ea_nil) (fun s rd => rd.glo.has 5 rfl hft) (co_texts N (by rw [nI, List.length_map]; omega) hft)).cast (by rw [hm1])
      · refine ev_callF (ev_global hfp) (ea_cons (R := rep B (.list (R.map symD))) ?_ ea_nil) (fun s rd => rd.glo.has 7 rfl hfp) (co_parts N (by omega) hR hfp)
        refine (ev_comp (N := R.length) (ds := (List.range R.length).map fun (i : Nat) => D.int (0 + i * 2)) (d := fun j => .int (0 + (j : Nat) * 2)) (d' := fun j => symD (R.getD j 0)) (cl := [("given", L + 2)]) (σf := [("given", .v (dN (six R)))])
          (src_range (a := 0) (b := ((2 * R.length : Nat) : Int)) (c := 2) (N := R.length) (fun B => ev_callT (ev_bi N 4 rfl) (ea_cons ev_int (ea_cons (R := rep B (.int ((2 * R.length : Nat) : Int))) ((ev_callB (ev_bi N 0 rfl) (ea_cons (R := lst B ((nI (six R)).map D.int)) (ev_lst (ev_name (d := dN (six R)))) ea_nil) (co_lenL (by simp only [List.length_map, nI, sizeLine]; omega))).cast (by rw [List.length_map, nI, List.length_map, h6l])) (ea_cons ev_int ea_nil))) (co_range3 (by decide) (by decide))) (range2 R.length) (small2 R.length (by omega)))
          (fun j hj => by simp [hj]) (frees_of (allC ⟨rfl, .inl rfl, fun C => .inl rfl, rfl⟩ all0)) (fun j hj C B => ?_) (by simp only [sizeLine]; omega) rfl rfl (by decide +kernel) rfl (by decide +kernel)).cast ?_
        · obtain ⟨e1, e2⟩ := six_even R j hj
          refine ev_tuple (ds := [.int (R.getD j 0 / 64 : Nat), .int (R.getD j 0 % 64 : Nat)]) (ea_cons ?_ (ea_cons ?_ ea_nil))
          · refine ev_item (ds := (nI (six R)).map D.int) (k := 0 + (j : Nat) * 2) (ev_lst (ev_name (d := dN (six R)))) ev_name (by omega) (by omega) ?_
            have e3 : ((0 : Int) + (j : Nat) * 2).toNat = 2 * j := by omega
            rw [e3, nI, List.map_map, List.getElem?_map, e1]; rfl
          · refine ev_item (ds := (nI (six R)).map D.int) (k := 0 + (j : Nat) * 2 + 1) (ev_lst (ev_name (d := dN (six R)))) (ev_add (ev_name (d := .int (0 + (j : Nat) * 2))) ev_int) (by omega) (by omega) ?_
            have e3 : ((0 : Int) + (j : Nat) * 2 + 1).toNat = 2 * j + 1 := by omega
            rw [e3, nI, List.map_map, List.getElem?_map, e2]; rfl
        · exact congrArg D.list (range_getD R 0 symD)
      · refine st_if (b := false) (σ' := ("texts", .v (.list ((qfold R).1.map dN))) :: ("parts", .v (.list ((qfold R).1.map partD))) :: ("letters", .v (.bytes lettersL)) :: r18 xs R (oct2 R)) (fun B => ?_) (fun e => nomatch e) (fun _ => st_nil (lookup_of_mem (allC rfl (allC rfl (allC rfl (allC rfl (allC rfl (allC rfl all0)))))))) ?_
        · exact (tr_cmp (R₁ := rep B (.int ((qfold R).1.length : Nat))) (R₂ := rep B (.int ((qfold R).1.length : Nat)))
            ((ev_callB (ev_bi N 0 rfl) (ea_cons (R := lst B ((qfold R).1.map dN)) (ev_lst ev_name) ea_nil) (co_lenL (by simp only [List.length_map, sizeLine]; omega))).cast (by rw [List.length_map]))
            ((ev_callB (ev_bi N 0 rfl) (ea_cons (R := lst B ((qfold R).1.map partD)) (ev_lst ev_name) ea_nil) (co_lenL (by simp only [List.length_map, sizeLine]; omega))).cast (by rw [List.length_map])) fun A s v₁ v₂ _ _ q₁ q₂ => cmp_ne q₁ q₂).cast' (by simp)
        · refine st_assign (d := .int (24365 + xs.sum)) (fun B => ev_add ev_int (ev_callB (ev_bi N 6 rfl) (ea_cons (R := rep B (.arg xs)) ev_name ea_nil) co_sum)) ?_ (.inl rfl)
          generalize 24365 + xs.sum = z
          have hz0 : 0 ≤ z % 256 ∧ z % 256 < 256 := by omega
          have hz1 : 0 ≤ z / 256 % 256 ∧ z / 256 % 256 < 256 := by omega
          refine st_assign (d := .bytes [(z % 256).toNat.toUInt8, (z / 256 % 256).toNat.toUInt8]) (fun B => ?_) ?_ (.inl rfl)
          · refine ev_callT (ev_bi N 2 rfl) (ea_cons (R := lst B ([z % 256, z / 256 % 256].map D.int)) (ev_lst (ev_list (ds := [.int (z % 256), .int (z / 256 % 256)]) (ea_cons (ev_mod (ev_name (d := .int z)) ev_int (by decide)) (ea_cons (ev_mod (ev_div (ev_name (d := .int z)) ev_int (by decide) (by decide)) ev_int (by decide)) ea_nil)))) ea_nil) (co_bytes (xs := [z % 256, z / 256 % 256]) ?_ (by simp [sizeLine]))
            intro x hx
            simp only [List.mem_cons, List.not_mem_nil, or_false] at hx
            rcases hx with rfl | rfl
            · exact hz0
            · exact hz1
          · refine St.weaken (σ' := c18 (qfold R).1 [(z % 256).toNat.toUInt8, (z / 256 % 256).toNat.toUInt8]) ?_ (lookup_of_mem (allC rfl (allC rfl (allC rfl (allC rfl all0)))))
            exact @st_law3 prog w mg mb B n N L f q cd (qfold R).1 _ _ (fun t ht => by have := q5 t ht; omega) q7 fb hfb
end
end Mine

set_option maxRecDepth 100000
namespace Mine
open PySem PyProof.Rows PySem.W

def rowN (xs : List Int) : List Nat := (xs.take 12).map fun x => (x % 4096).toNat

section
variable {prog : Program} {w : World} {mg mb : Str → Option Value} {env : Env} {B : Addr → Prop} {σ : List (Str × Sl)} {n : Nat}

theorem get_int {l : List Int} {j : Nat} (h : j < l.length) : (l.map D.int)[j]? = some (.int (l.getD j 0)) := by simp [h]
theorem rep1 (k : Nat) : (List.replicate k [D.int 0]).flatten = (nI (List.replicate k 0)).map D.int := by
  induction k with
  | zero => rfl
  | succ k ih => rw [List.replicate_succ, List.flatten_cons, ih, List.replicate_succ]; rfl

set_option maxHeartbeats 4000000 in
theorem st_law1 (N : Nm mg mb) {L f : Addr} {q : Str} {cd : Value} {xs : List Int} (hx : xs.length ≤ 63) {fb ft fp : Addr} (hfb : mg "b64encode" = some (.ref fb)) (hft : mg "_law_texts" = some (.ref ft)) (hfp : mg "_law_parts" = some (.ref fp)) :
    St prog w mg mb (envC (defAt 18).2.2 L (cellsFrom (L + 1) (defAt 18).2.2.names []) q f cd) B (n + 3) [("script", .v (.arg xs))] (defAt 18).2.1 (PRet B (.bool true)) := by
  have hl : (xs.take 12).length ≤ 12 := by rw [List.length_take]; omega
  have hr : (rowN xs).length = (xs.take 12).length := by simp [rowN]
  have e0 : D.list ((List.range (xs.take 12).length).map fun j => D.int ((xs.take 12).getD j 0 % 4096)) = dN (rowN xs) := by
    rw [range_getD (xs.take 12) 0 fun x => D.int (x % 4096), dN, dI, nI, rowN, List.map_map, List.map_map]
    refine congrArg D.list (List.map_congr_left fun x _ => ?_)
    show D.int (x % 4096) = D.int (((x % 4096).toNat : Nat) : Int)
    rw [Int.toNat_of_nonneg (by omega)]
  refine st_comp (N := (xs.take 12).length) (ds := (xs.take 12).map D.int) (d := fun j => .int ((xs.take 12).getD j 0)) (d' := fun j => .int ((xs.take 12).getD j 0 % 4096)) (cl := []) (σf := [])
    ((src_list (ds := (xs.take 12).map D.int) fun B => ev_head (k := 12) (ev_name (d := .arg xs)) ev_int (by simp only [sizeLine]; omega)).cast (by simp)) (fun j hj => get_int hj) (frees_of all0) (fun j hj C B => ev_mod ev_name ev_int (by decide)) (by simp only [sizeLine]; omega) ?_ rfl rfl rfl (by decide +kernel) rfl (by decide +kernel)
  rw [e0]
  have hR0 : ∀ x ∈ rowN xs, x < 4096 := fun x hx => by
    obtain ⟨y, _, rfl⟩ := List.mem_map.mp hx
    omega
  generalize rowN xs = R0 at *
  refine st_assign (d := dN (R0 ++ List.replicate (2 - R0.length % 2) 0)) (fun B => ?_) ?_ (.inl rfl)
  · have hk : (2 : Int) - (R0.length : Int) % 2 = ((2 - R0.length % 2 : Nat) : Int) := by omega
    refine (ev_cat (a := (nI R0).map D.int) (b := (nI (List.replicate (2 - R0.length % 2) 0)).map D.int) (ev_lst (ev_name (d := dN R0))) (ev_lst ((ev_mulL (ds := [.int 0]) (k := ((2 - R0.length % 2 : Nat) : Int)) (ev_lst (ev_list (ds := [.int 0]) (ea_cons ev_int ea_nil)))
      ((ev_sub ev_int (ev_mod ((ev_callB (ev_bi N 0 rfl) (ea_cons (R := lst B ((nI R0).map D.int)) (ev_lst (ev_name (d := dN R0))) ea_nil) (co_lenL (by simp only [List.length_map, nI, sizeLine]; omega))).cast (d' := .int (R0.length : Nat)) (by rw [List.length_map, nI, List.length_map])) ev_int (by decide))).cast (by rw [hk])) (by omega) (by omega) (by decide)).cast ?_)) ?_).cast ?_
    · rw [Int.toNat_natCast, rep1]
    · simp only [List.length_map, nI, List.length_replicate, sizeLine]; omega
    · simp [dN, dI, nI]
  · obtain ⟨K, hK⟩ : ∃ K, (R0 ++ List.replicate (2 - R0.length % 2) 0).length = 2 * K := ⟨(R0.length + (2 - R0.length % 2)) / 2, by rw [List.length_append, List.length_replicate]; omega⟩
    have hK7 : K ≤ 7 := by rw [List.length_append, List.length_replicate] at hK; omega
    refine St.weaken (σ' := [("row", .v (dN (R0 ++ List.replicate (2 - R0.length % 2) 0))), ("script", .v (.arg xs))]) ?_ (lookup_of_mem (allC rfl (allC rfl all0)))
    refine @st_law2 prog w mg mb B n N L f q cd xs _ K (fun x hx => ?_) hK hK7 fb ft fp hfb hft hfp
    rcases List.mem_append.mp hx with h | h
    · exact hR0 x h
    · rw [(List.mem_replicate.mp h).2]; decide
end
end Mine

open PySem PySem.W PyProof.Rows
set_option maxRecDepth 100000
set_option maxHeartbeats 8000000
namespace Mine
open_top hd for PySem.Challenge.rw_mr0017_01
end Mine

open PySem PySem.W PyProof.Rows
set_option maxRecDepth 100000
set_option maxHeartbeats 8000000
namespace Mine

noncomputable def esG (P : Params) : Array DictEntry := match List.lookup 3 (hd.heap_39 P) with
  | some o => (match o.data with | .dict es _ => es | _ => #[])
  | none => #[]

theorem mg_at {P : Params} {h : Heap} {mg : Str → Option Value} (KX : (hd.heap_39 P).In h) (ns : h.Ns mainGlobals mg) (name : Str) : mg name = nsFind (esG P) name := by
  obtain ⟨o, es, ep, ho, hd, _, hm⟩ := ns
  have e := KX 3 _ rfl
  have ho' : h.get? 3 = some o := ho
  rw [e] at ho'
  have eo := Option.some.inj ho'
  subst eo
  have e2 : es = esG P := by
    have := hd
    injection this with e3 e4
    exact e3.symm
  rw [← hm, e2]

theorem f28 {P : Params} {h : Heap} (KX : (hd.heap_39 P).In h) : FnIs h 28 "_buffer" 2 .none .none := ⟨_, _, _, _, _, _, KX 28 _ rfl, rfl, _, _, _, _, rfl, KX _ _ rfl, rfl, rfl⟩
theorem g28 (P : Params) : nsFind (esG P) "_buffer" = some (.ref 28) := by rfl
theorem f35 {P : Params} {h : Heap} (KX : (hd.heap_39 P).In h) : FnIs h 35 "_truth" 3 .none .none := ⟨_, _, _, _, _, _, KX 35 _ rfl, rfl, _, _, _, _, rfl, KX _ _ rfl, rfl, rfl⟩
theorem g35 (P : Params) : nsFind (esG P) "_truth" = some (.ref 35) := by rfl
theorem f58 {P : Params} {h : Heap} (KX : (hd.heap_39 P).In h) : FnIs h 58 "ISTERMINAL" 11 .none .none := ⟨_, _, _, _, _, _, KX 58 _ rfl, rfl, _, _, _, _, rfl, KX _ _ rfl, rfl, rfl⟩
theorem g58 (P : Params) : nsFind (esG P) "ISTERMINAL" = some (.ref 58) := by rfl
theorem f65 {P : Params} {h : Heap} (KX : (hd.heap_39 P).In h) : FnIs h 65 "ISNONTERMINAL" 12 .none .none := ⟨_, _, _, _, _, _, KX 65 _ rfl, rfl, _, _, _, _, rfl, KX _ _ rfl, rfl, rfl⟩
theorem g65 (P : Params) : nsFind (esG P) "ISNONTERMINAL" = some (.ref 65) := by rfl
theorem f72 {P : Params} {h : Heap} (KX : (hd.heap_39 P).In h) : FnIs h 72 "ISEOF" 13 .none .none := ⟨_, _, _, _, _, _, KX 72 _ rfl, rfl, _, _, _, _, rfl, KX _ _ rfl, rfl, rfl⟩
theorem g72 (P : Params) : nsFind (esG P) "ISEOF" = some (.ref 72) := by rfl
theorem f79 {P : Params} {h : Heap} (KX : (hd.heap_39 P).In h) : FnIs h 79 "_law_texts" 15 .none .none := ⟨_, _, _, _, _, _, KX 79 _ rfl, rfl, _, _, _, _, rfl, KX _ _ rfl, rfl, rfl⟩
theorem g79 (P : Params) : nsFind (esG P) "_law_texts" = some (.ref 79) := by rfl
theorem f86 {P : Params} {h : Heap} (KX : (hd.heap_39 P).In h) : FnIs h 86 "_law_part" 16 .none .none := ⟨_, _, _, _, _, _, KX 86 _ rfl, rfl, _, _, _, _, rfl, KX _ _ rfl, rfl, rfl⟩
theorem g86 (P : Params) : nsFind (esG P) "_law_part" = some (.ref 86) := by rfl
theorem f91 {P : Params} {h : Heap} (KX : (hd.heap_39 P).In h) : FnIs h 91 "_law_parts" 17 .none .none := ⟨_, _, _, _, _, _, KX 91 _ rfl, rfl, _, _, _, _, rfl, KX _ _ rfl, rfl, rfl⟩
theorem g91 (P : Params) : nsFind (esG P) "_law_parts" = some (.ref 91) := by rfl
theorem f96 {P : Params} {h : Heap} (KX : (hd.heap_39 P).In h) : FnIs h 96 "law" 18 .none .none := ⟨_, _, _, _, _, _, KX 96 _ rfl, rfl, _, _, _, _, rfl, KX _ _ rfl, rfl, rfl⟩
theorem g96 (P : Params) : nsFind (esG P) "law" = some (.ref 96) := by rfl
theorem f51 {P : Params} {h : Heap} (KX : (hd.heap_39 P).In h) : ∃ T o k, FnIs h 51 "b64encode" 7 (.ref T) .none ∧ h.get? T = some o ∧ o.data = .seq #[.none] k := ⟨_, _, _, ⟨_, _, _, _, _, _, KX 51 _ rfl, rfl, _, _, _, _, rfl, KX _ _ rfl, rfl, rfl⟩, KX _ _ rfl, rfl⟩
theorem g51 (P : Params) : nsFind (esG P) "b64encode" = some (.ref 51) := by rfl
theorem f43 {P : Params} {h : Heap} (KX : (hd.heap_39 P).In h) : ∃ kV, FnIs h 43 "b2a_base64" 5 .none kV := ⟨_, _, _, _, _, _, _, KX 43 _ rfl, rfl, _, _, _, _, rfl, KX _ _ rfl, rfl, rfl⟩
theorem g43 (P : Params) : nsFind (esG P) "b2a_base64" = some (.ref 43) := by rfl
theorem n_len (P : Params) : nsFind (esG P) "len" = none := by rfl
theorem b_len : bootBuiltins "len" = some (.builtin "len") := by decide +kernel
theorem n_type (P : Params) : nsFind (esG P) "type" = none := by rfl
theorem b_type : bootBuiltins "type" = some (.type "type") := by decide +kernel
theorem n_bytes (P : Params) : nsFind (esG P) "bytes" = none := by rfl
theorem b_bytes : bootBuiltins "bytes" = some (.type "bytes") := by decide +kernel
theorem n_int (P : Params) : nsFind (esG P) "int" = none := by rfl
theorem b_int : bootBuiltins "int" = some (.type "int") := by decide +kernel
theorem n_range (P : Params) : nsFind (esG P) "range" = none := by rfl
theorem b_range : bootBuiltins "range" = some (.type "range") := by decide +kernel
theorem n_bool (P : Params) : nsFind (esG P) "bool" = none := by rfl
theorem b_bool : bootBuiltins "bool" = some (.type "bool") := by decide +kernel
theorem n_sum (P : Params) : nsFind (esG P) "sum" = none := by rfl
theorem b_sum : bootBuiltins "sum" = some (.builtin "sum") := by decide +kernel
theorem n_enumerate (P : Params) : nsFind (esG P) "enumerate" = none := by rfl
theorem b_enumerate : bootBuiltins "enumerate" = some (.type "enumerate") := by decide +kernel
theorem n_zip (P : Params) : nsFind (esG P) "zip" = none := by rfl
theorem b_zip : bootBuiltins "zip" = some (.type "zip") := by decide +kernel
theorem n_isinstance (P : Params) : nsFind (esG P) "isinstance" = none := by rfl
theorem b_isinstance : bootBuiltins "isinstance" = some (.builtin "isinstance") := by decide +kernel

theorem nm_of {P : Params} {h : Heap} {mg mb : Str → Option Value} (KX : (hd.heap_39 P).In h) (ns : h.Ns mainGlobals mg) (hb : ∀ x : Str, x ≠ "__name__" → mb x = bootBuiltins x) : Nm mg mb := by
  refine ⟨?_, ⟨212, (mg_at KX ns _).trans rfl⟩, ⟨243, (mg_at KX ns _).trans rfl⟩, ⟨241, (mg_at KX ns _).trans rfl⟩⟩
  exact allC ⟨(mg_at KX ns _).trans (n_len P), (hb _ (by decide)).trans b_len⟩ (allC ⟨(mg_at KX ns _).trans (n_type P), (hb _ (by decide)).trans b_type⟩ (allC ⟨(mg_at KX ns _).trans (n_bytes P), (hb _ (by decide)).trans b_bytes⟩ (allC ⟨(mg_at KX ns _).trans (n_int P), (hb _ (by decide)).trans b_int⟩ (allC ⟨(mg_at KX ns _).trans (n_range P), (hb _ (by decide)).trans b_range⟩ (allC ⟨(mg_at KX ns _).trans (n_bool P), (hb _ (by decide)).trans b_bool⟩ (allC ⟨(mg_at KX ns _).trans (n_sum P), (hb _ (by decide)).trans b_sum⟩ (allC ⟨(mg_at KX ns _).trans (n_enumerate P), (hb _ (by decide)).trans b_enumerate⟩ (allC ⟨(mg_at KX ns _).trans (n_zip P), (hb _ (by decide)).trans b_zip⟩ (allC ⟨(mg_at KX ns _).trans (n_isinstance P), (hb _ (by decide)).trans b_isinstance⟩ (all0))))))))))

theorem glo_of {P : Params} {h : Heap} {mg mb : Str → Option Value} (KX : (hd.heap_39 P).In h) (ns : h.Ns mainGlobals mg) (nb : h.Ns builtinsNs mb) (nl : h.NoLimit) : Glo mg mb h := by
  refine ⟨ns, nb, nl, ?_, ?_, ?_⟩
  · exact allC ⟨28, (mg_at KX ns _).trans (g28 P), f28 KX⟩ (allC ⟨35, (mg_at KX ns _).trans (g35 P), f35 KX⟩ (allC ⟨58, (mg_at KX ns _).trans (g58 P), f58 KX⟩ (allC ⟨65, (mg_at KX ns _).trans (g65 P), f65 KX⟩ (allC ⟨72, (mg_at KX ns _).trans (g72 P), f72 KX⟩ (allC ⟨79, (mg_at KX ns _).trans (g79 P), f79 KX⟩ (allC ⟨86, (mg_at KX ns _).trans (g86 P), f86 KX⟩ (allC ⟨91, (mg_at KX ns _).trans (g91 P), f91 KX⟩ (all0))))))))
  · obtain ⟨T, o, k, h1, h2, h3⟩ := f51 KX
    exact ⟨51, T, o, k, (mg_at KX ns _).trans (g51 P), h1, h2, h3⟩
  · obtain ⟨kV, h1⟩ := f43 KX
    exact ⟨43, kV, (mg_at KX ns _).trans (g43 P), h1⟩

theorem bind18 (a : Value) (doc pm : Value) (an : Option Addr) (cd ct : Value) : bindArgs (PySem.W.fnOf (Str.ofString "law") (Str.ofString "law") (defAt 18).1 (defAt 18).2.1 (defAt 18).2.2 .none .none doc pm an cd ct) ⟨[a], []⟩ = pure [(Str.ofString "script", a)] := by rfl
theorem room : AOk 4 callerA := ⟨rfl, by decide, by decide⟩

theorem call_law {prog : Program} {w : World} {P : Params} {s : Shared} {mg mb : Str → Option Value} (KX : (hd.heap_39 P).In s.heap) (ns : s.heap.Ns mainGlobals mg) (nb : s.heap.Ns builtinsNs mb) (nl : s.heap.NoLimit) (hb : ∀ x : Str, x ≠ "__name__" → mb x = bootBuiltins x)
    {l : Addr} {vs : List Value} {xs : List Int} (hL : s.heap.IsList l vs.toArray) (hI : IntsAre vs xs) (hx : xs.length ≤ 63) :
    wpAny (model prog w) callerA (call (.ref 96) [.ref l]) (fun v s' => Keeps s s' ∧ v = .bool true) Fl s := by
  have N := nm_of KX ns hb
  have G := glo_of KX ns nb nl
  have hst : ∀ L q cd, St prog w mg mb (envC (defAt 18).2.2 L (cellsFrom (L + 1) (defAt 18).2.2.names []) q 96 cd) (fun _ => False) 3 [("script", .v (.arg xs))] (defAt 18).2.1 (PRet (fun _ => False) (.bool true)) :=
    fun L q cd => @st_law1 prog w mg mb (fun _ => False) 0 N L 96 q cd xs hx 51 79 91 ((mg_at KX ns _).trans (g51 P)) ((mg_at KX ns _).trans (g79 P)) ((mg_at KX ns _).trans (g91 P))
  have := call_fnC (n := 3) (binds := [("script", .ref l)]) (σ := [("script", .v (.arg xs))]) (B0 := fun _ => False) room G (fun _ q => q.elim) (f96 KX) (fun doc pm an cd ct => bind18 (.ref l) doc pm an cd ct) (allC rfl all0)
    (look_mem (P := fun z sl => ∃ u, (∀ (kindOf : Str → Option NameKind), kindOf = (fun y => (defAt 18).2.2.names.lookup y) → bindL kindOf [("script", .ref l)] (fun _ => none) z = some u) ∧ (defAt 18).2.2.names.lookup z = some .local ∧ SlR s.heap (fun _ => False) u sl ∧ ∀ ds, sl ≠ .own ds)
      (allC (a := (_, Sl.v _)) ⟨.ref l, fun k hk => by subst hk; rfl, rfl, .arg (fun q => q) hL hI, fun _ e => nomatch e⟩ all0)) hst rfl rfl rfl
  exact wpAny_mono this (fun v s' ⟨k, r⟩ => ⟨k, by cases r; rfl⟩) fun _ _ x => x

end Mine

open PySem PySem.W PyProof.Rows
set_option maxRecDepth 100000
set_option maxHeartbeats 8000000
theorem PySem.Challenge.cw_mr0017_01_holds : PySem.Challenge.rw_mr0017_01.Holds := by
  exact Mine.hd (by
    intro w s₀ s₁ mg mb G Y fa o pm cd doc dV kV ho hdd hcd hD hmg hg args vals as hpre hlay hrd hwl hlo
    have KX := kIn_of Y
    refine Ground.open G ?_
    intro T B D TE TW
    have hfa : fa = 96 := by
      have e : mg "law" = some (.ref fa) := hmg
      rw [Mine.mg_at KX T.g, Mine.g96] at e
      exact (Value.ref.inj (Option.some.inj e)).symm
    subst hfa
    clear hdd ho hcd hD hmg
    have t1 := T.g
    have t2 := T.b
    have t3 := T.nolimit
    have t4 := T.builtins
    clear B D TE TW T
    wrow_args hpre hlay hrd hwl hlo
    all_goals
      rename_i xs _ _ _ _ _ _ _ l vs _ hL _ _ _ hI _ hc _
      refine wpAny_mono (Mine.call_law KX t1 t2 t3 t4 hL hI (by omega)) (fun v s' k => ?_) (fun _ _ x => x.elim)
      obtain ⟨⟨h, tk, e, kp⟩, ev⟩ := k
      subst ev e
      refine GoodW.toG ⟨.inl ⟨_, _, _, rfl, ?_, .bool true, ?_, unshared_nil⟩, kp, rfl, hg⟩
      · exact raisesW_false (by wrow_none_raised)
      · kc_post)
