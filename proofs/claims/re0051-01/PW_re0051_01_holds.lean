import PyProof.Rows.All
import Wide.All
import OpenK.AllK
import Wide.FinOn
import PySem.Challenge.RW_re0051_01
set_option Elab.async false
set_option linter.unusedVariables false
section
open PySem PySem.W PyProof.Rows
set_option maxRecDepth 100000
namespace Mine

/-- plain data -/
inductive PV where
  | none
  | bool (b : Bool)
  | int (i : Int)
  | float (x : UInt64)
  | str (s : Str)
  | tuple (ds : List PV)
  | list (ds : List PV)
  | ilist (ds : List PV)

def PTup (h : Heap) (a : Addr) (vs : Array Value) : Prop := ∃ n, h.get? a = some { cls := .type "tuple", data := .seq vs n }
theorem PTup.isTuple {h : Heap} {a : Addr} {vs : Array Value} (x : PTup h a vs) : h.IsTuple a vs := let ⟨n, e⟩ := x; ⟨_, e, rfl, n, rfl⟩
theorem PTup.at {h h' : Heap} {a : Addr} {vs : Array Value} (x : PTup h a vs) (k : ∀ o, h.get? a = some o → h'.get? a = some o) : PTup h' a vs := let ⟨n, e⟩ := x; ⟨n, k _ e⟩

mutual
inductive DI (h : Heap) (ow : List Addr) : Value → PV → Prop
  | none : DI h ow .none .none
  | bool (b : Bool) : DI h ow (.bool b) (.bool b)
  | int (i : Int) (t : Tok) : DI h ow (.int i t) (.int i)
  | float (x : UInt64) (t : Tok) : DI h ow (.float x t) (.float x)
  | str (x : Str) (t : Tok) : DI h ow (.str x t) (.str x)
  | tuple {a : Addr} {vs : Array Value} {ds : List PV} : a ∉ ow → PTup h a vs → DIs h ow vs.toList ds → DI h ow (.ref a) (.tuple ds)
  | list {a : Addr} {vs : Array Value} {ds : List PV} : a ∉ ow → h.PlainList a vs → DIs h ow vs.toList ds → DI h ow (.ref a) (.list ds)
  | ilist {a : Addr} {vs : Array Value} {ds : List PV} : a ∉ ow → h.IsList a vs → DIs h ow vs.toList ds → DI h ow (.ref a) (.ilist ds)
inductive DIs (h : Heap) (ow : List Addr) : List Value → List PV → Prop
  | nil : DIs h ow [] []
  | cons {v : Value} {vs : List Value} {d : PV} {ds : List PV} : DI h ow v d → DIs h ow vs ds → DIs h ow (v :: vs) (d :: ds)
end

/-- lists and tuples outside `ow` stay -/
def SeqO (o : Obj) : Prop := ∃ vs n, o.data = .seq vs n
def KeepLT (ow : List Addr) (h h' : Heap) : Prop :=
  ∀ b o, b ∉ ow → h.get? b = some o → SeqO o → h'.get? b = some o

mutual
theorem DI.keep {h h' : Heap} {ow ow' : List Addr} (hk : KeepLT ow h h') (ho : ∀ a ∈ ow', a ∈ ow ∨ h.get? a = .none) : ∀ {v : Value} {d : PV}, DI h ow v d → DI h' ow' v d
  | _, _, .none => .none
  | _, _, .bool b => .bool b
  | _, _, .int i t => .int i t
  | _, _, .float x t => .float x t
  | _, _, .str x t => .str x t
  | _, _, .tuple (a := a) ha ⟨n, hg⟩ r => .tuple (fun hm => (ho a hm).elim ha fun e => by rw [hg] at e; cases e) ⟨n, hk a _ ha hg ⟨_, _, rfl⟩⟩ (DIs.keep hk ho r)
  | _, _, .list (a := a) ha ⟨n, hg⟩ r => .list (fun hm => (ho a hm).elim ha fun e => by rw [hg] at e; cases e) ⟨n, hk a _ ha hg ⟨_, _, rfl⟩⟩ (DIs.keep hk ho r)
  | _, _, .ilist (a := a) ha ⟨o, hg, hc, n, hd⟩ r => .ilist (fun hm => (ho a hm).elim ha fun e => by rw [hg] at e; cases e) ⟨o, hk a _ ha hg ⟨_, _, hd⟩, hc, n, hd⟩ (DIs.keep hk ho r)
theorem DIs.keep {h h' : Heap} {ow ow' : List Addr} (hk : KeepLT ow h h') (ho : ∀ a ∈ ow', a ∈ ow ∨ h.get? a = .none) : ∀ {vs : List Value} {ds : List PV}, DIs h ow vs ds → DIs h' ow' vs ds
  | _, _, .nil => .nil
  | _, _, .cons x r => .cons (DI.keep hk ho x) (DIs.keep hk ho r)
end

abbrev Ext (h h' : Heap) : Prop := ∀ b o, h.get? b = some o → h'.get? b = some o
theorem Ext.lt {h h' : Heap} (e : Ext h h') (ow : List Addr) : KeepLT ow h h' := fun b o _ g _ => e b o g
theorem DI.ext {h h' : Heap} {ow : List Addr} (e : Ext h h') {v : Value} {d : PV} (x : DI h ow v d) : DI h' ow v d := x.keep (e.lt ow) fun _ m => .inl m
theorem DIs.ext {h h' : Heap} {ow : List Addr} (e : Ext h h') {v : List Value} {d : List PV} (x : DIs h ow v d) : DIs h' ow v d := x.keep (e.lt ow) fun _ m => .inl m

theorem DIs.length {h : Heap} {ow : List Addr} : ∀ {vs : List Value} {ds : List PV}, DIs h ow vs ds → vs.length = ds.length
  | _, _, .nil => rfl
  | _, _, .cons _ r => by rw [List.length_cons, List.length_cons, r.length]
theorem DIs.append {h : Heap} {ow : List Addr} : ∀ {vs ws : List Value} {ds es : List PV}, DIs h ow vs ds → DIs h ow ws es → DIs h ow (vs ++ ws) (ds ++ es)
  | _, _, _, _, .nil, k => k
  | _, _, _, _, .cons x r, k => .cons x (r.append k)
theorem DIs.get {h : Heap} {ow : List Addr} : ∀ {vs : List Value} {ds : List PV}, DIs h ow vs ds → ∀ {k : Nat} {d : PV}, ds[k]? = some d → ∃ v, vs[k]? = some v ∧ DI h ow v d
  | _, _, .nil, k, d, e => by simp at e
  | _, _, .cons x r, 0, d, e => by simp at e; exact ⟨_, rfl, e ▸ x⟩
  | _, _, .cons x r, k + 1, d, e => by
    simp at e
    obtain ⟨v, hv, hd⟩ := r.get e
    exact ⟨v, by simpa using hv, hd⟩
theorem DIs.get' {h : Heap} {ow : List Addr} : ∀ {vs : List Value} {ds : List PV}, DIs h ow vs ds → ∀ {k : Nat} {v : Value}, vs[k]? = some v → ∃ d, ds[k]? = some d ∧ DI h ow v d
  | _, _, .nil, k, d, e => by simp at e
  | _, _, .cons x r, 0, d, e => by simp at e; exact ⟨_, rfl, e ▸ x⟩
  | _, _, .cons x r, k + 1, d, e => by
    simp at e
    obtain ⟨v, hv, hd⟩ := r.get' e
    exact ⟨v, by simpa using hv, hd⟩
theorem DIs.take {h : Heap} {ow : List Addr} : ∀ {vs : List Value} {ds : List PV}, DIs h ow vs ds → ∀ (k : Nat), DIs h ow (vs.take k) (ds.take k)
  | _, _, .nil, k => by simp; exact .nil
  | _, _, .cons x r, 0 => .nil
  | _, _, .cons x r, k + 1 => .cons x (r.take k)
theorem DIs.drop {h : Heap} {ow : List Addr} : ∀ {vs : List Value} {ds : List PV}, DIs h ow vs ds → ∀ (k : Nat), DIs h ow (vs.drop k) (ds.drop k)
  | _, _, .nil, k => by simp; exact .nil
  | _, _, .cons x r, 0 => .cons x r
  | _, _, .cons x r, k + 1 => r.drop k
theorem DIs.one {h : Heap} {ow : List Addr} {v : Value} {d : PV} (x : DI h ow v d) : DIs h ow [v] [d] := .cons x .nil

/-- what an owned object holds -/
inductive OV where
  | lst (ds : List PV)
  | arr (ds : List PV)
  | dct (kvs : List (Int × Int))

inductive Bnd where
  | un
  | fz (d : PV)
  | ow (a : Addr) (o : OV)
  | raw (v : Value)

def OH (prog : Program) (w : World) (h : Heap) (ow : List Addr) (a : Addr) : OV → Prop
  | .lst ds => ∃ vs, h.PlainList a vs ∧ DIs h ow vs.toList ds
  | .arr ds => ∃ vs, h.IsList a vs ∧ DIs h ow vs.toList ds
  | .dct kvs => IntTab prog w h a (kvs.map fun p => (PyData.int p.1, PyData.int p.2))

/-- the whole frame: dict of locals and cells -/
structure FrOk (env : Env) (h : Heap) (m : Str → Option Value) : Prop where
  loc : ∃ ml, h.Ns env.locals ml ∧ ∀ x, env.kindOf x = some .local → ml x = m x
  cel : ∀ x c, env.cells.lookup x = some c → h.IsCell c (m x)

structure Fs (env : Env) (ns : List Str) : Prop where
  kind : env.scope.kind = .function
  nd : ns.Nodup
  kn : ∀ x ∈ ns, env.kindOf x = some .local ∨ (env.kindOf x = some .cell ∧ ∃ c, env.cells.lookup x = some c)
  kx : ∀ x c, env.cells.lookup x = some c → env.kindOf x ≠ some .local
  apart : env.cells.Pairwise fun x y => x.2 ≠ y.2
  gl : env.globals = mainGlobals
  bi : env.builtins = builtinsNs

theorem FrOk.ext {env : Env} {h h' : Heap} {m : Str → Option Value} (e : Ext h h') (x : FrOk env h m) : FrOk env h' m :=
  ⟨let ⟨ml, a, b⟩ := x.loc; ⟨ml, a.keeps e, b⟩, fun y c hc => (x.cel y c hc).keeps e⟩

theorem Ext.trans {h h' h'' : Heap} (a : Ext h h') (b : Ext h' h'') : Ext h h'' := fun x o e => b x o (a x o e)
structure ST (recs : List DefRec) (mg mb : Str → Option Value) (h : Heap) : Prop where
  g : h.Ns mainGlobals mg
  b : h.Ns builtinsNs mb
  nl : h.NoLimit
  fn : ∀ d ∈ recs, ∃ a o pm code doc, mg d.name = some (.ref a) ∧ h.get? a = some o ∧ o.data = .func (Calls.docDef d.name d.params d.body d.scope pm code doc) ∧ h.CodeRec code d.name

theorem ST.ext {recs : List DefRec} {mg mb : Str → Option Value} {h h' : Heap} (e : Ext h h') (x : ST recs mg mb h) : ST recs mg mb h' :=
  ⟨x.g.keeps e, x.b.keeps e, x.nl.keeps e, fun d hd => let ⟨a, o, pm, code, doc, h1, h2, h3, h4⟩ := x.fn d hd; ⟨a, o, pm, code, doc, h1, e _ _ h2, h3, h4.keeps e⟩⟩

/-- the world, the text's defs, and the heap as it stood at the law's call -/
structure Gl where
  prog : Program
  w : World
  recs : List DefRec
  mg : Str → Option Value
  mb : Str → Option Value
  hB : Heap

structure Cx where
  g : Gl
  A : Around
  lv : Nat
  env : Env
  st : List Str
  ns : List Str
  σ : List Bnd
  ow : List Addr

def AOK (lv : Nat) (A : Around) : Prop := A.handled = none ∧ A.depth + lv < recursionLimit ∧ A.units + 8 * lv + 100 < cLine

def BV (prog : Program) (w : World) (h : Heap) (ow : List Addr) (v : Option Value) : Bnd → Prop
  | .un => True
  | .fz d => ∃ x, v = some x ∧ DI h ow x d
  | .ow a o => v = some (.ref a) ∧ a ∈ ow ∧ OH prog w h ow a o
  | .raw x => v = some x

def owLive (ow : List Addr) (h : Heap) : Prop := ∀ a ∈ ow, ∃ o, h.get? a = some o
theorem fresh_not {ow : List Addr} {h : Heap} (x : owLive ow h) : h.objs.size ∉ ow := fun m => by
  obtain ⟨o, e⟩ := x _ m
  exact Nat.lt_irrefl _ (Heap.lt_size e)

structure VS (c : Cx) (h : Heap) : Prop where
  ex : ∃ m, FrOk c.env h m ∧ ∀ (i : Nat) x b, c.ns[i]? = some x → c.σ[i]? = some b → BV c.g.prog c.g.w h c.ow (m x) b
  live : owLive c.ow h
  ln : c.σ.length = c.ns.length

/-- an address that the frame at hand may turn without harm -/
structure New (c : Cx) (b : Addr) : Prop where
  base : c.g.hB.get? b = none
  loc : b ≠ c.env.locals
  cel : ∀ x, c.env.cells.lookup x ≠ some b
  own : b ∉ c.ow

structure CX (c : Cx) (s : Shared) : Prop where
  st : ST c.g.recs c.g.mg c.g.mb c.g.hB
  eb : Ext c.g.hB s.heap
  a : AOK c.lv c.A
  fs : Fs c.env c.ns
  vs : VS c s.heap
  sub : ∀ x ∈ c.st, x ∈ c.ns
  nl : c.g.hB.get? c.env.locals = none
  nc : ∀ x b, c.env.cells.lookup x = some b → c.g.hB.get? b = none
  no : ∀ a ∈ c.ow, c.g.hB.get? a = none ∧ a ≠ c.env.locals ∧ ∀ x, c.env.cells.lookup x ≠ some a

theorem OH.ext {prog : Program} {w : World} {h h' : Heap} {ow : List Addr} {a : Addr} (e : Ext h h') : ∀ {o : OV}, OH prog w h ow a o → OH prog w h' ow a o
  | .lst _, ⟨vs, hl, r⟩ => ⟨vs, hl.at fun o g => e _ o g, r.ext e⟩
  | .arr _, ⟨vs, hl, r⟩ => ⟨vs, hl.at fun o g => e _ o g, r.ext e⟩
  | .dct _, x => TabAt.keep x e
theorem BV.ext {prog : Program} {w : World} {h h' : Heap} {ow : List Addr} {v : Option Value} (e : Ext h h') : ∀ {b : Bnd}, BV prog w h ow v b → BV prog w h' ow v b
  | .un, _ => trivial
  | .fz _, ⟨x, hx, r⟩ => ⟨x, hx, r.ext e⟩
  | .ow _ _, ⟨h1, h2, h3⟩ => ⟨h1, h2, h3.ext e⟩
  | .raw _, x => x
theorem VS.ext {c : Cx} {h h' : Heap} (e : Ext h h') (x : VS c h) : VS c h' :=
  ⟨let ⟨m, a, b⟩ := x.ex; ⟨m, a.ext e, fun i y z h1 h2 => (b i y z h1 h2).ext e⟩, fun a ha => let ⟨o, g⟩ := x.live a ha; ⟨o, e _ _ g⟩, x.ln⟩
/-- every object stays; nothing but heap and marks moves -/
def Kp (s s' : Shared) : Prop := ∃ h' tk, s' = { s with heap := h', toks := tk } ∧ ∀ b o, s.heap.get? b = some o → h'.get? b = some o
theorem CX.keeps {c : Cx} {s s' : Shared} (x : CX c s) (k : Kp s s') : CX c s' := by
  obtain ⟨h', tk, rfl, e⟩ := k
  exact ⟨x.st, fun b o q => e b o (x.eb b o q), x.a, x.fs, x.vs.ext e, x.sub, x.nl, x.nc, x.no⟩

theorem Kp.refl (s : Shared) : Kp s s := ⟨s.heap, s.toks, rfl, fun _ _ e => e⟩
theorem Kp.trans {s s' s'' : Shared} (a : Kp s s') (b : Kp s' s'') : Kp s s'' := by
  obtain ⟨h', tk, rfl, e⟩ := a
  obtain ⟨h'', tk', rfl, e'⟩ := b
  exact ⟨h'', tk', rfl, fun x o q => e' x o (e x o q)⟩
theorem Kp.ext {s s' : Shared} (a : Kp s s') : Ext s.heap s'.heap := by obtain ⟨h', tk, rfl, e⟩ := a; exact e
theorem Kp.tok (s : Shared) (n : Nat) : Kp s { s with toks := n } := ⟨s.heap, n, rfl, fun _ _ e => e⟩
theorem Kp.push (s : Shared) (o : Obj) : Kp s { s with heap := s.heap.push o } := ⟨_, s.toks, rfl, fun _ _ e => Heap.get?_push_of_some _ e⟩

theorem CX.sth {c : Cx} {s : Shared} (x : CX c s) : ST c.g.recs c.g.mg c.g.mb s.heap := x.st.ext x.eb

/-- evaluation gives the datum, and keeps every object -/
def Ev (c : Cx) (e : Expr) (d : PV) : Prop :=
  ∀ s, CX c s → wpAny (model c.g.prog c.g.w) c.A (eval e c.env) (fun v s' => Kp s s' ∧ DI s'.heap c.ow v d) (fun _ _ => False) s
def Tr (c : Cx) (e : Expr) (b : Bool) : Prop :=
  ∀ s, CX c s → wpAny (model c.g.prog c.g.w) c.A (isTrue e c.env (eval e c.env)) (fun r s' => Kp s s' ∧ r = b) (fun _ _ => False) s

/-- an operation on values that stand for data -/
def Op1 (c : Cx) (f : Value → Sem Value) (d r : PV) : Prop :=
  ∀ s v, CX c s → DI s.heap c.ow v d → wpAny (model c.g.prog c.g.w) c.A (f v) (fun v s' => Kp s s' ∧ DI s'.heap c.ow v r) (fun _ _ => False) s
def Op2 (c : Cx) (f : Value → Value → Sem Value) (d e r : PV) : Prop :=
  ∀ s v w, CX c s → DI s.heap c.ow v d → DI s.heap c.ow w e → wpAny (model c.g.prog c.g.w) c.A (f v w) (fun v s' => Kp s s' ∧ DI s'.heap c.ow v r) (fun _ _ => False) s

theorem wp_false {α : Type} {M : Model} {A : Around} {t : Sem α} {Q : α → Shared → Prop} {E : Value → Shared → Prop} {s : Shared} (h : wpAny M A t Q (fun _ _ => False) s) : wpAny M A t Q E s :=
  wpAny_mono h (fun _ _ q => q) fun _ _ f => f.elim

theorem Ev.use {c : Cx} {e : Expr} {d : PV} (h : Ev c e d) {s : Shared} (hs : CX c s) {Q : Value → Shared → Prop} {E : Value → Shared → Prop} (hq : ∀ v s', CX c s' → Kp s s' → DI s'.heap c.ow v d → Q v s') :
    wpAny (model c.g.prog c.g.w) c.A (eval e c.env) Q E s :=
  wpAny_mono (h s hs) (fun v s' q => hq v s' (hs.keeps q.1) q.1 q.2) fun _ _ f => f.elim

theorem ev_none {c : Cx} {k pos} : Ev c (.Constant .none k pos) .none := fun s _ => wpAny_Constant_none ⟨.refl s, .none⟩
theorem ev_bool {c : Cx} {b k pos} : Ev c (.Constant (.bool b) k pos) (.bool b) := fun s _ => wpAny_Constant_bool ⟨.refl s, .bool b⟩
theorem ev_int {c : Cx} {i k pos} : Ev c (.Constant (.int i) k pos) (.int i) := fun s _ => wpAny_Constant_int ⟨.tok s _, .int i _⟩
theorem ev_float {c : Cx} {x k pos} : Ev c (.Constant (.float x) k pos) (.float x) := fun s _ => wpAny_Constant_float ⟨.tok s _, .float x _⟩
theorem ev_str {c : Cx} {x k pos} : Ev c (.Constant (.str x) k pos) (.str x) := fun s _ => wpAny_Constant_str ⟨.tok s _, .str x _⟩

theorem FrOk.load {env : Env} {ns : List Str} {s : Shared} {m : Str → Option Value} (fs : Fs env ns) (fr : FrOk env s.heap m) {i : Nat} {x : Str} (hx : ns[i]? = some x) {v : Value} (hv : m x = some v)
    {M : Model} {A : Around} {Q : Value → Shared → Prop} {E : Value → Shared → Prop} (h : Q v s) : wpAny M A (loadName env x) Q E s := by
  rcases fs.kn x (List.mem_of_getElem? hx) with hl | ⟨hc, c, he⟩
  · obtain ⟨ml, hn, e⟩ := fr.loc
    exact wpAny_loadName_local fs.kind hl hn ((e x hl).trans hv) h
  · exact wpAny_loadName_cell fs.kind hc he (hv ▸ fr.cel x c he) h

theorem ev_name (i : Nat) {c : Cx} {x : Str} {pos : Pos} {d : PV} (hx : c.ns[i]? = some x) (hd : c.σ[i]? = some (.fz d)) (hb : (x == ("__debug__" : Str)) = false := by decide +kernel) : Ev c (.Name x pos) d := fun s hs => by
  obtain ⟨m, fr, hv⟩ := hs.vs.ex
  obtain ⟨v, e, r⟩ := hv i x _ hx hd
  exact wpAny_Name (fr.load hs.fs hx e ⟨.refl s, r⟩) hb

theorem ev_bin {c : Cx} {l r : Expr} {op : Operator} {pos : Pos} {dl dr d : PV} (hl : Ev c l dl) (hr : Ev c r dr) (ho : Op2 c (binaryOp op) dl dr d) : Ev c (.BinOp l op r pos) d := fun s hs =>
  wpAny_BinOp (hl.use hs fun a s₁ h₁ k₁ x₁ => hr.use h₁ fun b s₂ h₂ k₂ x₂ => wpAny_mono (ho s₂ a b h₂ (x₁.ext k₂.ext) x₂) (fun v s' q => ⟨(k₁.trans k₂).trans q.1, q.2⟩) fun _ _ f => f.elim)
theorem ev_cmp {c : Cx} {l r : Expr} {op : CmpOp} {pos : Pos} {dl dr d : PV} (hl : Ev c l dl) (hr : Ev c r dr) (ho : Op2 c (compareOp op) dl dr d) (hm : behindInMarks op r = false := by with_unfolding_all rfl) : Ev c (.Compare l [op] [r] pos) d := fun s hs =>
  wpAny_Compare1 (hl.use hs fun a s₁ h₁ k₁ x₁ => hr.use h₁ fun b s₂ h₂ k₂ x₂ => wpAny_mono (ho s₂ a b h₂ (x₁.ext k₂.ext) x₂) (fun v s' q => ⟨(k₁.trans k₂).trans q.1, q.2⟩) fun _ _ f => f.elim) hm
theorem ev_un {c : Cx} {l : Expr} {op : UnaryOp} {pos : Pos} {dl d : PV} (hl : Ev c l dl) (ho : Op1 c (unaryOp op) dl d) : Ev c (.UnaryOp op l pos) d := fun s hs =>
  wpAny_UnaryOp (hl.use hs fun a s₁ h₁ k₁ x₁ => wpAny_mono (ho s₁ a h₁ x₁) (fun v s' q => ⟨k₁.trans q.1, q.2⟩) fun _ _ f => f.elim)

/-- a test by a comparison -/
theorem tr_cmp {c : Cx} {l r : Expr} {op : CmpOp} {pos : Pos} {dl dr : PV} {b : Bool} (hl : Ev c l dl) (hr : Ev c r dr) (ho : Op2 c (compareOp op) dl dr (.bool b)) (hm : behindInMarks op r = false := by with_unfolding_all rfl) : Tr c (.Compare l [op] [r] pos) b := fun s hs =>
  wpAny_isTrue_Compare1 (hl.use hs fun x s₁ h₁ k₁ x₁ => hr.use h₁ fun y s₂ h₂ k₂ x₂ => wpAny_mono (ho s₂ x y h₂ (x₁.ext k₂.ext) x₂) (fun v s' q => by
    obtain ⟨k, z⟩ := q
    cases z
    exact wpAny_truthy_bool ⟨(k₁.trans k₂).trans k, rfl⟩) fun _ _ f => f.elim) hm
theorem Tr.use {c : Cx} {e : Expr} {b : Bool} (h : Tr c e b) {s : Shared} (hs : CX c s) {Q : Bool → Shared → Prop} {E : Value → Shared → Prop} (hq : ∀ s', CX c s' → Kp s s' → Q b s') :
    wpAny (model c.g.prog c.g.w) c.A (isTrue e c.env (eval e c.env)) Q E s :=
  wpAny_mono (h s hs) (fun v s' q => by obtain ⟨k, rfl⟩ := q; exact hq s' (hs.keeps k) k) fun _ _ f => f.elim
theorem tr_not {c : Cx} {x : Expr} {pos : Pos} {b : Bool} (h : Tr c x b) : Tr c (.UnaryOp .Not x pos) (!b) := fun s hs =>
  wpAny_isTrue_Not (h.use hs fun s' _ k => ⟨k, rfl⟩)

def Trs (c : Cx) (op : BoolOp) (es : List Expr) (b : Bool) : Prop :=
  ∀ s, CX c s → wpAny (model c.g.prog c.g.w) c.A (allTrue op es c.env) (fun r s' => Kp s s' ∧ r = b) (fun _ _ => False) s
theorem trs_and_nil {c : Cx} : Trs c .And [] true := fun s _ => wpAny_allTrue_And_nil ⟨.refl s, rfl⟩
theorem trs_or_nil {c : Cx} : Trs c .Or [] false := fun s _ => wpAny_allTrue_Or_nil ⟨.refl s, rfl⟩
theorem trs_and {c : Cx} {x : Expr} {es : List Expr} {b r : Bool} (h : Tr c x b) (ht : b = true → Trs c .And es r) : Trs c .And (x :: es) (b && r) := fun s hs =>
  wpAny_allTrue_And_cons (h.use hs fun s₁ h₁ k₁ => by
    cases b with
    | false => exact ⟨k₁, rfl⟩
    | true => exact wpAny_mono (ht rfl s₁ h₁) (fun _ _ q => ⟨k₁.trans q.1, q.2⟩) fun _ _ f => f.elim)
theorem trs_or {c : Cx} {x : Expr} {es : List Expr} {b r : Bool} (h : Tr c x b) (ht : b = false → Trs c .Or es r) : Trs c .Or (x :: es) (b || r) := fun s hs =>
  wpAny_allTrue_Or_cons (h.use hs fun s₁ h₁ k₁ => by
    cases b with
    | true => exact ⟨k₁, rfl⟩
    | false => exact wpAny_mono (ht rfl s₁ h₁) (fun _ _ q => ⟨k₁.trans q.1, q.2⟩) fun _ _ f => f.elim)
theorem tr_bool {c : Cx} {op : BoolOp} {es : List Expr} {pos : Pos} {b : Bool} (h : Trs c op es b) : Tr c (.BoolOp op es pos) b := fun s hs =>
  wpAny_isTrue_BoolOp (h s hs)

theorem ev_if {c : Cx} {t x y : Expr} {pos : Pos} {b : Bool} {d : PV} (h : Tr c t b) (hx : b = true → Ev c x d) (hy : b = false → Ev c y d) : Ev c (.IfExp t x y pos) d := fun s hs =>
  wpAny_IfExp (h.use hs fun s₁ h₁ k₁ => by
    cases b with
    | true => exact (hx rfl).use h₁ fun v s' _ k z => ⟨k₁.trans k, z⟩
    | false => exact (hy rfl).use h₁ fun v s' _ k z => ⟨k₁.trans k, z⟩)

/-- several expressions, one after another -/
def Evs (c : Cx) (es : List Expr) (ds : List PV) : Prop :=
  ∀ pos s, CX c s → wpAny (model c.g.prog c.g.w) c.A (spliced (backTo pos (starEach es c.env))) (fun vs s' => Kp s s' ∧ DIs s'.heap c.ow vs ds) (fun _ _ => False) s
theorem evs_nil {c : Cx} : Evs c [] [] := fun _ s _ => wpAny_items_nil ⟨.refl s, .nil⟩
def plainE : Expr → Bool
  | .Starred .. => false
  | _ => true
theorem starEach_plain {e : Expr} {es : List Expr} {env : Env} (h : plainE e = true) : starEach (e :: es) env = (false, eval e env) :: starEach es env := by
  cases e <;> first | rfl | cases h
theorem evs_cons {c : Cx} {e : Expr} {es : List Expr} {d : PV} {ds : List PV} (h : Ev c e d) (r : Evs c es ds) (hp : plainE e = true := by rfl) : Evs c (e :: es) (d :: ds) := fun pos s hs =>
  wpAny_items_cons (h.use hs fun v s₁ h₁ k₁ x₁ => wpAny_mono (r pos s₁ h₁) (fun vs s' q => ⟨k₁.trans q.1, .cons (x₁.ext q.1.ext) q.2⟩) fun _ _ f => f.elim) (starEach_plain hp)

theorem Evs.use {c : Cx} {es : List Expr} {ds : List PV} (h : Evs c es ds) {pos : Pos} {s : Shared} (hs : CX c s) {Q : List Value → Shared → Prop} {E : Value → Shared → Prop} (hq : ∀ vs s', CX c s' → Kp s s' → DIs s'.heap c.ow vs ds → Q vs s') :
    wpAny (model c.g.prog c.g.w) c.A (spliced (backTo pos (starEach es c.env))) Q E s :=
  wpAny_mono (h pos s hs) (fun v s' q => hq v s' (hs.keeps q.1) q.1 q.2) fun _ _ f => f.elim

theorem ev_list {c : Cx} {es : List Expr} {pos : Pos} {ds : List PV} (h : Evs c es ds) (hz : ds.length ≤ sizeLine := by (show _ ≤ 16777216); exact Nat.le_of_ble_eq_true rfl) : Ev c (.List es pos) (.list ds) := fun s hs =>
  wpAny_List (h.use hs fun vs s₁ h₁ k₁ x₁ => ⟨x₁.length ▸ hz, k₁.trans (.push s₁ _), .list (fresh_not h₁.vs.live) ⟨_, Heap.get?_push_size _ rfl⟩ (x₁.ext (Kp.push s₁ _).ext)⟩)
theorem ev_tuple {c : Cx} {es : List Expr} {k : Nat} {pos : Pos} {ds : List PV} (h : Evs c es ds) (hz : ds.length ≤ sizeLine := by (show _ ≤ 16777216); exact Nat.le_of_ble_eq_true rfl) : Ev c (.Tuple es k pos) (.tuple ds) := fun s hs =>
  wpAny_Tuple (h.use hs fun vs s₁ h₁ k₁ x₁ => ⟨x₁.length ▸ hz, k₁.trans (.push s₁ _), .tuple (fresh_not h₁.vs.live) ⟨_, Heap.get?_push_size _ rfl⟩ (x₁.ext (Kp.push s₁ _).ext)⟩)
end Mine

end
section
open PySem PySem.W PyProof.Rows
set_option maxRecDepth 100000
namespace Mine
section
variable {c : Cx} {a b : Int} {x y : UInt64} {p q : Bool} {u v : Str}

theorem b_add_ii : Op2 c (binaryOp .Add) (.int a) (.int b) (.int (a + b)) := by intro s v w hs hv hw; cases hv; cases hw; exact add_int ⟨.tok s _, .int _ _⟩
theorem b_sub_ii : Op2 c (binaryOp .Sub) (.int a) (.int b) (.int (a - b)) := by intro s v w hs hv hw; cases hv; cases hw; exact sub_int ⟨.tok s _, .int _ _⟩
theorem b_mul_ii (hm : IntMulOk a b) : Op2 c (binaryOp .Mult) (.int a) (.int b) (.int (a * b)) := by intro s v w hs hv hw; cases hv; cases hw; exact mul_int ⟨.tok s _, .int _ _⟩ hm
theorem b_mod_ii (hb : b ≠ 0) : Op2 c (binaryOp .Mod) (.int a) (.int b) (.int (a.fmod b)) := by intro s v w hs hv hw; cases hv; cases hw; exact mod_int hb ⟨.tok s _, .int _ _⟩
theorem b_fdiv_ii (hb : b ≠ 0) (hp : b.natAbs < 1073741824) : Op2 c (binaryOp .FloorDiv) (.int a) (.int b) (.int (a.fdiv b)) := by
  intro s v w hs hv hw; cases hv; cases hw; exact floordiv_int hb ⟨.tok s _, .int _ _⟩ (.inl (PyProof.noPylong_small hp))
theorem b_shr_ii (hb : 0 ≤ b) : Op2 c (binaryOp .RShift) (.int a) (.int b) (.int (a.fdiv (2 ^ b.toNat))) := by intro s v w hs hv hw; cases hv; cases hw; exact rshift_int hb ⟨.tok s _, .int _ _⟩
theorem b_xor_ii : Op2 c (binaryOp .BitXor) (.int a) (.int b) (.int (Builtin.bitXor a b)) := by intro s v w hs hv hw; cases hv; cases hw; exact xor_int ⟨.tok s _, .int _ _⟩
theorem b_sub_bb : Op2 c (binaryOp .Sub) (.bool p) (.bool q) (.int (b2i p - b2i q)) := by intro s v w hs hv hw; cases hv; cases hw; exact sub_bool ⟨.tok s _, .int _ _⟩
theorem b_add_ff : Op2 c (binaryOp .Add) (.float x) (.float y) (.float (Float64.add x y)) := by intro s v w hs hv hw; cases hv; cases hw; exact add_float ⟨.tok s _, .float _ _⟩
theorem b_sub_ff : Op2 c (binaryOp .Sub) (.float x) (.float y) (.float (Float64.sub x y)) := by intro s v w hs hv hw; cases hv; cases hw; exact sub_float ⟨.tok s _, .float _ _⟩
theorem b_mul_ff : Op2 c (binaryOp .Mult) (.float x) (.float y) (.float (Float64.mul x y)) := by intro s v w hs hv hw; cases hv; cases hw; exact mul_float ⟨.tok s _, .float _ _⟩
theorem b_div_ff (hz : ¬ Float64.isZero y = true) : Op2 c (binaryOp .Div) (.float x) (.float y) (.float (Float64.div x y)) := by intro s v w hs hv hw; cases hv; cases hw; exact AutoFloatOps.truediv_1 hz ⟨.tok s _, .float _ _⟩
theorem b_mod_ff (hz : ¬ Float64.isZero y = true) : Op2 c (binaryOp .Mod) (.float x) (.float y) (.float (Float64.divmod x y).snd) := by intro s v w hs hv hw; cases hv; cases hw; exact AutoFloatOps.mod_1 hz ⟨.tok s _, .float _ _⟩
theorem b_div_if (hi : ¬ Float64.isInf (Float64.ofInt a) = true) (hz : ¬ Float64.isZero y = true) : Op2 c (binaryOp .Div) (.int a) (.float y) (.float (Float64.div (Float64.ofInt a) y)) := by
  intro s v w hs hv hw; cases hv; cases hw; exact AutoFloatOps.truediv_if_2 hi hz ⟨.tok s _, .float _ _⟩
theorem b_sub_fi (hi : a.natAbs < 2 ^ 1023) : Op2 c (binaryOp .Sub) (.float x) (.int a) (.float (Float64.sub x (Float64.ofInt a))) := by intro s v w hs hv hw; cases hv; cases hw; exact sub_fi_fits hi ⟨.tok s _, .float _ _⟩
theorem b_mul_if (hi : a.natAbs < 2 ^ 1023) : Op2 c (binaryOp .Mult) (.int a) (.float y) (.float (Float64.mul (Float64.ofInt a) y)) := by intro s v w hs hv hw; cases hv; cases hw; exact mul_if_fits hi ⟨.tok s _, .float _ _⟩
theorem b_add_ss (hz : u.length + v.length ≤ sizeLine) : Op2 c (binaryOp .Add) (.str u) (.str v) (.str (u ++ v)) := by intro s v w hs hv hw; cases hv; cases hw; exact add_str (fun t tk => ⟨.tok s _, .str _ _⟩) hz
theorem b_add_ll {ds es : List PV} (hz : ds.length + es.length ≤ sizeLine) : Op2 c (binaryOp .Add) (.list ds) (.list es) (.list (ds ++ es)) := by
  intro s v w hs hv hw
  cases hv with
  | list ha hl hd =>
    cases hw with
    | list hb hm he =>
      obtain ⟨n, hl⟩ := hl
      obtain ⟨k, hm⟩ := hm
      rename_i i vs j ws
      refine P.add_list hl hm ⟨.push s _, .list (fresh_not hs.vs.live) ⟨_, Heap.get?_push_size _ rfl⟩ ?_⟩ ?_
      · rw [Array.toList_append]
        exact (hd.append he).ext (Kp.push s _).ext
      · have e1 := hd.length
        have e2 := he.length
        simp only [Array.length_toList] at e1 e2
        omega

theorem c_eq_ii : Op2 c (compareOp .Eq) (.int a) (.int b) (.bool (a == b)) := by intro s v w hs hv hw; cases hv; cases hw; exact eq_int ⟨.refl s, .bool _⟩
theorem c_ne_ii : Op2 c (compareOp .NotEq) (.int a) (.int b) (.bool (a != b)) := by intro s v w hs hv hw; cases hv; cases hw; exact ne_int ⟨.refl s, .bool _⟩
theorem c_lt_ii : Op2 c (compareOp .Lt) (.int a) (.int b) (.bool (decide (a < b))) := by intro s v w hs hv hw; cases hv; cases hw; exact lt_int ⟨.refl s, .bool _⟩
theorem c_gt_ii : Op2 c (compareOp .Gt) (.int a) (.int b) (.bool (decide (b < a))) := by intro s v w hs hv hw; cases hv; cases hw; exact gt_int ⟨.refl s, .bool _⟩
theorem c_le_ii : Op2 c (compareOp .LtE) (.int a) (.int b) (.bool (decide (a ≤ b))) := by intro s v w hs hv hw; cases hv; cases hw; exact le_int ⟨.refl s, .bool _⟩
theorem c_eq_ff : Op2 c (compareOp .Eq) (.float x) (.float y) (.bool (Float64.cmp x y == some Ordering.eq)) := by intro s v w hs hv hw; cases hv; cases hw; exact AutoFloatOps.eq_0 ⟨.refl s, .bool _⟩
theorem c_ne_ff : Op2 c (compareOp .NotEq) (.float x) (.float y) (.bool (Float64.cmp x y != some Ordering.eq)) := by intro s v w hs hv hw; cases hv; cases hw; exact AutoFloatOps.ne_0 ⟨.refl s, .bool _⟩
theorem c_le_ff : Op2 c (compareOp .LtE) (.float x) (.float y) (.bool (Float64.cmp x y == some Ordering.lt || Float64.cmp x y == some Ordering.eq)) := by intro s v w hs hv hw; cases hv; cases hw; exact AutoFloatOps.le_0 ⟨.refl s, .bool _⟩
theorem c_eq_ss : Op2 c (compareOp .Eq) (.str u) (.str v) (.bool (u == v)) := by intro s v w hs hv hw; cases hv; cases hw; exact eq_str ⟨.refl s, .bool _⟩
theorem c_lt_ss : Op2 c (compareOp .Lt) (.str u) (.str v) (.bool (decide (u.cps.toList < v.cps.toList))) := by intro s v w hs hv hw; cases hv; cases hw; exact lt_str ⟨.refl s, .bool _⟩
theorem c_gt_ss : Op2 c (compareOp .Gt) (.str u) (.str v) (.bool (decide (v.cps.toList < u.cps.toList))) := by intro s v w hs hv hw; cases hv; cases hw; exact P.gt_str ⟨.refl s, .bool _⟩
theorem c_ne_bb : Op2 c (compareOp .NotEq) (.bool p) (.bool q) (.bool (p != q)) := by intro s v w hs hv hw; cases hv; cases hw; exact ne_bool ⟨.refl s, .bool _⟩
theorem u_neg_i : Op1 c (unaryOp .USub) (.int a) (.int (-a)) := by intro s v hs hv; cases hv; exact neg_int ⟨.tok s _, .int _ _⟩
end

/-- truth by value -/
def truthD : PV → Bool
  | .none => false
  | .bool b => b
  | .int i => i != 0
  | .str s => (s.length : Int) != 0
  | .list ds => !ds.isEmpty
  | _ => true
def truthOk : PV → Prop
  | .none | .bool _ | .int _ => True
  | .str s => (s.length : Int) < 2 ^ 63
  | .list ds => (ds.length : Int) < 2 ^ 63
  | _ => False
theorem truthy_D {c : Cx} {s : Shared} {v : Value} {d : PV} (hs : CX c s) (hv : DI s.heap c.ow v d) (ok : truthOk d) {Q : Bool → Shared → Prop} {E : Value → Shared → Prop} (h : ∀ s', Kp s s' → Q (truthD d) s') :
    wpAny (model c.g.prog c.g.w) c.A (truthy v) Q E s := by
  cases hv with
  | none => exact fun _ _ _ => h s (.refl s)
  | bool b => exact wpAny_truthy_bool (h s (.refl s))
  | int i t => exact truthy_int (h s (.refl s))
  | float x t => cases ok
  | str x t => exact P.truthy_str (by simpa [truthOk] using ok) (h _ (.tok s _))
  | tuple => cases ok
  | ilist => cases ok
  | list ha hl hd =>
    rename_i a vs ds
    have e := hd.length
    simp only [Array.length_toList] at e
    refine wpAny_truthy_list hl.isList (by have : (ds.length : Int) < 2 ^ 63 := ok; omega) ?_
    have e2 : vs.isEmpty = ds.isEmpty := by
      unfold Array.isEmpty
      cases ds with
      | nil => simp at e; simp [e]
      | cons d ds => simp at e; simp [e]
    rw [e2]
    exact h _ (.tok s _)

def valE : Expr → Bool
  | .UnaryOp .Not _ _ | .BoolOp .. | .IfExp .. | .Compare .. => false
  | _ => true
theorem isTrue_val {e : Expr} {env : Env} {whole : Sem Value} (h : valE e = true) : isTrue e env whole = (do let v ← whole; standAt e.pos; holding [v] (truthy v)) := by
  cases e with
  | UnaryOp op x p => cases op <;> first | rfl | cases h
  | BoolOp => cases h
  | IfExp => cases h
  | Compare => cases h
  | _ => rfl
theorem tr_val {c : Cx} {e : Expr} {d : PV} (h : Ev c e d) (ok : truthOk d) (hv : valE e = true := by rfl) : Tr c e (truthD d) := fun s hs =>
  wpAny_isTrue_value (h.use hs fun v s₁ h₁ k₁ x₁ => truthy_D h₁ x₁ ok fun s' k => ⟨k₁.trans k, rfl⟩) (isTrue_val hv)
theorem tr_eq {c : Cx} {e : Expr} {b b' : Bool} (h : Tr c e b) (q : b = b') : Tr c e b' := q ▸ h
theorem ev_eq {c : Cx} {e : Expr} {b b' : PV} (h : Ev c e b) (q : b = b') : Ev c e b' := q ▸ h

/-- `x or y` as a value -/
theorem ev_or2 {c : Cx} {x y : Expr} {pos : Pos} {d e : PV} (hx : Ev c x d) (ok : truthOk d) (hy : truthD d = false → Ev c y e) : Ev c (.BoolOp .Or [x, y] pos) (if truthD d = true then d else e) := fun s hs => by
  refine wpAny_Or2 (hx.use hs fun v s₁ h₁ k₁ x₁ => truthy_D h₁ x₁ ok fun s₂ k₂ => ?_)
  cases ht : truthD d with
  | true => exact ⟨k₁.trans k₂, x₁.ext k₂.ext⟩
  | false => exact (hy ht).use (h₁.keeps k₂) fun v s' _ k z => ⟨(k₁.trans k₂).trans k, z⟩
end Mine

end
section
open PySem PySem.W PyProof.Rows PySem.Calls
set_option maxRecDepth 100000
namespace Mine

/-! subscripts -/
def SubOp (c : Cx) (d i r : PV) : Prop :=
  ∀ s v w (value slice : Expr), CX c s → DI s.heap c.ow v d → DI s.heap c.ow w i → (∀ o j, subscripted slice false o j = operate [o, j] (getItem o j)) →
    wpAny (model c.g.prog c.g.w) c.A (subscriptTail value slice v w) (fun v s' => Kp s s' ∧ DI s'.heap c.ow v r) (fun _ _ => False) s
def noSlice : Expr → Bool
  | .Slice .. => false
  | _ => true
theorem subscripted_plain {slice : Expr} (h : noSlice slice = true) : ∀ o j, subscripted slice false o j = operate [o, j] (getItem o j) := by
  intro o j
  cases slice <;> first | rfl | cases h
theorem ev_sub {c : Cx} {value slice : Expr} {pos : Pos} {d i r : PV} (hv : Ev c value d) (hi : Ev c slice i) (ho : SubOp c d i r) (hn : noSlice slice = true := by rfl) : Ev c (.Subscript value slice pos) r := fun s hs =>
  Subscript_ (hv.use hs fun o s₁ h₁ k₁ x₁ => hi.use h₁ fun j s₂ h₂ k₂ x₂ => wpAny_mono (ho s₂ o j value slice h₂ (x₁.ext k₂.ext) x₂ (subscripted_plain hn)) (fun _ _ q => ⟨(k₁.trans k₂).trans q.1, q.2⟩) fun _ _ f => f.elim)

theorem s_list {c : Cx} {ds : List PV} {k : Int} {d : PV} (h0 : 0 ≤ k) (hk : k < 2 ^ 63) (hd : ds[k.toNat]? = some d) : SubOp c (.list ds) (.int k) d := by
  intro s v w value slice hs hv hw ht
  cases hw
  cases hv with
  | list ha hl hx =>
    obtain ⟨x, hx1, hx2⟩ := hx.get hd
    exact tail_any hl.isList.typeIs slot_list_getitem.lookup (wpAny_getItem_list hl.isList h0 hk (by simpa using hx1) ⟨.refl s, hx2⟩) (ht _ _)
theorem s_tuple {c : Cx} {ds : List PV} {k : Int} {d : PV} (h0 : 0 ≤ k) (hk : k < 2 ^ 63) (hd : ds[k.toNat]? = some d) : SubOp c (.tuple ds) (.int k) d := by
  intro s v w value slice hs hv hw ht
  cases hw
  cases hv with
  | tuple ha hl hx =>
    rename_i a vs
    obtain ⟨x, hx1, hx2⟩ := hx.get hd
    have hlt : k.toNat < vs.size := by
      have := (List.getElem?_eq_some_iff.mp hx1).1
      simpa using this
    refine tail_any (T := "tuple") ?_ slot_tuple_getitem.lookup (getItem_tuple (j := k.toNat) hl.isTuple (by omega) hk ?_ (by simpa using hx1) ⟨.refl s, hx2⟩) (ht _ _)
    · obtain ⟨n, e⟩ := hl; exact ⟨_, e, rfl⟩
    · unfold seqIndex?
      simp
      omega
theorem s_str {c : Cx} {x : Str} {k : Int} (hr : fitsSsize k = true) (hin : (Txt.charAt x k).isSome = true) : SubOp c (.str x) (.int k) (.str (Txt.item x k)) := by
  intro s v w value slice hs hv hw ht
  cases hw
  cases hv with
  | str x t => exact tail_any (T := "str") (typeIs_str _ _ _) F.slot_str_getitem.lookup (SB.getItem hr hin ⟨.tok s _, .str _ _⟩) (ht _ _)

/-! slices -/
def partPV : Option Int → PV
  | none => .none
  | some i => .int i
def EvP (c : Cx) (oe : Option Expr) (p : Option Int) : Prop :=
  ∀ s, CX c s → wpAny (model c.g.prog c.g.w) c.A (evalPart oe c.env) (fun v s' => Kp s s' ∧ DI s'.heap c.ow v (partPV p)) (fun _ _ => False) s
theorem evp_none {c : Cx} : EvP c none none := fun s _ => evalPart_none_step ⟨.refl s, .none⟩
theorem evp_some {c : Cx} {e : Expr} {p : Option Int} (h : Ev c e (partPV p)) : EvP c (some e) p := fun s hs => evalPart_some_step (h s hs)
theorem evp_int {c : Cx} {e : Expr} {i : Int} (h : Ev c e (.int i)) : EvP c (some e) (some i) := fun s hs => evalPart_some_step (h s hs)
theorem EvP.use {c : Cx} {e : Option Expr} {p : Option Int} (h : EvP c e p) {s : Shared} (hs : CX c s) {Q : Value → Shared → Prop} {E : Value → Shared → Prop} (hq : ∀ v s', CX c s' → Kp s s' → DI s'.heap c.ow v (partPV p) → Q v s') :
    wpAny (model c.g.prog c.g.w) c.A (evalPart e c.env) Q E s :=
  wpAny_mono (h s hs) (fun v s' q => hq v s' (hs.keeps q.1) q.1 q.2) fun _ _ f => f.elim
theorem part_val {h : Heap} {ow : List Addr} {v : Value} {p : Option Int} (x : DI h ow v (partPV p)) : ∃ q : Option (Int × Tok), q.map (·.1) = p ∧ v = partValue q := by
  cases p with
  | none => cases x; exact ⟨none, rfl, rfl⟩
  | some i => cases x with | int i t => exact ⟨some (i, t), rfl, rfl⟩
theorem part_is {h : Heap} {ow : List Addr} {v : Value} {p : Option Int} (x : DI h ow v (partPV p)) : IsPart v p := by
  cases p with
  | none => cases x; exact .none
  | some i => cases x with | int i t => exact .int i t

theorem ev_slice_str {c : Cx} {value : Expr} {lo hi : Option Expr} {p pos : Pos} {x : Str} {l u : Option Int} (hv : Ev c value (.str x)) (hl : EvP c lo l) (hh : EvP c hi u) (hz : x.length ≤ sizeLine) :
    Ev c (.Subscript value (.Slice lo hi none p) pos) (.str (Txt.slice x l u)) := fun s hs => by
  refine Subscript_ (hv.use hs fun o s₁ h₁ k₁ x₁ => wpAny_Slice (hl.use h₁ fun vl s₂ h₂ k₂ x₂ => hh.use h₂ fun vu s₃ h₃ k₃ x₃ => evalPart_none_step ?_))
  obtain ⟨ql, el, rfl⟩ := part_val x₂
  obtain ⟨qu, eu, rfl⟩ := part_val x₃
  cases x₁ with
  | str x t =>
    refine tail_any (ops := [.ref s₃.heap.objs.size, .str x t]) (T := "str") (typeIs_str _ _ _) F.slot_str_getitem.lookup (wpAny_getItem_str_slice (l := ql) (u := qu) (st := none) ⟨_, Heap.get?_push_size _ rfl, rfl, rfl⟩ rfl ?_) rfl
    have hk := ((k₁.trans k₂).trans k₃).trans (Kp.push s₃ { cls := .type "slice", data := .fields #[partValue ql, partValue qu, .none] })
    subst el eu
    exact post_val_or_str ⟨Nat.le_trans (Txt.slice_le x _ _) hz, fun t' k => ⟨hk.trans (.tok _ _), .str _ _⟩⟩

theorem ev_slice_list {c : Cx} {value : Expr} {lo hi : Option Expr} {p pos : Pos} {ds es : List PV} {l u : Option Int} (hv : Ev c value (.list ds)) (hl : EvP c lo l) (hh : EvP c hi u) (hz : ds.length ≤ sizeLine)
    (hp : ∀ h ow (vs : Array Value), DIs h ow vs.toList ds → DIs h ow (slicePick vs l u none).toList es) :
    Ev c (.Subscript value (.Slice lo hi none p) pos) (.list es) := fun s hs => by
  refine Subscript_ (hv.use hs fun o s₁ h₁ k₁ x₁ => wpAny_Slice (hl.use h₁ fun vl s₂ h₂ k₂ x₂ => hh.use h₂ fun vu s₃ h₃ k₃ x₃ => evalPart_none_step ?_))
  have y₁ := x₁.ext (k₂.trans k₃).ext
  cases y₁ with
  | list ha hm hx =>
    rename_i a vs
    have e1 := hx.length
    simp only [Array.length_toList] at e1
    have hp1 := Kp.push s₃ { cls := .type "slice", data := .fields #[vl, vu, .none] }
    have hm' := hm.at fun o g => hp1.ext _ o g
    refine tail_any (ops := [.ref s₃.heap.objs.size, .ref a]) hm'.isList.typeIs slot_list_getitem.lookup (wpAny_getItem_list_slice (lo := l) (hi := u) (st := none) hm'.isList ⟨_, Heap.get?_push_size _ rfl, rfl, rfl⟩ (part_is x₂) (part_is x₃) .none (by simp) ?_ (by omega)) rfl
    have hk := (((k₁.trans k₂).trans k₃).trans hp1).trans (Kp.push _ { cls := .type "list", data := .seq (slicePick vs l u none) })
    refine ⟨hk, .list ?_ ⟨_, Heap.get?_push_size _ rfl⟩ ?_⟩
    · exact fresh_not (h := (s₃.heap.push _)) (h₃.keeps hp1).vs.live
    · exact (hp _ _ vs hx).ext (hp1.trans (Kp.push _ { cls := .type "list", data := .seq (slicePick vs l u none) })).ext
theorem pick_take {ds : List PV} {k : Nat} : ∀ h ow (vs : Array Value), DIs h ow vs.toList ds → DIs h ow (slicePick vs none (some (k : Int)) none).toList (ds.take k) := fun h ow vs x => by
  rw [slicePick_upto']; exact x.take k
theorem pick_drop {ds : List PV} {k : Nat} : ∀ h ow (vs : Array Value), DIs h ow vs.toList ds → DIs h ow (slicePick vs (some (k : Int)) none none).toList (ds.drop k) := fun h ow vs x => by
  rw [slicePick_from']; exact x.drop k

/-! calls -/
def OpN (c : Cx) (f : Value) (ds : List PV) (r : PV) : Prop :=
  ∀ s vs, CX c s → DIs s.heap c.ow vs ds → wpAny (model c.g.prog c.g.w) c.A (call f vs) (fun v s' => Kp s s' ∧ DI s'.heap c.ow v r) (fun _ _ => False) s

theorem backTo_plain : ∀ {es : List Expr} {env : Env} {pos : Pos}, es.all plainE = true → (backTo pos (starEach es env)).any (·.1) = false ∧ (backTo pos (starEach es env)).all (fun x => !x.1) = true
  | [], _, _, _ => ⟨rfl, rfl⟩
  | e :: es, env, pos, h => by
    rw [List.all_cons, Bool.and_eq_true] at h
    rw [starEach_plain h.1]
    have ih := @backTo_plain es env pos h.2
    constructor
    · show (false || (backTo pos (starEach es env)).any (·.1)) = false
      rw [ih.1]; rfl
    · show (true && (backTo pos (starEach es env)).all (fun x => !x.1)) = true
      rw [ih.2]; rfl
theorem evalArgs_of {c : Cx} {f : Value} {e : Expr} {es : List Expr} {ds : List PV} {pos : Pos} (h : Evs c (e :: es) ds) (hp : (e :: es).all plainE = true) {s : Shared} (hs : CX c s) {Q : Args → Shared → Prop} {E : Value → Shared → Prop}
    (hq : ∀ vs s', CX c s' → Kp s s' → DIs s'.heap c.ow vs ds → Q ⟨vs, []⟩ s') : wpAny (model c.g.prog c.g.w) c.A (evalArgs f true (backTo pos (starEach (e :: es) c.env)) []) Q E s := by
  rw [List.all_cons, Bool.and_eq_true] at hp
  have h1 := h.use (pos := pos) hs (E := E) hq
  rw [starEach_plain hp.1] at h1 ⊢
  exact evalArgs_plain h1

theorem ev_global {c : Cx} {x : Str} {pos : Pos} {v : Value} {s : Shared} (hs : CX c s) (hk : c.env.kindOf x = some .globalImplicit) (hv : c.g.mg x = some v) (hb : (x == ("__debug__" : Str)) = false) {Q : Value → Shared → Prop} {E : Value → Shared → Prop} (h : Q v s) :
    wpAny (model c.g.prog c.g.w) c.A (eval (.Name x pos) c.env) Q E s :=
  Name_function_global hs.fs.kind hk (loadGlobal_global (by rw [hs.fs.gl]; exact hs.sth.g) hv h) hb
theorem ev_builtin {c : Cx} {x : Str} {pos : Pos} {v : Value} {s : Shared} (hs : CX c s) (hk : c.env.kindOf x = some .globalImplicit) (hv : c.g.mg x = none ∧ c.g.mb x = some v) (hb : (x == ("__debug__" : Str)) = false) {Q : Value → Shared → Prop} {E : Value → Shared → Prop} (h : Q v s) :
    wpAny (model c.g.prog c.g.w) c.A (eval (.Name x pos) c.env) Q E s :=
  Name_function_global hs.fs.kind hk (loadGlobal_builtin (by rw [hs.fs.gl]; exact hs.sth.g) hv.1 (by rw [hs.fs.bi]; exact hs.sth.b) hv.2 h) hb

theorem ev_callB {c : Cx} {x : Str} {id : String} {p pos : Pos} {e : Expr} {es : List Expr} {ds : List PV} {r : PV} (hk : c.env.kindOf x = some .globalImplicit) (hv : c.g.mg x = none ∧ c.g.mb x = some (.builtin id)) (ha : Evs c (e :: es) ds) (ho : OpN c (.builtin id) ds r)
    (hp : (e :: es).all plainE = true := by rfl) (hb : (x == ("__debug__" : Str)) = false := by decide +kernel) : Ev c (.Call (.Name x p) (e :: es) [] pos) r := fun s hs =>
  wpAny_Call_Name_kw (ev_builtin hs hk hv hb (callWith_builtin (backTo_plain hp).1 (evalArgs_of ha hp hs fun vs s' h' k' x' => wpAny_mono (ho s' vs h' x') (fun _ _ q => ⟨k'.trans q.1, q.2⟩) fun _ _ f => f.elim)))
theorem ev_callT {c : Cx} {x : Str} {T : String} {p pos : Pos} {e : Expr} {es : List Expr} {ds : List PV} {r : PV} (hk : c.env.kindOf x = some .globalImplicit) (hv : c.g.mg x = none ∧ c.g.mb x = some (.type T)) (ha : Evs c (e :: es) ds) (ho : OpN c (.type T) ds r)
    (hp : (e :: es).all plainE = true := by rfl) (hb : (x == ("__debug__" : Str)) = false := by decide +kernel) : Ev c (.Call (.Name x p) (e :: es) [] pos) r := fun s hs =>
  wpAny_Call_Name_kw (ev_builtin hs hk hv hb (PySem.callWith_type (backTo_plain hp).1 (evalArgs_of ha hp hs fun vs s' h' k' x' => wpAny_mono (ho s' vs h' x') (fun _ _ q => ⟨k'.trans q.1, q.2⟩) fun _ _ f => f.elim)))

/-- what a def of the text does to data -/
def FSpec (g : Gl) (lv : Nat) (fn : Str) (ds : List PV) (r : PV) : Prop :=
  ∀ A s ow vs a, AOK lv A → ST g.recs g.mg g.mb g.hB → Ext g.hB s.heap → owLive ow s.heap → (∀ a ∈ ow, g.hB.get? a = none) → g.mg fn = some (.ref a) → DIs s.heap ow vs ds →
    wpAny (model g.prog g.w) A (call (.ref a) vs) (fun v s' => Kp s s' ∧ DI s'.heap ow v r) (fun _ _ => False) s
theorem AOK.le {lv lv' : Nat} {A : Around} (h : AOK lv A) (hl : lv' ≤ lv) : AOK lv' A := ⟨h.1, by have := h.2.1; omega, by have := h.2.2; omega⟩
theorem ev_callF {c : Cx} {d : DefRec} {p pos : Pos} {x : Str} {e : Expr} {es : List Expr} {ds : List PV} {r : PV} {lv : Nat} (hd : d ∈ c.g.recs) (hx : x = d.name) (hk : c.env.kindOf x = some .globalImplicit) (ha : Evs c (e :: es) ds)
    (hf : FSpec c.g lv x ds r) (hl : lv ≤ c.lv := by decide) (hp : (e :: es).all plainE = true := by rfl) (hb : (x == ("__debug__" : Str)) = false := by decide +kernel) : Ev c (.Call (.Name x p) (e :: es) [] pos) r := fun s hs => by
  subst hx
  obtain ⟨a, o, pm, code, doc, hm, hg, hda, hcd⟩ := hs.sth.fn d hd
  refine wpAny_Call_Name_kw (ev_global hs hk hm hb (callWith_function (o := o) (evalArgs_of ha hp hs fun vs s' h' k' x' => ⟨⟨k'.ext _ _ hg, hda⟩, ?_⟩)))
  exact wpAny_mono (hf c.A s' c.ow vs a (h'.a.le hl) h'.st h'.eb h'.vs.live (fun b hb => (h'.no b hb).1) hm x') (fun _ _ q => ⟨k'.trans q.1, q.2⟩) fun _ _ f => f.elim
theorem ev_gconst {c : Cx} {x : Str} {pos : Pos} {d : PV} (hk : c.env.kindOf x = some .globalImplicit) (hv : ∃ v, c.g.mg x = some v ∧ ∀ h, DI h c.ow v d) (hb : (x == ("__debug__" : Str)) = false := by decide +kernel) : Ev c (.Name x pos) d := fun s hs =>
  let ⟨v, e, hd⟩ := hv
  ev_global hs hk e hb ⟨.refl s, hd s.heap⟩
end Mine

end
section
open PySem PySem.W PyProof.Rows PySem.Calls
set_option maxRecDepth 100000
namespace Mine

/-- all objects stay but those of `F` -/
def Md (F : Addr → Prop) (s s' : Shared) : Prop := ∃ h' tk, s' = { s with heap := h', toks := tk } ∧ ∀ b o, ¬ F b → s.heap.get? b = some o → h'.get? b = some o
theorem Md.refl (F : Addr → Prop) (s : Shared) : Md F s s := ⟨s.heap, s.toks, rfl, fun _ _ _ e => e⟩
theorem Md.of {F : Addr → Prop} {s s' : Shared} (k : Kp s s') : Md F s s' := let ⟨h', tk, e, x⟩ := k; ⟨h', tk, e, fun b o _ q => x b o q⟩
theorem Md.kp {s s' : Shared} (k : Md (fun _ => False) s s') : Kp s s' := let ⟨h', tk, e, x⟩ := k; ⟨h', tk, e, fun b o q => x b o id q⟩
theorem Md.trans {F G : Addr → Prop} {s s' s'' : Shared} (a : Md F s s') (b : Md G s' s'') (h : ∀ x, G x → F x ∨ s.heap.get? x = none) : Md F s s'' := by
  obtain ⟨h', tk, rfl, e⟩ := a
  obtain ⟨h'', tk', rfl, e'⟩ := b
  refine ⟨h'', tk', rfl, fun x o hf q => e' x o (fun g => ?_) (e x o hf q)⟩
  rcases h x g with y | y
  · exact hf y
  · have y' : s.heap.get? x = none := y
    rw [q] at y'; cases y'
theorem Md.mono {F G : Addr → Prop} {s s' : Shared} (a : Md F s s') (h : ∀ x, F x → G x) : Md G s s' := let ⟨h', tk, e, x⟩ := a; ⟨h', tk, e, fun b o hg q => x b o (fun f => hg (h b f)) q⟩

def slot (env : Env) (x : Str) (b : Addr) : Prop := (env.kindOf x = some .local ∧ b = env.locals) ∨ (env.kindOf x = some .cell ∧ env.cells.lookup x = some b)

theorem ns_data {h : Heap} {a : Addr} {m : Str → Option Value} (x : h.Ns a m) : ∃ o es ep, h.get? a = some o ∧ o.data = .dict es ep := let ⟨o, es, ep, g, d, _⟩ := x; ⟨o, es, ep, g, d⟩
theorem ns_ne_cell {h : Heap} {a c : Addr} {m : Str → Option Value} {v : Option Value} (x : h.Ns a m) (y : h.IsCell c v) : a ≠ c := by
  obtain ⟨o, es, ep, g, d⟩ := ns_data x
  obtain ⟨o', g', d'⟩ := y
  rintro rfl
  rw [g] at g'; cases g'
  rw [d] at d'; cases d'

theorem store_frame {env : Env} {ns : List Str} {s : Shared} {m : Str → Option Value} {x : Str} {v : Value} (fs : Fs env ns) (fr : FrOk env s.heap m) (hx : x ∈ ns) {M : Model} {A : Around} {Q : Unit → Shared → Prop} {E : Value → Shared → Prop}
    (h : ∀ h' tk b, FrOk env h' (fun y => if y = x then some v else m y) → slot env x b → Heap.SameBut b s.heap h' → (∀ o, s.heap.get? b = some o → ¬ SeqO o) → Q () { s with heap := h', toks := tk }) : wpAny M A (storeName env x v) Q E s := by
  obtain ⟨ml, hn, he⟩ := fr.loc
  rcases fs.kn x hx with hl | ⟨hc, c, hlk⟩
  · refine wpAny_storeName_local hl hn (fun h' hn' hs' => h h' _ env.locals ⟨⟨_, hn', fun y hy => ?_⟩, fun y c hy => ?_⟩ (.inl ⟨hl, rfl⟩) hs' fun o g q => ?_) (by rw [fs.kind]; rfl)
    · by_cases e : y = x
      · simp [e]
      · simp only [e, if_false]; exact he y hy
    · have hyx : y ≠ x := fun e => fs.kx y c hy (e ▸ hl)
      have hne : c ≠ env.locals := Ne.symm (ns_ne_cell hn (fr.cel y c hy))
      simp only [hyx, if_false]
      exact (fr.cel y c hy).sameBut hs' hne
    · obtain ⟨o', es, ep, g', d⟩ := ns_data hn
      rw [g] at g'; cases g'
      obtain ⟨vs, n, q⟩ := q
      rw [d] at q; cases q
  · refine wpAny_storeName_cell fs.kind hc hlk (fr.cel x c hlk) fun h' hv hs' => h h' s.toks c ⟨⟨ml, hn.sameBut hs' (ns_ne_cell hn (fr.cel x c hlk)), fun y hy => ?_⟩, fun y c' hy => ?_⟩ (.inr ⟨hc, hlk⟩) hs' fun o g q => ?_
    · have hyx : y ≠ x := fun e => by rw [e, hc] at hy; cases hy
      simp only [hyx, if_false]
      exact he y hy
    · by_cases hyx : y = x
      · subst hyx
        rw [hlk] at hy; cases hy
        simpa using hv
      · simp only [hyx, if_false]
        exact (fr.cel y c' hy).sameBut hs' fun e => hyx (name_of_addr fs.apart (mem_of_lookup hy) (e ▸ mem_of_lookup hlk))
    · obtain ⟨o', g', d⟩ := fr.cel x c hlk
      rw [g] at g'; cases g'
      obtain ⟨vs, n, q⟩ := q
      rw [d] at q; cases q

abbrev Cx.set (c : Cx) (i : Nat) (b : Bnd) : Cx := { c with σ := c.σ.set i b }

/-- what the frame may turn -/
def Mut (c : Cx) (b : Addr) : Prop := (∃ x ∈ c.st, slot c.env x b) ∨ ∃ (i : Nat) (o : OV), c.σ[i]? = some (.ow b o)

theorem OH.keep {prog : Program} {w : World} {h h' : Heap} {ow ow' : List Addr} {a : Addr} (hk : KeepLT ow h h') (ho : ∀ a ∈ ow', a ∈ ow ∨ h.get? a = none) (ha : ∀ o, h.get? a = some o → h'.get? a = some o) : ∀ {o : OV}, OH prog w h ow a o → OH prog w h' ow' a o
  | .lst _, ⟨vs, hl, r⟩ => ⟨vs, hl.at ha, r.keep hk ho⟩
  | .arr _, ⟨vs, hl, r⟩ => ⟨vs, hl.at ha, r.keep hk ho⟩
  | .dct _, x => by
    obtain ⟨e, kvs, ⟨o, es, ep, g, r⟩, f⟩ := x
    exact ⟨e, kvs, ⟨o, es, ep, ha _ g, r⟩, f⟩
theorem BV.keep {prog : Program} {w : World} {h h' : Heap} {ow ow' : List Addr} {v : Option Value} (hk : KeepLT ow h h') (ho : ∀ a ∈ ow', a ∈ ow ∨ h.get? a = none) (hs : ∀ a ∈ ow, a ∈ ow') (ha : ∀ a ∈ ow, ∀ o, h.get? a = some o → h'.get? a = some o) : ∀ {b : Bnd}, BV prog w h ow v b → BV prog w h' ow' v b
  | .un, _ => trivial
  | .fz _, ⟨x, hx, r⟩ => ⟨x, hx, r.keep hk ho⟩
  | .ow _ _, ⟨h1, h2, h3⟩ => ⟨h1, hs _ h2, h3.keep hk ho (ha _ h2)⟩
  | .raw _, x => x

theorem get_ne {ns : List Str} (nd : ns.Nodup) {i j : Nat} {x y : Str} (hi : ns[i]? = some x) (hj : ns[j]? = some y) (h : i ≠ j) : x ≠ y := by
  rintro rfl
  exact h ((List.getElem?_inj (List.getElem?_eq_some_iff.mp hi).1 nd).mp (hi.trans hj.symm))

/-- storing a datum under a name of the frame's -/
theorem CX.store {c : Cx} {s : Shared} (hs : CX c s) {i : Nat} {x : Str} {v : Value} {d : PV} (hx : c.ns[i]? = some x) (hst : x ∈ c.st) (hv : DI s.heap c.ow v d) :
    wpAny (model c.g.prog c.g.w) c.A (storeName c.env x v) (fun _ s' => CX (c.set i (.fz d)) s' ∧ Md (fun b => slot c.env x b) s s') (fun _ _ => False) s := by
  obtain ⟨m, fr, hb⟩ := hs.vs.ex
  refine store_frame hs.fs fr (List.mem_of_getElem? hx) fun h' tk b fr' hsl hsb hseq => ?_
  have hk : KeepLT c.ow s.heap h' := fun a o ha g q => (hsb.2 a fun e => hseq o (e ▸ g) q).trans g
  have hbo : ∀ a ∈ c.ow, a ≠ b := fun a ha e => by
    rcases hsl with ⟨_, h2⟩ | ⟨_, h2⟩
    · exact (hs.no a ha).2.1 (e.trans h2)
    · exact (hs.no a ha).2.2 x (e ▸ h2)
  have hnew : c.g.hB.get? b = none := by
    rcases hsl with ⟨_, h2⟩ | ⟨_, h2⟩
    · exact h2 ▸ hs.nl
    · exact hs.nc x b h2
  refine ⟨⟨hs.st, fun a o g => (hsb.2 a fun e => by rw [e, hnew] at g; cases g).trans (hs.eb a o g), hs.a, hs.fs, ⟨⟨_, fr', fun j y z hy hz => ?_⟩, fun a ha => ?_, by simpa using hs.vs.ln⟩, hs.sub, hs.nl, hs.nc, hs.no⟩, ⟨h', tk, rfl, fun a o hn g => (hsb.2 a fun e => hn (e ▸ hsl)).trans g⟩⟩
  · by_cases hij : j = i
    · subst hij
      rw [hx] at hy; cases hy
      have hz' : (c.σ.set j (.fz d))[j]? = some z := hz
      rw [List.getElem?_set_self'] at hz'
      cases hq : c.σ[j]? with
      | none => rw [hq] at hz'; cases hz'
      | some q =>
        rw [hq] at hz'
        cases hz'
        exact ⟨v, by simp, hv.keep hk fun _ m => .inl m⟩
    · have hz' : (c.σ.set i (.fz d))[j]? = some z := hz
      rw [List.getElem?_set_ne (Ne.symm hij)] at hz'
      have hyx : y ≠ x := get_ne hs.fs.nd hy hx hij
      simp only [hyx, if_false]
      exact (hb j y z hy hz').keep hk (fun _ m => .inl m) (fun _ m => m) fun a ha o g => (hsb.2 a (hbo a ha)).trans g
  · obtain ⟨o, g⟩ := hs.vs.live a ha
    exact ⟨o, (hsb.2 a (hbo a ha)).trans g⟩

/-- a target takes a datum -/
def TA (c : Cx) (t : Expr) (d : PV) (c' : Cx) : Prop :=
  ∀ s v, CX c s → DI s.heap c.ow v d → wpAny (model c.g.prog c.g.w) c.A (assign t c.env v) (fun _ s' => CX c' s' ∧ Md (fun b => ∃ x ∈ c.st, slot c.env x b) s s') (fun _ _ => False) s
theorem ta_name (i : Nat) {c : Cx} {x : Str} {pos : Pos} {d : PV} (hx : c.ns[i]? = some x) (hst : x ∈ c.st) : TA c (.Name x pos) d (c.set i (.fz d)) := fun s v hs hv =>
  wpAny_assign_Name (wpAny_mono (hs.store hx hst hv) (fun _ s' q => ⟨q.1, q.2.mono fun b hb => ⟨x, hst, hb⟩⟩) fun _ _ f => f.elim)
end Mine

end
section
open PySem PySem.W PyProof.Rows PySem.Calls
set_option maxRecDepth 100000
namespace Mine

theorem CX.slot_seq {c : Cx} {s : Shared} (hs : CX c s) {x : Str} {b : Addr} {o : Obj} (h : slot c.env x b) (g : s.heap.get? b = some o) : ¬ SeqO o := by
  obtain ⟨m, fr, _⟩ := hs.vs.ex
  rintro ⟨vs, n, q⟩
  rcases h with ⟨_, rfl⟩ | ⟨_, h⟩
  · obtain ⟨ml, hn, _⟩ := fr.loc
    obtain ⟨o', es, ep, g', d⟩ := ns_data hn
    rw [g] at g'; cases g'
    rw [q] at d; cases d
  · obtain ⟨o', g', d⟩ := fr.cel x b h
    rw [g] at g'; cases g'
    rw [q] at d; cases d
theorem CX.md_seq {c : Cx} {s s' : Shared} (hs : CX c s) (h : Md (fun b => ∃ x ∈ c.st, slot c.env x b) s s') : KeepLT c.ow s.heap s'.heap := by
  obtain ⟨h', tk, rfl, e⟩ := h
  exact fun b o _ g q => e b o (fun ⟨x, _, hx⟩ => hs.slot_seq hx g q) g
theorem CX.mut_in {c : Cx} {s : Shared} (hs : CX c s) {b : Addr} (h : Mut c b) : b = c.env.locals ∨ (∃ x, c.env.cells.lookup x = some b) ∨ b ∈ c.ow := by
  rcases h with ⟨x, _, ⟨_, e⟩ | ⟨_, e⟩⟩ | ⟨i, o, e⟩
  · exact .inl e
  · exact .inr (.inl ⟨x, e⟩)
  · obtain ⟨m, _, hb⟩ := hs.vs.ex
    have hi : i < c.ns.length := by rw [← hs.vs.ln]; exact (List.getElem?_eq_some_iff.mp e).1
    exact .inr (.inr (hb i _ _ (List.getElem?_eq_getElem hi) e).2.1)
theorem CX.live {c : Cx} {s : Shared} (hs : CX c s) : (∃ o, s.heap.get? c.env.locals = some o) ∧ (∀ x b, c.env.cells.lookup x = some b → ∃ o, s.heap.get? b = some o) ∧ ∀ a ∈ c.ow, ∃ o, s.heap.get? a = some o := by
  obtain ⟨m, fr, _⟩ := hs.vs.ex
  obtain ⟨ml, hn, _⟩ := fr.loc
  obtain ⟨o, es, ep, g, _⟩ := ns_data hn
  exact ⟨⟨o, g⟩, fun x b e => let ⟨o, g, _⟩ := fr.cel x b e; ⟨o, g⟩, hs.vs.live⟩
theorem CX.new {c : Cx} {s : Shared} (hs : CX c s) {b : Addr} (h : s.heap.get? b = none) : New c b := by
  obtain ⟨h1, h2, h3⟩ := hs.live
  refine ⟨?_, ?_, ?_, ?_⟩
  · cases e : c.g.hB.get? b with
    | none => rfl
    | some o => rw [hs.eb b o e] at h; cases h
  · rintro rfl; obtain ⟨o, g⟩ := h1; rw [h] at g; cases g
  · intro x e; obtain ⟨o, g⟩ := h2 x b e; rw [h] at g; cases g
  · intro e; obtain ⟨o, g⟩ := h3 b e; rw [h] at g; cases g
theorem New.mut {c : Cx} {s : Shared} {b : Addr} (n : New c b) (hs : CX c s) : ¬ Mut c b := fun h => by
  rcases hs.mut_in h with e | ⟨x, e⟩ | e
  · exact n.loc e
  · exact n.cel x e
  · exact n.own e

/-- objects that the frame does not look at may turn -/
theorem CX.off {c : Cx} {s : Shared} (hs : CX c s) {h' : Heap} {tk : Nat} (hk : ∀ b o, s.heap.get? b = some o → (New c b ∧ ¬ SeqO o) ∨ h'.get? b = some o) : CX c { s with heap := h', toks := tk } := by
  obtain ⟨m, fr, hb⟩ := hs.vs.ex
  have hl : ∀ b o, b = c.env.locals ∨ (∃ x, c.env.cells.lookup x = some b) ∨ b ∈ c.ow → s.heap.get? b = some o → h'.get? b = some o := fun b o h g => by
    rcases hk b o g with ⟨n, _⟩ | q
    · rcases h with e | ⟨x, e⟩ | e
      · exact absurd e n.loc
      · exact absurd e (n.cel x)
      · exact absurd e n.own
    · exact q
  have hk2 : KeepLT c.ow s.heap h' := fun b o _ g q => (hk b o g).elim (fun z => absurd q z.2) id
  refine ⟨hs.st, fun b o g => ?_, hs.a, hs.fs, ⟨⟨m, ⟨?_, ?_⟩, fun i x b hx hz => ?_⟩, fun a ha => ?_, hs.vs.ln⟩, hs.sub, hs.nl, hs.nc, hs.no⟩
  · rcases hk b o (hs.eb b o g) with ⟨n, _⟩ | q
    · rw [n.base] at g; cases g
    · exact q
  · obtain ⟨ml, hn, e⟩ := fr.loc
    exact ⟨ml, hn.at' fun o g => hl _ o (.inl rfl) g, e⟩
  · intro x b e
    obtain ⟨o, g, d⟩ := fr.cel x b e
    exact ⟨o, hl b o (.inr (.inl ⟨x, e⟩)) g, d⟩
  · exact (hb i x b hx hz).keep hk2 (fun _ m => .inl m) (fun _ m => m) fun a ha o g => hl a o (.inr (.inr ha)) g
  · obtain ⟨o, g⟩ := hs.vs.live a ha
    exact ⟨o, hl a o (.inr (.inr ha)) g⟩

/-! targets -/
structure Same (c c' : Cx) : Prop where
  g : c'.g = c.g
  A : c'.A = c.A
  lv : c'.lv = c.lv
  env : c'.env = c.env
  st : c'.st = c.st
  ns : c'.ns = c.ns
  ow : c'.ow = c.ow
theorem Same.refl (c : Cx) : Same c c := ⟨rfl, rfl, rfl, rfl, rfl, rfl, rfl⟩
theorem Same.trans {a b c : Cx} (x : Same a b) (y : Same b c) : Same a c := ⟨y.g.trans x.g, y.A.trans x.A, y.lv.trans x.lv, y.env.trans x.env, y.st.trans x.st, y.ns.trans x.ns, y.ow.trans x.ow⟩
theorem Same.set (c : Cx) (i : Nat) (b : Bnd) : Same c (c.set i b) := ⟨rfl, rfl, rfl, rfl, rfl, rfl, rfl⟩

def TAs (c : Cx) (ts : List Expr) (ds : List PV) (c' : Cx) : Prop :=
  ∀ s vs, CX c s → DIs s.heap c.ow vs ds → wpAny (model c.g.prog c.g.w) c.A (assignInOrder ((assignEach ts c.env).map (·.2)) vs) (fun _ s' => CX c' s' ∧ Md (fun b => ∃ x ∈ c.st, slot c.env x b) s s') (fun _ _ => False) s
theorem assignEach_plain {t : Expr} {ts : List Expr} {env : Env} (h : plainE t = true) : assignEach (t :: ts) env = (false, assign t env) :: assignEach ts env := by
  cases t <;> first | rfl | cases h
theorem tas_nil {c : Cx} : TAs c [] [] c := fun s vs hs hd => by cases hd; exact wpAny_pure ⟨hs, .refl _ s⟩
theorem tas_cons {c c₁ c' : Cx} {t : Expr} {ts : List Expr} {d : PV} {ds : List PV} (h : TA c t d c₁) (r : TAs c₁ ts ds c') (e : Same c c₁) (hp : plainE t = true := by rfl) : TAs c (t :: ts) (d :: ds) c' := fun s vs hs hd => by
  cases hd with
  | cons hv hvs =>
    rw [assignEach_plain hp]
    show wpAny _ _ (holding _ (assign t c.env _) >>= fun _ => assignInOrder ((assignEach ts c.env).map (·.2)) _) _ _ s
    refine wpAny_bind (wpAny_holding (wpAny_mono (h s _ hs hv) (fun _ s₁ q => ?_) fun _ _ f => f.elim))
    have hk := hs.md_seq q.2
    have r' := r s₁ _ q.1 (e.ow ▸ hvs.keep hk fun _ m => .inl m)
    rw [e.g, e.A, e.env, e.st] at r'
    exact wpAny_mono r' (fun _ s₂ q₂ => ⟨q₂.1, q.2.trans q₂.2 fun _ z => .inl z⟩) fun _ _ f => f.elim

theorem assignEach_len : ∀ {ts : List Expr} {env : Env}, ts.all plainE = true → (assignEach ts env).length = ts.length ∧ (assignEach ts env).findIdx? (·.1) = none
  | [], _, _ => ⟨rfl, rfl⟩
  | t :: ts, env, h => by
    rw [List.all_cons, Bool.and_eq_true] at h
    rw [assignEach_plain h.1]
    have ih := @assignEach_len ts env h.2
    exact ⟨by rw [List.length_cons, List.length_cons, ih.1], by rw [List.findIdx?_cons]; simp [ih.2]⟩

theorem ta_tuple {c c' : Cx} {ts : List Expr} {k : Nat} {pos : Pos} {ds : List PV} (h : TAs c ts ds c') (hl : ts.length = ds.length) (hp : ts.all plainE = true := by rfl) : TA c (.Tuple ts k pos) (.tuple ds) c' := fun s v hs hv => by
  cases hv with
  | tuple ha ht hd =>
    rename_i a vs
    have e1 := hd.length
    simp only [Array.length_toList] at e1
    refine wpAny_assign_Tuple hs.a.1 ht.isTuple (by rw [(assignEach_len hp).1, hl, e1]) (assignEach_len hp).2 fun h' he => ?_
    have k : Kp s { s with heap := h' } := ⟨h', s.toks, rfl, fun b o g => he b o (Nat.ne_of_lt (Heap.lt_size g)) g⟩
    exact wpAny_mono (h _ _ (hs.keeps k) (hd.ext k.ext)) (fun _ s' q => ⟨q.1, (Md.of k).trans q.2 fun _ z => .inl z⟩) fun _ _ f => f.elim

theorem draw_walk {prog : Program} {w : World} {A : Around} {I : Addr} {fp wr : List Addr} {n : Nat} {P : Nat → Value → Prop} {St : Nat → Heap → Prop} (W : Walks prog w A I fp wr n P St) {E : Value → Shared → Prop} :
    ∀ (k i : Nat) (s : Shared) (Q : List Value → Shared → Prop), i + k ≤ n → St i s.heap →
      (∀ vs h' tk, vs.length = k → (∀ j v, vs[j]? = some v → P (i + j) v) → St (i + k) h' → (∀ b o, b ∉ wr → s.heap.get? b = some o → h'.get? b = some o) → Q vs { s with heap := h', toks := tk }) → wpAny (model prog w) A (draw (.ref I) k) Q E s
  | 0, i, s, Q, _, hs, hq => by
    show wpAny _ _ (pure []) Q E s
    exact wpAny_pure (hq [] s.heap s.toks rfl (fun j v e => by simp at e) hs fun _ _ _ e => e)
  | k + 1, i, s, Q, hle, hs, hq => by
    show wpAny _ _ (pyNext (.ref I) >>= _) Q E s
    refine wpAny_bind (W.item i s _ _ (by omega) hs fun v h₁ tk₁ hP hs₁ hk₁ => ?_)
    refine wpAny_bind (wpAny_holding (draw_walk W k (i + 1) { s with heap := h₁, toks := tk₁ } _ (by omega) hs₁ fun vs h₂ tk₂ hl hPs hs₂ hk₂ => wpAny_pure ?_))
    refine hq (v :: vs) h₂ tk₂ (by simp [hl]) (fun j u e => ?_) (by rw [show i + (k + 1) = i + 1 + k by omega]; exact hs₂) fun b o hb g => hk₂ b o hb (hk₁ b o hb g)
    cases j with
    | zero => simp at e; subst e; exact hP
    | succ j => simp at e; have := hPs j u e; rw [show i + (j + 1) = i + 1 + j by omega]; exact this

theorem ta_list {c c' : Cx} {ts : List Expr} {k : Nat} {pos : Pos} {ds : List PV} (h : TAs c ts ds c') (hl : ts.length = ds.length) (hp : ts.all plainE = true := by rfl) : TA c (.Tuple ts k pos) (.list ds) c' := fun s v hs hv => by
  cases hv with
  | list ha ht hd =>
    rename_i a vs
    have e1 := hd.length
    simp only [Array.length_toList] at e1
    have hlt : a ≠ s.heap.objs.size := by obtain ⟨n, g⟩ := ht; exact Nat.ne_of_lt (Heap.lt_size g)
    rw [arm_assign_Tuple]
    refine wpAny_bind (wpAny_standAt ?_)
    unfold unpack
    rw [(assignEach_len hp).1, (assignEach_len hp).2]
    refine wpAny_bind (wpAny_holding ?_)
    unfold unpackItems
    refine wpAny_bind ?_
    unfold notIterableAtAll
    refine wpAny_bind (wpAny_specialOf ht.isList.typeIs slot_list_iter.lookup ?_)
    refine wpAny_pure ?_
    simp only [Bool.false_eq_true, if_false]
    refine wpAny_bind (wpAny_holding (wpAny_pyIter_list ht.isList ?_))
    have W := Walks.list (prog := c.g.prog) (w := c.g.w) (A := c.A) hs.a.1 s.heap.objs.size a hlt vs
    refine wpAny_bind (wpAny_holding (draw_walk W ts.length 0 _ _ (by omega) ⟨⟨_, Heap.get?_push_size _ rfl, rfl, rfl⟩, ht.isList.push _⟩ fun us h₁ tk₁ hlen hP hs₁ hk₁ => ?_))
    rw [if_neg (by omega)]
    have hus : us = vs.toList := by
      apply List.ext_getElem?
      intro j
      cases hj : us[j]? with
      | none =>
        rw [List.getElem?_eq_none_iff] at hj
        symm
        rw [List.getElem?_eq_none_iff]
        simp; omega
      | some u =>
        have := hP j u hj
        simp only [Nat.zero_add] at this
        simpa using this.symm
    subst hus
    rw [show 0 + ts.length = vs.size by omega] at hs₁
    refine wpAny_bind (wpAny_holding (W.done _ _ _ hs₁ fun h₂ tk₂ hk₂ => ?_))
    simp only [Option.isSome_none, Bool.false_eq_true, if_false]
    have k : Kp s { s with heap := h₂, toks := tk₂ } := ⟨h₂, tk₂, rfl, fun b o g => by
      have hb : b ∉ [s.heap.objs.size] := fun m => by rw [List.mem_singleton.mp m] at g; exact Nat.lt_irrefl _ (Heap.lt_size g)
      exact hk₂ b o hb (hk₁ b o hb (Heap.get?_push_of_some _ g))⟩
    refine wpAny_pure ?_
    exact wpAny_mono (h _ _ (hs.keeps k) (hd.ext k.ext)) (fun _ s' q => ⟨q.1, (Md.of k).trans q.2 fun _ z => .inl z⟩) fun _ _ f => f.elim
end Mine

end
section
open PySem PySem.W PyProof.Rows PySem.Calls
set_option maxRecDepth 100000
namespace Mine

/-! what a loop goes over -/
structure Itr (c : Cx) (s₀ : Shared) (ds : List PV) (it : Value) (s : Shared) : Prop where
  kp : Kp s₀ s
  ex : ∃ I fp P St, it = .ref I ∧ Walks c.g.prog c.g.w c.A I fp [I] ds.length P St ∧ St 0 s.heap ∧ s₀.heap.get? I = none ∧
    (∀ i h, St i h → ∃ o n vs, h.get? I = some o ∧ o.cls = .type n ∧ (n = "list_iterator" ∨ n = "range_iterator") ∧ o.data = .fields vs) ∧
    (∀ b ∈ fp, b = I ∨ (b ∉ c.ow ∧ ∃ o, s.heap.get? b = some o ∧ SeqO o)) ∧
    (∀ i v h ow', i < ds.length → P i v → KeepLT c.ow s.heap h → (∀ a ∈ ow', a ∈ c.ow ∨ s.heap.get? a = none) → ∃ d, ds[i]? = some d ∧ DI h ow' v d)
def It (c : Cx) (e : Expr) (ds : List PV) : Prop :=
  ∀ s, CX c s → wpAny (model c.g.prog c.g.w) c.A (eval e c.env) (fun x s₁ => wpAny (model c.g.prog c.g.w) c.A (pyIter x) (fun it s₂ => Itr c s ds it s₂) (fun _ _ => False) s₁) (fun _ _ => False) s

theorem it_list {c : Cx} {e : Expr} {ds : List PV} (h : Ev c e (.list ds)) : It c e ds := fun s hs => by
  refine h.use hs fun x s₁ h₁ k₁ x₁ => ?_
  cases x₁ with
  | list ha hl hd =>
    rename_i a vs
    have e1 := hd.length
    simp only [Array.length_toList] at e1
    have hlt : a ≠ s₁.heap.objs.size := by obtain ⟨n, g⟩ := hl; exact Nat.ne_of_lt (Heap.lt_size g)
    refine wpAny_pyIter_list hl.isList ?_
    have W := Walks.list (prog := c.g.prog) (w := c.g.w) (A := c.A) hs.a.1 s₁.heap.objs.size a hlt vs
    rw [e1] at W
    have hp := Kp.push s₁ { cls := .type "list_iterator", data := .fields #[.ref a, .int 0 0] }
    refine ⟨k₁.trans hp, _, _, _, _, rfl, W, ⟨⟨_, Heap.get?_push_size _ rfl, rfl, rfl⟩, hl.isList.push _⟩, ?_, ?_, ?_, ?_⟩
    · cases g : s.heap.get? s₁.heap.objs.size with
      | none => rfl
      | some o => exact absurd (Heap.lt_size (k₁.ext _ _ g)) (Nat.lt_irrefl _)
    · rintro i h ⟨⟨o, g, hc, hd⟩, _⟩
      exact ⟨o, _, _, g, hc, .inl rfl, hd⟩
    · intro b hb
      rcases List.mem_cons.mp hb with e | hb
      · exact .inl e
      · rw [List.mem_singleton.mp hb]
        obtain ⟨n, g⟩ := hl
        exact .inr ⟨ha, _, hp.ext _ _ g, _, _, rfl⟩
    · intro i v h ow' hi hP hk ho
      obtain ⟨d, hd1, hd2⟩ := hd.get' (k := i) (v := v) (by simpa using hP)
      exact ⟨d, hd1, (hd2.ext hp.ext).keep hk ho⟩

/-- the ints of `range(a, a + n)` -/
def rangeD (a : Int) (n : Nat) : List PV := (List.range n).map fun (i : Nat) => PV.int (a + i)
theorem it_rangeObj {c : Cx} {s s₁ : Shared} (hs : CX c s) (k₁ : Kp s s₁) {r : Addr} {a b : Int} {t u v : Tok} {n : Nat} (hr : IsRange s₁.heap r a b 1 t u v) (hsm : Builtin.Range.small a b 1 = true) (hn : Builtin.Range.rangeSize a b 1 = (n : Int)) {E : Value → Shared → Prop} :
    wpAny (model c.g.prog c.g.w) c.A (pyIter (.ref r)) (fun it s₂ => Itr c s (rangeD a n) it s₂) E s₁ := by
  refine wpAny_pyIter_range hr hsm ?_
  rw [hn]
  have W := Walks.range (prog := c.g.prog) (w := c.g.w) (A := c.A) hs.a.1 s₁.heap.objs.size a 1 n
  have hl : (rangeD a n).length = n := by simp [rangeD]
  rw [← hl] at W
  have hp := Kp.push s₁ { cls := .type "range_iterator", data := .fields #[rawInt a, rawInt (n : Int), rawInt 1] }
  refine ⟨k₁.trans hp, _, _, _, _, rfl, W, ?_, ?_, ?_, ?_, ?_⟩
  · have : ({ cls := .type "range_iterator", dict := none, data := .fields #[rawInt (a + ((0 : Nat) : Int) * 1), rawInt (((rangeD a n).length : Int) - ((0 : Nat) : Int)), rawInt 1], slots := #[] } : Obj) = { cls := .type "range_iterator", data := .fields #[rawInt a, rawInt (n : Int), rawInt 1] } := by
      rw [hl]; simp
    show Heap.get? _ _ = some _
    rw [this]
    exact Heap.get?_push_size _ rfl
  · cases g : s.heap.get? s₁.heap.objs.size with
    | none => rfl
    | some o => exact absurd (Heap.lt_size (k₁.ext _ _ g)) (Nat.lt_irrefl _)
  · intro i h g
    exact ⟨_, _, _, g, rfl, .inr rfl, rfl⟩
  · intro b hb
    exact .inl (List.mem_singleton.mp hb)
  · rintro i v h ow' hi ⟨t, rfl⟩ hk ho
    rw [hl] at hi
    refine ⟨.int (a + i), by simp [rangeD, hi], ?_⟩
    rw [show a + (i : Int) * 1 = a + i by omega]
    exact .int _ _
theorem it_range {c : Cx} {x : Str} {p pos : Pos} {e : Expr} {n : Nat} (hk : c.env.kindOf x = some .globalImplicit) (hv : c.g.mg x = none ∧ c.g.mb x = some (.type "range")) (h : Ev c e (.int (n : Int))) (hn : n < 2 ^ 62)
    (hp : plainE e = true := by rfl) (hb : (x == ("__debug__" : Str)) = false := by decide +kernel) : It c (.Call (.Name x p) [e] [] pos) (rangeD 0 n) := fun s hs => by
  have hp' : [e].all plainE = true := by simp [hp]
  refine wpAny_Call_Name_kw (ev_builtin hs hk hv hb (PySem.callWith_type (backTo_plain hp').1 (evalArgs_of (evs_cons h evs_nil hp) hp' hs fun vs s' h' k' x' => ?_)))
  cases x' with
  | cons y z =>
    cases z
    cases y
    rename_i tt
    refine call_range_1 ?_
    have hk2 := (k'.trans (Kp.push s' { cls := .type "range", data := .fields #[.int 0 s'.toks, .int (n : Int) tt, .int 1 (s'.toks + 1)] })).trans (Kp.tok _ (s'.toks + 1 + 1))
    exact it_rangeObj (n := n) hs hk2 (IsRange.new ..) (small_one (by omega) (by omega) (by omega) (by omega)) (by rw [rangeSize_one]; split <;> omega)

/-! statements -/
structure SS (sb : Shared) (F : Addr → Prop) (c : Cx) (s : Shared) : Prop where
  cx : CX c s
  md : Md F sb s
  fr : ∀ b, Mut c b → F b ∨ sb.heap.get? b = none

def FinP (sb : Shared) (F : Addr → Prop) (ro : List Addr) (N : Shared → Prop) (R : PV → Prop) : Flow → Shared → Prop
  | .next, s => N s
  | .ret v, s => Md F sb s ∧ ∃ d, R d ∧ DI s.heap ro v d
  | _, _ => False
def XS (sb : Shared) (F : Addr → Prop) (ro : List Addr) (c : Cx) (ss : List Stmt) (N : Shared → Prop) (R : PV → Prop) : Prop :=
  ∀ s, SS sb F c s → wpAny (model c.g.prog c.g.w) c.A (execs ss c.env) (FinP sb F ro N R) (fun _ _ => False) s

theorem SS.keeps {sb : Shared} {F : Addr → Prop} {c : Cx} {s s' : Shared} (h : SS sb F c s) (k : Kp s s') : SS sb F c s' := ⟨h.cx.keeps k, h.md.trans (Md.of (F := fun _ => False) k) fun _ f => f.elim, h.fr⟩
/-- after slots of the frame have turned -/
theorem SS.step {sb : Shared} {F : Addr → Prop} {c c' : Cx} {s s' : Shared} (h : SS sb F c s) (hc : CX c' s') (m : Md (fun b => ∃ x ∈ c.st, slot c.env x b) s s') (hm : ∀ b, Mut c' b → Mut c b ∨ (sb.heap.get? b = none)) : SS sb F c' s' :=
  ⟨hc, h.md.trans m fun b hb => h.fr b (.inl hb), fun b hb => (hm b hb).elim (h.fr b) .inr⟩
theorem mut_set {c : Cx} {i : Nat} {d : PV} {b : Addr} (h : Mut (c.set i (.fz d)) b) : Mut c b := by
  rcases h with h | ⟨j, o, e⟩
  · exact .inl h
  · have e' : (c.σ.set i (.fz d))[j]? = some (.ow b o) := e
    by_cases hij : i = j
    · subst hij
      rw [List.getElem?_set_self'] at e'
      cases hq : c.σ[i]? <;> rw [hq] at e' <;> cases e'
    · rw [List.getElem?_set_ne hij] at e'
      exact .inr ⟨j, o, e'⟩

section
variable {sb : Shared} {F : Addr → Prop} {ro : List Addr} {c : Cx} {N : Shared → Prop} {R : PV → Prop} {rest : List Stmt}
theorem xs_nil (h : ∀ s, SS sb F c s → N s) : XS sb F ro c [] N R := fun s hs => wpAny_execs_nil (h s hs)
theorem xs_ret {e : Expr} {pos : Pos} {d : PV} (h : Ev c e d) (hr : R d) (ho : ∀ a ∈ ro, a ∈ c.ow) : XS sb F ro c (.Return (some e) pos :: rest) N R := fun s hs =>
  wpAny_execs_cons (wpAny_Return_some (h.use hs.cx fun v s' _ k x => ⟨(hs.keeps k).md, d, hr, x.keep (fun _ _ _ g _ => g) fun a ha => .inl (ho a ha)⟩))
theorem xs_assign (i : Nat) {x : Str} {p pos : Pos} {e : Expr} {d : PV} (hx : c.ns[i]? = some x) (hst : x ∈ c.st) (h : Ev c e d) (k : XS sb F ro (c.set i (.fz d)) rest N R)
    (hw : ∀ env line, swapsWith e (some (.Name x p)) line env = pure false := by intro _ _; rfl) : XS sb F ro c (.Assign [.Name x p] e pos :: rest) N R := fun s hs =>
  wpAny_execs_cons (wpAny_Assign_Name (h.use hs.cx fun v s₁ h₁ k₁ x₁ => wpAny_mono (h₁.store hx hst x₁) (fun _ s₂ q => k s₂ ((hs.keeps k₁).step q.1 (q.2.mono fun b hb => ⟨x, hst, hb⟩) fun b hb => .inl (mut_set hb))) fun _ _ f => f.elim) (hw _ _))
theorem xs_if {t : Expr} {body orelse : List Stmt} {pos : Pos} {b : Bool} (h : Tr c t b) (ht : b = true → XS sb F ro c body (fun s => wpAny (model c.g.prog c.g.w) c.A (execs rest c.env) (FinP sb F ro N R) (fun _ _ => False) s) R)
    (hf : b = false → XS sb F ro c orelse (fun s => wpAny (model c.g.prog c.g.w) c.A (execs rest c.env) (FinP sb F ro N R) (fun _ _ => False) s) R) : XS sb F ro c (.If t body orelse pos :: rest) N R := fun s hs => by
  refine wpAny_execs_cons (wpAny_If (h.use hs.cx fun s₁ h₁ k₁ => ?_))
  have fin : ∀ {bd : List Stmt}, XS sb F ro c bd (fun s => wpAny (model c.g.prog c.g.w) c.A (execs rest c.env) (FinP sb F ro N R) (fun _ _ => False) s) R →
      wpAny (model c.g.prog c.g.w) c.A (execs bd c.env) (fun f s' => match f with | .next => wpAny (model c.g.prog c.g.w) c.A (execs rest c.env) (FinP sb F ro N R) (fun _ _ => False) s' | f => FinP sb F ro N R f s') (fun _ _ => False) s₁ := fun hx =>
    wpAny_mono (hx s₁ (hs.keeps k₁)) (fun f s' q => by cases f <;> exact q) fun _ _ f => f.elim
  cases b with
  | true => exact fin (ht rfl)
  | false => exact fin (hf rfl)
theorem xs_if_true {t : Expr} {body orelse : List Stmt} {pos : Pos} (h : Tr c t true) (ht : XS sb F ro c body (fun s => wpAny (model c.g.prog c.g.w) c.A (execs rest c.env) (FinP sb F ro N R) (fun _ _ => False) s) R) : XS sb F ro c (.If t body orelse pos :: rest) N R :=
  xs_if h (fun _ => ht) fun e => by cases e
/-- an `if` that does not take its body, without an else -/
theorem xs_if_skip {t : Expr} {body : List Stmt} {pos : Pos} (h : Tr c t false) (k : XS sb F ro c rest N R) : XS sb F ro c (.If t body [] pos :: rest) N R :=
  xs_if h (fun e => by cases e) fun _ => xs_nil fun s hs => k s hs
/-- behind a block: what the block has left -/
theorem xs_go {c' : Cx} (e : Same c c') (k : XS sb F ro c' rest N R) : ∀ s, SS sb F c' s → wpAny (model c.g.prog c.g.w) c.A (execs rest c.env) (FinP sb F ro N R) (fun _ _ => False) s := fun s hs => by
  have := k s hs
  rw [e.g, e.A, e.env] at this
  exact this
end
end Mine

end
section
open PySem PySem.W PyProof.Rows PySem.Calls
set_option maxRecDepth 100000
namespace Mine

theorem letOwned {M : Model} {A : Around} {t : Expr} {I : Addr} {v : Value} {o : Obj} {n : String} {vs : Array Value} {s : Shared} {Q : Unit → Shared → Prop} {E : Value → Shared → Prop} (g : s.heap.get? I = some o) (hc : o.cls = .type n) (hn : n = "list_iterator" ∨ n = "range_iterator") (hd : o.data = .fields vs) (h : Q () s) :
    wpAny M A (letOwnedTupleGo t (.ref I) v) Q E s := by
  have key : wpAny M A (do
      let (.ref r, .ref a) := (Value.ref I, v) | return
      let o ← load r
      match o.cls, o.data with
      | .type n, .fields vs =>
        if ["enumerate", "zip", "dict_itemiterator", "dict_reverseitemiterator", "odict_iterator", "itertools.zip_longest", "itertools.pairwise"].contains n && vs[0]? == some (rawInt a) then
          rule "for.unpacks-the-owned-tuple"
          updateField r 0 .none
      | _, _ => pure ()) Q E s := by
    cases v with
    | ref a =>
      refine wpAny_bind (wpAny_load g ?_)
      rw [hc, hd]
      rcases hn with rfl | rfl <;> exact wpAny_pure h
    | _ => exact wpAny_pure h
  cases t <;> first | exact key | exact wpAny_pure h

theorem Md.to_kp {F : Addr → Prop} {s s' : Shared} (m : Md F s s') {b : Addr} {o : Obj} (g : s.heap.get? b = some o) (h : ¬ F b) : s'.heap.get? b = some o := by
  obtain ⟨h', tk, rfl, e⟩ := m
  exact e b o h g
theorem Md.back {F : Addr → Prop} {s s' : Shared} (m : Md F s s') {b : Addr} (h : s'.heap.get? b = none) : F b ∨ s.heap.get? b = none := by
  by_cases f : F b
  · exact .inl f
  · cases g : s.heap.get? b with
    | none => exact .inr rfl
    | some o => rw [m.to_kp g f] at h; cases h

theorem New.same {c c' : Cx} {b : Addr} (e : Same c c') (n : New c b) : New c' b :=
  ⟨by rw [e.g]; exact n.base, by rw [e.env]; exact n.loc, by rw [e.env]; exact n.cel, by rw [e.ow]; exact n.own⟩

/-- the frame's own things are no list outside `ow` -/
theorem CX.mut_seq {c : Cx} {s : Shared} (hs : CX c s) {b : Addr} {o : Obj} (g : s.heap.get? b = some o) (q : SeqO o) (ho : b ∉ c.ow) : ¬ Mut c b := by
  rintro (⟨x, hx, h⟩ | ⟨i, o', e⟩)
  · exact hs.slot_seq h g q
  · rcases hs.mut_in (.inr ⟨i, o', e⟩) with e | ⟨x, e⟩ | e
    · subst e
      obtain ⟨m, fr, _⟩ := hs.vs.ex
      obtain ⟨ml, hn, _⟩ := fr.loc
      obtain ⟨o'', es, ep, g', d⟩ := ns_data hn
      rw [g] at g'; cases g'
      obtain ⟨vs, n, q⟩ := q
      rw [q] at d; cases d
    · obtain ⟨m, fr, _⟩ := hs.vs.ex
      obtain ⟨o'', g', d⟩ := fr.cel x b e
      rw [g] at g'; cases g'
      obtain ⟨vs, n, q⟩ := q
      rw [q] at d; cases d
    · exact ho e

section
variable {sb : Shared} {F : Addr → Prop} {ro : List Addr} {c : Cx} {N : Shared → Prop} {R : PV → Prop} {rest : List Stmt}

theorem xs_for {target iter : Expr} {body : List Stmt} {pos : Pos} {ds : List PV} (cI cT : Nat → Cx) (J : Nat → Prop) (hi : It c iter ds) (h0 : cI 0 = c) (hJ : J 0)
    (sI : ∀ k, Same c (cI k)) (sT : ∀ k, Same c (cT k)) (mT : ∀ k b, Mut (cT k) b → Mut (cI k) b)
    (ta : ∀ k d, ds[k]? = some d → J k → TA (cI k) target d (cT k))
    (turn : ∀ k d st, ds[k]? = some d → J k → XS st (Mut (cI k)) ro (cT k) body (fun s' => J (k + 1) ∧ SS st (Mut (cI k)) (cI (k + 1)) s') R)
    (k : J ds.length → XS sb F ro (cI ds.length) rest N R)
    (hfs : ∀ env x, foldedSetIterable iter env x = pure x := by intro _ _; rfl) : XS sb F ro c (.For target iter body [] pos :: rest) N R := fun s hs => by
  refine wpAny_execs_cons (wpAny_For ?_ (hfs _))
  refine wpAny_mono (hi s hs.cx) (fun x s₁ h₁ => wpAny_mono h₁ (fun it s₂ h₂ => ?_) fun _ _ f => f.elim) fun _ _ f => f.elim
  obtain ⟨k₂, I, fp, P, St, rfl, W, st0, hI, hobj, hfp, hP⟩ := h₂
  have nI : New c I := hs.cx.new hI
  have hIb : F I ∨ sb.heap.get? I = none := hs.md.back hI
  have notSeq : ∀ i h o, St i h → h.get? I = some o → ¬ SeqO o := fun i h o st g q => by
    obtain ⟨o', n, vs, g', _, _, d⟩ := hobj i h st
    rw [g] at g'; cases g'
    obtain ⟨us, m, q⟩ := q
    rw [q] at d; cases d
  have nF : ∀ {s : Shared} {b : Addr} {o : Obj} {i : Nat}, CX (cI i) s → s.heap.get? b = some o → SeqO o → b ∉ c.ow → ¬ Mut (cI i) b := fun hc g q ho => hc.mut_seq g q (by rw [(sI _).ow]; exact ho)
  refine codeAny_forLoop_any (fun n s' => ∃ i, i ≤ ds.length ∧ n = ds.length + 1 - i ∧ J i ∧ SS sb F (cI i) s' ∧ St i s'.heap ∧ KeepLT c.ow s₂.heap s'.heap) ?_ (ds.length + 1) ⟨0, Nat.zero_le _, rfl, hJ, h0.symm ▸ hs.keeps k₂, st0, fun _ _ _ g _ => g⟩
  rintro n s' ⟨i, hle, rfl, hJi, hS, hst, hkl⟩
  have hcx := hS.cx
  by_cases hlt : i < ds.length
  · refine W.item i s' _ _ hlt hst fun v h' tk' hPv hst' hk' => ?_
    have hI' : ∀ o, s'.heap.get? I = some o → ¬ SeqO o := fun o g => notSeq i _ o hst g
    have hcx' : CX (cI i) { s' with heap := h', toks := tk' } := hcx.off fun b o g => by
      by_cases hb : b = I
      · exact .inl ⟨hb ▸ nI.same (sI i), hI' o (hb ▸ g)⟩
      · exact .inr (hk' b o (by simpa using hb) g)
    have hkl' : KeepLT c.ow s₂.heap h' := fun b o ho g q => by
      have g1 := hkl b o ho g q
      have hb : b ≠ I := fun e => hI' o (e ▸ g1) q
      exact hk' b o (by simpa using hb) g1
    obtain ⟨d, hd, hv⟩ := hP i v h' c.ow hlt hPv hkl' fun _ m => .inl m
    obtain ⟨o, n, vs, g, hc, hn, hdd⟩ := hobj _ _ hst'
    refine letOwned (s := { s' with heap := h', toks := tk' }) g hc hn hdd ?_
    have T := ta i d hd hJi { s' with heap := h', toks := tk' } v hcx' (by rw [(sI i).ow]; exact hv)
    rw [(sI i).g, (sI i).A, (sI i).env, (sI i).st] at T
    refine wpAny_mono T (fun _ s₃ q => ?_) fun _ _ f => f.elim
    obtain ⟨hc3, m3⟩ := q
    have B := turn i d { s' with heap := h', toks := tk' } hd hJi s₃ ⟨hc3, m3.mono fun b ⟨x, hx, hsl⟩ => .inl ⟨x, by rw [(sI i).st]; exact hx, by rw [(sI i).env]; exact hsl⟩, fun b hb => .inl (mT i b hb)⟩
    rw [(sT i).g, (sT i).A, (sT i).env] at B
    refine wpAny_mono B (fun f s₄ q => ?_) fun _ _ f => f.elim
    have up : ∀ {s₄}, Md (Mut (cI i)) { s' with heap := h', toks := tk' } s₄ → Md F sb s₄ := fun {s₄} m4 => by
      have m1 : Md (fun b => b = I) s' { s' with heap := h', toks := tk' } := ⟨h', tk', rfl, fun b o hb g => hk' b o (by simpa using hb) g⟩
      exact (hS.md.trans m1 fun b hb => by rw [hb]; exact hIb).trans m4 fun b hb => hS.fr b hb
    cases f with
    | next =>
      obtain ⟨hJ', hS4⟩ := q
      have keep4 : ∀ b o, h'.get? b = some o → ¬ Mut (cI i) b → s₄.heap.get? b = some o := fun b o g hb => hS4.md.to_kp (s := { s' with heap := h', toks := tk' }) g hb
      refine ⟨ds.length + 1 - (i + 1), by omega, i + 1, by omega, rfl, hJ', ⟨hS4.cx, up hS4.md, fun b hb => ?_⟩, ?_, ?_⟩
      · rcases hS4.fr b hb with e | e
        · exact hS.fr b e
        · have m1 : Md (fun b => b = I) s' { s' with heap := h', toks := tk' } := ⟨h', tk', rfl, fun b o hb g => hk' b o (by simpa using hb) g⟩
          exact (hS.md.trans m1 fun b hb => by rw [hb]; exact hIb).back e
      · refine W.frame _ _ _ hst' fun b hb o g => keep4 b o g ?_
        rcases hfp b hb with e | ⟨ho, o', g', q'⟩
        · subst e; exact (nI.same (sI i)).mut hcx
        · have g2 := hkl' b o' ho g' q'
          rw [g] at g2; cases g2
          exact nF hcx' g q' ho
      · intro b o ho g q
        have g2 := hkl' b o ho g q
        exact keep4 b o g2 (nF hcx' g2 q ho)
    | cont => exact q.elim
    | brk => exact q.elim
    | ret v => exact ⟨up q.1, q.2⟩
  · have hin : i = ds.length := by omega
    subst hin
    refine W.done s' _ _ hst fun h' tk' hk' => ?_
    refine wpAny_execs_nil ?_
    have hcx' : CX (cI ds.length) { s' with heap := h', toks := tk' } := hcx.off fun b o g => by
      by_cases hb : b = I
      · exact .inl ⟨hb ▸ nI.same (sI _), notSeq _ _ o hst (hb ▸ g)⟩
      · exact .inr (hk' b o (by simpa using hb) g)
    have m1 : Md (fun b => b = I) s' { s' with heap := h', toks := tk' } := ⟨h', tk', rfl, fun b o hb g => hk' b o (by simpa using hb) g⟩
    exact xs_go (sI _) (k hJi) _ ⟨hcx', hS.md.trans m1 fun b hb => by rw [hb]; exact hIb, hS.fr⟩

theorem xs_while {t : Expr} {body : List Stmt} {pos : Pos} (cI : Nat → Cx) (K : Nat) (h0 : cI 0 = c) (sI : ∀ k, Same c (cI k))
    (ht : ∀ k, k < K → Tr (cI k) t true) (hf : Tr (cI K) t false)
    (turn : ∀ k st, k < K → XS st (Mut (cI k)) ro (cI k) body (fun s' => SS st (Mut (cI k)) (cI (k + 1)) s') R)
    (k : XS sb F ro (cI K) rest N R) : XS sb F ro c (.While t body [] pos :: rest) N R := fun s hs => by
  refine wpAny_execs_cons (wpAny_While ?_)
  refine codeAny_whileLoop (fun n s' => ∃ i, i ≤ K ∧ n = K + 1 - i ∧ SS sb F (cI i) s') ?_ (K + 1) ⟨0, Nat.zero_le _, rfl, h0.symm ▸ hs⟩
  rintro n s' ⟨i, hle, rfl, hS⟩
  by_cases hlt : i < K
  · have T := (ht i hlt) s' hS.cx
    rw [(sI i).g, (sI i).A, (sI i).env] at T
    refine wpAny_mono T (fun b s₁ q => ?_) fun _ _ f => f.elim
    obtain ⟨k₁, rfl⟩ := q
    have hS₁ := hS.keeps k₁
    have B := turn i s₁ hlt s₁ ⟨hS₁.cx, .refl _ _, fun b hb => .inl hb⟩
    rw [(sI i).g, (sI i).A, (sI i).env] at B
    refine wpAny_mono B (fun f s₂ q => ?_) fun _ _ f => f.elim
    cases f with
    | next =>
      refine ⟨K + 1 - (i + 1), by omega, i + 1, by omega, rfl, ⟨q.cx, hS₁.md.trans q.md fun b hb => hS₁.fr b hb, fun b hb => ?_⟩⟩
      rcases q.fr b hb with e | e
      · exact hS₁.fr b e
      · exact hS₁.md.back e
    | cont => exact q.elim
    | brk => exact q.elim
    | ret v => exact ⟨hS₁.md.trans q.1 fun b hb => hS₁.fr b hb, q.2⟩
  · have hin : i = K := by omega
    subst hin
    have T := hf s' hS.cx
    rw [(sI i).g, (sI i).A, (sI i).env] at T
    refine wpAny_mono T (fun b s₁ q => ?_) fun _ _ f => f.elim
    obtain ⟨k₁, rfl⟩ := q
    exact wpAny_execs_nil (xs_go (sI _) k _ (hS.keeps k₁))
end
end Mine

end
section
open PySem PySem.W PyProof.Rows PySem.Calls
set_option maxRecDepth 100000
namespace Mine

/-! a comprehension's own frame -/
def clF (env : Env) : List (Str × NameKind) → List (Str × Addr) → List (Str × Addr)
  | [], acc => acc
  | (n, k) :: r, acc => clF env r (if k == .free then (n, (env.cells.lookup n).getD 0) :: acc else acc)

theorem clF_cons (env : Env) (n : Str) (k : NameKind) (r : List (Str × NameKind)) (acc : List (Str × Addr)) : clF env ((n, k) :: r) acc = clF env r (if k == .free then (n, (env.cells.lookup n).getD 0) :: acc else acc) := rfl
theorem closureFor_eq {scope : Scope} {env : Env} (h : ∀ n, (n, NameKind.free) ∈ scope.names → ∃ c, env.cells.lookup n = some c) : closureFor scope env = pure (clF env scope.names []) := by
  have key : ∀ (l : List (Str × NameKind)) (acc : List (Str × Addr)) (f : Str × NameKind → List (Str × Addr) → Sem (ForInStep (List (Str × Addr)))),
      (∀ n k cs, f (n, k) cs = if k == .free then (do let a ← cellOf env n; pure (.yield ((n, a) :: cs))) else pure (.yield cs)) → (∀ n, (n, NameKind.free) ∈ l → ∃ c, env.cells.lookup n = some c) → forIn l acc f = pure (clF env l acc) := by
    intro l
    induction l with
    | nil => intro acc f _ _; rfl
    | cons x l ih =>
      intro acc f hf hl
      obtain ⟨n, k⟩ := x
      rw [List.forIn_cons, hf]
      have ih' := fun acc => ih acc f hf fun n hn => hl n (List.mem_cons_of_mem _ hn)
      by_cases hk : (k == .free) = true
      · rw [if_pos hk]
        have hk' : k = .free := by simpa using hk
        subst hk'
        obtain ⟨c, hc⟩ := hl n List.mem_cons_self
        have e : cellOf env n = pure c := by unfold cellOf; rw [hc]
        rw [e, pure_bind, pure_bind]
        show forIn l ((n, c) :: acc) f = _
        rw [ih', clF_cons, if_pos hk, hc]
        rfl
      · rw [if_neg hk, pure_bind]
        show forIn l acc f = _
        rw [ih', clF_cons, if_neg hk]
  simp only [closureFor]
  rw [key scope.names [] _ (fun n k cs => rfl) h]
  rfl

theorem clF_mem {env : Env} {n : Str} {c : Addr} : ∀ {l : List (Str × NameKind)} {acc : List (Str × Addr)}, (n, c) ∈ clF env l acc → (n, c) ∈ acc ∨ ((n, NameKind.free) ∈ l ∧ c = (env.cells.lookup n).getD 0)
  | [], acc, h => .inl h
  | (m, k) :: r, acc, h => by
    unfold clF at h
    rcases clF_mem h with h | ⟨h1, h2⟩
    · by_cases hk : (k == .free) = true
      · rw [if_pos hk] at h
        rcases List.mem_cons.mp h with e | h
        · cases e
          exact .inr ⟨by rw [show k = .free by simpa using hk]; exact List.mem_cons_self, rfl⟩
        · exact .inl h
      · rw [if_neg hk] at h; exact .inl h
    · exact .inr ⟨List.mem_cons_of_mem _ h1, h2⟩
theorem clF_acc {env : Env} {p : Str × Addr} : ∀ {l : List (Str × NameKind)} {acc : List (Str × Addr)}, p ∈ acc → p ∈ clF env l acc
  | [], acc, h => h
  | (m, k) :: r, acc, h => by
    unfold clF
    apply clF_acc
    split
    · exact List.mem_cons_of_mem _ h
    · exact h
theorem clF_free {env : Env} {n : Str} : ∀ {l : List (Str × NameKind)} {acc : List (Str × Addr)}, (n, NameKind.free) ∈ l → (n, (env.cells.lookup n).getD 0) ∈ clF env l acc
  | (m, k) :: r, acc, h => by
    unfold clF
    rcases List.mem_cons.mp h with e | h
    · cases e
      exact clF_acc (by simp)
    · exact clF_free h
theorem clF_nodup {env : Env} : ∀ {l : List (Str × NameKind)} {acc : List (Str × Addr)}, (l.map (·.1)).Nodup → (acc.map (·.1)).Nodup → (∀ n ∈ acc.map (·.1), n ∉ l.map (·.1)) → ((clF env l acc).map (·.1)).Nodup
  | [], acc, _, h, _ => h
  | (m, k) :: r, acc, h1, h2, h3 => by
    unfold clF
    rw [List.map_cons, List.nodup_cons] at h1
    refine clF_nodup h1.2 ?_ ?_
    · split
      · rw [List.map_cons, List.nodup_cons]
        exact ⟨fun hm => h3 m hm (by simp), h2⟩
      · exact h2
    · intro n hn hr
      split at hn
      · rcases List.mem_cons.mp hn with e | hn
        · subst e; exact h1.1 hr
        · exact h3 n hn (List.mem_cons_of_mem _ hr)
      · exact h3 n hn (List.mem_cons_of_mem _ hr)

theorem cF_mem {n : Str} {c : Addr} : ∀ {l : List (Str × NameKind)} {k : Nat} {acc : List (Str × Addr)}, (n, c) ∈ cellsFrom k l acc → (n, c) ∈ acc ∨ ((n, NameKind.cell) ∈ l ∧ k ≤ c)
  | [], k, acc, h => .inl h
  | (m, kd) :: r, k, acc, h => by
    unfold cellsFrom at h
    by_cases hk : (kd == .cell) = true
    · rw [if_pos hk] at h
      rcases cF_mem h with h | ⟨h1, h2⟩
      · rcases List.mem_cons.mp h with e | h
        · cases e
          exact .inr ⟨by rw [show kd = .cell by simpa using hk]; exact List.mem_cons_self, Nat.le_refl _⟩
        · exact .inl h
      · exact .inr ⟨List.mem_cons_of_mem _ h1, by omega⟩
    · rw [if_neg hk] at h
      rcases cF_mem h with h | ⟨h1, h2⟩
      · exact .inl h
      · exact .inr ⟨List.mem_cons_of_mem _ h1, h2⟩
theorem cF_acc {p : Str × Addr} : ∀ {l : List (Str × NameKind)} {k : Nat} {acc : List (Str × Addr)}, p ∈ acc → p ∈ cellsFrom k l acc
  | [], k, acc, h => h
  | (m, kd) :: r, k, acc, h => by
    unfold cellsFrom
    split
    · exact cF_acc (List.mem_cons_of_mem _ h)
    · exact cF_acc h
theorem cF_cell {n : Str} : ∀ {l : List (Str × NameKind)} {k : Nat} {acc : List (Str × Addr)}, (n, NameKind.cell) ∈ l → ∃ c, (n, c) ∈ cellsFrom k l acc
  | (m, kd) :: r, k, acc, h => by
    unfold cellsFrom
    rcases List.mem_cons.mp h with e | h
    · cases e
      exact ⟨k, by simpa using cF_acc List.mem_cons_self⟩
    · split
      · exact cF_cell h
      · exact cF_cell h
theorem cF_nodup : ∀ {l : List (Str × NameKind)} {k : Nat} {acc : List (Str × Addr)}, (l.map (·.1)).Nodup → (acc.map (·.1)).Nodup → (∀ n ∈ acc.map (·.1), (n, NameKind.cell) ∉ l) → ((cellsFrom k l acc).map (·.1)).Nodup
  | [], k, acc, _, h, _ => h
  | (m, kd) :: r, k, acc, h1, h2, h3 => by
    unfold cellsFrom
    rw [List.map_cons, List.nodup_cons] at h1
    by_cases hk : (kd == .cell) = true
    · rw [if_pos hk]
      have hk' : kd = .cell := by simpa using hk
      subst hk'
      refine cF_nodup h1.2 ?_ ?_
      · rw [List.map_cons, List.nodup_cons]
        exact ⟨fun hm => h3 m hm List.mem_cons_self, h2⟩
      · intro n hn hr
        rcases List.mem_cons.mp hn with e | hn
        · subst e; exact h1.1 (List.mem_map_of_mem (f := Prod.fst) hr)
        · exact h3 n hn (List.mem_cons_of_mem _ hr)
    · rw [if_neg hk]
      exact cF_nodup h1.2 h2 fun n hn hr => h3 n hn (List.mem_cons_of_mem _ hr)
theorem cF_apart : ∀ {l : List (Str × NameKind)} {k : Nat} {acc : List (Str × Addr)}, (acc.Pairwise fun x y => x.2 ≠ y.2) → (∀ p ∈ acc, p.2 < k) → ((cellsFrom k l acc).Pairwise fun x y => x.2 ≠ y.2)
  | [], k, acc, h, _ => h
  | (m, kd) :: r, k, acc, h, hl => by
    unfold cellsFrom
    split
    · refine cF_apart (List.pairwise_cons.mpr ⟨fun y hy e => ?_, h⟩) fun p hp => ?_
      · have h1 : y.2 < k := hl y hy
        have e' : k = y.2 := e
        rw [← e'] at h1
        exact Nat.lt_irrefl _ h1
      · rcases List.mem_cons.mp hp with e | hp
        · subst e; exact Nat.lt_succ_self _
        · exact Nat.lt_succ_of_lt (hl p hp)
    · exact cF_apart h hl
theorem cF_isCell {n : Str} {c : Addr} : ∀ {l : List (Str × NameKind)} {h : Heap} {acc : List (Str × Addr)}, (n, c) ∈ cellsFrom h.objs.size l acc → (n, c) ∈ acc ∨ (pushCells h l).IsCell c none
  | [], h, acc, e => .inl e
  | (m, kd) :: r, h, acc, e => by
    unfold cellsFrom at e
    unfold pushCells
    by_cases hk : (kd == .cell) = true
    · rw [if_pos hk] at e ⊢
      rw [show h.objs.size + 1 = (h.push { cls := .type "cell", data := .cell none }).objs.size from (Heap.size_push ..).symm] at e
      rcases cF_isCell e with e | e
      · rcases List.mem_cons.mp e with e | e
        · cases e
          exact .inr ⟨_, pushCells_keeps r _ _ _ (Heap.get?_push_size _ rfl), rfl⟩
        · exact .inl e
      · exact .inr e
    · rw [if_neg hk] at e ⊢
      exact cF_isCell e

/-- the comprehension's environment -/
def compEnv (scope : Scope) (env : Env) (C : Addr) : Env :=
  { scope := relabel scope env, locals := C, globals := env.globals, cells := cellsFrom (C + 1) scope.names (clF env scope.names []), qual := env.qual, func := none, code := env.code, frame := env.frame, builtins := env.builtins }

theorem newComp {M : Model} {A : Around} {scope : Scope} {env : Env} {cl : List (Str × Addr)} {s : Shared} {Q : Env → Shared → Prop} {E : Value → Shared → Prop}
    (h : Q { scope, locals := s.heap.objs.size, globals := env.globals, cells := cellsFrom (s.heap.objs.size + 1) scope.names cl, qual := env.qual, func := none, code := env.code, frame := env.frame, builtins := env.builtins } { s with heap := pushCells (s.heap.push { cls := .type "dict", data := .dict #[] }) scope.names }) :
    wpAny M A (newFunctionEnv scope env.globals cl [] env.qual none .none (some env)) Q E s := by
  unfold newFunctionEnv
  refine wpAny_bind (wpAny_alloc ?_)
  refine wpAny_bind (wpAny_layCells _ (fun _ _ _ => rfl) scope.names cl _ _ ?_)
  rw [show ({ s with heap := s.heap.push { cls := .type (if (some env).isSome then "dict" else "frame"), data := .dict #[] } } : Shared).heap.objs.size = s.heap.objs.size + 1 from Heap.size_push ..]
  exact wpAny_bind (wpAny_pure (wpAny_pure h))
end Mine

end
section
open PySem PySem.W PyProof.Rows PySem.Calls
set_option maxRecDepth 100000
namespace Mine

def compCx (c : Cx) (scope : Scope) (C D : Addr) (own : List Str) (caps : List (Str × Nat)) : Cx :=
  { g := c.g, A := c.A, lv := c.lv, env := compEnv scope c.env C, st := own, ns := own ++ caps.map (·.1), σ := own.map (fun _ => .un) ++ caps.map (fun p => (c.σ[p.2]?).getD .un), ow := D :: c.ow }

def compOk (env : Env) (ns : List Str) (scope : Scope) (own : List Str) (caps : List (Str × Nat)) : Bool :=
  decide (scope.kind = .function) && decide ((scope.names.map (·.1)).Nodup) && decide ((own ++ caps.map (·.1)).Nodup)
    && scope.names.all (fun p => decide (p.2 ≠ .free) || (decide (p.1 ∈ ns) && decide (env.kindOf p.1 = some .cell)))
    && own.all (fun x => decide ((x, NameKind.local) ∈ scope.names) || decide ((x, NameKind.cell) ∈ scope.names))
    && caps.all (fun p => decide (ns[p.2]? = some p.1) && decide ((p.1, NameKind.free) ∈ scope.names))

structure CompOk (env : Env) (ns : List Str) (scope : Scope) (own : List Str) (caps : List (Str × Nat)) : Prop where
  kind : scope.kind = .function
  nd : (scope.names.map (·.1)).Nodup
  nd' : (own ++ caps.map (·.1)).Nodup
  free : ∀ n, (n, NameKind.free) ∈ scope.names → n ∈ ns ∧ env.kindOf n = some .cell
  own : ∀ x ∈ own, (x, NameKind.local) ∈ scope.names ∨ (x, NameKind.cell) ∈ scope.names
  caps : ∀ p ∈ caps, ns[p.2]? = some p.1 ∧ (p.1, NameKind.free) ∈ scope.names
theorem compOk_iff {env : Env} {ns : List Str} {scope : Scope} {own : List Str} {caps : List (Str × Nat)} (h : compOk env ns scope own caps = true) : CompOk env ns scope own caps := by
  simp only [compOk, Bool.and_eq_true, decide_eq_true_eq, List.all_eq_true, Bool.or_eq_true] at h
  obtain ⟨⟨⟨⟨⟨h1, h2⟩, h3⟩, h4⟩, h5⟩, h6⟩ := h
  exact ⟨h1, h2, h3, fun n hn => (h4 (n, .free) hn).elim (fun e => absurd rfl e) id, h5, h6⟩

theorem lookup_relabel {env : Env} {x : Str} {k : NameKind} : ∀ {names : List (Str × NameKind)}, (names.map (·.1)).Nodup → (x, k) ∈ names →
    (names.map fun (n, k) => if (k == NameKind.free && env.scope.kind == .function && env.kindOf n == some .cell) then (n, NameKind.cell) else (n, k)).lookup x
      = some (if (k == NameKind.free && env.scope.kind == .function && env.kindOf x == some .cell) then NameKind.cell else k)
  | (n, k') :: r, h, hm => by
    rw [List.map_cons, List.nodup_cons] at h
    rcases List.mem_cons.mp hm with e | hm
    · cases e
      rw [List.map_cons]
      dsimp only
      split <;> simp [List.lookup_cons]
    · have hne : x ≠ n := fun e => h.1 (by have := List.mem_map_of_mem (f := Prod.fst) hm; rw [e] at this; exact this)
      have hb : (x == n) = false := by simpa using hne
      rw [List.map_cons]
      dsimp only
      have ih := lookup_relabel (env := env) h.2 hm
      split <;> (rw [List.lookup_cons, hb]; exact ih)

section
variable {env : Env} {ns : List Str} {scope : Scope} {own : List Str} {caps : List (Str × Nat)}
theorem CompOk.kindLocal (h : CompOk env ns scope own caps) {C : Addr} {x : Str} (hx : (x, NameKind.local) ∈ scope.names) : (compEnv scope env C).kindOf x = some .local :=
  lookup_relabel (env := env) h.nd hx
theorem CompOk.kindCell (h : CompOk env ns scope own caps) {C : Addr} {x : Str} (hx : (x, NameKind.cell) ∈ scope.names) : (compEnv scope env C).kindOf x = some .cell :=
  lookup_relabel (env := env) h.nd hx
theorem CompOk.kindFree (h : CompOk env ns scope own caps) (fk : env.scope.kind = .function) {C : Addr} {x : Str} (hx : (x, NameKind.free) ∈ scope.names) : (compEnv scope env C).kindOf x = some .cell := by
  refine (lookup_relabel (env := env) h.nd hx).trans ?_
  rw [fk, (h.free x hx).2]
  rfl
theorem CompOk.look (h : CompOk env ns scope own caps) (fs : Fs env ns) {x : Str} (hx : (x, NameKind.free) ∈ scope.names) : ∃ c, env.cells.lookup x = some c := by
  obtain ⟨h1, h2⟩ := h.free x hx
  rcases fs.kn x h1 with e | ⟨_, c, e⟩
  · rw [h2] at e; cases e
  · exact ⟨c, e⟩
theorem CompOk.cells (h : CompOk env ns scope own caps) (fs : Fs env ns) (C : Addr) (hlt : ∀ x c, env.cells.lookup x = some c → c < C) :
    ((compEnv scope env C).cells.map (·.1)).Nodup ∧ ((compEnv scope env C).cells.Pairwise fun x y => x.2 ≠ y.2) ∧
    (∀ x c, (compEnv scope env C).cells.lookup x = some c → ((x, NameKind.cell) ∈ scope.names ∧ C < c) ∨ ((x, NameKind.free) ∈ scope.names ∧ env.cells.lookup x = some c)) ∧
    (∀ x, (x, NameKind.cell) ∈ scope.names → ∃ c, (compEnv scope env C).cells.lookup x = some c) ∧
    (∀ x c, (x, NameKind.free) ∈ scope.names → env.cells.lookup x = some c → (compEnv scope env C).cells.lookup x = some c) := by
  have hfree : ∀ {x c}, (x, c) ∈ clF env scope.names [] → (x, NameKind.free) ∈ scope.names ∧ env.cells.lookup x = some c := fun {x c} hm => by
    rcases clF_mem hm with hm | ⟨h1, h2⟩
    · cases hm
    · obtain ⟨c', e⟩ := h.look fs h1
      rw [e] at h2
      exact ⟨h1, by rw [e, h2]; rfl⟩
  have hnd1 : ((clF env scope.names []).map (·.1)).Nodup := clF_nodup h.nd (by simp) (by simp)
  have hnd : ((compEnv scope env C).cells.map (·.1)).Nodup := by
    refine cF_nodup h.nd hnd1 fun n hn hc => ?_
    obtain ⟨⟨n', c⟩, hm, rfl⟩ := List.mem_map.mp hn
    have hf := (hfree hm).1
    have := lookup_relabel (env := { env with scope := { env.scope with names := [] } }) h.nd hf
    have h2 := lookup_relabel (env := { env with scope := { env.scope with names := [] } }) h.nd hc
    rw [this] at h2
    simp [Env.kindOf] at h2
  refine ⟨hnd, ?_, ?_, ?_, ?_⟩
  · refine cF_apart ?_ fun p hp => ?_
    · have hp : (clF env scope.names []).Pairwise fun x y => x.1 ≠ y.1 := by
        have := hnd1
        rw [List.Nodup, List.pairwise_map] at this
        exact this
      refine List.Pairwise.imp_of_mem (fun {x y} hx hy hne e => hne ?_) hp
      obtain ⟨x1, x2⟩ := x
      obtain ⟨y1, y2⟩ := y
      have e' : x2 = y2 := e
      subst e'
      exact name_of_addr fs.apart (mem_of_lookup (hfree hx).2) (mem_of_lookup (hfree hy).2)
    · obtain ⟨n, c⟩ := p
      exact Nat.lt_succ_of_lt (hlt n c (hfree hp).2)
  · intro x c e
    rcases cF_mem (mem_of_lookup e) with hm | ⟨h1, h2⟩
    · exact .inr (hfree hm)
    · exact .inl ⟨h1, h2⟩
  · intro x hx
    obtain ⟨c, hc⟩ := cF_cell (k := C + 1) (acc := clF env scope.names []) hx
    exact ⟨c, lookup_of_mem_nodup hnd hc⟩
  · intro x c hx hc
    have := clF_free (env := env) (acc := []) hx
    rw [hc] at this
    exact lookup_of_mem_nodup hnd (cF_acc this)
end

def cellVal (h : Heap) (c : Addr) : Option Value := match h.get? c with
  | some o => (match o.data with | .cell v => v | _ => none)
  | none => none
theorem cellVal_of {h : Heap} {c : Addr} {v : Option Value} (x : h.IsCell c v) : cellVal h c = v := by
  obtain ⟨o, g, d⟩ := x
  unfold cellVal
  rw [g]; simp only [d]

/-- the heap when a comprehension's loop begins -/
def compHeap (h : Heap) (scope : Scope) : Heap := pushCells ((h.push { cls := .type "list", data := .seq ([] : List Value).toArray }).push { cls := .type "dict", data := .dict #[] }) scope.names

theorem comp_cx {c : Cx} {s : Shared} {scope : Scope} {own : List Str} {caps : List (Str × Nat)} (hs : CX c s) (ok : CompOk c.env c.ns scope own caps) :
    CX (compCx c scope (s.heap.objs.size + 1) s.heap.objs.size own caps) { s with heap := compHeap s.heap scope } := by
  have hE1 : Ext s.heap (s.heap.push { cls := .type "list", data := .seq ([] : List Value).toArray }) := fun _ _ e => Heap.get?_push_of_some _ e
  have hE2 : Ext ((s.heap.push { cls := .type "list", data := .seq ([] : List Value).toArray }).push { cls := .type "dict", data := .dict #[] }) (compHeap s.heap scope) := fun b o e => pushCells_keeps scope.names _ b o e
  have hE : Ext s.heap (compHeap s.heap scope) := fun b o e => hE2 b o (Heap.get?_push_of_some _ (hE1 b o e))
  have hsz : ((s.heap.push { cls := .type "list", data := .seq ([] : List Value).toArray }).push { cls := .type "dict", data := .dict #[] }).objs.size = s.heap.objs.size + 2 := by rw [Heap.size_push, Heap.size_push]
  have hfresh : ∀ b, s.heap.objs.size ≤ b → s.heap.get? b = none := fun b hb => by
    cases e : s.heap.get? b with
    | none => rfl
    | some o => exact absurd (Heap.lt_size e) (Nat.not_lt.mpr hb)
  have hbase : ∀ b, s.heap.objs.size ≤ b → c.g.hB.get? b = none := fun b hb => (hs.new (hfresh b hb)).base
  obtain ⟨lv1, lv2, lv3⟩ := hs.live
  have hlt : ∀ x cc, c.env.cells.lookup x = some cc → cc < s.heap.objs.size := fun x cc e => let ⟨o, g⟩ := lv2 x cc e; Heap.lt_size g
  obtain ⟨cnd, cap, clk, ccl, cfr⟩ := ok.cells hs.fs (s.heap.objs.size + 1) fun x cc e => Nat.lt_succ_of_lt (hlt x cc e)
  have hD : (compHeap s.heap scope).get? s.heap.objs.size = some { cls := .type "list", data := .seq ([] : List Value).toArray } := hE2 _ _ (Heap.get?_push_of_some _ (Heap.get?_push_size _ rfl))
  have hC : (compHeap s.heap scope).Ns (s.heap.objs.size + 1) fun _ => none := by
    have := Heap.Ns.new (s.heap.push { cls := .type "list", data := .seq ([] : List Value).toArray }) (.type "dict")
    rw [Heap.size_push] at this
    exact this.keeps hE2
  obtain ⟨m, fr, hb⟩ := hs.vs.ex
  have hcell : ∀ x cc, (compEnv scope c.env (s.heap.objs.size + 1)).cells.lookup x = some cc → ∃ v, (compHeap s.heap scope).IsCell cc v := fun x cc e => by
    rcases clk x cc e with ⟨h1, h2⟩ | ⟨h1, h2⟩
    · have hm := mem_of_lookup e
      have hm' : (x, cc) ∈ cellsFrom ((s.heap.push { cls := .type "list", data := .seq ([] : List Value).toArray }).push { cls := .type "dict", data := .dict #[] }).objs.size scope.names (clF c.env scope.names []) := by rw [hsz]; exact hm
      rcases cF_isCell hm' with hm2 | hm2
      · rcases clF_mem hm2 with hm3 | ⟨h3, h4⟩
        · cases hm3
        · obtain ⟨c', e'⟩ := ok.look hs.fs h3
          exact ⟨_, (fr.cel x c' e').keeps hE |> fun z => by rw [h4, e']; exact z⟩
      · exact ⟨_, hm2⟩
    · exact ⟨_, (fr.cel x cc h2).keeps hE⟩
  have hkx : ∀ x cc, (compEnv scope c.env (s.heap.objs.size + 1)).cells.lookup x = some cc → (compEnv scope c.env (s.heap.objs.size + 1)).kindOf x = some .cell := fun x cc e => by
    rcases clk x cc e with ⟨h1, _⟩ | ⟨h1, _⟩
    · exact ok.kindCell h1
    · exact ok.kindFree hs.fs.kind h1
  refine ⟨hs.st, hs.eb.trans hE, hs.a, ⟨?_, ok.nd', ?_, ?_, cap, hs.fs.gl, hs.fs.bi⟩, ⟨⟨fun x => ((compEnv scope c.env (s.heap.objs.size + 1)).cells.lookup x).bind (cellVal (compHeap s.heap scope)), ⟨⟨_, hC, fun x hx => ?_⟩, fun x cc e => ?_⟩, ?_⟩, ?_, ?_⟩, ?_, hbase _ (Nat.le_succ _), ?_, ?_⟩
  · exact ok.kind
  · intro x hx
    rcases List.mem_append.mp hx with hx | hx
    · rcases ok.own x hx with h1 | h1
      · exact .inl (ok.kindLocal h1)
      · exact .inr ⟨ok.kindCell h1, ccl x h1⟩
    · obtain ⟨p, hp, rfl⟩ := List.mem_map.mp hx
      have h1 := (ok.caps p hp).2
      obtain ⟨c', e'⟩ := ok.look hs.fs h1
      exact .inr ⟨ok.kindFree hs.fs.kind h1, c', cfr _ _ h1 e'⟩
  · intro x cc e h1
    have h2 := hkx x cc e
    have h1' : (compEnv scope c.env (s.heap.objs.size + 1)).kindOf x = some .local := h1
    rw [h2] at h1'; cases h1'
  · cases e : (compEnv scope c.env (s.heap.objs.size + 1)).cells.lookup x with
    | none => rfl
    | some cc =>
      have h2 := hkx x cc e
      have h1' : (compEnv scope c.env (s.heap.objs.size + 1)).kindOf x = some .local := hx
      rw [h2] at h1'; cases h1'
  · have e' : (compEnv scope c.env (s.heap.objs.size + 1)).cells.lookup x = some cc := e
    obtain ⟨v, hv⟩ := hcell x cc e'
    rw [e']
    show (compHeap s.heap scope).IsCell cc (cellVal (compHeap s.heap scope) cc)
    rw [cellVal_of hv]
    exact hv
  · intro i x b hx hz
    have hx' : (own ++ caps.map (·.1))[i]? = some x := hx
    have hz' : (own.map (fun _ => Bnd.un) ++ caps.map (fun p => (c.σ[p.2]?).getD .un))[i]? = some b := hz
    by_cases hi : i < own.length
    · rw [List.getElem?_append_left (by simpa using hi)] at hz'
      rw [List.getElem?_map] at hz'
      cases hq : own[i]? with
      | none => rw [hq] at hz'; cases hz'
      | some y => rw [hq] at hz'; cases hz'; trivial
    · rw [List.getElem?_append_right (by simpa using hi)] at hz'
      rw [List.getElem?_append_right (by simpa using hi)] at hx'
      simp only [List.length_map, List.getElem?_map] at hz' hx'
      cases hq : caps[i - own.length]? with
      | none => rw [hq] at hz'; cases hz'
      | some p =>
        rw [hq] at hz' hx'
        cases hz'
        cases hx'
        obtain ⟨h1, h2⟩ := ok.caps p (List.mem_of_getElem? hq)
        obtain ⟨c', e'⟩ := ok.look hs.fs h2
        have e2 := cfr _ _ h2 e'
        show BV c.g.prog c.g.w (compHeap s.heap scope) (s.heap.objs.size :: c.ow) (((compEnv scope c.env (s.heap.objs.size + 1)).cells.lookup p.1).bind (cellVal (compHeap s.heap scope))) ((c.σ[p.2]?).getD .un)
        rw [e2]
        show BV c.g.prog c.g.w (compHeap s.heap scope) (s.heap.objs.size :: c.ow) (cellVal (compHeap s.heap scope) c') ((c.σ[p.2]?).getD .un)
        rw [cellVal_of ((fr.cel _ c' e').keeps hE)]
        cases hσ : c.σ[p.2]? with
        | none => trivial
        | some b =>
          refine (hb p.2 p.1 b h1 hσ).keep (hE.lt _) (fun a ha => ?_) (fun a ha => List.mem_cons_of_mem _ ha) fun a ha o g => hE a o g
          rcases List.mem_cons.mp ha with e | ha
          · exact .inr (e ▸ hfresh _ (Nat.le_refl _))
          · exact .inl ha
  · intro a ha
    rcases List.mem_cons.mp ha with e | ha
    · exact ⟨_, e ▸ hD⟩
    · obtain ⟨o, g⟩ := lv3 a ha; exact ⟨o, hE _ _ g⟩
  · show (own.map (fun _ => Bnd.un) ++ caps.map (fun p => (c.σ[p.2]?).getD .un)).length = (own ++ caps.map (·.1)).length
    simp
  · intro x hx; exact List.mem_append_left _ hx
  · intro x b e
    rcases clk x b e with ⟨_, h2⟩ | ⟨_, h2⟩
    · exact hbase b (Nat.le_of_lt (Nat.lt_trans (Nat.lt_succ_self _) h2))
    · exact hs.nc x b h2
  · intro a ha
    rcases List.mem_cons.mp ha with e | ha
    · subst e
      refine ⟨hbase _ (Nat.le_refl _), Nat.ne_of_lt (Nat.lt_succ_self _), fun x e => ?_⟩
      rcases clk x _ e with ⟨_, h2⟩ | ⟨_, h2⟩
      · exact Nat.lt_irrefl _ (Nat.lt_trans (Nat.lt_succ_self _) h2)
      · exact Nat.lt_irrefl _ (hlt x _ h2)
    · obtain ⟨o, g⟩ := lv3 a ha
      have hal := Heap.lt_size g
      refine ⟨(hs.no a ha).1, Nat.ne_of_lt (Nat.lt_succ_of_lt hal), fun x e => ?_⟩
      rcases clk x _ e with ⟨_, h2⟩ | ⟨_, h2⟩
      · exact Nat.lt_irrefl _ (Nat.lt_trans hal (Nat.lt_trans (Nat.lt_succ_self _) h2))
      · exact (hs.no a ha).2.2 x h2
end Mine

end
section
open PySem PySem.W PyProof.Rows PySem.Calls
set_option maxRecDepth 100000
namespace Mine

/-- the list that is being filled -/
def Acc (c : Cx) (D : Addr) (s : Shared) (xs : List PV) : Prop := ∃ vs, s.heap.PlainList D vs ∧ DIs s.heap c.ow vs.toList xs
theorem Acc.kp {c : Cx} {D : Addr} {s s' : Shared} {xs : List PV} (h : Acc c D s xs) (k : Kp s s') : Acc c D s' xs := let ⟨vs, a, b⟩ := h; ⟨vs, a.at fun o g => k.ext _ o g, b.ext k.ext⟩
theorem Acc.same {c c' : Cx} {D : Addr} {s : Shared} {xs : List PV} (e : Same c c') (h : Acc c D s xs) : Acc c' D s xs := by unfold Acc; rw [e.ow]; exact h
theorem Acc.same' {c c' : Cx} {D : Addr} {s : Shared} {xs : List PV} (e : Same c c') (h : Acc c' D s xs) : Acc c D s xs := by unfold Acc at h; rw [e.ow] at h; exact h
def FC (c : Cx) (D b : Addr) : Prop := (∃ x ∈ c.st, slot c.env x b) ∨ b = D

/-- one of the frame's own lists turns -/
theorem CX.acc {c : Cx} {s : Shared} (hs : CX c s) {D : Addr} (hD : D ∈ c.ow) (no : ∀ (i : Nat) o, c.σ[i]? ≠ some (.ow D o)) {h' : Heap} {tk : Nat} (hsb : Heap.SameBut D s.heap h') (hl : ∃ o, h'.get? D = some o) : CX c { s with heap := h', toks := tk } := by
  obtain ⟨m, fr, hb⟩ := hs.vs.ex
  obtain ⟨n1, n2, n3⟩ := hs.no D hD
  have hk : KeepLT c.ow s.heap h' := fun b o ho g _ => (hsb.2 b fun e => ho (e ▸ hD)).trans g
  refine ⟨hs.st, fun b o g => (hsb.2 b fun e => by rw [e, n1] at g; cases g).trans (hs.eb b o g), hs.a, hs.fs, ⟨⟨m, ⟨?_, ?_⟩, fun i x b hx hz => ?_⟩, fun a ha => ?_, hs.vs.ln⟩, hs.sub, hs.nl, hs.nc, hs.no⟩
  · obtain ⟨ml, hn, e⟩ := fr.loc
    exact ⟨ml, hn.sameBut hsb (Ne.symm n2), e⟩
  · intro x b e
    exact (fr.cel x b e).sameBut hsb fun q => n3 x (q ▸ e)
  · have hbv := hb i x b hx hz
    cases b with
    | un => trivial
    | fz d => obtain ⟨v, e, r⟩ := hbv; exact ⟨v, e, r.keep hk fun _ m => .inl m⟩
    | ow a o =>
      obtain ⟨e1, e2, e3⟩ := hbv
      have hne : a ≠ D := fun e => no i o (e ▸ hz)
      exact ⟨e1, e2, e3.keep hk (fun _ m => .inl m) fun o g => (hsb.2 a hne).trans g⟩
    | raw v => exact hbv
  · by_cases e : a = D
    · subst e; exact hl
    · obtain ⟨o, g⟩ := hs.vs.live a ha
      exact ⟨o, (hsb.2 a e).trans g⟩

theorem acc_push {c : Cx} {s : Shared} {D : Addr} {xs : List PV} {v : Value} {d : PV} (hs : CX c s) (hD : D ∈ c.ow) (no : ∀ (i : Nat) o, c.σ[i]? ≠ some (.ow D o)) (ha : Acc c D s xs) (hv : DI s.heap c.ow v d) (hz : xs.length ≤ sizeLine) {Q : Value → Shared → Prop} {E : Value → Shared → Prop}
    (h : ∀ s', CX c s' → Acc c D s' (xs ++ [d]) → Md (fun b => b = D) s s' → Q .none s') : wpAny (model c.g.prog c.g.w) c.A (call (.builtin "list.append") [.ref D, v]) Q E s := by
  obtain ⟨vs, hl, hd⟩ := ha
  have e1 := hd.length
  simp only [Array.length_toList] at e1
  refine wpAny_list_append_plain hl (fun h' hl' hsb => ?_) (by omega)
  have hk : KeepLT c.ow s.heap h' := fun b o ho g _ => (hsb.2 b fun e => ho (e ▸ hD)).trans g
  refine h _ (hs.acc hD no hsb (let ⟨n, g⟩ := hl'; ⟨_, g⟩)) ⟨_, hl', ?_⟩ ⟨h', s.toks, rfl, fun b o hb g => (hsb.2 b hb).trans g⟩
  rw [Array.toList_push]
  exact (hd.keep hk fun _ m => .inl m).append (.one (hv.keep hk fun _ m => .inl m))

theorem comp_start {prog : Program} {w : World} {A : Around} {R : Result → Shared → Prop} {elt : Expr} {gens : List Comprehension} {scope : Scope} {pos : Pos} {k : Nat} {it acc : Value} {env : Env} {s : Shared} {gg : Comprehension} (hg : gens[k]? = some gg) (ha : gg.is_async = 0)
    (h0 : codeAny (model prog w) A (.compLoop (.ListComp elt gens scope pos) k it acc env) R s)
    (h : wpAny (model prog w) A (pyIter it) (fun it' s' => codeAny (model prog w) A (.compLoop (.ListComp elt gens scope pos) k it' acc env) R s') (fun _ _ => False) s) : codeAny (model prog w) A (.compStart (.ListComp elt gens scope pos) k it acc env) R s := by
  refine codeAny_of_tree ?_
  show wpAny _ _ ((compStart (.ListComp elt gens scope pos) k it acc env).onRaise (fun x => do noteFrame x env; standAt theWindowsPlace)) _ _ s
  refine wpAny_notedAt ?_
  unfold compStart
  rw [show clausesOf (.ListComp elt gens scope pos) = gens from rfl, hg]
  simp only [Option.elim_some, ha, bne_self_eq_false, Bool.false_eq_true, if_false]
  show wpAny _ _ (ask >>= _) _ _ s
  refine wpAny_bind (wpAny_askSetting (wpAny_ite ?_))
  split
  · first
      | exact wpAny_bind (wpAny_pure (wpAny_pure (And.intro rfl h0)))
      | exact wpAny_pure (And.intro rfl h0)
  · refine wpAny_bind (wpAny_rule ?_)
    show wpAny _ _ (standAt gg.iter.pos >>= _) _ _ s
    exact wpAny_bind (wpAny_standAt (wpAny_bind (wpAny_mono h (fun it' s' h' => wpAny_pure (And.intro rfl h')) fun _ _ x => x.elim)))

theorem range_flat_le (g : Nat → List PV) {a b : Nat} (h : a ≤ b) : ((List.range a).flatMap g).length ≤ ((List.range b).flatMap g).length := by
  induction b with
  | zero => have : a = 0 := by omega
            subst this; exact Nat.le_refl _
  | succ b ih =>
    by_cases e : a = b + 1
    · subst e; exact Nat.le_refl _
    · have := ih (by omega)
      rw [List.range_succ (n := b), List.flatMap_append, List.length_append]
      omega
theorem comp_loop {cc : Cx} {elt : Expr} {gens : List Comprehension} {scope : Scope} {pos : Pos} {k : Nat} {D I : Addr} {target : Expr} {p : Pos} {Kf : Value → Sem Fin} {ds : List PV} {s : Shared} {xs : List PV} {fp : List Addr} {P : Nat → Value → Prop} {St : Nat → Heap → Prop}
    (hT : ∀ it, compTurn (.ListComp elt gens scope pos) k it (.ref D) cc.env = (standAt p >>= fun _ => pyNext it >>= fun r => match r with | none => pure (.done .next) | some v => letOwnedTupleGo target it v >>= fun _ => assign target cc.env v >>= fun _ => Kf it))
    (hD : D ∈ cc.ow) (cT : Nat → Cx) (sT : ∀ i, Same cc (cT i)) (ta : ∀ i d, ds[i]? = some d → TA cc target d (cT i)) (g : Nat → List PV)
    (body : ∀ it i d s xs, ds[i]? = some d → CX (cT i) s → Acc cc D s xs → xs.length + (g i).length ≤ sizeLine →
      wpAny (model cc.g.prog cc.g.w) cc.A (Kf it) (fun fin s' => fin = .again (.compLoop (.ListComp elt gens scope pos) k it (.ref D) cc.env) ∧ CX cc s' ∧ Acc cc D s' (xs ++ g i) ∧ Md (FC cc D) s s') (fun _ _ => False) s)
    (W : Walks cc.g.prog cc.g.w cc.A I fp [I] ds.length P St) (st0 : St 0 s.heap) (nI : New cc I)
    (hobj : ∀ i h, St i h → ∃ o n vs, h.get? I = some o ∧ o.cls = .type n ∧ (n = "list_iterator" ∨ n = "range_iterator") ∧ o.data = .fields vs)
    (hfp : ∀ b ∈ fp, b = I ∨ (b ∉ cc.ow ∧ ∃ o, s.heap.get? b = some o ∧ SeqO o))
    (hP : ∀ i v h, i < ds.length → P i v → KeepLT cc.ow s.heap h → ∃ d, ds[i]? = some d ∧ DI h cc.ow v d)
    (hz : xs.length + ((List.range ds.length).flatMap g).length ≤ sizeLine) (hs : CX cc s) (hacc : Acc cc D s xs) :
    codeAny (model cc.g.prog cc.g.w) cc.A (.compLoop (.ListComp elt gens scope pos) k (.ref I) (.ref D) cc.env) (fun r s' => r = .ok .next ∧ CX cc s' ∧ Acc cc D s' (xs ++ (List.range ds.length).flatMap g) ∧ Md (fun b => FC cc D b ∨ b = I) s s') s := by
  have notSeq : ∀ i h o, St i h → h.get? I = some o → ¬ SeqO o := fun i h o st gg q => by
    obtain ⟨o', n, vs, g', _, _, d⟩ := hobj i h st
    rw [gg] at g'; cases g'
    obtain ⟨us, m, q⟩ := q
    rw [q] at d; cases d
  have nFC : ∀ {s : Shared} {b : Addr} {o : Obj}, CX cc s → s.heap.get? b = some o → SeqO o → b ∉ cc.ow → ¬ FC cc D b := fun hc gg q ho h => by
    rcases h with ⟨x, hx, h⟩ | h
    · exact hc.slot_seq h gg q
    · exact ho (h ▸ hD)
  have nIFC : ¬ FC cc D I := fun h => by
    rcases h with ⟨x, hx, ⟨_, h⟩ | ⟨_, h⟩⟩ | h
    · exact nI.loc h
    · exact nI.cel x h
    · exact nI.own (h ▸ hD)
  refine codeAny_loop rfl (fun n s' => ∃ i, i ≤ ds.length ∧ n = ds.length + 1 - i ∧ CX cc s' ∧ Acc cc D s' (xs ++ (List.range i).flatMap g) ∧ Md (fun b => FC cc D b ∨ b = I) s s' ∧ St i s'.heap ∧ KeepLT cc.ow s.heap s'.heap) ?_ (ds.length + 1)
    ⟨0, Nat.zero_le _, rfl, hs, by simpa using hacc, .refl _ s, st0, fun _ _ _ gg _ => gg⟩
  rintro n s' ⟨i, hle, rfl, hcx, hac, hmd, hst, hkl⟩
  show wpAny _ cc.A ((compTurn (.ListComp elt gens scope pos) k (.ref I) (.ref D) cc.env).onRaise (fun x => do noteFrame x cc.env; theTreesLotGoes x)) _ _ s'
  refine wpAny_noted ?_
  rw [hT]
  refine wpAny_bind (wpAny_standAt (wpAny_bind ?_))
  by_cases hlt : i < ds.length
  · refine W.item i s' _ _ hlt hst fun v h' tk' hPv hst' hk' => ?_
    have hI' : ∀ o, s'.heap.get? I = some o → ¬ SeqO o := fun o gg => notSeq i _ o hst gg
    have hcx' : CX cc { s' with heap := h', toks := tk' } := hcx.off fun b o gg => by
      by_cases hb : b = I
      · exact .inl ⟨hb ▸ nI, hI' o (hb ▸ gg)⟩
      · exact .inr (hk' b o (by simpa using hb) gg)
    have hkl1 : KeepLT cc.ow s'.heap h' := fun b o ho gg q => hk' b o (fun hm => hI' o ((List.mem_singleton.mp hm) ▸ gg) q) gg
    have hkl' : KeepLT cc.ow s.heap h' := fun b o ho gg q => hkl1 b o ho (hkl b o ho gg q) q
    have hac' : Acc cc D { s' with heap := h', toks := tk' } (xs ++ (List.range i).flatMap g) := by
      obtain ⟨vs, hl, hd⟩ := hac
      refine ⟨vs, hl.at fun o gg => hk' D o ?_ gg, hd.keep hkl1 fun _ m => .inl m⟩
      exact fun hm => nI.own ((List.mem_singleton.mp hm) ▸ hD)
    obtain ⟨d, hd, hv⟩ := hP i v h' hlt hPv hkl'
    obtain ⟨o, n, vs, gg, hc, hn, hdd⟩ := hobj _ _ hst'
    refine wpAny_bind (letOwned (s := { s' with heap := h', toks := tk' }) gg hc hn hdd ?_)
    refine wpAny_bind (wpAny_mono (ta i d hd { s' with heap := h', toks := tk' } v hcx' hv) (fun _ s₃ q => ?_) fun _ _ f => f.elim)
    obtain ⟨hc3, m3⟩ := q
    have m3k : KeepLT cc.ow h' s₃.heap := hcx'.md_seq m3
    have hac3 : Acc cc D s₃ (xs ++ (List.range i).flatMap g) := by
      obtain ⟨vs, hl, hd⟩ := hac'
      refine ⟨vs, hl.at fun o gg => ?_, hd.keep m3k fun _ m => .inl m⟩
      refine m3.to_kp (s := { s' with heap := h', toks := tk' }) gg fun ⟨x, _, hsl⟩ => ?_
      obtain ⟨n2, hl2⟩ := hl
      have gg' := hl2.symm.trans gg
      cases gg'
      exact hcx'.slot_seq hsl gg ⟨_, _, rfl⟩
    have hlen : (xs ++ (List.range i).flatMap g).length + (g i).length ≤ sizeLine := by
      have h1 : ((List.range (i + 1)).flatMap g).length ≤ ((List.range ds.length).flatMap g).length := by
        exact range_flat_le g (by omega)
      rw [List.range_succ, List.flatMap_append, List.length_append] at h1
      simp only [List.flatMap_cons, List.flatMap_nil, List.append_nil] at h1
      rw [List.length_append]
      omega
    refine wpAny_mono (body (.ref I) i d s₃ _ hd hc3 hac3 hlen) (fun fin s₄ q => ?_) fun _ _ f => f.elim
    obtain ⟨rfl, hc4, hac4, m4⟩ := q
    have m34 : Md (FC cc D) { s' with heap := h', toks := tk' } s₄ := (m3.mono (G := FC cc D) fun b hb => .inl hb).trans m4 fun b hb => .inl hb
    have keep4 : ∀ b o, h'.get? b = some o → ¬ FC cc D b → s₄.heap.get? b = some o := fun b o gg hb => m34.to_kp (s := { s' with heap := h', toks := tk' }) gg hb
    refine ⟨rfl, ds.length + 1 - (i + 1), by omega, i + 1, by omega, rfl, hc4, ?_, ?_, ?_, ?_⟩
    · rw [List.range_succ, List.flatMap_append]
      simpa [List.append_assoc] using hac4
    · have m1 : Md (fun b => b = I) s' { s' with heap := h', toks := tk' } := ⟨h', tk', rfl, fun b o hb gg => hk' b o (by simpa using hb) gg⟩
      exact (hmd.trans m1 fun b hb => .inl (.inr hb)).trans m34 fun b hb => .inl (.inl hb)
    · refine W.frame _ _ _ hst' fun b hb o gg => keep4 b o gg ?_
      rcases hfp b hb with e | ⟨ho, o', g', q'⟩
      · subst e; exact nIFC
      · have g2 := hkl' b o' ho g' q'
        rw [gg] at g2; cases g2
        exact nFC hcx' gg q' ho
    · intro b o ho gg q
      have g2 := hkl' b o ho gg q
      exact keep4 b o g2 (nFC hcx' g2 q ho)
  · have hin : i = ds.length := by omega
    subst hin
    refine W.done s' _ _ hst fun h' tk' hk' => ?_
    have hI' : ∀ o, s'.heap.get? I = some o → ¬ SeqO o := fun o gg => notSeq _ _ o hst gg
    have hkl1 : KeepLT cc.ow s'.heap h' := fun b o ho gg q => hk' b o (fun hm => hI' o ((List.mem_singleton.mp hm) ▸ gg) q) gg
    refine wpAny_pure ⟨rfl, hcx.off fun b o gg => ?_, ?_, ?_⟩
    · by_cases hb : b = I
      · exact .inl ⟨hb ▸ nI, hI' o (hb ▸ gg)⟩
      · exact .inr (hk' b o (by simpa using hb) gg)
    · obtain ⟨vs, hl, hd⟩ := hac
      refine ⟨vs, hl.at fun o gg => hk' D o ?_ gg, hd.keep hkl1 fun _ m => .inl m⟩
      exact fun hm => nI.own ((List.mem_singleton.mp hm) ▸ hD)
    · have m1 : Md (fun b => b = I) s' { s' with heap := h', toks := tk' } := ⟨h', tk', rfl, fun b o hb gg => hk' b o (by simpa using hb) gg⟩
      exact hmd.trans m1 fun b hb => .inl (.inr hb)
end Mine

end
section
open PySem PySem.W PyProof.Rows PySem.Calls
set_option maxRecDepth 100000
namespace Mine

theorem CX.unset {c : Cx} {s : Shared} {i : Nat} {b : Bnd} (hi : c.σ[i]? = some .un) (h : CX (c.set i b) s) : CX c s := by
  obtain ⟨m, fr, hb⟩ := h.vs.ex
  refine ⟨h.st, h.eb, h.a, h.fs, ⟨⟨m, fr, fun j x z hx hz => ?_⟩, h.vs.live, ?_⟩, h.sub, h.nl, h.nc, h.no⟩
  · by_cases e : i = j
    · subst e; rw [hi] at hz; cases hz; trivial
    · exact hb j x z hx (by show (c.σ.set i b)[j]? = some z; rw [List.getElem?_set_ne e]; exact hz)
  · have := h.vs.ln; simpa using this

inductive TrIf (c : Cx) : List Expr → Bool → Prop
  | nil : TrIf c [] true
  | one {t : Expr} {b : Bool} : Tr c t b → TrIf c [t] b
theorem TrIf.use {c : Cx} {ifs : List Expr} {b : Bool} (h : TrIf c ifs b) {s : Shared} (hs : CX c s) {Q : Bool → Shared → Prop} {E : Value → Shared → Prop} (hq : ∀ s', CX c s' → Kp s s' → Q b s') :
    wpAny (model c.g.prog c.g.w) c.A (forIn ifs true fun x r => if r = true then do let ok ← isTrue x c.env (eval x c.env); pure (ForInStep.yield ok) else pure (ForInStep.yield r)) Q E s := by
  cases h with
  | nil => exact wpAny_tests_nil (hq s hs (.refl s))
  | one h => exact wpAny_tests_one (h.use hs hq)

theorem turn_1 (elt target iter : Expr) (ifs : List Expr) (scope : Scope) (pos : Pos) (acc : Value) (env : Env) (it : Value) :
    compTurn (.ListComp elt [⟨target, iter, ifs, 0⟩] scope pos) 0 it acc env = (standAt iter.pos >>= fun _ => pyNext it >>= fun r => match r with
      | none => pure (.done .next)
      | some v => letOwnedTupleGo target it v >>= fun _ => assign target env v >>= fun _ => (do
        let mut ok := true
        for c in ifs do
          if ok then ok ← isTrue c env (eval c env)
        if ok then
          (do let _ ← call (.builtin "list.append") [acc, ← eval elt env])
        again (.compLoop (.ListComp elt [⟨target, iter, ifs, 0⟩] scope pos) 0 it acc env))) := by rfl
theorem turn_21 (elt t0 i0 t1 i1 : Expr) (ifs0 ifs1 : List Expr) (scope : Scope) (pos : Pos) (acc : Value) (env : Env) (it : Value) :
    compTurn (.ListComp elt [⟨t0, i0, ifs0, 0⟩, ⟨t1, i1, ifs1, 0⟩] scope pos) 1 it acc env = (standAt i1.pos >>= fun _ => pyNext it >>= fun r => match r with
      | none => pure (.done .next)
      | some v => letOwnedTupleGo t1 it v >>= fun _ => assign t1 env v >>= fun _ => (do
        let mut ok := true
        for c in ifs1 do
          if ok then ok ← isTrue c env (eval c env)
        if ok then
          (do let _ ← call (.builtin "list.append") [acc, ← eval elt env])
        again (.compLoop (.ListComp elt [⟨t0, i0, ifs0, 0⟩, ⟨t1, i1, ifs1, 0⟩] scope pos) 1 it acc env))) := by rfl
theorem turn_20 (elt t0 i0 t1 i1 : Expr) (ifs0 ifs1 : List Expr) (scope : Scope) (pos : Pos) (acc : Value) (env : Env) (it : Value) :
    compTurn (.ListComp elt [⟨t0, i0, ifs0, 0⟩, ⟨t1, i1, ifs1, 0⟩] scope pos) 0 it acc env = (standAt i0.pos >>= fun _ => pyNext it >>= fun r => match r with
      | none => pure (.done .next)
      | some v => letOwnedTupleGo t0 it v >>= fun _ => assign t0 env v >>= fun _ => (do
        let mut ok := true
        for c in ifs0 do
          if ok then ok ← isTrue c env (eval c env)
        if ok then
          let x ← eval i1 env
          standAt i1.pos
          let x ← foldedSetIterable i1 env x
          let _ ← runOwn (.compStart (.ListComp elt [⟨t0, i0, ifs0, 0⟩, ⟨t1, i1, ifs1, 0⟩] scope pos) 1 (← holding [x] (pyIter x)) acc env) env
        again (.compLoop (.ListComp elt [⟨t0, i0, ifs0, 0⟩, ⟨t1, i1, ifs1, 0⟩] scope pos) 0 it acc env))) := by rfl

theorem body_last {cc cT : Cx} {ifs : List Expr} {elt : Expr} {code : Code} {D : Addr} {b : Bool} {d : PV} {s : Shared} {xs : List PV} (e : Same cc cT) (back : ∀ s, CX cT s → CX cc s) (hD : D ∈ cc.ow) (no : ∀ (i : Nat) o, cc.σ[i]? ≠ some (.ow D o))
    (ht : TrIf cT ifs b) (he : b = true → Ev cT elt d) (hs : CX cT s) (ha : Acc cc D s xs) (hz : xs.length + (if b then [d] else []).length ≤ sizeLine) :
    wpAny (model cc.g.prog cc.g.w) cc.A (do
        let mut ok := true
        for c in ifs do
          if ok then ok ← isTrue c cc.env (eval c cc.env)
        if ok then
          (do let _ ← call (.builtin "list.append") [.ref D, ← eval elt cc.env])
        again code) (fun fin s' => fin = .again code ∧ CX cc s' ∧ Acc cc D s' (xs ++ (if b then [d] else [])) ∧ Md (FC cc D) s s') (fun _ _ => False) s := by
  have T := ht.use hs (Q := fun ok s' => CX cT s' ∧ Kp s s' ∧ ok = b) (E := fun _ _ => False) fun s' h' k' => ⟨h', k', rfl⟩
  rw [e.g, e.A, e.env] at T
  refine wpAny_bind (wpAny_mono T (fun ok s₁ q => ?_) fun _ _ f => f.elim)
  obtain ⟨h₁, k₁, rfl⟩ := q
  cases ok with
  | false =>
    refine wpAny_pure ⟨rfl, back _ h₁, ?_, .of k₁⟩
    simpa using ha.kp k₁
  | true =>
    have V := (he rfl).use h₁ (Q := fun v s' => CX cT s' ∧ Kp s₁ s' ∧ DI s'.heap cT.ow v d) (E := fun _ _ => False) fun v s' h' k' x' => ⟨h', k', x'⟩
    rw [e.g, e.A, e.env] at V
    refine wpAny_bind (wpAny_bind (wpAny_mono V (fun v s₂ q => ?_) fun _ _ f => f.elim))
    obtain ⟨h₂, k₂, x₂⟩ := q
    rw [e.ow] at x₂
    refine wpAny_bind (acc_push (back _ h₂) hD no ((ha.kp k₁).kp k₂) x₂ (by simp at hz; omega) fun s₃ h₃ a₃ m₃ => wpAny_pure (wpAny_pure ⟨rfl, h₃, by simpa using a₃, ?_⟩))
    exact ((Md.of (k₁.trans k₂)).trans (m₃.mono (G := FC cc D) fun b hb => .inr hb) fun b hb => .inl hb)

/-- the loop of a clause, from its iterator on -/
theorem comp_run {cc : Cx} {elt : Expr} {gens : List Comprehension} {scope : Scope} {pos : Pos} {k : Nat} {D : Addr} {target : Expr} {p : Pos} {Kf : Value → Sem Fin} {ds : List PV} {s₀ s : Shared} {it : Value} {xs : List PV} {gg : Comprehension}
    (hg : gens[k]? = some gg) (ha : gg.is_async = 0)
    (hT : ∀ it, compTurn (.ListComp elt gens scope pos) k it (.ref D) cc.env = (standAt p >>= fun _ => pyNext it >>= fun r => match r with | none => pure (.done .next) | some v => letOwnedTupleGo target it v >>= fun _ => assign target cc.env v >>= fun _ => Kf it))
    (hD : D ∈ cc.ow) (cT : Nat → Cx) (sT : ∀ i, Same cc (cT i)) (ta : ∀ i d, ds[i]? = some d → TA cc target d (cT i)) (g : Nat → List PV)
    (body : ∀ it i d s xs, ds[i]? = some d → CX (cT i) s → Acc cc D s xs → xs.length + (g i).length ≤ sizeLine →
      wpAny (model cc.g.prog cc.g.w) cc.A (Kf it) (fun fin s' => fin = .again (.compLoop (.ListComp elt gens scope pos) k it (.ref D) cc.env) ∧ CX cc s' ∧ Acc cc D s' (xs ++ g i) ∧ Md (FC cc D) s s') (fun _ _ => False) s)
    (hi : Itr cc s₀ ds it s) (hs₀ : CX cc s₀) (hacc : Acc cc D s₀ xs) (hz : xs.length + ((List.range ds.length).flatMap g).length ≤ sizeLine) :
    codeAny (model cc.g.prog cc.g.w) cc.A (.compStart (.ListComp elt gens scope pos) k it (.ref D) cc.env) (fun r s' => r = .ok .next ∧ CX cc s' ∧ Acc cc D s' (xs ++ (List.range ds.length).flatMap g) ∧ Md (FC cc D) s₀ s') s := by
  obtain ⟨kp, I, fp, P, St, rfl, W, st0, hI, hobj, hfp, hP⟩ := hi
  have L := comp_loop hT hD cT sT ta g body W st0 (hs₀.new hI) hobj hfp (fun i v h hi hp hk => hP i v h cc.ow hi hp hk fun _ m => .inl m) hz (hs₀.keeps kp) (hacc.kp kp)
  have L' : codeAny (model cc.g.prog cc.g.w) cc.A (.compLoop (.ListComp elt gens scope pos) k (.ref I) (.ref D) cc.env) (fun r s' => r = .ok .next ∧ CX cc s' ∧ Acc cc D s' (xs ++ (List.range ds.length).flatMap g) ∧ Md (FC cc D) s₀ s') s :=
    codeAny_mono L fun r s' q => ⟨q.1, q.2.1, q.2.2.1, (Md.of kp).trans q.2.2.2 fun b hb => hb.elim .inl fun e => .inr (e ▸ hI)⟩
  exact comp_start hg ha L' (W.self 0 _ _ _ st0 L')

theorem body_outer {cc cT : Cx} {ifs : List Expr} {i1 : Expr} {code : Code} {st : Value → Code} {D : Addr} {b : Bool} {ds : List PV} {out : List PV} {s : Shared} {xs : List PV} (e : Same cc cT) (back : ∀ s, CX cT s → CX cc s) (hD : D ∈ cc.ow)
    (ht : TrIf cT ifs b) (hi : b = true → It cT i1 ds)
    (run : b = true → ∀ s₀ s₁ it, CX cT s₀ → Acc cT D s₀ xs → Itr cT s₀ ds it s₁ → codeAny (model cT.g.prog cT.g.w) cT.A (st it) (fun r s' => r = .ok .next ∧ CX cT s' ∧ Acc cT D s' (xs ++ out) ∧ Md (FC cT D) s₀ s') s₁)
    (hs : CX cT s) (ha : Acc cc D s xs) (hfs : ∀ env x, foldedSetIterable i1 env x = pure x) :
    wpAny (model cc.g.prog cc.g.w) cc.A (do
        let mut ok := true
        for c in ifs do
          if ok then ok ← isTrue c cc.env (eval c cc.env)
        if ok then
          let x ← eval i1 cc.env
          standAt i1.pos
          let x ← foldedSetIterable i1 cc.env x
          let _ ← runOwn (st (← holding [x] (pyIter x))) cc.env
        again code) (fun fin s' => fin = .again code ∧ CX cc s' ∧ Acc cc D s' (xs ++ (if b then out else [])) ∧ Md (FC cc D) s s') (fun _ _ => False) s := by
  have T := ht.use hs (Q := fun ok s' => CX cT s' ∧ Kp s s' ∧ ok = b) (E := fun _ _ => False) fun s' h' k' => ⟨h', k', rfl⟩
  rw [e.g, e.A, e.env] at T
  refine wpAny_bind (wpAny_mono T (fun ok s₁ q => ?_) fun _ _ f => f.elim)
  obtain ⟨h₁, k₁, rfl⟩ := q
  cases ok with
  | false =>
    refine wpAny_pure ⟨rfl, back _ h₁, ?_, .of k₁⟩
    simpa using ha.kp k₁
  | true =>
    have V := hi rfl s₁ h₁
    rw [e.g, e.A, e.env] at V
    refine wpAny_bind (wpAny_mono V (fun x s₂ q => ?_) fun _ _ f => f.elim)
    refine wpAny_bind (wpAny_standAt ?_)
    refine wpAny_bind (wpAny_of_eq (hfs _ x) ?_)
    refine wpAny_bind (wpAny_holding (wpAny_mono q (fun it s₃ q₃ => ?_) fun _ _ f => f.elim))
    have Rn := run rfl s₁ s₃ it h₁ ((ha.kp k₁).same e) q₃
    rw [e.g, e.A] at Rn
    refine wpAny_bind (wpAny_runOwn (codeAny_mono Rn fun r s₄ q₄ => ?_))
    obtain ⟨rfl, h₄, a₄, m₄⟩ := q₄
    refine wpAny_pure ⟨rfl, back _ h₄, by simpa using Acc.same' e a₄, (Md.of k₁).trans (m₄.mono (G := FC cc D) fun b hb => ?_) fun b hb => .inl hb⟩
    unfold FC at hb ⊢
    rw [e.st, e.env] at hb
    exact hb
end Mine

end
section
open PySem PySem.W PyProof.Rows PySem.Calls
set_option maxRecDepth 100000
namespace Mine

theorem comp_core {c : Cx} {scope : Scope} {own : List Str} {caps : List (Str × Nat)} {elt target iter : Expr} {ifs : List Expr} {rest : List Comprehension} {pos pos' : Pos} {ds : List PV} {use : Option (Value → Sem Unit)} {Q : Value → Shared → Prop} {E : Value → Shared → Prop} {p : Pos}
    (ok : compOk c.env c.ns scope own caps = true) (hi : It c iter ds) (hfs : ∀ env x, foldedSetIterable iter env x = pure x)
    (Kf : Addr → Addr → Value → Sem PySem.Fin) (cT : Addr → Addr → Nat → Cx) (g : Nat → List PV)
    (hT : ∀ C D it, compTurn (.ListComp elt (⟨target, iter, ifs, 0⟩ :: rest) scope pos) 0 it (.ref D) (compEnv scope c.env C) = (standAt p >>= fun _ => pyNext it >>= fun r => match r with | none => pure (.done .next) | some v => letOwnedTupleGo target it v >>= fun _ => assign target (compEnv scope c.env C) v >>= fun _ => Kf C D it))
    (sT : ∀ C D i, Same (compCx c scope C D own caps) (cT C D i))
    (ta : ∀ C D i d, ds[i]? = some d → TA (compCx c scope C D own caps) target d (cT C D i))
    (body : ∀ C D it i d s xs, (∀ (j : Nat) o, (compCx c scope C D own caps).σ[j]? ≠ some (.ow D o)) → ds[i]? = some d → CX (cT C D i) s → Acc (compCx c scope C D own caps) D s xs → xs.length + (g i).length ≤ sizeLine →
      wpAny (model c.g.prog c.g.w) c.A (Kf C D it) (fun fin s' => fin = .again (.compLoop (.ListComp elt (⟨target, iter, ifs, 0⟩ :: rest) scope pos) 0 it (.ref D) (compEnv scope c.env C)) ∧ CX (compCx c scope C D own caps) s' ∧ Acc (compCx c scope C D own caps) D s' (xs ++ g i) ∧ Md (FC (compCx c scope C D own caps) D) s s') (fun _ _ => False) s)
    (hz : ((List.range ds.length).flatMap g).length ≤ sizeLine) {s : Shared} (hs : CX c s)
    (fin : ∀ s' C D, Kp s s' → DI s'.heap c.ow (.ref D) (.list ((List.range ds.length).flatMap g)) → (∃ m, s'.heap.Ns C m) → s.heap.get? C = none → compPost (model c.g.prog c.g.w) c.A E use Q (.ref D) C (.ok .next) s') :
    wpAny (model c.g.prog c.g.w) c.A (comprehension (.ListComp elt (⟨target, iter, ifs, 0⟩ :: rest) scope pos) scope c.env pos' (newList []) false (eval iter c.env) use) Q E s := by
  have OK := compOk_iff ok
  refine wpAny_comprehension_free rfl (hfs _) (closureFor_eq fun n hn => OK.look hs.fs hn) OK.kind (fun x hx hl => ?_) ?_
  · obtain ⟨x1, x2⟩ := x
    have hl' : x2 = .local := hl
    subst hl'
    have h1 := lookup_relabel (env := { c.env with scope := { c.env.scope with names := [] } }) OK.nd hx
    have h2 : ∀ l : List (Str × NameKind), (l.map fun (n, k) => if (k == NameKind.free && ({ c.env with scope := { c.env.scope with names := [] } } : Env).scope.kind == .function && ({ c.env with scope := { c.env.scope with names := [] } } : Env).kindOf n == some .cell) then (n, NameKind.cell) else (n, k)) = l := fun l => by
      refine map_eq_self fun y hy => ?_
      obtain ⟨n, k⟩ := y
      simp [Env.kindOf]
    rw [h2] at h1
    simpa using h1
  refine wpAny_mono (hi s hs) (fun x s₁ h₁ => wpAny_mono h₁ (fun it s₂ h₂ => ?_) fun _ _ f => f.elim) fun _ _ f => f.elim
  obtain ⟨kp, I, fp, P, St, rfl, W, st0, hI, hobj, hfp, hP⟩ := h₂
  have hs₂ := hs.keeps kp
  refine wpAny_newObj_type (newComp ?_) (by size_fits)
  have hcx := comp_cx (own := own) (caps := caps) hs₂ OK
  generalize hcc : compCx c scope (s₂.heap.objs.size + 1) s₂.heap.objs.size own caps = cc at hcx
  have eA : cc.A = c.A := by rw [← hcc]; rfl
  have eg : cc.g = c.g := by rw [← hcc]; rfl
  have eo : cc.ow = s₂.heap.objs.size :: c.ow := by rw [← hcc]; rfl
  have ee : cc.env = compEnv scope c.env (s₂.heap.objs.size + 1) := by rw [← hcc]; rfl
  have es : cc.st = own := by rw [← hcc]; rfl
  have hE : Ext s₂.heap (compHeap s₂.heap scope) := fun b o e => pushCells_keeps scope.names _ b o (Heap.get?_push_of_some _ (Heap.get?_push_of_some _ e))
  have hlive : ∀ {b o}, s₂.heap.get? b = some o → b < s₂.heap.objs.size := fun e => Heap.lt_size e
  obtain ⟨oI, _, _, gI, _⟩ := hobj 0 _ st0
  have hIlt := hlive gI
  have hD : s₂.heap.objs.size ∈ cc.ow := by rw [eo]; exact List.mem_cons_self
  have hDc : s₂.heap.objs.size ∉ c.ow := fresh_not hs₂.vs.live
  have no : ∀ (j : Nat) o, cc.σ[j]? ≠ some (.ow s₂.heap.objs.size o) := fun j o e => by
    obtain ⟨m, _, hb⟩ := hs₂.vs.ex
    rw [← hcc] at e
    have e' : (own.map (fun _ => Bnd.un) ++ caps.map (fun p => (c.σ[p.2]?).getD .un))[j]? = some (.ow s₂.heap.objs.size o) := e
    have hm := List.mem_of_getElem? e'
    rcases List.mem_append.mp hm with hm | hm
    · obtain ⟨_, _, q⟩ := List.mem_map.mp hm; cases q
    · obtain ⟨pp, hp, q⟩ := List.mem_map.mp hm
      cases hq : c.σ[pp.2]? with
      | none => rw [hq] at q; cases q
      | some b =>
        rw [hq] at q
        have q' : b = .ow s₂.heap.objs.size o := q
        rw [q'] at hq
        exact hDc (hb pp.2 pp.1 _ (OK.caps pp hp).1 hq).2.1
  obtain ⟨lv1, lv2, lv3⟩ := hs₂.live
  have hltc : ∀ x cc, c.env.cells.lookup x = some cc → cc < s₂.heap.objs.size := fun x cc e => let ⟨o, g⟩ := lv2 x cc e; Heap.lt_size g
  obtain ⟨cnd, cap, clk, ccl, cfr⟩ := OK.cells hs₂.fs (s₂.heap.objs.size + 1) fun x cc e => Nat.lt_succ_of_lt (hltc x cc e)
  have nIc := hs.new hI
  have nI : New cc I := by
    refine ⟨by rw [eg]; exact nIc.base, ?_, ?_, ?_⟩
    · rw [ee]; exact Nat.ne_of_lt (Nat.lt_succ_of_lt hIlt)
    · intro x e
      rw [ee] at e
      rcases clk x I e with ⟨_, h2⟩ | ⟨_, h2⟩
      · exact Nat.lt_irrefl _ (Nat.lt_trans hIlt (Nat.lt_trans (Nat.lt_succ_self _) h2))
      · exact nIc.cel x h2
    · rw [eo]
      intro hm
      rcases List.mem_cons.mp hm with e | hm
      · exact Nat.ne_of_lt hIlt e
      · exact nIc.own hm
  have hacc0 : Acc cc s₂.heap.objs.size { s₂ with heap := compHeap s₂.heap scope } [] := ⟨#[], ⟨0, pushCells_keeps scope.names _ _ _ (Heap.get?_push_of_some _ (Heap.get?_push_size _ rfl))⟩, .nil⟩
  have W' : Walks cc.g.prog cc.g.w cc.A I fp [I] ds.length P St := by rw [eg, eA]; exact W
  have body' : ∀ it i d s xs, ds[i]? = some d → CX (cT (s₂.heap.objs.size + 1) s₂.heap.objs.size i) s → Acc cc s₂.heap.objs.size s xs → xs.length + (g i).length ≤ sizeLine →
      wpAny (model cc.g.prog cc.g.w) cc.A (Kf (s₂.heap.objs.size + 1) s₂.heap.objs.size it) (fun fin s' => fin = .again (.compLoop (.ListComp elt (⟨target, iter, ifs, 0⟩ :: rest) scope pos) 0 it (.ref s₂.heap.objs.size) cc.env) ∧ CX cc s' ∧ Acc cc s₂.heap.objs.size s' (xs ++ g i) ∧ Md (FC cc s₂.heap.objs.size) s s') (fun _ _ => False) s := by
    rw [eg, eA, ee, ← hcc]
    rw [← hcc] at no
    exact fun it i d s xs => body _ _ it i d s xs no
  have L := comp_loop (cc := cc) (s := { s₂ with heap := compHeap s₂.heap scope }) (xs := []) (fun it => by rw [ee]; exact hT _ _ it) hD (cT (s₂.heap.objs.size + 1) s₂.heap.objs.size) (fun i => by rw [← hcc]; exact sT _ _ i)
    (fun i d hd => by rw [← hcc]; exact ta _ _ i d hd) g body' W' (W.frame _ _ _ st0 fun b _ o e => hE b o e) nI hobj
    (fun b hb => (hfp b hb).elim .inl fun ⟨h1, o, g1, q1⟩ => .inr ⟨by rw [eo]; exact fun hm => (List.mem_cons.mp hm).elim (fun e => Nat.ne_of_lt (hlive g1) e) h1, o, hE _ _ g1, q1⟩)
    (fun i v h hi hp hk => by
      rw [eo] at hk ⊢
      refine hP i v h _ hi hp (fun b o ho gb q => hk b o (fun hm => (List.mem_cons.mp hm).elim (fun e => Nat.ne_of_lt (hlive gb) e) ho) (hE b o gb) q) fun a ha => ?_
      rcases List.mem_cons.mp ha with e | ha
      · refine .inr ?_
        rw [e]
        cases q : s₂.heap.get? s₂.heap.objs.size with
        | none => rfl
        | some o => exact absurd (hlive q) (Nat.lt_irrefl _)
      · exact .inl ha)
    (by simpa using hz) hcx hacc0
  have e1 : cellsFrom ((s₂.heap.push { cls := .type "list", data := .seq ([] : List Value).toArray }).objs.size + 1) scope.names (clF c.env scope.names []) = (compEnv scope c.env (s₂.heap.objs.size + 1)).cells := by rw [Heap.size_push]; rfl
  have L2 : codeAny (model c.g.prog c.g.w) c.A (.compLoop (.ListComp elt (⟨target, iter, ifs, 0⟩ :: rest) scope pos) 0 (.ref I) (.ref s₂.heap.objs.size) (compEnv scope c.env (s₂.heap.objs.size + 1))) (compPost (model c.g.prog c.g.w) c.A E use Q (.ref s₂.heap.objs.size) (s₂.heap.objs.size + 1)) { s₂ with heap := compHeap s₂.heap scope } := by
    rw [eg, eA, ee] at L
    refine codeAny_mono L fun r s' q => ?_
    obtain ⟨rfl, hc', ha', m'⟩ := q
    have kp' : Kp s s' := by
      have m2 : Md (fun _ => False) s { s₂ with heap := compHeap s₂.heap scope } := Md.of (kp.trans ⟨compHeap s₂.heap scope, s₂.toks, rfl, hE⟩)
      refine (m2.trans m' fun b hb => .inr ?_).kp
      have big : ∀ b, s₂.heap.objs.size ≤ b → s.heap.get? b = none := fun b hb => by
        cases q : s.heap.get? b with
        | none => rfl
        | some o => exact absurd (hlive (kp.ext _ _ q)) (Nat.not_lt.mpr hb)
      rcases hb with ((⟨x, hx, ⟨_, h⟩ | ⟨_, h⟩⟩ | h) | h)
      · rw [ee] at h; exact big b (by rw [h]; exact Nat.le_succ _)
      · rw [ee] at h
        rcases clk x b h with ⟨_, h2⟩ | ⟨h2, _⟩
        · exact big b (Nat.le_of_lt (Nat.lt_trans (Nat.lt_succ_self _) h2))
        · exfalso
          rw [es] at hx
          have k1 := lookup_relabel (env := { c.env with scope := { c.env.scope with names := [] } }) OK.nd h2
          rcases OK.own x hx with h3 | h3
          · have k2 := lookup_relabel (env := { c.env with scope := { c.env.scope with names := [] } }) OK.nd h3
            rw [k1] at k2; simp [Env.kindOf] at k2
          · have k2 := lookup_relabel (env := { c.env with scope := { c.env.scope with names := [] } }) OK.nd h3
            rw [k1] at k2; simp [Env.kindOf] at k2
      · exact big b (by rw [h]; exact Nat.le_refl _)
      · rw [h]; exact hI
    obtain ⟨vs, hl, hd⟩ := ha'
    obtain ⟨m, fr, _⟩ := hc'.vs.ex
    obtain ⟨ml, hn, _⟩ := fr.loc
    refine fin s' _ _ kp' (.list hDc hl ?_) ⟨ml, by rw [ee] at hn; exact hn⟩ ?_
    · rw [eo] at hd
      simpa using hd.keep (fun _ _ _ g _ => g) fun a ha => .inl (List.mem_cons_of_mem _ ha)
    · cases q : s.heap.get? (s₂.heap.objs.size + 1) with
      | none => rfl
      | some o => exact absurd (Nat.lt_trans (Nat.lt_succ_self _) (hlive (kp.ext _ _ q))) (Nat.lt_irrefl _)
  have e2 : ({ s₂ with heap := pushCells ((s₂.heap.push { cls := .type "list", data := .seq ([] : List Value).toArray }).push { cls := .type "dict", data := .dict #[] }) scope.names } : Shared) = { s₂ with heap := compHeap s₂.heap scope } := rfl
  dsimp only
  rw [e1, Heap.size_push]
  exact comp_start (gens := ⟨target, iter, ifs, 0⟩ :: rest) rfl rfl L2 (W.self 0 _ _ _ (W.frame _ _ _ st0 fun b _ o e => hE b o e) L2)
end Mine

end
section
open PySem PySem.W PyProof.Rows PySem.Calls
set_option maxRecDepth 100000
namespace Mine

/-- a comprehension fills a list with `out` -/
def EvC (c : Cx) (elt : Expr) (gens : List Comprehension) (scope : Scope) (pos : Pos) (out : List PV) : Prop :=
  ∀ use Q E s pos', CX c s → (∀ s' C D, Kp s s' → DI s'.heap c.ow (.ref D) (.list out) → (∃ m, s'.heap.Ns C m) → s.heap.get? C = none → compPost (model c.g.prog c.g.w) c.A E use Q (.ref D) C (.ok .next) s') →
    wpAny (model c.g.prog c.g.w) c.A (comprehension (.ListComp elt gens scope pos) scope c.env pos' (newList []) false (firstIter gens c.env) use) Q E s

theorem ns_seq {h : Heap} {C : Addr} {m : Str → Option Value} (hn : h.Ns C m) {o : Obj} (g : h.get? C = some o) : ¬ SeqO o := by
  obtain ⟨o', es, ep, g', d⟩ := ns_data hn
  rw [g] at g'; cases g'
  rintro ⟨vs, n, q⟩
  rw [q] at d; cases d

theorem Kp.trans' {s s' : Shared} {C : Addr} {h' : Heap} (kp : Kp s s') (hC : s.heap.get? C = none) (hsb : Heap.SameBut C s'.heap h') : Kp s { s' with heap := h' } := by
  obtain ⟨h1, tk, rfl, e⟩ := kp
  exact ⟨h', tk, rfl, fun b o g => (hsb.2 b fun q => by rw [q, hC] at g; cases g).trans (e b o g)⟩
theorem ev_comp {c : Cx} {elt : Expr} {gens : List Comprehension} {scope : Scope} {pos : Pos} {out : List PV} (h : EvC c elt gens scope pos out) (ha : firstAsync gens = false := by rfl) : Ev c (.ListComp elt gens scope pos) (.list out) := fun s hs => by
  rw [eval_ListComp, ha]
  refine h none _ _ s _ hs fun s' C D kp hd ⟨m, hn⟩ hC => ⟨m, hn, fun h' hsb => ⟨?_, ?_⟩⟩
  · exact kp.trans' hC hsb
  · exact hd.keep (fun b o _ g q => (hsb.2 b fun e => ns_seq hn (e ▸ g) q).trans g) fun _ m => .inl m

theorem xs_assign_comp {sb : Shared} {F : Addr → Prop} {ro : List Addr} {c : Cx} {N : Shared → Prop} {R : PV → Prop} {rest : List Stmt} (i : Nat) {x : Str} {p pos pos' : Pos} {elt : Expr} {gens : List Comprehension} {scope : Scope} {out : List PV}
    (hx : c.ns[i]? = some x) (hst : x ∈ c.st) (h : EvC c elt gens scope pos out) (hw : swapsWith (.ListComp elt gens scope pos) (some (.Name x p)) pos'.line c.env = pure true)
    (k : XS sb F ro (c.set i (.fz (.list out))) rest N R) (ha : firstAsync gens = false := by rfl) : XS sb F ro c (.Assign [.Name x p] (.ListComp elt gens scope pos) pos' :: rest) N R := fun s hs => by
  refine wpAny_execs_cons ?_
  rw [exec_Assign_Name_used _ _ _ _ hw]
  refine wpAny_bind (wpAny_standAt (wpAny_bind ?_))
  rw [arm_evalThenUse_ListComp, ha]
  refine wpAny_bind (h _ _ _ s _ hs.cx fun s' C D kp hd ⟨m, hn⟩ hC => ?_)
  refine wpAny_assign_Name (wpAny_mono ((hs.cx.keeps kp).store hx hst hd) (fun _ s₂ q => ?_) fun _ _ f => f.elim)
  obtain ⟨hc2, m2⟩ := q
  have nC := hs.cx.new hC
  have hsl : ¬ slot c.env x C := fun hsl => by
    rcases hsl with ⟨_, e⟩ | ⟨_, e⟩
    · exact nC.loc e
    · exact nC.cel x e
  have hn2 : s₂.heap.Ns C m := hn.at' fun o g => m2.to_kp g hsl
  refine ⟨m, hn2, fun h' hsb => wpAny_pure (wpAny_pure (k _ ?_))⟩
  have S1 : SS sb F (c.set i (.fz (.list out))) s₂ := (hs.keeps kp).step hc2 (m2.mono fun b hb => ⟨x, hst, hb⟩) fun b hb => .inl (mut_set hb)
  have nC' : New (c.set i (.fz (.list out))) C := nC.same (Same.set c i _)
  refine ⟨hc2.off (tk := s₂.toks) fun b o g => ?_, S1.md.trans (G := fun b => b = C) ⟨h', s₂.toks, rfl, fun b o hb g => (hsb.2 b hb).trans g⟩ fun b hb => ?_, S1.fr⟩
  · by_cases e : b = C
    · exact .inl ⟨e ▸ nC', ns_seq hn2 (e ▸ g)⟩
    · exact .inr ((hsb.2 b e).trans g)
  · rw [hb]; exact hs.md.back hC

theorem flat_range {α : Type} (xs : List α) (g : α → List PV) (g' : Nat → List PV) (h : ∀ (i : Nat) x, xs[i]? = some x → g' i = g x) : (List.range xs.length).flatMap g' = xs.flatMap g := by
  induction xs generalizing g' with
  | nil => rfl
  | cons x xs ih =>
    rw [List.length_cons, List.range_succ_eq_map, List.flatMap_cons, List.flatMap_cons, h 0 x rfl]
    congr 1
    rw [List.flatMap_map]
    exact ih (fun i => g' (i + 1)) fun i y hy => h (i + 1) y (by simpa using hy)

section
variable {α β : Type} {c : Cx} {scope : Scope} {elt target iter t1 i1 : Expr} {ifs ifs1 : List Expr} {pos : Pos}

/-- one clause -/
theorem evc_1 [Inhabited α] (own : List Str) (caps : List (Str × Nat)) (xs : List α) (enc : α → PV) (p : α → Bool) (f : α → PV) (cT : Addr → Addr → α → Cx)
    (ok : compOk c.env c.ns scope own caps = true) (hi : It c iter (xs.map enc)) (sT : ∀ C D x, Same (compCx c scope C D own caps) (cT C D x)) (ta : ∀ C D x, x ∈ xs → TA (compCx c scope C D own caps) target (enc x) (cT C D x))
    (back : ∀ C D x s, CX (cT C D x) s → CX (compCx c scope C D own caps) s)
    (ht : ∀ C D x, x ∈ xs → TrIf (cT C D x) ifs (p x)) (he : ∀ C D x, x ∈ xs → p x = true → Ev (cT C D x) elt (f x))
    (hz : (xs.flatMap fun x => if p x then [f x] else []).length ≤ sizeLine)
    (hfs : ∀ env x, foldedSetIterable iter env x = pure x := by intro _ _; rfl) : EvC c elt [⟨target, iter, ifs, 0⟩] scope pos (xs.flatMap fun x => if p x then [f x] else []) := fun use Q E s pos' hs fin => by
  have key : ∀ {i : Nat} {d : PV}, (xs.map enc)[i]? = some d → ∃ x, xs[i]? = some x ∧ x ∈ xs ∧ enc x = d ∧ xs.getD i default = x := fun {i d} h => by
    rw [List.getElem?_map] at h
    cases hq : xs[i]? with
    | none => rw [hq] at h; cases h
    | some x => rw [hq] at h; cases h; exact ⟨x, rfl, List.mem_of_getElem? hq, rfl, by simp [List.getD, hq]⟩
  have eo : (List.range (xs.map enc).length).flatMap (fun i => if p (xs.getD i default) then [f (xs.getD i default)] else []) = xs.flatMap fun x => if p x then [f x] else [] := by
    rw [List.length_map]
    exact flat_range xs _ _ fun i x hx => by simp [List.getD, hx]
  refine comp_core (p := iter.pos) ok hi hfs (fun C D it => _) (fun C D i => cT C D (xs.getD i default)) (fun i => if p (xs.getD i default) then [f (xs.getD i default)] else []) (fun C D it => turn_1 ..) (fun C D i => sT C D _) (fun C D i d hd => ?_) (fun C D it i d s xs' no hd hc ha hz' => ?_) (by rw [eo]; exact hz) hs (by rw [eo]; exact fin)
  · obtain ⟨x, hx, hm, rfl, e⟩ := key hd
    rw [e]; exact ta C D x hm
  · obtain ⟨x, hx, hm, rfl, e⟩ := key hd
    rw [e] at hc hz' ⊢
    exact body_last (cc := compCx c scope C D own caps) (sT C D x) (back C D x) List.mem_cons_self no (ht C D x hm) (he C D x hm) hc ha hz'

/-- two clauses -/
theorem evc_2 [Inhabited α] [Inhabited β] (own : List Str) (caps : List (Str × Nat)) (xs : List α) (enc : α → PV) (ys : α → List β) (enc1 : β → PV) (p : α → β → Bool) (f : α → β → PV) (cT : Addr → Addr → α → Cx) (cU : Addr → Addr → α → β → Cx)
    (ok : compOk c.env c.ns scope own caps = true) (hi : It c iter (xs.map enc)) (sT : ∀ C D x, Same (compCx c scope C D own caps) (cT C D x)) (sU : ∀ C D x y, Same (cT C D x) (cU C D x y))
    (ta : ∀ C D x, x ∈ xs → TA (compCx c scope C D own caps) target (enc x) (cT C D x)) (back : ∀ C D x s, CX (cT C D x) s → CX (compCx c scope C D own caps) s)
    (hi1 : ∀ C D x, x ∈ xs → It (cT C D x) i1 ((ys x).map enc1))
    (ta1 : ∀ C D x y, x ∈ xs → y ∈ ys x → TA (cT C D x) t1 (enc1 y) (cU C D x y)) (back1 : ∀ C D x y s, CX (cU C D x y) s → CX (cT C D x) s)
    (noD : ∀ C D x, (∀ (j : Nat) o, (compCx c scope C D own caps).σ[j]? ≠ some (.ow D o)) → ∀ (j : Nat) o, (cT C D x).σ[j]? ≠ some (.ow D o))
    (ht : ∀ C D x y, x ∈ xs → y ∈ ys x → TrIf (cU C D x y) ifs1 (p x y)) (he : ∀ C D x y, x ∈ xs → y ∈ ys x → p x y = true → Ev (cU C D x y) elt (f x y))
    (hz : (xs.flatMap fun x => (ys x).flatMap fun y => if p x y then [f x y] else []).length ≤ sizeLine)
    (hfs : ∀ env x, foldedSetIterable iter env x = pure x := by intro _ _; rfl) (hfs1 : ∀ env x, foldedSetIterable i1 env x = pure x := by intro _ _; rfl) :
    EvC c elt [⟨target, iter, [], 0⟩, ⟨t1, i1, ifs1, 0⟩] scope pos (xs.flatMap fun x => (ys x).flatMap fun y => if p x y then [f x y] else []) := fun use Q E s pos' hs fin => by
  have key : ∀ {γ : Type} [Inhabited γ] {zs : List γ} {en : γ → PV} {i : Nat} {d : PV}, (zs.map en)[i]? = some d → ∃ x, zs[i]? = some x ∧ x ∈ zs ∧ en x = d ∧ zs.getD i default = x := fun {γ} _ {zs en i d} h => by
    rw [List.getElem?_map] at h
    cases hq : zs[i]? with
    | none => rw [hq] at h; cases h
    | some x => rw [hq] at h; cases h; exact ⟨x, rfl, List.mem_of_getElem? hq, rfl, by simp [List.getD, hq]⟩
  have eo : (List.range (xs.map enc).length).flatMap (fun i => (ys (xs.getD i default)).flatMap fun y => if p (xs.getD i default) y then [f (xs.getD i default) y] else []) = xs.flatMap fun x => (ys x).flatMap fun y => if p x y then [f x y] else [] := by
    rw [List.length_map]
    exact flat_range xs _ _ fun i x hx => by simp [List.getD, hx]
  refine comp_core (p := iter.pos) ok hi hfs (fun C D it => _) (fun C D i => cT C D (xs.getD i default)) (fun i => (ys (xs.getD i default)).flatMap fun y => if p (xs.getD i default) y then [f (xs.getD i default) y] else []) (fun C D it => turn_20 ..) (fun C D i => sT C D _) (fun C D i d hd => ?_) (fun C D it i d s xs' no hd hc ha hz' => ?_) (by rw [eo]; exact hz) hs (by rw [eo]; exact fin)
  · obtain ⟨x, hx, hm, rfl, e⟩ := key hd
    rw [e]; exact ta C D x hm
  · obtain ⟨x, hx, hm, rfl, e⟩ := key hd
    rw [e] at hc hz' ⊢
    have eo1 : (List.range ((ys x).map enc1).length).flatMap (fun j => if p x ((ys x).getD j default) then [f x ((ys x).getD j default)] else []) = (ys x).flatMap fun y => if p x y then [f x y] else [] := by
      rw [List.length_map]
      exact flat_range (ys x) _ _ fun i y hy => by simp [List.getD, hy]
    have B := body_outer (cc := compCx c scope C D own caps) (ifs := []) (i1 := i1) (code := .compLoop (.ListComp elt [⟨target, iter, [], 0⟩, ⟨t1, i1, ifs1, 0⟩] scope pos) 0 it (.ref D) (compEnv scope c.env C)) (st := fun it => .compStart (.ListComp elt [⟨target, iter, [], 0⟩, ⟨t1, i1, ifs1, 0⟩] scope pos) 1 it (.ref D) (compEnv scope c.env C)) (b := true) (out := (ys x).flatMap fun y => if p x y then [f x y] else [])
      (sT C D x) (back C D x) List.mem_cons_self .nil (fun _ => hi1 C D x hm) (fun _ s₀ s₁ it' h0 ha0 hit => ?_) hc ha hfs1
    · exact B
    · have en : (cT C D x).env = compEnv scope c.env C := (sT C D x).env
      have ow : D ∈ (cT C D x).ow := by rw [(sT C D x).ow]; exact List.mem_cons_self
      have Rn := comp_run (cc := cT C D x) (gens := [⟨target, iter, [], 0⟩, ⟨t1, i1, ifs1, 0⟩]) (scope := scope) (pos := pos) (elt := elt) (k := 1) (D := D) (target := t1) (p := i1.pos) (xs := xs') rfl rfl (fun it => turn_21 ..) ow (fun j => cU C D x ((ys x).getD j default)) (fun j => sU C D x _)
        (fun j d' hd' => by obtain ⟨y, hy, hym, rfl, e'⟩ := key hd'; rw [e']; exact ta1 C D x y hm hym)
        (fun j => if p x ((ys x).getD j default) then [f x ((ys x).getD j default)] else [])
        (fun it j d' s xs'' hd' hc' ha' hz'' => by
          obtain ⟨y, hy, hym, rfl, e'⟩ := key hd'
          rw [e'] at hc' hz'' ⊢
          exact body_last (cc := cT C D x) (sU C D x y) (back1 C D x y) ow (noD C D x no) (ht C D x y hm hym) (he C D x y hm hym) hc' ha' hz'')
        hit h0 ha0 (by rw [eo1]; exact hz')
      rw [eo1, en] at Rn
      exact Rn
end
end Mine

end
section
open PySem PySem.W PyProof.Rows PySem.Calls
set_option maxRecDepth 100000
namespace Mine

/-! entering a def -/
section
variable {kindOf : Str → Option NameKind}
theorem bindL_not {n : Str} : ∀ {binds : List (Str × Value)} {m : Str → Option Value}, n ∉ binds.map (·.1) → bindL kindOf binds m n = m n
  | [], _, _ => rfl
  | (k, v) :: r, m, h => by
    rw [List.map_cons, List.mem_cons, not_or] at h
    unfold bindL
    rw [bindL_not h.2]
    split
    · simp [h.1]
    · rfl
theorem bindC_not {n : Str} : ∀ {binds : List (Str × Value)} {m : Str → Option Value}, n ∉ binds.map (·.1) → bindC kindOf binds m n = m n
  | [], _, _ => rfl
  | (k, v) :: r, m, h => by
    rw [List.map_cons, List.mem_cons, not_or] at h
    unfold bindC
    rw [bindC_not h.2]
    split
    · rfl
    · simp [h.1]
theorem bindL_mem {n : Str} {v : Value} (hk : kindOf n = some .local) : ∀ {binds : List (Str × Value)} {m : Str → Option Value}, (binds.map (·.1)).Nodup → (n, v) ∈ binds → bindL kindOf binds m n = some v
  | (k, u) :: r, m, h, hm => by
    rw [List.map_cons, List.nodup_cons] at h
    unfold bindL
    rcases List.mem_cons.mp hm with e | hm
    · cases e
      rw [bindL_not h.1, if_pos hk]
      simp
    · exact bindL_mem hk h.2 hm
theorem bindC_mem {n : Str} {v : Value} (hk : kindOf n ≠ some .local) : ∀ {binds : List (Str × Value)} {m : Str → Option Value}, (binds.map (·.1)).Nodup → (n, v) ∈ binds → bindC kindOf binds m n = some v
  | (k, u) :: r, m, h, hm => by
    rw [List.map_cons, List.nodup_cons] at h
    unfold bindC
    rcases List.mem_cons.mp hm with e | hm
    · cases e
      rw [bindC_not h.1, if_neg hk]
      simp
    · exact bindC_mem hk h.2 hm
end

def fnOk (scope : Scope) (ns : List Str) : Bool :=
  decide (scope.kind = .function) && !scope.isCoroutine && !scope.isGenerator && decide ((scope.names.map (·.1)).Nodup) && decide (ns.Nodup)
    && ns.all (fun x => decide ((x, NameKind.local) ∈ scope.names) || decide ((x, NameKind.cell) ∈ scope.names))

theorem lookup_kind {x : Str} {k : NameKind} : ∀ {names : List (Str × NameKind)}, (names.map (·.1)).Nodup → (x, k) ∈ names → names.lookup x = some k
  | (n, k') :: r, h, hm => by
    rw [List.map_cons, List.nodup_cons] at h
    rcases List.mem_cons.mp hm with e | hm
    · cases e; simp
    · have hne : x ≠ n := fun e => h.1 (by have := List.mem_map_of_mem (f := Prod.fst) hm; rw [e] at this; exact this)
      have hb : (x == n) = false := by simpa using hne
      rw [List.lookup_cons, hb]
      exact lookup_kind h.2 hm

def fnEnv (d : DefRec) (pm cd doc : Value) (L a : Addr) : Env := callEnvC (docDef d.name d.params d.body d.scope pm cd doc) L a
def fnCx (g : Gl) (A : Around) (lv : Nat) (env : Env) (ps vars : List Str) (ds : List PV) (ow : List Addr) : Cx :=
  { g := g, A := A.deeper env, lv := lv, env := env, st := ps ++ vars, ns := ps ++ vars, σ := ds.map .fz ++ vars.map (fun _ => .un), ow := ow }

theorem fspec_of {g : Gl} {lv : Nat} {d : DefRec} {ds : List PV} {r : PV} (ps vars : List Str) (hd : d ∈ g.recs) (ok : fnOk d.scope (ps ++ vars) = true) (hl : ps.length = ds.length)
    (hb : ∀ (vs : List Value) (pm cd doc : Value), vs.length = ps.length → bindArgs (docDef d.name d.params d.body d.scope pm cd doc) ⟨vs, []⟩ = pure (ps.zip vs))
    (body : ∀ sb A env ow pm cd doc L a, env = fnEnv d pm cd doc L a → XS sb (fun _ => False) ow (fnCx g A lv env ps vars ds ow) d.body (fun _ => False) (· = r)) : FSpec g (lv + 1) d.name ds r := by
  intro A s ow vs a hA hst hE hlive hno hm hvs
  simp only [fnOk, Bool.and_eq_true, decide_eq_true_eq, List.all_eq_true, Bool.or_eq_true, Bool.not_eq_true'] at ok
  obtain ⟨⟨⟨⟨⟨k1, k2⟩, k3⟩, k4⟩, k5⟩, k6⟩ := ok
  have ST' := hst.ext hE
  obtain ⟨a', o, pm, code, doc, hm', hg, hda, hcd⟩ := ST'.fn d hd
  rw [hm] at hm'; cases hm'
  have e1 := hvs.length
  have hroom : A.depth < recursionLimit := by have := hA.2.1; omega
  have hpsnd : ps.Nodup := (List.nodup_append.mp k5).1
  have hmap : (ps.zip vs).map (·.1) = ps := by rw [List.map_fst_zip]; omega
  have hkind : ∀ x ∈ ps ++ vars, ∀ n acc, acc = [] → d.scope.names.lookup x = some .local ∨ (d.scope.names.lookup x = some .cell ∧ ((cellsFrom n d.scope.names acc).lookup x).isSome = true) := fun x hx n acc he => by
    subst he
    rcases k6 x hx with h | h
    · exact .inl (lookup_kind k4 h)
    · refine .inr ⟨lookup_kind k4 h, ?_⟩
      obtain ⟨c, hc⟩ := cF_cell (k := n) (acc := []) h
      rw [lookup_of_mem_nodup (cF_nodup k4 (by simp) (by simp)) hc]; rfl
  refine wpAny_call (codeAny_call_cells (fd := docDef d.name d.params d.body d.scope pm code doc) (binds := ps.zip vs) hroom hg hda ST'.nl hcd rfl (hb vs pm code doc (by omega)) rfl (fun x hx => hkind x.1 (List.mem_append_left _ (List.of_mem_zip hx).1) _ _ rfl) (fun s₁ X => ?_) k2 k3 k1)
  obtain ⟨h₁, tk, rfl, _⟩ := X.done
  have hkeep := X.toInCall.keep
  have hfresh : s.heap.objs.size ≤ s.heap.objs.size := X.toInCall.fresh
  generalize henv : callEnvC (docDef d.name d.params d.body d.scope pm code doc) s.heap.objs.size a = env at X ⊢
  have eL : env.locals = s.heap.objs.size := by rw [← henv]; rfl
  have eC : env.cells = cellsFrom (s.heap.objs.size + 1) d.scope.names [] := by rw [← henv]; rfl
  have eK : ∀ x, env.kindOf x = d.scope.names.lookup x := fun x => by rw [← henv]; rfl
  have hCell : ∀ x c, env.cells.lookup x = some c → (x, NameKind.cell) ∈ d.scope.names ∧ s.heap.objs.size < c := fun x c e => by
    rw [eC] at e
    rcases cF_mem (mem_of_lookup e) with hm | ⟨h1, h2⟩
    · cases hm
    · exact ⟨h1, h2⟩
  have hkx : ∀ x c, env.cells.lookup x = some c → env.kindOf x = some .cell := fun x c e => by rw [eK]; exact lookup_kind k4 (hCell x c e).1
  have big : ∀ b, s.heap.objs.size ≤ b → s.heap.get? b = none := fun b hb => by
    cases q : s.heap.get? b with
    | none => rfl
    | some o => exact absurd (Heap.lt_size q) (Nat.not_lt.mpr hb)
  have bigB : ∀ b, s.heap.objs.size ≤ b → g.hB.get? b = none := fun b hb => by
    cases q : g.hB.get? b with
    | none => rfl
    | some o => have h3 := hE b o q; rw [big b hb] at h3; cases h3
  have hcx : CX (fnCx g A lv env ps vars ds ow) { s with heap := h₁, toks := tk } := by
    refine ⟨hst, hE.trans hkeep, ⟨hA.1, ?_, ?_⟩, ⟨?_, k5, ?_, ?_, X.apart, ?_, ?_⟩, ⟨⟨fun x => if env.kindOf x = some .local then bindL env.kindOf (ps.zip vs) (fun _ => none) x else bindC env.kindOf (ps.zip vs) (fun _ => none) x, ⟨⟨_, X.toInCall.ns, fun x hx => ?_⟩, fun x c e => ?_⟩, ?_⟩, fun a ha => ?_, ?_⟩, fun _ hx => hx, ?_, ?_, ?_⟩
    · have h2 := hA.2.1
      show A.depth + 1 + lv < recursionLimit
      omega
    · have h2 := hA.2.2
      show A.units + 3 + 8 * lv + 100 < cLine
      omega
    · show env.scope.kind = _
      rw [← henv]; exact k1
    · intro x hx
      have := hkind x hx (s.heap.objs.size + 1) [] rfl
      rw [← eC, ← eK] at this
      rcases this with h | ⟨h, h2⟩
      · exact .inl h
      · exact .inr ⟨h, Option.isSome_iff_exists.mp h2⟩
    · intro x c e h1
      have h2 := hkx x c e
      have h1' : env.kindOf x = some .local := h1
      rw [h2] at h1'; cases h1'
    · show env.globals = _
      rw [← henv]; rfl
    · show env.builtins = _
      rw [← henv]; rfl
    · have hx' : env.kindOf x = some .local := hx
      simp only [hx', if_true]
    · have h2 := hkx x c e
      have hne : ¬ env.kindOf x = some .local := by rw [h2]; decide
      simp only [hne, if_false]
      exact X.cell x c e
    · intro i x b hx hz
      have hx' : (ps ++ vars)[i]? = some x := hx
      have hz' : (ds.map Bnd.fz ++ vars.map (fun _ => Bnd.un))[i]? = some b := hz
      by_cases hi : i < ps.length
      · rw [List.getElem?_append_left hi] at hx'
        rw [List.getElem?_append_left (by simpa using hl ▸ hi), List.getElem?_map] at hz'
        cases hq : ds[i]? with
        | none => rw [hq] at hz'; cases hz'
        | some dd =>
          rw [hq] at hz'; cases hz'
          obtain ⟨v, hv1, hv2⟩ := hvs.get hq
          have hmem : (x, v) ∈ ps.zip vs := by
            refine List.mem_of_getElem? (i := i) ?_
            rw [List.getElem?_zip_eq_some]
            exact ⟨hx', hv1⟩
          refine ⟨v, ?_, hv2.ext hkeep⟩
          by_cases hk : env.kindOf x = some .local
          · simp only [hk, if_true]
            exact bindL_mem hk (by rw [hmap]; exact hpsnd) hmem
          · simp only [hk, if_false]
            exact bindC_mem hk (by rw [hmap]; exact hpsnd) hmem
      · rw [List.getElem?_append_right (by simp; omega), List.getElem?_map] at hz'
        cases hq : vars[i - (ds.map Bnd.fz).length]? with
        | none => rw [hq] at hz'; cases hz'
        | some y => rw [hq] at hz'; cases hz'; trivial
    · obtain ⟨o, q⟩ := hlive a ha
      exact ⟨o, hkeep _ _ q⟩
    · show (ds.map Bnd.fz ++ vars.map (fun _ => Bnd.un)).length = (ps ++ vars).length
      simp; omega
    · show g.hB.get? env.locals = none
      rw [eL]; exact bigB _ (Nat.le_refl _)
    · intro x b e
      exact bigB b (Nat.le_of_lt (hCell x b e).2)
    · intro b hb
      obtain ⟨o, q⟩ := hlive b hb
      have hlt := Heap.lt_size q
      refine ⟨hno b hb, ?_, fun x e => ?_⟩
      · show b ≠ env.locals
        rw [eL]; exact Nat.ne_of_lt hlt
      · exact Nat.lt_irrefl _ (Nat.lt_trans hlt (hCell x b e).2)
  have B := body s A env ow pm code doc s.heap.objs.size a henv.symm { s with heap := h₁, toks := tk } ⟨hcx, ⟨h₁, tk, rfl, fun b o _ q => hkeep b o q⟩, fun b hb => .inr ?_⟩
  · refine wpAny_mono B (fun f s' q => ?_) fun _ _ f => f.elim
    cases f with
    | ret v =>
      obtain ⟨m, dd, rfl, hd⟩ := q
      exact ⟨m.kp, hd⟩
    | next => exact q.elim
    | brk => exact q.elim
    | cont => exact q.elim
  · rcases hb with ⟨x, _, ⟨_, h⟩ | ⟨_, h⟩⟩ | ⟨i, o, h⟩
    · have h' : b = env.locals := h
      rw [h', eL]; exact big _ (Nat.le_refl _)
    · exact big b (Nat.le_of_lt (hCell x b h).2)
    · exfalso
      have h' : (ds.map Bnd.fz ++ vars.map (fun _ => Bnd.un))[i]? = some (.ow b o) := h
      rcases List.mem_append.mp (List.mem_of_getElem? h') with hm | hm
      · obtain ⟨_, _, q⟩ := List.mem_map.mp hm; cases q
      · obtain ⟨_, _, q⟩ := List.mem_map.mp hm; cases q
end Mine

end
section
open PySem PySem.W PyProof.Rows PySem.Calls
set_option maxRecDepth 100000
namespace Mine

def recAt (i : Nat) : DefRec := match PySem.Challenge.pw_re0051_01.main.body[i]? with
  | some (.FunctionDef n a b _ _ _ sc _ _ pos) => ⟨n, a, b, sc, pos⟩
  | _ => ⟨"", ⟨[], [], none, [], [], none, []⟩, [], default, ⟨0, 0, 0, 0⟩⟩
def theRecs : List DefRec := [recAt 1, recAt 2, recAt 4, recAt 5, recAt 10, recAt 11, recAt 13, recAt 14, recAt 15, recAt 16, recAt 17, recAt 18]

/-- the facts of the top that no heap turns -/
structure GF (g : Gl) : Prop where
  recs : g.recs = theRecs
  move : ∃ t, g.mg "_MOVE_COST" = some (.int 2 t)
  cas : ∃ t, g.mg "_CASE_COST" = some (.int 1 t)
  size : ∃ t, g.mg "_MAX_STRING_SIZE" = some (.int 40 t)
  bi : ∀ p ∈ ([("max", .builtin "max"), ("min", .builtin "min"), ("int", .type "int"), ("len", .builtin "len"), ("list", .type "list"), ("range", .type "range"), ("round", .builtin "round"), ("sum", .builtin "sum"), ("sorted", .builtin "sorted")] : List (Str × Value)), g.mg p.1 = none ∧ g.mb p.1 = some p.2

theorem mem_recs {g : Gl} (G : GF g) (i : Nat) (d : DefRec) (h : theRecs[i]? = some d) : d ∈ g.recs := by
  rw [G.recs]; exact List.mem_of_getElem? h

section
variable {g : Gl} (G : GF g)
include G
theorem sp_strcoll (u v : Str) : FSpec g 1 "_strcoll" [.str u, .str v] (.int (b2i (decide (v.cps.toList < u.cps.toList)) - b2i (decide (u.cps.toList < v.cps.toList)))) :=
  fspec_of (d := recAt 4) ["a", "b"] [] (mem_recs G 2 _ rfl) (by kernel_rfl!) rfl (fun vs pm cd doc h => by
    match vs, h with
    | [_, _], _ => rfl) fun sb A env ow pm cd doc L a henv =>
    xs_ret (ev_bin (ev_cmp (ev_name 0 rfl rfl) (ev_name 1 rfl rfl) c_gt_ss) (ev_cmp (ev_name 0 rfl rfl) (ev_name 1 rfl rfl) c_lt_ss) b_sub_bb) rfl fun _ h => h
end
end Mine

end
section
open PySem PySem.W PyProof.Rows PySem.Calls
set_option maxRecDepth 100000
namespace Mine

section
variable {sb : Shared} {F : Addr → Prop} {ro : List Addr} {c : Cx} {N : Shared → Prop} {R : PV → Prop} {rest : List Stmt}

/-- a tuple of names takes a value -/
theorem xs_assign_t {ts : List Expr} {k : Nat} {p pos : Pos} {e : Expr} {d : PV} {c' : Cx} (h : Ev c e d) (ta : TA c (.Tuple ts k p) d c') (sm : Same c c') (mm : ∀ b, Mut c' b → Mut c b) (kk : XS sb F ro c' rest N R)
    (hw : ∀ env line, swapsWithSole [.Tuple ts k p] e line env = pure false := by intro _ _; rfl) (hw2 : ∀ env, swappedStores [.Tuple ts k p] e env = pure none := by intro _; rfl) : XS sb F ro c (.Assign [.Tuple ts k p] e pos :: rest) N R := fun s hs => by
  refine wpAny_execs_cons ?_
  rw [arm_exec_Assign]
  refine wpAny_bind (wpAny_standAt (wpAny_bind (wpAny_of_eq (hw _ _) ?_)))
  refine wpAny_bind (h.use hs.cx fun v s₁ h₁ k₁ x₁ => wpAny_bind (wpAny_of_eq (hw2 _) ?_))
  show wpAny _ _ (assign (.Tuple ts k p) c.env v >>= fun _ => pure Flow.next) _ _ s₁
  refine wpAny_bind (wpAny_mono (ta s₁ v h₁ x₁) (fun _ s₂ q => wpAny_pure (xs_go sm kk s₂ ((hs.keeps k₁).step q.1 q.2 fun b hb => .inl (mm b hb)))) fun _ _ f => f.elim)

/-- `x = y = e` -/
theorem xs_assign_2 (i j : Nat) {x y : Str} {p p' pos : Pos} {e : Expr} {d : PV} (hx : c.ns[i]? = some x) (hy : c.ns[j]? = some y) (hsx : x ∈ c.st) (hsy : y ∈ c.st) (h : Ev c e d) (kk : XS sb F ro ((c.set i (.fz d)).set j (.fz d)) rest N R)
    (hw2 : ∀ env, swappedStores [.Name x p, .Name y p'] e env = pure none := by intro _; rfl) : XS sb F ro c (.Assign [.Name x p, .Name y p'] e pos :: rest) N R := fun s hs => by
  refine wpAny_execs_cons ?_
  rw [arm_exec_Assign]
  refine wpAny_bind (wpAny_standAt (wpAny_bind (wpAny_of_eq (a := false) rfl ?_)))
  refine wpAny_bind (h.use hs.cx fun v s₁ h₁ k₁ x₁ => wpAny_bind (wpAny_of_eq (hw2 _) ?_))
  show wpAny _ _ ((holding [v] (assign (.Name x p) c.env v) >>= fun _ => assign (.Name y p') c.env v) >>= fun _ => pure Flow.next) _ _ s₁
  have S1 := hs.keeps k₁
  refine wpAny_bind (wpAny_bind (wpAny_holding (wpAny_assign_Name (wpAny_mono (h₁.store hx hsx x₁) (fun _ s₂ q => ?_) fun _ _ f => f.elim))))
  have m2 : Md (fun b => ∃ x ∈ c.st, slot c.env x b) s₁ s₂ := q.2.mono fun b hb => ⟨x, hsx, hb⟩
  have S2 : SS sb F (c.set i (.fz d)) s₂ := S1.step q.1 m2 fun b hb => .inl (mut_set hb)
  have x2 : DI s₂.heap c.ow v d := x₁.keep (h₁.md_seq m2) fun _ m => .inl m
  refine wpAny_assign_Name (wpAny_mono (q.1.store (i := j) hy hsy x2) (fun _ s₃ q3 => wpAny_pure ?_) fun _ _ f => f.elim)
  exact kk s₃ (S2.step q3.1 (q3.2.mono fun b hb => ⟨y, hsy, hb⟩) fun b hb => .inl (mut_set hb))

/-- `x op= e` on ints -/
def IOp (c : Cx) (op : Operator) (d e r : PV) : Prop :=
  ∀ s v w, CX c s → DI s.heap c.ow v d → DI s.heap c.ow w e → wpAny (model c.g.prog c.g.w) c.A (inplaceOp op v w) (fun v s' => Kp s s' ∧ DI s'.heap c.ow v r) (fun _ _ => False) s
theorem i_add {a b : Int} : IOp c .Add (.int a) (.int b) (.int (a + b)) := by intro s v w hs hv hw; cases hv; cases hw; exact iadd_int ⟨.tok s _, .int _ _⟩
theorem i_sub {a b : Int} : IOp c .Sub (.int a) (.int b) (.int (a - b)) := by intro s v w hs hv hw; cases hv; cases hw; exact PyProof.Rows.isub_int ⟨.tok s _, .int _ _⟩
theorem xs_aug (i : Nat) {x : Str} {p pos : Pos} {op : Operator} {e : Expr} {d de r : PV} (hx : c.ns[i]? = some x) (hst : x ∈ c.st) (hd : c.σ[i]? = some (.fz d)) (h : Ev c e de) (ho : IOp c op d de r) (kk : XS sb F ro (c.set i (.fz r)) rest N R) :
    XS sb F ro c (.AugAssign (.Name x p) op e pos :: rest) N R := fun s hs => by
  refine wpAny_execs_cons (wpAny_AugAssign_Name ?_)
  obtain ⟨m, fr, hv⟩ := hs.cx.vs.ex
  obtain ⟨v, ev, rv⟩ := hv i x _ hx hd
  refine fr.load hs.cx.fs hx ev ?_
  refine h.use hs.cx fun w s₁ h₁ k₁ x₁ => ?_
  refine wpAny_mono (ho s₁ v w h₁ (rv.ext k₁.ext) x₁) (fun u s₂ q => ?_) fun _ _ f => f.elim
  have k2 := k₁.trans q.1
  refine wpAny_mono ((hs.cx.keeps k2).store hx hst q.2) (fun _ s₃ q3 => kk s₃ ((hs.keeps k2).step q3.1 (q3.2.mono fun b hb => ⟨x, hst, hb⟩) fun b hb => .inl (mut_set hb))) fun _ _ f => f.elim
end

/-! own lists -/
/-- a new list, nobody else's -/
def EvNew (c : Cx) (e : Expr) (arr : Bool) (ds : List PV) : Prop :=
  ∀ s, CX c s → wpAny (model c.g.prog c.g.w) c.A (eval e c.env) (fun v s' => Kp s s' ∧ ∃ a, v = .ref a ∧ s.heap.get? a = none ∧ ∃ vs, (if arr then s'.heap.IsList a vs else s'.heap.PlainList a vs) ∧ DIs s'.heap (a :: c.ow) vs.toList ds) (fun _ _ => False) s
def ovOf : Bool → List PV → OV
  | true, ds => .arr ds
  | false, ds => .lst ds
theorem evnew_nil {c : Cx} {pos : Pos} : EvNew c (.List [] pos) false [] := fun s hs =>
  wpAny_List ((evs_nil (c := c)).use hs fun vs s₁ h₁ k₁ x₁ => by
    cases x₁
    refine ⟨by simp, k₁.trans (.push s₁ _), _, rfl, ?_, #[], ⟨_, Heap.get?_push_size _ rfl⟩, .nil⟩
    cases q : s.heap.get? s₁.heap.objs.size with
    | none => rfl
    | some o => exact absurd (Heap.lt_size (k₁.ext _ _ q)) (Nat.lt_irrefl _))

abbrev Cx.own (c : Cx) (i : Nat) (a : Addr) (o : OV) : Cx := { c with σ := c.σ.set i (.ow a o), ow := a :: c.ow }

theorem xs_new {sb : Shared} {F : Addr → Prop} {ro : List Addr} {c : Cx} {N : Shared → Prop} {R : PV → Prop} {rest : List Stmt} (i : Nat) {x : Str} {p pos : Pos} {e : Expr} {arr : Bool} {ds : List PV} (hx : c.ns[i]? = some x) (hst : x ∈ c.st) (h : EvNew c e arr ds)
    (kk : ∀ a, a ∉ c.ow → XS sb F ro (c.own i a (ovOf arr ds)) rest N R) (hw : ∀ env line, swapsWith e (some (.Name x p)) line env = pure false := by intro _ _; rfl) : XS sb F ro c (.Assign [.Name x p] e pos :: rest) N R := fun s hs => by
  refine wpAny_execs_cons (wpAny_Assign_Name (wpAny_mono (h s hs.cx) (fun v s₁ q => ?_) fun _ _ f => f.elim) (hw _ _))
  obtain ⟨k₁, a, rfl, ha, vs, hl, hd⟩ := q
  have n0 := hs.cx.new ha
  have hcx := hs.cx.keeps k₁
  obtain ⟨m, fr, hb⟩ := hs.cx.vs.ex
  have fr1 := fr.ext k₁.ext
  refine store_frame hs.cx.fs fr1 (List.mem_of_getElem? hx) fun h' tk b fr' hsl hsb hseq => ?_
  have hab : a ≠ b := fun e => by
    rcases hsl with ⟨_, h2⟩ | ⟨_, h2⟩
    · exact n0.loc (e.trans h2)
    · exact n0.cel x (e ▸ h2)
  have hk0 : KeepLT c.ow s.heap h' := fun d o ho g q => (hsb.2 d fun e => hseq o (e ▸ k₁.ext _ _ g) q).trans (k₁.ext _ _ g)
  have hk1 : ∀ ow, KeepLT ow s₁.heap h' := fun ow d o ho g q => (hsb.2 d fun e => hseq o (e ▸ g) q).trans g
  have hbo : ∀ d ∈ c.ow, d ≠ b := fun d hd' e => by
    rcases hsl with ⟨_, h2⟩ | ⟨_, h2⟩
    · exact (hs.cx.no d hd').2.1 (e.trans h2)
    · exact (hs.cx.no d hd').2.2 x (e ▸ h2)
  have hnew : c.g.hB.get? b = none := by
    rcases hsl with ⟨_, h2⟩ | ⟨_, h2⟩
    · exact h2 ▸ hs.cx.nl
    · exact hs.cx.nc x b h2
  obtain ⟨h1', tk1, rfl, ke⟩ := k₁
  have hown : OH c.g.prog c.g.w h' (a :: c.ow) a (ovOf arr ds) := by
    cases arr with
    | false => exact ⟨vs, (show Heap.PlainList _ a vs from hl).at fun o g => (hsb.2 a hab).trans g, hd.keep (hk1 _) fun _ m => .inl m⟩
    | true => exact ⟨vs, (show Heap.IsList _ a vs from hl).at fun o g => (hsb.2 a hab).trans g, hd.keep (hk1 _) fun _ m => .inl m⟩
  have hgo : ∃ o, h'.get? a = some o := by
    cases arr with
    | false => obtain ⟨n, g⟩ : Heap.PlainList _ a vs := hl; exact ⟨_, (hsb.2 a hab).trans g⟩
    | true => obtain ⟨o, g, _⟩ : Heap.IsList _ a vs := hl; exact ⟨_, (hsb.2 a hab).trans g⟩
  refine kk a n0.own _ ⟨⟨hs.cx.st, fun d o g => (hsb.2 d fun e => by rw [e, hnew] at g; cases g).trans (ke _ _ (hs.cx.eb d o g)), hs.cx.a, hs.cx.fs, ⟨⟨_, fr', fun j y z hy hz => ?_⟩, fun d hd' => ?_, by simpa using hs.cx.vs.ln⟩, hs.cx.sub, hs.cx.nl, hs.cx.nc, fun d hd' => ?_⟩, ?_, fun d hd' => ?_⟩
  · by_cases hij : j = i
    · subst hij
      rw [hx] at hy; cases hy
      have hz' : (c.σ.set j (.ow a (ovOf arr ds)))[j]? = some z := hz
      rw [List.getElem?_set_self'] at hz'
      cases hq : c.σ[j]? with
      | none => rw [hq] at hz'; cases hz'
      | some q =>
        rw [hq] at hz'
        cases hz'
        exact ⟨by simp, List.mem_cons_self, hown⟩
    · have hz' : (c.σ.set i (.ow a (ovOf arr ds)))[j]? = some z := hz
      rw [List.getElem?_set_ne (Ne.symm hij)] at hz'
      have hyx : y ≠ x := get_ne hs.cx.fs.nd hy hx hij
      simp only [hyx, if_false]
      refine (hb j y z hy hz').keep hk0 (fun d hd' => ?_) (fun _ m => List.mem_cons_of_mem _ m) fun d hd' o g => (hsb.2 d (hbo d hd')).trans (ke _ _ g)
      rcases List.mem_cons.mp hd' with e | hd'
      · exact .inr (e ▸ ha)
      · exact .inl hd'
  · rcases List.mem_cons.mp hd' with e | hd'
    · exact e ▸ hgo
    · obtain ⟨o, g⟩ := hs.cx.vs.live d hd'
      exact ⟨o, (hsb.2 d (hbo d hd')).trans (ke _ _ g)⟩
  · rcases List.mem_cons.mp hd' with e | hd'
    · subst e; exact ⟨n0.base, n0.loc, n0.cel⟩
    · exact hs.cx.no d hd'
  · refine hs.md.trans (G := fun b => slot c.env x b) ⟨h', tk, rfl, fun d o hn g => (hsb.2 d fun e => hn (e ▸ hsl)).trans (ke _ _ g)⟩ fun d hd' => hs.fr d (.inl ⟨x, hst, hd'⟩)
  · rcases hd' with h1 | ⟨j, o, e⟩
    · exact hs.fr d (.inl h1)
    · have e' : (c.σ.set i (.ow a (ovOf arr ds)))[j]? = some (.ow d o) := e
      by_cases hij : i = j
      · subst hij
        rw [List.getElem?_set_self'] at e'
        cases hq : c.σ[i]? with
        | none => rw [hq] at e'; cases e'
        | some q => rw [hq] at e'; cases e'; exact hs.md.back ha
      · rw [List.getElem?_set_ne hij] at e'
        exact hs.fr d (.inr ⟨j, o, e'⟩)
end Mine

end
section
open PySem PySem.W PyProof.Rows PySem.Calls
set_option maxRecDepth 100000
namespace Mine

def notOw (D : Addr) : Bnd → Prop
  | .ow a _ => a ≠ D
  | _ => True
def NoOw (D : Addr) : List Bnd → Prop
  | [] => True
  | b :: l => notOw D b ∧ NoOw D l
def NoOwBut (D : Addr) : Nat → List Bnd → Prop
  | _, [] => True
  | 0, _ :: l => NoOw D l
  | n + 1, b :: l => notOw D b ∧ NoOwBut D n l
theorem noOw_use {D : Addr} : ∀ {l : List Bnd}, NoOw D l → ∀ (j : Nat) o, l[j]? ≠ some (.ow D o)
  | b :: l, h, 0, o, e => by simp at e; subst e; exact h.1 rfl
  | b :: l, h, j + 1, o, e => by simp at e; exact noOw_use h.2 j o e
theorem noBut_use {D : Addr} : ∀ {i : Nat} {l : List Bnd}, NoOwBut D i l → ∀ (j : Nat) o, l[j]? = some (.ow D o) → j = i
  | 0, b :: l, h, 0, o, e => rfl
  | 0, b :: l, h, j + 1, o, e => by simp at e; exact absurd e (noOw_use h j o)
  | i + 1, b :: l, h, 0, o, e => by simp at e; subst e; exact absurd rfl h.1
  | i + 1, b :: l, h, j + 1, o, e => by simp at e; rw [noBut_use h.2 j o e]
  | _, [], h, j, o, e => by simp at e

/-- one of the frame's own objects turns, under its name -/
theorem CX.upd {c : Cx} {s : Shared} (hs : CX c s) {i : Nat} {D : Addr} {o o' : OV} (hi : c.σ[i]? = some (.ow D o)) (hu : NoOwBut D i c.σ) {h' : Heap} {tk : Nat} (hsb : Heap.SameBut D s.heap h') (hl : ∃ ob, h'.get? D = some ob) (ho : OH c.g.prog c.g.w h' c.ow D o') :
    CX (c.set i (.ow D o')) { s with heap := h', toks := tk } := by
  obtain ⟨m, fr, hb⟩ := hs.vs.ex
  have hlen : i < c.ns.length := by rw [← hs.vs.ln]; exact (List.getElem?_eq_some_iff.mp hi).1
  have hxi : c.ns[i]? = some (c.ns[i]'hlen) := List.getElem?_eq_getElem hlen
  have hD : D ∈ c.ow := (hb i _ _ hxi hi).2.1
  obtain ⟨n1, n2, n3⟩ := hs.no D hD
  have hk : KeepLT c.ow s.heap h' := fun b o ho g _ => (hsb.2 b fun e => ho (e ▸ hD)).trans g
  refine ⟨hs.st, fun b o g => (hsb.2 b fun e => by rw [e, n1] at g; cases g).trans (hs.eb b o g), hs.a, hs.fs, ⟨⟨m, ⟨?_, ?_⟩, fun j x b hx hz => ?_⟩, fun a ha => ?_, by simpa using hs.vs.ln⟩, hs.sub, hs.nl, hs.nc, hs.no⟩
  · obtain ⟨ml, hn, e⟩ := fr.loc
    exact ⟨ml, hn.sameBut hsb (Ne.symm n2), e⟩
  · intro x b e
    exact (fr.cel x b e).sameBut hsb fun q => n3 x (q ▸ e)
  · have hz' : (c.σ.set i (.ow D o'))[j]? = some b := hz
    by_cases hij : j = i
    · subst hij
      rw [List.getElem?_set_self', hi] at hz'
      cases hz'
      obtain ⟨e1, e2, _⟩ := hb j x _ hx hi
      exact ⟨e1, e2, ho⟩
    · rw [List.getElem?_set_ne (Ne.symm hij)] at hz'
      have hbv := hb j x b hx hz'
      cases b with
      | un => trivial
      | fz d => obtain ⟨v, e, r⟩ := hbv; exact ⟨v, e, r.keep hk fun _ m => .inl m⟩
      | ow a o2 =>
        obtain ⟨e1, e2, e3⟩ := hbv
        have hne : a ≠ D := fun e => hij (noBut_use hu j o2 (e ▸ hz'))
        exact ⟨e1, e2, e3.keep hk (fun _ m => .inl m) fun o g => (hsb.2 a hne).trans g⟩
      | raw v => exact hbv
  · by_cases e : a = D
    · subst e; exact hl
    · obtain ⟨o, g⟩ := hs.vs.live a ha
      exact ⟨o, (hsb.2 a e).trans g⟩
theorem mut_upd {c : Cx} {i : Nat} {D : Addr} {o o' : OV} (hi : c.σ[i]? = some (.ow D o)) {b : Addr} (h : Mut (c.set i (.ow D o')) b) : Mut c b := by
  rcases h with h | ⟨j, o2, e⟩
  · exact .inl h
  · have e' : (c.σ.set i (.ow D o'))[j]? = some (.ow b o2) := e
    by_cases hij : i = j
    · subst hij
      rw [List.getElem?_set_self', hi] at e'
      cases e'
      exact .inr ⟨i, o, hi⟩
    · rw [List.getElem?_set_ne hij] at e'
      exact .inr ⟨j, o2, e'⟩

theorem interactive_fn {env : Env} (h : env.scope.kind = .function) : interactive env = false := by
  unfold interactive; rw [h]; rfl
theorem few_ok {es : List Expr} {env : Env} {pos : Pos} (hp : es.all plainE = true) (hl : es.length < 30) : ((backTo pos (starEach es env)).all (fun x => !x.1) && (backToKw pos (keywordEach [] env)).all (fun x => x.1.isSome)
      && decide (es.length + ([] : List Keyword).length + (if ([] : List Keyword).isEmpty then 0 else 1) < 30)) = true := by
  rw [(backTo_plain hp).2]
  simp [keywordEach, backToKw]
  omega
theorem slot_load {c : Cx} {s : Shared} (hs : CX c s) {i : Nat} {x : Str} {D : Addr} {o : OV} (hx : c.ns[i]? = some x) (hi : c.σ[i]? = some (.ow D o)) : D ∈ c.ow ∧ OH c.g.prog c.g.w s.heap c.ow D o ∧
    ∀ {pos : Pos} {Q : Value → Shared → Prop} {E : Value → Shared → Prop}, (x == ("__debug__" : Str)) = false → Q (.ref D) s → wpAny (model c.g.prog c.g.w) c.A (eval (.Name x pos) c.env) Q E s := by
  obtain ⟨m, fr, hb⟩ := hs.vs.ex
  obtain ⟨e1, e2, e3⟩ := hb i x _ hx hi
  exact ⟨e2, e3, fun hd h => wpAny_Name (fr.load hs.fs hx e1 h) hd⟩

section
variable {sb : Shared} {F : Addr → Prop} {ro : List Addr} {c : Cx} {N : Shared → Prop} {R : PV → Prop} {rest : List Stmt}
theorem SS.upd {s : Shared} (hs : SS sb F c s) {i : Nat} {D : Addr} {o o' : OV} (hi : c.σ[i]? = some (.ow D o)) (hu : NoOwBut D i c.σ) {h' : Heap} {tk : Nat} (hsb : Heap.SameBut D s.heap h') (hl : ∃ ob, h'.get? D = some ob) (ho : OH c.g.prog c.g.w h' c.ow D o') :
    SS sb F (c.set i (.ow D o')) { s with heap := h', toks := tk } :=
  ⟨hs.cx.upd hi hu hsb hl ho, hs.md.trans (G := fun b => b = D) ⟨h', tk, rfl, fun b o hb g => (hsb.2 b hb).trans g⟩ fun b hb => hb ▸ hs.fr D (.inr ⟨i, o, hi⟩), fun b hb => hs.fr b (mut_upd hi hb)⟩

theorem xs_append (i : Nat) {x : Str} {p apos pos pos' : Pos} {e : Expr} {D : Addr} {ds : List PV} {d : PV} (hx : c.ns[i]? = some x) (hi : c.σ[i]? = some (.ow D (.lst ds))) (hu : NoOwBut D i c.σ) (h : Ev c e d) (hz : ds.length ≤ sizeLine)
    (kk : XS sb F ro (c.set i (.ow D (.lst (ds ++ [d])))) rest N R) (hp : plainE e = true := by rfl) (hline : (apos.endLine == pos.line) = true := by rfl) (hb : (x == ("__debug__" : Str)) = false := by decide +kernel) :
    XS sb F ro c (.Expr (.Call (.Attribute (.Name x p) "append" apos) [e] [] pos) pos' :: rest) N R := fun s hs => by
  have hp' : [e].all plainE = true := by simp [hp]
  obtain ⟨hD, hO, ld⟩ := slot_load hs.cx hx hi
  obtain ⟨vs, hl, hd⟩ := hO
  refine wpAny_execs_cons (wpAny_Expr (wpAny_Call_method (T := "list") (id := "list.append") rfl (few_ok hp' (by simp)) hline PySem.F.plainAttrs_list PySem.F.slot_list_append PySem.F.type_list_append (ld hb ⟨?_, ?_, ?_⟩)) (interactive_fn hs.cx.fs.kind))
  · exact hl.isList.typeIs
  · intro a e; cases e; obtain ⟨n, g⟩ := hl; exact ⟨_, g, rfl⟩
  refine callWith_builtin (backTo_plain hp').1 (evalArgs_of (evs_cons h evs_nil hp) hp' hs.cx fun us s₁ h₁ k₁ x₁ => ?_)
  cases x₁ with
  | cons y z =>
    cases z
    have e1 := hd.length
    simp only [Array.length_toList] at e1
    refine wpAny_list_append_plain (hl.at fun o g => k₁.ext _ o g) (fun h' hl' hsb => ?_) (by omega)
    have hk : KeepLT c.ow s₁.heap h' := fun b o ho g _ => (hsb.2 b fun e => ho (e ▸ hD)).trans g
    refine kk _ ((hs.keeps k₁).upd (tk := s₁.toks) hi hu hsb (let ⟨n, g⟩ := hl'; ⟨_, g⟩) ⟨_, hl', ?_⟩)
    rw [Array.toList_push]
    exact ((hd.ext k₁.ext).keep hk fun _ m => .inl m).append (.one (y.keep hk fun _ m => .inl m))

theorem DIs.setAt {h : Heap} {ow : List Addr} {v : Value} {d : PV} (hv : DI h ow v d) : ∀ {vs : List Value} {ds : List PV}, DIs h ow vs ds → ∀ k : Nat, DIs h ow (vs.set k v) (ds.set k d)
  | _, _, .nil, k => by simp; exact .nil
  | _, _, .cons x r, 0 => .cons hv r
  | _, _, .cons x r, k + 1 => .cons x (DIs.setAt hv r k)
theorem xs_setitem (i : Nat) {x : Str} {p p2 pos : Pos} {e ix : Expr} {D : Addr} {ds : List PV} {d : PV} {k : Nat} (hx : c.ns[i]? = some x) (hi : c.σ[i]? = some (.ow D (.arr ds))) (hu : NoOwBut D i c.σ) (h : Ev c e d) (hix : Ev c ix (.int (k : Int))) (hk : k < ds.length) (hk2 : (k : Int) < 2 ^ 63)
    (kk : XS sb F ro (c.set i (.ow D (.arr (ds.set k d)))) rest N R) (hb : (x == ("__debug__" : Str)) = false := by decide +kernel) (hw : ∀ env line, swapsWith e (some (.Subscript (.Name x p) ix p2)) line env = pure false := by intro _ _; rfl) :
    XS sb F ro c (.Assign [.Subscript (.Name x p) ix p2] e pos :: rest) N R := fun s hs => by
  refine wpAny_execs_cons (wpAny_Assign_Subscript (h.use hs.cx fun v s₁ h₁ k₁ x₁ => ?_) (hw _ _))
  obtain ⟨hD, hO, ld⟩ := slot_load h₁ hx hi
  obtain ⟨vs, hl, hd⟩ := hO
  refine ld hb (hix.use h₁ fun iv s₂ h₂ k₂ x₂ => ?_)
  cases x₂
  have e1 := hd.length
  simp only [Array.length_toList] at e1
  refine wpAny_setItem_list (hl.at fun o g => k₂.ext _ o g) (by omega) hk2 (by omega) fun h' hl' hsb => ?_
  have hkk : KeepLT c.ow s₂.heap h' := fun b o ho g _ => (hsb.2 b fun e => ho (e ▸ hD)).trans g
  refine kk _ ((hs.keeps (k₁.trans k₂)).upd (tk := s₂.toks) hi hu hsb (let ⟨o, g, _⟩ := hl'; ⟨_, g⟩) ⟨_, hl', ?_⟩)
  rw [Array.toList_setIfInBounds, Int.toNat_natCast]
  exact DIs.setAt ((x₁.ext k₂.ext).keep hkk fun _ m => .inl m) ((hd.ext k₂.ext).keep hkk fun _ m => .inl m) k

/-- reading an own list -/
theorem ev_sub_own (i : Nat) {x : Str} {p pos : Pos} {ix : Expr} {D : Addr} {ds : List PV} {d : PV} {k : Nat} (hx : c.ns[i]? = some x) (hi : c.σ[i]? = some (.ow D (.arr ds))) (hix : Ev c ix (.int (k : Int))) (hk2 : (k : Int) < 2 ^ 63) (hd : ds[k]? = some d)
    (hb : (x == ("__debug__" : Str)) = false := by decide +kernel) (hn : noSlice ix = true := by rfl) : Ev c (.Subscript (.Name x p) ix pos) d := fun s hs => by
  obtain ⟨hD, hO, ld⟩ := slot_load hs hx hi
  obtain ⟨vs, hl, hx⟩ := hO
  refine Subscript_ (ld hb (hix.use hs fun iv s₂ h₂ k₂ x₂ => ?_))
  cases x₂
  obtain ⟨v, hv1, hv2⟩ := hx.get hd
  have hl2 := hl.at (h' := s₂.heap) fun o g => k₂.ext _ o g
  exact tail_any hl2.typeIs slot_list_getitem.lookup (wpAny_getItem_list hl2 (by omega) hk2 (by simpa using hv1) ⟨k₂, hv2.ext k₂.ext⟩) (subscripted_plain hn _ _)

end

/-! weakening -/
def okB (ow : List Addr) : Bnd → Prop
  | .ow a _ => a ∈ ow
  | _ => True
inductive WL (ow : List Addr) : List Bnd → List Bnd → Prop
  | nil : WL ow [] []
  | same {b : Bnd} {l l' : List Bnd} : okB ow b → WL ow l l' → WL ow (b :: l) (b :: l')
  | eq {b b' : Bnd} {l l' : List Bnd} : b = b' → okB ow b' → WL ow l l' → WL ow (b :: l) (b' :: l')
  | un {b : Bnd} {l l' : List Bnd} : WL ow l l' → WL ow (b :: l) (.un :: l')
  | frz {a : Addr} {ds : List PV} {l l' : List Bnd} : a ∉ ow → WL ow l l' → WL ow (.ow a (.lst ds) :: l) (.fz (.list ds) :: l')
theorem WL.len {ow : List Addr} {l l' : List Bnd} (h : WL ow l l') : l'.length = l.length := by
  induction h with
  | nil => rfl
  | same _ _ ih => simp [ih]
  | eq _ _ _ ih => simp [ih]
  | un _ ih => simp [ih]
  | frz _ _ ih => simp [ih]
theorem WL.get {ow : List Addr} {l l' : List Bnd} (h : WL ow l l') : ∀ (i : Nat) b', l'[i]? = some b' → b' = .un ∨ (l[i]? = some b' ∧ okB ow b') ∨ ∃ a ds, l[i]? = some (.ow a (.lst ds)) ∧ b' = .fz (.list ds) ∧ a ∉ ow := by
  induction h with
  | nil => intro i b' e; simp at e
  | same ok _ ih =>
    intro i b' e
    cases i with
    | zero => simp at e; subst e; exact .inr (.inl ⟨rfl, ok⟩)
    | succ i => simp at e; simpa using ih i b' e
  | eq q ok _ ih =>
    subst q
    intro i b' e
    cases i with
    | zero => simp at e; subst e; exact .inr (.inl ⟨rfl, ok⟩)
    | succ i => simp at e; simpa using ih i b' e
  | un _ ih =>
    intro i b' e
    cases i with
    | zero => simp at e; exact .inl e.symm
    | succ i => simp at e; simpa using ih i b' e
  | frz ha _ ih =>
    intro i b' e
    cases i with
    | zero => simp at e; exact .inr (.inr ⟨_, _, rfl, e.symm, ha⟩)
    | succ i => simp at e; simpa using ih i b' e

abbrev Cx.weak (c : Cx) (σ : List Bnd) (ow : List Addr) : Cx := { c with σ := σ, ow := ow }
theorem SS.weak {sb : Shared} {F : Addr → Prop} {c : Cx} {σ' : List Bnd} {ow' : List Addr} (h : WL ow' c.σ σ') (hs : ∀ a ∈ ow', a ∈ c.ow) : ∀ s, SS sb F c s → SS sb F (c.weak σ' ow') s := fun s S => by
  obtain ⟨m, fr, hb⟩ := S.cx.vs.ex
  have hk : KeepLT c.ow s.heap s.heap := fun _ _ _ g _ => g
  have ho : ∀ a ∈ ow', a ∈ c.ow ∨ s.heap.get? a = none := fun a ha => .inl (hs a ha)
  refine ⟨⟨S.cx.st, S.cx.eb, S.cx.a, S.cx.fs, ⟨⟨m, fr, fun i x b hx hz => ?_⟩, fun a ha => S.cx.vs.live a (hs a ha), by rw [← S.cx.vs.ln]; exact h.len⟩, S.cx.sub, S.cx.nl, S.cx.nc, fun a ha => S.cx.no a (hs a ha)⟩, S.md, fun b hb' => ?_⟩
  · rcases h.get i b hz with e | ⟨e, ok⟩ | ⟨a, ds, e, rfl, ha⟩
    · subst e; trivial
    · have hbv := hb i x b hx e
      cases b with
      | un => trivial
      | fz d => obtain ⟨v, q, r⟩ := hbv; exact ⟨v, q, r.keep hk ho⟩
      | ow a o => obtain ⟨e1, e2, e3⟩ := hbv; exact ⟨e1, ok, e3.keep hk ho fun _ g => g⟩
      | raw v => exact hbv
    · obtain ⟨e1, e2, vs, hl, hd⟩ := hb i x _ hx e
      exact ⟨_, e1, .list ha hl (hd.keep hk ho)⟩
  · rcases hb' with h1 | ⟨j, o, e⟩
    · exact S.fr b (.inl h1)
    · rcases h.get j _ e with q | ⟨q, _⟩ | ⟨a, ds, _, q, _⟩
      · cases q
      · exact S.fr b (.inr ⟨j, o, q⟩)
      · cases q
theorem xs_weak {sb : Shared} {F : Addr → Prop} {ro : List Addr} {c : Cx} {N : Shared → Prop} {R : PV → Prop} {rest : List Stmt} {σ' : List Bnd} {ow' : List Addr} (h : WL ow' c.σ σ') (hs : ∀ a ∈ ow', a ∈ c.ow) (k : XS sb F ro (c.weak σ' ow') rest N R) : XS sb F ro c rest N R :=
  fun s S => k s (SS.weak h hs s S)
end Mine

end
section
open PySem PySem.W PyProof.Rows PySem.Calls PySem.Spec PyProof.V
set_option maxRecDepth 100000
namespace Mine

/-! an own dict of ints -/
def putI (k v : Int) (kvs : List (Int × Int)) : List (Int × Int) := if kvs.any (fun p => decide (p.1 = k)) then kvs.map (fun p => if p.1 = k then (p.1, v) else p) else kvs ++ [(k, v)]
def encI (p : Int × Int) : PyData × PyData := (PyData.int p.1, PyData.int p.2)
def lookI (k : Int) : List (Int × Int) → Option Int
  | [] => none
  | (a, b) :: r => if a = k then some b else lookI k r
theorem putD_enc (k v : Int) (kvs : List (Int × Int)) : putD (.int k) (.int v) (kvs.map encI) = (putI k v kvs).map encI := by
  unfold putD putI
  have e1 : (kvs.map encI).any (fun p => Spec.same p.1 (.int k)) = kvs.any (fun p => decide (p.1 = k)) := by
    rw [List.any_map]; rfl
  rw [e1]
  split
  · rw [List.map_map, List.map_map]
    apply List.map_congr_left
    intro p _
    show (if Spec.same (PyData.int p.1) (.int k) = true then (PyData.int p.1, PyData.int v) else encI p) = encI (if p.1 = k then (p.1, v) else p)
    rw [PyProof.V.same_int]
    by_cases h : p.1 = k <;> simp [h, encI]
  · simp [encI]
theorem lookup_enc (k : Int) : ∀ kvs : List (Int × Int), Spec.lookup (.int k) (kvs.map encI) = (lookI k kvs).map .int
  | [] => rfl
  | (a, b) :: r => by
    show (if Spec.same (PyData.int a) (.int k) then some (PyData.int b) else Spec.lookup (.int k) (r.map encI)) = _
    rw [PyProof.V.same_int, lookup_enc k r]
    show _ = (if a = k then some b else lookI k r).map PyData.int
    by_cases h : a = k <;> simp [h]

theorem OH_dct {prog : Program} {w : World} {h : Heap} {ow : List Addr} {a : Addr} {kvs : List (Int × Int)} : OH prog w h ow a (.dct kvs) = IntTab prog w h a (kvs.map encI) := rfl

section
variable {sb : Shared} {F : Addr → Prop} {ro : List Addr} {c : Cx} {N : Shared → Prop} {R : PV → Prop} {rest : List Stmt}

theorem xs_newdict (i : Nat) {x : Str} {p p2 pos : Pos} (hx : c.ns[i]? = some x) (hst : x ∈ c.st) (hsm : True)
    (kk : ∀ a, a ∉ c.ow → XS sb F ro (c.own i a (.dct [])) rest N R) : XS sb F ro c (.Assign [.Name x p] (.Dict [] [] p2) pos :: rest) N R := fun s hs => by
  refine wpAny_execs_cons (wpAny_Assign_Name (wpAny_Dict_empty ?_))
  have k₁ := Kp.push s { cls := .type "dict", data := .dict #[] }
  have ha : s.heap.get? s.heap.objs.size = none := by
    cases q : s.heap.get? s.heap.objs.size with
    | none => rfl
    | some o => exact absurd (Heap.lt_size q) (Nat.lt_irrefl _)
  have n0 := hs.cx.new ha
  obtain ⟨m, fr, hb⟩ := hs.cx.vs.ex
  have fr1 := fr.ext k₁.ext
  refine store_frame (s := { s with heap := s.heap.push { cls := .type "dict", data := .dict #[] } }) hs.cx.fs fr1 (List.mem_of_getElem? hx) fun h' tk b fr' hsl hsb hseq => ?_
  have hab : s.heap.objs.size ≠ b := fun e => by
    rcases hsl with ⟨_, h2⟩ | ⟨_, h2⟩
    · exact n0.loc (e.trans h2)
    · exact n0.cel x (e ▸ h2)
  have hk0 : KeepLT c.ow s.heap h' := fun d o ho g q => (hsb.2 d fun e => hseq o (e ▸ k₁.ext _ _ g) q).trans (k₁.ext _ _ g)
  have hbo : ∀ d ∈ c.ow, d ≠ b := fun d hd' e => by
    rcases hsl with ⟨_, h2⟩ | ⟨_, h2⟩
    · exact (hs.cx.no d hd').2.1 (e.trans h2)
    · exact (hs.cx.no d hd').2.2 x (e ▸ h2)
  have hnew : c.g.hB.get? b = none := by
    rcases hsl with ⟨_, h2⟩ | ⟨_, h2⟩
    · exact h2 ▸ hs.cx.nl
    · exact hs.cx.nc x b h2
  have hgo : h'.get? s.heap.objs.size = some { cls := .type "dict", data := .dict #[] } := (hsb.2 _ hab).trans (Heap.get?_push_size _ rfl)
  have hown : IntTab c.g.prog c.g.w h' s.heap.objs.size (([] : List (Int × Int)).map encI) := by
    refine ⟨?_, [], ?_, .nil⟩
    · have := modules_low hs.cx.sth.nl
      simpa using Nat.ne_of_gt this
    · obtain ⟨o, es, ep, g, r⟩ := Heap.DictOf.new (knd := intKind c.g.prog c.g.w) s.heap
      rw [Heap.get?_push_size _ rfl] at g
      cases g
      exact ⟨_, es, ep, hgo, r⟩
  refine kk _ n0.own _ ⟨⟨hs.cx.st, fun d o g => (hsb.2 d fun e => by rw [e, hnew] at g; cases g).trans (k₁.ext _ _ (hs.cx.eb d o g)), hs.cx.a, hs.cx.fs, ⟨⟨_, fr', fun j y z hy hz => ?_⟩, fun d hd' => ?_, by simpa using hs.cx.vs.ln⟩, hs.cx.sub, hs.cx.nl, hs.cx.nc, fun d hd' => ?_⟩, ?_, fun d hd' => ?_⟩
  · by_cases hij : j = i
    · subst hij
      rw [hx] at hy; cases hy
      have hz' : (c.σ.set j (.ow s.heap.objs.size (.dct [])))[j]? = some z := hz
      rw [List.getElem?_set_self'] at hz'
      cases hq : c.σ[j]? with
      | none => rw [hq] at hz'; cases hz'
      | some q =>
        rw [hq] at hz'
        cases hz'
        exact ⟨by simp, List.mem_cons_self, hown⟩
    · have hz' : (c.σ.set i (.ow s.heap.objs.size (.dct [])))[j]? = some z := hz
      rw [List.getElem?_set_ne (Ne.symm hij)] at hz'
      have hyx : y ≠ x := get_ne hs.cx.fs.nd hy hx hij
      simp only [hyx, if_false]
      refine (hb j y z hy hz').keep hk0 (fun d hd' => ?_) (fun _ m => List.mem_cons_of_mem _ m) fun d hd' o g => (hsb.2 d (hbo d hd')).trans (k₁.ext _ _ g)
      rcases List.mem_cons.mp hd' with e | hd'
      · exact .inr (e ▸ ha)
      · exact .inl hd'
  · rcases List.mem_cons.mp hd' with e | hd'
    · exact ⟨_, e ▸ hgo⟩
    · obtain ⟨o, g⟩ := hs.cx.vs.live d hd'
      exact ⟨o, (hsb.2 d (hbo d hd')).trans (k₁.ext _ _ g)⟩
  · rcases List.mem_cons.mp hd' with e | hd'
    · subst e; exact ⟨n0.base, n0.loc, n0.cel⟩
    · exact hs.cx.no d hd'
  · refine hs.md.trans (G := fun b => slot c.env x b) ⟨h', tk, rfl, fun d o hn g => (hsb.2 d fun e => hn (e ▸ hsl)).trans (k₁.ext _ _ g)⟩ fun d hd' => hs.fr d (.inl ⟨x, hst, hd'⟩)
  · rcases hd' with h1 | ⟨j, o, e⟩
    · exact hs.fr d (.inl h1)
    · have e' : (c.σ.set i (.ow s.heap.objs.size (.dct [])))[j]? = some (.ow d o) := e
      by_cases hij : i = j
      · subst hij
        rw [List.getElem?_set_self'] at e'
        cases hq : c.σ[i]? with
        | none => rw [hq] at e'; cases e'
        | some q => rw [hq] at e'; cases e'; exact hs.md.back ha
      · rw [List.getElem?_set_ne hij] at e'
        exact hs.fr d (.inr ⟨j, o, e'⟩)

theorem xs_setdict (i : Nat) {x : Str} {p p2 pos : Pos} {e ix : Expr} {D : Addr} {kvs : List (Int × Int)} {k n : Int} (hx : c.ns[i]? = some x) (hi : c.σ[i]? = some (.ow D (.dct kvs))) (hu : NoOwBut D i c.σ) (h : Ev c e (.int n)) (hix : Ev c ix (.int k)) (hz : kvs.length ≤ sizeLine)
    (kk : XS sb F ro (c.set i (.ow D (.dct (putI k n kvs)))) rest N R) (hb : (x == ("__debug__" : Str)) = false := by decide +kernel) (hw : ∀ env line, swapsWith e (some (.Subscript (.Name x p) ix p2)) line env = pure false := by intro _ _; rfl) :
    XS sb F ro c (.Assign [.Subscript (.Name x p) ix p2] e pos :: rest) N R := fun s hs => by
  refine wpAny_execs_cons (wpAny_Assign_Subscript (h.use hs.cx fun v s₁ h₁ k₁ x₁ => ?_) (hw _ _))
  obtain ⟨hD, hO, ld⟩ := slot_load h₁ hx hi
  refine ld hb (hix.use h₁ fun iv s₂ h₂ k₂ x₂ => ?_)
  obtain ⟨hne, kv, hdo, hfl⟩ := hO
  cases x₂
  cases x₁
  rename_i t2 t1
  have hlen : kv.length ≤ sizeLine := by
    have := hfl.length
    rw [List.length_map] at this
    omega
  refine wpAny_setItem_pairs (hsz := hlen) (intKind_is _ _ k t2) (hdo.keep k₂.ext) fun h' hdo' hsb => ?_
  refine kk _ ((hs.keeps (k₁.trans k₂)).upd (tk := s₂.toks + 1) hi hu hsb (let ⟨o, _, _, g, _⟩ := hdo'; ⟨_, g⟩) ?_)
  rw [OH_dct, ← putD_enc]
  exact ⟨hne, _, hdo', hfl.stored PyProof.V.same_int k (.int n t1)⟩

theorem ev_ditem (i : Nat) {x : Str} {p pos : Pos} {ix : Expr} {D : Addr} {kvs : List (Int × Int)} {k n : Int} (hx : c.ns[i]? = some x) (hi : c.σ[i]? = some (.ow D (.dct kvs))) (hix : Ev c ix (.int k)) (hl : lookI k kvs = some n)
    (hb : (x == ("__debug__" : Str)) = false := by decide +kernel) (hn : noSlice ix = true := by rfl) : Ev c (.Subscript (.Name x p) ix pos) (.int n) := fun s hs => by
  obtain ⟨hD, hO, ld⟩ := slot_load hs hx hi
  refine Subscript_ (ld hb (hix.use hs fun iv s₂ h₂ k₂ x₂ => ?_))
  cases x₂
  have T : IntTab c.g.prog c.g.w s₂.heap D (kvs.map encI) := TabAt.keep hO k₂.ext
  refine item_intTab (dv := .int n) T (by rw [lookup_enc, hl]; rfl) (fun v hv => ?_) (subscripted_plain hn _ _) (fun _ => rfl)
  obtain ⟨t, rfl⟩ := hv.int_inv
  exact ⟨k₂.trans (.tok s₂ _), .int _ _⟩

theorem ev_dget (i : Nat) {x : Str} {p apos pos : Pos} {e1 e2 : Expr} {D : Addr} {kvs : List (Int × Int)} {k n : Int} (hx : c.ns[i]? = some x) (hi : c.σ[i]? = some (.ow D (.dct kvs))) (h1 : Ev c e1 (.int k)) (h2 : Ev c e2 (.int n))
    (hp : [e1, e2].all plainE = true := by rfl) (hline : (apos.endLine == pos.line) = true := by rfl) (hb : (x == ("__debug__" : Str)) = false := by decide +kernel) :
    Ev c (.Call (.Attribute (.Name x p) "get" apos) [e1, e2] [] pos) (.int ((lookI k kvs).getD n)) := fun s hs => by
  obtain ⟨hD, hO, ld⟩ := slot_load hs hx hi
  obtain ⟨hne, kv, ⟨o, es, ep, g, hex, r⟩, hfl⟩ := id hO
  have hp1 : plainE e1 = true := by simp at hp; exact hp.1
  have hp2 : plainE e2 = true := by simp at hp; exact hp.2
  refine wpAny_Call_method (T := "dict") (id := "dict.get") rfl (few_ok hp (by simp)) hline PySem.F.plainAttrs_dict PySem.F.slot_dict_get PySem.F.type_dict_get (ld hb ⟨?_, ?_, ?_⟩)
  · exact ⟨o, g, hex.1⟩
  · intro a e; cases e; exact ⟨_, g, hex.2.1⟩
  refine callWith_builtin (backTo_plain hp).1 (evalArgs_of (evs_cons h1 (evs_cons h2 evs_nil hp2) hp1) hp hs fun us s₁ h₁ k₁ x₁ => ?_)
  cases x₁ with
  | cons y z =>
    cases z with
    | cons y2 z2 =>
      cases z2
      cases y
      cases y2
      have T : IntTab c.g.prog c.g.w s₁.heap D (kvs.map encI) := TabAt.keep hO k₁.ext
      refine call_get2_intTab T (.int n _) fun v hv => ?_
      rw [lookup_enc] at hv
      have hv' : Flat v (.int ((lookI k kvs).getD n)) := by
        cases hq : lookI k kvs with
        | none => rw [hq] at hv; exact hv
        | some b => rw [hq] at hv; exact hv
      obtain ⟨t, rfl⟩ := hv'.int_inv
      exact ⟨k₁.trans (.tok s₁ _), .int _ _⟩
end
end Mine

end
section
open PySem PySem.W PyProof.Rows PySem.Calls
set_option maxRecDepth 100000
namespace Mine

section
variable {c : Cx}
theorem kp_of {s : Shared} {h' : Heap} {tk : Nat} (e : ∀ b o, s.heap.get? b = some o → h'.get? b = some o) : Kp s { s with heap := h', toks := tk } := ⟨h', tk, rfl, e⟩

theorem f_len_str {x : Str} (hf : (x.length : Int) < 2 ^ 63) : OpN c (.builtin "len") [.str x] (.int x.length) := fun s vs hs hv => by
  cases hv with
  | cons y z => cases z; cases y; exact P.len_str (by omega) ⟨.tok s _, .int _ _⟩
theorem f_len_list {ds : List PV} (hf : (ds.length : Int) < 2 ^ 63) : OpN c (.builtin "len") [.list ds] (.int ds.length) := fun s vs hs hv => by
  cases hv with
  | cons y z =>
    cases z
    cases y with
    | list ha hl hd =>
      have e := hd.length
      simp only [Array.length_toList] at e
      refine call_len_list hl.isList (by omega) ?_
      rw [e]
      exact ⟨.tok s _, .int _ _⟩
theorem f_min_ii {a b : Int} : OpN c (.builtin "min") [.int a, .int b] (.int (if b < a then b else a)) := fun s vs hs hv => by
  cases hv with
  | cons y z =>
    cases z with
    | cons y2 z2 =>
      cases z2; cases y; cases y2
      refine min_two_ints hs.a.1 fun h' tk e => ⟨kp_of e, ?_⟩
      split <;> exact .int _ _

/-- ints -/
theorem ints_of {h : Heap} {ow : List Addr} : ∀ {vs : List Value} {ns : List Int}, DIs h ow vs (ns.map PV.int) → IntsAre vs ns
  | [], [], _ => .nil
  | _, n :: ns, .cons y z => by cases y; exact .cons _ _ (ints_of z)
theorem of_ints {h : Heap} {ow : List Addr} : ∀ {vs : List Value} {ns : List Int}, IntsAre vs ns → DIs h ow vs (ns.map PV.int)
  | _, _, .nil => .nil
  | _, _, .cons n t r => .cons (.int n t) (of_ints r)
theorem f_max_ints {ns : List Int} (hne : 0 < ns.length) : OpN c (.builtin "max") [.list (ns.map PV.int)] (.int (ns.getD (argBest (fun i j => decide (ns.getD i 0 > ns.getD j 0)) (ns.length - 1)) 0)) := fun s vs hs hv => by
  cases hv with
  | cons y z =>
    cases z
    cases y with
    | list ha hl hd =>
      rename_i a us
      have hi := ints_of hd
      obtain ⟨xs, hx⟩ := hi.allInts.items
      have hx' : us = intItems xs := by simpa using hx
      subst hx'
      have en : ns = xs.toList.map (·.1) := by
        rw [← nums_intItems]
        exact (show numsOf (intItems xs).toList = ns from hi.numsOf).symm
      have esz : xs.size = ns.length := by rw [en]; simp
      have enum : ∀ i, numAt xs i = ns.getD i 0 := fun i => by
        rw [en]
        unfold numAt
        simp [List.getD]
      refine max_intList hs.a.1 hl.isList (by omega) fun v h' tk hv e => ⟨kp_of e, ?_⟩
      have e2 : (fun i j => decide (numAt xs i > numAt xs j)) = (fun i j => decide (ns.getD i 0 > ns.getD j 0)) := by funext i j; rw [enum, enum]
      rw [e2, esz] at hv
      obtain ⟨t, rfl⟩ := intItems_at hv
      rw [enum]
      exact .int _ _

/-- floats -/
def fmax3 (x y z : UInt64) : UInt64 := let m := if Float64.cmp y x == some Ordering.gt then y else x; if Float64.cmp z m == some Ordering.gt then z else m
def fmin3 (x y z : UInt64) : UInt64 := let m := if Float64.cmp y x == some Ordering.lt then y else x; if Float64.cmp z m == some Ordering.lt then z else m
def f3 (x y z : UInt64) (i : Nat) : UInt64 := if i = 0 then x else if i = 1 then y else z
theorem f3_at {x y z : UInt64} {t u v : Tok} {i : Nat} {r : Value} (h : (#[Value.float x t, .float y u, .float z v] : Array Value)[i]? = some r) : ∃ k, r = .float (f3 x y z i) k := by
  match i, h with
  | 0, h => simp at h; exact ⟨t, h.symm⟩
  | 1, h => simp at h; exact ⟨u, h.symm⟩
  | 2, h => simp at h; exact ⟨v, h.symm⟩
  | n + 3, h => simp at h
theorem three_walk {x y z : UInt64} {t u v : Tok} {s : Shared} {prog : Program} {w : World} {A : Around} (hh : A.handled = none) (o : Ordering) (op : CmpOp) (r : UInt64) (hr : r = f3 x y z (argBest (fun i j => Float64.cmp (f3 x y z i) (f3 x y z j) == some o) 2))
    (hop : ∀ (a b : UInt64) (t u : Tok) (s : Shared) (Q E : Value → Shared → Prop), Q (.bool (Float64.cmp a b == some o)) s → wpAny (model prog w) A.in1 (richCompare op (.float a t) (.float b u)) Q E s) {Q E : Value → Shared → Prop}
    (hq : ∀ t s', Kp s s' → Q (.float r t) s') :
    wpAny (model prog w) A.in1 (pyIter (.ref s.heap.objs.size)) (fun it s₂ => ∃ I fp wr n P St bt, it = .ref I ∧ Walks prog w A.in1 I fp wr n P St ∧ St 0 s₂.heap ∧ (∀ b ∈ fp, b < s₂.heap.objs.size) ∧ 0 < n ∧ CmpOf prog w A.in1 op P bt ∧
      ∀ v h' tk, P (argBest bt (n - 1)) v → (∀ b o, b ∉ wr → s₂.heap.get? b = some o → h'.get? b = some o) → Q v { s₂ with heap := h', toks := tk }) E
      { s with heap := s.heap.push { cls := .type "tuple", data := .seq #[.float x t, .float y u, .float z v] } } := by
  have hT : (s.heap.push { cls := .type "tuple", data := .seq #[.float x t, .float y u, .float z v] }).IsTuple s.heap.objs.size #[.float x t, .float y u, .float z v] := ⟨_, Heap.get?_push_size _ rfl, rfl, 0, rfl⟩
  refine wpAny_pyIter_tuple hT ?_
  have hsz : (s.heap.push { cls := .type "tuple", data := .seq #[.float x t, .float y u, .float z v] }).objs.size = s.heap.objs.size + 1 := Heap.size_push ..
  refine ⟨_, [_, s.heap.objs.size], [_], _, _, _, (fun i j => Float64.cmp (f3 x y z i) (f3 x y z j) == some o), rfl, Walks.tuple (A := A.in1) hh _ s.heap.objs.size (by rw [hsz]; exact Nat.ne_of_lt (Nat.lt_succ_self _)) #[.float x t, .float y u, .float z v],
    ⟨⟨_, Heap.get?_push_size _ rfl, rfl, rfl⟩, hT.push _⟩, fun c hc => ?_, by simp, fun i j vi vj s Q E hi hj hQ => ?_, fun v h' tk hP hk => ?_⟩
  · show c < ((s.heap.push _).push _).objs.size
    rw [Heap.size_push, hsz]
    rcases List.mem_cons.mp hc with rfl | hc
    · rw [hsz]; exact Nat.lt_succ_self _
    · rcases List.mem_cons.mp hc with rfl | hc
      · exact Nat.lt_succ_of_lt (Nat.lt_succ_self _)
      · cases hc
  · obtain ⟨k, rfl⟩ := f3_at hi
    obtain ⟨l, rfl⟩ := f3_at hj
    exact hop _ _ _ _ _ _ _ hQ
  · obtain ⟨k, rfl⟩ := f3_at hP
    have e : f3 x y z (argBest (fun i j => Float64.cmp (f3 x y z i) (f3 x y z j) == some o) ((#[Value.float x t, .float y u, .float z v] : Array Value).size - 1)) = r := hr.symm
    rw [e]
    refine hq k _ ⟨h', tk, rfl, fun c o e => ?_⟩
    refine hk c o (fun hm => ?_) (Heap.get?_push_of_some _ (Heap.get?_push_of_some _ e))
    rcases List.mem_cons.mp hm with e1 | hm
    · have := Heap.lt_size e; rw [e1, hsz] at this; exact Nat.lt_irrefl _ (Nat.lt_of_succ_lt this)
    · cases hm
theorem best_gen (bt : Nat → Nat → Bool) : argBest bt 2 = if bt 2 (if bt 1 0 then 1 else 0) then 2 else (if bt 1 0 then 1 else 0) := rfl
theorem best3 (x y z : UInt64) (o : Ordering) : f3 x y z (argBest (fun i j => Float64.cmp (f3 x y z i) (f3 x y z j) == some o) 2) = let m := if Float64.cmp y x == some o then y else x; if Float64.cmp z m == some o then z else m := by
  rw [best_gen]
  show f3 x y z (if (Float64.cmp z (f3 x y z (if (Float64.cmp y x == some o) = true then 1 else 0)) == some o) = true then 2 else (if (Float64.cmp y x == some o) = true then 1 else 0)) = (if (Float64.cmp z (if (Float64.cmp y x == some o) = true then y else x) == some o) = true then z else (if (Float64.cmp y x == some o) = true then y else x))
  cases (Float64.cmp y x == some o)
  · show f3 x y z (if (Float64.cmp z x == some o) = true then 2 else 0) = (if (Float64.cmp z x == some o) = true then z else x)
    cases (Float64.cmp z x == some o) <;> rfl
  · show f3 x y z (if (Float64.cmp z y == some o) = true then 2 else 1) = (if (Float64.cmp z y == some o) = true then z else y)
    cases (Float64.cmp z y == some o) <;> rfl
theorem f_max_fff {x y z : UInt64} : OpN c (.builtin "max") [.float x, .float y, .float z] (.float (fmax3 x y z)) := fun s vs hs hv => by
  cases hv with
  | cons a b =>
    cases b with
    | cons a2 b2 =>
      cases b2 with
      | cons a3 b3 =>
        cases b3; cases a; cases a2; cases a3
        refine call_max_three (three_walk (Q := fun v s' => Kp s s' ∧ DI s'.heap c.ow v (.float (fmax3 x y z))) hs.a.1 .gt .Gt (fmax3 x y z) (best3 x y z .gt).symm (fun a b t u s Q E h => AutoFloatOps.gt_0 h) fun t s' k => ⟨k, .float _ _⟩)
theorem f_min_fff {x y z : UInt64} : OpN c (.builtin "min") [.float x, .float y, .float z] (.float (fmin3 x y z)) := fun s vs hs hv => by
  cases hv with
  | cons a b =>
    cases b with
    | cons a2 b2 =>
      cases b2 with
      | cons a3 b3 =>
        cases b3; cases a; cases a2; cases a3
        refine call_min_three (three_walk (Q := fun v s' => Kp s s' ∧ DI s'.heap c.ow v (.float (fmin3 x y z))) hs.a.1 .lt .Lt (fmin3 x y z) (best3 x y z .lt).symm (fun a b t u s Q E h => AutoFloatOps.lt_0 h) fun t s' k => ⟨k, .float _ _⟩)
def fint (x : UInt64) : Option Int := match Float64.decode x with
  | .fin s m e => some (Float64.truncOf s m e)
  | _ => none
theorem f_int_f {x : UInt64} {k : Int} (h : fint x = some k) : OpN c (.type "int") [.float x] (.int k) := fun s vs hs hv => by
  cases hv with
  | cons a b =>
    cases b; cases a
    unfold fint at h
    split at h
    · rename_i sg m e hd
      cases h
      exact call_int_float hd ⟨.tok s _, .int _ _⟩
    · cases h
def fround (x : UInt64) : Option Int := match Float64.decode x with
  | .fin s m e => some (Float64.nearestOf s m e)
  | _ => none
end
end Mine

end
section
open PySem PySem.W PyProof.Rows PySem.Calls
set_option maxRecDepth 100000
namespace Mine

section
variable {c : Cx}
theorem f_round_f {x : UInt64} {k : Int} (h : fround x = some k) : OpN c (.builtin "round") [.float x] (.int k) := fun s vs hs hv => by
  cases hv with
  | cons a b =>
    cases b; cases a
    unfold fround at h
    split at h
    · rename_i sg m e hd
      cases h
      have no1 : ¬ Float64.isNaN x = true := by unfold Float64.isNaN; rw [hd]; simp
      have no2 : ¬ Float64.isInf x = true := by unfold Float64.isInf; rw [hd]; simp
      refine Flt.call_round_float hs.a.1 (fun q => absurd q no1) (fun q => absurd q no2) fun _ => ?_
      have e1 : Flt.toInt Float64.nearestOf x = Float64.nearestOf sg m e := by unfold Flt.toInt; rw [hd]
      rw [e1]
      exact ⟨.tok s _, .int _ _⟩
    · cases h

theorem ev_lower {o : Expr} {apos pos : Pos} {x : Str} (h : Ev c o (.str x)) (hz : x.length ≤ 5592405) (hbase : ∀ env, attributeBase o "lower" env (eval o env) = eval o env := by intro _; rfl) (hline : (apos.endLine == pos.line) = true := by rfl) :
    Ev c (.Call (.Attribute o "lower" apos) [] [] pos) (.str (Txt.lower x)) := fun s hs => by
  refine Call_method0 (hbase _) hline (h.use hs fun v s₁ h₁ k₁ x₁ => ?_)
  cases x₁
  exact SB.lower (PyProof.Rows.fit_lower hz) ⟨k₁.trans (.tok s₁ _), .str _ _⟩
theorem star1 {e : Expr} {env : Env} (h : plainE e = true) : starEach [e] env = [(false, eval e env)] := by rw [starEach_plain h]; rfl
theorem strs_of {h : Heap} {ow : List Addr} : ∀ {vs : List Value} {ys : List Str}, DIs h ow vs (ys.map PV.str) → StrsAre vs ys
  | [], [], _ => .nil
  | _, n :: ns, .cons y z => by cases y; exact .cons _ _ (strs_of z)
theorem strs_vals : ∀ {vs : List Value} {ys : List Str}, StrsAre vs ys → ∃ l : List (Str × Tok), strValues l = vs ∧ l.map (·.1) = ys
  | _, _, .nil => ⟨[], rfl, rfl⟩
  | _, _, .cons y t r => let ⟨l, h1, h2⟩ := strs_vals r; ⟨(y, t) :: l, by rw [← h1]; rfl, by rw [← h2]; rfl⟩
theorem ev_join {o e : Expr} {apos pos : Pos} {x : Str} {ys : List Str} (ho : Ev c o (.str x)) (he : Ev c e (.list (ys.map PV.str))) (hw : JoinOk x ys = true) (hp : plainE e = true := by rfl) (hbase : ∀ env, attributeBase o "join" env (eval o env) = eval o env := by intro _; rfl) (hline : (apos.endLine == pos.line) = true := by rfl) :
    Ev c (.Call (.Attribute o "join" apos) [e] [] pos) (.str (Txt.join x ys)) := fun s hs => by
  refine Call_method1 (hbase _) (star1 hp) hline (ho.use hs fun v s₁ h₁ k₁ x₁ => ?_)
  cases x₁
  refine SB.join (he.use h₁ fun v s₂ h₂ k₂ x₂ => ?_)
  cases x₂ with
  | list ha hl hd =>
    obtain ⟨l, e1, e2⟩ := strs_vals (strs_of hd)
    refine ⟨_, l, rfl, ?_, ys, e2, hw, fun t' k => ⟨(k₁.trans k₂).trans (.tok s₂ _), .str _ _⟩⟩
    rw [e1]
    exact hl.isList

/-! equality of data without floats -/
mutual
def enc : PyData → PV
  | .none => .none
  | .bool b => .bool b
  | .int i => .int i
  | .str x => .str x
  | .list xs => .list (encs xs)
  | .tuple xs => .tuple (encs xs)
  | .dict _ => .none
def encs : List PyData → List PV
  | [] => []
  | x :: r => enc x :: encs r
end
mutual
theorem reads_enc {h : Heap} {ow : List Addr} : ∀ (d : PyData) (v : Value), d.canLay0 = true → DI h ow v (enc d) → ∃ as, Reads h v d as
  | .none, v, _, x => by cases x; exact ⟨_, .none⟩
  | .bool b, v, _, x => by cases x; exact ⟨_, .bool b⟩
  | .int i, v, _, x => by cases x; exact ⟨_, .int _ _⟩
  | .str y, v, _, x => by cases x; exact ⟨_, .str _ _⟩
  | .list xs, v, hc, x => by
    cases x with
    | list ha hl hd =>
      obtain ⟨as, r⟩ := reads_encs xs _ hc hd
      obtain ⟨n, g⟩ := hl
      exact ⟨_, .list g rfl rfl r⟩
  | .tuple xs, v, hc, x => by
    cases x with
    | tuple ha hl hd =>
      obtain ⟨as, r⟩ := reads_encs xs _ hc hd
      obtain ⟨n, g⟩ := hl
      exact ⟨_, .tuple g rfl rfl r⟩
  | .dict _, v, hc, x => by cases hc
theorem reads_encs {h : Heap} {ow : List Addr} : ∀ (ds : List PyData) (vs : List Value), PyData.canLayAll0 ds = true → DIs h ow vs (encs ds) → ∃ as, ReadsAll h vs ds as
  | [], vs, _, x => by cases x; exact ⟨_, .nil⟩
  | d :: ds, vs, hc, x => by
    cases x with
    | cons y z =>
      have hc' : (PyData.canLay0 d && PyData.canLayAll0 ds) = true := hc
      obtain ⟨h1, h2⟩ := Bool.and_eq_true_iff.mp hc'
      obtain ⟨as, r⟩ := reads_enc d _ h1 y
      obtain ⟨bs, q⟩ := reads_encs ds _ h2 z
      exact ⟨_, .cons r q⟩
end
theorem AOK.room {lv : Nat} {A : Around} (h : AOK lv A) : A.units + 64 < cLine := by have := h.2.2; omega
theorem AOK.room1 {lv : Nat} {A : Around} (h : AOK lv A) : A.in1.units + 64 < cLine := by have := h.2.2; show A.units + 1 + 64 < cLine; omega
theorem c_eq_d {a b : PyData} (ha : SeqAt.shaped a = true) (hb : SeqAt.shaped b = true) : Op2 c (compareOp .Eq) (enc a) (enc b) (.bool (PyData.eqv a b)) := fun s v w hs hv hw => by
  obtain ⟨as, r⟩ := reads_enc a v (SeqAt.canLay_of_shaped ha) hv
  obtain ⟨bs, q⟩ := reads_enc b w (SeqAt.canLay_of_shaped hb) hw
  exact eq_dataH r q ha hb hs.a.room ⟨.refl s, .bool _⟩
theorem c_ne_d {a b : PyData} (ha : SeqAt.shaped a = true) (hb : SeqAt.shaped b = true) : Op2 c (compareOp .NotEq) (enc a) (enc b) (.bool (!PyData.eqv a b)) := fun s v w hs hv hw => by
  obtain ⟨as, r⟩ := reads_enc a v (SeqAt.canLay_of_shaped ha) hv
  obtain ⟨bs, q⟩ := reads_enc b w (SeqAt.canLay_of_shaped hb) hw
  exact ne_dataH r q ha hb hs.a.room ⟨.refl s, .bool _⟩

/-- the elements of a list against one value -/
theorem any_of {ow : List Addr} {A : Around} {s : Shared} (x : Value) (d : PyData) (hd : SeqAt.shaped d = true) (hx : DI s.heap ow x (enc d)) (hu : A.in1.units + 64 < cLine) :
    ∃ f : Value → Bool, ∀ {vs : List Value} {ds : List PyData}, DIs s.heap ow vs (encs ds) → (∀ e ∈ ds, SeqAt.shaped e = true) → (∀ y ∈ vs, SeqAt.EqAt A.in1 s y x (f y)) ∧ vs.any f = ds.any (fun e => PyData.eqv e d) ∧ vs.countP f = ds.countP (fun e => PyData.eqv e d) := by
  obtain ⟨bs, q⟩ := reads_enc d x (SeqAt.canLay_of_shaped hd) hx
  classical
  refine ⟨fun y => decide (∃ e as, Reads s.heap y e as ∧ PyData.eqv e d = true), fun {vs ds} hv hsh => ?_⟩
  have key : ∀ y e as, Reads s.heap y e as → decide (∃ e as, Reads s.heap y e as ∧ PyData.eqv e d = true) = PyData.eqv e d := fun y e as r => by
    cases hq : PyData.eqv e d with
    | true => exact decide_eq_true ⟨e, as, r, hq⟩
    | false =>
      refine decide_eq_false ?_
      rintro ⟨e', as', r', h'⟩
      have := (reads_det (fun _ _ g _ => g) r r').1
      rw [this, hq] at h'
      cases h'
  induction ds generalizing vs with
  | nil => cases hv; exact ⟨fun y hy => (by cases hy), rfl, rfl⟩
  | cons e ds ih =>
    cases hv with
    | cons y z =>
      rename_i v vs
      obtain ⟨h1, h2, h3⟩ := ih z fun e' he' => hsh e' (List.mem_cons_of_mem _ he')
      have se := hsh e List.mem_cons_self
      obtain ⟨as, r⟩ := reads_enc e v (SeqAt.canLay_of_shaped se) y
      have k := key v e as r
      refine ⟨fun y' hy' => ?_, ?_, ?_⟩
      · rcases List.mem_cons.mp hy' with e1 | hy'
        · subst e1
          show SeqAt.EqAt A.in1 s y' x (decide (∃ e as, Reads s.heap y' e as ∧ PyData.eqv e d = true))
          rw [k]
          exact keq_at r q se hd hu
        · exact h1 y' hy'
      · rw [List.any_cons, List.any_cons, h2, k]
      · rw [List.countP_cons, List.countP_cons, h3, k]

theorem c_notin_d {d : PyData} {ds : List PyData} (hd : SeqAt.shaped d = true) (hs' : ∀ e ∈ ds, SeqAt.shaped e = true) : Op2 c (compareOp .NotIn) (enc d) (.list (encs ds)) (.bool (!ds.any (fun e => PyData.eqv e d))) := fun s v w hs hv hw => by
  obtain ⟨f, hf⟩ := any_of (A := c.A) v d hd hv hs.a.room1
  cases hw with
  | list ha hl hx =>
    obtain ⟨h1, h2, h3⟩ := hf hx hs'
    refine SeqAt.notIn_listAt f hl.isList (fun y hy => h1 y (by simpa using hy)) ?_
    rw [← h2]
    simp only [← Array.any_toList]
    exact ⟨.refl s, .bool _⟩
/-- `x not in own` -/
theorem tr_notin_own (i : Nat) {x : Str} {e : Expr} {p pos : Pos} {D : Addr} {d : PyData} {ds : List PyData} (hx : c.ns[i]? = some x) (hi : c.σ[i]? = some (.ow D (.lst (encs ds)))) (h : Ev c e (enc d)) (hd : SeqAt.shaped d = true) (hs' : ∀ e ∈ ds, SeqAt.shaped e = true)
    (hb : (x == ("__debug__" : Str)) = false := by decide +kernel) : Tr c (.Compare e [.NotIn] [.Name x p] pos) (!ds.any (fun e => PyData.eqv e d)) := fun s hs =>
  wpAny_isTrue_Compare1 (h.use hs fun v s₁ h₁ k₁ x₁ => by
    obtain ⟨hD, hO, ld⟩ := slot_load h₁ hx hi
    obtain ⟨vs, hl, hv⟩ := hO
    refine ld hb ?_
    obtain ⟨f, hf⟩ := any_of (A := c.A) v d hd x₁ h₁.a.room1
    obtain ⟨q1, q2, q3⟩ := hf hv hs'
    refine SeqAt.notIn_listAt f hl.isList (fun y hy => q1 y (by simpa using hy)) ?_
    rw [← q2]
    simp only [← Array.any_toList]
    exact wpAny_truthy_bool ⟨k₁, rfl⟩) rfl
theorem ev_count {o e : Expr} {apos pos : Pos} {d : PyData} {ds : List PyData} (ho : Ev c o (.list (encs ds))) (he : Ev c e (enc d)) (hd : SeqAt.shaped d = true) (hs' : ∀ e ∈ ds, SeqAt.shaped e = true) (hp : plainE e = true := by rfl) (hbase : ∀ env, attributeBase o "count" env (eval o env) = eval o env := by intro _; rfl) (hline : (apos.endLine == pos.line) = true := by rfl) :
    Ev c (.Call (.Attribute o "count" apos) [e] [] pos) (.int (ds.countP (fun e => PyData.eqv e d) : Nat)) := fun s hs => by
  have hp' : [e].all plainE = true := by simp [hp]
  refine wpAny_Call_method (T := "list") (id := "list.count") (hbase _) (few_ok hp' (by simp)) hline PySem.F.plainAttrs_list PySem.F.slot_list_count PySem.F.type_list_count (ho.use hs fun v s₁ h₁ k₁ x₁ => ?_)
  cases x₁ with
  | list ha hl hx =>
    rename_i a vs
    refine ⟨hl.isList.typeIs, ?_, ?_⟩
    · intro a e; cases e; obtain ⟨n, g⟩ := hl; exact ⟨_, g, rfl⟩
    refine callWith_builtin (backTo_plain hp').1 (evalArgs_of (evs_cons he evs_nil hp) hp' h₁ fun us s₂ h₂ k₂ x₂ => ?_)
    cases x₂ with
    | cons y z =>
      cases z
      rename_i v
      obtain ⟨n, g⟩ := hl
      have g2 := k₂.ext _ _ g
      obtain ⟨f, hf⟩ := any_of (A := c.A) v d hd y h₂.a.room1
      obtain ⟨q1, q2, q3⟩ := hf (hx.ext k₂.ext) hs'
      refine call_meets PySem.F.slot_list_count ⟨_, g2, rfl⟩ PySem.F.entry_list_count (PySem.F.args_list_count_2 _ _) (SeqAt.list_countAt a vs n none #[] v f) ⟨g2, fun y hy => q1 y (by simpa using hy), ?_⟩
      rw [q3]
      exact ⟨(k₁.trans k₂).trans (.tok s₂ _), .int _ _⟩

theorem f_list_list {ds : List PV} (hz : ds.length ≤ sizeLine) : OpN c (.type "list") [.list ds] (.list ds) := fun s vs hs hv => by
  cases hv with
  | cons y z =>
    cases z
    cases y with
    | list ha hl hd =>
      obtain ⟨n, g⟩ := hl
      have e1 := hd.length
      simp only [Array.length_toList] at e1
      refine call_list_seq _ (.inl rfl) g rfl rfl (fun h' c' e g' => ⟨⟨h', s.toks, rfl, e⟩, .list (fresh_not hs.vs.live) ⟨_, g'⟩ (hd.ext e)⟩) (by omega)
theorem f_sum {ns : List Int} : OpN c (.builtin "sum") [.ilist (ns.map PV.int)] (.int ns.sum) := fun s vs hs hv => by
  cases hv with
  | cons y z =>
    cases z
    cases y with
    | ilist ha hl hd =>
      rename_i a us
      have hi := ints_of hd
      obtain ⟨xs, hx⟩ := hi.allInts.items
      have hx' : us = intItems xs := by simpa using hx
      subst hx'
      have en : ns = xs.toList.map (·.1) := by
        rw [← nums_intItems]
        exact (show numsOf (intItems xs).toList = ns from hi.numsOf).symm
      refine sum_intListG hs.a.1 hl fun h' tk t' e => ⟨kp_of e, ?_⟩
      have e2 : preSum (numAt xs) xs.size = ns.sum := by
        rw [preSum_eq, List.take_of_length_le (by simp), ← en]
      rw [e2]
      exact .int _ _
theorem ev_slice_ilist {value : Expr} {lo hi : Option Expr} {p pos : Pos} {ds es : List PV} {l u : Option Int} (hv : Ev c value (.ilist ds)) (hl : EvP c lo l) (hh : EvP c hi u) (hz : ds.length ≤ sizeLine)
    (hp : ∀ h ow (vs : Array Value), DIs h ow vs.toList ds → DIs h ow (slicePick vs l u none).toList es) :
    Ev c (.Subscript value (.Slice lo hi none p) pos) (.list es) := fun s hs => by
  refine Subscript_ (hv.use hs fun o s₁ h₁ k₁ x₁ => wpAny_Slice (hl.use h₁ fun vl s₂ h₂ k₂ x₂ => hh.use h₂ fun vu s₃ h₃ k₃ x₃ => evalPart_none_step ?_))
  have y₁ := x₁.ext (k₂.trans k₃).ext
  cases y₁ with
  | ilist ha hm hx =>
    rename_i a vs
    have e1 := hx.length
    simp only [Array.length_toList] at e1
    have hp1 := Kp.push s₃ { cls := .type "slice", data := .fields #[vl, vu, .none] }
    have hm' := hm.at fun o g => hp1.ext _ o g
    refine tail_any (ops := [.ref s₃.heap.objs.size, .ref a]) hm'.typeIs slot_list_getitem.lookup (wpAny_getItem_list_slice (lo := l) (hi := u) (st := none) hm' ⟨_, Heap.get?_push_size _ rfl, rfl, rfl⟩ (part_is x₂) (part_is x₃) .none (by simp) ?_ (by omega)) rfl
    have hk := (((k₁.trans k₂).trans k₃).trans hp1).trans (Kp.push _ { cls := .type "list", data := .seq (slicePick vs l u none) })
    refine ⟨hk, .list ?_ ⟨_, Heap.get?_push_size _ rfl⟩ ?_⟩
    · exact fresh_not (h := (s₃.heap.push _)) (h₃.keeps hp1).vs.live
    · exact (hp _ _ vs hx).ext (hp1.trans (Kp.push _ { cls := .type "list", data := .seq (slicePick vs l u none) })).ext

/-- `list(range(a, b, step))`, nobody else's -/
theorem items_ints {h : Heap} {ow : List Addr} {f : Nat → Int} {acc : Array Value} {n : Nat} (x : ItemsOf (fun i v => ∃ t, v = .int (f i) t) acc n) : DIs h ow acc.toList ((List.range n).map fun i => PV.int (f i)) := by
  obtain ⟨h1, h2⟩ := x
  subst h1
  have : ∀ (l : List Value) (g : Nat → Int), (∀ (j : Nat) v, l[j]? = some v → ∃ t, v = .int (g j) t) → DIs h ow l ((List.range l.length).map fun i => PV.int (g i)) := by
    intro l
    induction l with
    | nil => intro g _; exact .nil
    | cons v l ih =>
      intro g hg
      rw [List.length_cons, List.range_succ_eq_map, List.map_cons, List.map_map]
      obtain ⟨t, rfl⟩ := hg 0 v rfl
      exact .cons (.int _ _) (ih (fun i => g (i + 1)) fun j v hj => hg (j + 1) v (by simpa using hj))
  have k := this acc.toList f fun j v hj => h2 j v (by simpa using hj)
  simpa using k
theorem evnew_range3 {x y : Str} {p p2 pos pos2 : Pos} {e1 e2 e3 : Expr} {a b st : Int} {n : Nat} (hk : c.env.kindOf x = some .globalImplicit) (hv : c.g.mg x = none ∧ c.g.mb x = some (.type "list")) (hk2 : c.env.kindOf y = some .globalImplicit) (hv2 : c.g.mg y = none ∧ c.g.mb y = some (.type "range"))
    (h : Evs c [e1, e2, e3] [.int a, .int b, .int st]) (hst : st ≠ 0) (hsm : st.natAbs < 1073741824) (hsmall : Builtin.Range.small a b st = true) (hn : Builtin.Range.rangeSize a b st = n) (hlen : n ≤ 2 ^ 24)
    (hp : [e1, e2, e3].all plainE = true := by rfl) (hb : (x == ("__debug__" : Str)) = false := by decide +kernel) (hb2 : (y == ("__debug__" : Str)) = false := by decide +kernel) :
    EvNew c (.Call (.Name x p) [.Call (.Name y p2) [e1, e2, e3] [] pos2] [] pos) true ((List.range n).map fun (i : Nat) => PV.int (a + i * st)) := fun s hs => by
  refine wpAny_Call_Name_kw (ev_builtin hs hk hv hb (PySem.callWith_type (by rfl) (evalArgs_plain (Calls.spliced_cons ?_))))
  refine wpAny_Call_Name_kw (ev_builtin hs hk2 hv2 hb2 (PySem.callWith_type (backTo_plain hp).1 (evalArgs_of h hp hs fun vs s' h' k' x' => ?_)))
  cases x' with
  | cons y1 z1 =>
    cases z1 with
    | cons y2 z2 =>
      cases z2 with
      | cons y3 z3 =>
        cases z3; cases y1; cases y2; cases y3
        rename_i ta tb tc
        refine call_range_3 hst (Calls.spliced_nil ?_) (.inl (PyProof.noPylong_small hsm))
        have k2 := k'.trans (Kp.push s' { cls := .type "range", data := .fields #[.int a ta, .int b tb, .int st tc] })
        refine call_list_range hs.a.1 (IsRange.new ..) hsmall hn hlen fun h'' tk acc' c' e g hi => ⟨k2.trans (kp_of e), _, rfl, ?_, acc', ⟨_, g, rfl, _, rfl⟩, items_ints hi⟩
        cases q : s.heap.get? _ with
        | none => rfl
        | some o => exact absurd (Heap.lt_size (k2.ext _ _ q)) (Nat.lt_irrefl _)
end
end Mine

end
section
open PySem PySem.W PyProof.Rows PySem.Calls
set_option maxRecDepth 100000
namespace Mine

section
variable {sb : Shared} {F : Addr → Prop} {ro : List Addr} {c : Cx} {N : Shared → Prop} {R : PV → Prop} {rest : List Stmt}
/-- an `if` whose body always returns -/
theorem xs_ifr {t : Expr} {body : List Stmt} {pos : Pos} {b : Bool} (h : Tr c t b) (ht : b = true → XS sb F ro c body (fun _ => False) R) (hf : b = false → XS sb F ro c rest N R) : XS sb F ro c (.If t body [] pos :: rest) N R :=
  xs_if h (fun e s hs => wpAny_mono (ht e s hs) (fun f s' q => by cases f <;> first | exact q | exact q.elim) fun _ _ f => f.elim) fun e => xs_nil fun s hs => hf e s hs
/-- both arms come out alike -/
theorem xs_ifb {t : Expr} {body orelse : List Stmt} {pos : Pos} {b : Bool} {c' : Cx} (h : Tr c t b) (sm : Same c c') (ht : b = true → XS sb F ro c body (fun s => SS sb F c' s) R) (hf : b = false → XS sb F ro c orelse (fun s => SS sb F c' s) R)
    (k : XS sb F ro c' rest N R) : XS sb F ro c (.If t body orelse pos :: rest) N R := by
  have go : ∀ {bd : List Stmt}, XS sb F ro c bd (fun s => SS sb F c' s) R → XS sb F ro c bd (fun s => wpAny (model c.g.prog c.g.w) c.A (execs rest c.env) (FinP sb F ro N R) (fun _ _ => False) s) R := fun hx s hs =>
    wpAny_mono (hx s hs) (fun f s' q => by
      cases f with
      | next => exact xs_go sm k s' q
      | ret v => exact q
      | brk => exact q
      | cont => exact q) fun _ _ f => f.elim
  exact xs_if h (fun e => go (ht e)) fun e => go (hf e)
end

section
variable {c : Cx} {p pos : Pos} {e : Expr} {es : List Expr} {ds : List PV} {r : PV}
theorem e_len (G : GF c.g) (ha : Evs c (e :: es) ds) (ho : OpN c (.builtin "len") ds r) (hk : c.env.kindOf "len" = some .globalImplicit := by kernel_rfl!) (hp : (e :: es).all plainE = true := by rfl) : Ev c (.Call (.Name "len" p) (e :: es) [] pos) r := ev_callB hk (G.bi ("len", .builtin "len") (by simp)) ha ho hp
theorem e_max (G : GF c.g) (ha : Evs c (e :: es) ds) (ho : OpN c (.builtin "max") ds r) (hk : c.env.kindOf "max" = some .globalImplicit := by kernel_rfl!) (hp : (e :: es).all plainE = true := by rfl) : Ev c (.Call (.Name "max" p) (e :: es) [] pos) r := ev_callB hk (G.bi ("max", .builtin "max") (by simp)) ha ho hp
theorem e_min (G : GF c.g) (ha : Evs c (e :: es) ds) (ho : OpN c (.builtin "min") ds r) (hk : c.env.kindOf "min" = some .globalImplicit := by kernel_rfl!) (hp : (e :: es).all plainE = true := by rfl) : Ev c (.Call (.Name "min" p) (e :: es) [] pos) r := ev_callB hk (G.bi ("min", .builtin "min") (by simp)) ha ho hp
theorem e_round (G : GF c.g) (ha : Evs c (e :: es) ds) (ho : OpN c (.builtin "round") ds r) (hk : c.env.kindOf "round" = some .globalImplicit := by kernel_rfl!) (hp : (e :: es).all plainE = true := by rfl) : Ev c (.Call (.Name "round" p) (e :: es) [] pos) r := ev_callB hk (G.bi ("round", .builtin "round") (by simp)) ha ho hp
theorem e_sum (G : GF c.g) (ha : Evs c (e :: es) ds) (ho : OpN c (.builtin "sum") ds r) (hk : c.env.kindOf "sum" = some .globalImplicit := by kernel_rfl!) (hp : (e :: es).all plainE = true := by rfl) : Ev c (.Call (.Name "sum" p) (e :: es) [] pos) r := ev_callB hk (G.bi ("sum", .builtin "sum") (by simp)) ha ho hp
theorem e_sorted (G : GF c.g) (ha : Evs c (e :: es) ds) (ho : OpN c (.builtin "sorted") ds r) (hk : c.env.kindOf "sorted" = some .globalImplicit := by kernel_rfl!) (hp : (e :: es).all plainE = true := by rfl) : Ev c (.Call (.Name "sorted" p) (e :: es) [] pos) r := ev_callB hk (G.bi ("sorted", .builtin "sorted") (by simp)) ha ho hp
theorem e_int (G : GF c.g) (ha : Evs c (e :: es) ds) (ho : OpN c (.type "int") ds r) (hk : c.env.kindOf "int" = some .globalImplicit := by kernel_rfl!) (hp : (e :: es).all plainE = true := by rfl) : Ev c (.Call (.Name "int" p) (e :: es) [] pos) r := ev_callT hk (G.bi ("int", .type "int") (by simp)) ha ho hp
theorem e_list (G : GF c.g) (ha : Evs c (e :: es) ds) (ho : OpN c (.type "list") ds r) (hk : c.env.kindOf "list" = some .globalImplicit := by kernel_rfl!) (hp : (e :: es).all plainE = true := by rfl) : Ev c (.Call (.Name "list" p) (e :: es) [] pos) r := ev_callT hk (G.bi ("list", .type "list") (by simp)) ha ho hp
theorem i_range (G : GF c.g) {n : Nat} (h : Ev c e (.int (n : Int))) (hn : n < 2 ^ 62) (hk : c.env.kindOf "range" = some .globalImplicit := by kernel_rfl!) (hp : plainE e = true := by rfl) : It c (.Call (.Name "range" p) [e] [] pos) (rangeD 0 n) := it_range hk (G.bi ("range", .type "range") (by simp)) h hn hp
theorem e_move (G : GF c.g) (hk : c.env.kindOf "_MOVE_COST" = some .globalImplicit := by kernel_rfl!) : Ev c (.Name "_MOVE_COST" p) (.int 2) := ev_gconst hk (let ⟨t, h⟩ := G.move; ⟨_, h, fun h => .int _ _⟩)
theorem e_case (G : GF c.g) (hk : c.env.kindOf "_CASE_COST" = some .globalImplicit := by kernel_rfl!) : Ev c (.Name "_CASE_COST" p) (.int 1) := ev_gconst hk (let ⟨t, h⟩ := G.cas; ⟨_, h, fun h => .int _ _⟩)
theorem e_size (G : GF c.g) (hk : c.env.kindOf "_MAX_STRING_SIZE" = some .globalImplicit := by kernel_rfl!) : Ev c (.Name "_MAX_STRING_SIZE" p) (.int 40) := ev_gconst hk (let ⟨t, h⟩ := G.size; ⟨_, h, fun h => .int _ _⟩)
/-- a call of a def of the text -/
theorem e_def {x : Str} {lv : Nat} (G : GF c.g) (i : Nat) {d : DefRec} (hd : theRecs[i]? = some d) (hx : x = d.name) (ha : Evs c (e :: es) ds) (hf : FSpec c.g lv x ds r) (hk : c.env.kindOf x = some .globalImplicit := by kernel_rfl!) (hl : lv ≤ c.lv := by exact Nat.le_of_ble_eq_true rfl) (hp : (e :: es).all plainE = true := by rfl) (hb : (x == ("__debug__" : Str)) = false := by decide +kernel) :
    Ev c (.Call (.Name x p) (e :: es) [] pos) r := ev_callF (mem_recs G i d hd) hx hk ha hf hl hp hb
end

section
variable {g : Gl} (G : GF g)
include G
theorem sp_strxfrm (u : Str) : FSpec g 1 "_strxfrm" [.str u] (.str u) :=
  fspec_of (d := recAt 5) ["s"] [] (mem_recs G 3 _ rfl) (by kernel_rfl!) rfl (fun vs pm cd doc h => by
    match vs, h with
    | [_], _ => rfl) fun sb A env ow pm cd doc L a henv => xs_ret (ev_name 0 rfl rfl) rfl fun _ h => h

def subc (x y : Str) : Int := if x == y then 0 else if Txt.lower x == Txt.lower y then 1 else 2
theorem sp_subst (x y : Str) (hx : x.length ≤ 100) (hy : y.length ≤ 100) : FSpec g 1 "_substitution_cost" [.str x, .str y] (.int (subc x y)) :=
  fspec_of (d := recAt 10) ["ch_a", "ch_b"] [] (mem_recs G 4 _ rfl) (by kernel_rfl!) rfl (fun vs pm cd doc h => by
    match vs, h with
    | [_, _], _ => rfl) fun sb A env ow pm cd doc L a henv => by
      subst henv
      exact xs_ifr (tr_cmp (ev_name 0 rfl rfl) (ev_name 1 rfl rfl) c_eq_ss) (fun h => xs_ret ev_int (by unfold subc; rw [if_pos h]) fun _ h => h) fun h =>
        xs_ifr (tr_cmp (ev_lower (ev_name 0 rfl rfl) (by omega)) (ev_lower (ev_name 1 rfl rfl) (by omega)) c_eq_ss) (fun h2 => xs_ret (e_case G) (by unfold subc; rw [if_neg (by rw [h]; simp), if_pos h2]) fun _ h => h) fun h2 =>
        xs_ret (e_move G) (by unfold subc; rw [if_neg (by rw [h]; simp), if_neg (by rw [h2]; simp)]) fun _ h => h
end
end Mine

end
section
open PySem PySem.W PyProof.Rows PySem.Calls
set_option maxRecDepth 100000
namespace Mine

abbrev f0 : UInt64 := 0
abbrev fHalf : UInt64 := 4602678819172646912
abbrev fOne : UInt64 := 4607182418800017408
abbrev fTwo : UInt64 := 4611686018427387904
abbrev fFour : UInt64 := 4616189618054758400
abbrev fSix : UInt64 := 4618441417868443648
def feq (x y : UInt64) : Bool := Float64.cmp x y == some Ordering.eq
def fle (x y : UInt64) : Bool := Float64.cmp x y == some Ordering.lt || Float64.cmp x y == some Ordering.eq

section
variable {sb : Shared} {F : Addr → Prop} {ro : List Addr} {c : Cx} {N : Shared → Prop} {R : PV → Prop} {rest : List Stmt}
theorem xs_set (i : Nat) {x : Str} {p pos : Pos} {e : Expr} {d : PV} (hx : c.ns[i]? = some x) (hs : c.st[i]? = some x) (h : Ev c e d) (k : XS sb F ro (c.set i (.fz d)) rest N R)
    (hw : ∀ env line, swapsWith e (some (.Name x p)) line env = pure false := by intro _ _; rfl) : XS sb F ro c (.Assign [.Name x p] e pos :: rest) N R := xs_assign i hx (List.mem_of_getElem? hs) h k hw
theorem evs1 {e : Expr} {d : PV} (h : Ev c e d) (hp : plainE e = true := by rfl) : Evs c [e] [d] := evs_cons h evs_nil hp
theorem evs2 {e f : Expr} {d q : PV} (h : Ev c e d) (h2 : Ev c f q) (hp : plainE e = true := by rfl) (hp2 : plainE f = true := by rfl) : Evs c [e, f] [d, q] := evs_cons h (evs1 h2 hp2) hp
theorem evs3 {e f k : Expr} {d q r : PV} (h : Ev c e d) (h2 : Ev c f q) (h3 : Ev c k r) (hp : plainE e = true := by rfl) (hp2 : plainE f = true := by rfl) (hp3 : plainE k = true := by rfl) : Evs c [e, f, k] [d, q, r] := evs_cons h (evs2 h2 h3 hp2 hp3) hp
end

def hlsS (maxc minc : UInt64) : UInt64 := if fle (Float64.div (Float64.add maxc minc) fTwo) fHalf then Float64.div (Float64.sub maxc minc) (Float64.add maxc minc) else Float64.div (Float64.sub maxc minc) (Float64.sub (Float64.sub fTwo maxc) minc)
def hlsH (r g b maxc rangec : UInt64) : UInt64 :=
  if feq r maxc then Float64.sub (Float64.div (Float64.sub maxc b) rangec) (Float64.div (Float64.sub maxc g) rangec)
  else if feq g maxc then Float64.sub (Float64.add fTwo (Float64.div (Float64.sub maxc r) rangec)) (Float64.div (Float64.sub maxc b) rangec)
  else Float64.sub (Float64.add fFour (Float64.div (Float64.sub maxc g) rangec)) (Float64.div (Float64.sub maxc r) rangec)
def hls (r g b : UInt64) : UInt64 × UInt64 × UInt64 :=
  if feq (fmin3 r g b) (fmax3 r g b) then (f0, Float64.div (Float64.add (fmax3 r g b) (fmin3 r g b)) fTwo, f0)
  else ((Float64.divmod (Float64.div (hlsH r g b (fmax3 r g b) (Float64.sub (fmax3 r g b) (fmin3 r g b))) fSix) fOne).snd, Float64.div (Float64.add (fmax3 r g b) (fmin3 r g b)) fTwo, hlsS (fmax3 r g b) (fmin3 r g b))
def hlsOk (r g b : UInt64) : Bool :=
  feq (fmin3 r g b) (fmax3 r g b) || (!Float64.isZero (Float64.sub (fmax3 r g b) (fmin3 r g b)) && (if fle (Float64.div (Float64.add (fmax3 r g b) (fmin3 r g b)) fTwo) fHalf then !Float64.isZero (Float64.add (fmax3 r g b) (fmin3 r g b)) else !Float64.isZero (Float64.sub (Float64.sub fTwo (fmax3 r g b)) (fmin3 r g b))))

section
variable {g : Gl} (G : GF g)
include G
set_option maxHeartbeats 4000000 in
theorem sp_hls (r gr b : UInt64) (ok : hlsOk r gr b = true) : FSpec g 1 "rgb_to_hls" [.float r, .float gr, .float b] (.tuple [.float (hls r gr b).1, .float (hls r gr b).2.1, .float (hls r gr b).2.2]) :=
  fspec_of (d := recAt 1) ["r", "g", "b"] ["maxc", "minc", "sumc", "rangec", "l", "s", "rc", "gc", "bc", "h"] (mem_recs G 0 _ rfl) (by kernel_rfl!) rfl (fun vs pm cd doc h => by
    match vs, h with
    | [_, _, _], _ => rfl) fun sb A env ow pm cd doc L a henv => by
      subst henv
      refine xs_set 3 rfl rfl (e_max G (evs3 (ev_name 0 rfl rfl) (ev_name 1 rfl rfl) (ev_name 2 rfl rfl)) f_max_fff) ?_
      refine xs_set 4 rfl rfl (e_min G (evs3 (ev_name 0 rfl rfl) (ev_name 1 rfl rfl) (ev_name 2 rfl rfl)) f_min_fff) ?_
      refine xs_set 5 rfl rfl (ev_bin (ev_name 3 rfl rfl) (ev_name 4 rfl rfl) b_add_ff) ?_
      refine xs_set 6 rfl rfl (ev_bin (ev_name 3 rfl rfl) (ev_name 4 rfl rfl) b_sub_ff) ?_
      refine xs_set 7 rfl rfl (ev_bin (ev_name 5 rfl rfl) ev_float (b_div_ff (by decide +kernel))) ?_
      refine xs_ifr (b := feq (fmin3 r gr b) (fmax3 r gr b)) (tr_cmp (ev_name 4 rfl rfl) (ev_name 3 rfl rfl) c_eq_ff) (fun h => xs_ret (ev_tuple (evs3 ev_float (ev_name 7 rfl rfl) ev_float)) (by unfold hls; rw [if_pos h]) fun _ h => h) fun h => ?_
      have ok' := ok
      unfold hlsOk at ok'
      rw [h, Bool.false_or, Bool.and_eq_true] at ok'
      obtain ⟨z1, z2⟩ := ok'
      have z1 : ¬ Float64.isZero (Float64.sub (fmax3 r gr b) (fmin3 r gr b)) = true := by simpa using z1
      refine xs_ifb (b := fle (Float64.div (Float64.add (fmax3 r gr b) (fmin3 r gr b)) fTwo) fHalf) (c' := Cx.set _ 8 (.fz (.float (hlsS (fmax3 r gr b) (fmin3 r gr b))))) (tr_cmp (ev_name 7 rfl rfl) ev_float c_le_ff) (Same.set ..) (fun q => ?_) (fun q => ?_) ?_
      · rw [if_pos q] at z2
        exact xs_set 8 rfl rfl (ev_eq (ev_bin (ev_name 6 rfl rfl) (ev_name 5 rfl rfl) (b_div_ff (by simpa using z2))) (by unfold hlsS; rw [if_pos q])) (xs_nil fun _ h => h)
      · rw [if_neg (by rw [q]; simp)] at z2
        exact xs_set 8 rfl rfl (ev_eq (ev_bin (ev_name 6 rfl rfl) (ev_bin (ev_bin ev_float (ev_name 3 rfl rfl) b_sub_ff) (ev_name 4 rfl rfl) b_sub_ff) (b_div_ff (by simpa using z2))) (by unfold hlsS; rw [if_neg (by rw [q]; simp)])) (xs_nil fun _ h => h)
      refine xs_set 9 rfl rfl (ev_bin (ev_bin (ev_name 3 rfl rfl) (ev_name 0 rfl rfl) b_sub_ff) (ev_name 6 rfl rfl) (b_div_ff z1)) ?_
      refine xs_set 10 rfl rfl (ev_bin (ev_bin (ev_name 3 rfl rfl) (ev_name 1 rfl rfl) b_sub_ff) (ev_name 6 rfl rfl) (b_div_ff z1)) ?_
      refine xs_set 11 rfl rfl (ev_bin (ev_bin (ev_name 3 rfl rfl) (ev_name 2 rfl rfl) b_sub_ff) (ev_name 6 rfl rfl) (b_div_ff z1)) ?_
      refine xs_ifb (b := feq r (fmax3 r gr b)) (c' := Cx.set _ 12 (.fz (.float (hlsH r gr b (fmax3 r gr b) (Float64.sub (fmax3 r gr b) (fmin3 r gr b)))))) (tr_cmp (ev_name 0 rfl rfl) (ev_name 3 rfl rfl) c_eq_ff) (Same.set ..) (fun q => ?_) (fun q => ?_) ?_
      · exact xs_set 12 rfl rfl (ev_eq (ev_bin (ev_name 11 rfl rfl) (ev_name 10 rfl rfl) b_sub_ff) (by unfold hlsH; rw [if_pos q])) (xs_nil fun _ h => h)
      · refine xs_ifb (b := feq gr (fmax3 r gr b)) (c' := Cx.set _ 12 (.fz (.float (hlsH r gr b (fmax3 r gr b) (Float64.sub (fmax3 r gr b) (fmin3 r gr b)))))) (tr_cmp (ev_name 1 rfl rfl) (ev_name 3 rfl rfl) c_eq_ff) (Same.set ..) (fun q2 => ?_) (fun q2 => ?_) (xs_nil fun _ h => h)
        · exact xs_set 12 rfl rfl (ev_eq (ev_bin (ev_bin ev_float (ev_name 9 rfl rfl) b_add_ff) (ev_name 11 rfl rfl) b_sub_ff) (by unfold hlsH; rw [if_neg (by rw [q]; simp), if_pos q2])) (xs_nil fun _ h => h)
        · exact xs_set 12 rfl rfl (ev_eq (ev_bin (ev_bin ev_float (ev_name 10 rfl rfl) b_add_ff) (ev_name 9 rfl rfl) b_sub_ff) (by unfold hlsH; rw [if_neg (by rw [q]; simp), if_neg (by rw [q2]; simp)])) (xs_nil fun _ h => h)
      refine xs_set 12 rfl rfl (ev_bin (ev_bin (ev_name 12 rfl rfl) ev_float (b_div_ff (by decide +kernel))) ev_float (b_mod_ff (by decide +kernel))) ?_
      exact xs_ret (ev_tuple (evs3 (ev_name 12 rfl rfl) (ev_name 7 rfl rfl) (ev_name 8 rfl rfl))) (by unfold hls; rw [if_neg (by rw [h]; simp)]) fun _ h => h
end
end Mine

end
section
open PySem PySem.W PyProof.Rows PySem.Calls
set_option maxRecDepth 100000
namespace Mine

section
variable {α : Type} {c : Cx} {scope : Scope} {elt iter : Expr} {ifs : List Expr} {pos : Pos}
/-- one clause, a name as target -/
theorem evc_n [Inhabited α] {x : Str} {p0 : Pos} (own : List Str) (caps : List (Str × Nat)) (xs : List α) (enc : α → PV) (p : α → Bool) (f : α → PV)
    (ok : compOk c.env c.ns scope own caps = true) (h0 : own[0]? = some x) (hi : It c iter (xs.map enc))
    (ht : ∀ C D y, y ∈ xs → TrIf ((compCx c scope C D own caps).set 0 (.fz (enc y))) ifs (p y)) (he : ∀ C D y, y ∈ xs → p y = true → Ev ((compCx c scope C D own caps).set 0 (.fz (enc y))) elt (f y))
    (hz : (xs.flatMap fun x => if p x then [f x] else []).length ≤ sizeLine)
    (hfs : ∀ env x, foldedSetIterable iter env x = pure x := by intro _ _; rfl) : EvC c elt [⟨.Name x p0, iter, ifs, 0⟩] scope pos (xs.flatMap fun x => if p x then [f x] else []) :=
  evc_1 own caps xs enc p f (fun C D y => (compCx c scope C D own caps).set 0 (.fz (enc y))) ok hi (fun C D y => Same.set ..)
    (fun C D y hy => by
      have hl : 0 < own.length := by cases own with | nil => simp at h0 | cons _ _ => simp
      refine ta_name 0 ?_ (List.mem_of_getElem? h0)
      show (own ++ caps.map (·.1))[0]? = some x
      rw [List.getElem?_append_left hl]; exact h0)
    (fun C D y s hc => CX.unset (by
      have hl : 0 < own.length := by cases own with | nil => simp at h0 | cons _ _ => simp
      show (own.map (fun _ => Bnd.un) ++ _)[0]? = some .un
      rw [List.getElem?_append_left (by simpa using hl), List.getElem?_map, h0]; rfl) hc) ht he hz hfs
theorem flat_all (xs : List α) (f : α → PV) : (xs.flatMap fun x => if true = true then [f x] else []) = xs.map f := by
  induction xs with
  | nil => rfl
  | cons x xs ih => rw [List.flatMap_cons, ih]; rfl
/-- without a test -/
theorem evc_m [Inhabited α] {x : Str} {p0 : Pos} (own : List Str) (caps : List (Str × Nat)) (xs : List α) (enc : α → PV) (f : α → PV)
    (ok : compOk c.env c.ns scope own caps = true) (h0 : own[0]? = some x) (hi : It c iter (xs.map enc))
    (he : ∀ C D y, y ∈ xs → Ev ((compCx c scope C D own caps).set 0 (.fz (enc y))) elt (f y))
    (hz : xs.length ≤ sizeLine)
    (hfs : ∀ env x, foldedSetIterable iter env x = pure x := by intro _ _; rfl) : EvC c elt [⟨.Name x p0, iter, [], 0⟩] scope pos (xs.map f) := by
  rw [← flat_all xs f]
  exact evc_n own caps xs enc (fun _ => true) f ok h0 hi (fun C D y hy => .nil) (fun C D y hy _ => he C D y hy) (by rw [flat_all, List.length_map]; exact hz) hfs
/-- one clause, a pair as target -/
theorem evc_p [Inhabited α] {x y : Str} {p0 p1 p2 : Pos} {k : Nat} (own : List Str) (caps : List (Str × Nat)) (xs : List α) (e0 e1 : α → PV) (p : α → Bool) (f : α → PV)
    (ok : compOk c.env c.ns scope own caps = true) (h0 : own[0]? = some x) (h1 : own[1]? = some y) (hi : It c iter (xs.map fun z => .tuple [e0 z, e1 z]))
    (ht : ∀ C D z, z ∈ xs → TrIf (((compCx c scope C D own caps).set 0 (.fz (e0 z))).set 1 (.fz (e1 z))) ifs (p z)) (he : ∀ C D z, z ∈ xs → p z = true → Ev (((compCx c scope C D own caps).set 0 (.fz (e0 z))).set 1 (.fz (e1 z))) elt (f z))
    (hz : (xs.flatMap fun x => if p x then [f x] else []).length ≤ sizeLine)
    (hfs : ∀ env x, foldedSetIterable iter env x = pure x := by intro _ _; rfl) : EvC c elt [⟨.Tuple [.Name x p0, .Name y p1] k p2, iter, ifs, 0⟩] scope pos (xs.flatMap fun x => if p x then [f x] else []) :=
  have hl : 1 < own.length := (List.getElem?_eq_some_iff.mp h1).1
  evc_1 own caps xs (fun z => .tuple [e0 z, e1 z]) p f (fun C D z => ((compCx c scope C D own caps).set 0 (.fz (e0 z))).set 1 (.fz (e1 z))) ok hi (fun C D y => (Same.set ..).trans (Same.set ..))
    (fun C D z hz' => ta_tuple (tas_cons (ta_name 0 (by
        show (own ++ caps.map (·.1))[0]? = some x
        rw [List.getElem?_append_left (by omega)]; exact h0) (List.mem_of_getElem? h0)) (tas_cons (ta_name 1 (by
        show (own ++ caps.map (·.1))[1]? = some y
        rw [List.getElem?_append_left hl]; exact h1) (List.mem_of_getElem? h1)) tas_nil (Same.set ..)) (Same.set ..)) rfl)
    (fun C D z s hc => CX.unset (i := 0) (by
      show (own.map (fun _ => Bnd.un) ++ _)[0]? = some .un
      rw [List.getElem?_append_left (by simp; omega), List.getElem?_map, h0]; rfl) (CX.unset (i := 1) (by
      show ((own.map (fun _ => Bnd.un) ++ _).set 0 _)[1]? = some .un
      rw [List.getElem?_set_ne (by omega), List.getElem?_append_left (by simpa using hl), List.getElem?_map, h1]; rfl) hc)) ht he hz hfs
end

theorem range_at {f : Nat → PV} {n k : Nat} {d : PV} (h : ((List.range n).map f)[k]? = some d) : k < n ∧ d = f k := by
  rw [List.getElem?_map] at h
  by_cases hk : k < n
  · rw [List.getElem?_range hk] at h
    cases h; exact ⟨hk, rfl⟩
  · rw [List.getElem?_eq_none (by simp; omega)] at h; cases h

/-! hsv_to_rgb -/
def hsvF (h : UInt64) (k0 : Int) : UInt64 := Float64.sub (Float64.mul h fSix) (Float64.ofInt k0)
def hsvP (s v : UInt64) : UInt64 := Float64.mul v (Float64.sub fOne s)
def hsvQ (h s v : UInt64) (k0 : Int) : UInt64 := Float64.mul v (Float64.sub fOne (Float64.mul s (hsvF h k0)))
def hsvT (h s v : UInt64) (k0 : Int) : UInt64 := Float64.mul v (Float64.sub fOne (Float64.mul s (Float64.sub fOne (hsvF h k0))))
def hsv (h s v : UInt64) (k0 : Int) : UInt64 × UInt64 × UInt64 :=
  if k0.fmod 6 == 0 then (v, hsvT h s v k0, hsvP s v)
  else if k0.fmod 6 == 1 then (hsvQ h s v k0, v, hsvP s v)
  else if k0.fmod 6 == 2 then (hsvP s v, v, hsvT h s v k0)
  else if k0.fmod 6 == 3 then (hsvP s v, hsvQ h s v k0, v)
  else if k0.fmod 6 == 4 then (hsvT h s v k0, hsvP s v, v)
  else (v, hsvP s v, hsvQ h s v k0)
def tri (t : UInt64 × UInt64 × UInt64) : PV := .tuple [.float t.1, .float t.2.1, .float t.2.2]

section
variable {g : Gl} (G : GF g)
include G
set_option maxHeartbeats 4000000 in
theorem sp_hsv (h s v : UInt64) (k0 : Int) (hs : feq s f0 = false) (hk : fint (Float64.mul h fSix) = some k0) (hb : k0.natAbs < 1000) : FSpec g 1 "hsv_to_rgb" [.float h, .float s, .float v] (tri (hsv h s v k0)) :=
  fspec_of (d := recAt 2) ["h", "s", "v"] ["i", "f", "p", "q", "t"] (mem_recs G 1 _ rfl) (by kernel_rfl!) rfl (fun vs pm cd doc h => by
    match vs, h with
    | [_, _, _], _ => rfl) fun sb A env ow pm cd doc L a henv => by
      subst henv
      have hb' : k0.natAbs < 2 ^ 1023 := Nat.lt_of_lt_of_le hb (by decide +kernel)
      refine xs_ifr (b := feq s f0) (tr_cmp (ev_name 1 rfl rfl) ev_float c_eq_ff) (fun q => by rw [hs] at q; cases q) fun _ => ?_
      refine xs_set 3 rfl rfl (e_int G (evs1 (ev_bin (ev_name 0 rfl rfl) ev_float b_mul_ff)) (f_int_f hk)) ?_
      refine xs_set 4 rfl rfl (ev_bin (ev_bin (ev_name 0 rfl rfl) ev_float b_mul_ff) (ev_name 3 rfl rfl) (b_sub_fi hb')) ?_
      refine xs_set 5 rfl rfl (ev_bin (ev_name 2 rfl rfl) (ev_bin ev_float (ev_name 1 rfl rfl) b_sub_ff) b_mul_ff) ?_
      refine xs_set 6 rfl rfl (ev_bin (ev_name 2 rfl rfl) (ev_bin ev_float (ev_bin (ev_name 1 rfl rfl) (ev_name 4 rfl rfl) b_mul_ff) b_sub_ff) b_mul_ff) ?_
      refine xs_set 7 rfl rfl (ev_bin (ev_name 2 rfl rfl) (ev_bin ev_float (ev_bin (ev_name 1 rfl rfl) (ev_bin ev_float (ev_name 4 rfl rfl) b_sub_ff) b_mul_ff) b_sub_ff) b_mul_ff) ?_
      refine xs_set 3 rfl rfl (ev_bin (ev_name 3 rfl rfl) ev_int (b_mod_ii (by decide))) ?_
      refine xs_ifr (tr_cmp (ev_name 3 rfl rfl) ev_int c_eq_ii) (fun q => xs_ret (ev_tuple (evs3 (ev_name 2 rfl rfl) (ev_name 7 rfl rfl) (ev_name 5 rfl rfl))) (by unfold hsv; rw [if_pos q]; rfl) fun _ h => h) fun q0 => ?_
      refine xs_ifr (tr_cmp (ev_name 3 rfl rfl) ev_int c_eq_ii) (fun q => xs_ret (ev_tuple (evs3 (ev_name 6 rfl rfl) (ev_name 2 rfl rfl) (ev_name 5 rfl rfl))) (by unfold hsv; rw [if_neg (by rw [q0]; simp), if_pos q]; rfl) fun _ h => h) fun q1 => ?_
      refine xs_ifr (tr_cmp (ev_name 3 rfl rfl) ev_int c_eq_ii) (fun q => xs_ret (ev_tuple (evs3 (ev_name 5 rfl rfl) (ev_name 2 rfl rfl) (ev_name 7 rfl rfl))) (by unfold hsv; rw [if_neg (by rw [q0]; simp), if_neg (by rw [q1]; simp), if_pos q]; rfl) fun _ h => h) fun q2 => ?_
      refine xs_ifr (tr_cmp (ev_name 3 rfl rfl) ev_int c_eq_ii) (fun q => xs_ret (ev_tuple (evs3 (ev_name 5 rfl rfl) (ev_name 6 rfl rfl) (ev_name 2 rfl rfl))) (by unfold hsv; rw [if_neg (by rw [q0]; simp), if_neg (by rw [q1]; simp), if_neg (by rw [q2]; simp), if_pos q]; rfl) fun _ h => h) fun q3 => ?_
      refine xs_ifr (tr_cmp (ev_name 3 rfl rfl) ev_int c_eq_ii) (fun q => xs_ret (ev_tuple (evs3 (ev_name 7 rfl rfl) (ev_name 5 rfl rfl) (ev_name 2 rfl rfl))) (by unfold hsv; rw [if_neg (by rw [q0]; simp), if_neg (by rw [q1]; simp), if_neg (by rw [q2]; simp), if_neg (by rw [q3]; simp), if_pos q]; rfl) fun _ h => h) fun q4 => ?_
      refine xs_ifr (tr_cmp (ev_name 3 rfl rfl) ev_int c_eq_ii) (fun q => xs_ret (ev_tuple (evs3 (ev_name 2 rfl rfl) (ev_name 5 rfl rfl) (ev_name 6 rfl rfl))) (by unfold hsv; rw [if_neg (by rw [q0]; simp), if_neg (by rw [q1]; simp), if_neg (by rw [q2]; simp), if_neg (by rw [q3]; simp), if_neg (by rw [q4]; simp)]; rfl) fun _ h => h) fun q5 => ?_
      exfalso
      have l0 := Int.fmod_nonneg_of_pos k0 (show (0 : Int) < 6 by decide)
      have l1 := Int.fmod_lt_of_pos k0 (show (0 : Int) < 6 by decide)
      simp only [beq_eq_false_iff_ne, ne_eq] at q0 q1 q2 q3 q4 q5
      omega
end
end Mine

end
section
open PySem PySem.W PyProof.Rows PySem.Calls
set_option maxRecDepth 100000
namespace Mine

section
variable {sb : Shared} {F : Addr → Prop} {ro : List Addr} {c : Cx} {N : Shared → Prop} {R : PV → Prop} {rest : List Stmt}
theorem xs_setc (i : Nat) {x : Str} {p pos : Pos} {e : Expr} {d : PV} (hx : c.ns[i]? = some x) (hs : c.st[i]? = some x) (h : Ev c e d) (hw : swapsWith e (some (.Name x p)) pos.line c.env = pure false) (k : XS sb F ro (c.set i (.fz d)) rest N R) :
    XS sb F ro c (.Assign [.Name x p] e pos :: rest) N R := fun s hs' =>
  wpAny_execs_cons (wpAny_Assign_Name (h.use hs'.cx fun v s₁ h₁ k₁ x₁ => wpAny_mono (h₁.store hx (List.mem_of_getElem? hs) x₁) (fun _ s₂ q => k s₂ ((hs'.keeps k₁).step q.1 (q.2.mono fun b hb => ⟨x, List.mem_of_getElem? hs, hb⟩) fun b hb => .inl (mut_set hb))) fun _ _ f => f.elim) hw)
theorem xs_comp (i : Nat) {x : Str} {p pos pos' : Pos} {elt : Expr} {gens : List Comprehension} {scope : Scope} {out : List PV}
    (hx : c.ns[i]? = some x) (hst : c.st[i]? = some x) (h : EvC c elt gens scope pos out) (hw : swapsWith (.ListComp elt gens scope pos) (some (.Name x p)) pos'.line c.env = pure true)
    (k : XS sb F ro (c.set i (.fz (.list out))) rest N R) (ha : firstAsync gens = false := by rfl) : XS sb F ro c (.Assign [.Name x p] (.ListComp elt gens scope pos) pos' :: rest) N R := xs_assign_comp i hx (List.mem_of_getElem? hst) h hw k ha
/-- the end of a turn -/
theorem xs_done {c' : Cx} {σ' : List Bnd} {ow' : List Addr} (e : c' = c.weak σ' ow') (h : WL ow' c.σ σ') (hs : ∀ a ∈ ow', a ∈ c.ow) {J : Prop} (hJ : J) : XS sb F ro c [] (fun s => J ∧ SS sb F c' s) R := xs_nil fun s S => ⟨hJ, e ▸ SS.weak h hs s S⟩
end
theorem mut_weak {c : Cx} {σ σ' : List Bnd} {ow ow' : List Addr} {b : Addr} (hσ : ∀ (i : Nat) a o, σ'[i]? = some (.ow a o) → ∃ (j : Nat) (o' : OV), σ[j]? = some (.ow a o')) (h : Mut (c.weak σ' ow') b) : Mut (c.weak σ ow) b := by
  rcases h with h | ⟨i, o, e⟩
  · exact .inl h
  · obtain ⟨j, o', e'⟩ := hσ i b o e
    exact .inr ⟨j, o', e'⟩
theorem mut_set' {c : Cx} {i : Nat} {d : PV} {b : Addr} (h : Mut (c.set i (.fz d)) b) : Mut c b := mut_set h

def paintH (corner : Int) (i : Nat) : UInt64 := Float64.div (Float64.ofInt ((corner + 2 * (0 + (i : Int))).fmod 6)) fSix
def paintK (corner : Int) (i : Nat) : Int := (fint (Float64.mul (paintH corner i) fSix)).getD 0
def paint (corner : Int) (i : Nat) : UInt64 × UInt64 × UInt64 := hsv (paintH corner i) fOne fOne (paintK corner i)
def part (t : UInt64 × UInt64 × UInt64) (i : Nat) : UInt64 := f3 t.1 t.2.1 t.2.2 i
def mixv (corner : Int) (i j k : Nat) : UInt64 := Float64.div (Float64.add (part (paint corner i) k) (part (paint corner j) k)) fTwo
def hlsOf (corner : Int) (i j : Nat) : UInt64 × UInt64 × UInt64 := hls (mixv corner i j 0) (mixv corner i j 1) (mixv corner i j 2)
def signOf (corner : Int) (i j : Nat) : Bool × Bool := (Float64.cmp (hlsOf corner i j).2.1 fHalf != some Ordering.eq, ((fround (Float64.mul (Float64.ofInt 6) (hlsOf corner i j).1)).getD 0).fmod 2 != corner.fmod 2)
def signD (s : Bool × Bool) : PV := .tuple [.bool s.1, .bool s.2]
def unlikeOk (corner : Int) : Bool :=
  (List.range 3).all (fun i => !Float64.isInf (Float64.ofInt ((corner + 2 * (0 + (i : Int))).fmod 6)) && (fint (Float64.mul (paintH corner i) fSix)).isSome && decide ((paintK corner i).natAbs < 1000))
    && (List.range 3).all (fun i => (List.range 3).all fun j => hlsOk (mixv corner i j 0) (mixv corner i j 1) (mixv corner i j 2) && (fround (Float64.mul (Float64.ofInt 6) (hlsOf corner i j).1)).isSome)
def lineD (corner : Int) (i n : Nat) : List PV := (List.range n).map fun j => signD (signOf corner i j)
def tableD (corner : Int) (n : Nat) : List PV := (List.range n).map fun i => PV.list (lineD corner i 3)

theorem tri_at (t : UInt64 × UInt64 × UInt64) (k : Nat) (hk : k < 3) : [PV.float t.1, .float t.2.1, .float t.2.2][((0 : Int) + (k : Int)).toNat]? = some (.float (part t k)) := by
  match k, hk with
  | 0, _ => rfl
  | 1, _ => rfl
  | 2, _ => rfl

section
variable {g : Gl} (G : GF g)
include G
set_option maxHeartbeats 4000000 in
theorem sp_unlike (corner : Int) (ok : unlikeOk corner = true) : FSpec g 2 "_law_unlike" [.int corner] (.list (tableD corner 3)) := by
  simp only [unlikeOk, Bool.and_eq_true, List.all_eq_true, List.mem_range, decide_eq_true_eq] at ok
  obtain ⟨ok1, ok2⟩ := ok
  refine fspec_of (d := recAt 13) ["corner"] ["paints", "table", "first", "line", "second", "mix", "hue", "light", "share"] (mem_recs G 6 _ rfl) (by kernel_rfl!) rfl (fun vs pm cd doc h => by
    match vs, h with
    | [_], _ => rfl) fun sb A env ow pm cd doc L a henv => ?_
  subst henv
  refine xs_comp 1 rfl rfl (evc_m ["turn"] [("corner", 0)] (List.range 3) (fun i => .int (0 + (i : Int))) (fun i => tri (paint corner i)) (by kernel_rfl!) rfl (i_range G (n := 3) ev_int (by decide)) (fun C D i hi => ?_) (by (show _ ≤ 16777216); exact Nat.le_of_ble_eq_true rfl)) (by rfl) ?_
  · have hi' := List.mem_range.mp hi
    obtain ⟨⟨z1, z2⟩, z3⟩ := ok1 i hi'
    refine e_def G 1 rfl rfl (evs3 (ev_bin (ev_bin (ev_bin (ev_name 1 rfl rfl) (ev_bin ev_int (ev_name 0 rfl rfl) (b_mul_ii (.of_left (by decide)))) b_add_ii) ev_int (b_mod_ii (by decide))) ev_float (b_div_if (by simpa using z1) (by decide +kernel))) ev_float ev_float) (sp_hsv G _ _ _ _ (by decide +kernel) ?_ z3)
    unfold paintK
    cases hq : fint (Float64.mul (paintH corner i) fSix) with
    | none => rw [hq] at z2; cases z2
    | some q => exact hq
  refine xs_new 2 rfl (List.mem_of_getElem? (i := 2) rfl) evnew_nil fun aT haT => ?_
  refine xs_for (fun k => (fnCx g A 1 (fnEnv (recAt 13) pm cd doc L a) ["corner"] ["paints", "table", "first", "line", "second", "mix", "hue", "light", "share"] [.int corner] ow).weak [.fz (.int corner), .fz (.list ((List.range 3).map fun i => tri (paint corner i))), .ow aT (.lst (tableD corner k)), .un, .un, .un, .un, .un, .un, .un] (aT :: ow))
    (fun k => (fnCx g A 1 (fnEnv (recAt 13) pm cd doc L a) ["corner"] ["paints", "table", "first", "line", "second", "mix", "hue", "light", "share"] [.int corner] ow).weak [.fz (.int corner), .fz (.list ((List.range 3).map fun i => tri (paint corner i))), .ow aT (.lst (tableD corner k)), .fz (tri (paint corner k)), .un, .un, .un, .un, .un, .un] (aT :: ow))
    (fun _ => True) (it_list (ev_name 1 rfl rfl)) rfl trivial (fun k => ⟨rfl, rfl, rfl, rfl, rfl, rfl, rfl⟩) (fun k => ⟨rfl, rfl, rfl, rfl, rfl, rfl, rfl⟩) (fun k b hb => mut_set (i := 3) (d := tri (paint corner k)) hb) (fun k d hd _ => ?_) (fun k d st hd _ => ?_) fun _ => ?_
  · obtain ⟨hk, rfl⟩ := range_at hd
    exact ta_name 3 rfl (List.mem_of_getElem? (i := 3) rfl)
  · obtain ⟨hk, rfl⟩ := range_at hd
    refine xs_new 4 rfl (List.mem_of_getElem? (i := 4) rfl) evnew_nil fun aL haL => ?_
    refine xs_for (fun j => (fnCx g A 1 (fnEnv (recAt 13) pm cd doc L a) ["corner"] ["paints", "table", "first", "line", "second", "mix", "hue", "light", "share"] [.int corner] ow).weak [.fz (.int corner), .fz (.list ((List.range 3).map fun i => tri (paint corner i))), .ow aT (.lst (tableD corner k)), .fz (tri (paint corner k)), .ow aL (.lst (lineD corner k j)), .un, .un, .un, .un, .un] (aL :: aT :: ow))
      (fun j => (fnCx g A 1 (fnEnv (recAt 13) pm cd doc L a) ["corner"] ["paints", "table", "first", "line", "second", "mix", "hue", "light", "share"] [.int corner] ow).weak [.fz (.int corner), .fz (.list ((List.range 3).map fun i => tri (paint corner i))), .ow aT (.lst (tableD corner k)), .fz (tri (paint corner k)), .ow aL (.lst (lineD corner k j)), .fz (tri (paint corner j)), .un, .un, .un, .un] (aL :: aT :: ow))
      (fun _ => True) (it_list (ev_name 1 rfl rfl)) rfl trivial (fun k => ⟨rfl, rfl, rfl, rfl, rfl, rfl, rfl⟩) (fun k => ⟨rfl, rfl, rfl, rfl, rfl, rfl, rfl⟩) (fun j b hb => mut_set (i := 5) (d := tri (paint corner j)) hb) (fun j d hd _ => ?_) (fun j d st' hd _ => ?_) fun _ => ?_
    · obtain ⟨hj, rfl⟩ := range_at hd
      exact ta_name 5 rfl (List.mem_of_getElem? (i := 5) rfl)
    · obtain ⟨hj, rfl⟩ := range_at hd
      obtain ⟨z1, z2⟩ := ok2 k hk j hj
      refine xs_comp 6 rfl rfl (evc_m ["part"] [("first", 3), ("second", 5)] (List.range 3) (fun i => .int (0 + (i : Int))) (fun i => .float (mixv corner k j i)) (by kernel_rfl!) rfl (i_range G (n := 3) ev_int (by decide)) (fun C D i hi => ?_) (by (show _ ≤ 16777216); exact Nat.le_of_ble_eq_true rfl)) (by rfl) ?_
      · have hi' := List.mem_range.mp hi
        exact ev_bin (ev_bin (ev_sub (ev_name 1 rfl rfl) (ev_name 0 rfl rfl) (s_tuple (by omega) (by omega) (tri_at _ i hi'))) (ev_sub (ev_name 2 rfl rfl) (ev_name 0 rfl rfl) (s_tuple (by omega) (by omega) (tri_at _ i hi'))) b_add_ff) ev_float (b_div_ff (by decide +kernel))
      refine xs_assign_t (e_def G 0 rfl rfl (evs3 (ev_sub (ev_name 6 rfl rfl) ev_int (s_list (by decide) (by decide) rfl)) (ev_sub (ev_name 6 rfl rfl) ev_int (s_list (by decide) (by decide) rfl)) (ev_sub (ev_name 6 rfl rfl) ev_int (s_list (by decide) (by decide) rfl))) (sp_hls G _ _ _ z1))
        (ta_tuple (tas_cons (ta_name 7 rfl (List.mem_of_getElem? (i := 7) rfl)) (tas_cons (ta_name 8 rfl (List.mem_of_getElem? (i := 8) rfl)) (tas_cons (ta_name 9 rfl (List.mem_of_getElem? (i := 9) rfl)) tas_nil (Same.set ..)) (Same.set ..)) (Same.set ..)) rfl) (((Same.set ..).trans (Same.set ..)).trans (Same.set ..)) (fun b hb => mut_set (mut_set (mut_set hb))) ?_
      have hr : fround (Float64.mul (Float64.ofInt 6) (hlsOf corner k j).1) = some ((fround (Float64.mul (Float64.ofInt 6) (hlsOf corner k j).1)).getD 0) := by
        cases hq : fround (Float64.mul (Float64.ofInt 6) (hlsOf corner k j).1) with
        | none => rw [hq] at z2; cases z2
        | some q => rfl
      refine xs_append 4 (d := signD (signOf corner k j)) rfl rfl ?_ (ev_tuple (evs2 (ev_cmp (ev_name 8 rfl rfl) ev_float c_ne_ff) (ev_cmp (ev_bin (e_round G (evs1 (ev_bin ev_int (ev_name 7 rfl rfl) (b_mul_if (by decide +kernel)))) (f_round_f hr)) ev_int (b_mod_ii (by decide))) (ev_bin (ev_name 0 rfl rfl) ev_int (b_mod_ii (by decide))) c_ne_ii))) ?_ ?_
      · exact ⟨trivial, trivial, fun e => haL (e ▸ List.mem_cons_self), trivial, trivial, trivial, trivial, trivial, trivial, trivial⟩
      · show (lineD corner k j).length ≤ 16777216
        unfold lineD; rw [List.length_map, List.length_range]; omega
      refine xs_done rfl ?_ (fun _ h => h) trivial
      have e : lineD corner k j ++ [signD (signOf corner k j)] = lineD corner k (j + 1) := by unfold lineD; rw [List.range_succ, List.map_append]; rfl
      rw [← e]
      exact (by repeat (first | exact WL.nil | refine WL.un ?_ | refine WL.same (by first | exact trivial | exact List.mem_cons_self | exact List.mem_cons_of_mem _ List.mem_cons_self) ?_ | refine WL.frz (by assumption) ?_))
    · refine xs_weak (σ' := [.fz (.int corner), .fz (.list ((List.range 3).map fun i => tri (paint corner i))), .ow aT (.lst (tableD corner k)), .fz (tri (paint corner k)), .fz (.list (lineD corner k 3)), .un, .un, .un, .un, .un]) (ow' := aT :: ow) ?_ (fun _ h => List.mem_cons_of_mem _ h) ?_
      · have haL' : aL ∉ aT :: ow := haL
        have e : ((List.range 3).map fun i => tri (paint corner i)).length = 3 := rfl
        exact (by repeat (first | exact WL.nil | refine WL.un ?_ | refine WL.same (by first | exact trivial | exact List.mem_cons_self | exact List.mem_cons_of_mem _ List.mem_cons_self) ?_ | refine WL.frz (by assumption) ?_))
      refine xs_append 2 rfl rfl ?_ (ev_name 4 rfl rfl) ?_ ?_
      · exact ⟨trivial, trivial, trivial, trivial, trivial, trivial, trivial, trivial, trivial, trivial⟩
      · show (tableD corner k).length ≤ 16777216
        unfold tableD; rw [List.length_map, List.length_range]; omega
      refine xs_done rfl ?_ (fun _ h => h) trivial
      have e : tableD corner k ++ [PV.list (lineD corner k 3)] = tableD corner (k + 1) := by unfold tableD; rw [List.range_succ, List.map_append]; rfl
      rw [← e]
      exact (by repeat (first | exact WL.nil | refine WL.un ?_ | refine WL.same (by first | exact trivial | exact List.mem_cons_self | exact List.mem_cons_of_mem _ List.mem_cons_self) ?_ | refine WL.frz (by assumption) ?_))
  · refine xs_weak (σ' := [.fz (.int corner), .fz (.list ((List.range 3).map fun i => tri (paint corner i))), .fz (.list (tableD corner 3)), .un, .un, .un, .un, .un, .un, .un]) (ow' := ow) ?_ (fun _ h => List.mem_cons_of_mem _ h) ?_
    · have haT' : aT ∉ ow := haT
      exact (by repeat (first | exact WL.nil | refine WL.un ?_ | refine WL.same (by first | exact trivial | exact List.mem_cons_self | exact List.mem_cons_of_mem _ List.mem_cons_self) ?_ | refine WL.frz (by assumption) ?_))
    exact xs_ret (ev_name 2 rfl rfl) rfl fun _ h => h
end
end Mine

end
section
open PySem PySem.W PyProof.Rows PySem.Calls
set_option maxRecDepth 100000
namespace Mine
theorem unlike_ok : ∀ k : Fin 6, unlikeOk (k.val : Int) = true := by decide +kernel
theorem unlike_sign : ∀ k : Fin 6, ∀ i j : Fin 3, signOf (k.val : Int) i.val j.val = (decide (i ≠ j), decide (i ≠ j)) := by decide +kernel
end Mine

end
section
open PySem PySem.W PyProof.Rows PySem.Calls
set_option maxRecDepth 100000
namespace Mine

section
variable {c : Cx} {p pos : Pos} {e : Expr}
theorem rangeD0 (n : Nat) : rangeD 0 n = (List.range n).map fun (i : Nat) => PV.int (i : Int) := by
  unfold rangeD
  apply List.map_congr_left
  intro i _
  rw [Int.zero_add]
theorem i_range0 (G : GF c.g) {n : Nat} (h : Ev c e (.int (n : Int))) (hn : n < 2 ^ 62) (hk : c.env.kindOf "range" = some .globalImplicit := by kernel_rfl!) (hp : plainE e = true := by rfl) : It c (.Call (.Name "range" p) [e] [] pos) ((List.range n).map fun (i : Nat) => PV.int (i : Int)) := by
  rw [← rangeD0]; exact i_range G h hn hk hp
end

section
variable {sb : Shared} {F : Addr → Prop} {ro : List Addr} {c : Cx} {N : Shared → Prop} {R : PV → Prop} {rest : List Stmt}
theorem xs_whileN {t : Expr} {body : List Stmt} {pos : Pos} (cI : Nat → Cx) (K : Nat) (h0 : cI 0 = c) (sI : ∀ k, Same c (cI k)) (ht : ∀ k, k < K + 1 → Tr (cI k) t (decide (k < K)))
    (turn : ∀ k st, k < K → XS st (Mut (cI k)) ro (cI k) body (fun s' => SS st (Mut (cI k)) (cI (k + 1)) s') R) (k : XS sb F ro (cI K) rest N R) : XS sb F ro c (.While t body [] pos :: rest) N R :=
  xs_while cI K h0 sI (fun k hk => tr_eq (ht k (by omega)) (by simpa using hk)) (tr_eq (ht K (by omega)) (by simp)) turn k
end
theorem fits_small (i : Int) (h : -1000 ≤ i) (h2 : i < 1000) : fitsSsize i = true := by
  unfold fitsSsize
  simp
  omega
theorem ssm {x : Str} (h : x.length ≤ 100) : truthOk (.str x) := by show (x.length : Int) < 2 ^ 63; omega

/-! _levenshtein_distance -/
def sA (a : Str) (k : Nat) : Bool := truthD (.str (Txt.slice a (some (k : Int)) none))
def tst1 (a b : Str) (k : Nat) : Bool := sA a k && (sA b k && ((Txt.item a (k : Int) == Txt.item b (k : Int)) && true))
def postOr (k : Nat) : Option Int := if k = 0 then none else some (-(k : Int))
def sB (a : Str) (k : Nat) : Bool := truthD (.str (Txt.slice a none (postOr k)))
def tst2 (a b : Str) (k : Nat) : Bool := sB a k && (sB b k && ((Txt.item a (-(k : Int) - 1) == Txt.item b (-(k : Int) - 1)) && true))
def lev1Ok (a b : Str) (K : Nat) : Bool := (List.range (K + 1)).all fun k => (tst1 a b k == decide (k < K)) && (!(sA a k && sA b k) || ((Txt.charAt a (k : Int)).isSome && (Txt.charAt b (k : Int)).isSome))
def lev2Ok (a b : Str) (K : Nat) : Bool := (List.range (K + 1)).all fun k => (tst2 a b k == decide (k < K)) && (!(sB a k && sB b k) || ((Txt.charAt a (-(k : Int) - 1)).isSome && (Txt.charAt b (-(k : Int) - 1)).isSome))

structure LSt where
  dist : Int
  res : Int
  mn : Int
  row : List Int
def lStep (ca cb : Str) (i : Nat) (s : LSt) : LSt :=
  let sub := s.dist + subc cb ca
  let d := s.row.getD i 0
  let ins := (if d < s.res then d else s.res) + 2
  let r := if sub < ins then sub else ins
  ⟨d, r, if r < s.mn then r else s.mn, s.row.set i r⟩
def lIn (a : Str) (cb : Str) (j : Nat) (row : List Int) : Nat → LSt
  | 0 => ⟨(j : Int) * 2, (j : Int) * 2, 9223372036854775807, row⟩
  | i + 1 => lStep (Txt.item a (i : Int)) cb i (lIn a cb j row i)
def row0 (n : Nat) : List Int := (List.range n).map fun (i : Nat) => 2 + (i : Int) * 2
def lOut (a b : Str) (n : Nat) : Nat → Int × List Int
  | 0 => (0, row0 n)
  | j + 1 => let s := lIn a (Txt.item b (j : Int)) j (lOut a b n j).2 n; (s.res, s.row)
def lMn (a b : Str) (n j : Nat) : Int := (lIn a (Txt.item b (j : Int)) j (lOut a b n j).2 n).mn
def levDp (a b : Str) (n : Nat) (r : Int) : Int := if (List.range n).any (fun j => decide (r < lMn a b n j)) then r + 1 else (lOut a b n n).1

def cut (a : Str) (K1 K2 : Nat) : Str := Txt.slice (Txt.slice a (some (K1 : Int)) none) none (postOr K2)
def levOk (a b : Str) (K1 K2 n : Nat) : Bool :=
  !(a == b) && decide (a.length ≤ 100) && decide (b.length ≤ 100) && lev1Ok a b K1 && lev2Ok (Txt.slice a (some (K1 : Int)) none) (Txt.slice b (some (K1 : Int)) none) K2
    && decide ((cut a K1 K2).length = n) && decide ((cut b K1 K2).length = n) && decide (1 ≤ n) && decide (n ≤ 3)
    && (List.range n).all (fun i => (Txt.charAt (cut a K1 K2) (i : Int)).isSome && (Txt.charAt (cut b K1 K2) (i : Int)).isSome && decide ((Txt.item (cut a K1 K2) (i : Int)).length ≤ 100) && decide ((Txt.item (cut b K1 K2) (i : Int)).length ≤ 100))

theorem lIn_len (a cb : Str) (j : Nat) (row : List Int) : ∀ i, (lIn a cb j row i).row.length = row.length
  | 0 => rfl
  | i + 1 => by
    show ((lIn a cb j row i).row.set i _).length = _
    rw [List.length_set, lIn_len a cb j row i]
theorem lOut_len (a b : Str) (n : Nat) : ∀ j, (lOut a b n j).2.length = n
  | 0 => by show (row0 n).length = n; unfold row0; rw [List.length_map, List.length_range]
  | j + 1 => by
    show (lIn a (Txt.item b (j : Int)) j (lOut a b n j).2 n).row.length = n
    rw [lIn_len, lOut_len a b n j]
theorem map_at {row : List Int} {i : Nat} (h : i < row.length) : (row.map PV.int)[i]? = some (.int (row.getD i 0)) := by
  rw [List.getElem?_map, List.getElem?_eq_getElem h]
  simp [List.getD, h]
theorem slice_le (x : Str) (l u : Option Int) (h : x.length ≤ 100) : (Txt.slice x l u).length ≤ 100 := Nat.le_trans (Txt.slice_le x l u) h
theorem small3 (n : Nat) (h1 : 1 ≤ n) (h3 : n ≤ 3) : Builtin.Range.small 2 (2 * ((n : Int) + 1)) 2 = true ∧ Builtin.Range.rangeSize 2 (2 * ((n : Int) + 1)) 2 = (n : Int) := by
  match n, h1, h3 with
  | 1, _, _ => decide +kernel
  | 2, _, _ => decide +kernel
  | 3, _, _ => decide +kernel
theorem postOr_eq (k : Nat) : (if truthD (.int (-(k : Int))) = true then PV.int (-(k : Int)) else .none) = partPV (postOr k) := by
  unfold postOr truthD
  cases k with
  | zero => rfl
  | succ k =>
    have h : ((-((k + 1 : Nat) : Int)) != 0) = true := by simp; omega
    rw [if_pos h, if_neg (by omega)]; rfl
theorem sizeOk {x : Str} (h : x.length ≤ 100) : x.length ≤ sizeLine := by have : sizeLine = 16777216 := sizeLine_eq; omega

section
variable {g : Gl} (G : GF g)
include G
set_option maxHeartbeats 8000000 in
theorem sp_lev (x y : Str) (r : Int) (K1 K2 n : Nat) (hr : 0 ≤ r) (hK1 : K1 ≤ 100) (hK2 : K2 ≤ 100) (ok : levOk x y K1 K2 n = true) : FSpec g 2 "_levenshtein_distance" [.str x, .str y, .int r] (.int (levDp (cut x K1 K2) (cut y K1 K2) n r)) := by
  simp only [levOk, Bool.and_eq_true, decide_eq_true_eq, Bool.not_eq_true'] at ok
  obtain ⟨⟨⟨⟨⟨⟨⟨⟨⟨o1, lx⟩, ly⟩, o2⟩, o3⟩, ca⟩, cb⟩, n1⟩, n3⟩, o4⟩ := ok
  simp only [lev1Ok, List.all_eq_true, List.mem_range, Bool.and_eq_true, beq_iff_eq] at o2
  simp only [lev2Ok, List.all_eq_true, List.mem_range, Bool.and_eq_true, beq_iff_eq] at o3
  simp only [List.all_eq_true, List.mem_range, Bool.and_eq_true, decide_eq_true_eq] at o4
  refine fspec_of (d := recAt 11) ["a", "b", "max_cost"] ["pre", "post", "row", "result", "bindex", "bchar", "distance", "minimum", "index", "substitute", "insert_delete"] (mem_recs G 5 _ rfl) (by kernel_rfl!) rfl (fun vs pm cd doc h => by
    match vs, h with
    | [_, _, _], _ => rfl) fun sb A env ow pm cd doc L a henv => ?_
  subst henv
  refine xs_ifr (b := (x == y)) (tr_cmp (ev_name 0 rfl rfl) (ev_name 1 rfl rfl) c_eq_ss) (fun q => by rw [o1] at q; cases q) fun _ => ?_
  refine xs_set 3 rfl rfl ev_int ?_
  refine xs_whileN (fun k => (fnCx g A 1 (fnEnv (recAt 11) pm cd doc L a) ["a", "b", "max_cost"] ["pre", "post", "row", "result", "bindex", "bchar", "distance", "minimum", "index", "substitute", "insert_delete"] [.str x, .str y, .int r] ow).weak [.fz (.str x), .fz (.str y), .fz (.int r), .fz (.int (k : Int)), .un, .un, .un, .un, .un, .un, .un, .un, .un, .un] ow) K1 rfl (fun k => ⟨rfl, rfl, rfl, rfl, rfl, rfl, rfl⟩) (fun k hk => ?_) (fun k st hk => ?_) ?_
  · obtain ⟨oe, o⟩ := o2 k hk
    rw [← oe]
    refine tr_bool (trs_and (b := sA x k) (tr_val (ev_slice_str (ev_name 0 rfl rfl) (evp_int (ev_name 3 rfl rfl)) evp_none (sizeOk lx)) (ssm (slice_le _ _ _ lx))) fun h1 => trs_and (b := sA y k) (tr_val (ev_slice_str (ev_name 1 rfl rfl) (evp_int (ev_name 3 rfl rfl)) evp_none (sizeOk ly)) (ssm (slice_le _ _ _ ly))) fun h2 => trs_and (tr_cmp (ev_sub (ev_name 0 rfl rfl) (ev_name 3 rfl rfl) (s_str (fits_small _ (by omega) (by omega)) ?_)) (ev_sub (ev_name 1 rfl rfl) (ev_name 3 rfl rfl) (s_str (fits_small _ (by omega) (by omega)) ?_)) c_eq_ss) fun h3 => trs_and_nil)
    · rw [h1, h2] at o; simp only [Bool.and_self, Bool.not_true, Bool.false_or, Bool.and_eq_true] at o; exact o.1
    · rw [h1, h2] at o; simp only [Bool.and_self, Bool.not_true, Bool.false_or, Bool.and_eq_true] at o; exact o.2
  · exact xs_aug 3 rfl (List.mem_of_getElem? (i := 3) rfl) rfl ev_int i_add (xs_nil fun _ h => h)
  refine xs_set 0 rfl rfl (ev_slice_str (ev_name 0 rfl rfl) (evp_int (ev_name 3 rfl rfl)) evp_none (sizeOk lx)) ?_
  refine xs_set 1 rfl rfl (ev_slice_str (ev_name 1 rfl rfl) (evp_int (ev_name 3 rfl rfl)) evp_none (sizeOk ly)) ?_
  have lx1 := slice_le x (some (K1 : Int)) none lx
  have ly1 := slice_le y (some (K1 : Int)) none ly
  refine xs_set 4 rfl rfl ev_int ?_
  refine xs_whileN (fun k => (fnCx g A 1 (fnEnv (recAt 11) pm cd doc L a) ["a", "b", "max_cost"] ["pre", "post", "row", "result", "bindex", "bchar", "distance", "minimum", "index", "substitute", "insert_delete"] [.str x, .str y, .int r] ow).weak [.fz (.str (Txt.slice x (some (K1 : Int)) none)), .fz (.str (Txt.slice y (some (K1 : Int)) none)), .fz (.int r), .fz (.int (K1 : Int)), .fz (.int (-(k : Int))), .un, .un, .un, .un, .un, .un, .un, .un, .un] ow) K2 rfl (fun k => ⟨rfl, rfl, rfl, rfl, rfl, rfl, rfl⟩) (fun k hk => ?_) (fun k st hk => ?_) ?_
  · obtain ⟨oe, o⟩ := o3 k hk
    rw [← oe]
    refine tr_bool (trs_and (b := sB (Txt.slice x (some (K1 : Int)) none) k) (tr_val (ev_slice_str (ev_name 0 rfl rfl) evp_none (evp_some (ev_eq (ev_or2 (ev_name 4 rfl rfl) trivial fun _ => ev_none) (postOr_eq k))) (sizeOk lx1)) (ssm (slice_le _ _ _ lx1))) fun h1 => trs_and (b := sB (Txt.slice y (some (K1 : Int)) none) k) (tr_val (ev_slice_str (ev_name 1 rfl rfl) evp_none (evp_some (ev_eq (ev_or2 (ev_name 4 rfl rfl) trivial fun _ => ev_none) (postOr_eq k))) (sizeOk ly1)) (ssm (slice_le _ _ _ ly1))) fun h2 => trs_and (tr_cmp (ev_sub (ev_name 0 rfl rfl) (ev_bin (ev_name 4 rfl rfl) ev_int b_sub_ii) (s_str (fits_small _ (by omega) (by omega)) ?_)) (ev_sub (ev_name 1 rfl rfl) (ev_bin (ev_name 4 rfl rfl) ev_int b_sub_ii) (s_str (fits_small _ (by omega) (by omega)) ?_)) c_eq_ss) fun h3 => trs_and_nil)
    · rw [h1, h2] at o; simp only [Bool.and_self, Bool.not_true, Bool.false_or, Bool.and_eq_true] at o; exact o.1
    · rw [h1, h2] at o; simp only [Bool.and_self, Bool.not_true, Bool.false_or, Bool.and_eq_true] at o; exact o.2
  · refine xs_aug 4 rfl (List.mem_of_getElem? (i := 4) rfl) rfl ev_int i_sub (xs_nil fun s S => ?_)
    rw [show (-(k : Int) - 1) = -((k + 1 : Nat) : Int) by omega] at S
    exact S
  refine xs_set 0 rfl rfl (ev_slice_str (ev_name 0 rfl rfl) evp_none (evp_some (ev_eq (ev_or2 (ev_name 4 rfl rfl) trivial fun _ => ev_none) (postOr_eq K2))) (sizeOk lx1)) ?_
  refine xs_set 1 rfl rfl (ev_slice_str (ev_name 1 rfl rfl) evp_none (evp_some (ev_eq (ev_or2 (ev_name 4 rfl rfl) trivial fun _ => ev_none) (postOr_eq K2))) (sizeOk ly1)) ?_
  change XS sb _ ow ((fnCx g A 1 (fnEnv (recAt 11) pm cd doc L a) ["a", "b", "max_cost"] ["pre", "post", "row", "result", "bindex", "bchar", "distance", "minimum", "index", "substitute", "insert_delete"] [.str x, .str y, .int r] ow).weak [.fz (.str (cut x K1 K2)), .fz (.str (cut y K1 K2)), .fz (.int r), .fz (.int (K1 : Int)), .fz (.int (-(K2 : Int))), .un, .un, .un, .un, .un, .un, .un, .un, .un] ow) _ _ _
  generalize hu : cut x K1 K2 = u at ca o4 ⊢
  generalize hv : cut y K1 K2 = v at cb o4 ⊢
  have tu : truthD (.str u) = true := by show ((u.length : Int) != 0) = true; rw [ca]; simp; omega
  have tv : truthD (.str v) = true := by show ((v.length : Int) != 0) = true; rw [cb]; simp; omega
  have zu : (u.length : Int) < 2 ^ 63 := by rw [ca]; omega
  have zv : (v.length : Int) < 2 ^ 63 := by rw [cb]; omega
  refine xs_if_skip (tr_eq (tr_bool (trs_or (tr_not (tr_val (ev_name 0 rfl rfl) zu)) fun _ => trs_or (tr_not (tr_val (ev_name 1 rfl rfl) zv)) fun _ => trs_or_nil)) (by rw [tu, tv]; rfl)) ?_
  refine xs_if_skip (tr_eq (tr_bool (trs_or (tr_cmp (e_len G (evs1 (ev_name 0 rfl rfl)) (f_len_str zu)) (e_size G) c_gt_ii) fun _ => trs_or (tr_cmp (e_len G (evs1 (ev_name 1 rfl rfl)) (f_len_str zv)) (e_size G) c_gt_ii) fun _ => trs_or_nil)) (by rw [ca, cb]; simp; omega)) ?_
  refine xs_if_skip (tr_eq (tr_cmp (e_len G (evs1 (ev_name 1 rfl rfl)) (f_len_str zv)) (e_len G (evs1 (ev_name 0 rfl rfl)) (f_len_str zu)) c_lt_ii) (by rw [ca, cb]; simp)) ?_
  refine xs_if_skip (tr_eq (tr_cmp (ev_bin (ev_bin (e_len G (evs1 (ev_name 1 rfl rfl)) (f_len_str zv)) (e_len G (evs1 (ev_name 0 rfl rfl)) (f_len_str zu)) b_sub_ii) (e_move G) (b_mul_ii (.of_right (by decide)))) (ev_name 2 rfl rfl) c_gt_ii) (by rw [ca, cb]; simp; omega)) ?_
  obtain ⟨q1, q2⟩ := small3 n n1 n3
  refine xs_new 5 rfl (List.mem_of_getElem? (i := 5) rfl) (evnew_range3 (n := n) (by kernel_rfl!) (G.bi ("list", .type "list") (by simp)) (by kernel_rfl!) (G.bi ("range", .type "range") (by simp)) (evs3 (e_move G) (ev_bin (e_move G) (ev_bin (e_len G (evs1 (ev_name 0 rfl rfl)) (f_len_str zu)) ev_int b_add_ii) (b_mul_ii (.of_left (by decide)))) (e_move G)) (by decide) (by decide) (by rw [ca]; exact q1) (by rw [ca]; exact q2) (by omega)) fun aR haR => ?_
  refine xs_set 6 rfl rfl ev_int ?_
  have er : (List.range n).map (fun (i : Nat) => PV.int (2 + (i : Int) * 2)) = (row0 n).map PV.int := by unfold row0; rw [List.map_map]; rfl
  rw [er]
  refine xs_for (fun j => (fnCx g A 1 (fnEnv (recAt 11) pm cd doc L a) ["a", "b", "max_cost"] ["pre", "post", "row", "result", "bindex", "bchar", "distance", "minimum", "index", "substitute", "insert_delete"] [.str x, .str y, .int r] ow).weak [.fz (.str u), .fz (.str v), .fz (.int r), .fz (.int (K1 : Int)), .fz (.int (-(K2 : Int))), .ow aR (.arr ((lOut u v n j).2.map PV.int)), .fz (.int (lOut u v n j).1), .un, .un, .un, .un, .un, .un, .un] (aR :: ow))
    (fun j => (fnCx g A 1 (fnEnv (recAt 11) pm cd doc L a) ["a", "b", "max_cost"] ["pre", "post", "row", "result", "bindex", "bchar", "distance", "minimum", "index", "substitute", "insert_delete"] [.str x, .str y, .int r] ow).weak [.fz (.str u), .fz (.str v), .fz (.int r), .fz (.int (K1 : Int)), .fz (.int (-(K2 : Int))), .ow aR (.arr ((lOut u v n j).2.map PV.int)), .fz (.int (lOut u v n j).1), .fz (.int (j : Int)), .un, .un, .un, .un, .un, .un] (aR :: ow))
    (fun j => ∀ i, i < j → ¬ r < lMn u v n i) (i_range0 G (n := n) (ev_eq (e_len G (evs1 (ev_name 1 rfl rfl)) (f_len_str zv)) (by rw [cb])) (by omega)) rfl (fun i hi => absurd hi (by omega)) (fun k => ⟨rfl, rfl, rfl, rfl, rfl, rfl, rfl⟩) (fun k => ⟨rfl, rfl, rfl, rfl, rfl, rfl, rfl⟩) (fun j b hb => mut_set (i := 7) (d := .int (j : Int)) hb) (fun j d hd _ => ?_) (fun j d st hd hJ => ?_) fun hJ => ?_
  · obtain ⟨hj, rfl⟩ := range_at hd
    exact ta_name 7 rfl (List.mem_of_getElem? (i := 7) rfl)
  · obtain ⟨hj, rfl⟩ := range_at hd
    obtain ⟨⟨⟨_, p2⟩, _⟩, p4⟩ := o4 j hj
    refine xs_set 8 rfl rfl (ev_sub (ev_name 1 rfl rfl) (ev_name 7 rfl rfl) (s_str (fits_small _ (by omega) (by omega)) p2)) ?_
    refine xs_assign_2 9 6 rfl rfl (List.mem_of_getElem? (i := 9) rfl) (List.mem_of_getElem? (i := 6) rfl) (ev_bin (ev_name 7 rfl rfl) (e_move G) (b_mul_ii (.of_right (by decide)))) ?_
    refine xs_set 10 rfl rfl ev_int ?_
    refine xs_for (fun i => (fnCx g A 1 (fnEnv (recAt 11) pm cd doc L a) ["a", "b", "max_cost"] ["pre", "post", "row", "result", "bindex", "bchar", "distance", "minimum", "index", "substitute", "insert_delete"] [.str x, .str y, .int r] ow).weak [.fz (.str u), .fz (.str v), .fz (.int r), .fz (.int (K1 : Int)), .fz (.int (-(K2 : Int))), .ow aR (.arr ((lIn u (Txt.item v (j : Int)) j (lOut u v n j).2 i).row.map PV.int)), .fz (.int (lIn u (Txt.item v (j : Int)) j (lOut u v n j).2 i).res), .fz (.int (j : Int)), .fz (.str (Txt.item v (j : Int))), .fz (.int (lIn u (Txt.item v (j : Int)) j (lOut u v n j).2 i).dist), .fz (.int (lIn u (Txt.item v (j : Int)) j (lOut u v n j).2 i).mn), .un, .un, .un] (aR :: ow))
      (fun i => (fnCx g A 1 (fnEnv (recAt 11) pm cd doc L a) ["a", "b", "max_cost"] ["pre", "post", "row", "result", "bindex", "bchar", "distance", "minimum", "index", "substitute", "insert_delete"] [.str x, .str y, .int r] ow).weak [.fz (.str u), .fz (.str v), .fz (.int r), .fz (.int (K1 : Int)), .fz (.int (-(K2 : Int))), .ow aR (.arr ((lIn u (Txt.item v (j : Int)) j (lOut u v n j).2 i).row.map PV.int)), .fz (.int (lIn u (Txt.item v (j : Int)) j (lOut u v n j).2 i).res), .fz (.int (j : Int)), .fz (.str (Txt.item v (j : Int))), .fz (.int (lIn u (Txt.item v (j : Int)) j (lOut u v n j).2 i).dist), .fz (.int (lIn u (Txt.item v (j : Int)) j (lOut u v n j).2 i).mn), .fz (.int (i : Int)), .un, .un] (aR :: ow))
      (fun _ => True) (i_range0 G (n := n) (ev_eq (e_len G (evs1 (ev_name 0 rfl rfl)) (f_len_str zu)) (by rw [ca])) (by omega)) rfl trivial (fun k => ⟨rfl, rfl, rfl, rfl, rfl, rfl, rfl⟩) (fun k => ⟨rfl, rfl, rfl, rfl, rfl, rfl, rfl⟩) (fun i b hb => mut_set (i := 11) (d := .int (i : Int)) hb) (fun i d hd _ => ?_) (fun i d st' hd _ => ?_) fun _ => ?_
    · obtain ⟨hi, rfl⟩ := range_at hd
      exact ta_name 11 rfl (List.mem_of_getElem? (i := 11) rfl)
    · obtain ⟨hi, rfl⟩ := range_at hd
      obtain ⟨⟨⟨r1, _⟩, r3⟩, _⟩ := o4 i hi
      have hlen : i < (lIn u (Txt.item v (j : Int)) j (lOut u v n j).2 i).row.length := by rw [lIn_len, lOut_len]; exact hi
      have est : lIn u (Txt.item v (j : Int)) j (lOut u v n j).2 (i + 1) = lStep (Txt.item u (i : Int)) (Txt.item v (j : Int)) i (lIn u (Txt.item v (j : Int)) j (lOut u v n j).2 i) := rfl
      rw [est]
      generalize hst : lIn u (Txt.item v (j : Int)) j (lOut u v n j).2 i = S at hlen ⊢
      refine xs_set 12 rfl rfl (ev_bin (ev_name 9 rfl rfl) (e_def G 4 rfl rfl (evs2 (ev_name 8 rfl rfl) (ev_sub (ev_name 0 rfl rfl) (ev_name 11 rfl rfl) (s_str (fits_small _ (by omega) (by omega)) r1))) (sp_subst G _ _ p4 r3)) b_add_ii) ?_
      refine xs_set 9 rfl rfl (ev_sub_own 5 rfl rfl (ev_name 11 rfl rfl) (by omega) (map_at hlen)) ?_
      refine xs_set 13 rfl rfl (ev_bin (e_min G (evs2 (ev_name 6 rfl rfl) (ev_name 9 rfl rfl)) f_min_ii) (e_move G) b_add_ii) ?_
      refine xs_set 6 rfl rfl (e_min G (evs2 (ev_name 13 rfl rfl) (ev_name 12 rfl rfl)) f_min_ii) ?_
      refine xs_setitem 5 rfl rfl ?_ (ev_name 6 rfl rfl) (ev_name 11 rfl rfl) (by rw [List.length_map]; exact hlen) (by omega) ?_
      · exact ⟨trivial, trivial, trivial, trivial, trivial, trivial, trivial, trivial, trivial, trivial, trivial, trivial, trivial, trivial⟩
      refine xs_ifb (c' := Cx.set _ 10 (.fz (.int (lStep (Txt.item u (i : Int)) (Txt.item v (j : Int)) i S).mn))) (tr_cmp (ev_name 6 rfl rfl) (ev_name 10 rfl rfl) c_lt_ii) (Same.set ..) (fun q => ?_) (fun q => ?_) ?_
      · exact xs_set 10 rfl rfl (ev_eq (ev_name 6 rfl rfl) (by unfold lStep; dsimp only; rw [if_pos (of_decide_eq_true q)])) (xs_nil fun _ h => h)
      · refine xs_nil fun s hS => ?_
        have em : (lStep (Txt.item u (i : Int)) (Txt.item v (j : Int)) i S).mn = S.mn := by unfold lStep; dsimp only; rw [if_neg (of_decide_eq_false q)]
        rw [em]; exact hS
      refine xs_done rfl ?_ (fun _ h => h) trivial
      have erow : ((lStep (Txt.item u (i : Int)) (Txt.item v (j : Int)) i S).row.map PV.int) = (S.row.map PV.int).set i (.int (lStep (Txt.item u (i : Int)) (Txt.item v (j : Int)) i S).res) := by
        unfold lStep; dsimp only; rw [List.map_set]
      rw [erow]
      exact (by repeat (first | exact WL.nil | refine WL.un ?_ | refine WL.same (by first | exact trivial | exact List.mem_cons_self | exact List.mem_cons_of_mem _ List.mem_cons_self) ?_ | refine WL.frz (by assumption) ?_))
    · have hlen : ((List.range n).map fun (i : Nat) => PV.int (i : Int)).length = n := by simp
      rw [hlen]
      refine xs_ifr (tr_cmp (ev_name 10 rfl rfl) (ev_name 2 rfl rfl) c_gt_ii) (fun q => xs_ret (ev_bin (ev_name 2 rfl rfl) ev_int b_add_ii) ?_ fun _ h => List.mem_cons_of_mem _ h) fun q => ?_
      · unfold levDp
        rw [if_pos]
        rw [List.any_eq_true]
        exact ⟨j, List.mem_range.mpr hj, q⟩
      refine xs_done rfl ?_ (fun _ h => h) fun i hi => ?_
      · exact (by repeat (first | exact WL.nil | refine WL.un ?_ | refine WL.same (by first | exact trivial | exact List.mem_cons_self | exact List.mem_cons_of_mem _ List.mem_cons_self) ?_ | refine WL.frz (by assumption) ?_))
      · by_cases e : i = j
        · subst e; exact of_decide_eq_false q
        · exact hJ i (by omega)
  · have hlen : ((List.range n).map fun (i : Nat) => PV.int (i : Int)).length = n := by simp
    rw [hlen] at hJ ⊢
    refine xs_ret (ev_name 6 rfl rfl) ?_ fun _ h => List.mem_cons_of_mem _ h
    unfold levDp
    rw [if_neg]
    rw [List.any_eq_true]
    rintro ⟨i, hi, q⟩
    exact hJ i (List.mem_range.mp hi) (of_decide_eq_true q)
end
end Mine

end
section
open PySem PySem.W PyProof.Rows PySem.Calls
set_option maxRecDepth 100000
namespace Mine

def bitOf (n : Int) (i : Nat) : Bool := (n.fdiv (2 ^ ((i : Int)).toNat)).fmod 2 == 1
def charW (n : Int) (i : Nat) : Str := if bitOf n i then Txt.item "XYZ" (i : Int) else Txt.item "xyz" (i : Int)
def wordOf (n : Int) : Str := Txt.join "" ((List.range 3).map (charW n))
def dueL (a b : Int) : List PV := (List.range 3).flatMap fun i => if bitOf (Builtin.bitXor a b) i then [PV.int (i : Int)] else []
def due (a b : Int) : Int := ((dueL a b).length : Nat)
def pairD (p : Nat × Nat) : PV := .tuple [.int (p.1 : Int), .int (p.2 : Int)]
def nearH (ns : List Int) (r : Int) (h l : Nat) : List (Nat × Nat) := (List.range l).flatMap fun k => if due (ns.getD k 0) (ns.getD h 0) ≤ r then [(k, h)] else []
def nearTo (ns : List Int) (r : Int) (h : Nat) : List (Nat × Nat) := (List.range h).flatMap fun k => nearH ns r k k
theorem nearH_succ (ns : List Int) (r : Int) (h l : Nat) : nearH ns r h (l + 1) = nearH ns r h l ++ (if due (ns.getD l 0) (ns.getD h 0) ≤ r then [(l, h)] else []) := by
  unfold nearH; rw [List.range_succ, List.flatMap_append]; simp
theorem nearTo_succ (ns : List Int) (r : Int) (h : Nat) : nearTo ns r (h + 1) = nearTo ns r h ++ nearH ns r h h := by
  unfold nearTo; rw [List.range_succ, List.flatMap_append]; simp
theorem nearH_len (ns : List Int) (r : Int) (h : Nat) : ∀ l, (nearH ns r h l).length ≤ l
  | 0 => Nat.le_refl _
  | l + 1 => by
    rw [nearH_succ, List.length_append]
    have := nearH_len ns r h l
    split <;> simp <;> omega
theorem nearTo_len (ns : List Int) (r : Int) : ∀ h, (nearTo ns r h).length ≤ h * h
  | 0 => Nat.le_refl _
  | h + 1 => by
    rw [nearTo_succ, List.length_append]
    have := nearTo_len ns r h
    have := nearH_len ns r h h
    have e : (h + 1) * (h + 1) = h * h + h + h + 1 := by rw [Nat.add_mul, Nat.mul_add]; omega
    omega
theorem lt3 {i : Nat} (h : i < 3) : i = 0 ∨ i = 1 ∨ i = 2 := by omega
theorem xyz_at {i : Nat} (h : i < 3) : (Txt.charAt "XYZ" (i : Int)).isSome = true ∧ (Txt.charAt "xyz" (i : Int)).isSome = true := by
  rcases lt3 h with rfl | rfl | rfl <;> decide +kernel
theorem joinW (n : Int) : JoinOk "" ((List.range 3).map (charW n)) = true := by
  have key : ∀ a b c : Bool, JoinOk "" [if a then Txt.item "XYZ" ((0 : Nat) : Int) else Txt.item "xyz" ((0 : Nat) : Int), if b then Txt.item "XYZ" ((1 : Nat) : Int) else Txt.item "xyz" ((1 : Nat) : Int), if c then Txt.item "XYZ" ((2 : Nat) : Int) else Txt.item "xyz" ((2 : Nat) : Int)] = true := by decide +kernel
  exact key (bitOf n 0) (bitOf n 1) (bitOf n 2)
theorem dueL_len (a b : Int) : (dueL a b).length ≤ 3 := by
  have key : ∀ p q s : Bool, ((if p then [PV.int ((0 : Nat) : Int)] else []) ++ ((if q then [PV.int ((1 : Nat) : Int)] else []) ++ ((if s then [PV.int ((2 : Nat) : Int)] else []) ++ []))).length ≤ 3 := by
    intro p q s; cases p <;> cases q <;> cases s <;> decide
  exact key (bitOf _ 0) (bitOf _ 1) (bitOf _ 2)

/-- what the distance of two words is known for -/
def LevSpec (g : Gl) (r : Int) : Prop := ∀ a b : Int, 0 ≤ a → a < 8 → 0 ≤ b → b < 8 → ∃ t, FSpec g 2 "_levenshtein_distance" [.str (wordOf a), .str (wordOf b), .int r] (.int t) ∧ (due a b ≤ r → t = due a b) ∧ (r < due a b → r < t)

section
variable {g : Gl} (G : GF g)
include G
theorem sp_lev_eq (x : Str) (r : Int) : FSpec g 2 "_levenshtein_distance" [.str x, .str x, .int r] (.int 0) :=
  fspec_of (d := recAt 11) ["a", "b", "max_cost"] [] (mem_recs G 5 _ rfl) (by kernel_rfl!) rfl (fun vs pm cd doc h => by
    match vs, h with
    | [_, _, _], _ => rfl) fun sb A env ow pm cd doc L a henv =>
      xs_ifr (b := (x == x)) (tr_cmp (ev_name 0 rfl rfl) (ev_name 1 rfl rfl) c_eq_ss) (fun q => xs_ret ev_int rfl fun _ h => h) fun q => by rw [beq_self_eq_true] at q; cases q

set_option maxHeartbeats 8000000 in
theorem sp_near (ns : List Int) (r : Int) (hl : ns.length = 4) (hb : ∀ i, i < 4 → 0 ≤ ns.getD i 0 ∧ ns.getD i 0 < 8) (H : LevSpec g r) : FSpec g 3 "_law_near" [.list (ns.map PV.int), .int r] (.list [.bool true, .list ((nearTo ns r 4).map pairD)]) := by
  refine fspec_of (d := recAt 17) ["numbers", "reach"] ["words", "near", "high", "low", "due", "told"] (mem_recs G 10 _ rfl) (by kernel_rfl!) rfl (fun vs pm cd doc h => by
    match vs, h with
    | [_, _], _ => rfl) fun sb A env ow pm cd doc L a henv => ?_
  subst henv
  refine xs_comp 2 rfl rfl (evc_m ["number"] [] ns PV.int (fun n => .str (wordOf n)) (by kernel_rfl!) rfl (it_list (ev_name 0 rfl rfl)) (fun C D n hn => ?_) (by rw [hl, sizeLine_eq]; omega)) (by rfl) ?_
  · refine ev_join ev_str (ys := (List.range 3).map (charW n)) (ev_eq (ev_comp (evc_m ["bit"] [("number", 0)] (List.range 3) (fun i => .int (i : Int)) (fun i => .str (charW n i)) (by kernel_rfl!) rfl (i_range0 G (n := 3) ev_int (by decide)) (fun C' D' i hi => ?_) (by (show _ ≤ 16777216); exact Nat.le_of_ble_eq_true rfl))) ?_) (joinW n)
    · obtain ⟨x1, x2⟩ := xyz_at (List.mem_range.mp hi)
      have hi' := List.mem_range.mp hi
      refine ev_if (b := bitOf n i) (tr_cmp (ev_bin (ev_bin (ev_name 1 rfl rfl) (ev_name 0 rfl rfl) (b_shr_ii (by omega))) ev_int (b_mod_ii (by decide))) ev_int c_eq_ii) (fun q => ev_eq (ev_sub ev_str (ev_name 0 rfl rfl) (s_str (fits_small _ (by omega) (by omega)) x1)) (by unfold charW; rw [if_pos q])) fun q => ev_eq (ev_sub ev_str (ev_name 0 rfl rfl) (s_str (fits_small _ (by omega) (by omega)) x2)) (by unfold charW; rw [if_neg (by rw [q]; simp)])
    · rw [List.map_map]; rfl
  refine xs_new 3 rfl (List.mem_of_getElem? (i := 3) rfl) evnew_nil fun aN haN => ?_
  refine xs_for (fun h => (fnCx g A 2 (fnEnv (recAt 17) pm cd doc L a) ["numbers", "reach"] ["words", "near", "high", "low", "due", "told"] [.list (ns.map PV.int), .int r] ow).weak [.fz (.list (ns.map PV.int)), .fz (.int r), .fz (.list (ns.map fun n => .str (wordOf n))), .ow aN (.lst ((nearTo ns r h).map pairD)), .un, .un, .un, .un] (aN :: ow))
    (fun h => (fnCx g A 2 (fnEnv (recAt 17) pm cd doc L a) ["numbers", "reach"] ["words", "near", "high", "low", "due", "told"] [.list (ns.map PV.int), .int r] ow).weak [.fz (.list (ns.map PV.int)), .fz (.int r), .fz (.list (ns.map fun n => .str (wordOf n))), .ow aN (.lst ((nearTo ns r h).map pairD)), .fz (.int (h : Int)), .un, .un, .un] (aN :: ow))
    (fun _ => True) (i_range0 G (n := 4) ev_int (by decide)) rfl trivial (fun k => ⟨rfl, rfl, rfl, rfl, rfl, rfl, rfl⟩) (fun k => ⟨rfl, rfl, rfl, rfl, rfl, rfl, rfl⟩) (fun h b hb => mut_set (i := 4) (d := .int (h : Int)) hb) (fun h d hd _ => ?_) (fun h d st hd _ => ?_) fun _ => ?_
  · obtain ⟨hh, rfl⟩ := range_at hd
    exact ta_name 4 rfl (List.mem_of_getElem? (i := 4) rfl)
  · obtain ⟨hh, rfl⟩ := range_at hd
    refine xs_for (fun l => (fnCx g A 2 (fnEnv (recAt 17) pm cd doc L a) ["numbers", "reach"] ["words", "near", "high", "low", "due", "told"] [.list (ns.map PV.int), .int r] ow).weak [.fz (.list (ns.map PV.int)), .fz (.int r), .fz (.list (ns.map fun n => .str (wordOf n))), .ow aN (.lst ((nearTo ns r h ++ nearH ns r h l).map pairD)), .fz (.int (h : Int)), .un, .un, .un] (aN :: ow))
      (fun l => (fnCx g A 2 (fnEnv (recAt 17) pm cd doc L a) ["numbers", "reach"] ["words", "near", "high", "low", "due", "told"] [.list (ns.map PV.int), .int r] ow).weak [.fz (.list (ns.map PV.int)), .fz (.int r), .fz (.list (ns.map fun n => .str (wordOf n))), .ow aN (.lst ((nearTo ns r h ++ nearH ns r h l).map pairD)), .fz (.int (h : Int)), .fz (.int (l : Int)), .un, .un] (aN :: ow))
      (fun _ => True) (i_range0 G (n := h) (ev_name 4 rfl rfl) (by omega)) (by rw [show nearH ns r h 0 = [] from rfl, List.append_nil]) trivial (fun k => ⟨rfl, rfl, rfl, rfl, rfl, rfl, rfl⟩) (fun k => ⟨rfl, rfl, rfl, rfl, rfl, rfl, rfl⟩) (fun l b hb => mut_set (i := 5) (d := .int (l : Int)) hb) (fun l d hd _ => ?_) (fun l d st' hd _ => ?_) fun _ => ?_
    · obtain ⟨hl', rfl⟩ := range_at hd
      exact ta_name 5 rfl (List.mem_of_getElem? (i := 5) rfl)
    · obtain ⟨hl', rfl⟩ := range_at hd
      have l4 : l < ns.length := by omega
      have h4 : h < ns.length := by omega
      obtain ⟨t, Fl, t1, t2⟩ := H (ns.getD l 0) (ns.getD h 0) (hb l (by omega)).1 (hb l (by omega)).2 (hb h hh).1 (hb h hh).2
      have wl : ∀ i, i < ns.length → (ns.map fun n => PV.str (wordOf n))[((i : Nat) : Int).toNat]? = some (.str (wordOf (ns.getD i 0))) := fun i hi => by
        show (ns.map fun n => PV.str (wordOf n))[i]? = _
        rw [List.getElem?_map, List.getElem?_eq_getElem hi]; simp [List.getD, hi]
      refine xs_set 6 rfl rfl (e_len G (evs1 (ev_comp (evc_n ["bit"] [("numbers", 0), ("low", 5), ("high", 4)] (List.range 3) (fun i => .int (i : Int)) (fun i => bitOf (Builtin.bitXor (ns.getD l 0) (ns.getD h 0)) i) (fun i => .int (i : Int)) (by kernel_rfl!) rfl (i_range0 G (n := 3) ev_int (by decide)) (fun C D i hi => ?_) (fun C D i hi q => ev_name 0 rfl rfl) (by
        have := dueL_len (ns.getD l 0) (ns.getD h 0)
        rw [sizeLine_eq]; exact Nat.le_trans this (by decide))))) (f_len_list (by
        have := dueL_len (ns.getD l 0) (ns.getD h 0)
        unfold dueL at this; omega))) ?_
      · exact .one (tr_cmp (ev_bin (ev_bin (ev_bin (ev_sub (ev_name 1 rfl rfl) (ev_name 2 rfl rfl) (s_list (by omega) (by omega) (map_at l4))) (ev_sub (ev_name 1 rfl rfl) (ev_name 3 rfl rfl) (s_list (by omega) (by omega) (map_at h4))) b_xor_ii) (ev_name 0 rfl rfl) (b_shr_ii (by omega))) ev_int (b_mod_ii (by decide))) ev_int c_eq_ii)
      change XS st' _ ow (Cx.set _ 6 (.fz (.int (due (ns.getD l 0) (ns.getD h 0))))) _ _ _
      refine xs_set 7 rfl rfl (e_def G 5 rfl rfl (evs3 (ev_sub (ev_name 2 rfl rfl) (ev_name 5 rfl rfl) (s_list (by omega) (by omega) (wl l l4))) (ev_sub (ev_name 2 rfl rfl) (ev_name 4 rfl rfl) (s_list (by omega) (by omega) (wl h h4))) (ev_name 1 rfl rfl)) Fl) ?_
      refine xs_if_skip (tr_eq (tr_bool (trs_or (tr_bool (trs_and (tr_cmp (ev_name 6 rfl rfl) (ev_name 1 rfl rfl) c_le_ii) fun _ => trs_and (tr_cmp (ev_name 7 rfl rfl) (ev_name 6 rfl rfl) c_ne_ii) fun _ => trs_and_nil)) fun _ => trs_or (tr_bool (trs_and (tr_cmp (ev_name 6 rfl rfl) (ev_name 1 rfl rfl) c_gt_ii) fun _ => trs_and (tr_cmp (ev_name 7 rfl rfl) (ev_name 1 rfl rfl) c_le_ii) fun _ => trs_and_nil)) fun _ => trs_or_nil)) ?_) ?_
      · generalize due (ns.getD l 0) (ns.getD h 0) = du at t1 t2 ⊢
        by_cases q : du ≤ r
        · rw [t1 q]; simp <;> omega
        · have := t2 (by omega); simp [q] <;> omega
      refine xs_ifb (c' := Cx.set _ 3 (.ow aN (.lst ((nearTo ns r h ++ nearH ns r h (l + 1)).map pairD)))) (tr_cmp (ev_name 7 rfl rfl) (ev_name 1 rfl rfl) c_le_ii) (Same.set ..) (fun q => ?_) (fun q => ?_) ?_
      · have q' : due (ns.getD l 0) (ns.getD h 0) ≤ r := by
          have := of_decide_eq_true q
          apply Classical.byContradiction
          intro n'
          have := t2 (by omega)
          omega
        refine xs_append 3 rfl rfl ⟨trivial, trivial, trivial, trivial, trivial, trivial, trivial, trivial⟩ (ev_tuple (evs2 (ev_name 5 rfl rfl) (ev_name 4 rfl rfl))) ?_ (xs_nil fun s S => ?_)
        · rw [List.length_map, List.length_append, sizeLine_eq]
          have b1 := nearTo_len ns r h
          have b2 := nearH_len ns r h l
          have b3 : h * h ≤ 4 * 4 := Nat.mul_le_mul (by omega) (by omega)
          omega
        · rw [nearH_succ, if_pos q', ← List.append_assoc, List.map_append (l₂ := [(l, h)])]
          exact S
      · have q' : ¬ due (ns.getD l 0) (ns.getD h 0) ≤ r := fun n' => by
          have := of_decide_eq_false q
          have := t1 n'
          omega
        refine xs_nil fun s S => ?_
        rw [nearH_succ, if_neg q', List.append_nil]
        exact S
      exact xs_done rfl (by repeat (first | exact WL.nil | refine WL.un ?_ | refine WL.same (by first | exact trivial | exact List.mem_cons_self | exact List.mem_cons_of_mem _ List.mem_cons_self) ?_ | refine WL.frz (by assumption) ?_)) (fun _ h => h) trivial
    · have hlen : ((List.range h).map fun (i : Nat) => PV.int (i : Int)).length = h := by simp
      rw [hlen, ← nearTo_succ]
      exact xs_done rfl (by repeat (first | exact WL.nil | refine WL.un ?_ | refine WL.same (by first | exact trivial | exact List.mem_cons_self | exact List.mem_cons_of_mem _ List.mem_cons_self) ?_ | refine WL.frz (by assumption) ?_)) (fun _ h => h) trivial
  · refine xs_weak (σ' := [.fz (.list (ns.map PV.int)), .fz (.int r), .fz (.list (ns.map fun n => .str (wordOf n))), .fz (.list ((nearTo ns r 4).map pairD)), .un, .un, .un, .un]) (ow' := ow) ?_ (fun _ h => List.mem_cons_of_mem _ h) ?_
    · have haN' : aN ∉ ow := haN
      exact (by repeat (first | exact WL.nil | refine WL.un ?_ | refine WL.same (by first | exact trivial | exact List.mem_cons_self | exact List.mem_cons_of_mem _ List.mem_cons_self) ?_ | refine WL.frz (by assumption) ?_))
    exact xs_ret (ev_list (evs2 ev_bool (ev_name 3 rfl rfl))) rfl fun _ h => h
end
end Mine

end
section
open PySem PySem.W PyProof.Rows PySem.Calls
set_option maxRecDepth 100000
namespace Mine
def levK1 (a b : Str) : Nat := ((List.range 4).find? fun k => !tst1 a b k).getD 0
def levK2 (a b : Str) : Nat := let K := levK1 a b; ((List.range 4).find? fun k => !tst2 (Txt.slice a (some (K : Int)) none) (Txt.slice b (some (K : Int)) none) k).getD 0
def levN (a b : Str) : Nat := (cut a (levK1 a b) (levK2 a b)).length
def levT (a b : Str) (r : Int) : Int := levDp (cut a (levK1 a b) (levK2 a b)) (cut b (levK1 a b) (levK2 a b)) (levN a b) r
def levChk (a b : Int) : Bool :=
  (wordOf a == wordOf b && due a b == 0) ||
    (levOk (wordOf a) (wordOf b) (levK1 (wordOf a) (wordOf b)) (levK2 (wordOf a) (wordOf b)) (levN (wordOf a) (wordOf b)) && decide (levK1 (wordOf a) (wordOf b) ≤ 100) && decide (levK2 (wordOf a) (wordOf b) ≤ 100)
      && [1, 2].all fun (r : Int) => (decide (r < due a b) || levT (wordOf a) (wordOf b) r == due a b) && (decide (due a b ≤ r) || decide (r < levT (wordOf a) (wordOf b) r)))
theorem lev_chk : ∀ a b : Fin 8, levChk (a.val : Int) (b.val : Int) = true := by decide +kernel

theorem lev_spec {g : Gl} (G : GF g) (r : Int) (hr : r = 1 ∨ r = 2) : LevSpec g r := fun a b a0 a8 b0 b8 => by
  obtain ⟨i, rfl⟩ := Int.eq_ofNat_of_zero_le a0
  obtain ⟨j, rfl⟩ := Int.eq_ofNat_of_zero_le b0
  have k := lev_chk ⟨i, by omega⟩ ⟨j, by omega⟩
  simp only [levChk, Bool.or_eq_true, Bool.and_eq_true, beq_iff_eq, decide_eq_true_eq] at k
  rcases k with ⟨e, d0⟩ | ⟨⟨⟨k1, k2⟩, k3⟩, k4⟩
  · refine ⟨0, ?_, fun _ => ?_, fun q => ?_⟩
    · show FSpec g 2 _ [.str (wordOf (i : Int)), .str (wordOf (j : Int)), _] _
      rw [e]; exact sp_lev_eq G _ r
    · exact d0.symm
    · exfalso
      have : due (i : Int) (j : Int) = 0 := d0
      omega
  · have k5 : (r < due (i : Int) (j : Int) ∨ levT (wordOf (i : Int)) (wordOf (j : Int)) r = due (i : Int) (j : Int)) ∧ (due (i : Int) (j : Int) ≤ r ∨ r < levT (wordOf (i : Int)) (wordOf (j : Int)) r) := by
      simp only [List.all_cons, List.all_nil, Bool.and_true, Bool.and_eq_true, Bool.or_eq_true, decide_eq_true_eq, beq_iff_eq] at k4
      rcases hr with rfl | rfl
      · exact k4.1
      · exact k4.2
    refine ⟨_, sp_lev G _ _ r _ _ _ (by omega) k2 k3 k1, fun q => ?_, fun q => ?_⟩
    · exact k5.1.resolve_left (by omega)
    · exact k5.2.resolve_left (by omega)
end Mine

end
section
open PySem PySem.W PyProof.Rows PySem.Calls
set_option maxRecDepth 100000
namespace Mine

/-! plain facts -/
theorem flat_filter {α : Type} (xs : List α) (p : α → Bool) (f : α → PV) : (xs.flatMap fun x => if p x then [f x] else []) = (xs.filter p).map f := by
  induction xs with
  | nil => rfl
  | cons x xs ih =>
    rw [List.flatMap_cons, ih, List.filter_cons]
    split <;> simp
theorem encs_map {α : Type} (f : α → PyData) : ∀ xs : List α, encs (xs.map f) = xs.map fun x => enc (f x)
  | [] => rfl
  | x :: xs => by show enc (f x) :: encs (xs.map f) = _; rw [encs_map f xs]; rfl
theorem shaped_int (k : Int) : SeqAt.shaped (.int k) = true := rfl
theorem flat_len {α : Type} (xs : List α) (f : α → List PV) (m : Nat) (h : ∀ x ∈ xs, (f x).length ≤ m) : (xs.flatMap f).length ≤ xs.length * m := by
  induction xs with
  | nil => simp
  | cons x xs ih =>
    rw [List.flatMap_cons, List.length_append, List.length_cons, Nat.add_mul]
    have h1 := h x List.mem_cons_self
    have h2 := ih fun y hy => h y (List.mem_cons_of_mem _ hy)
    omega
section
variable {c : Cx}
theorem c_notin_ints {x : Int} {ns : List Int} : Op2 c (compareOp .NotIn) (.int x) (.list (ns.map PV.int)) (.bool (!ns.any (· == x))) := by
  have k := c_notin_d (c := c) (d := .int x) (ds := ns.map PyData.int) rfl (fun e he => by obtain ⟨n, _, rfl⟩ := List.mem_map.mp he; rfl)
  rw [encs_map, List.any_map] at k
  exact k
theorem eqv_ints_nil : ∀ ns : List Int, PyData.eqv (.list (ns.map PyData.int)) (.list []) = ns.isEmpty
  | [] => rfl
  | _ :: _ => rfl
theorem c_eq_ints_nil {ns : List Int} : Op2 c (compareOp .Eq) (.list (ns.map PV.int)) (.list []) (.bool ns.isEmpty) := by
  have k := c_eq_d (c := c) (a := .list (ns.map PyData.int)) (b := .list []) (shaped_ints ns) rfl
  rw [eqv_ints_nil] at k
  have e : enc (.list (ns.map PyData.int)) = .list (ns.map PV.int) := by show PV.list (encs _) = _; rw [encs_map]; rfl
  rw [e] at k
  exact k
theorem noD_set {D : Addr} {l : List Bnd} {i : Nat} {d : PV} (h : ∀ (j : Nat) o, l[j]? ≠ some (.ow D o)) : ∀ (j : Nat) o, (l.set i (.fz d))[j]? ≠ some (.ow D o) := fun j o e => by
  by_cases q : i = j
  · subst q
    rw [List.getElem?_set_self'] at e
    cases hq : l[i]? <;> rw [hq] at e <;> cases e
  · rw [List.getElem?_set_ne q] at e
    exact h j o e
end

/-! _law_unmet -/
def sideOf (s : Nat) (p : Nat × Nat) : Nat := if s = 0 then p.1 else p.2
def unmet (arrows : List (Nat × Nat)) (s : Nat) : List Nat := (List.range 4).filter fun k => !(arrows.map fun p => ((sideOf s p : Nat) : Int)).any (· == (k : Int))
def natL (l : List Nat) : List PV := l.map fun (i : Nat) => PV.int (i : Int)
section
variable {g : Gl} (G : GF g)
include G
theorem sp_unmet (arrows : List (Nat × Nat)) (s : Nat) (hs : s < 2) (hl : arrows.length ≤ 100) : FSpec g 1 "_law_unmet" [.list (arrows.map pairD), .int (s : Int)] (.list (natL (unmet arrows s))) := by
  refine fspec_of (d := recAt 16) ["arrows", "side"] ["met"] (mem_recs G 9 _ rfl) (by kernel_rfl!) rfl (fun vs pm cd doc h => by
    match vs, h with
    | [_, _], _ => rfl) fun sb A env ow pm cd doc L a henv => ?_
  subst henv
  refine xs_setc 2 rfl rfl (ev_comp (evc_m ["arrow"] [("side", 1)] arrows pairD (fun p => .int ((sideOf s p : Nat) : Int)) (by kernel_rfl!) rfl (it_list (ev_name 0 rfl rfl)) (fun C D p hp => ?_) (by rw [sizeLine_eq]; omega))) (by rfl) ?_
  · refine ev_sub (ev_name 0 rfl rfl) (ev_name 1 rfl rfl) (s_tuple (by omega) (by omega) ?_)
    show [PV.int (p.1 : Int), .int (p.2 : Int)][s]? = _
    unfold sideOf
    have : s = 0 ∨ s = 1 := by omega
    rcases this with rfl | rfl <;> rfl
  have e : (arrows.map fun p => PV.int ((sideOf s p : Nat) : Int)) = (arrows.map fun p => ((sideOf s p : Nat) : Int)).map PV.int := by rw [List.map_map]; rfl
  rw [e]
  refine xs_ret (ev_eq (ev_comp (evc_n ["spot"] [("met", 2)] (List.range 4) (fun i => .int (i : Int)) (fun k => !(arrows.map fun p => ((sideOf s p : Nat) : Int)).any (· == (k : Int))) (fun i => .int (i : Int)) (by kernel_rfl!) rfl (i_range0 G (n := 4) ev_int (by decide)) (fun C D i hi => .one (tr_cmp (ev_name 0 rfl rfl) (ev_name 1 rfl rfl) c_notin_ints)) (fun C D i hi q => ev_name 0 rfl rfl) ?_)) ?_) rfl fun _ h => h
  · rw [flat_filter, List.length_map, sizeLine_eq]
    have := List.length_filter_le (fun k : Nat => !(arrows.map fun p => ((sideOf s p : Nat) : Int)).any (· == (k : Int))) (List.range 4)
    rw [List.length_range] at this
    omega
  · rw [flat_filter]; rfl
end

/-! _law_longest -/
def imax (ns : List Int) : Int := ns.getD (argBest (fun i j => decide (ns.getD i 0 > ns.getD j 0)) (ns.length - 1)) 0
def lowsOf (arrows : List (Nat × Nat)) (spot : Nat) (d : List (Int × Int)) : List Int := (arrows.filter fun p => (p.2 : Int) == (spot : Int)).map fun p => (lookI (p.1 : Int) d).getD 0
def dstep (arrows : List (Nat × Nat)) (d : List (Int × Int)) (spot : Nat) : List (Int × Int) := putI (spot : Int) (1 + imax (0 :: lowsOf arrows spot d)) d
def depthTo (arrows : List (Nat × Nat)) (going : List Nat) : List (Int × Int) := going.foldl (dstep arrows) []
def longest (arrows : List (Nat × Nat)) (going : List Nat) : Int := imax (going.map fun (s : Nat) => (lookI (s : Int) (depthTo arrows going)).getD 0)

theorem putI_len (k v : Int) (d : List (Int × Int)) : (putI k v d).length ≤ d.length + 1 := by
  unfold putI; split <;> simp
theorem lookI_map (k v : Int) : ∀ d : List (Int × Int), d.any (fun p => decide (p.1 = k)) = true → lookI k (d.map fun p => if p.1 = k then (p.1, v) else p) = some v
  | [], h => by simp at h
  | (a, b) :: r, h => by
    by_cases e : a = k
    · simp [e, lookI]
    · have : r.any (fun p => decide (p.1 = k)) = true := by simpa [e] using h
      simpa [e, lookI] using lookI_map k v r this
theorem lookI_app (k v : Int) : ∀ d : List (Int × Int), d.any (fun p => decide (p.1 = k)) = false → lookI k (d ++ [(k, v)]) = some v
  | [], h => by simp [lookI]
  | (a, b) :: r, h => by
    have e : ¬ a = k := by
      intro e; simp [e] at h
    have : r.any (fun p => decide (p.1 = k)) = false := by simpa [e] using h
    simpa [e, lookI] using lookI_app k v r this
theorem lookI_self (k v : Int) (d : List (Int × Int)) : lookI k (putI k v d) = some v := by
  unfold putI
  split
  · exact lookI_map k v d ‹_›
  · rename_i hq; exact lookI_app k v d (Bool.eq_false_iff.mpr hq)
theorem lookI_mapo (j k v : Int) : ∀ d : List (Int × Int), (lookI j d).isSome = true → (lookI j (d.map fun p => if p.1 = k then (p.1, v) else p)).isSome = true
  | [], h => by simp [lookI] at h
  | (a, b) :: r, h => by
    by_cases e : a = k
    · by_cases q : a = j
      · subst q; simp [e, lookI]
      · have h' : (lookI j r).isSome = true := by simpa [lookI, q] using h
        subst e
        simpa [lookI, q] using lookI_mapo j a v r h'
    · by_cases q : a = j
      · subst q; simp [e, lookI]
      · have h' : (lookI j r).isSome = true := by simpa [lookI, q] using h
        simpa [lookI, q, e] using lookI_mapo j k v r h'
theorem lookI_appo (j : Int) (t : List (Int × Int)) : ∀ d : List (Int × Int), (lookI j d).isSome = true → (lookI j (d ++ t)).isSome = true
  | [], h => by simp [lookI] at h
  | (a, b) :: r, h => by
    by_cases q : a = j
    · simp [lookI, q]
    · have h' : (lookI j r).isSome = true := by simpa [lookI, q] using h
      simpa [lookI, q] using lookI_appo j t r h'
theorem lookI_other (j k v : Int) (d : List (Int × Int)) (h : (lookI j d).isSome = true) : (lookI j (putI k v d)).isSome = true := by
  unfold putI
  split
  · exact lookI_mapo j k v d h
  · exact lookI_appo j _ d h
theorem fold_keep (arrows : List (Nat × Nat)) (j : Int) : ∀ (going : List Nat) (d : List (Int × Int)), (lookI j d).isSome = true → (lookI j (going.foldl (dstep arrows) d)).isSome = true
  | [], d, h => h
  | s :: r, d, h => fold_keep arrows j r (dstep arrows d s) (lookI_other j _ _ d h)
theorem fold_has (arrows : List (Nat × Nat)) (j : Nat) : ∀ (going : List Nat) (d : List (Int × Int)), j ∈ going → (lookI (j : Int) (going.foldl (dstep arrows) d)).isSome = true
  | [], d, h => by cases h
  | s :: r, d, h => by
    rcases List.mem_cons.mp h with e | h
    · subst e
      exact fold_keep arrows _ r _ (by show (lookI _ (putI _ _ d)).isSome = true; rw [lookI_self]; rfl)
    · exact fold_has arrows j r _ h
theorem fold_len (arrows : List (Nat × Nat)) : ∀ (going : List Nat) (d : List (Int × Int)), (going.foldl (dstep arrows) d).length ≤ d.length + going.length
  | [], d => by simp
  | s :: r, d => by
    have h1 := fold_len arrows r (dstep arrows d s)
    have h2 : (dstep arrows d s).length ≤ d.length + 1 := putI_len ..
    rw [List.foldl_cons, List.length_cons]
    omega

section
variable {g : Gl} (G : GF g)
include G
set_option maxHeartbeats 4000000 in
theorem sp_longest (hsm : True) (going : List Nat) (arrows : List (Nat × Nat)) (hg : 0 < going.length) (hg2 : going.length ≤ 100) (hl : arrows.length ≤ 100) : FSpec g 1 "_law_longest" [.list (natL going), .list (arrows.map pairD)] (.int (longest arrows going)) := by
  refine fspec_of (d := recAt 15) ["going", "arrows"] ["depth", "spot"] (mem_recs G 8 _ rfl) (by kernel_rfl!) rfl (fun vs pm cd doc h => by
    match vs, h with
    | [_, _], _ => rfl) fun sb A env ow pm cd doc L a henv => ?_
  subst henv
  refine xs_newdict 2 rfl (List.mem_of_getElem? (i := 2) rfl) hsm fun aD haD => ?_
  refine xs_for (fun k => (fnCx g A 0 (fnEnv (recAt 15) pm cd doc L a) ["going", "arrows"] ["depth", "spot"] [.list (natL going), .list (arrows.map pairD)] ow).weak [.fz (.list (natL going)), .fz (.list (arrows.map pairD)), .ow aD (.dct (depthTo arrows (going.take k))), .un] (aD :: ow))
    (fun k => (fnCx g A 0 (fnEnv (recAt 15) pm cd doc L a) ["going", "arrows"] ["depth", "spot"] [.list (natL going), .list (arrows.map pairD)] ow).weak [.fz (.list (natL going)), .fz (.list (arrows.map pairD)), .ow aD (.dct (depthTo arrows (going.take k))), .fz (.int ((going.getD k 0 : Nat) : Int))] (aD :: ow))
    (fun _ => True) (it_list (ev_name 0 rfl rfl)) rfl trivial (fun k => ⟨rfl, rfl, rfl, rfl, rfl, rfl, rfl⟩) (fun k => ⟨rfl, rfl, rfl, rfl, rfl, rfl, rfl⟩) (fun k b hb => mut_set (i := 3) (d := .int ((going.getD k 0 : Nat) : Int)) hb) (fun k d hd _ => ?_) (fun k d st hd _ => ?_) fun _ => ?_
  · have hk : k < going.length := by
      have := (List.getElem?_eq_some_iff.mp hd).1
      simpa [natL] using this
    have e : d = .int ((going.getD k 0 : Nat) : Int) := by
      unfold natL at hd
      rw [List.getElem?_map, List.getElem?_eq_getElem hk] at hd
      cases hd
      simp [List.getD, hk]
    subst e
    exact ta_name 3 rfl (List.mem_of_getElem? (i := 3) rfl)
  · have hk : k < going.length := by
      have := (List.getElem?_eq_some_iff.mp hd).1
      simpa [natL] using this
    have hlen := fold_len arrows (going.take k) []
    have e1 : depthTo arrows (going.take (k + 1)) = dstep arrows (depthTo arrows (going.take k)) (going.getD k 0) := by
      unfold depthTo
      rw [List.take_add_one, List.foldl_append, List.getElem?_eq_getElem hk]
      simp [List.getD, hk]
    generalize hd0 : depthTo arrows (going.take k) = dd at e1 ⊢
    generalize hs0 : going.getD k 0 = spot at e1 ⊢
    refine xs_setdict 2 rfl rfl ⟨trivial, trivial, trivial, trivial⟩ (n := 1 + imax (0 :: lowsOf arrows spot dd)) (ev_bin ev_int (e_max G (evs1 (ev_eq (ev_bin (ev_list (evs1 ev_int)) (ev_comp (evc_p ["low", "high"] [("depth", 2), ("spot", 3)] arrows (fun p => .int (p.1 : Int)) (fun p => .int (p.2 : Int)) (fun p => (p.2 : Int) == (spot : Int)) (fun p => .int ((lookI (p.1 : Int) dd).getD 0)) (by kernel_rfl!) rfl rfl (it_list (ev_name 1 rfl rfl)) (fun C D z hz => .one (tr_cmp (ev_name 1 rfl rfl) (ev_name 3 rfl rfl) c_eq_ii)) (fun C D z hz q => ev_dget 2 rfl rfl (ev_name 0 rfl rfl) ev_int) ?_)) (b_add_ll ?_)) ?_)) (f_max_ints (ns := 0 :: lowsOf arrows spot dd) (by simp))) b_add_ii) (ev_name 3 rfl rfl) ?_ ?_
    · rw [flat_filter, List.length_map, sizeLine_eq]
      have := List.length_filter_le (fun p : Nat × Nat => (p.2 : Int) == (spot : Int)) arrows
      omega
    · rw [flat_filter, List.length_map, sizeLine_eq]
      have := List.length_filter_le (fun p : Nat × Nat => (p.2 : Int) == (spot : Int)) arrows
      simp; omega
    · rw [flat_filter]; unfold lowsOf; rw [List.map_cons, List.map_map]; rfl
    · rw [sizeLine_eq, ← hd0]; unfold depthTo
      have : (going.take k).length ≤ 100 := by rw [List.length_take]; omega
      have h0 : ([] : List (Int × Int)).length = 0 := rfl
      omega
    rw [e1]
    exact xs_done rfl (by repeat (first | exact WL.nil | refine WL.un ?_ | refine WL.same (by first | exact trivial | exact List.mem_cons_self | exact List.mem_cons_of_mem _ List.mem_cons_self) ?_ | refine WL.frz (by assumption) ?_)) (fun _ h => h) trivial
  · have hlen : (natL going).length = going.length := by simp [natL]
    rw [hlen, List.take_length]
    refine xs_ret (ev_eq (e_max G (evs1 (ev_eq (ev_comp (evc_m ["spot"] [("depth", 2)] going (fun i => .int (i : Int)) (fun s => .int ((lookI (s : Int) (depthTo arrows going)).getD 0)) (by kernel_rfl!) rfl (it_list (ev_name 0 rfl rfl)) (fun C D s hs => ev_ditem 1 rfl rfl (ev_name 0 rfl rfl) ?_) (by rw [sizeLine_eq]; omega))) ?_)) (f_max_ints (ns := going.map fun (s : Nat) => (lookI (s : Int) (depthTo arrows going)).getD 0) (by simpa using hg))) ?_) rfl fun _ h => List.mem_cons_of_mem _ h
    · have := fold_has arrows s going [] hs
      unfold depthTo
      cases q : lookI (s : Int) (going.foldl (dstep arrows) []) with
      | none => rw [q] at this; cases this
      | some v => rfl
    · rw [List.map_map]; rfl
    · rfl
end
end Mine

end
section
open PySem PySem.W PyProof.Rows PySem.Calls
set_option maxRecDepth 100000
namespace Mine

/-! _law_paintings -/
def tableP (tb : Nat → Nat → Bool × Bool) : List PV := (List.range 3).map fun i => PV.list ((List.range 3).map fun j => signD (tb i j))
def badP (near : List (Nat × Nat)) (tb : Nat → Nat → Bool × Bool) (spot : Nat) (row : List Nat) (paint : Nat) (z : Nat × Nat) : Bool := ((z.2 : Int) == (spot : Int)) && ((!(tb (row.getD z.1 0) paint).1) && true)
def okP (near : List (Nat × Nat)) (tb : Nat → Nat → Bool × Bool) (spot : Nat) (row : List Nat) (paint : Nat) : Bool := ((near.filter (badP near tb spot row paint)).map fun z => (z.1 : Int)).isEmpty
def rowsTo (many : Nat) (near : List (Nat × Nat)) (tb : Nat → Nat → Bool × Bool) : Nat → List (List Nat)
  | 0 => [[]]
  | k + 1 => (rowsTo many near tb k).flatMap fun row => (List.range many).flatMap fun paint => if okP near tb k row paint then [row ++ [paint]] else []
def paintings (many : Nat) (near : List (Nat × Nat)) (tb : Nat → Nat → Bool × Bool) : Int := ((rowsTo many near tb 4).length : Nat)

theorem rows_ok (many : Nat) (near : List (Nat × Nat)) (tb : Nat → Nat → Bool × Bool) : ∀ k, ∀ row ∈ rowsTo many near tb k, row.length = k ∧ ∀ q ∈ row, q < many
  | 0, row, h => by
    have : row = [] := by simpa [rowsTo] using h
    subst this; exact ⟨rfl, fun q hq => by cases hq⟩
  | k + 1, row, h => by
    simp only [rowsTo, List.mem_flatMap, List.mem_range] at h
    obtain ⟨r, hr, p, hp, h⟩ := h
    obtain ⟨h1, h2⟩ := rows_ok many near tb k r hr
    split at h
    · rw [List.mem_singleton] at h
      subst h
      refine ⟨by simp [h1], fun q hq => ?_⟩
      rcases List.mem_append.mp hq with hq | hq
      · exact h2 q hq
      · rw [List.mem_singleton.mp hq]; exact hp
    · cases h
theorem flat_len' {α β : Type} (xs : List α) (f : α → List β) (m : Nat) (h : ∀ x ∈ xs, (f x).length ≤ m) : (xs.flatMap f).length ≤ xs.length * m := by
  induction xs with
  | nil => simp
  | cons x xs ih =>
    rw [List.flatMap_cons, List.length_append, List.length_cons, Nat.add_mul]
    have h1 := h x List.mem_cons_self
    have h2 := ih fun y hy => h y (List.mem_cons_of_mem _ hy)
    omega
theorem inner_len {α β : Type} (xs : List α) (p : α → Bool) (f : α → β) : (xs.flatMap fun y => if p y then [f y] else []).length ≤ xs.length := by
  have := flat_len' xs (fun y => if p y then [f y] else []) 1 fun y _ => by split <;> simp
  omega
theorem rows_len (many : Nat) (hm : many ≤ 3) (near : List (Nat × Nat)) (tb : Nat → Nat → Bool × Bool) : ∀ k, (rowsTo many near tb k).length ≤ 3 ^ k
  | 0 => by simp [rowsTo]
  | k + 1 => by
    have h1 := rows_len many hm near tb k
    have h2 : (rowsTo many near tb (k + 1)).length ≤ (rowsTo many near tb k).length * 3 := flat_len' _ _ 3 fun row _ => Nat.le_trans (inner_len _ _ _) (by rw [List.length_range]; exact hm)
    rw [Nat.pow_succ]
    have h3 := Nat.mul_le_mul_right 3 h1
    omega
def rowD (row : List Nat) : PV := .list (natL row)
theorem natL_at {row : List Nat} {i : Nat} (h : i < row.length) : (natL row)[((i : Nat) : Int).toNat]? = some (.int ((row.getD i 0 : Nat) : Int)) := by
  show (natL row)[i]? = _
  unfold natL
  rw [List.getElem?_map, List.getElem?_eq_getElem h]; simp [List.getD, h]
theorem range3_at {f : Nat → PV} {i : Nat} (h : i < 3) : ((List.range 3).map f)[((i : Nat) : Int).toNat]? = some (f i) := by
  show ((List.range 3).map f)[i]? = _
  rw [List.getElem?_map, List.getElem?_range h]; rfl
theorem map_flat {α β : Type} (f : α → β) (xs : List (List α)) : (xs.flatMap fun x => x).map f = xs.flatMap fun x => x.map f := by
  induction xs with
  | nil => rfl
  | cons x xs ih => rw [List.flatMap_cons, List.map_append, ih, List.flatMap_cons]
theorem rows_succ_D (many : Nat) (near : List (Nat × Nat)) (tb : Nat → Nat → Bool × Bool) (k : Nat) :
    ((rowsTo many near tb k).flatMap fun row => (List.range many).flatMap fun paint => if okP near tb k row paint then [rowD (row ++ [paint])] else []) = (rowsTo many near tb (k + 1)).map rowD := by
  show _ = ((rowsTo many near tb k).flatMap fun row => (List.range many).flatMap fun paint => if okP near tb k row paint then [row ++ [paint]] else []).map rowD
  rw [List.map_flatMap]
  congr 1
  funext row
  rw [List.map_flatMap]
  congr 1
  funext paint
  split <;> rfl

section
variable {g : Gl} (G : GF g)
include G
set_option maxHeartbeats 4000000 in
theorem sp_paintings (many : Nat) (hm : many ≤ 3) (near : List (Nat × Nat)) (tb : Nat → Nat → Bool × Bool) (hl : near.length ≤ 100) (hn : ∀ z ∈ near, z.1 < z.2) :
    FSpec g 1 "_law_paintings" [.int (many : Int), .list (near.map pairD), .list (tableP tb)] (.int (paintings many near tb)) := by
  refine fspec_of (d := recAt 14) ["many", "near", "table"] ["rows", "spot"] (mem_recs G 7 _ rfl) (by kernel_rfl!) rfl (fun vs pm cd doc h => by
    match vs, h with
    | [_, _, _], _ => rfl) fun sb A env ow pm cd doc L a henv => ?_
  subst henv
  refine xs_set 3 rfl rfl (ev_list (evs1 (ev_list evs_nil))) ?_
  refine xs_for (fun k => (fnCx g A 0 (fnEnv (recAt 14) pm cd doc L a) ["many", "near", "table"] ["rows", "spot"] [.int (many : Int), .list (near.map pairD), .list (tableP tb)] ow).weak [.fz (.int (many : Int)), .fz (.list (near.map pairD)), .fz (.list (tableP tb)), .fz (.list ((rowsTo many near tb k).map rowD)), .un] ow)
    (fun k => (fnCx g A 0 (fnEnv (recAt 14) pm cd doc L a) ["many", "near", "table"] ["rows", "spot"] [.int (many : Int), .list (near.map pairD), .list (tableP tb)] ow).weak [.fz (.int (many : Int)), .fz (.list (near.map pairD)), .fz (.list (tableP tb)), .fz (.list ((rowsTo many near tb k).map rowD)), .fz (.int (k : Int))] ow)
    (fun _ => True) (i_range0 G (n := 4) ev_int (by decide)) rfl trivial (fun k => ⟨rfl, rfl, rfl, rfl, rfl, rfl, rfl⟩) (fun k => ⟨rfl, rfl, rfl, rfl, rfl, rfl, rfl⟩) (fun k b hb => mut_set (i := 4) (d := .int (k : Int)) hb) (fun k d hd _ => ?_) (fun k d st hd _ => ?_) fun _ => ?_
  · obtain ⟨hk, rfl⟩ := range_at hd
    exact ta_name 4 rfl (List.mem_of_getElem? (i := 4) rfl)
  · obtain ⟨hk, rfl⟩ := range_at hd
    have hrl : (rowsTo many near tb k).length ≤ 81 := Nat.le_trans (rows_len many hm near tb k) (Nat.pow_le_pow_right (by decide) (show k ≤ 4 by omega))
    refine xs_comp 3 rfl rfl (evc_2 ["row", "paint"] [("many", 0), ("near", 1), ("table", 2), ("spot", 4)] (rowsTo many near tb k) rowD (fun _ => List.range many) (fun i => .int (i : Int)) (fun row paint => okP near tb k row paint) (fun row paint => rowD (row ++ [paint]))
      (fun C D row => (compCx _ _ C D ["row", "paint"] [("many", 0), ("near", 1), ("table", 2), ("spot", 4)]).set 0 (.fz (rowD row)))
      (fun C D row paint => ((compCx _ _ C D ["row", "paint"] [("many", 0), ("near", 1), ("table", 2), ("spot", 4)]).set 0 (.fz (rowD row))).set 1 (.fz (.int (paint : Int))))
      (by kernel_rfl!) (it_list (ev_name 3 rfl rfl)) (fun C D x => Same.set ..) (fun C D x y => Same.set ..) (fun C D x hx => ta_name 0 rfl (List.mem_of_getElem? (i := 0) rfl)) (fun C D x s hc => CX.unset rfl hc)
      (fun C D x hx => i_range0 G (ev_name 2 rfl rfl) (by omega)) (fun C D x y hx hy => ta_name 1 rfl (List.mem_of_getElem? (i := 1) rfl)) (fun C D x y s hc => CX.unset rfl hc) (fun C D x no => noD_set no)
      (fun C D row paint hrow hp => .one ?_) (fun C D row paint hrow hp q => ?_) ?_) (by rfl) ?_
    · obtain ⟨r1, r2⟩ := rows_ok many near tb k row hrow
      have hp' := List.mem_range.mp hp
      refine tr_cmp (ev_eq (ev_comp (evc_p ["low", "high"] [("paint", 1), ("row", 0), ("spot", 5), ("table", 4)] near (fun z => .int (z.1 : Int)) (fun z => .int (z.2 : Int)) (badP near tb k row paint) (fun z => .int (z.1 : Int)) (by kernel_rfl!) rfl rfl (it_list (ev_name 3 rfl rfl)) (fun C' D' z hz => .one ?_) (fun C' D' z hz q => ev_name 0 rfl rfl) ?_)) ?_) (ev_list evs_nil) c_eq_ints_nil
      · refine tr_bool (trs_and (tr_cmp (ev_name 1 rfl rfl) (ev_name 4 rfl rfl) c_eq_ii) fun h1 => trs_and (tr_not (tr_val (d := .bool (tb (row.getD z.1 0) paint).1) (ev_sub (ev_sub (ev_sub (ev_name 5 rfl rfl) (ev_sub (ev_name 3 rfl rfl) (ev_name 0 rfl rfl) (s_list (by omega) ?_ (natL_at ?_))) (s_list (by omega) ?_ (range3_at ?_))) (ev_name 2 rfl rfl) (s_list (by omega) (by omega) (range3_at (by omega)))) ev_int (s_tuple (by decide) (by decide) rfl)) trivial)) fun _ => trs_and_nil)
        all_goals
          have hz1 := hn z hz
          have hz2 : (z.2 : Int) = (k : Int) := by simpa using h1
          have hz3 : z.1 < row.length := by omega
          have hz4 : row.getD z.1 0 < 3 := by
            have : row.getD z.1 0 ∈ row := by
              rw [List.getD_eq_getElem?_getD, List.getElem?_eq_getElem hz3]; exact List.getElem_mem hz3
            have := r2 _ this
            omega
          omega
      · rw [flat_filter, List.length_map, sizeLine_eq]
        have := List.length_filter_le (badP near tb k row paint) near
        omega
      · rw [flat_filter, List.map_map]; rfl
    · refine ev_eq (ev_bin (ev_name 0 rfl rfl) (ev_list (evs1 (ev_name 1 rfl rfl))) (b_add_ll ?_)) ?_
      · obtain ⟨r1, r2⟩ := rows_ok many near tb k row hrow
        have : (natL row).length = row.length := by simp [natL]
        rw [this, sizeLine_eq]; simp; omega
      · show PV.list _ = .list (natL (row ++ [paint])); unfold natL; rw [List.map_append]; rfl
    · rw [rows_succ_D, List.length_map, sizeLine_eq]
      have := rows_len many hm near tb (k + 1)
      have h3 : 3 ^ (k + 1) ≤ 3 ^ 4 := Nat.pow_le_pow_right (by decide) (by omega)
      omega
    rw [rows_succ_D]
    exact xs_done rfl (by repeat (first | exact WL.nil | refine WL.un ?_ | refine WL.same (by first | exact trivial | exact List.mem_cons_self | exact List.mem_cons_of_mem _ List.mem_cons_self) ?_ | refine WL.frz (by assumption) ?_)) (fun _ h => h) trivial
  · have hlen : ((List.range 4).map fun (i : Nat) => PV.int (i : Int)).length = 4 := rfl
    rw [hlen]
    refine xs_ret (ev_eq (e_len G (evs1 (ev_name 3 rfl rfl)) (f_len_list ?_)) ?_) rfl fun _ h => h
    · rw [List.length_map]
      have := rows_len many hm near tb 4
      omega
    · rw [List.length_map]; rfl
end
end Mine

end
section
open PySem PySem.W PyProof.Rows PySem.Calls
set_option maxRecDepth 100000
namespace Mine

/-! sorted, of four pairs with texts all unlike -/
def kRun {α : Type} (f : Nat → Nat → Bool) : KasT α → α
  | .ret a => a
  | .ask i j k => kRun f (k (f i j))
def kIn {α : Type} (n : Nat) (P : α → Bool) : KasT α → Bool
  | .ret a => P a
  | .ask i j k => decide (i < n) && decide (j < n) && decide (i ≠ j) && kIn n P (k true) && kIn n P (k false)
theorem k_wp {α : Type} {cmp : Nat → Nat → (Bool → Shared → Prop) → Shared → Prop} {f : Nat → Nat → Bool} {n : Nat} {P : α → Bool} {s : Shared} (h : ∀ i j, i < n → j < n → i ≠ j → ∀ C : Bool → Shared → Prop, C (f i j) s → cmp i j C s) {Q : α → Shared → Prop} :
    ∀ (t : KasT α), kIn n P t = true → Q (kRun f t) s → t.kasWp cmp Q s
  | .ret a, _, q => q
  | .ask i j k, hk, q => by
    simp only [kIn, Bool.and_eq_true, decide_eq_true_eq] at hk
    obtain ⟨⟨⟨⟨h1, h2⟩, h3⟩, h4⟩, h5⟩ := hk
    refine h i j h1 h2 h3 _ ?_
    have q' : Q (kRun f (k (f i j))) s := q
    cases hb : f i j with
    | true => rw [hb] at q'; exact k_wp h (k true) h4 q'
    | false => rw [hb] at q'; exact k_wp h (k false) h5 q'
theorem k_leaf {α : Type} {f : Nat → Nat → Bool} {n : Nat} {P : α → Bool} : ∀ (t : KasT α), kIn n P t = true → P (kRun f t) = true
  | .ret a, h => h
  | .ask i j k, hk => by
    simp only [kIn, Bool.and_eq_true, decide_eq_true_eq] at hk
    obtain ⟨⟨⟨⟨h1, h2⟩, h3⟩, h4⟩, h5⟩ := hk
    show P (kRun f (k (f i j))) = true
    cases hb : f i j with
    | true => exact k_leaf (k true) h4
    | false => exact k_leaf (k false) h5
theorem kin4 : kIn 4 (fun p : Array Nat => (p.toList.all fun i => decide (i < 4)) && decide (p.toList.length = 4)) (kas_sort 4) = true := by decide +kernel

def permOf (f : Nat → Nat → Bool) : List Nat := (kRun f (kas_sort 4)).toList
theorem perm_lt (f : Nat → Nat → Bool) : ∀ i ∈ permOf f, i < 4 := fun i hi => by
  have := k_leaf (f := f) (kas_sort 4) kin4
  rw [Bool.and_eq_true, List.all_eq_true] at this
  exact of_decide_eq_true (this.1 i hi)
theorem perm_len (f : Nat → Nat → Bool) : (permOf f).length = 4 := by
  have := k_leaf (f := f) (kas_sort 4) kin4
  rw [Bool.and_eq_true] at this
  exact of_decide_eq_true this.2

section
variable {prog : Program} {w : World} {A : Around} {E : Value → Shared → Prop} {s : Shared}
theorem my_sort {vs : List Value} {f : Nat → Nat → Bool} {a : Addr} {n : Nat} {P : PySem.Fin → Shared → Prop} (ho : s.heap.get? a = some (seqObj "list" vs.toArray n)) (h4 : vs.length = 4)
    (hk : ∀ s' : Shared, (∀ b o, b ≠ a → s.heap.get? b = some o → s'.heap.get? b = some o) → ∀ Q : SortKind → Shared → Prop, Q (tuples' true) s' → wpAny (model prog w) A (keyKind' vs.toArray) Q (fun _ _ => False) s')
    (hlt : ∀ s' : Shared, (∀ b o, b ≠ a → s.heap.get? b = some o → s'.heap.get? b = some o) → ∀ i j, i < 4 → j < 4 → i ≠ j → ∀ C : Bool → Shared → Prop, C (f i j) s' → kas_ask prog w A (tuples' true) vs i j C s')
    (h : ∀ h' c2, (∀ b o, b ≠ a → s.heap.get? b = some o → h'.get? b = some o) → h'.get? a = some (seqObj "list" (List.toArray ((permOf f).map fun i => vs.getD i Value.none)) c2) → P (.done (.ret .none)) { s with heap := h' }) :
    wpAny (model prog w) A (Builtin.«list.sort» ⟨[.ref a], []⟩) P E s := by
  have hz : sizeLine = 16777216 := sizeLine_eq
  have hsz4 : vs.toArray.size = 4 := by rw [List.size_toArray]; exact h4
  obtain ⟨e1, ho1⟩ : ∃ e1, (s.heap.update a (Obj.mapSeq fun _ => (#[] : Array Value))).get? a = some (seqObj "list" #[] e1) := ⟨_, get?_update_seq ho fun _ => #[]⟩
  have sb1 := Heap.SameBut.update s.heap a (Obj.mapSeq fun _ => (#[] : Array Value))
  rw [list_sort_plain]
  refine wpAny_bind (listItems_at ho rfl ?_)
  refine wpAny_bind (listUpdate_at ho rfl ?_ (by omega) (Nat.zero_le _))
  refine wpAny_bind (seqEpoch_at ho1 rfl ?_)
  refine wpAny_bind (wpAny_newTuple ?_ (by show vs.length ≤ _; omega))
  refine wpAny_bind (wpAny_newList ?_ (Nat.zero_le _))
  refine wpAny_holding ?_
  have keep : ∀ b o, b ≠ a → s.heap.get? b = some o → (((s.heap.update a (Obj.mapSeq fun _ => (#[] : Array Value))).push (seqObj "tuple" vs.toArray 0)).push (seqObj "list" #[] 0)).get? b = some o := fun b o hb g =>
    Heap.get?_push_of_some _ (Heap.get?_push_of_some _ ((sb1.2 b hb).trans g))
  have ho3 : (((s.heap.update a (Obj.mapSeq fun _ => (#[] : Array Value))).push (seqObj "tuple" vs.toArray 0)).push (seqObj "list" #[] 0)).get? a = some (seqObj "list" #[] e1) := Heap.get?_push_of_some _ (Heap.get?_push_of_some _ ho1)
  show wpAny (model prog w) A _ P E { s with heap := ((s.heap.update a (Obj.mapSeq fun _ => (#[] : Array Value))).push (seqObj "tuple" vs.toArray 0)).push (seqObj "list" #[] 0) }
  generalize ((s.heap.update a (Obj.mapSeq fun _ => (#[] : Array Value))).push (seqObj "tuple" vs.toArray 0)).push (seqObj "list" #[] 0) = H3 at keep ho3 ⊢
  have hn2 : ¬ vs.toArray.size < 2 := by omega
  dsimp only
  rw [if_neg hn2, if_neg hn2]
  refine wpAny_bind (wpAny_mono (hk { s with heap := H3 } keep (fun κ s' => κ = tuples' true ∧ s' = { s with heap := H3 }) ⟨rfl, rfl⟩) (fun κ s0 hq => ?_) fun _ _ x => x.elim)
  obtain ⟨rfl, rfl⟩ := hq
  have tree : (kas_sort vs.length).kasWp (kas_ask prog w A (tuples' true) vs) (fun p s' => p.toList = permOf f ∧ s' = { s with heap := H3 }) { s with heap := H3 } := by
    rw [h4]
    exact k_wp (f := f) (hlt _ keep) (kas_sort 4) kin4 ⟨rfl, rfl⟩
  refine wpAny_bind (wpAny_mono (kat_run (Q := fun st' s' => ∃ p : Array Nat, arrOf st' = p.map (kas_item (vs.toArray.zip vs.toArray)) ∧ failedOf st' = none ∧ p.toList = permOf f ∧ s' = { s with heap := H3 }) rfl (by omega) (by omega) (fun p st' s' a1 a2 a3 a4 => ⟨p, a2, a3, a4.1, a4.2⟩) tree) ?_ fun _ _ e => e)
  rintro ⟨⟨⟩, st'⟩ s' ⟨p, har, hf, hp, rfl⟩
  dsimp only
  have hout := kat_snds rfl har
  rw [hp] at hout
  rw [hout]
  refine wpAny_bind (seqEpoch_at ho3 rfl ?_)
  have hps := perm_len f
  refine wpAny_bind (listUpdate_at ho3 rfl ?_ (Nat.zero_le _) (by rw [List.size_toArray, List.length_map]; omega))
  rw [hf]
  simp only [bne_self_eq_false, Bool.false_eq_true, if_false]
  refine wpAny_pure ?_
  have sb2 := Heap.SameBut.update H3 a (Obj.mapSeq fun _ => List.toArray ((permOf f).map fun i => vs.getD i Value.none))
  exact h _ _ (fun b o hb g => (sb2.2 b hb).trans (keep b o hb g)) (get?_update_seq ho3 fun _ => _)
end

def tD (p : Str × Nat) : PV := .tuple [.str p.1, .int (p.2 : Int)]
def tLt (ts : List (Str × Nat)) (i j : Nat) : Bool := decide ((ts.getD i default).1.cps.toList < (ts.getD j default).1.cps.toList)
theorem DIs.getD {h : Heap} {ow : List Addr} {vs : List Value} {ts : List (Str × Nat)} (x : DIs h ow vs (ts.map tD)) {i : Nat} (hi : i < ts.length) : DI h ow (vs.getD i Value.none) (tD (ts.getD i default)) := by
  obtain ⟨v, h1, h2⟩ := x.get (k := i) (d := tD (ts.getD i default)) (by rw [List.getElem?_map, List.getElem?_eq_getElem hi]; simp [List.getD, hi])
  rw [List.getD, h1]; exact h2
theorem DIs.ofMap {h : Heap} {ow : List Addr} {vs : List Value} {ts : List (Str × Nat)} (x : DIs h ow vs (ts.map tD)) : ∀ (l : List Nat), (∀ i ∈ l, i < ts.length) → DIs h ow (l.map fun i => vs.getD i Value.none) (l.map fun i => tD (ts.getD i default))
  | [], _ => .nil
  | i :: l, hl => .cons (x.getD (hl i List.mem_cons_self)) (DIs.ofMap x l fun j hj => hl j (List.mem_cons_of_mem _ hj))
theorem tups_of {h : Heap} {ow : List Addr} : ∀ {vs : List Value} {ts : List (Str × Nat)}, DIs h ow vs (ts.map tD) → ∃ fs, KatTups h vs fs ∧ fs.length = ts.length ∧ ∀ v ∈ fs, ∃ x t, v = Value.str x t
  | _, [], .nil => ⟨[], KatTups.nil, rfl, fun v hv => by cases hv⟩
  | _, p :: ts, .cons y z => by
    obtain ⟨fs, h1, h2, h3⟩ := tups_of z
    cases y with
    | tuple ha ht hd =>
      obtain ⟨n, g⟩ := ht
      rename_i a us
      cases hu : us.toList with
      | nil => rw [hu] at hd; cases hd
      | cons u0 ur =>
        rw [hu] at hd
        cases hd with
        | cons q r =>
          cases q
          rename_i t
          refine ⟨.str p.1 t :: fs, KatTups.cons g rfl rfl ?_ h1, by simp [h2], fun v hv => ?_⟩
          · rw [← Array.getElem?_toList, hu]; rfl
          · rcases List.mem_cons.mp hv with e | hv
            · exact ⟨_, _, e⟩
            · exact h3 v hv

theorem f_sorted {c : Cx} {ts : List (Str × Nat)} (h4 : ts.length = 4) (hne : ∀ i j, i < 4 → j < 4 → i ≠ j → ((ts.getD i default).1 == (ts.getD j default).1) = false) :
    OpN c (.builtin "sorted") [.list (ts.map tD)] (.list ((permOf (tLt ts)).map fun i => tD (ts.getD i default))) := fun s vs hs hv => by
  have hz : sizeLine = 16777216 := sizeLine_eq
  cases hv with
  | cons y z =>
    cases z
    cases y with
    | list ha hl hd =>
      rename_i l us
      have e1 := hd.length
      rw [List.length_map, h4] at e1
      have hl' : s.heap.IsList l us.toList.toArray := by rw [Array.toArray_toList]; exact hl.isList
      generalize us.toList = vs at hd e1 hl'
      refine Calls.call_function_entry kind_sorted plain_sorted entry_sorted (args_sorted1 _) ?_
      unfold Builtin.«sorted»
      refine wpAny_bind (m := checkCount "sorted" 1 1 _) (wpAny_pure ?_)
      refine wpAny_bind (collect_list hl' ?_ (by omega))
      refine wpAny_bind (wpAny_newList ?_ (by omega))
      have keep0 : ∀ b o, s.heap.get? b = some o → ((s.heap.push (seqObj "list" #[] 0)).update s.heap.objs.size (Obj.mapSeq (· ++ vs.toArray))).get? b = some o := fun b o q => by
        have hlt : b < s.heap.objs.size := Heap.lt_size q
        rw [Heap.get?_update_ne _ _ _ _ (Nat.ne_of_lt hlt)]
        exact Heap.get?_push_of_some _ q
      generalize hH : (s.heap.push (seqObj "list" #[] 0)).update s.heap.objs.size (Obj.mapSeq (· ++ vs.toArray)) = H at keep0
      have hHs : s.heap.objs.size < H.objs.size := by rw [← hH, Heap.size_update, size_push']; exact Nat.lt_succ_self _
      show wpAny _ _ _ _ _ { s with heap := H.push (seqObj "list" vs.toArray 0) }
      have hoL : (H.push (seqObj "list" vs.toArray 0)).get? H.objs.size = some (seqObj "list" vs.toArray 0) := Heap.get?_push_size _ rfl
      have keep : ∀ b o, s.heap.get? b = some o → (H.push (seqObj "list" vs.toArray 0)).get? b = some o := fun b o q => Heap.get?_push_of_some _ (keep0 b o q)
      have hfr : s.heap.get? H.objs.size = none := by
        cases q : s.heap.get? H.objs.size with
        | none => rfl
        | some o => exact absurd (Nat.lt_trans hHs (Heap.lt_size q)) (Nat.lt_irrefl _)
      have nosz : H.objs.size ∉ c.ow := fun m => by obtain ⟨o, q⟩ := hs.vs.live _ m; rw [hfr] at q; cases q
      have up : ∀ s' : Shared, (∀ b o, b ≠ H.objs.size → (H.push (seqObj "list" vs.toArray 0)).get? b = some o → s'.heap.get? b = some o) → ∀ b o, s.heap.get? b = some o → s'.heap.get? b = some o := fun s' k b o q =>
        k b o (fun e => by rw [e, hfr] at q; cases q) (keep b o q)
      refine wpAny_bind (wpAny_holding (wpAny_call_entry slot_list_sort ⟨_, hoL, rfl⟩ entry_list_sort ?body (args_list_sort _)))
      case body =>
        refine my_sort (s := { s with heap := H.push (seqObj "list" vs.toArray 0) }) (f := tLt ts) hoL e1 (fun s' k Q q => ?_) (fun s' k i j hi hj hij C hC => ?_) (fun h' c2 k g => ?_)
        · have hd' : DIs s'.heap c.ow vs (ts.map tD) := hd.ext (up s' k)
          obtain ⟨fs, q1, q2, q3⟩ := tups_of hd'
          refine kat_kind (T := .type "str") q1 (by omega) (fun v hv => ?_) (by decide +kernel) q
          obtain ⟨x, t, rfl⟩ := q3 v hv
          exact fun A Q E s _ q => wpAny_typeOf (typeIs_str s x t) q
        · have hd' : DIs s'.heap c.ow vs (ts.map tD) := hd.ext (up s' k)
          have di := hd'.getD (i := i) (by omega)
          have dj := hd'.getD (i := j) (by omega)
          unfold kas_ask
          generalize vs.getD i Value.none = vi at di ⊢
          generalize vs.getD j Value.none = vj at dj ⊢
          cases di with
          | tuple ai ti xi =>
            cases dj with
            | tuple aj tj xj =>
              obtain ⟨n1, g1⟩ := ti
              obtain ⟨n2, g2⟩ := tj
              refine kat_lt g1 rfl g2 rfl ?_
              rename_i us1 _ us2
              generalize us1.toList = l1 at xi ⊢
              generalize us2.toList = l2 at xj ⊢
              cases xi with
              | cons p1 r1 =>
                cases r1 with
                | cons q1 z1 =>
                  cases z1
                  cases xj with
                  | cons p2 r2 =>
                    cases r2 with
                    | cons q2 z2 =>
                      cases z2
                      cases p1
                      cases p2
                      refine kat_cons (SeqAt.EqAt.str_str _ _ _ _ _ _ _ _ ?_)
                      rw [hne i j hi hj hij]
                      exact kat_no (oneLt_str hC)
        · refine ⟨_, rfl, wpAny_pure ⟨_, rfl, ⟨h', s.toks, rfl, up { s with heap := h' } k⟩, ?_⟩⟩
          refine .list nosz ⟨c2, g⟩ ?_
          exact (hd.ext (up { s with heap := h' } k)).ofMap _ fun i hi => by rw [h4]; exact perm_lt _ i hi
end Mine

end
section
open PySem PySem.W PyProof.Rows PySem.Calls
set_option maxRecDepth 100000
namespace Mine

/-! law: the plain side -/
def tb0 (i j : Nat) : Bool × Bool := (decide (i ≠ j), decide (i ≠ j))
theorem table_const (k : Nat) (hk : k < 6) : tableD (k : Int) 3 = tableP tb0 := by
  have s : ∀ i j, i < 3 → j < 3 → signOf (k : Int) i j = tb0 i j := fun i j hi hj => by
    have := unlike_sign ⟨k, hk⟩ ⟨i, hi⟩ ⟨j, hj⟩
    simpa [tb0, Fin.ext_iff] using this
  unfold tableD tableP
  apply List.map_congr_left
  intro i hi
  congr 1
  unfold lineD
  apply List.map_congr_left
  intro j hj
  rw [s i j (List.mem_range.mp hi) (List.mem_range.mp hj)]

def ordersTo : Nat → List (List Nat)
  | 0 => [[]]
  | k + 1 => (ordersTo k).flatMap fun o => (List.range (k + 1)).map fun gap => o.take gap ++ [k] ++ o.drop gap
def arrowsOf (order : List Nat) (near : List (Nat × Nat)) : List (Nat × Nat) := near.map fun z => if order.getD z.1 0 < order.getD z.2 0 then z else (z.2, z.1)
def goingOf (order : List Nat) : List Nat := permOf fun i j => decide (order.getD i 0 < order.getD j 0)
def lstep (near : List (Nat × Nat)) (s : List (List (Nat × Nat)) × Int) (order : List Nat) : List (List (Nat × Nat)) × Int :=
  if s.1.any (· == arrowsOf order near) then s else (s.1 ++ [arrowsOf order near], if longest (arrowsOf order near) (goingOf order) < s.2 then longest (arrowsOf order near) (goingOf order) else s.2)
def lst (near : List (Nat × Nat)) (os : List (List Nat)) : List (List (Nat × Nat)) × Int := os.foldl (lstep near) ([], 4)
def firstWay (one two three : Int) : Int := ((([(1, one), (2, two), (3, three), (4, 1)] : List (Int × Int)).filter fun z => decide (0 < z.2)).map (·.1)).getD 0 0
def lawOk (near : List (Nat × Nat)) : Bool :=
  let s := lst near (ordersTo 4)
  let one := paintings 1 near tb0
  let two := paintings 2 near tb0
  let three := paintings 3 near tb0
  ((s.1.length : Nat) : Int) == 24 - three + 4 * two - 6 * one
    && ((List.range 2).all fun side => (List.range 4).all fun spot => 6 * (((s.1.map fun a => unmet a side).countP (· == [spot]) : Nat) : Int) == 36 - 18 * one + 9 * two - 2 * three)
    && s.2 == firstWay one two three
def nearB (a b c d e f : Bool) : List (Nat × Nat) := (if a then [(0, 1)] else []) ++ (if b then [(0, 2)] else []) ++ (if c then [(1, 2)] else []) ++ (if d then [(0, 3)] else []) ++ (if e then [(1, 3)] else []) ++ (if f then [(2, 3)] else [])
theorem orders_ok : ∀ o ∈ ordersTo 4, o.length = 4 ∧ ∀ i j : Fin 4, o.getD i.val 0 < 4 ∧ (i ≠ j → o.getD i.val 0 ≠ o.getD j.val 0) := by decide +kernel
theorem orders_len : ∀ k : Fin 4, (ordersTo k.val).length ≤ 24 ∧ (ordersTo (k.val + 1)).length ≤ 24 ∧ ∀ o ∈ ordersTo k.val, o.length = k.val := by decide +kernel
end Mine

end
section
open PySem PySem.W PyProof.Rows PySem.Calls
set_option maxRecDepth 100000
namespace Mine

def drw (ns : List Int) : List Int := ns.take 5 ++ [0, 0, 0, 0, 0]
def numOf (ns : List Int) (i : Nat) : Int := ((drw ns).getD i 0 + [0, 0, 1, 3].getD i 0).fmod 8
def nums (ns : List Int) : List Int := (List.range 4).map (numOf ns)
def reachOf (ns : List Int) : Int := 1 + ((drw ns).getD 4 0).fmod 2
def beginI (ns : List Int) : Int := (((drw ns).getD 4 0).fdiv 2).fmod 4
def beginS (bi : Nat) : Str := (["", "b", "B", "b "] : List Str).getD bi ""
def namesL (bi : Nat) : List Str := (["", "A", "Aa", "a"] : List Str).map fun e => beginS bi ++ e
def nameS (bi q : Nat) : Str := (namesL bi).getD q ""
def arrD (l : List (Nat × Nat)) : PyData := .list (l.map fun p => .tuple [.int (p.1 : Int), .int (p.2 : Int)])
theorem enc_arr (l : List (Nat × Nat)) : enc (arrD l) = .list (l.map pairD) := by
  show PV.list (encs _) = _
  rw [encs_map]; rfl
theorem eqv_arr : ∀ a b : List (Nat × Nat), PyData.eqvAll (a.map fun p => PyData.tuple [.int (p.1 : Int), .int (p.2 : Int)]) (b.map fun p => PyData.tuple [.int (p.1 : Int), .int (p.2 : Int)]) = (a == b)
  | [], [] => rfl
  | [], _ :: _ => rfl
  | _ :: _, [] => rfl
  | (p, q) :: a, (u, v) :: b => by
    show ((((p : Int) == (u : Int)) && (((q : Int) == (v : Int)) && true)) && PyData.eqvAll _ _) = _
    rw [eqv_arr a b, Bool.and_true]
    have e1 : ((p : Int) == (u : Int)) = (p == u) := by rw [Bool.eq_iff_iff]; simp; omega
    have e2 : ((q : Int) == (v : Int)) = (q == v) := by rw [Bool.eq_iff_iff]; simp; omega
    rw [e1, e2]; rfl
theorem eqv_arrD (a b : List (Nat × Nat)) : PyData.eqv (arrD a) (arrD b) = (a == b) := eqv_arr a b
theorem lay_arr : ∀ l : List (Nat × Nat), PyData.canLayAll0 (l.map fun p => PyData.tuple [.int (p.1 : Int), .int (p.2 : Int)]) = true ∧ PyData.depthAll (l.map fun p => PyData.tuple [.int (p.1 : Int), .int (p.2 : Int)]) ≤ 1
  | [] => ⟨rfl, by show (0 : Nat) ≤ 1; omega⟩
  | p :: l => by
    obtain ⟨h1, h2⟩ := lay_arr l
    refine ⟨by show (true && _) = true; rw [h1]; rfl, ?_⟩
    show max 1 _ ≤ 1
    omega
theorem shaped_arr (l : List (Nat × Nat)) : SeqAt.shaped (arrD l) = true := by
  obtain ⟨h1, h2⟩ := lay_arr l
  unfold SeqAt.shaped
  rw [Bool.and_eq_true]
  refine ⟨h1, decide_eq_true ?_⟩
  show PyData.depthAll _ + 1 ≤ 64
  omega
def natD (l : List Nat) : PyData := .list (l.map fun (i : Nat) => PyData.int (i : Int))
theorem enc_nat (l : List Nat) : enc (natD l) = .list (natL l) := by
  show PV.list (encs _) = _
  rw [encs_map]; rfl
theorem eqv_nat : ∀ a b : List Nat, PyData.eqvAll (a.map fun (i : Nat) => PyData.int (i : Int)) (b.map fun (i : Nat) => PyData.int (i : Int)) = (a == b)
  | [], [] => rfl
  | [], _ :: _ => rfl
  | _ :: _, [] => rfl
  | p :: a, u :: b => by
    show (((p : Int) == (u : Int)) && PyData.eqvAll _ _) = _
    rw [eqv_nat a b]
    have e1 : ((p : Int) == (u : Int)) = (p == u) := by rw [Bool.eq_iff_iff]; simp; omega
    rw [e1]; rfl
theorem shaped_nat (l : List Nat) : SeqAt.shaped (natD l) = true := by
  have := shaped_ints (l.map fun (i : Nat) => (i : Int))
  rw [List.map_map] at this
  exact this

theorem name_lt : ∀ bi i j : Fin 4, decide ((nameS bi.val i.val).cps.toList < (nameS bi.val j.val).cps.toList) = decide (i < j) ∧ (nameS bi.val i.val == nameS bi.val j.val) = decide (i = j) := by decide +kernel
theorem kRun_congr {α : Type} {f f' : Nat → Nat → Bool} {n : Nat} {P : α → Bool} (h : ∀ i j, i < n → j < n → i ≠ j → f i j = f' i j) : ∀ (t : KasT α), kIn n P t = true → kRun f t = kRun f' t
  | .ret a, _ => rfl
  | .ask i j k, hk => by
    simp only [kIn, Bool.and_eq_true, decide_eq_true_eq] at hk
    obtain ⟨⟨⟨⟨h1, h2⟩, h3⟩, h4⟩, h5⟩ := hk
    show kRun f (k (f i j)) = kRun f' (k (f' i j))
    rw [h i j h1 h2 h3]
    cases f' i j with
    | true => exact kRun_congr h (k true) h4
    | false => exact kRun_congr h (k false) h5
theorem perm_congr {f f' : Nat → Nat → Bool} (h : ∀ i j, i < 4 → j < 4 → i ≠ j → f i j = f' i j) : permOf f = permOf f' := by
  unfold permOf; rw [kRun_congr h (kas_sort 4) kin4]
theorem drw_len (ns : List Int) : 5 ≤ (drw ns).length := by unfold drw; simp
theorem drw_le (ns : List Int) : (drw ns).length ≤ 10 := by unfold drw; simp; omega
theorem lst_succ (near : List (Nat × Nat)) (k : Nat) (OS : List (List Nat)) (hk : k < OS.length) : lst near (OS.take (k + 1)) = lstep near (lst near (OS.take k)) (OS.getD k []) := by
  unfold lst
  rw [List.take_add_one, List.foldl_append, List.getElem?_eq_getElem hk]
  simp [List.getD, hk]
theorem lst_len (near : List (Nat × Nat)) : ∀ (os : List (List Nat)) (s : List (List (Nat × Nat)) × Int), (os.foldl (lstep near) s).1.length ≤ s.1.length + os.length
  | [], s => by simp
  | o :: os, s => by
    have h1 := lst_len near os (lstep near s o)
    have h2 : (lstep near s o).1.length ≤ s.1.length + 1 := by
      unfold lstep; split <;> simp
    rw [List.foldl_cons, List.length_cons]
    omega
theorem lst_ars (near : List (Nat × Nat)) (hn : near.length ≤ 100) : ∀ (os : List (List Nat)) (s : List (List (Nat × Nat)) × Int), (∀ a ∈ s.1, a.length ≤ 100) → ∀ a ∈ (os.foldl (lstep near) s).1, a.length ≤ 100
  | [], s, h => h
  | o :: os, s, h => lst_ars near hn os (lstep near s o) fun a ha => by
    unfold lstep at ha
    split at ha
    · exact h a ha
    · rcases List.mem_append.mp ha with ha | ha
      · exact h a ha
      · rw [List.mem_singleton.mp ha]; unfold arrowsOf; rw [List.length_map]; exact hn
theorem orders4 : (ordersTo 4).length = 24 := by decide +kernel
theorem orders_succ_D (k : Nat) : ((ordersTo k).flatMap fun o => (List.range (k + 1)).flatMap fun gap => if true = true then [rowD (o.take gap ++ [k] ++ o.drop gap)] else []) = (ordersTo (k + 1)).map rowD := by
  show _ = ((ordersTo k).flatMap fun o => (List.range (k + 1)).map fun gap => o.take gap ++ [k] ++ o.drop gap).map rowD
  rw [List.map_flatMap]
  congr 1
  funext o
  rw [flat_all, List.map_map]; rfl
theorem tk_at {l : List (Nat × Nat)} {j : Nat} (h : j < l.length) : (l.take (j + 1)).map pairD = (l.take j).map pairD ++ [pairD (l.getD j (0, 0))] := by
  rw [List.take_add_one, List.map_append, List.getElem?_eq_getElem h]
  simp [List.getD, h]
theorem map_getD {α : Type} {xs : List α} {f : α → PV} {k : Nat} {d : PV} (z : α) (h : (xs.map f)[k]? = some d) : k < xs.length ∧ d = f (xs.getD k z) := by
  have hk : k < xs.length := by
    have := (List.getElem?_eq_some_iff.mp h).1
    simpa using this
  rw [List.getElem?_map, List.getElem?_eq_getElem hk] at h
  cases h
  exact ⟨hk, by simp [List.getD, hk]⟩
theorem getD_mem {α : Type} {xs : List α} {k : Nat} {z : α} (hk : k < xs.length) : xs.getD k z ∈ xs := by
  rw [List.getD, List.getElem?_eq_getElem hk]; exact List.getElem_mem hk
theorem orders_lt : ∀ o ∈ ordersTo 4, ∀ q ∈ o, q < 4 := by decide +kernel
theorem name_at {bi q : Nat} (h : q < 4) : ((namesL bi).map PV.str)[((q : Nat) : Int).toNat]? = some (.str (nameS bi q)) := by
  show ((namesL bi).map PV.str)[q]? = _
  have : q = 0 ∨ q = 1 ∨ q = 2 ∨ q = 3 := by omega
  rcases this with rfl | rfl | rfl | rfl <;> rfl
theorem text_at {bi q : Nat} {od : List Nat} (h : q < od.length) : (od.map fun k => PV.str (nameS bi k))[((q : Nat) : Int).toNat]? = some (.str (nameS bi (od.getD q 0))) := by
  show (od.map fun k => PV.str (nameS bi k))[q]? = _
  rw [List.getElem?_map, List.getElem?_eq_getElem h]; simp [List.getD, h]
theorem told_eq {bi p q : Nat} (hb : bi < 4) (hp : p < 4) (hq : q < 4) (hne : p ≠ q) : b2i (decide ((nameS bi q).cps.toList < (nameS bi p).cps.toList)) - b2i (decide ((nameS bi p).cps.toList < (nameS bi q).cps.toList)) = if p < q then -1 else 1 := by
  have h1 : decide ((nameS bi q).cps.toList < (nameS bi p).cps.toList) = decide ((⟨q, hq⟩ : Fin 4) < ⟨p, hp⟩) := (name_lt ⟨bi, hb⟩ ⟨q, hq⟩ ⟨p, hp⟩).1
  have h2 : decide ((nameS bi p).cps.toList < (nameS bi q).cps.toList) = decide ((⟨p, hp⟩ : Fin 4) < ⟨q, hq⟩) := (name_lt ⟨bi, hb⟩ ⟨p, hp⟩ ⟨q, hq⟩).1
  rw [h1, h2]
  by_cases h : p < q
  · have a1 : ¬ ((⟨q, hq⟩ : Fin 4) < ⟨p, hp⟩) := by show ¬ q < p; omega
    have a2 : ((⟨p, hp⟩ : Fin 4) < ⟨q, hq⟩) := h
    rw [if_pos h, decide_eq_false a1, decide_eq_true a2]; rfl
  · have a1 : ((⟨q, hq⟩ : Fin 4) < ⟨p, hp⟩) := by show q < p; omega
    have a2 : ¬ ((⟨p, hp⟩ : Fin 4) < ⟨q, hq⟩) := h
    rw [if_neg h, decide_eq_true a1, decide_eq_false a2]; rfl
def tsOf (bi : Nat) (od : List Nat) : List (Str × Nat) := (List.range 4).map fun i => (nameS bi (od.getD i 0), i)
theorem ts_at {bi : Nat} {od : List Nat} {i : Nat} (h : i < 4) : (tsOf bi od).getD i default = (nameS bi (od.getD i 0), i) := by
  unfold tsOf; rw [List.getD, List.getElem?_map, List.getElem?_range h]; rfl
theorem first_at (l : List (Int × Int)) (h : l ≠ []) : (l.map fun z => PV.int z.1)[(0 : Int).toNat]? = some (.int ((l.map (·.1)).getD 0 0)) := by
  cases l with
  | nil => exact absurd rfl h
  | cons a l => rfl
theorem encs_len (l : List (List (Nat × Nat))) : (encs (l.map arrD)).length = l.length := by rw [encs_map, List.length_map]
theorem encs_arrs (l : List (List (Nat × Nat))) : encs (l.map arrD) = l.map fun a => PV.list (a.map pairD) := by
  rw [encs_map]
  apply List.map_congr_left
  intro a _
  exact enc_arr a
theorem encs_snoc (l : List (List (Nat × Nat))) (a : List (Nat × Nat)) : encs ((l ++ [a]).map arrD) = encs (l.map arrD) ++ [PV.list (a.map pairD)] := by
  rw [encs_arrs, encs_arrs, List.map_append]; rfl
theorem unmet_len (a : List (Nat × Nat)) (s : Nat) : (unmet a s).length ≤ 4 := by
  have := List.length_filter_le (fun k : Nat => !(a.map fun p => ((sideOf s p : Nat) : Int)).any (· == (k : Int))) (List.range 4)
  rw [List.length_range] at this
  exact this
theorem xs_fin {sb : Shared} {F : Addr → Prop} {ro : List Addr} {c c' : Cx} {R : PV → Prop} {σ' : List Bnd} {ow' : List Addr} (e : c' = c.weak σ' ow') (h : WL ow' c.σ σ') (hs : ∀ a ∈ ow', a ∈ c.ow) : XS sb F ro c [] (fun s => SS sb F c' s) R := xs_nil fun s S => e ▸ SS.weak h hs s S
theorem five (ns : List Int) : (ns.map PV.int).take 5 ++ [PV.int 0, .int 0, .int 0, .int 0, .int 0] = (drw ns).map PV.int := by
  unfold drw; rw [List.map_append, List.map_take]; rfl

section
variable {g : Gl} (G : GF g)
include G
set_option maxHeartbeats 1500000 in
theorem sp_law (hsm : True) (ns : List Int) (hns : ns.length ≤ 63) (near : List (Nat × Nat)) (hnear : nearTo (nums ns) (reachOf ns) 4 = near) (hn : ∀ z ∈ near, z.1 < z.2 ∧ z.2 < 4) (hnl : near.length ≤ 6) (ok : lawOk near = true) :
    FSpec g 4 "law" [.ilist (ns.map PV.int)] (.bool true) := by
  have hz : sizeLine = 16777216 := sizeLine_eq
  have dl := drw_len ns
  have dle := drw_le ns
  have hreach : reachOf ns = 1 ∨ reachOf ns = 2 := by
    unfold reachOf
    have l0 := Int.fmod_nonneg_of_pos ((drw ns).getD 4 0) (show (0 : Int) < 2 by decide)
    have l1 := Int.fmod_lt_of_pos ((drw ns).getD 4 0) (show (0 : Int) < 2 by decide)
    omega
  have hbI : 0 ≤ beginI ns ∧ beginI ns < 4 := ⟨Int.fmod_nonneg_of_pos _ (by decide), Int.fmod_lt_of_pos _ (by decide)⟩
  obtain ⟨bi, hbi⟩ := Int.eq_ofNat_of_zero_le hbI.1
  have hbi4 : bi < 4 := by omega
  have hc0 : 0 ≤ ns.sum.fmod 6 ∧ ns.sum.fmod 6 < 6 := ⟨Int.fmod_nonneg_of_pos _ (by decide), Int.fmod_lt_of_pos _ (by decide)⟩
  obtain ⟨co, hco⟩ := Int.eq_ofNat_of_zero_le hc0.1
  have hco6 : co < 6 := by omega
  simp only [lawOk, Bool.and_eq_true, List.all_eq_true, List.mem_range, beq_iff_eq] at ok
  obtain ⟨⟨ok1, ok2⟩, ok3⟩ := ok
  refine fspec_of (d := recAt 18) ["script"] ["drawn", "spot", "numbers", "right", "near", "table", "begin", "names", "orders", "rank", "order", "seen", "least", "texts", "arrows", "low", "high", "told", "going", "one", "two", "three", "side", "ends"] (mem_recs G 11 _ rfl) (by kernel_rfl!) rfl (fun vs pm cd doc h => by
    match vs, h with
    | [_], _ => rfl) fun sb A env ow pm cd doc L a henv => ?_
  subst henv
  refine xs_set 1 rfl rfl (ev_eq (ev_bin (e_list G (evs1 (ev_slice_ilist (ev_name 0 rfl rfl) evp_none (evp_int ev_int) (by rw [List.length_map]; omega) (pick_take (k := 5)))) (f_list_list (by rw [List.length_take, List.length_map]; omega))) (ev_list (evs_cons ev_int (evs_cons ev_int (evs3 ev_int ev_int ev_int)))) (b_add_ll (by rw [List.length_take, List.length_map, hz]; simp; omega))) (congrArg PV.list (five ns))) ?_
  refine xs_comp 3 rfl rfl (evc_m ["spot"] [("drawn", 1)] (List.range 4) (fun i => .int (i : Int)) (fun i => .int (numOf ns i)) (by kernel_rfl!) rfl (i_range0 G (n := 4) ev_int (by decide)) (fun C D i hi => ?_) (by rw [hz]; decide)) (by rfl) ?_
  · have hi' := List.mem_range.mp hi
    refine ev_bin (ev_bin (ev_sub (ev_name 1 rfl rfl) (ev_name 0 rfl rfl) (s_list (by omega) (by omega) (map_at (by omega)))) (ev_sub (ev_list (evs_cons ev_int (evs3 ev_int ev_int ev_int))) (ev_name 0 rfl rfl) (s_list (by omega) (by omega) ?_)) b_add_ii) ev_int (b_mod_ii (by decide))
    exact map_at (row := [0, 0, 1, 3]) (by simpa using hi')
  have en : ((List.range 4).map fun i => PV.int (numOf ns i)) = (nums ns).map PV.int := by unfold nums; rw [List.map_map]; rfl
  rw [en]
  have hb8 : ∀ i, i < 4 → 0 ≤ (nums ns).getD i 0 ∧ (nums ns).getD i 0 < 8 := fun i hi => by
    have e : (nums ns).getD i 0 = numOf ns i := by
      unfold nums
      rw [List.getD, List.getElem?_map, List.getElem?_range hi]; rfl
    rw [e]
    exact ⟨Int.fmod_nonneg_of_pos _ (by decide), Int.fmod_lt_of_pos _ (by decide)⟩
  have hsn := sp_near G (nums ns) (reachOf ns) rfl hb8 (lev_spec G _ hreach)
  rw [hnear] at hsn
  refine xs_assign_t (e_def G 10 rfl rfl (evs2 (ev_name 3 rfl rfl) (ev_bin ev_int (ev_bin (ev_sub (ev_name 1 rfl rfl) ev_int (s_list (by decide) (by decide) (map_at (i := 4) (by omega)))) ev_int (b_mod_ii (by decide))) b_add_ii)) hsn) (ta_list (tas_cons (ta_name 4 rfl (List.mem_of_getElem? (i := 4) rfl)) (tas_cons (ta_name 5 rfl (List.mem_of_getElem? (i := 5) rfl)) tas_nil (Same.set ..)) (Same.set ..)) rfl) ((Same.set ..).trans (Same.set ..)) (fun b hb => mut_set (mut_set hb)) ?_
  refine xs_if_skip (tr_eq (tr_not (tr_val (d := .bool true) (ev_name 4 rfl rfl) trivial)) rfl) ?_
  refine xs_set 6 rfl rfl (d := .list (tableP tb0)) (ev_eq (e_def G 6 rfl rfl (evs1 (ev_bin (e_sum G (evs1 (ev_name 0 rfl rfl)) f_sum) ev_int (b_mod_ii (by decide)))) (sp_unlike G (ns.sum.fmod 6) (by rw [hco]; exact unlike_ok ⟨co, hco6⟩))) (by rw [hco]; exact congrArg PV.list (table_const co hco6))) ?_
  refine xs_if_skip (tr_eq (tr_cmp (ev_eq (b' := .list []) (ev_comp (evc_2 ["line", "sign"] [] (List.range 3) (fun i => PV.list ((List.range 3).map fun j => signD (tb0 i j))) (fun i => (List.range 3).map fun j => tb0 i j) signD (fun i s => s.1 != s.2) (fun i s => signD s)
      (fun C D i => (compCx _ _ C D ["line", "sign"] []).set 0 (.fz (.list ((List.range 3).map fun j => signD (tb0 i j)))))
      (fun C D i s => ((compCx _ _ C D ["line", "sign"] []).set 0 (.fz (.list ((List.range 3).map fun j => signD (tb0 i j))))).set 1 (.fz (signD s)))
      (by kernel_rfl!) (it_list (ev_name 6 rfl rfl)) (fun C D x => Same.set ..) (fun C D x y => Same.set ..) (fun C D x hx => ta_name 0 rfl (List.mem_of_getElem? (i := 0) rfl)) (fun C D x s hc => CX.unset rfl hc)
      (fun C D x hx => by rw [List.map_map]; exact it_list (ev_name 0 rfl rfl)) (fun C D x y hx hy => ta_name 1 rfl (List.mem_of_getElem? (i := 1) rfl)) (fun C D x y s hc => CX.unset rfl hc) (fun C D x no => noD_set no)
      (fun C D x y hx hy => .one (tr_cmp (ev_sub (ev_name 1 rfl rfl) ev_int (s_tuple (by decide) (by decide) rfl)) (ev_sub (ev_name 1 rfl rfl) ev_int (s_tuple (by decide) (by decide) rfl)) c_ne_bb)) (fun C D x y hx hy q => ev_name 1 rfl rfl) (by rw [hz]; exact Nat.le_of_ble_eq_true rfl))) rfl) (ev_list evs_nil) (c_ne_d (a := .list []) (b := .list []) rfl rfl)) rfl) ?_
  refine xs_set 7 rfl rfl (d := .str (beginS bi)) (ev_sub (ev_list (evs_cons ev_str (evs3 ev_str ev_str ev_str))) (ev_bin (ev_bin (ev_sub (ev_name 1 rfl rfl) ev_int (s_list (by decide) (by decide) (map_at (i := 4) (by omega)))) ev_int (b_fdiv_ii (by decide) (by decide))) ev_int (b_mod_ii (by decide))) (s_list hbI.1 (by show beginI ns < _; omega) ?_)) ?_
  · show _[(beginI ns).toNat]? = _
    rw [hbi]
    have : bi = 0 ∨ bi = 1 ∨ bi = 2 ∨ bi = 3 := by omega
    rcases this with rfl | rfl | rfl | rfl <;> rfl
  have hbl : (beginS bi).length ≤ 2 := by
    have : bi = 0 ∨ bi = 1 ∨ bi = 2 ∨ bi = 3 := by omega
    rcases this with rfl | rfl | rfl | rfl <;> decide +kernel
  refine xs_setc 8 rfl rfl (d := .list ((namesL bi).map PV.str)) (ev_eq (ev_comp (evc_m ["end"] [("begin", 7)] (["", "A", "Aa", "a"] : List Str) PV.str (fun e => .str (beginS bi ++ e)) (by kernel_rfl!) rfl (it_list (ev_list (evs_cons ev_str (evs3 ev_str ev_str ev_str)))) (fun C D e he => ev_bin (ev_name 1 rfl rfl) (ev_name 0 rfl rfl) (b_add_ss ?_)) (by rw [hz]; exact Nat.le_of_ble_eq_true rfl))) ?_) (by rfl) ?_
  · have : ∀ e ∈ (["", "A", "Aa", "a"] : List Str), e.length ≤ 2 := by decide +kernel
    have := this e he
    omega
  · unfold namesL; rw [List.map_map]; rfl
  refine xs_set 9 rfl rfl (ev_list (evs1 (ev_list evs_nil))) ?_
  refine xs_for (fun k => (fnCx g A 3 (fnEnv (recAt 18) pm cd doc L a) ["script"] ["drawn", "spot", "numbers", "right", "near", "table", "begin", "names", "orders", "rank", "order", "seen", "least", "texts", "arrows", "low", "high", "told", "going", "one", "two", "three", "side", "ends"] [.ilist (ns.map PV.int)] ow).weak [.fz (.ilist (ns.map PV.int)), .fz (.list ((drw ns).map PV.int)), .un, .fz (.list ((nums ns).map PV.int)), .fz (.bool true), .fz (.list (near.map pairD)), .fz (.list (tableP tb0)), .fz (.str (beginS bi)), .fz (.list ((namesL bi).map PV.str)), .fz (.list ((ordersTo k).map rowD)), .un, .un, .un, .un, .un, .un, .un, .un, .un, .un, .un, .un, .un, .un, .un] ow) (fun k => (fnCx g A 3 (fnEnv (recAt 18) pm cd doc L a) ["script"] ["drawn", "spot", "numbers", "right", "near", "table", "begin", "names", "orders", "rank", "order", "seen", "least", "texts", "arrows", "low", "high", "told", "going", "one", "two", "three", "side", "ends"] [.ilist (ns.map PV.int)] ow).weak [.fz (.ilist (ns.map PV.int)), .fz (.list ((drw ns).map PV.int)), .un, .fz (.list ((nums ns).map PV.int)), .fz (.bool true), .fz (.list (near.map pairD)), .fz (.list (tableP tb0)), .fz (.str (beginS bi)), .fz (.list ((namesL bi).map PV.str)), .fz (.list ((ordersTo k).map rowD)), .fz (.int (k : Int)), .un, .un, .un, .un, .un, .un, .un, .un, .un, .un, .un, .un, .un, .un] ow)
    (fun _ => True) (i_range0 G (n := 4) ev_int (by decide)) rfl trivial (fun k => ⟨rfl, rfl, rfl, rfl, rfl, rfl, rfl⟩) (fun k => ⟨rfl, rfl, rfl, rfl, rfl, rfl, rfl⟩) (fun k b hb => mut_set (i := 10) (d := .int (k : Int)) hb) (fun k d hd _ => ?_) (fun k d st hd _ => ?_) fun _ => ?_
  · obtain ⟨hk, rfl⟩ := range_at hd
    exact ta_name 10 rfl (List.mem_of_getElem? (i := 10) rfl)
  · obtain ⟨hk, rfl⟩ := range_at hd
    obtain ⟨l1, l2, l3⟩ := orders_len ⟨k, hk⟩
    refine xs_comp 9 rfl rfl (evc_2 ["order", "gap"] [("rank", 10)] (ordersTo k) rowD (fun _ => List.range (k + 1)) (fun i => .int (i : Int)) (fun _ _ => true) (fun o gap => rowD (o.take gap ++ [k] ++ o.drop gap))
      (fun C D o => (compCx _ _ C D ["order", "gap"] [("rank", 10)]).set 0 (.fz (rowD o)))
      (fun C D o gap => ((compCx _ _ C D ["order", "gap"] [("rank", 10)]).set 0 (.fz (rowD o))).set 1 (.fz (.int (gap : Int))))
      (by kernel_rfl!) (it_list (ev_name 9 rfl rfl)) (fun C D x => Same.set ..) (fun C D x y => Same.set ..) (fun C D x hx => ta_name 0 rfl (List.mem_of_getElem? (i := 0) rfl)) (fun C D x s hc => CX.unset rfl hc)
      (fun C D x hx => i_range0 G (n := k + 1) (ev_bin (ev_name 2 rfl rfl) ev_int b_add_ii) (by omega)) (fun C D x y hx hy => ta_name 1 rfl (List.mem_of_getElem? (i := 1) rfl)) (fun C D x y s hc => CX.unset rfl hc) (fun C D x no => noD_set no)
      (fun C D x y hx hy => .nil) (fun C D o gap ho hg _ => ?_) ?_) (by rfl) ?_
    · have ol : (natL o).length = k := by unfold natL; rw [List.length_map]; exact l3 o ho
      refine ev_eq (ev_bin (ev_bin (ev_slice_list (ev_name 0 rfl rfl) evp_none (evp_int (ev_name 1 rfl rfl)) (by omega) (pick_take (k := gap))) (ev_list (evs1 (ev_name 2 rfl rfl))) (b_add_ll ?_)) (ev_slice_list (ev_name 0 rfl rfl) (evp_int (ev_name 1 rfl rfl)) evp_none (by omega) (pick_drop (k := gap))) (b_add_ll ?_)) ?_
      · rw [List.length_take, hz]; simp; omega
      · rw [List.length_append, List.length_take, List.length_drop, hz]; simp; omega
      · show PV.list _ = .list (natL _)
        unfold natL
        rw [List.map_append, List.map_append, List.map_take, List.map_drop]; rfl
    · rw [orders_succ_D, List.length_map, hz]; exact Nat.le_trans l2 (by decide)
    rw [orders_succ_D]
    exact xs_done rfl (by repeat (first | exact WL.nil | refine WL.un ?_ | refine WL.same (by first | exact trivial | exact List.mem_cons_self | exact List.mem_cons_of_mem _ List.mem_cons_self) ?_ | refine WL.frz (by assumption) ?_)) (fun _ h => h) trivial
  have hl4 : ((List.range 4).map fun (i : Nat) => PV.int (i : Int)).length = 4 := rfl
  rw [hl4]
  generalize hOS : ordersTo 4 = OS at ok1 ok2 ok3 ⊢
  have hO24 : OS.length = 24 := hOS ▸ orders4
  have hOok := hOS ▸ orders_ok
  have hOlt := hOS ▸ orders_lt
  refine xs_new 12 rfl (List.mem_of_getElem? (i := 12) rfl) evnew_nil fun aS haS => ?_
  refine xs_set 13 rfl rfl ev_int ?_
  refine xs_for (fun k => (fnCx g A 3 (fnEnv (recAt 18) pm cd doc L a) ["script"] ["drawn", "spot", "numbers", "right", "near", "table", "begin", "names", "orders", "rank", "order", "seen", "least", "texts", "arrows", "low", "high", "told", "going", "one", "two", "three", "side", "ends"] [.ilist (ns.map PV.int)] ow).weak [.fz (.ilist (ns.map PV.int)), .fz (.list ((drw ns).map PV.int)), .un, .fz (.list ((nums ns).map PV.int)), .fz (.bool true), .fz (.list (near.map pairD)), .fz (.list (tableP tb0)), .fz (.str (beginS bi)), .fz (.list ((namesL bi).map PV.str)), .fz (.list (OS.map rowD)), .un, .un, .ow aS (.lst (encs ((lst near (OS.take k)).1.map arrD))), .fz (.int (lst near (OS.take k)).2), .un, .un, .un, .un, .un, .un, .un, .un, .un, .un, .un] (aS :: ow)) (fun k => (fnCx g A 3 (fnEnv (recAt 18) pm cd doc L a) ["script"] ["drawn", "spot", "numbers", "right", "near", "table", "begin", "names", "orders", "rank", "order", "seen", "least", "texts", "arrows", "low", "high", "told", "going", "one", "two", "three", "side", "ends"] [.ilist (ns.map PV.int)] ow).weak [.fz (.ilist (ns.map PV.int)), .fz (.list ((drw ns).map PV.int)), .un, .fz (.list ((nums ns).map PV.int)), .fz (.bool true), .fz (.list (near.map pairD)), .fz (.list (tableP tb0)), .fz (.str (beginS bi)), .fz (.list ((namesL bi).map PV.str)), .fz (.list (OS.map rowD)), .un, .fz (rowD (OS.getD k [])), .ow aS (.lst (encs ((lst near (OS.take k)).1.map arrD))), .fz (.int (lst near (OS.take k)).2), .un, .un, .un, .un, .un, .un, .un, .un, .un, .un, .un] (aS :: ow))
    (fun _ => True) (it_list (ev_name 9 rfl rfl)) rfl trivial (fun k => ⟨rfl, rfl, rfl, rfl, rfl, rfl, rfl⟩) (fun k => ⟨rfl, rfl, rfl, rfl, rfl, rfl, rfl⟩) (fun k b hb => mut_set (i := 11) (d := rowD (OS.getD k [])) hb) (fun k d hd _ => ?_) (fun k d st hd _ => ?_) fun _ => ?_
  · obtain ⟨hk, rfl⟩ := map_getD [] hd
    exact ta_name 11 rfl (List.mem_of_getElem? (i := 11) rfl)
  · obtain ⟨hk, rfl⟩ := map_getD [] hd
    have hod : OS.getD k [] ∈ OS := getD_mem hk
    rw [lst_succ near k OS hk]
    have hsl : (lst near (OS.take k)).1.length ≤ 24 := by
      have h1 := lst_len near (OS.take k) ([], 4)
      have h2 : (OS.take k).length ≤ 24 := by rw [List.length_take]; omega
      have h3 : (([], 4) : List (List (Nat × Nat)) × Int).1.length = 0 := rfl
      unfold lst; omega
    generalize OS.getD k [] = od at hod ⊢
    generalize lst near (OS.take k) = ST at hsl ⊢
    obtain ⟨ol, oo⟩ := hOok od hod
    have olt := hOlt od hod
    have ox : ∀ i, i < 4 → od.getD i 0 < 4 := fun i hi => (oo ⟨i, hi⟩ ⟨i, hi⟩).1
    have oy : ∀ i j, i < 4 → j < 4 → i ≠ j → od.getD i 0 ≠ od.getD j 0 := fun i j hi hj h => (oo ⟨i, hi⟩ ⟨j, hj⟩).2 fun e => h (by simpa using congrArg Fin.val e)
    refine xs_setc 14 rfl rfl (ev_comp (evc_m ["rank"] [("names", 8)] od (fun i => .int (i : Int)) (fun q => .str (nameS bi q)) (by kernel_rfl!) rfl (it_list (ev_name 11 rfl rfl)) (fun C D q hq => ev_sub (ev_name 1 rfl rfl) (ev_name 0 rfl rfl) (s_list (by omega) (by have := olt q hq; omega) (name_at (olt q hq)))) (by rw [hz]; omega))) (by rfl) ?_
    refine xs_new 15 rfl (List.mem_of_getElem? (i := 15) rfl) evnew_nil fun aA haA => ?_
    have al : (arrowsOf od near).length = near.length := by unfold arrowsOf; rw [List.length_map]
    refine xs_for (fun j => (fnCx g A 3 (fnEnv (recAt 18) pm cd doc L a) ["script"] ["drawn", "spot", "numbers", "right", "near", "table", "begin", "names", "orders", "rank", "order", "seen", "least", "texts", "arrows", "low", "high", "told", "going", "one", "two", "three", "side", "ends"] [.ilist (ns.map PV.int)] ow).weak [.fz (.ilist (ns.map PV.int)), .fz (.list ((drw ns).map PV.int)), .un, .fz (.list ((nums ns).map PV.int)), .fz (.bool true), .fz (.list (near.map pairD)), .fz (.list (tableP tb0)), .fz (.str (beginS bi)), .fz (.list ((namesL bi).map PV.str)), .fz (.list (OS.map rowD)), .un, .fz (rowD od), .ow aS (.lst (encs (ST.1.map arrD))), .fz (.int ST.2), .fz (.list (od.map fun q => .str (nameS bi q))), .ow aA (.lst (((arrowsOf od near).take j).map pairD)), .un, .un, .un, .un, .un, .un, .un, .un, .un] (aA :: aS :: ow)) (fun j => (fnCx g A 3 (fnEnv (recAt 18) pm cd doc L a) ["script"] ["drawn", "spot", "numbers", "right", "near", "table", "begin", "names", "orders", "rank", "order", "seen", "least", "texts", "arrows", "low", "high", "told", "going", "one", "two", "three", "side", "ends"] [.ilist (ns.map PV.int)] ow).weak [.fz (.ilist (ns.map PV.int)), .fz (.list ((drw ns).map PV.int)), .un, .fz (.list ((nums ns).map PV.int)), .fz (.bool true), .fz (.list (near.map pairD)), .fz (.list (tableP tb0)), .fz (.str (beginS bi)), .fz (.list ((namesL bi).map PV.str)), .fz (.list (OS.map rowD)), .un, .fz (rowD od), .ow aS (.lst (encs (ST.1.map arrD))), .fz (.int ST.2), .fz (.list (od.map fun q => .str (nameS bi q))), .ow aA (.lst (((arrowsOf od near).take j).map pairD)), .fz (.int ((near.getD j (0, 0)).1 : Int)), .fz (.int ((near.getD j (0, 0)).2 : Int)), .un, .un, .un, .un, .un, .un, .un] (aA :: aS :: ow))
      (fun _ => True) (it_list (ev_name 5 rfl rfl)) rfl trivial (fun k => ⟨rfl, rfl, rfl, rfl, rfl, rfl, rfl⟩) (fun k => ⟨rfl, rfl, rfl, rfl, rfl, rfl, rfl⟩) (fun j b hb => mut_set (i := 16) (d := .int ((near.getD j (0, 0)).1 : Int)) (mut_set (i := 17) (d := .int ((near.getD j (0, 0)).2 : Int)) hb)) (fun j d hd _ => ?_) (fun j d st' hd _ => ?_) fun _ => ?_
    · obtain ⟨hj, rfl⟩ := map_getD (0, 0) hd
      exact ta_tuple (tas_cons (ta_name 16 rfl (List.mem_of_getElem? (i := 16) rfl)) (tas_cons (ta_name 17 rfl (List.mem_of_getElem? (i := 17) rfl)) tas_nil (Same.set ..)) (Same.set ..)) rfl
    · obtain ⟨hj, rfl⟩ := map_getD (0, 0) hd
      have hzn := hn _ (getD_mem (z := (0, 0)) hj)
      have ea : (arrowsOf od near).getD j (0, 0) = if od.getD (near.getD j (0, 0)).1 0 < od.getD (near.getD j (0, 0)).2 0 then near.getD j (0, 0) else ((near.getD j (0, 0)).2, (near.getD j (0, 0)).1) := by
        have e0 : near.getD j (0, 0) = near[j] := by simp [List.getD, hj]
        rw [e0]
        unfold arrowsOf
        rw [List.getD, List.getElem?_map, List.getElem?_eq_getElem hj]
        rfl
      have etk := tk_at (l := arrowsOf od near) (j := j) (by omega)
      rw [etk, ea]
      generalize near.getD j (0, 0) = z at hzn ⊢
      have p4 := ox z.1 (by omega)
      have q4 := ox z.2 (by omega)
      have pq := oy z.1 z.2 (by omega) (by omega) (by omega)
      have te := told_eq hbi4 p4 q4 pq
      have tx : ∀ i, i < 4 → (od.map fun k => PV.str (nameS bi k))[((i : Nat) : Int).toNat]? = some (.str (nameS bi (od.getD i 0))) := fun i hi => text_at (by omega)
      have oa : ∀ i, i < 4 → (natL od)[((i : Nat) : Int).toNat]? = some (.int ((od.getD i 0 : Nat) : Int)) := fun i hi => natL_at (by omega)
      have z1 := tx z.1 (by omega)
      have z2 := tx z.2 (by omega)
      have w1 := oa z.1 (by omega)
      have w2 := oa z.2 (by omega)
      generalize od.getD z.1 0 = p at p4 pq te z1 w1 ⊢
      generalize od.getD z.2 0 = q at q4 pq te z2 w2 ⊢
      refine xs_set 18 rfl rfl (ev_eq (e_def G 2 rfl rfl (evs2 (ev_sub (ev_name 14 rfl rfl) (ev_name 16 rfl rfl) (s_list (by omega) (by omega) z1)) (ev_sub (ev_name 14 rfl rfl) (ev_name 17 rfl rfl) (s_list (by omega) (by omega) z2))) (sp_strcoll G _ _)) (congrArg PV.int te)) ?_
      refine xs_if_skip (tr_eq (tr_cmp (ev_name 18 rfl rfl) (ev_if (d := .int (if p < q then -1 else 1)) (tr_cmp (ev_sub (ev_name 11 rfl rfl) (ev_name 16 rfl rfl) (s_list (by omega) (by omega) w1)) (ev_sub (ev_name 11 rfl rfl) (ev_name 17 rfl rfl) (s_list (by omega) (by omega) w2)) c_lt_ii) (fun h => ev_eq (ev_un ev_int u_neg_i) ?_) (fun h => ev_eq ev_int ?_)) c_ne_ii) (by simp)) ?_
      · have := of_decide_eq_true h
        rw [if_pos (by omega)]
      · have := of_decide_eq_false h
        rw [if_neg (by omega)]
      refine xs_append 15 rfl rfl ⟨trivial, trivial, trivial, trivial, trivial, trivial, trivial, trivial, trivial, trivial, trivial, trivial, (fun e => haA (e ▸ List.mem_cons_self)), trivial, trivial, trivial, trivial, trivial, trivial, trivial, trivial, trivial, trivial, trivial, trivial⟩ (ev_if (d := pairD (if p < q then z else (z.2, z.1))) (tr_cmp (ev_name 18 rfl rfl) ev_int c_lt_ii) (fun h => ev_eq (ev_tuple (evs2 (ev_name 16 rfl rfl) (ev_name 17 rfl rfl))) ?_) (fun h => ev_eq (ev_tuple (evs2 (ev_name 17 rfl rfl) (ev_name 16 rfl rfl))) ?_)) ?_ ?_
      · have := of_decide_eq_true h
        have pl : p < q := by
          apply Classical.byContradiction
          intro n
          rw [if_neg n] at this; omega
        rw [if_pos pl]; rfl
      · have := of_decide_eq_false h
        have pl : ¬ p < q := fun n => by rw [if_pos n] at this; omega
        rw [if_neg pl]; rfl
      · rw [List.length_map, List.length_take]; omega
      exact xs_done rfl (by repeat (first | exact WL.nil | refine WL.un ?_ | refine WL.same (by first | exact trivial | exact List.mem_cons_self | exact List.mem_cons_of_mem _ List.mem_cons_self) ?_ | refine WL.frz (by assumption) ?_)) (fun _ h => h) trivial
    have etn : (arrowsOf od near).take (near.map pairD).length = arrowsOf od near := List.take_of_length_le (by rw [List.length_map]; omega)
    rw [etn]
    have hal : (arrowsOf od near).length ≤ 6 := by omega
    have hstep : lstep near ST od = if ST.1.any (· == arrowsOf od near) then ST else (ST.1 ++ [arrowsOf od near], if longest (arrowsOf od near) (goingOf od) < ST.2 then longest (arrowsOf od near) (goingOf od) else ST.2) := rfl
    generalize arrowsOf od near = ar at hstep hal ⊢
    refine xs_weak (σ' := [.fz (.ilist (ns.map PV.int)), .fz (.list ((drw ns).map PV.int)), .un, .fz (.list ((nums ns).map PV.int)), .fz (.bool true), .fz (.list (near.map pairD)), .fz (.list (tableP tb0)), .fz (.str (beginS bi)), .fz (.list ((namesL bi).map PV.str)), .fz (.list (OS.map rowD)), .un, .fz (rowD od), .ow aS (.lst (encs (ST.1.map arrD))), .fz (.int ST.2), .fz (.list (od.map fun q => .str (nameS bi q))), .fz (.list (ar.map pairD)), .un, .un, .un, .un, .un, .un, .un, .un, .un]) (ow' := aS :: ow) ?_ (fun _ h => List.mem_cons_of_mem _ h) ?_
    · have haA' : aA ∉ aS :: ow := haA
      exact (by repeat (first | exact WL.nil | refine WL.un ?_ | refine WL.same (by first | exact trivial | exact List.mem_cons_self | exact List.mem_cons_of_mem _ List.mem_cons_self) ?_ | refine WL.frz (by assumption) ?_))
    refine xs_ifb (b := !(ST.1.any (· == ar))) (c' := (fnCx g A 3 (fnEnv (recAt 18) pm cd doc L a) ["script"] ["drawn", "spot", "numbers", "right", "near", "table", "begin", "names", "orders", "rank", "order", "seen", "least", "texts", "arrows", "low", "high", "told", "going", "one", "two", "three", "side", "ends"] [.ilist (ns.map PV.int)] ow).weak [.fz (.ilist (ns.map PV.int)), .fz (.list ((drw ns).map PV.int)), .un, .fz (.list ((nums ns).map PV.int)), .fz (.bool true), .fz (.list (near.map pairD)), .fz (.list (tableP tb0)), .fz (.str (beginS bi)), .fz (.list ((namesL bi).map PV.str)), .fz (.list (OS.map rowD)), .un, .un, .ow aS (.lst (encs ((lstep near ST od).1.map arrD))), .fz (.int (lstep near ST od).2), .un, .un, .un, .un, .un, .un, .un, .un, .un, .un, .un] (aS :: ow)) (tr_eq (tr_notin_own 12 (d := arrD ar) (ds := ST.1.map arrD) rfl rfl (ev_eq (ev_name 15 rfl rfl) (enc_arr ar).symm) (shaped_arr ar) (fun e he => by obtain ⟨l, _, rfl⟩ := List.mem_map.mp he; exact shaped_arr l)) ?_) ⟨rfl, rfl, rfl, rfl, rfl, rfl, rfl⟩ (fun h => ?_) (fun h => ?_) (xs_nil fun s S => ⟨trivial, S⟩)
    · rw [List.any_map]
      congr 2
      funext e
      exact eqv_arrD e ar
    · have h' : ST.1.any (· == ar) = false := by simpa using h
      have hs' : lstep near ST od = (ST.1 ++ [ar], if longest ar (goingOf od) < ST.2 then longest ar (goingOf od) else ST.2) := by rw [hstep, if_neg (by rw [h']; simp)]
      rw [hs']
      refine xs_append 12 rfl rfl ⟨trivial, trivial, trivial, trivial, trivial, trivial, trivial, trivial, trivial, trivial, trivial, trivial, trivial, trivial, trivial, trivial, trivial, trivial, trivial, trivial, trivial, trivial, trivial, trivial, trivial⟩ (ev_name 15 rfl rfl) (by rw [encs_len]; omega) ?_
      have hne : ∀ i j, i < 4 → j < 4 → i ≠ j → (((tsOf bi od).getD i default).1 == ((tsOf bi od).getD j default).1) = false := fun i j hi hj hij => by
        rw [ts_at hi, ts_at hj]
        have e : (nameS bi (od.getD i 0) == nameS bi (od.getD j 0)) = decide ((⟨od.getD i 0, ox i hi⟩ : Fin 4) = ⟨od.getD j 0, ox j hj⟩) := (name_lt ⟨bi, hbi4⟩ ⟨od.getD i 0, ox i hi⟩ ⟨od.getD j 0, ox j hj⟩).2
        show (nameS bi (od.getD i 0) == nameS bi (od.getD j 0)) = false
        rw [e]
        exact decide_eq_false fun e => oy i j hi hj hij (by simpa using congrArg Fin.val e)
      have egoing : permOf (tLt (tsOf bi od)) = goingOf od := perm_congr fun i j hi hj hij => by
        unfold tLt
        rw [ts_at hi, ts_at hj]
        show decide ((nameS bi (od.getD i 0)).cps.toList < (nameS bi (od.getD j 0)).cps.toList) = _
        have e : decide ((nameS bi (od.getD i 0)).cps.toList < (nameS bi (od.getD j 0)).cps.toList) = decide ((⟨od.getD i 0, ox i hi⟩ : Fin 4) < ⟨od.getD j 0, ox j hj⟩) := (name_lt ⟨bi, hbi4⟩ ⟨od.getD i 0, ox i hi⟩ ⟨od.getD j 0, ox j hj⟩).1
        rw [e]; rfl
      have ets : ((List.range 4).map fun i => tD (nameS bi (od.getD i 0), i)) = (tsOf bi od).map tD := by unfold tsOf; rw [List.map_map]; rfl
      refine xs_comp 19 rfl rfl (evc_p ["text", "spot"] [] (permOf (tLt (tsOf bi od))) (fun i => .str ((tsOf bi od).getD i default).1) (fun i => .int (((tsOf bi od).getD i default).2 : Int)) (fun _ => true) (fun i => .int (((tsOf bi od).getD i default).2 : Int)) (by kernel_rfl!) rfl rfl (it_list (e_sorted G (evs1 (ev_eq (ev_comp (evc_m ["spot"] [("texts", 14)] (List.range 4) (fun i => .int (i : Int)) (fun i => tD (nameS bi (od.getD i 0), i)) (by kernel_rfl!) rfl (i_range0 G (n := 4) ev_int (by decide)) (fun C D i hi => ?_) (by rw [hz]; exact Nat.le_of_ble_eq_true rfl))) (congrArg PV.list ets))) (f_sorted rfl hne))) (fun C D z hz => .nil) (fun C D z hz q => ev_name 1 rfl rfl) ?_) (by rfl) ?_
      · have hi' := List.mem_range.mp hi
        exact ev_tuple (evs2 (e_def G 3 rfl rfl (evs1 (ev_sub (ev_name 1 rfl rfl) (ev_name 0 rfl rfl) (s_list (by omega) (by omega) (text_at (by omega))))) (sp_strxfrm G _)) (ev_name 0 rfl rfl))
      · rw [flat_all, List.length_map, perm_len]; omega
      have eg : ((permOf (tLt (tsOf bi od))).flatMap fun i => if true = true then [PV.int (((tsOf bi od).getD i default).2 : Int)] else []) = natL (goingOf od) := by
        rw [flat_all, egoing]
        unfold natL
        apply List.map_congr_left
        intro i hi
        rw [ts_at (perm_lt _ i hi)]
      rw [eg]
      have hgl : (goingOf od).length = 4 := perm_len _
      refine xs_set 13 rfl rfl (e_min G (evs2 (ev_name 13 rfl rfl) (e_def G 8 rfl rfl (evs2 (ev_name 19 rfl rfl) (ev_name 15 rfl rfl)) (sp_longest G hsm _ _ (by omega) (by omega) (by omega)))) f_min_ii) ?_
      refine xs_fin rfl ?_ (fun _ h => h)
      rw [encs_snoc]
      have el : PV.int (if longest ar (goingOf od) < ST.2 then longest ar (goingOf od) else ST.2) = PV.int (if longest ar (goingOf od) < ST.2 then longest ar (goingOf od) else ST.2) := rfl
      exact (by repeat (first | exact WL.nil | refine WL.un ?_ | refine WL.same (by first | exact trivial | exact List.mem_cons_self | exact List.mem_cons_of_mem _ List.mem_cons_self) ?_ | refine WL.frz (by assumption) ?_))
    · have h' : ST.1.any (· == ar) = true := by simpa using h
      have hs' : lstep near ST od = ST := by rw [hstep, if_pos h']
      rw [hs']
      exact xs_fin rfl (by repeat (first | exact WL.nil | refine WL.un ?_ | refine WL.same (by first | exact trivial | exact List.mem_cons_self | exact List.mem_cons_of_mem _ List.mem_cons_self) ?_ | refine WL.frz (by assumption) ?_)) (fun _ h => h)
  have e24 : OS.take (OS.map rowD).length = OS := by rw [List.length_map, List.take_length]
  rw [e24]
  have hsl : (lst near OS).1.length ≤ 24 := by
    have h1 := lst_len near OS ([], 4)
    rw [hO24] at h1
    have h3 : (([], 4) : List (List (Nat × Nat)) × Int).1.length = 0 := rfl
    unfold lst; omega
  have hars : ∀ a ∈ (lst near OS).1, a.length ≤ 100 := lst_ars near (by omega) OS ([], 4) fun a ha => by cases ha
  generalize lst near OS = ST at hsl hars ok1 ok2 ok3 ⊢
  refine xs_weak (σ' := [.fz (.ilist (ns.map PV.int)), .fz (.list ((drw ns).map PV.int)), .un, .fz (.list ((nums ns).map PV.int)), .fz (.bool true), .fz (.list (near.map pairD)), .fz (.list (tableP tb0)), .fz (.str (beginS bi)), .fz (.list ((namesL bi).map PV.str)), .fz (.list (OS.map rowD)), .un, .un, .fz (.list (encs (ST.1.map arrD))), .fz (.int ST.2), .un, .un, .un, .un, .un, .un, .un, .un, .un, .un, .un]) (ow' := ow) ?_ (fun _ h => List.mem_cons_of_mem _ h) ?_
  · have haS' : aS ∉ ow := haS
    exact (by repeat (first | exact WL.nil | refine WL.un ?_ | refine WL.same (by first | exact trivial | exact List.mem_cons_self | exact List.mem_cons_of_mem _ List.mem_cons_self) ?_ | refine WL.frz (by assumption) ?_))
  refine xs_assign_t (ev_comp (evc_m ["many"] [("near", 5), ("table", 6)] [1, 2, 3] (fun (i : Nat) => .int (i : Int)) (fun m => .int (paintings m near tb0)) (by kernel_rfl!) rfl (it_list (ev_list (evs3 ev_int ev_int ev_int))) (fun C D m hm => e_def G 7 rfl rfl (evs3 (ev_name 0 rfl rfl) (ev_name 1 rfl rfl) (ev_name 2 rfl rfl)) (sp_paintings G m (by simp at hm; omega) near tb0 (by omega) fun z hz => (hn z hz).1)) (by rw [hz]; exact Nat.le_of_ble_eq_true rfl)))
    (ta_list (tas_cons (ta_name 20 rfl (List.mem_of_getElem? (i := 20) rfl)) (tas_cons (ta_name 21 rfl (List.mem_of_getElem? (i := 21) rfl)) (tas_cons (ta_name 22 rfl (List.mem_of_getElem? (i := 22) rfl)) tas_nil (Same.set ..)) (Same.set ..)) (Same.set ..)) rfl) (((Same.set ..).trans (Same.set ..)).trans (Same.set ..)) (fun b hb => mut_set (mut_set (mut_set hb))) ?_
  change XS sb _ ow ((fnCx g A 3 (fnEnv (recAt 18) pm cd doc L a) ["script"] ["drawn", "spot", "numbers", "right", "near", "table", "begin", "names", "orders", "rank", "order", "seen", "least", "texts", "arrows", "low", "high", "told", "going", "one", "two", "three", "side", "ends"] [.ilist (ns.map PV.int)] ow).weak [.fz (.ilist (ns.map PV.int)), .fz (.list ((drw ns).map PV.int)), .un, .fz (.list ((nums ns).map PV.int)), .fz (.bool true), .fz (.list (near.map pairD)), .fz (.list (tableP tb0)), .fz (.str (beginS bi)), .fz (.list ((namesL bi).map PV.str)), .fz (.list (OS.map rowD)), .un, .un, .fz (.list (encs (ST.1.map arrD))), .fz (.int ST.2), .un, .un, .un, .un, .un, .un, .fz (.int (paintings 1 near tb0)), .fz (.int (paintings 2 near tb0)), .fz (.int (paintings 3 near tb0)), .un, .un] ow) _ _ _
  generalize paintings 1 near tb0 = w1 at ok1 ok2 ok3 ⊢
  generalize paintings 2 near tb0 = w2 at ok1 ok2 ok3 ⊢
  generalize paintings 3 near tb0 = w3 at ok1 ok2 ok3 ⊢
  refine xs_if_skip (tr_eq (tr_cmp (e_len G (evs1 (ev_name 12 rfl rfl)) (f_len_list (by rw [encs_len]; omega))) (ev_bin (ev_bin (ev_bin ev_int (ev_name 22 rfl rfl) b_sub_ii) (ev_bin ev_int (ev_name 21 rfl rfl) (b_mul_ii (.of_left (by decide)))) b_add_ii) (ev_bin ev_int (ev_name 20 rfl rfl) (b_mul_ii (.of_left (by decide)))) b_sub_ii) c_ne_ii) (by rw [encs_len, ok1]; simp)) ?_
  refine xs_for (fun k => (fnCx g A 3 (fnEnv (recAt 18) pm cd doc L a) ["script"] ["drawn", "spot", "numbers", "right", "near", "table", "begin", "names", "orders", "rank", "order", "seen", "least", "texts", "arrows", "low", "high", "told", "going", "one", "two", "three", "side", "ends"] [.ilist (ns.map PV.int)] ow).weak [.fz (.ilist (ns.map PV.int)), .fz (.list ((drw ns).map PV.int)), .un, .fz (.list ((nums ns).map PV.int)), .fz (.bool true), .fz (.list (near.map pairD)), .fz (.list (tableP tb0)), .fz (.str (beginS bi)), .fz (.list ((namesL bi).map PV.str)), .fz (.list (OS.map rowD)), .un, .un, .fz (.list (encs (ST.1.map arrD))), .fz (.int ST.2), .un, .un, .un, .un, .un, .un, .fz (.int w1), .fz (.int w2), .fz (.int w3), .un, .un] ow) (fun k => (fnCx g A 3 (fnEnv (recAt 18) pm cd doc L a) ["script"] ["drawn", "spot", "numbers", "right", "near", "table", "begin", "names", "orders", "rank", "order", "seen", "least", "texts", "arrows", "low", "high", "told", "going", "one", "two", "three", "side", "ends"] [.ilist (ns.map PV.int)] ow).weak [.fz (.ilist (ns.map PV.int)), .fz (.list ((drw ns).map PV.int)), .un, .fz (.list ((nums ns).map PV.int)), .fz (.bool true), .fz (.list (near.map pairD)), .fz (.list (tableP tb0)), .fz (.str (beginS bi)), .fz (.list ((namesL bi).map PV.str)), .fz (.list (OS.map rowD)), .un, .un, .fz (.list (encs (ST.1.map arrD))), .fz (.int ST.2), .un, .un, .un, .un, .un, .un, .fz (.int w1), .fz (.int w2), .fz (.int w3), .fz (.int (k : Int)), .un] ow)
    (fun _ => True) (i_range0 G (n := 2) ev_int (by decide)) rfl trivial (fun k => ⟨rfl, rfl, rfl, rfl, rfl, rfl, rfl⟩) (fun k => ⟨rfl, rfl, rfl, rfl, rfl, rfl, rfl⟩) (fun k b hb => mut_set (i := 23) (d := .int (k : Int)) hb) (fun k d hd _ => ?_) (fun k d st hd _ => ?_) fun _ => ?_
  · obtain ⟨hk, rfl⟩ := range_at hd
    exact ta_name 23 rfl (List.mem_of_getElem? (i := 23) rfl)
  · obtain ⟨hk, rfl⟩ := range_at hd
    refine xs_comp 24 rfl rfl (evc_m ["arrows"] [("side", 23)] ST.1 (fun a => .list (a.map pairD)) (fun a => .list (natL (unmet a k))) (by kernel_rfl!) rfl (it_list (ev_eq (ev_name 12 rfl rfl) (congrArg PV.list (encs_arrs ST.1)))) (fun C D a ha => e_def G 9 rfl rfl (evs2 (ev_name 0 rfl rfl) (ev_name 1 rfl rfl)) (sp_unmet G a k hk (hars a ha))) (by rw [hz]; omega)) (by rfl) ?_
    have ee : (ST.1.map fun a => PV.list (natL (unmet a k))) = encs ((ST.1.map fun a => unmet a k).map natD) := by
      rw [encs_map, List.map_map]
      apply List.map_congr_left
      intro a _
      exact (enc_nat _).symm
    rw [ee]
    refine xs_for (fun p => (fnCx g A 3 (fnEnv (recAt 18) pm cd doc L a) ["script"] ["drawn", "spot", "numbers", "right", "near", "table", "begin", "names", "orders", "rank", "order", "seen", "least", "texts", "arrows", "low", "high", "told", "going", "one", "two", "three", "side", "ends"] [.ilist (ns.map PV.int)] ow).weak [.fz (.ilist (ns.map PV.int)), .fz (.list ((drw ns).map PV.int)), .un, .fz (.list ((nums ns).map PV.int)), .fz (.bool true), .fz (.list (near.map pairD)), .fz (.list (tableP tb0)), .fz (.str (beginS bi)), .fz (.list ((namesL bi).map PV.str)), .fz (.list (OS.map rowD)), .un, .un, .fz (.list (encs (ST.1.map arrD))), .fz (.int ST.2), .un, .un, .un, .un, .un, .un, .fz (.int w1), .fz (.int w2), .fz (.int w3), .fz (.int (k : Int)), .fz (.list (encs ((ST.1.map fun a => unmet a k).map natD)))] ow) (fun p => (fnCx g A 3 (fnEnv (recAt 18) pm cd doc L a) ["script"] ["drawn", "spot", "numbers", "right", "near", "table", "begin", "names", "orders", "rank", "order", "seen", "least", "texts", "arrows", "low", "high", "told", "going", "one", "two", "three", "side", "ends"] [.ilist (ns.map PV.int)] ow).weak [.fz (.ilist (ns.map PV.int)), .fz (.list ((drw ns).map PV.int)), .fz (.int (p : Int)), .fz (.list ((nums ns).map PV.int)), .fz (.bool true), .fz (.list (near.map pairD)), .fz (.list (tableP tb0)), .fz (.str (beginS bi)), .fz (.list ((namesL bi).map PV.str)), .fz (.list (OS.map rowD)), .un, .un, .fz (.list (encs (ST.1.map arrD))), .fz (.int ST.2), .un, .un, .un, .un, .un, .un, .fz (.int w1), .fz (.int w2), .fz (.int w3), .fz (.int (k : Int)), .fz (.list (encs ((ST.1.map fun a => unmet a k).map natD)))] ow)
      (fun _ => True) (i_range0 G (n := 4) ev_int (by decide)) rfl trivial (fun k => ⟨rfl, rfl, rfl, rfl, rfl, rfl, rfl⟩) (fun k => ⟨rfl, rfl, rfl, rfl, rfl, rfl, rfl⟩) (fun p b hb => mut_set (i := 2) (d := .int (p : Int)) hb) (fun p d hd _ => ?_) (fun p d st' hd _ => ?_) fun _ => ?_
    · obtain ⟨hp, rfl⟩ := range_at hd
      exact ta_name 2 rfl (List.mem_of_getElem? (i := 2) rfl)
    · obtain ⟨hp, rfl⟩ := range_at hd
      refine xs_if_skip (tr_eq (tr_cmp (ev_bin ev_int (ev_count (d := natD [p]) (ds := (ST.1.map fun a => unmet a k).map natD) (ev_name 24 rfl rfl) (ev_list (evs1 (ev_name 2 rfl rfl))) (shaped_nat _) (fun e he => by obtain ⟨l, _, rfl⟩ := List.mem_map.mp he; exact shaped_nat l)) (b_mul_ii (.of_left (by decide)))) (ev_bin (ev_bin (ev_bin ev_int (ev_bin ev_int (ev_name 20 rfl rfl) (b_mul_ii (.of_left (by decide)))) b_sub_ii) (ev_bin ev_int (ev_name 21 rfl rfl) (b_mul_ii (.of_left (by decide)))) b_add_ii) (ev_bin ev_int (ev_name 22 rfl rfl) (b_mul_ii (.of_left (by decide)))) b_sub_ii) c_ne_ii) ?_) (xs_done rfl (by repeat (first | exact WL.nil | refine WL.un ?_ | refine WL.same (by first | exact trivial | exact List.mem_cons_self | exact List.mem_cons_of_mem _ List.mem_cons_self) ?_ | refine WL.frz (by assumption) ?_)) (fun _ h => h) trivial)
      have ec : ((ST.1.map fun a => unmet a k).map natD).countP (fun e => PyData.eqv e (natD [p])) = (ST.1.map fun a => unmet a k).countP (· == [p]) := by
        rw [List.countP_map]
        congr 1
        funext l
        exact eqv_nat l [p]
      rw [ec, ok2 k hk p hp]
      simp
    exact xs_done rfl (by repeat (first | exact WL.nil | refine WL.un ?_ | refine WL.same (by first | exact trivial | exact List.mem_cons_self | exact List.mem_cons_of_mem _ List.mem_cons_self) ?_ | refine WL.frz (by assumption) ?_)) (fun _ h => h) trivial
  refine xs_ret (ev_eq (ev_cmp (ev_name 13 rfl rfl) (ev_sub (ev_comp (evc_p ["many", "ways"] [] ([(1, w1), (2, w2), (3, w3), (4, 1)] : List (Int × Int)) (fun z => .int z.1) (fun z => .int z.2) (fun z => decide (0 < z.2)) (fun z => .int z.1) (by kernel_rfl!) rfl rfl (it_list (ev_list (evs_cons (ev_tuple (evs2 ev_int (ev_name 20 rfl rfl))) (evs3 (ev_tuple (evs2 ev_int (ev_name 21 rfl rfl))) (ev_tuple (evs2 ev_int (ev_name 22 rfl rfl))) (ev_tuple (evs2 ev_int ev_int)))))) (fun C D z hz => .one (tr_cmp (ev_name 1 rfl rfl) ev_int c_gt_ii)) (fun C D z hz q => ev_name 0 rfl rfl) ?_)) ev_int (s_list (d := .int (firstWay w1 w2 w3)) (by decide) (by decide) ?_)) c_eq_ii) ?_) rfl fun _ h => h
  · rw [flat_filter, List.length_map]
    have := List.length_filter_le (fun z : Int × Int => decide (0 < z.2)) [(1, w1), (2, w2), (3, w3), (4, 1)]
    have h4 : ([(1, w1), (2, w2), (3, w3), (4, 1)] : List (Int × Int)).length = 4 := rfl
    omega
  · rw [flat_filter]
    refine first_at _ fun e => ?_
    have : ((4, 1) : Int × Int) ∈ ([(1, w1), (2, w2), (3, w3), (4, 1)] : List (Int × Int)).filter (fun z => decide (0 < z.2)) := List.mem_filter.mpr ⟨by simp, by decide⟩
    rw [e] at this
    cases this
  · rw [ok3]; simp
end
end Mine

end
section
open PySem PySem.W PyProof.Rows PySem.Calls
set_option maxRecDepth 100000
namespace Mine
theorem law_all : ∀ a b c d e f : Bool, lawOk (nearB a b c d e f) = true := by decide +kernel
theorem near_all : ∀ a b c d e f : Bool, (∀ z ∈ nearB a b c d e f, z.1 < z.2 ∧ z.2 < 4) ∧ (nearB a b c d e f).length ≤ 6 := by decide +kernel
theorem near_eq (ns : List Int) (r : Int) : ∃ a b c d e f, nearTo ns r 4 = nearB a b c d e f := by
  refine ⟨decide (due (ns.getD 0 0) (ns.getD 1 0) ≤ r), decide (due (ns.getD 0 0) (ns.getD 2 0) ≤ r), decide (due (ns.getD 1 0) (ns.getD 2 0) ≤ r), decide (due (ns.getD 0 0) (ns.getD 3 0) ≤ r), decide (due (ns.getD 1 0) (ns.getD 3 0) ≤ r), decide (due (ns.getD 2 0) (ns.getD 3 0) ≤ r), ?_⟩
  have s : ∀ h l, nearH ns r h (l + 1) = nearH ns r h l ++ (if decide (due (ns.getD l 0) (ns.getD h 0) ≤ r) = true then [(l, h)] else []) := fun h l => by
    rw [nearH_succ]; simp only [decide_eq_true_eq]
  have z : ∀ h, nearH ns r h 0 = [] := fun _ => rfl
  rw [nearTo_succ, nearTo_succ, nearTo_succ, nearTo_succ, show nearTo ns r 0 = [] from rfl, z, s 1 0, z, s 2 1, s 2 0, z, s 3 2, s 3 1, s 3 0, z]
  unfold nearB
  simp only [List.nil_append, List.append_assoc]
theorem sp_law' {g : Gl} (G : GF g) (hsm : True) (ns : List Int) (hns : ns.length ≤ 63) : FSpec g 4 "law" [.ilist (ns.map PV.int)] (.bool true) := by
  obtain ⟨a, b, c, d, e, f, h⟩ := near_eq (nums ns) (reachOf ns)
  obtain ⟨h1, h2⟩ := near_all a b c d e f
  exact sp_law G hsm ns hns _ h h1 h2 (law_all a b c d e f)
end Mine

end
section
open PySem PySem.W PyProof.Rows PySem.W.X
set_option maxRecDepth 100000
set_option maxHeartbeats 8000000
open_top hd for PySem.Challenge.rw_re0051_01
namespace Mine
theorem recs_eq : recsOf hd.view_39 = theRecs := by rfl
theorem gconst {p : Program} {loose : List Str} {mean : ExcName → Option Value} {mg mb : Str → Option Value} {h : Heap} (T : Top p loose mean mg mb h) {x : Str} {k : Int} (e : valOf p x = some (.int k)) : ∃ t, mg x = some (.int k t) := by
  obtain ⟨v, h1, h2⟩ := T.const x _ e
  have r := h2 h
  cases r with
  | int i t => exact ⟨t, h1⟩
theorem gfree {p : Program} {loose : List Str} {mean : ExcName → Option Value} {mg mb : Str → Option Value} {h : Heap} (T : Top p loose mean mg mb h) (x : Str) (v : Value) (h1 : (startupNames ++ loose ++ (recsOf p).map (·.name) ++ (litsOf p).map (·.1) ++ (clssOf p loose).map (·.name)).contains x = false) (h2 : (x == "__name__") = false) (h3 : bootBuiltins x = some v) : mg x = none ∧ mb x = some v := by
  simp only [List.contains_eq_mem, List.mem_append, decide_eq_false_iff_not, not_or] at h1
  obtain ⟨⟨⟨⟨a, b⟩, c⟩, d⟩, e⟩ := h1
  exact ⟨T.free x a b c d e, (T.builtins x (by simpa using h2)).trans h3⟩
theorem law_ints {h : Heap} {ow : List Addr} {vs : List Value} {ns : List Int} (hI : IntsAre vs ns) : DIs h ow vs (ns.map PV.int) := of_ints hI
end Mine
theorem PySem.Challenge.cw_re0051_01_holds : PySem.Challenge.rw_re0051_01.Holds := by
  refine hd ?_
  k_fill
  intro w s₀ s₁ mg mb G Y fa o pm cd doc dV kV ho hd hcd hD hmg hg args vals as hpre hlay hrd hwl hlo
  have KX := kIn_of Y
  refine Ground.open G ?_
  intro T B D TE TW
  wrow_args hpre hlay hrd hwl hlo
  x_fa T KX hmg
  all_lens
  rename_i ns hs hlay0 hL1 hr1 hl2 x4 x3 l vs x0 hL ra w1 r0 hr hlen htr hI hb9
  have GFf : Mine.GF ⟨PySem.Challenge.rw_re0051_01.row.prog, w, Mine.theRecs, mg, mb, s₁.heap⟩ := by
    refine ⟨rfl, Mine.gconst T (by rfl), Mine.gconst T (by rfl), Mine.gconst T (by rfl), fun p hp => ?_⟩
    simp only [List.mem_cons, List.not_mem_nil, or_false] at hp
    rcases hp with rfl | rfl | rfl | rfl | rfl | rfl | rfl | rfl | rfl <;> exact Mine.gfree T _ _ (by kernel_rfl!) (by decide +kernel) (by kernel_rfl!)
  have ST1 : Mine.ST Mine.theRecs mg mb s₁.heap := ⟨T.g, T.b, T.nolimit, fun d hd => T.fn d (by rw [Mine.recs_eq]; exact hd)⟩
  refine wpAny_mono (Mine.sp_law' GFf trivial ns (by omega) callerA s₁ [] [.ref l] 86 ⟨rfl, by decide +kernel, by decide +kernel⟩ ST1 (fun _ _ g => g) (fun a ha => by cases ha) (fun a ha => by cases ha) hmg (.cons (.ilist (by simp) hL (Mine.law_ints hI)) .nil)) ?_ ?_
  · rintro v s' ⟨⟨h', tk, rfl, keep⟩, dv⟩
    cases dv
    refine ⟨.inl ⟨_, .bool true, [], rfl, fun cls => rfl, .bool true, ?_, unshared_nil⟩, .of_keep keep, rfl, .of_eq hg⟩
    first | decide +kernel | kernel_rfl!
  · intro _ _ f
    exact f.elim

end
