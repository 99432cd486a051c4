import PyProof.Rows.All
import Wide.All
import OpenK.AllK
import Wide.FinOn
import PySem.Challenge.RW_gr5006_01
open PySem PySem.W PySem.Calls PyProof.Rows PySem.Spec
set_option Elab.async false
set_option maxRecDepth 100000
set_option maxHeartbeats 8000000
namespace Mine
open_top zhd for PySem.Challenge.rw_gr5006_01
end Mine
namespace Mine

/-- a value without its token -/
inductive PV where
  | none
  | bool (b : Bool)
  | int (i : Int)
  | str (s : Str)
  | ref (a : Addr)
  | typ (n : String)
  | bi (n : String)

def PV.R : PV → Value → Prop
  | .none, v => v = .none
  | .bool b, v => v = .bool b
  | .int i, v => ∃ t, v = .int i t
  | .str s, v => ∃ t, v = .str s t
  | .ref a, v => v = .ref a
  | .typ n, v => v = .type n
  | .bi n, v => v = .builtin n

inductive RL : List PV → List Value → Prop where
  | nil : RL [] []
  | cons {p v ps vs} : PV.R p v → RL ps vs → RL (p :: ps) (v :: vs)

theorem RL.len {ps vs} (h : RL ps vs) : vs.length = ps.length := by
  induction h with
  | nil => rfl
  | cons _ _ ih => simp [ih]
theorem RL.get {ps vs} (h : RL ps vs) : ∀ {i : Nat} {p : PV}, ps[i]? = some p → ∃ v, vs[i]? = some v ∧ PV.R p v := by
  induction h with
  | nil => intro i p e; simp at e
  | cons h1 _ ih =>
    intro i p e
    cases i with
    | zero => simp at e; subst e; exact ⟨_, rfl, h1⟩
    | succ i => simp at e ⊢; exact ih e
theorem RL.app {ps vs qs us} (h : RL ps vs) (h2 : RL qs us) : RL (ps ++ qs) (vs ++ us) := by
  induction h with
  | nil => exact h2
  | cons h1 _ ih => exact .cons h1 ih
theorem RL.set {ps vs} (h : RL ps vs) {p v} (hp : PV.R p v) : ∀ i, RL (ps.set i p) (vs.set i v) := by
  induction h with
  | nil => intro i; exact .nil
  | cons h1 h2 ih =>
    intro i
    cases i with
    | zero => exact .cons hp h2
    | succ i => exact .cons h1 (ih i)
theorem RL.drop {ps vs} (h : RL ps vs) : ∀ i, RL (ps.drop i) (vs.drop i) := by
  induction h with
  | nil => intro i; simp; exact .nil
  | cons h1 h2 ih =>
    intro i
    cases i with
    | zero => exact .cons h1 h2
    | succ i => exact ih i
theorem RL.take {ps vs} (h : RL ps vs) : ∀ i, RL (ps.take i) (vs.take i) := by
  induction h with
  | nil => intro i; simp; exact .nil
  | cons h1 h2 ih =>
    intro i
    cases i with
    | zero => exact .nil
    | succ i => exact .cons h1 (ih i)
theorem RL.append_inv {qs us} : ∀ {ps vs}, RL (ps ++ qs) (vs ++ us) → vs.length = ps.length → RL ps vs ∧ RL qs us := by
  intro ps
  induction ps with
  | nil => intro vs h e; cases vs with
    | nil => exact ⟨.nil, h⟩
    | cons _ _ => simp at e
  | cons p ps ih => intro vs h e; cases vs with
    | nil => simp at e
    | cons v vs =>
      cases h with
      | cons h1 h2 =>
        obtain ⟨a, b⟩ := ih h2 (by simpa using e)
        exact ⟨.cons h1 a, b⟩

abbrev Vars := List (Str × PV)

/-- what the plain heap bears -/
inductive PO where
  | list (xs : List PV)
  | tup (xs : List PV)
  | inst (C d : Addr)
  | exc (C : Addr) (d : Option Addr) (fresh : Bool)
  | dict (fs : Vars)
  | cell (v : Option PV)
  | raw (o : Obj)

inductive RD : Vars → List DictEntry → Prop where
  | nil : RD [] []
  | cons {x p e ps es} : (∃ t, e.key = .str x t) → PV.R p e.val → RD ps es → RD ((x, p) :: ps) (e :: es)

def PO.R : PO → Obj → Prop
  | .list xs, o => ∃ vs n, o = { cls := .type "list", data := .seq (List.toArray vs) n } ∧ RL xs vs
  | .tup xs, o => ∃ vs n, o = { cls := .type "tuple", data := .seq (List.toArray vs) n } ∧ RL xs vs
  | .inst C d, o => o = instObj C d
  | .exc C d fl, o => o.cls = .ref C ∧ o.dict = d ∧ ∃ vs, o.data = .fields vs ∧ vs.size = 6 ∧ (fl = true → vs[1]? = some .none)
  | .dict fs, o => ∃ es n, o = dictOf es n ∧ RD fs es
  | .cell v, o => ∃ v', o.data = .cell v' ∧ (match v, v' with | .none, _ => True | some p, some x => PV.R p x | some _, .none => False)
  | .raw o', o => o = o'

abbrev PHeap := Addr → Option PO
def PHeap.set (H : PHeap) (a : Addr) (o : PO) : PHeap := fun b => if b = a then some o else H b
def PHeap.Le (H H' : PHeap) : Prop := ∀ a o, H a = some o → H' a = some o

/-- the plain heap and the ledger -/
structure HR (H : PHeap) (news : List (Addr × Obj)) : Prop where
  to : ∀ q ∈ news, ∃ o, H q.1 = some o ∧ PO.R o q.2
  from' : ∀ a o, H a = some o → ∃ mo, (a, mo) ∈ news
  nodup : (news.map (·.1)).Nodup

/-- with private objects -/
def ext (P : List (Addr × Obj)) (H : PHeap) : PHeap := fun a => match P.lookup a with
  | some o => some (.raw o)
  | none => H a

theorem HR.mem {H news} (h : HR H news) {a o} (e : H a = some o) : ∃ mo, (a, mo) ∈ news ∧ PO.R o mo := by
  obtain ⟨mo, hm⟩ := h.from' a o e
  obtain ⟨o', e', r⟩ := h.to _ hm
  rw [e] at e'; cases e'
  exact ⟨mo, hm, r⟩

def VR (vs : Vars) (m : Str → Option Value) : Prop := ∀ x p, vs.lookup x = some p → ∃ v, m x = some v ∧ PV.R p v

structure Gl where
  prog : Program
  w : World
  K : Frag
  p : Program
  loose : List Str
  mean : ExcName → Option Value
  mg : Str → Option Value
  mb : Str → Option Value
  base : Heap
  gens : Array GenState
  drawn : Drawn
  os : OsState

structure Cx (S : Scope) where
  A₀ : Around
  outer : List Env
  L : Addr
  qu : Str
  fn : Option Addr
  ccd : Value
  cl : List (Str × Addr)
  Lf : Addr
  own : Bool
  hd : Option Value
  dp : Nat
  un : Nat
  gd : Option (List Code)
  P : List (Addr × Obj)
  bl : List (Addr × (Str → Option Value))

def Cx.env {S : Scope} (c : Cx S) : Env := { scope := S, locals := c.L, globals := mainGlobals, cells := c.cl, qual := c.qu, func := c.fn, code := c.ccd, frame := some c.Lf, builtins := builtinsNs }
/-- the frames, the one at hand first -/
def Cx.frames {S : Scope} (c : Cx S) : List Env := match c.own with
  | true => c.env :: c.outer
  | false => c.outer
def Cx.A {S : Scope} (c : Cx S) : Around := { handled := c.hd, depth := c.dp, frames := some c.frames, guards := c.gd, units := c.un }

structure Gl.Ok (G : Gl) : Prop where
  X : G.K.In G.base
  T : Top G.p G.loose G.mean G.mg G.mb G.base

structure Cx.Ok {S : Scope} (c : Cx S) : Prop where
  hk : S.kind = .function
  hL : c.own = true → c.Lf = c.L

/-- what lies behind the frame at hand -/
structure BackOk (G : Gl) (L : Addr) (outer : List Env) (bl : List (Addr × (Str → Option Value))) (h₀ : Heap) : Prop where
  ns : ∀ p ∈ bl, h₀.Ns p.1 p.2
  lt : ∀ p ∈ bl, p.1 < L
  fr : ∀ a ∈ outer.filterMap (·.frame), a < L
  base : G.base.objs.size ≤ L

structure Sat0 (G : Gl) {S : Scope} (c : Cx S) (H : PHeap) (m : Str → Option Value) (h₀ : Heap) (news : List (Addr × Obj)) (s : Shared) : Prop where
  F : Fr h₀ c.L s.heap m
  N : News h₀ c.L s.heap news
  B : Below c.A₀ G.base c.outer h₀
  bk : BackOk G c.L c.outer c.bl h₀
  hr : HR (ext c.P H) news
  dj : ∀ a, (c.P.lookup a).isSome = true → H a = none
  g : s.gens = G.gens
  d : s.drawn = G.drawn
  o : s.os = G.os

def Sat (G : Gl) {S : Scope} (c : Cx S) (H : PHeap) (vs : Vars) (s : Shared) : Prop := ∃ h₀ m news, Sat0 G c H m h₀ news s ∧ VR vs m

theorem Sat0.look {G : Gl} {Sc : Scope} {c : Cx Sc} {H m h₀ news s} (S : Sat0 G c H m h₀ news s) {a : Addr} {o : PO} (e : H a = some o) : ext c.P H a = some o := by
  unfold ext
  cases q : c.P.lookup a with
  | none => exact e
  | some z => have := S.dj a (by rw [q]; rfl); rw [e] at this; cases this
theorem Sat0.mem {G : Gl} {Sc : Scope} {c : Cx Sc} {H m h₀ news s} (S : Sat0 G c H m h₀ news s) {a : Addr} {o : PO} (e : H a = some o) : ∃ mo, (a, mo) ∈ news ∧ PO.R o mo := S.hr.mem (S.look e)
theorem Sat0.X {G : Gl} {Sc : Scope} {c : Cx Sc} {H m h₀ news s} (S : Sat0 G c H m h₀ news s) (hG : G.Ok) : G.K.In h₀ := hG.X.keeps S.B.stays
theorem Sat0.T {G : Gl} {Sc : Scope} {c : Cx Sc} {H m h₀ news s} (S : Sat0 G c H m h₀ news s) (hG : G.Ok) : Top G.p G.loose G.mean G.mg G.mb h₀ := hG.T.keeps S.B.stays


inductive PX where
  | bi (n : String)
  | own (C d : Addr)

/-- an exception object -/
def ExcObj (h : Heap) (e : Addr) (x : PX) (tb : Value) : Prop := ∃ ob vs, h.get? e = some ob ∧ ob.data = .fields vs ∧ vs.size = 6 ∧ vs[1]? = some tb ∧
  (match x with | .bi n => ob.cls = .type n ∧ vs[2]? = some .none | .own C d => ob.cls = .ref C ∧ ob.dict = some d)

/-- made in this frame, not noted yet -/
def ExNew (G : Gl) {S : Scope} (c : Cx S) (H : PHeap) (vs : Vars) (x : PX) (ea : Addr) (s : Shared) : Prop :=
  ∃ h₀ m news, Sat0 G c H m h₀ news s ∧ VR vs m ∧ ea ∉ news.map (·.1) ∧ ea ≠ c.L ∧ h₀.get? ea = none ∧ ExcObj s.heap ea x .none

/-- what stands while an exception flies -/
structure FlyC (G : Gl) {S : Scope} (c : Cx S) (H : PHeap) (m : Str → Option Value) (news : List (Addr × Obj)) (ea : Addr) (s : Shared) : Prop where
  st : c.A₀.frames = some c.outer
  stays : G.base.StaysIn s.heap
  fr : s.heap.FunFrames G.base c.frames
  ns : s.heap.Ns c.L m
  hr : HR (ext c.P H) news
  dj : ∀ a, (c.P.lookup a).isSome = true → H a = none
  nw : ∀ q ∈ news, s.heap.get? q.1 = some q.2 ∧ G.base.get? q.1 = none ∧ q.1 ∉ c.frames.filterMap (·.frame) ∧ q.1 ≠ c.L ∧ q.1 ∉ c.bl.map (·.1)
  en : ea ∉ news.map (·.1) ∧ G.base.get? ea = none
  bk : BackOk G c.L c.outer c.bl s.heap
  g : s.gens = G.gens
  d : s.drawn = G.drawn
  o : s.os = G.os
/-- noted; fl: the frame it flies in -/
def FlyX (G : Gl) (news : List (Addr × Obj)) (x : PX) (ea : Addr) (fl : Value) (h : Heap) : Prop :=
  ∃ T oT ts, ExcObj h ea x (.ref T) ∧ T ∉ news.map (·.1) ∧ G.base.get? T = none ∧ T ≠ ea ∧ h.get? T = some oT ∧ oT.data = .fields ts ∧ ts[3]? = some fl
def Fly (G : Gl) {S : Scope} (c : Cx S) (H : PHeap) (m : Str → Option Value) (news : List (Addr × Obj)) (x : PX) (ea : Addr) (fl : Value) (s : Shared) : Prop := FlyC G c H m news ea s ∧ FlyX G news x ea fl s.heap

def ExAt (G : Gl) {S : Scope} (c : Cx S) (H : PHeap) (vs : Vars) (x : PX) (ea : Addr) (s : Shared) : Prop := ExNew G c H vs x ea s ∨ ∃ m news fl, (fl = .none ∨ fl = rawInt c.Lf) ∧ VR vs m ∧ Fly G c H m news x ea fl s
def ExSat (G : Gl) {S : Scope} (c : Cx S) (H : PHeap) (vs : Vars) (x : PX) (e : Value) (s : Shared) : Prop := c.own = true → ∃ ea, e = .ref ea ∧ ExAt G c H vs x ea s

def T (G : Gl) {S : Scope} (c : Cx S) {β α : Type} (R : β → α → Prop) (t : Sem α) (H : PHeap) (vs : Vars) (Q : β → PHeap → Vars → Prop) (E : PX → PHeap → Vars → Prop) : Prop :=
  ∀ s, Sat G c H vs s → wpAny (model G.prog G.w) c.A t (fun v s' => ∃ r H' vs', R r v ∧ Sat G c H' vs' s' ∧ Q r H' vs') (fun e s' => ∃ x H' vs', ExSat G c H' vs' x e s' ∧ E x H' vs') s

section
variable {G : Gl} {S : Scope} {c : Cx S} {β α γ δ : Type} {R : β → α → Prop} {R2 : δ → γ → Prop} {H : PHeap} {vs : Vars} {E : PX → PHeap → Vars → Prop}

theorem t_bind {m : Sem α} {f : α → Sem γ} {Q : δ → PHeap → Vars → Prop} (h : T G c R m H vs (fun r H1 vs1 => ∀ v, R r v → T G c R2 (f v) H1 vs1 Q E) E) : T G c R2 (m >>= f) H vs Q E := fun s hs => by
  refine wpAny_bind (wpAny_mono (h s hs) (fun v s1 h1 => ?_) fun _ _ x => x)
  obtain ⟨r, H1, vs1, hr, hs1, hq⟩ := h1
  exact hq v hr s1 hs1
theorem t_mono {t : Sem α} {Q Q' : β → PHeap → Vars → Prop} {E' : PX → PHeap → Vars → Prop} (h : T G c R t H vs Q E) (hq : ∀ r H1 vs1, Q r H1 vs1 → Q' r H1 vs1) (he : ∀ x H1 vs1, E x H1 vs1 → E' x H1 vs1) : T G c R t H vs Q' E' := fun s hs =>
  wpAny_mono (h s hs) (fun _ _ ⟨r, H1, vs1, hr, hs1, h1⟩ => ⟨r, H1, vs1, hr, hs1, hq _ _ _ h1⟩) fun _ _ ⟨x, H1, vs1, hx, h1⟩ => ⟨x, H1, vs1, hx, he _ _ _ h1⟩
theorem t_pure {a : α} {r : β} {Q : β → PHeap → Vars → Prop} (hr : R r a) (h : Q r H vs) : T G c R (pure a) H vs Q E := fun _ hs => wpAny_pure ⟨r, H, vs, hr, hs, h⟩
end

end Mine
namespace Mine

/-- where a statement ends -/
inductive PF where
  | next | brk | cont
  | ret (p : PV)
def PF.R : PF → Flow → Prop
  | .next, f => f = .next
  | .brk, f => f = .brk
  | .cont, f => f = .cont
  | .ret p, f => ∃ v, f = .ret v ∧ PV.R p v
abbrev UR : Unit → Unit → Prop := fun _ _ => True
abbrev BR : Bool → Bool → Prop := Eq

section
variable {G : Gl} {S : Scope} {c : Cx S} {H : PHeap} {vs : Vars} {E : PX → PHeap → Vars → Prop} {x : Str} {pos : Pos} {p : PV} {Q : PV → PHeap → Vars → Prop} {QF : PF → PHeap → Vars → Prop} {QB : Bool → PHeap → Vars → Prop} {QU : Unit → PHeap → Vars → Prop}

theorem t_local (hc : c.Ok) (hx : S.names.lookup x = some .local) (hv : vs.lookup x = some p) (h : Q p H vs) (hd : (x == ("__debug__" : Str)) = false := by decide) :
    T G c PV.R (eval (.Name x pos) c.env) H vs Q E := fun s hs => by
  obtain ⟨h₀, m, news, S0, V⟩ := hs
  obtain ⟨v, hm, hr⟩ := V x p hv
  exact wpAny_Name (wpAny_loadName_local hc.hk hx S0.F.ns hm ⟨p, H, vs, hr, ⟨h₀, m, news, S0, V⟩, h⟩) hd

theorem t_glob (hG : G.Ok) (hc : c.Ok) (hx : S.names.lookup x = some .globalImplicit) {v : Value} (e : nsIn G.K mainGlobals x = some (some v)) (hr : PV.R p v) (h : Q p H vs) (hd : (x == ("__debug__" : Str)) = false := by decide) :
    T G c PV.R (eval (.Name x pos) c.env) H vs Q E := fun s hs => by
  obtain ⟨h₀, m, news, S0, V⟩ := hs
  exact Name_function_global hc.hk hx (loadGlobal_global (env := c.env) ((S0.T hG).g.keeps S0.F.keep) (mg_of (S0.X hG) (S0.T hG).g e) ⟨p, H, vs, hr, ⟨h₀, m, news, S0, V⟩, h⟩) hd

theorem t_bi (hG : G.Ok) (hc : c.Ok) (hx : S.names.lookup x = some .globalImplicit) {v : Value} (e : nsIn G.K mainGlobals x = some none) (hv : bootBuiltins x = some v) (hn : x ≠ "__name__") (hr : PV.R p v) (h : Q p H vs) (hd : (x == ("__debug__" : Str)) = false := by decide) :
    T G c PV.R (eval (.Name x pos) c.env) H vs Q E := fun s hs => by
  obtain ⟨h₀, m, news, S0, V⟩ := hs
  exact Name_function_global hc.hk hx (loadGlobal_builtin (env := c.env) ((S0.T hG).g.keeps S0.F.keep) (mg_none_of (S0.X hG) (S0.T hG).g e) ((S0.T hG).b.keeps S0.F.keep) (((S0.T hG).builtins x hn).trans hv) ⟨p, H, vs, hr, ⟨h₀, m, news, S0, V⟩, h⟩) hd

theorem t_cell (hc : c.Ok) (hx : S.names.lookup x = some .cell) {ca : Addr} (hl : c.cl.lookup x = some ca) (hv : H ca = some (.cell (some p))) (h : Q p H vs) (hd : (x == ("__debug__" : Str)) = false := by decide) :
    T G c PV.R (eval (.Name x pos) c.env) H vs Q E := fun s hs => by
  obtain ⟨h₀, m, news, S0, V⟩ := hs
  obtain ⟨mo, hm, v', hd', hr⟩ := S0.mem hv
  cases v' with
  | none => exact hr.elim
  | some v => exact wpAny_Name (wpAny_loadName_cell hc.hk hx hl ⟨mo, S0.N.get hm, hd'⟩ ⟨p, H, vs, hr, ⟨h₀, m, news, S0, V⟩, h⟩) hd

theorem Sat.tok {s : Shared} {k : Nat} (hs : Sat G c H vs s) : Sat G c H vs { s with toks := k } := by
  obtain ⟨h₀, m, news, S0, V⟩ := hs
  exact ⟨h₀, m, news, ⟨S0.F, S0.N, S0.B, S0.bk, S0.hr, S0.dj, S0.g, S0.d, S0.o⟩, V⟩

theorem t_int {i : Int} {k : Nat} (h : Q (.int i) H vs) : T G c PV.R (eval (.Constant (.int i) k pos) c.env) H vs Q E := fun _ hs =>
  wpAny_Constant_int ⟨.int i, H, vs, ⟨_, rfl⟩, hs.tok, h⟩
theorem t_str {k : Nat} (h : Q (.str x) H vs) : T G c PV.R (eval (.Constant (.str x) k pos) c.env) H vs Q E := fun _ hs =>
  wpAny_Constant_str ⟨.str x, H, vs, ⟨_, rfl⟩, hs.tok, h⟩
theorem t_none {k : Nat} (h : Q .none H vs) : T G c PV.R (eval (.Constant .none k pos) c.env) H vs Q E := fun _ hs =>
  wpAny_Constant_none ⟨.none, H, vs, rfl, hs, h⟩
theorem t_boolc {b : Bool} {k : Nat} (h : Q (.bool b) H vs) : T G c PV.R (eval (.Constant (.bool b) k pos) c.env) H vs Q E := fun _ hs =>
  wpAny_Constant_bool ⟨.bool b, H, vs, rfl, hs, h⟩

/-- what an operation on values gives, whatever their tokens -/
def BinP (G : Gl) (c : Cx S) (op : Operator) (a b : PV) (H : PHeap) (vs : Vars) (Q : PV → PHeap → Vars → Prop) (E : PX → PHeap → Vars → Prop) : Prop :=
  ∀ va vb, PV.R a va → PV.R b vb → T G c PV.R (binaryOp op va vb) H vs Q E
def InpP (G : Gl) (c : Cx S) (op : Operator) (a b : PV) (H : PHeap) (vs : Vars) (Q : PV → PHeap → Vars → Prop) (E : PX → PHeap → Vars → Prop) : Prop :=
  ∀ va vb, PV.R a va → PV.R b vb → T G c PV.R (inplaceOp op va vb) H vs Q E
def CmpP (G : Gl) (c : Cx S) (op : CmpOp) (a b : PV) (H : PHeap) (vs : Vars) (Q : PV → PHeap → Vars → Prop) (E : PX → PHeap → Vars → Prop) : Prop :=
  ∀ va vb, PV.R a va → PV.R b vb → T G c PV.R (compareOp op va vb) H vs Q E
def TruP (G : Gl) (c : Cx S) (a : PV) (H : PHeap) (vs : Vars) (Q : Bool → PHeap → Vars → Prop) (E : PX → PHeap → Vars → Prop) : Prop :=
  ∀ va, PV.R a va → T G c BR (truthy va) H vs Q E

theorem t_binop {l r : Expr} {op : Operator} (h : T G c PV.R (eval l c.env) H vs (fun a H1 vs1 => T G c PV.R (eval r c.env) H1 vs1 (fun b H2 vs2 => BinP G c op a b H2 vs2 Q E) E) E) :
    T G c PV.R (eval (.BinOp l op r pos) c.env) H vs Q E := fun s hs => by
  refine wpAny_BinOp (wpAny_mono (h s hs) (fun va s1 ⟨a, H1, vs1, ha, hs1, h1⟩ => ?_) fun _ _ x => x)
  refine wpAny_mono (h1 s1 hs1) (fun vb s2 ⟨b, H2, vs2, hb, hs2, h2⟩ => ?_) fun _ _ x => x
  exact h2 va vb ha hb s2 hs2

theorem t_cmp {l r : Expr} {op : CmpOp} (hm : behindInMarks op r = false) (h : T G c PV.R (eval l c.env) H vs (fun a H1 vs1 => T G c PV.R (eval r c.env) H1 vs1 (fun b H2 vs2 => CmpP G c op a b H2 vs2 Q E) E) E) :
    T G c PV.R (eval (.Compare l [op] [r] pos) c.env) H vs Q E := fun s hs => by
  refine wpAny_Compare1 (wpAny_mono (h s hs) (fun va s1 ⟨a, H1, vs1, ha, hs1, h1⟩ => ?_) fun _ _ x => x) hm
  refine wpAny_mono (h1 s1 hs1) (fun vb s2 ⟨b, H2, vs2, hb, hs2, h2⟩ => ?_) fun _ _ x => x
  exact h2 va vb ha hb s2 hs2

theorem t_tcmp {l r : Expr} {op : CmpOp} {whole : Sem Value} (hm : behindInMarks op r = false)
    (h : T G c PV.R (eval l c.env) H vs (fun a H1 vs1 => T G c PV.R (eval r c.env) H1 vs1 (fun b H2 vs2 => CmpP G c op a b H2 vs2 (fun v H3 vs3 => TruP G c v H3 vs3 QB E) E) E) E) :
    T G c BR (isTrue (.Compare l [op] [r] pos) c.env whole) H vs QB E := fun s hs => by
  refine wpAny_isTrue_Compare1 (wpAny_mono (h s hs) (fun va s1 ⟨a, H1, vs1, ha, hs1, h1⟩ => ?_) fun _ _ x => x) hm
  refine wpAny_mono (h1 s1 hs1) (fun vb s2 ⟨b, H2, vs2, hb, hs2, h2⟩ => ?_) fun _ _ x => x
  refine wpAny_mono (h2 va vb ha hb s2 hs2) (fun vc s3 ⟨d, H3, vs3, hd, hs3, h3⟩ => ?_) fun _ _ x => x
  exact h3 vc hd s3 hs3

theorem t_tval {e : Expr} {whole : Sem Value} (he : isTrue e c.env whole = (do let v ← whole; standAt e.pos; holding [v] (truthy v))) (h : T G c PV.R whole H vs (fun v H1 vs1 => TruP G c v H1 vs1 QB E) E) :
    T G c BR (isTrue e c.env whole) H vs QB E := fun s hs => by
  refine wpAny_isTrue_value (wpAny_mono (h s hs) (fun va s1 ⟨a, H1, vs1, ha, hs1, h1⟩ => ?_) fun _ _ x => x) he
  exact h1 va ha s1 hs1
theorem t_tnot {e : Expr} {whole : Sem Value} (h : T G c BR (isTrue e c.env (eval e c.env)) H vs (fun b H1 vs1 => QB (!b) H1 vs1) E) :
    T G c BR (isTrue (.UnaryOp .Not e pos) c.env whole) H vs QB E := fun s hs => by
  refine wpAny_isTrue_Not (wpAny_mono (h s hs) (fun va s1 ⟨a, H1, vs1, ha, hs1, h1⟩ => ?_) fun _ _ x => x)
  exact ⟨!a, H1, vs1, by cases ha; rfl, hs1, h1⟩
theorem t_tbool {op : BoolOp} {es : List Expr} {whole : Sem Value} (h : T G c BR (allTrue op es c.env) H vs QB E) :
    T G c BR (isTrue (.BoolOp op es pos) c.env whole) H vs QB E := fun s hs => wpAny_isTrue_BoolOp (h s hs)
theorem t_and0 (h : QB true H vs) : T G c BR (allTrue .And [] c.env) H vs QB E := fun _ hs => wpAny_allTrue_And_nil ⟨true, H, vs, rfl, hs, h⟩
theorem t_or0 (h : QB false H vs) : T G c BR (allTrue .Or [] c.env) H vs QB E := fun _ hs => wpAny_allTrue_Or_nil ⟨false, H, vs, rfl, hs, h⟩
theorem t_and1 {e : Expr} {es : List Expr} (h : T G c BR (isTrue e c.env (eval e c.env)) H vs (fun b H1 vs1 => (b = true → T G c BR (allTrue .And es c.env) H1 vs1 QB E) ∧ (b = false → QB false H1 vs1)) E) :
    T G c BR (allTrue .And (e :: es) c.env) H vs QB E := fun s hs => by
  refine wpAny_allTrue_And_cons (wpAny_mono (h s hs) (fun va s1 ⟨a, H1, vs1, ha, hs1, h1⟩ => ?_) fun _ _ x => x)
  cases ha
  cases va with
  | true => exact h1.1 rfl s1 hs1
  | false => exact ⟨false, H1, vs1, rfl, hs1, h1.2 rfl⟩
theorem t_or1 {e : Expr} {es : List Expr} (h : T G c BR (isTrue e c.env (eval e c.env)) H vs (fun b H1 vs1 => (b = true → QB true H1 vs1) ∧ (b = false → T G c BR (allTrue .Or es c.env) H1 vs1 QB E)) E) :
    T G c BR (allTrue .Or (e :: es) c.env) H vs QB E := fun s hs => by
  refine wpAny_allTrue_Or_cons (wpAny_mono (h s hs) (fun va s1 ⟨a, H1, vs1, ha, hs1, h1⟩ => ?_) fun _ _ x => x)
  cases ha
  cases va with
  | true => exact ⟨true, H1, vs1, rfl, hs1, h1.1 rfl⟩
  | false => exact h1.2 rfl s1 hs1
theorem t_ifexp {t a b : Expr} (h : T G c BR (isTrue t c.env (eval t c.env)) H vs (fun r H1 vs1 => (r = true → T G c PV.R (eval a c.env) H1 vs1 Q E) ∧ (r = false → T G c PV.R (eval b c.env) H1 vs1 Q E)) E) :
    T G c PV.R (eval (.IfExp t a b pos) c.env) H vs Q E := fun s hs => by
  refine wpAny_IfExp (wpAny_mono (h s hs) (fun va s1 ⟨r, H1, vs1, ha, hs1, h1⟩ => ?_) fun _ _ x => x)
  cases ha
  cases va with
  | true => exact h1.1 rfl s1 hs1
  | false => exact h1.2 rfl s1 hs1

theorem t_if_ {t : Expr} {a b : List Stmt} (h : T G c BR (isTrue t c.env (eval t c.env)) H vs (fun r H1 vs1 => (r = true → T G c PF.R (execs a c.env) H1 vs1 QF E) ∧ (r = false → T G c PF.R (execs b c.env) H1 vs1 QF E)) E) :
    T G c PF.R (exec (.If t a b pos) c.env) H vs QF E := fun s hs => by
  refine wpAny_If (wpAny_mono (h s hs) (fun va s1 ⟨r, H1, vs1, ha, hs1, h1⟩ => ?_) fun _ _ x => x)
  cases ha
  cases va with
  | true => exact h1.1 rfl s1 hs1
  | false => exact h1.2 rfl s1 hs1
theorem t_nil (h : QF .next H vs) : T G c PF.R (execs [] c.env) H vs QF E := fun _ hs => wpAny_execs_nil ⟨.next, H, vs, rfl, hs, h⟩

/-- what a statement's end leads to -/
def Seq (G : Gl) (c : Cx S) (rest : List Stmt) (QF : PF → PHeap → Vars → Prop) (E : PX → PHeap → Vars → Prop) : PF → PHeap → Vars → Prop
  | .next, H, vs => T G c PF.R (execs rest c.env) H vs QF E
  | f, H, vs => QF f H vs
theorem t_cons {st : Stmt} {rest : List Stmt} (h : T G c PF.R (exec st c.env) H vs (Seq G c rest QF E) E) : T G c PF.R (execs (st :: rest) c.env) H vs QF E := fun s hs => by
  refine wpAny_execs_cons (wpAny_mono (h s hs) (fun f s1 ⟨r, H1, vs1, hr, hs1, h1⟩ => ?_) fun _ _ x => x)
  cases r with
  | next => cases hr; exact h1 s1 hs1
  | brk => cases hr; exact ⟨.brk, H1, vs1, rfl, hs1, h1⟩
  | cont => cases hr; exact ⟨.cont, H1, vs1, rfl, hs1, h1⟩
  | ret p => obtain ⟨v, rfl, hv⟩ := hr; exact ⟨.ret p, H1, vs1, ⟨v, rfl, hv⟩, hs1, h1⟩
theorem t_ret {e : Expr} (h : T G c PV.R (eval e c.env) H vs (fun p H1 vs1 => QF (.ret p) H1 vs1) E) : T G c PF.R (exec (.Return (some e) pos) c.env) H vs QF E := fun s hs =>
  wpAny_Return_some (wpAny_mono (h s hs) (fun v _ ⟨p, H1, vs1, hr, hs1, h1⟩ => ⟨.ret p, H1, vs1, ⟨v, rfl, hr⟩, hs1, h1⟩) fun _ _ x => x)
theorem t_ret0 (h : QF (.ret .none) H vs) : T G c PF.R (exec (.Return none pos) c.env) H vs QF E := fun _ hs => wpAny_Return_none ⟨.ret .none, H, vs, ⟨.none, rfl, rfl⟩, hs, h⟩
theorem t_brk (h : QF .brk H vs) : T G c PF.R (exec (.Break pos) c.env) H vs QF E := fun _ hs => wpAny_Break ⟨.brk, H, vs, rfl, hs, h⟩
theorem t_expr {e : Expr} (hi : S.kind = .function) (hs' : swapsWith e none pos.line c.env = pure false) (h : T G c PV.R (eval e c.env) H vs (fun _ H1 vs1 => QF .next H1 vs1) E) : T G c PF.R (exec (.Expr e pos) c.env) H vs QF E := fun s hs =>
  wpAny_Expr_any (wpAny_mono (h s hs) (fun v _ ⟨p, H1, vs1, hr, hs1, h1⟩ => ⟨.next, H1, vs1, rfl, hs1, h1⟩) fun _ _ x => x) (by unfold interactive; show (S.kind == _ && _) = false; rw [hi]; rfl) hs'

/-- the stores of a name -/
def putV (x : Str) (p : PV) : Vars → Vars
  | [] => [(x, p)]
  | (y, q) :: r => if y = x then (x, p) :: r else (y, q) :: putV x p r
theorem putV_lookup (x : Str) (p : PV) : ∀ (vs : Vars) (y : Str), (putV x p vs).lookup y = if y = x then some p else vs.lookup y
  | [], y => by
    unfold putV
    by_cases e : y = x
    · subst e; simp [List.lookup]
    · simp [List.lookup, e, beq_false_of_ne e]
  | (z, q) :: r, y => by
    unfold putV
    by_cases e : z = x
    · subst e
      rw [if_pos rfl]
      by_cases e2 : y = z
      · subst e2; simp [List.lookup]
      · simp [List.lookup, e2, beq_false_of_ne e2]
    · rw [if_neg e]
      by_cases e2 : y = z
      · subst e2; simp [List.lookup, e]
      · rw [List.lookup_cons, List.lookup_cons, beq_false_of_ne e2]; exact putV_lookup x p r y
theorem VR.put {vs : Vars} {m : Str → Option Value} {v : Value} (V : VR vs m) (hr : PV.R p v) : VR (putV x p vs) (fun y => if y = x then some v else m y) := fun y q e => by
  rw [putV_lookup] at e
  by_cases e2 : y = x
  · rw [if_pos e2] at e; cases e; exact ⟨v, by simp [e2], hr⟩
  · rw [if_neg e2] at e; obtain ⟨u, hu, r⟩ := V y q e; exact ⟨u, by simp [e2, hu], r⟩

theorem t_store (hc : c.Ok) {v : Value} (hx : S.names.lookup x = some .local) (hr : PV.R p v) (h : QU () H (putV x p vs)) : T G c UR (storeName c.env x v) H vs QU E := fun s hs => by
  obtain ⟨h₀, m, news, S0, V⟩ := hs
  exact wpAny_storeName_local hx S0.F.ns (fun h' hn hs => ⟨(), H, _, trivial, ⟨h₀, _, news, ⟨S0.F.set hn hs, S0.N.set hs, S0.B, S0.bk, S0.hr, S0.dj, S0.g, S0.d, S0.o⟩, V.put hr⟩, h⟩) (by show (S.kind == .class || (S.kind == .module && c.L != mainGlobals)) = false; rw [hc.hk]; rfl)

theorem t_assign (hc : c.Ok) {e : Expr} {pos' : Pos} (hs' : swapsWith e (some (.Name x pos')) pos.line c.env = pure false) (hx : S.names.lookup x = some .local)
    (h : T G c PV.R (eval e c.env) H vs (fun p H1 vs1 => QF .next H1 (putV x p vs1)) E) : T G c PF.R (exec (.Assign [.Name x pos'] e pos) c.env) H vs QF E := fun s hs => by
  refine wpAny_Assign_Name (wpAny_mono (h s hs) (fun v s1 ⟨p, H1, vs1, hr, hs1, h1⟩ => ?_) fun _ _ x => x) hs'
  exact wpAny_mono (t_store (E := E) (QU := fun _ H2 vs2 => QF .next H2 vs2) hc hx hr h1 s1 hs1) (fun _ s2 ⟨_, H2, vs2, _, hs2, h2⟩ => ⟨.next, H2, vs2, rfl, hs2, h2⟩) fun _ _ x => x

theorem t_aug (hc : c.Ok) {e : Expr} {op : Operator} {pos' : Pos} (hx : S.names.lookup x = some .local) (hv : vs.lookup x = some p)
    (h : T G c PV.R (eval e c.env) H vs (fun q H1 vs1 => InpP G c op p q H1 vs1 (fun r H2 vs2 => QF .next H2 (putV x r vs2)) E) E) : T G c PF.R (exec (.AugAssign (.Name x pos') op e pos) c.env) H vs QF E := fun s hs => by
  obtain ⟨h₀, m, news, S0, V⟩ := id hs
  obtain ⟨v, hm, hr⟩ := V x p hv
  refine wpAny_AugAssign_Name (wpAny_loadName_local hc.hk hx S0.F.ns hm ?_)
  refine wpAny_mono (h s hs) (fun u s1 ⟨q, H1, vs1, hq, hs1, h1⟩ => ?_) fun _ _ x => x
  refine wpAny_mono (h1 v u hr hq s1 hs1) (fun z s2 ⟨r, H2, vs2, hz, hs2, h2⟩ => ?_) fun _ _ x => x
  exact wpAny_mono (t_store (E := E) (QU := fun _ H2 vs2 => QF .next H2 vs2) hc hx hz h2 s2 hs2) (fun _ s2 ⟨_, H2, vs2, _, hs2, h2⟩ => ⟨.next, H2, vs2, rfl, hs2, h2⟩) fun _ _ x => x
end
end Mine
namespace Mine

section
variable {G : Gl} {S : Scope} {c : Cx S} {H : PHeap} {vs : Vars} {E : PX → PHeap → Vars → Prop} {x : Str} {pos : Pos} {p : PV} {Q : PV → PHeap → Vars → Prop} {QF : PF → PHeap → Vars → Prop} {QB : Bool → PHeap → Vars → Prop} {QU : Unit → PHeap → Vars → Prop}

/-! ints -/
theorem b_add {i j : Int} (h : Q (.int (i + j)) H vs) : BinP G c .Add (.int i) (.int j) H vs Q E := by
  rintro _ _ ⟨t, rfl⟩ ⟨u, rfl⟩ s hs
  exact PySem.P.add_int ⟨.int (i + j), H, vs, ⟨_, rfl⟩, hs.tok, h⟩
theorem b_sub {i j : Int} (h : Q (.int (i - j)) H vs) : BinP G c .Sub (.int i) (.int j) H vs Q E := by
  rintro _ _ ⟨t, rfl⟩ ⟨u, rfl⟩ s hs
  exact PySem.P.sub_int ⟨.int (i - j), H, vs, ⟨_, rfl⟩, hs.tok, h⟩
theorem b_mul {i j : Int} (hi : i.natAbs < 2 ^ 63) (h : Q (.int (i * j)) H vs) : BinP G c .Mult (.int i) (.int j) H vs Q E := by
  rintro _ _ ⟨t, rfl⟩ ⟨u, rfl⟩ s hs
  refine PySem.P.mul_int ⟨.int (i * j), H, vs, ⟨_, rfl⟩, hs.tok, h⟩ (IntMulOk.of_left ?_)
  unfold Builtin.Int.intBits
  split
  · omega
  · rename_i hn
    have : i.natAbs ≠ 0 := by
      intro e; exact hn (by simp [Int.natAbs_eq_zero.mp e])
    have := (Nat.log2_lt this).mpr hi
    omega
theorem b_mod {i j : Int} (hj : j ≠ 0) (h : Q (.int (i.fmod j)) H vs) : BinP G c .Mod (.int i) (.int j) H vs Q E := by
  rintro _ _ ⟨t, rfl⟩ ⟨u, rfl⟩ s hs
  exact mod_int' hj ⟨.int (i.fmod j), H, vs, ⟨_, rfl⟩, hs.tok, h⟩
theorem i_add {i j : Int} (h : Q (.int (i + j)) H vs) : InpP G c .Add (.int i) (.int j) H vs Q E := by
  rintro _ _ ⟨t, rfl⟩ ⟨u, rfl⟩ s hs
  exact PySem.P.iadd_int ⟨.int (i + j), H, vs, ⟨_, rfl⟩, hs.tok, h⟩
theorem c_eq {i j : Int} (h : Q (.bool (i == j)) H vs) : CmpP G c .Eq (.int i) (.int j) H vs Q E := by
  rintro _ _ ⟨t, rfl⟩ ⟨u, rfl⟩ s hs
  exact PySem.P.eq_int ⟨.bool (i == j), H, vs, rfl, hs, h⟩
theorem c_ne {i j : Int} (h : Q (.bool (i != j)) H vs) : CmpP G c .NotEq (.int i) (.int j) H vs Q E := by
  rintro _ _ ⟨t, rfl⟩ ⟨u, rfl⟩ s hs
  exact PySem.P.ne_int ⟨.bool (i != j), H, vs, rfl, hs, h⟩
theorem c_lt {i j : Int} (h : Q (.bool (decide (i < j))) H vs) : CmpP G c .Lt (.int i) (.int j) H vs Q E := by
  rintro _ _ ⟨t, rfl⟩ ⟨u, rfl⟩ s hs
  exact PySem.P.lt_int ⟨.bool (decide (i < j)), H, vs, rfl, hs, h⟩
theorem c_gt {i j : Int} (h : Q (.bool (decide (i > j))) H vs) : CmpP G c .Gt (.int i) (.int j) H vs Q E := by
  rintro _ _ ⟨t, rfl⟩ ⟨u, rfl⟩ s hs
  exact PySem.P.gt_int ⟨.bool (decide (i > j)), H, vs, rfl, hs, h⟩
theorem c_ge {i j : Int} (h : Q (.bool (decide (i ≥ j))) H vs) : CmpP G c .GtE (.int i) (.int j) H vs Q E := by
  rintro _ _ ⟨t, rfl⟩ ⟨u, rfl⟩ s hs
  exact PySem.P.ge_int ⟨.bool (decide (i ≥ j)), H, vs, rfl, hs, h⟩
theorem c_eqs {i j : Str} (h : Q (.bool (i.cps.toList == j.cps.toList)) H vs) : CmpP G c .Eq (.str i) (.str j) H vs Q E := by
  rintro _ _ ⟨t, rfl⟩ ⟨u, rfl⟩ s hs
  exact PySem.P.eq_str ⟨.bool _, H, vs, rfl, hs, h⟩
theorem c_nes {i j : Str} (h : Q (.bool (i.cps.toList != j.cps.toList)) H vs) : CmpP G c .NotEq (.str i) (.str j) H vs Q E := by
  rintro _ _ ⟨t, rfl⟩ ⟨u, rfl⟩ s hs
  exact PySem.P.ne_str ⟨.bool _, H, vs, rfl, hs, h⟩
def PV.isNone : PV → Bool
  | .none => true
  | _ => false
theorem c_is (h : Q (.bool p.isNone) H vs) : CmpP G c .Is p .none H vs Q E := by
  rintro va _ ha rfl s hs
  have fin : ∀ b, p.isNone = b → ∃ r H' vs', PV.R r (.bool b) ∧ Sat G c H' vs' s ∧ Q r H' vs' := fun b hb => ⟨.bool b, H, vs, rfl, hs, hb ▸ h⟩
  cases p <;> first | (cases ha; exact is_none_none (fin _ rfl)) | (obtain ⟨t, rfl⟩ := ha; exact is_none_ne (by intro z; cases z) (fin _ rfl)) | (cases ha; exact is_none_ne (by intro z; cases z) (fin _ rfl))
theorem c_isnot (h : Q (.bool (!p.isNone)) H vs) : CmpP G c .IsNot p .none H vs Q E := by
  rintro va _ ha rfl s hs
  have fin : ∀ b, (!p.isNone) = b → ∃ r H' vs', PV.R r (.bool b) ∧ Sat G c H' vs' s ∧ Q r H' vs' := fun b hb => ⟨.bool b, H, vs, rfl, hs, hb ▸ h⟩
  cases p <;> first | (cases ha; exact isnot_none_none (fin _ rfl)) | (obtain ⟨t, rfl⟩ := ha; exact isnot_none_ne (by intro z; cases z) (fin _ rfl)) | (cases ha; exact isnot_none_ne (by intro z; cases z) (fin _ rfl))
theorem tr_bool {b : Bool} (h : QB b H vs) : TruP G c (.bool b) H vs QB E := by
  rintro _ rfl s hs
  exact wpAny_truthy_bool ⟨b, H, vs, rfl, hs, h⟩
theorem tr_int {i : Int} (h : QB (i != 0) H vs) : TruP G c (.int i) H vs QB E := by
  rintro _ ⟨t, rfl⟩ s hs
  exact PySem.P.truthy_int ⟨_, H, vs, rfl, hs, h⟩
theorem tr_none (h : QB false H vs) : TruP G c .none H vs QB E := by
  rintro _ rfl s hs
  exact truthy_none ⟨_, H, vs, rfl, hs, h⟩
theorem tr_str {l : Str} (hl : l.length ≤ sizeLine) (h : QB ((l.length : Int) != 0) H vs) : TruP G c (.str l) H vs QB E := by
  rintro _ ⟨t, rfl⟩ s hs
  refine PySem.P.truthy_str (by rw [sizeLine_eq] at hl; omega) ⟨_, H, vs, rfl, hs.tok, h⟩

/-! texts -/
theorem b_cat {i j : Str} (hl : i.length + j.length ≤ sizeLine) (h : Q (.str (i ++ j)) H vs) : BinP G c .Add (.str i) (.str j) H vs Q E := by
  rintro _ _ ⟨t, rfl⟩ ⟨u, rfl⟩ s hs
  refine PySem.P.add_str ?_
  have e1 : i.length = 0 → i ++ j = j := fun e => Str.ext' (by simp [Str.cps_append, Array.eq_empty_of_size_eq_zero e])
  have e2 : j.length = 0 → i ++ j = i := fun e => Str.ext' (by simp [Str.cps_append, Array.eq_empty_of_size_eq_zero e])
  split
  · rename_i h1; exact ⟨.str (i ++ j), H, vs, ⟨u, by rw [e1 (by simpa using h1)]⟩, hs, h⟩
  · split
    · rename_i h1; exact ⟨.str (i ++ j), H, vs, ⟨t, by rw [e2 (by simpa using h1)]⟩, hs, h⟩
    · exact ⟨by show (i ++ j).cps.size ≤ _; rw [Str.cps_append, Array.size_append]; exact hl, .str (i ++ j), H, vs, ⟨_, rfl⟩, hs.tok, h⟩
theorem b_rep {i : Str} {n : Int} (hn : i.length * n.toNat ≤ sizeLine) (hb : n.natAbs < 2 ^ 62) (h : Q (.str (Txt.mul i n)) H vs) : BinP G c .Mult (.str i) (.int n) H vs Q E := by
  rintro _ _ ⟨t, rfl⟩ ⟨u, rfl⟩ s hs
  refine SB.mul ⟨by simp; omega, fun h1 h2 => ?_, fun h1 h2 => by unfold Builtin.Str.tooLong; simpa using hn⟩ fun t' k => ⟨.str _, H, vs, ⟨_, rfl⟩, hs.tok, h⟩
  have h3 : 0 < n := by omega
  have : (i.length : Int) * n ≤ 2 ^ 63 - 1 := by
    have e : ((i.length * n.toNat : Nat) : Int) = (i.length : Int) * n := by rw [Int.natCast_mul, Int.toNat_of_nonneg (by omega)]
    rw [← e]
    rw [sizeLine_eq] at hn
    omega
  have := (Int.le_ediv_iff_mul_le h3).mpr this
  omega
end
end Mine
namespace Mine

theorem PHeap.set_self {H : PHeap} {a o} : (H.set a o) a = some o := by simp [PHeap.set]
theorem PHeap.set_ne {H : PHeap} {a b o} (h : b ≠ a) : (H.set a o) b = H b := by simp [PHeap.set, h]
theorem PHeap.set_keep {H : PHeap} {a b o p} (hn : H a = none) (h : H b = some p) : (H.set a o) b = some p := by
  rw [PHeap.set_ne]; exact h
  intro e; rw [e, hn] at h; cases h

theorem upd_mem {d : Addr} {mo mo' : Obj} : ∀ {news : List (Addr × Obj)}, (d, mo) ∈ news → (news.map (·.1)).Nodup → ∃ news', Upd d mo mo' news news' ∧ news'.map (·.1) = news.map (·.1) ∧ ∀ q ∈ news', q = (d, mo') ∨ (q ∈ news ∧ q.1 ≠ d)
  | p :: r, hm, hn => by
    rw [List.map_cons, List.nodup_cons] at hn
    rcases List.mem_cons.mp hm with e | hm'
    · subst e
      have hr : ∀ q ∈ r, q.1 ≠ d := fun q hq e => hn.1 (by show d ∈ _; rw [← e]; exact List.mem_map_of_mem (f := (·.1)) hq)
      refine ⟨_, Upd.head hr, rfl, fun q hq => ?_⟩
      rcases List.mem_cons.mp hq with rfl | hq
      · exact .inl rfl
      · exact .inr ⟨List.mem_cons_of_mem _ hq, hr q hq⟩
    · obtain ⟨n', U, e, hq⟩ := upd_mem (mo' := mo') hm' hn.2
      have hp : p.1 ≠ d := fun e => hn.1 (by rw [e]; exact List.mem_map_of_mem (f := (·.1)) hm')
      refine ⟨_, Upd.tail hp U, by simp [e], fun q hq' => ?_⟩
      rcases List.mem_cons.mp hq' with rfl | hq'
      · exact .inr ⟨.head _, hp⟩
      · exact (hq q hq').imp id fun z => ⟨List.mem_cons_of_mem _ z.1, z.2⟩

theorem HR.uniq {H : PHeap} {news} (h : HR H news) {a : Addr} {x y : Obj} (hx : (a, x) ∈ news) (hy : (a, y) ∈ news) : x = y := by
  have := h.nodup
  clear h
  induction news with
  | nil => cases hx
  | cons p r ih =>
    rw [List.map_cons, List.nodup_cons] at this
    rcases List.mem_cons.mp hx with e | hx' <;> rcases List.mem_cons.mp hy with e2 | hy'
    · rw [← e] at e2; cases e2; rfl
    · exact absurd (List.mem_map_of_mem (f := (·.1)) hy') (by rw [← e] at this; exact this.1)
    · exact absurd (List.mem_map_of_mem (f := (·.1)) hx') (by rw [← e2] at this; exact this.1)
    · exact ih hx' hy' this.2

theorem HR.put {H : PHeap} {news news'} (h : HR H news) {d : Addr} {po po' : PO} {mo' : Obj} (e : H d = some po) (hk : news'.map (·.1) = news.map (·.1)) (hq : ∀ q ∈ news', q = (d, mo') ∨ (q ∈ news ∧ q.1 ≠ d)) (hr : PO.R po' mo') : HR (H.set d po') news' := by
  refine ⟨fun q hq' => ?_, fun a o e' => ?_, hk ▸ h.nodup⟩
  · rcases hq q hq' with rfl | ⟨hm, hne⟩
    · exact ⟨po', PHeap.set_self, hr⟩
    · obtain ⟨o, a, b⟩ := h.to q hm
      exact ⟨o, by rw [PHeap.set_ne hne]; exact a, b⟩
  · have : a ∈ news.map (·.1) := by
      by_cases ha : a = d
      · subst ha; obtain ⟨mo, hm⟩ := h.from' _ _ e; exact List.mem_map_of_mem (f := (·.1)) hm
      · rw [PHeap.set_ne ha] at e'; obtain ⟨mo, hm⟩ := h.from' _ _ e'; exact List.mem_map_of_mem (f := (·.1)) hm
    rw [← hk] at this
    obtain ⟨q, hq', rfl⟩ := List.mem_map.mp this
    exact ⟨q.2, hq'⟩
theorem HR.cons {H : PHeap} {news} (h : HR H news) {a : Addr} {po : PO} {mo : Obj} (hn : a ∉ news.map (·.1)) (hr : PO.R po mo) : HR (H.set a po) ((a, mo) :: news) := by
  have hH : H a = none := by
    cases e : H a with
    | none => rfl
    | some o => obtain ⟨mo, hm⟩ := h.from' _ _ e; exact absurd (List.mem_map_of_mem (f := (·.1)) hm) hn
  refine ⟨fun q hq => ?_, fun b o e => ?_, by rw [List.map_cons, List.nodup_cons]; exact ⟨hn, h.nodup⟩⟩
  · rcases List.mem_cons.mp hq with rfl | hq
    · exact ⟨po, PHeap.set_self, hr⟩
    · obtain ⟨o, a1, b1⟩ := h.to q hq
      exact ⟨o, PHeap.set_keep hH a1, b1⟩
  · by_cases hb : b = a
    · subst hb; exact ⟨mo, .head _⟩
    · rw [PHeap.set_ne hb] at e; obtain ⟨mo', hm⟩ := h.from' _ _ e; exact ⟨mo', .tail _ hm⟩
theorem HR.fresh {H : PHeap} {news} (h : HR H news) {a : Addr} (hn : a ∉ news.map (·.1)) : H a = none := by
  cases e : H a with
  | none => rfl
  | some o => obtain ⟨mo, hm⟩ := h.from' _ _ e; exact absurd (List.mem_map_of_mem (f := (·.1)) hm) hn
theorem not_key {news : List (Addr × Obj)} {l : Addr} (h : ∀ p ∈ news, p.1 < l) : l ∉ news.map (·.1) := fun hm => by
  obtain ⟨q, hq, e⟩ := List.mem_map.mp hm
  have h1 : q.1 < l := h q hq
  have h2 : q.1 = l := e
  rw [h2] at h1
  exact Nat.lt_irrefl _ h1

theorem setL_is : ∀ {l : List Value} {k : Nat} {v : Value}, k < l.length → ki_setL l k v = some (l.set k v)
  | [], _, _, h => absurd h (Nat.not_lt_zero _)
  | _ :: _, 0, _, _ => rfl
  | _ :: _, _ + 1, _, h => by unfold ki_setL; rw [setL_is (Nat.lt_of_succ_lt_succ h)]; rfl

section
variable {G : Gl} {S : Scope} {c : Cx S} {H : PHeap} {vs : Vars} {E : PX → PHeap → Vars → Prop} {x : Str} {pos : Pos} {p : PV} {Q : PV → PHeap → Vars → Prop} {QF : PF → PHeap → Vars → Prop} {QB : Bool → PHeap → Vars → Prop} {QU : Unit → PHeap → Vars → Prop}
  {h₀ h' : Heap} {m : Str → Option Value} {news : List (Addr × Obj)} {s : Shared}

theorem ext_set {P : List (Addr × Obj)} {a : Addr} {o : PO} (hp : P.lookup a = none) : ext P (H.set a o) = (ext P H).set a o := by
  funext b
  unfold ext PHeap.set
  by_cases h : b = a
  · subst h; rw [hp]; simp
  · simp [h]
theorem Sat0.off (S0 : Sat0 G c H m h₀ news s) {a : Addr} (hn : a ∉ news.map (·.1)) : c.P.lookup a = none ∧ H a = none := by
  have h := S0.hr.fresh hn
  unfold ext at h
  cases q : c.P.lookup a with
  | none => rw [q] at h; exact ⟨rfl, h⟩
  | some z => rw [q] at h; cases h
theorem Sat0.alloc (S0 : Sat0 G c H m h₀ news s) {a : Addr} {po : PO} {mo : Obj} {k : Nat} (F' : Fr h₀ c.L h' m) (N' : News h₀ c.L h' ((a, mo) :: news)) (hl : ∀ p ∈ news, p.1 < a) (hr : PO.R po mo) :
    Sat0 G c (H.set a po) m h₀ ((a, mo) :: news) { s with heap := h', toks := k } ∧ H a = none := by
  obtain ⟨hp, hh⟩ := S0.off (not_key hl)
  refine ⟨⟨F', N', S0.B, S0.bk, by rw [ext_set hp]; exact S0.hr.cons (not_key hl) hr, fun b hb => ?_, S0.g, S0.d, S0.o⟩, hh⟩
  rw [PHeap.set_ne]
  · exact S0.dj b hb
  · intro e; rw [e, hp] at hb; cases hb
theorem Sat0.upd (S0 : Sat0 G c H m h₀ news s) {d : Addr} {po po' : PO} {mo' : Obj} {news' : List (Addr × Obj)} {k : Nat} (e : H d = some po) (hk : news'.map (·.1) = news.map (·.1)) (hq : ∀ q ∈ news', q = (d, mo') ∨ (q ∈ news ∧ q.1 ≠ d)) (hr : PO.R po' mo')
    (F' : Fr h₀ c.L h' m) (N' : News h₀ c.L h' news') : Sat0 G c (H.set d po') m h₀ news' { s with heap := h', toks := k } := by
  have hp : c.P.lookup d = none := by
    cases q : c.P.lookup d with
    | none => rfl
    | some z => have := S0.dj d (by rw [q]; rfl); rw [e] at this; cases this
  refine ⟨F', N', S0.B, S0.bk, by rw [ext_set hp]; exact S0.hr.put (S0.look e) hk hq hr, fun b hb => ?_, S0.g, S0.d, S0.o⟩
  rw [PHeap.set_ne]
  · exact S0.dj b hb
  · intro e; rw [e, hp] at hb; cases hb

theorem Sat0.list (S0 : Sat0 G c H m h₀ news s) {a : Addr} {xs : List PV} (e : H a = some (.list xs)) : ∃ us n, (a, listOf (List.toArray us) n) ∈ news ∧ RL xs us ∧ s.heap.IsList a us.toArray := by
  obtain ⟨mo, hm, us, n, rfl, hr⟩ := S0.mem e
  exact ⟨us, n, hm, hr, S0.N.isList hm⟩
theorem Sat0.tup (S0 : Sat0 G c H m h₀ news s) {a : Addr} {xs : List PV} (e : H a = some (.tup xs)) : ∃ us n, (a, ({ cls := .type "tuple", data := .seq (List.toArray us) n } : Obj)) ∈ news ∧ RL xs us ∧ IsTup s.heap a us.toArray := by
  obtain ⟨mo, hm, us, n, rfl, hr⟩ := S0.mem e
  exact ⟨us, n, hm, hr, S0.N.isTup hm⟩

/-- an item -/
def ItmP (G : Gl) (c : Cx S) (o i : PV) (H : PHeap) (vs : Vars) (Q : PV → PHeap → Vars → Prop) (E : PX → PHeap → Vars → Prop) : Prop :=
  ∀ vo vi, PV.R o vo → PV.R i vi → T G c PV.R (getItem vo vi) H vs Q E
def SubP (G : Gl) (c : Cx S) (value slice : Expr) (o i : PV) (H : PHeap) (vs : Vars) (Q : PV → PHeap → Vars → Prop) (E : PX → PHeap → Vars → Prop) : Prop :=
  ∀ vo vi, PV.R o vo → PV.R i vi → T G c PV.R (subscriptTail value slice vo vi) H vs Q E
def StoP (G : Gl) (c : Cx S) (o i v : PV) (H : PHeap) (vs : Vars) (QU : Unit → PHeap → Vars → Prop) (E : PX → PHeap → Vars → Prop) : Prop :=
  ∀ vo vi vv, PV.R o vo → PV.R i vi → PV.R v vv → T G c UR (setItem vo vi vv) H vs QU E

theorem t_sub {v i : Expr} (h : T G c PV.R (eval v c.env) H vs (fun a H1 vs1 => T G c PV.R (eval i c.env) H1 vs1 (fun b H2 vs2 => SubP G c v i a b H2 vs2 Q E) E) E) :
    T G c PV.R (eval (.Subscript v i pos) c.env) H vs Q E := fun s hs => by
  refine Subscript_ (wpAny_mono (h s hs) (fun va s1 ⟨a, H1, vs1, ha, hs1, h1⟩ => ?_) fun _ _ x => x)
  refine wpAny_mono (h1 s1 hs1) (fun vb s2 ⟨b, H2, vs2, hb, hs2, h2⟩ => ?_) fun _ _ x => x
  exact h2 va vb ha hb s2 hs2

theorem itm_list {a : Addr} {k : Int} {xs : List PV} (e : H a = some (.list xs)) (h0 : 0 ≤ k) (h1 : k < 2 ^ 63) (hx : xs[k.toNat]? = some p) (h : Q p H vs) : ItmP G c (.ref a) (.int k) H vs Q E := by
  rintro _ _ rfl ⟨t, rfl⟩ s ⟨h₀, m, news, S0, V⟩
  obtain ⟨us, n, hm, hr, hl⟩ := S0.list e
  obtain ⟨v, hv, hp⟩ := hr.get hx
  exact wpAny_getItem_list hl h0 h1 (by simpa using hv) ⟨p, H, vs, hp, ⟨h₀, m, news, S0, V⟩, h⟩
theorem itm_neg {a : Addr} {k : Int} {xs : List PV} (e : H a = some (.list xs)) (h0 : k < 0) (h1 : -(xs.length : Int) ≤ k) (h2 : -(2 ^ 63) ≤ k) (hx : xs[(k + xs.length).toNat]? = some p) (h : Q p H vs) : ItmP G c (.ref a) (.int k) H vs Q E := by
  rintro _ _ rfl ⟨t, rfl⟩ s ⟨h₀, m, news, S0, V⟩
  obtain ⟨us, n, hm, hr, hl⟩ := S0.list e
  obtain ⟨v, hv, hp⟩ := hr.get hx
  have hs : us.toArray.size = xs.length := by rw [List.size_toArray, hr.len]
  exact wpAny_getItem_list_neg hl h0 (by rw [hs]; exact h1) h2 (by rw [hs]; simpa using hv) ⟨p, H, vs, hp, ⟨h₀, m, news, S0, V⟩, h⟩
theorem sub_list {a : Addr} {k : Int} {xs : List PV} {v i : Expr} (e : H a = some (.list xs)) (h0 : 0 ≤ k) (h1 : k < 2 ^ 63) (hx : xs[k.toNat]? = some p) (h : Q p H vs)
    (hs : ∀ u, subscripted i false (.ref a) (.int k u) = operate [.ref a, .int k u] (getItem (.ref a) (.int k u)) := by intro _; with_unfolding_all rfl) : SubP G c v i (.ref a) (.int k) H vs Q E := by
  rintro _ _ rfl ⟨t, rfl⟩ s hs0
  obtain ⟨h₀, m, news, S0, V⟩ := id hs0
  obtain ⟨us, n, hm, hr, hl⟩ := S0.list e
  exact tail_any hl.typeIs slot_list_getitem.lookup (itm_list (E := E) e h0 h1 hx h _ _ rfl ⟨t, rfl⟩ s hs0) (hs t)
theorem sub_neg {a : Addr} {k : Int} {xs : List PV} {v i : Expr} (e : H a = some (.list xs)) (h0 : k < 0) (h1 : -(xs.length : Int) ≤ k) (h2 : -(2 ^ 63) ≤ k) (hx : xs[(k + xs.length).toNat]? = some p) (h : Q p H vs)
    (hs : ∀ u, subscripted i false (.ref a) (.int k u) = operate [.ref a, .int k u] (getItem (.ref a) (.int k u)) := by intro _; with_unfolding_all rfl) : SubP G c v i (.ref a) (.int k) H vs Q E := by
  rintro _ _ rfl ⟨t, rfl⟩ s hs0
  obtain ⟨h₀, m, news, S0, V⟩ := id hs0
  obtain ⟨us, n, hm, hr, hl⟩ := S0.list e
  exact tail_any hl.typeIs slot_list_getitem.lookup (itm_neg (E := E) e h0 h1 h2 hx h _ _ rfl ⟨t, rfl⟩ s hs0) (hs t)
theorem sub_tup {a : Addr} {k : Int} {xs : List PV} {v i : Expr} (e : H a = some (.tup xs)) (h0 : 0 ≤ k) (h1 : k < 2 ^ 63) (hx : xs[k.toNat]? = some p) (h : Q p H vs)
    (hs : ∀ u, subscripted i false (.ref a) (.int k u) = operate [.ref a, .int k u] (getItem (.ref a) (.int k u)) := by intro _; with_unfolding_all rfl) : SubP G c v i (.ref a) (.int k) H vs Q E := by
  rintro _ _ rfl ⟨t, rfl⟩ s ⟨h₀, m, news, S0, V⟩
  obtain ⟨us, n, hm, hr, hl⟩ := S0.tup e
  obtain ⟨w, hw, hp⟩ := hr.get hx
  have hlt : k.toNat < us.length := (List.getElem?_eq_some_iff.mp hw).1
  refine item_tupleT (j := k.toNat) hl (by omega) h1 ?_ hw ⟨p, H, vs, hp, ⟨h₀, m, news, S0, V⟩, h⟩ (hs t)
  unfold seqIndex?
  have : ¬ k < 0 := by omega
  simp [this]; omega

theorem sto_list {a : Addr} {k : Int} {xs : List PV} (e : H a = some (.list xs)) (h0 : 0 ≤ k) (h1 : k < 2 ^ 63) (hk : k.toNat < xs.length) (h : QU () (H.set a (.list (xs.set k.toNat p))) vs) : StoP G c (.ref a) (.int k) p H vs QU E := by
  rintro _ _ vv rfl ⟨t, rfl⟩ hv s ⟨h₀, m, news, S0, V⟩
  obtain ⟨us, n, hm, hr, hl⟩ := S0.list e
  obtain ⟨news', U, e1, e2⟩ := upd_mem (mo' := listOf (List.toArray (us.set k.toNat vv)) n) hm S0.hr.nodup
  refine ki_set (its := us.toArray) (q := us.set k.toNat vv) S0.F S0.N h0 h1 ?_ U fun h' F' N' => ⟨(), _, vs, trivial, ⟨h₀, m, news', S0.upd (po' := .list (xs.set k.toNat p)) e e1 e2 ⟨_, n, rfl, hr.set hv _⟩ F' N', V⟩, h⟩
  exact setL_is (by rw [hr.len]; exact hk)
end
end Mine
namespace Mine

/-- a run of a list -/
def lsl {α : Type} (l : List α) (lo hi : Option Int) : List α := (l.drop (kms_lo lo l.length)).take (kms_hi hi l.length - kms_lo lo l.length)
def ssl (x : Str) (lo hi : Option Int) : Str := ⟨(lsl x.cps.toList lo hi).toArray⟩

theorem RL.lsl {ps us} (h : RL ps us) (lo hi : Option Int) : RL (lsl ps lo hi) (Mine.lsl us lo hi) := by
  unfold Mine.lsl
  rw [h.len]
  exact (h.drop _).take _

theorem picked_is (x : Str) (lo hi : Option Int) : ((Builtin.Str.strSliceIndices lo hi 1 x.length).filterMap (x.cps[·]?)) = lsl x.cps.toList lo hi := by
  have e : Builtin.Str.strSliceIndices lo hi 1 x.length = sliceRange (sliceBounds lo hi none x.length).1 (sliceBounds lo hi none x.length).2.1 (sliceBounds lo hi none x.length).2.2 := rfl
  rw [e, kms_bounds]
  have hlen : x.length = x.cps.toList.length := by simp [Str.length]
  simp only [sliceRange_one]
  unfold lsl
  rw [← hlen]
  exact pick_run x.cps _ _

theorem sliceMade_post {x : Str} {t : Tok} {l u : Option (Int × Tok)} {Q : Value → Shared → Prop} {s : Shared} (hx : x.length ≤ sizeLine) (h : ∀ t' k, Q (.str (ssl x (l.map (·.1)) (u.map (·.1))) t') { s with toks := k }) : (sliceMade x t l u none).post Q s := by
  have e := picked_is x (l.map (·.1)) (u.map (·.1))
  have hlen : x.length = x.cps.toList.length := by simp [Str.length]
  unfold sliceMade slicePicked
  dsimp only [Option.map_none, Option.getD_none]
  rw [e]
  have hle : (lsl x.cps.toList (l.map (·.1)) (u.map (·.1))).length ≤ x.length := by
    unfold lsl; rw [List.length_take, List.length_drop]; omega
  split
  · rename_i hc
    have e0 : Builtin.Str.strSliceIndices (l.map (·.1)) (u.map (·.1)) 1 x.length = (List.range (kms_hi (u.map (·.1)) x.length - kms_lo (l.map (·.1)) x.length)).map (kms_lo (l.map (·.1)) x.length + ·) := by
      have e : Builtin.Str.strSliceIndices (l.map (·.1)) (u.map (·.1)) 1 x.length = sliceRange (sliceBounds (l.map (·.1)) (u.map (·.1)) none x.length).1 (sliceBounds (l.map (·.1)) (u.map (·.1)) none x.length).2.1 (sliceBounds (l.map (·.1)) (u.map (·.1)) none x.length).2.2 := rfl
      rw [e, kms_bounds]
      exact sliceRange_one _ _
    have hc' : kms_hi (u.map (·.1)) x.length - kms_lo (l.map (·.1)) x.length = x.length := by
      rw [e0] at hc
      simpa using hc
    have hhi : kms_hi (u.map (·.1)) x.length ≤ x.length := by
      unfold kms_hi; split
      · omega
      · split <;> omega
    have e2 : ssl x (l.map (·.1)) (u.map (·.1)) = x := by
      refine Str.ext' ?_
      show (List.toArray (lsl x.cps.toList _ _)) = _
      have : lsl x.cps.toList (l.map (·.1)) (u.map (·.1)) = x.cps.toList := by
        unfold lsl
        rw [← hlen, hc']
        have h1 : kms_lo (l.map (·.1)) x.length = 0 ∨ x.cps.toList.length = 0 := by omega
        rcases h1 with h1 | h1
        · rw [h1, List.drop_zero]; exact List.take_of_length_le (by omega)
        · have : x.cps.toList = [] := List.length_eq_zero_iff.mp h1
          rw [this]; simp
      rw [this]
    have h' := h t s.toks
    rw [e2] at h'
    exact h'
  · exact ⟨by show (List.toArray _).size ≤ _; rw [List.size_toArray]; omega, h s.toks (s.toks + 1)⟩

section
variable {G : Gl} {S : Scope} {c : Cx S} {H : PHeap} {vs : Vars} {E : PX → PHeap → Vars → Prop} {x : Str} {pos : Pos} {p : PV} {Q : PV → PHeap → Vars → Prop} {QF : PF → PHeap → Vars → Prop} {QB : Bool → PHeap → Vars → Prop} {QU : Unit → PHeap → Vars → Prop}
  {h₀ h' : Heap} {m : Str → Option Value} {news : List (Addr × Obj)} {s : Shared}

theorem Sat0.junk (S0 : Sat0 G c H m h₀ news s) {o : Obj} (hf : o.isFreed = false := by rfl) : Sat0 G c H m h₀ news { s with heap := s.heap.push o } :=
  ⟨S0.F.push o, fun q hq => (News.push S0.F S0.N o hf) q (.tail _ hq), S0.B, S0.bk, S0.hr, S0.dj, S0.g, S0.d, S0.o⟩
theorem Sat.junk {o : Obj} (hs : Sat G c H vs s) (hf : o.isFreed = false := by rfl) : Sat G c H vs { s with heap := s.heap.push o } := by
  obtain ⟨h₀, m, news, S0, V⟩ := hs
  exact ⟨h₀, m, news, S0.junk hf, V⟩

/-- a bound of a slice -/
def PartR : PV → Option Int → Prop
  | .none, o => o = none
  | .int i, o => o = some i
  | _, _ => False

/-- a slice of o, its bounds being values -/
def SlcP (G : Gl) (c : Cx S) (v i : Expr) (o l u : PV) (H : PHeap) (vs : Vars) (Q : PV → PHeap → Vars → Prop) (E : PX → PHeap → Vars → Prop) : Prop :=
  ∀ vo vl vu, PV.R o vo → PV.R l vl → PV.R u vu → ∀ s, Sat G c H vs s → wpAny (model G.prog G.w) c.A (subscriptTail v i vo (.ref s.heap.objs.size)) (fun v s' => ∃ r H' vs', PV.R r v ∧ Sat G c H' vs' s' ∧ Q r H' vs') (fun e s' => ∃ x H' vs', ExSat G c H' vs' x e s' ∧ E x H' vs')
    { s with heap := s.heap.push { cls := .type "slice", data := .fields #[vl, vu, .none] } }

theorem t_part0 (h : Q .none H vs) : T G c PV.R (evalPart none c.env) H vs Q E := fun _ hs => wpAny_pure ⟨.none, H, vs, rfl, hs, h⟩
theorem t_part {e : Expr} (h : T G c PV.R (eval e c.env) H vs Q E) : T G c PV.R (evalPart (some e) c.env) H vs Q E := h

theorem t_slc {v : Expr} {lo hi : Option Expr} {p' : Pos} (h : T G c PV.R (eval v c.env) H vs (fun a H1 vs1 => T G c PV.R (evalPart lo c.env) H1 vs1 (fun l H2 vs2 => T G c PV.R (evalPart hi c.env) H2 vs2 (fun u H3 vs3 => SlcP G c v (.Slice lo hi none p') a l u H3 vs3 Q E) E) E) E) :
    T G c PV.R (eval (.Subscript v (.Slice lo hi none p') pos) c.env) H vs Q E := fun s hs => by
  refine Subscript_ (wpAny_mono (h s hs) (fun va s1 ⟨a, H1, vs1, ha, hs1, h1⟩ => ?_) fun _ _ x => x)
  refine wpAny_Slice (wpAny_mono (h1 s1 hs1) (fun vl s2 ⟨l, H2, vs2, hl, hs2, h2⟩ => ?_) fun _ _ x => x)
  refine wpAny_mono (h2 s2 hs2) (fun vu s3 ⟨u, H3, vs3, hu, hs3, h3⟩ => ?_) fun _ _ x => x
  exact wpAny_evalPart_none (h3 va vl vu ha hl hu s3 hs3)

theorem part_tok {l : PV} {lo : Option Int} {vl : Value} (h : PartR l lo) (hr : PV.R l vl) : ∃ q : Option (Int × Tok), vl = partValue q ∧ q.map (·.1) = lo := by
  cases l <;> first | exact h.elim | skip
  · cases h; cases hr; exact ⟨none, rfl, rfl⟩
  · cases h; obtain ⟨t, rfl⟩ := hr; exact ⟨some (_, t), rfl, rfl⟩
theorem part_is {l : PV} {lo : Option Int} {vl : Value} (h : PartR l lo) (hr : PV.R l vl) : IsPart vl lo := by
  cases l <;> first | exact h.elim | skip
  · cases h; cases hr; exact .none
  · cases h; obtain ⟨t, rfl⟩ := hr; exact .int _ t

theorem slc_str {y : Str} {l u : PV} {lo hi : Option Int} {v : Expr} {el eu : Option Expr} {p' : Pos} (pl : PartR l lo) (pu : PartR u hi) (hy : y.length ≤ sizeLine) (h : Q (.str (ssl y lo hi)) H vs) :
    SlcP G c v (.Slice el eu none p') (.str y) l u H vs Q E := by
  rintro _ vl vu ⟨t, rfl⟩ hl hu s hs
  obtain ⟨ql, rfl, e1⟩ := part_tok pl hl
  obtain ⟨qu, rfl, e2⟩ := part_tok pu hu
  refine tail_any (typeIs_str _ y t) F.slot_str_getitem.lookup (wpAny_getItem_str_slice (l := ql) (u := qu) (st := none) ⟨_, Heap.get?_push_size _ rfl, rfl, rfl⟩ (by decide) (sliceMade_post hy fun t' k => ?_)) rfl
  rw [e1, e2]
  exact ⟨.str _, H, vs, ⟨_, rfl⟩, (hs.junk (o := { cls := .type "slice", data := .fields #[partValue ql, partValue qu, .none] })).tok, h⟩

theorem slc_list {a : Addr} {xs : List PV} {l u : PV} {lo hi : Option Int} {v : Expr} {el eu : Option Expr} {p' : Pos} (e : H a = some (.list xs)) (pl : PartR l lo) (pu : PartR u hi) (hy : xs.length ≤ sizeLine)
    (h : ∀ d, H d = none → Q (.ref d) (H.set d (.list (lsl xs lo hi))) vs) :
    SlcP G c v (.Slice el eu none p') (.ref a) l u H vs Q E := by
  rintro _ vl vu rfl hl hu s ⟨h₀, m, news, S0, V⟩
  obtain ⟨us, n, hm, hr, hL⟩ := S0.list e
  have S1 := S0.junk (o := { cls := .type "slice", data := .fields #[vl, vu, .none] })
  obtain ⟨us1, n1, hm1, hr1, hL1⟩ := S1.list e
  refine tail_any hL1.typeIs slot_list_getitem.lookup (wpAny_getItem_list_slice (st := none) hL1 ⟨_, Heap.get?_push_size _ rfl, rfl, rfl⟩ (part_is pl hl) (part_is pu hu) .none (by intro z; cases z) ?_ (by rw [List.size_toArray, hr1.len]; exact hy)) rfl
  rw [kms_pick_eq]
  have F' := S1.F.push { cls := .type "list", data := .seq (kms_pick us1 lo hi).toArray }
  have N' := News.push S1.F S1.N { cls := .type "list", data := .seq (kms_pick us1 lo hi).toArray } rfl
  obtain ⟨S2, hn⟩ := S1.alloc (po := .list (lsl xs lo hi)) (k := s.toks) F' N' (fun q hq => Heap.lt_size (S1.N q hq).1) ⟨_, 0, rfl, hr1.lsl lo hi⟩
  exact ⟨.ref _, _, vs, rfl, ⟨h₀, m, _, S2, V⟩, h _ hn⟩
end
end Mine
namespace Mine

theorem evalArgs_pos {M : Model} {A : Around} {E : Value → Shared → Prop} {s : Shared} {f : Value} {as : List (Bool × Sem Value)} {kws : List (Option Str × Sem Value)} {Q : Args → Shared → Prop}
    (hp : as.any (·.1) = false) (hk : kws.all (·.1.isSome) = true)
    (h : wpAny M A (spliced as) (fun us s1 => wpAny M A (evalAll (kws.map (·.2))) (fun ks s2 => Q ⟨us, (kws.filterMap (·.1)).zip ks⟩ s2) E s1) E s) : wpAny M A (evalArgs f true as kws) Q E s := by
  unfold evalArgs
  dsimp only
  split
  · simp at hp
  · refine wpAny_bind (wpAny_mono h (fun us s1 h1 => ?_) fun _ _ x => x)
    refine wpAny_bind (wpAny_pure ?_)
    dsimp only
    refine wpAny_holding ?_
    rw [if_pos hk]
    refine wpAny_bind (wpAny_mono h1 (fun ks s2 h2 => ?_) fun _ _ x => x)
    exact wpAny_bind (wpAny_pure (wpAny_pure h2))

section
variable {G : Gl} {S : Scope} {c : Cx S} {H : PHeap} {vs : Vars} {E : PX → PHeap → Vars → Prop} {x : Str} {pos : Pos} {p : PV} {Q : PV → PHeap → Vars → Prop} {QF : PF → PHeap → Vars → Prop} {QB : Bool → PHeap → Vars → Prop} {QU : Unit → PHeap → Vars → Prop}
  {QL : List PV → PHeap → Vars → Prop} {h₀ h' : Heap} {m : Str → Option Value} {news : List (Addr × Obj)} {s : Shared}

theorem t_args0 (h : QL [] H vs) : T G c RL (spliced (backTo pos (starEach [] c.env))) H vs QL E := fun _ hs => spliced_nil ⟨[], H, vs, .nil, hs, h⟩
theorem t_args1 {e : Expr} {es : List Expr} (he : starEach (e :: es) c.env = (false, eval e c.env) :: starEach es c.env)
    (h : T G c PV.R (eval e c.env) H vs (fun a H1 vs1 => T G c RL (spliced (backTo pos (starEach es c.env))) H1 vs1 (fun as H2 vs2 => QL (a :: as) H2 vs2) E) E) :
    T G c RL (spliced (backTo pos (starEach (e :: es) c.env))) H vs QL E := fun s hs => by
  rw [he]
  refine spliced_cons (wpAny_mono (h s hs) (fun va s1 ⟨a, H1, vs1, ha, hs1, h1⟩ => ?_) fun _ _ x => x)
  refine wpAny_mono (h1 s1 hs1) (fun us s2 ⟨as, H2, vs2, has, hs2, h2⟩ => ?_) fun _ _ x => x
  exact ⟨a :: as, H2, vs2, .cons ha has, hs2, h2⟩
theorem t_kws0 (h : QL [] H vs) : T G c RL (evalAll ((backToKw pos (keywordEach [] c.env)).map (·.2))) H vs QL E := fun _ hs => wpAny_evalAll_nil ⟨[], H, vs, .nil, hs, h⟩
theorem t_kws1 {e : Expr} {n : Str} {p' : Pos} {es : List Keyword}
    (h : T G c PV.R (eval e c.env) H vs (fun a H1 vs1 => T G c RL (evalAll ((backToKw pos (keywordEach es c.env)).map (·.2))) H1 vs1 (fun as H2 vs2 => QL (a :: as) H2 vs2) E) E) :
    T G c RL (evalAll ((backToKw pos (keywordEach (⟨some n, e, p'⟩ :: es) c.env)).map (·.2))) H vs QL E := fun s hs => by
  refine kwAll_cons (wpAny_mono (h s hs) (fun va s1 ⟨a, H1, vs1, ha, hs1, h1⟩ => ?_) fun _ _ x => x)
  refine wpAny_mono (h1 s1 hs1) (fun us s2 ⟨as, H2, vs2, has, hs2, h2⟩ => ?_) fun _ _ x => x
  exact ⟨a :: as, H2, vs2, .cons ha has, hs2, h2⟩

/-- a call -/
def CallP (G : Gl) (c : Cx S) (f : PV) (as : List PV) (kn : List Str) (ks : List PV) (H : PHeap) (vs : Vars) (Q : PV → PHeap → Vars → Prop) (E : PX → PHeap → Vars → Prop) : Prop :=
  ∀ fv us ws, PV.R f fv → RL as us → RL ks ws → T G c PV.R (call fv us (kn.zip ws)) H vs Q E

def Kp (G : Gl) : PV → Prop
  | .ref a => keepIn G.K (.ref a) = true
  | .bi _ => True
  | .typ _ => True
  | _ => False

theorem Kp.looks {f : PV} {fv : Value} {M : Model} (hk : Kp G f) (hr : PV.R f fv) (h : Heap) (X : G.K.In h) : ∃ k, (k = Keeper.frame ∨ k = Keeper.machine ∨ k = Keeper.boundFrame) ∧ Looks M h (keeperOf fv) k := by
  cases f <;> first | exact hk.elim | skip
  · cases hr; exact keeps_K hk h X
  · cases hr; exact ⟨.machine, .inr (.inl rfl), Looks.now⟩
  · cases hr; exact ⟨.machine, .inr (.inl rfl), Looks.now⟩

theorem Sat.X (hG : G.Ok) (hs : Sat G c H vs s) : G.K.In s.heap := by
  obtain ⟨h₀, m, news, S0, V⟩ := hs
  exact (S0.X hG).keeps S0.F.keep

theorem RL.split {as bs : List PV} {us ws : List Value} (h1 : RL as us) (h2 : RL bs ws) : RL (as ++ bs) (us ++ ws) := h1.app h2

theorem t_callWith (hG : G.Ok) {f : PV} {first : List PV} {args : List Expr} {kws : List Keyword} {kn : List Str} (hk : Kp G f) (hp : (backTo pos (starEach args c.env)).any (·.1) = false)
    (hq : (backToKw pos (keywordEach kws c.env)).all (·.1.isSome) = true) (hn : (backToKw pos (keywordEach kws c.env)).filterMap (·.1) = kn)
    (h : T G c RL (spliced (backTo pos (starEach args c.env))) H vs (fun as H1 vs1 => T G c RL (evalAll ((backToKw pos (keywordEach kws c.env)).map (·.2))) H1 vs1 (fun ks H2 vs2 => CallP G c f (first ++ as) kn ks H2 vs2 Q E) E) E) :
    ∀ fv fs, PV.R f fv → RL first fs → T G c PV.R (callWith pos fv fs (backTo pos (starEach args c.env)) (backToKw pos (keywordEach kws c.env))) H vs Q E := fun fv fs hf hfs s hs => by
  subst hn
  have hplain : ((backTo pos (starEach args c.env)).any (·.1) || (backToKw pos (keywordEach kws c.env)).any (·.1.isNone)) = false := by
    rw [hp, Bool.false_or]
    cases e : (backToKw pos (keywordEach kws c.env)).any (·.1.isNone) with
    | false => rfl
    | true =>
      obtain ⟨z, hz, hz2⟩ := List.any_eq_true.mp e
      have := List.all_eq_true.mp hq z hz
      cases hzz : z.1 with
      | none => rw [hzz] at this; cases this
      | some _ => rw [hzz] at hz2; cases hz2
  refine callWith_of (P := fun h => G.K.In h) hplain (fun h X => hk.looks hf h X) (evalArgs_pos hp hq (wpAny_mono (h s hs) (fun us s1 ⟨as, H1, vs1, has, hs1, h1⟩ => ?_) fun _ _ x => x))
  refine wpAny_mono (h1 s1 hs1) (fun ws s2 ⟨ks, H2, vs2, hks, hs2, h2⟩ => ?_) fun _ _ x => x
  exact ⟨hs2.X hG, h2 fv _ _ hf (hfs.app has) hks s2 hs2⟩

theorem t_call (hG : G.Ok) {fe : Expr} {args : List Expr} {kws : List Keyword} {kn : List Str}
    (he : eval (.Call fe args kws pos) c.env = (do callWith pos (← eval fe c.env) [] (backTo pos (starEach args c.env)) (backToKw pos (keywordEach kws c.env))))
    (hp : (backTo pos (starEach args c.env)).any (·.1) = false) (hq : (backToKw pos (keywordEach kws c.env)).all (·.1.isSome) = true) (hn : (backToKw pos (keywordEach kws c.env)).filterMap (·.1) = kn)
    (h : T G c PV.R (eval fe c.env) H vs (fun f H1 vs1 => Kp G f ∧ T G c RL (spliced (backTo pos (starEach args c.env))) H1 vs1 (fun as H2 vs2 => T G c RL (evalAll ((backToKw pos (keywordEach kws c.env)).map (·.2))) H2 vs2 (fun ks H3 vs3 => CallP G c f as kn ks H3 vs3 Q E) E) E) E) :
    T G c PV.R (eval (.Call fe args kws pos) c.env) H vs Q E := fun s hs => by
  rw [he]
  refine wpAny_bind (wpAny_mono (h s hs) (fun fv s1 ⟨f, H1, vs1, hf, hs1, hk, h1⟩ => ?_) fun _ _ x => x)
  exact t_callWith hG hk hp hq hn h1 fv [] hf .nil s1 hs1

/-- the method of a value -/
def MthP (G : Gl) (c : Cx S) (o : PV) (name : Str) (H : PHeap) (vs : Vars) (QM : PV → List PV → PHeap → Vars → Prop) (E : PX → PHeap → Vars → Prop) : Prop :=
  ∀ ov pl, PV.R o ov → ∀ s, Sat G c H vs s → wpAny (model G.prog G.w) c.A (getMethod ov name pl) (fun q s' => ∃ f fs H' vs', PV.R f q.1 ∧ RL fs q.2 ∧ Sat G c H' vs' s' ∧ QM f fs H' vs') (fun e s' => ∃ x H' vs', ExSat G c H' vs' x e s' ∧ E x H' vs') s

theorem t_mcall (hG : G.Ok) {o : Expr} {name : Str} {apos : Pos} {args : List Expr} {kws : List Keyword} {kn : List Str} {pl : Sem Bool}
    (he : eval (.Call (.Attribute o name apos) args kws pos) c.env = (do
      let ov ← eval o c.env
      standAt apos.atName
      let (f, first) ← holding [ov] (getMethod ov name pl)
      callWith pos f first (backTo pos (starEach args c.env)) (backToKw pos (keywordEach kws c.env))))
    (hp : (backTo pos (starEach args c.env)).any (·.1) = false) (hq : (backToKw pos (keywordEach kws c.env)).all (·.1.isSome) = true) (hn : (backToKw pos (keywordEach kws c.env)).filterMap (·.1) = kn)
    (h : T G c PV.R (eval o c.env) H vs (fun ov H1 vs1 => MthP G c ov name H1 vs1 (fun f fs H2 vs2 => Kp G f ∧ T G c RL (spliced (backTo pos (starEach args c.env))) H2 vs2 (fun as H3 vs3 => T G c RL (evalAll ((backToKw pos (keywordEach kws c.env)).map (·.2))) H3 vs3 (fun ks H4 vs4 => CallP G c f (fs ++ as) kn ks H4 vs4 Q E) E) E) E) E) :
    T G c PV.R (eval (.Call (.Attribute o name apos) args kws pos) c.env) H vs Q E := fun s hs => by
  refine methodCall_KW (pl := pl) (wpAny_mono (h s hs) (fun ov s1 ⟨o, H1, vs1, ho, hs1, h1⟩ => ?_) fun _ _ x => x) he
  refine wpAny_mono (h1 ov pl ho s1 hs1) (fun q s2 ⟨f, fs, H2, vs2, hf, hfs, hs2, hk, h2⟩ => ?_) fun _ _ x => x
  exact t_callWith hG hk hp hq hn h2 q.1 q.2 hf hfs s2 hs2

/-! displays -/
theorem t_list {es : List Expr} (h : T G c RL (spliced (backTo pos (starEach es c.env))) H vs (fun as H1 vs1 => as.length ≤ sizeLine ∧ ∀ d, H1 d = none → Q (.ref d) (H1.set d (.list as)) vs1) E) :
    T G c PV.R (eval (.List es pos) c.env) H vs Q E := fun s hs => by
  refine List_ (wpAny_mono (h s hs) (fun us s1 ⟨as, H1, vs1, has, hs1, hz, h1⟩ => ?_) fun _ _ x => x)
  obtain ⟨h₀, m, news, S0, V⟩ := hs1
  refine newList_K S0.F S0.N (fun l h' F' N' hl => ?_) (by rw [has.len]; exact hz)
  obtain ⟨S2, hn⟩ := S0.alloc (po := .list as) (k := s1.toks) F' N' hl ⟨us, 0, rfl, has⟩
  exact ⟨.ref l, _, vs1, rfl, ⟨h₀, m, _, S2, V⟩, h1 l hn⟩
theorem t_tuple {es : List Expr} {k : Nat} (h : T G c RL (spliced (backTo pos (starEach es c.env))) H vs (fun as H1 vs1 => as.length ≤ sizeLine ∧ ∀ d, H1 d = none → Q (.ref d) (H1.set d (.tup as)) vs1) E) :
    T G c PV.R (eval (.Tuple es k pos) c.env) H vs Q E := fun s hs => by
  refine Tuple_ (wpAny_mono (h s hs) (fun us s1 ⟨as, H1, vs1, has, hs1, hz, h1⟩ => ?_) fun _ _ x => x)
  obtain ⟨h₀, m, news, S0, V⟩ := hs1
  refine newTuple_N S0.F S0.N (fun h' F' N' => ?_) (by rw [has.len]; exact hz)
  obtain ⟨S2, hn⟩ := S0.alloc (po := .tup as) (k := s1.toks) F' N' (fun q hq => Heap.lt_size (S0.N q hq).1) ⟨us, 0, rfl, has⟩
  exact ⟨.ref _, _, vs1, rfl, ⟨h₀, m, _, S2, V⟩, h1 _ hn⟩

/-! built-ins -/
theorem k_len {a : Addr} {xs : List PV} (e : H a = some (.list xs)) (hz : xs.length ≤ sizeLine) (h : Q (.int xs.length) H vs) : CallP G c (.bi "len") [.ref a] [] [] H vs Q E := by
  rintro _ _ _ rfl (_ | ⟨rfl, _ | _⟩) (_ | _) s ⟨h₀, m, news, S0, V⟩
  obtain ⟨us, n, hm, hr, hl⟩ := S0.list e
  have hs : us.toArray.size = xs.length := by rw [List.size_toArray, hr.len]
  refine len_list hl (by rw [hs]; rw [sizeLine_eq] at hz; omega) ?_
  rw [hs]
  exact ⟨.int xs.length, H, vs, ⟨_, rfl⟩, Sat.tok ⟨h₀, m, news, S0, V⟩, h⟩
theorem k_lens {l : Str} (hz : l.length ≤ sizeLine) (h : Q (.int l.length) H vs) : CallP G c (.bi "len") [.str l] [] [] H vs Q E := by
  rintro _ _ _ rfl (_ | ⟨⟨t, rfl⟩, _ | _⟩) (_ | _) s hs
  exact PySem.P.len_str (by rw [sizeLine_eq] at hz; omega) ⟨.int l.length, H, vs, ⟨_, rfl⟩, hs.tok, h⟩
theorem k_append {a : Addr} {xs : List PV} (e : H a = some (.list xs)) (hz : xs.length ≤ sizeLine) (h : Q .none (H.set a (.list (xs ++ [p]))) vs) : CallP G c (.bi "list.append") [.ref a, p] [] [] H vs Q E := by
  rintro _ _ _ rfl (_ | ⟨rfl, _ | ⟨hp, _ | _⟩⟩) (_ | _) s ⟨h₀, m, news, S0, V⟩
  rename_i vp
  obtain ⟨us, n, hm, hr, hl⟩ := S0.list e
  obtain ⟨news', U, e1, e2⟩ := upd_mem (mo' := listOf (us.toArray.push vp) (n + 1)) hm S0.hr.nodup
  refine append_K S0.F S0.N U (fun h' F' N' => ⟨.none, _, vs, rfl, ⟨h₀, m, news', S0.upd (po' := .list (xs ++ [p])) (k := s.toks) e e1 e2 ⟨us ++ [vp], n + 1, by simp, hr.app (.cons hp .nil)⟩ F' N', V⟩, h⟩) (by rw [List.size_toArray, hr.len]; exact hz)
theorem m_list {a : Addr} {xs : List PV} {name : Str} {id : String} {QM : PV → List PV → PHeap → Vars → Prop} (e : H a = some (.list xs)) (slot : Slot "list" name id) (hty : typeOf (.builtin id) = pure (.type "method_descriptor"))
    (h : QM (.bi id) [.ref a] H vs) : MthP G c (.ref a) name H vs QM E := by
  rintro _ pl rfl s ⟨h₀, m, news, S0, V⟩
  obtain ⟨us, n, hm, hr, hl⟩ := S0.list e
  exact kl_method S0.N hm slot hty ⟨.bi id, [.ref a], H, vs, rfl, .cons rfl .nil, ⟨h₀, m, news, S0, V⟩, h⟩
theorem m_str {l : Str} {name : Str} {id : String} {QM : PV → List PV → PHeap → Vars → Prop} (slot : Slot "str" name id) (hty : typeOf (.builtin id) = pure (.type "method_descriptor"))
    (h : QM (.bi id) [.str l] H vs) : MthP G c (.str l) name H vs QM E := by
  rintro _ pl ⟨t, rfl⟩ s hs
  exact getMethod_builtin (typeIs_str s l t) PySem.F.plainAttrs_str slot hty (fun a q => by cases q) ⟨.bi id, [.str l], H, vs, rfl, .cons ⟨t, rfl⟩ .nil, hs, h⟩
theorem k_rstrip {l : Str} (hz : l.length ≤ sizeLine) (h : Q (.str (Txt.rstrip l)) H vs) : CallP G c (.bi "str.rstrip") [.str l] [] [] H vs Q E := by
  rintro _ _ _ rfl (_ | ⟨⟨t, rfl⟩, _ | _⟩) (_ | _) s hs
  exact SC.rstrip (fun t' k => ⟨.str _, H, vs, ⟨_, rfl⟩, hs.tok, h⟩) hz
theorem k_lstrip {l : Str} (hz : l.length ≤ sizeLine) (h : Q (.str (Txt.lstrip l)) H vs) : CallP G c (.bi "str.lstrip") [.str l] [] [] H vs Q E := by
  rintro _ _ _ rfl (_ | ⟨⟨t, rfl⟩, _ | _⟩) (_ | _) s hs
  exact SC.lstrip (fun t' k => ⟨.str _, H, vs, ⟨_, rfl⟩, hs.tok, h⟩) hz
theorem k_strip {l : Str} (hz : l.length ≤ sizeLine) (h : Q (.str (Txt.strip l)) H vs) : CallP G c (.bi "str.strip") [.str l] [] [] H vs Q E := by
  rintro _ _ _ rfl (_ | ⟨⟨t, rfl⟩, _ | _⟩) (_ | _) s hs
  exact SC.strip (fun t' k => ⟨.str _, H, vs, ⟨_, rfl⟩, hs.tok, h⟩) hz
theorem k_find3 {l y : Str} {i : Int} (h : Q (.int (Txt.find3 l y i)) H vs) : CallP G c (.bi "str.find") [.str l, .str y, .int i] [] [] H vs Q E := by
  rintro _ _ _ rfl (_ | ⟨⟨t, rfl⟩, _ | ⟨⟨t2, rfl⟩, _ | ⟨⟨t3, rfl⟩, _ | _⟩⟩⟩) (_ | _) s hs
  exact SC.find3 ⟨.int _, H, vs, ⟨_, rfl⟩, hs.tok, h⟩
end
end Mine
namespace Mine

theorem dict_mapFields (o : Obj) (f) : (o.mapFields f).dict = o.dict := by
  obtain ⟨a, b, d, e⟩ := o
  cases d <;> rfl
theorem ExcObj.of {h h' : Heap} {e : Addr} {x : PX} {tb tb' : Value} (hx : ExcObj h e x tb) {oe : Obj} (he : h.get? e = some oe) (he' : h'.get? e = some (oe.mapFields (·.setIfInBounds 1 tb'))) : ExcObj h' e x tb' := by
  obtain ⟨ob, vs, h1, h2, h3, h4, h5⟩ := hx
  rw [he] at h1; cases h1
  refine ⟨_, _, he', Obj.data_mapFields h2 _, by simp [h3], by simp [h3], ?_⟩
  cases x with
  | bi n => exact ⟨(Obj.cls_mapFields _ _).trans h5.1, by rw [Array.getElem?_setIfInBounds_ne (by decide)]; exact h5.2⟩
  | own C d => exact ⟨(Obj.cls_mapFields _ _).trans h5.1, (dict_mapFields _ _).trans h5.2⟩
theorem ExcObj.keep {h h' : Heap} {e : Addr} {x : PX} {tb : Value} (hx : ExcObj h e x tb) (k : ∀ o, h.get? e = some o → h'.get? e = some o) : ExcObj h' e x tb := by
  obtain ⟨ob, vs, h1, r⟩ := hx
  exact ⟨ob, vs, k _ h1, r⟩

/-- only the frames' slots and some records change -/
structure Moved (fr ex : List Addr) (h h' : Heap) : Prop where
  sl : ∀ b o, b ∉ ex → h.get? b = some o → ∃ sl, h'.get? b = some { o with slots := sl }
  keep : ∀ b o, b ∉ ex → b ∉ fr → h.get? b = some o → h'.get? b = some o

section
variable {M : Model} {A : Around} {E : Value → Shared → Prop} {G : Gl} {S : Scope} {c : Cx S} {H : PHeap} {s : Shared} {h₀ h h' : Heap} {m : Str → Option Value} {news : List (Addr × Obj)} {ea : Addr} {x : PX}

theorem ns_moved {fr ex : List Addr} {a : Addr} {m : Str → Option Value} (hm : Moved fr ex h h') (hex : ∀ b ∈ ex, ∃ o vs, h.get? b = some o ∧ o.data = .fields vs) (hn : h.Ns a m) : h'.Ns a m := by
  obtain ⟨o, es, ep, ho, hd, r⟩ := hn
  obtain ⟨sl, hs⟩ := hm.sl a o (fun he => by
    obtain ⟨o', vs, h1, h2⟩ := hex a he
    rw [ho] at h1; cases h1
    rw [hd] at h2; cases h2) ho
  exact ⟨_, es, ep, hs, hd, r⟩

theorem FlyC.move (F : FlyC G c H m news ea s) {ex : List Addr} {k : Nat} (hm : Moved (c.frames.filterMap (·.frame)) ex s.heap h') (hex : ∀ b ∈ ex, ∃ o vs, s.heap.get? b = some o ∧ o.data = .fields vs)
    (hb : ∀ b ∈ ex, G.base.get? b = none ∧ b ∉ news.map (·.1)) : FlyC G c H m news ea { s with heap := h', toks := k } := by
  refine ⟨F.st, fun b o e => ?_, F.fr.of_keeps fun b o e hd => ?_, ns_moved hm hex F.ns, F.hr, F.dj, fun q hq => ?_, F.en, ⟨fun p hp => ns_moved hm hex (F.bk.ns p hp), F.bk.lt, F.bk.fr, F.bk.base⟩, F.g, F.d, F.o⟩
  · refine hm.keep b o (fun hx => ?_) (fun hx => ?_) (F.stays b o e)
    · rw [(hb b hx).1] at e; cases e
    · rw [(F.fr.mem hx).1] at e; cases e
  · obtain ⟨sl, hs⟩ := hm.sl b o (fun hx => by
      obtain ⟨o', vs, h1, h2⟩ := hex b hx
      rw [e] at h1; cases h1
      exact hd _ h2) e
    exact ⟨_, hs, rfl⟩
  · have z := F.nw q hq
    exact ⟨hm.keep _ _ (fun hx => (hb _ hx).2 (List.mem_map_of_mem hq)) z.2.2.1 z.1, z.2⟩

/-- an entry of the traceback -/
theorem entry_wp {base : Heap} {env : Env} {outer : List Env} {L e : Addr} {oe : Obj} {vs : Array Value} {head : Value} {hadNext : Bool} {Q : Unit → Shared → Prop}
    (hfr : A.frames = some (env :: outer)) (hl : s.heap.FunFrames base (env :: outer)) (hf : env.frame = some L) (he : s.heap.get? e = some oe) (hd : oe.data = .fields vs) (hsz : 1 < vs.size)
    (h : ∀ h' T oT ts, Moved ((env :: outer).filterMap (·.frame)) [e] s.heap h' → h'.get? e = some (oe.mapFields (·.setIfInBounds 1 (.ref T))) → s.heap.get? T = none → T ≠ e → (s.heap.objs.size ≤ T) → h'.get? T = some oT → oT.data = .fields ts → ts[3]? = some (rawInt L) → Q () { s with heap := h' }) :
    wpAny M A (do let a ← frameOf env; let pl ← entryPlaceOf L hadNext; let b ← EntryCells.newEntry head a .none (rawInt L) .none pl; setField (.ref e) 1 b) Q E s := by
  have hene : e ∉ (env :: outer).filterMap (·.frame) := fun hm => by
    obtain ⟨_, o, ho, hnf⟩ := hl.mem hm
    rw [he] at ho; injection ho with ho; subst ho; exact hnf vs hd
  refine wpAny_bind (wpAny_frameOf_fun hfr hl hf fun h₁ hs₁ => ?_)
  refine wpAny_bind (wpAny_entryPlaceOf fun pl hpl => ?_)
  unfold EntryCells.newEntry newFields
  refine wpAny_bind (wpAny_newObj_type ?_ (hpl.sizeOk5 _ _ _ _ _))
  have he₁ : h₁.get? e = some oe := (hs₁.2.1 e hene).trans he
  generalize hT : ({ cls := .type "traceback", dict := none, data := .fields ([head, .ref L, .none, rawInt L, .none] ++ (if pl.isEmpty then List.replicate 6 Value.none else pl)).toArray } : Obj) = oT
  have hoT : oT.isFreed = false := by rw [← hT]; rfl
  have hfT : oT.data = .fields ([head, .ref L, .none, rawInt L, .none] ++ (if pl.isEmpty then List.replicate 6 Value.none else pl)).toArray := by rw [← hT]
  have he₂ := Heap.get?_push_of_some (h := h₁) oT he₁
  have hTe : h₁.objs.size ≠ e := Nat.ne_of_gt (Heap.lt_size he₁)
  have hlen : s.heap.objs.size ≤ h₁.objs.size := by
    have := hs₁.1
    omega
  refine wpAny_setField he₂ hd hsz (h _ h₁.objs.size oT _ ⟨fun b o hbe hb => ?_, fun b o hbe hbf hb => ?_⟩ ?_ ?_ hTe hlen ?_ hfT ?_)
  · obtain ⟨sl, hs⟩ := hs₁.2.2 b o hb
    have hbe' : e ≠ b := fun q => hbe (by rw [q]; exact .head _)
    exact ⟨sl, (Heap.get?_update_other _ _ hbe').trans (Heap.get?_push_of_some _ hs)⟩
  · have hbe' : e ≠ b := fun q => hbe (by rw [q]; exact .head _)
    exact (Heap.get?_update_other _ _ hbe').trans (Heap.get?_push_of_some _ ((hs₁.2.1 b hbf).trans hb))
  · exact Heap.get?_update_self _ he₂ (Obj.isFreed_of_fields (Obj.data_mapFields hd _))
  · exact Heap.get?_none_of_le hlen
  · exact (Heap.get?_update_other _ _ (Ne.symm hTe)).trans (Heap.get?_push_size h₁ hoT)
  · first | (simp; done) | (rcases hpl with rfl | ⟨_, _, _, _, _, _, _, rfl⟩ <;> simp)

theorem frames_own (ho : c.own = true) : c.frames = c.env :: c.outer := by unfold Cx.frames; rw [ho]

/-- an exception is noted in the frame at hand -/
theorem note_wp {Q : Unit → Shared → Prop} (ho : c.own = true) (hA : A.frames = some c.frames) (F : FlyC G c H m news ea s) (hx : ExcObj s.heap ea x .none ∨ ∃ fl, (fl = .none ∨ fl = rawInt c.Lf) ∧ FlyX G news x ea fl s.heap)
    (h : ∀ s', Fly G c H m news x ea (rawInt c.Lf) s' → Q () s') : wpAny M A (noteFrame (.ref ea) c.env) Q E s := by
  have hfe : c.env.frame = some c.Lf := rfl
  have hfr := frames_own ho
  have hfrm : s.heap.FunFrames G.base (c.env :: c.outer) := hfr ▸ F.fr
  rw [hfr] at hA
  have entry : ∀ (s₁ : Shared) (head : Value) (b : Bool) (tb : Value), FlyC G c H m news ea s₁ → ExcObj s₁.heap ea x tb →
      wpAny M A (do let a ← frameOf c.env; let pl ← entryPlaceOf c.Lf b; let b ← EntryCells.newEntry head a .none (rawInt c.Lf) .none pl; setField (.ref ea) 1 b) Q E s₁ := by
    intro s₁ head b tb F₁ hx₁
    obtain ⟨ob, vs, h1, h2, h3, h4, h5⟩ := id hx₁
    refine entry_wp hA (hfr ▸ F₁.fr) hfe h1 h2 (by omega) fun h' T oT ts hm he' hTn hTe hTs hT hTd hT3 => h _ ⟨F₁.move (k := s₁.toks) (hfr ▸ hm) (fun b hb => ?_) (fun b hb => ?_), T, oT, ts, hx₁.of h1 he', fun hq => ?_, ?_, hTe, hT, hTd, hT3⟩
    · cases List.mem_singleton.mp hb; exact ⟨ob, vs, h1, h2⟩
    · cases List.mem_singleton.mp hb; exact ⟨F.en.2, F.en.1⟩
    · obtain ⟨q, hq, e⟩ := List.mem_map.mp hq
      have := (F₁.nw q hq).1
      rw [e, hTn] at this; cases this
    · cases z : G.base.get? T with
      | none => rfl
      | some o => have := F₁.stays _ _ z; rw [hTn] at this; cases this
  unfold noteFrame
  simp only [hfe]
  rcases hx with hx | ⟨fl, hfl, T, oT, ts, hx, hTn, hTb, hTe, hT, hTd, hT3⟩
  · obtain ⟨ob, vs, h1, h2, h3, h4, h5⟩ := id hx
    refine wpAny_bind (wpAny_field h1 h2 h4 ?_)
    rw [if_neg (by decide)]
    exact entry s .none _ .none F hx
  · obtain ⟨ob, vs, h1, h2, h3, h4, h5⟩ := id hx
    refine wpAny_bind (wpAny_field h1 h2 h4 ?_)
    rw [if_pos (show (Value.ref T != Value.none) = true from by simp)]
    refine wpAny_bind (wpAny_field hT hTd hT3 ?_)
    rcases hfl with rfl | rfl
    · rw [if_neg (show ¬ ((Value.none == rawInt c.Lf) = true) from by simp [rawInt])]
      refine wpAny_bind (wpAny_setField hT hTd (Array.getElem?_eq_some_iff.mp hT3).1 ?_)
      have other : ∀ b, b ≠ T → (s.heap.update T (Obj.mapFields (·.setIfInBounds 3 Value.none))).get? b = s.heap.get? b := fun b hb => Heap.get?_update_other _ _ (Ne.symm hb)
      have F₁ : FlyC G c H m news ea { s with heap := s.heap.update T (Obj.mapFields (·.setIfInBounds 3 Value.none)) } :=
        F.move (ex := [T]) (k := s.toks) ⟨fun b o hb e => ⟨o.slots, (other b (fun q => hb (by rw [q]; exact .head _))).trans e⟩, fun b o hb _ e => (other b (fun q => hb (by rw [q]; exact .head _))).trans e⟩ (fun b hb => by cases List.mem_singleton.mp hb; exact ⟨oT, ts, hT, hTd⟩) (fun b hb => by cases List.mem_singleton.mp hb; exact ⟨hTb, hTn⟩)
      exact entry _ _ _ _ F₁ (hx.keep fun o e => (other ea (Ne.symm hTe)).trans e)
    · rw [if_pos (show (rawInt c.Lf == rawInt c.Lf) = true from by simp)]
      exact wpAny_pure (h s ⟨F, T, oT, ts, hx, hTn, hTb, hTe, hT, hTd, hT3⟩)

theorem flight_wp {Q : Unit → Shared → Prop} {fl : Value} {fr : Option Addr} (F : Fly G c H m news x ea fl s) (h : ∀ s', Fly G c H m news x ea (fr.elim .none fun f => rawInt f) s' → Q () s') : wpAny M A (setFlight (.ref ea) fr) Q E s := by
  obtain ⟨F, T, oT, ts, hx, hTn, hTb, hTe, hT, hTd, hT3⟩ := F
  obtain ⟨ob, vs, h1, h2, h3, h4, h5⟩ := id hx
  unfold setFlight
  refine wpAny_bind (wpAny_field h1 h2 h4 ?_)
  rw [if_pos (show (Value.ref T != Value.none) = true from by simp)]
  have hlt := (Array.getElem?_eq_some_iff.mp hT3).1
  refine wpAny_setField hT hTd hlt ?_
  have other : ∀ b, b ≠ T → (s.heap.update T (Obj.mapFields (·.setIfInBounds 3 (fr.elim Value.none fun f => rawInt f)))).get? b = s.heap.get? b := fun b hb => Heap.get?_update_other _ _ (Ne.symm hb)
  refine h _ ⟨F.move (ex := [T]) (k := s.toks) ⟨fun b o hb e => ⟨o.slots, (other b (fun q => hb (by rw [q]; exact .head _))).trans e⟩, fun b o hb _ e => (other b (fun q => hb (by rw [q]; exact .head _))).trans e⟩ (fun b hb => by cases List.mem_singleton.mp hb; exact ⟨oT, ts, hT, hTd⟩) (fun b hb => by cases List.mem_singleton.mp hb; exact ⟨hTb, hTn⟩), T, _, _, hx.keep fun o e => (other ea (Ne.symm hTe)).trans e, hTn, hTb, hTe, Heap.get?_update_self _ hT (Obj.isFreed_of_fields (Obj.data_mapFields hTd _)), Obj.data_mapFields hTd _, by simp [hlt]⟩
end
end Mine
namespace Mine

theorem HR.weaken {H1 H2 : PHeap} {news} (h : HR H1 news) (le : H2.Le H1) : HR H2 (news.filter fun q => (H2 q.1).isSome) := by
  refine ⟨fun q hq => ?_, fun a o e => ?_, ?_⟩
  · obtain ⟨hm, hs⟩ := List.mem_filter.mp hq
    obtain ⟨o, e, r⟩ := h.to q hm
    obtain ⟨o2, e2⟩ := Option.isSome_iff_exists.mp hs
    have := le _ _ e2
    rw [e] at this
    cases this
    exact ⟨o, e2, r⟩
  · obtain ⟨mo, hm⟩ := h.from' a o (le _ _ e)
    exact ⟨mo, List.mem_filter.mpr ⟨hm, by show (H2 a).isSome = true; rw [e]; rfl⟩⟩
  · exact h.nodup.sublist (List.filter_sublist.map _)

theorem PHeap.Le.refl (H : PHeap) : H.Le H := fun _ _ e => e
theorem PHeap.Le.trans {H1 H2 H3 : PHeap} (a : H1.Le H2) (b : H2.Le H3) : H1.Le H3 := fun x o e => b _ _ (a x o e)
theorem PHeap.Le.set {H H2 : PHeap} {a : Addr} {o : PO} (h : H2.Le H) (hn : H2 a = none) : H2.Le (H.set a o) := fun b p e => by
  rw [PHeap.set_ne]
  · exact h b p e
  · intro q; rw [q, hn] at e; cases e

section
variable {G : Gl} {S : Scope} {c : Cx S} {H : PHeap} {vs : Vars} {E : PX → PHeap → Vars → Prop} {Q : PV → PHeap → Vars → Prop} {s : Shared} {h₀ : Heap} {m : Str → Option Value} {news : List (Addr × Obj)}

theorem ext_le {P : List (Addr × Obj)} {H2 : PHeap} (le : H2.Le H) : (ext P H2).Le (ext P H) := fun a o e => by
  unfold ext at *
  cases q : P.lookup a with
  | none => rw [q] at e; exact le a o e
  | some z => rw [q] at e; exact e
theorem Sat0.weaken {H2 : PHeap} (S0 : Sat0 G c H m h₀ news s) (le : H2.Le H) : Sat0 G c H2 m h₀ (news.filter fun q => (ext c.P H2 q.1).isSome) s :=
  ⟨S0.F, fun q hq => S0.N q (List.mem_filter.mp hq).1, S0.B, S0.bk, S0.hr.weaken (ext_le le), (fun a ha => by
    cases q : H2 a with
    | none => rfl
    | some o => have := S0.dj a ha; rw [le a o q] at this; cases this), S0.g, S0.d, S0.o⟩
theorem Sat.weaken {H2 : PHeap} (hs : Sat G c H vs s) (le : H2.Le H) : Sat G c H2 vs s := by
  obtain ⟨h₀, m, news, S0, V⟩ := hs
  exact ⟨h₀, m, _, S0.weaken le, V⟩

theorem ground (hc : c.Ok) (S0 : Sat0 G c H m h₀ news s) : Fr h₀ c.L (hideAll s.heap (news.map (·.1))) m ∧ Below c.A G.base c.frames (hideAll s.heap (news.map (·.1))) := by
  have nm : ∀ b o, h₀.get? b = some o → b ∉ news.map (·.1) := fun b o e q => by
    obtain ⟨p, hp, rfl⟩ := List.mem_map.mp q
    rw [(S0.N p hp).2.2] at e; cases e
  have st : ∀ b o, h₀.get? b = some o → (hideAll s.heap (news.map (·.1))).get? b = some o := fun b o e => hideAll_get _ (S0.F.keep b o e) (nm b o e)
  obtain ⟨oL, es, ep, hL, hLd, hLk, hLf⟩ := S0.F.ns
  have nL : c.L ∉ news.map (·.1) := fun q => by
    obtain ⟨p, hp, e⟩ := List.mem_map.mp q
    exact (S0.N p hp).2.1 e
  have hLg := hideAll_get (news.map (·.1)) hL nL
  refine ⟨⟨⟨oL, es, ep, hLg, hLd, hLk, hLf⟩, st, S0.F.above⟩, ?_⟩
  cases ho : c.own with
  | true =>
    obtain ⟨_, BG, _, _⟩ := groundX (A := c.A) (R := fun _ _ => True) (env := c.env) S0.B S0.F S0.N (by show some c.frames = _; unfold Cx.frames; rw [ho]) (by show some c.Lf = _; rw [hc.hL ho]) hc.hk
    have : c.frames = c.env :: c.outer := by unfold Cx.frames; rw [ho]
    rw [this]; exact BG
  | false =>
    have : c.frames = c.outer := by unfold Cx.frames; rw [ho]
    rw [this]
    exact ⟨by show some c.frames = _; rw [this], fun b o e => st b o (S0.B.stays b o e), S0.B.frames.of_keeps fun b o e _ => ⟨o, st b o e, rfl⟩⟩

/-- the heap below an address -/
def trunc (h : Heap) (n : Nat) : Heap := ⟨h.objs.extract 0 n, h.life⟩
theorem trunc_get {h : Heap} {n b : Nat} : (trunc h n).get? b = if b < n then h.get? b else none := by
  unfold trunc Heap.get?
  dsimp only
  rw [Array.getElem?_extract]
  by_cases hb : b < n
  · rw [if_pos hb]
    by_cases hs : b < h.objs.size
    · rw [if_pos (by omega)]; simp
    · rw [if_neg (by omega)]
      have : h.objs[b]? = none := by rw [Array.getElem?_eq_none_iff]; omega
      rw [this]
  · rw [if_neg hb, if_neg (by omega)]

theorem mem_frame {l : List Env} {a : Addr} {base h : Heap} (hf : h.FunFrames base l) (hm : a ∈ l.filterMap (·.frame)) : base.get? a = none ∧ ∃ o, h.get? a = some o := by
  obtain ⟨h1, o, ho, _⟩ := hf.mem hm
  exact ⟨h1, o, ho⟩

theorem funFrames_cut {base h h' : Heap} : ∀ {l : List Env}, h.FunFrames base l → (∀ a ∈ l.filterMap (·.frame), h'.get? a = h.get? a) → h'.FunFrames base l
  | [], _, _ => trivial
  | env :: r, ⟨hk, ⟨L, o, hf, hn, ho, hd⟩, hr⟩, he => by
    refine ⟨hk, ⟨L, o, hf, hn, (he L (by simp [hf])).trans ho, hd⟩, funFrames_cut hr fun a ha => he a ?_⟩
    obtain ⟨e, h1, h2⟩ := List.mem_filterMap.mp ha
    exact List.mem_filterMap.mpr ⟨e, .tail _ h1, h2⟩

/-- a ground for what stands -/
theorem reground {h : Heap} (hst : c.A₀.frames = some c.outer) (hs : G.base.StaysIn h) (hf : h.FunFrames G.base c.outer) (hn : h.Ns c.L m) (hb : BackOk G c.L c.outer c.bl h)
    (nw : ∀ q ∈ news, h.get? q.1 = some q.2 ∧ G.base.get? q.1 = none ∧ q.1 ≠ c.L ∧ q.1 ∉ c.outer.filterMap (·.frame) ∧ q.1 ∉ c.bl.map (·.1)) :
    ∃ h₀, Fr h₀ c.L h m ∧ News h₀ c.L h news ∧ Below c.A₀ G.base c.outer h₀ ∧ BackOk G c.L c.outer c.bl h₀ := by
  have off : ∀ b, b ∉ news.map (·.1) → b < c.L → (hideAll (trunc h c.L) (news.map (·.1))).get? b = h.get? b := fun b hb hl => by
    have e1 : (trunc h c.L).get? b = h.get? b := by rw [trunc_get, if_pos hl]
    rw [← e1]
    cases q : (trunc h c.L).get? b with
    | some o => exact hideAll_get _ q hb
    | none =>
      cases q2 : (hideAll (trunc h c.L) (news.map (·.1))).get? b with
      | none => rfl
      | some o => rw [of_hideAll _ q2] at q; cases q
  refine ⟨hideAll (trunc h c.L) (news.map (·.1)), ⟨hn, fun b o e => ?_, ?_⟩, fun q hq => ⟨(nw q hq).1, (nw q hq).2.2.1, hideAll_none _ (List.mem_map_of_mem hq)⟩, ⟨hst, fun b o e => ?_, funFrames_cut hf fun a ha => off a (fun hm => ?_) (hb.fr a ha)⟩, ⟨fun p hp => ?_, hb.lt, hb.fr, hb.base⟩⟩
  · have := of_hideAll _ e
    rw [trunc_get] at this
    split at this
    · exact this
    · cases this
  · rw [hideAll_size]
    show (h.objs.extract 0 c.L).size ≤ c.L
    rw [Array.size_extract]
    omega
  · rw [off b (fun hm => ?_) (Nat.lt_of_lt_of_le (Heap.lt_size e) hb.base)]
    · exact hs b o e
    · obtain ⟨q, hq, rfl⟩ := List.mem_map.mp hm
      rw [(nw q hq).2.1] at e; cases e
  · obtain ⟨q, hq, rfl⟩ := List.mem_map.mp hm
    exact (nw q hq).2.2.2.1 ha
  · obtain ⟨oL, es, ep, hL, r⟩ := hb.ns p hp
    refine ⟨oL, es, ep, (off p.1 (fun hm => ?_) (hb.lt p hp)).trans hL, r⟩
    obtain ⟨q, hq, e⟩ := List.mem_map.mp hm
    exact (nw q hq).2.2.2.2 (e ▸ List.mem_map_of_mem hp)

/-- the context of a def that c calls -/
def Cx.sub (c : Cx S) (m : Str → Option Value) (S' : Scope) (L' f : Addr) (qual : Str) (cdv : Value) (cl : List (Str × Addr)) : Cx S' :=
  { A₀ := c.A, outer := c.frames, L := L', qu := qual ++ ".<locals>.", fn := some f, ccd := cdv, cl := cl, Lf := L', own := true, hd := c.hd, dp := c.dp + 1, un := c.un + 3, gd := c.gd, P := c.P, bl := (c.L, m) :: c.bl }

theorem back_sub {S' : Scope} {c' : Cx S'} {g : Heap} (hc : c.Ok) (S0 : Sat0 G c H m h₀ news s) (FG : Fr h₀ c.L g m) (ho : c'.outer = c.frames) (hbl : c'.bl = (c.L, m) :: c.bl) (hL : c.L < c'.L) : BackOk G c'.L c'.outer c'.bl g := by
  refine ⟨fun p hp => ?_, fun p hp => ?_, fun a ha => ?_, Nat.le_of_lt (Nat.lt_of_le_of_lt S0.bk.base hL)⟩
  · rw [hbl] at hp
    rcases List.mem_cons.mp hp with rfl | hp
    · exact FG.ns
    · obtain ⟨oL, es, ep, q, r⟩ := S0.bk.ns p hp
      exact ⟨oL, es, ep, FG.keep _ _ q, r⟩
  · rw [hbl] at hp
    rcases List.mem_cons.mp hp with rfl | hp
    · exact hL
    · exact Nat.lt_trans (S0.bk.lt p hp) hL
  · rw [ho] at ha
    unfold Cx.frames at ha
    cases hown : c.own with
    | true =>
      rw [hown] at ha
      have : a ∈ (c.env :: c.outer).filterMap (·.frame) := ha
      rw [List.filterMap_cons] at this
      have hfr : c.env.frame = some c.Lf := rfl
      rw [hfr] at this
      rcases List.mem_cons.mp this with rfl | h2
      · rw [hc.hL hown]; exact hL
      · exact Nat.lt_trans (S0.bk.fr a h2) hL
    | false => rw [hown] at ha; exact Nat.lt_trans (S0.bk.fr a ha) hL

theorem Cx.sub_ok {m : Str → Option Value} {S' : Scope} {L' f : Addr} {qual : Str} {cdv : Value} {cl : List (Str × Addr)} (hk : S'.kind = .function) : (Cx.sub c m S' L' f qual cdv cl).Ok :=
  ⟨hk, fun _ => rfl⟩
theorem Cx.sub_A {m : Str → Option Value} {S' : Scope} {L' f : Addr} {qual : Str} {cdv : Value} {cl : List (Str × Addr)} : (Cx.sub c m S' L' f qual cdv cl).A = c.A.deeper (Cx.sub c m S' L' f qual cdv cl).env := rfl

/-- what the return of a def leads to; what the call made may be forgotten -/
def RetQ (Q : PV → PHeap → Vars → Prop) (vs : Vars) : PF → PHeap → Vars → Prop
  | .ret p, H, _ => ∃ H2, PHeap.Le H2 H ∧ Q p H2 vs
  | _, H, _ => ∃ H2, PHeap.Le H2 H ∧ Q .none H2 vs

theorem frames_tail {l : List Env} (h : c.frames = l) {base g : Heap} (hf : g.FunFrames base l) : g.FunFrames base c.outer := by
  subst h
  unfold Cx.frames at hf
  cases hown : c.own with
  | true => rw [hown] at hf; exact hf.2.2
  | false => rw [hown] at hf; exact hf
theorem frames_sub {a : Addr} (ha : a ∈ c.outer.filterMap (·.frame)) : a ∈ c.frames.filterMap (·.frame) := by
  unfold Cx.frames
  cases c.own with
  | true =>
    obtain ⟨e, h1, h2⟩ := List.mem_filterMap.mp ha
    exact List.mem_filterMap.mpr ⟨e, .tail _ h1, h2⟩
  | false => exact ha

/-- back in the frame that called -/
theorem ret_sat0 (S0 : Sat0 G c H m h₀ news s) {S' : Scope} {c' : Cx S'} (ho : c'.outer = c.frames) (hbl : c'.bl = (c.L, m) :: c.bl) {H' : PHeap} {m' : Str → Option Value} {h₁ : Heap} {news' : List (Addr × Obj)} {s' : Shared}
    (S1 : Sat0 G c' H' m' h₁ news' s') : ∃ h₂, Fr h₂ c.L s'.heap m ∧ News h₂ c.L s'.heap news' ∧ Below c.A₀ G.base c.outer h₂ ∧ BackOk G c.L c.outer c.bl h₂ := by
  have up : ∀ p ∈ (c.L, m) :: c.bl, h₁.Ns p.1 p.2 := hbl ▸ S1.bk.ns
  have ns : ∀ p ∈ (c.L, m) :: c.bl, s'.heap.Ns p.1 p.2 := fun p hp => by
    obtain ⟨oL, es, ep, q, r⟩ := up p hp
    exact ⟨oL, es, ep, S1.F.keep _ _ q, r⟩
  have apart : ∀ q ∈ news', ∀ p ∈ (c.L, m) :: c.bl, q.1 ≠ p.1 := fun q hq p hp e => by
    obtain ⟨oL, es, ep, z, r⟩ := up p hp
    have := (S1.N q hq).2.2
    rw [e, z] at this; cases this
  have ff : h₁.FunFrames G.base c.outer := frames_tail rfl (ho ▸ S1.B.frames)
  refine reground S0.B.stack (fun b o e => S1.F.keep _ _ (S1.B.stays _ _ e)) (ff.of_keeps fun b o e _ => ⟨o, S1.F.keep _ _ e, rfl⟩) (ns _ (.head _)) ⟨fun p hp => ns p (.tail _ hp), S0.bk.lt, S0.bk.fr, S0.bk.base⟩ fun q hq => ?_
  refine ⟨(S1.N q hq).1, ?_, apart q hq _ (.head _), fun hm => ?_, fun hm => ?_⟩
  · cases z : G.base.get? q.1 with
    | none => rfl
    | some o => have := (S1.N q hq).2.2; rw [S1.B.stays _ _ z] at this; cases this
  · obtain ⟨_, o, z⟩ := mem_frame ff hm
    have := (S1.N q hq).2.2; rw [z] at this; cases this
  · obtain ⟨p, hp, e⟩ := List.mem_map.mp hm
    exact apart q hq p (.tail _ hp) e.symm
theorem ret_sat (S0 : Sat0 G c H m h₀ news s) (V : VR vs m) {S' : Scope} {c' : Cx S'} (hP : c'.P = c.P) (ho : c'.outer = c.frames) (hbl : c'.bl = (c.L, m) :: c.bl) {H' : PHeap} {vs' : Vars} {s' : Shared}
    (hs' : Sat G c' H' vs' s') : Sat G c H' vs s' := by
  obtain ⟨h₁, m', news', S1, _⟩ := hs'
  obtain ⟨h₂, F, N, B, b⟩ := ret_sat0 S0 ho hbl S1
  exact ⟨h₂, m, news', ⟨F, N, B, b, hP ▸ S1.hr, hP ▸ S1.dj, S1.g, S1.d, S1.o⟩, V⟩

theorem ret_q {fl : PF} {fv : Flow} {H1 : PHeap} {vs1 : Vars} (hr : PF.R fl fv) (h : RetQ Q vs fl H1 vs1) : ∃ p H2, PV.R p (match fv with | .ret v => v | _ => .none) ∧ PHeap.Le H2 H1 ∧ Q p H2 vs := by
  cases fl with
  | ret p => obtain ⟨v, rfl, hv⟩ := hr; obtain ⟨H2, a, b⟩ := h; exact ⟨p, H2, hv, a, b⟩
  | next => cases hr; obtain ⟨H2, a, b⟩ := h; exact ⟨.none, H2, rfl, a, b⟩
  | brk => cases hr; obtain ⟨H2, a, b⟩ := h; exact ⟨.none, H2, rfl, a, b⟩
  | cont => cases hr; obtain ⟨H2, a, b⟩ := h; exact ⟨.none, H2, rfl, a, b⟩

theorem flyC_new (hc : c.Ok) {ea : Addr} (S0 : Sat0 G c H m h₀ news s) (n1 : ea ∉ news.map (·.1)) (n3 : h₀.get? ea = none) : FlyC G c H m news ea s := by
  obtain ⟨_, BG⟩ := ground hc S0
  have bn : ∀ a, h₀.get? a = none → G.base.get? a = none := fun a ha => by
    cases z : G.base.get? a with
    | none => rfl
    | some o => rw [S0.B.stays _ _ z] at ha; cases ha
  have nsup : ∀ p ∈ c.bl, s.heap.Ns p.1 p.2 := fun p hp => by
    obtain ⟨oL, es, ep, q, r⟩ := S0.bk.ns p hp
    exact ⟨oL, es, ep, S0.F.keep _ _ q, r⟩
  refine ⟨S0.B.stack, fun b o e => S0.F.keep _ _ (S0.B.stays _ _ e), BG.frames.of_keeps fun b o e _ => ⟨o, of_hideAll _ e, rfl⟩, S0.F.ns, S0.hr, S0.dj, fun q hq => ?_, ⟨n1, bn _ n3⟩, ⟨nsup, S0.bk.lt, S0.bk.fr, S0.bk.base⟩, S0.g, S0.d, S0.o⟩
  have z := S0.N q hq
  refine ⟨z.1, bn _ z.2.2, fun hm => ?_, z.2.1, fun hm => ?_⟩
  · have key : q.1 ∈ c.outer.filterMap (·.frame) ∨ q.1 = c.L := by
      unfold Cx.frames at hm
      cases hown : c.own with
      | true =>
        rw [hown] at hm
        have hm' : q.1 ∈ (c.env :: c.outer).filterMap (·.frame) := hm
        rw [List.filterMap_cons, show c.env.frame = some c.Lf from rfl] at hm'
        rcases List.mem_cons.mp hm' with e | e
        · exact .inr (e.trans (hc.hL hown))
        · exact .inl e
      | false => rw [hown] at hm; exact .inl hm
    rcases key with k | k
    · obtain ⟨_, o, e⟩ := mem_frame S0.B.frames k
      rw [z.2.2] at e; cases e
    · exact z.2.1 k
  · obtain ⟨p, hp, e⟩ := List.mem_map.mp hm
    obtain ⟨oL, es, ep, w, r⟩ := S0.bk.ns p hp
    rw [e, z.2.2] at w; cases w

theorem flyC_at (hc : c.Ok) {ea : Addr} {x : PX} (hx : ExAt G c H vs x ea s) : ∃ m news, VR vs m ∧ FlyC G c H m news ea s ∧ (ExcObj s.heap ea x .none ∨ ∃ fl, (fl = .none ∨ fl = rawInt c.Lf) ∧ FlyX G news x ea fl s.heap) := by
  rcases hx with ⟨h₀, m, news, S0, V, n1, n2, n3, X⟩ | ⟨m, news, fl, hfl, V, F, X⟩
  · exact ⟨m, news, V, flyC_new hc S0 n1 n3, .inl X⟩
  · exact ⟨m, news, V, F, .inr ⟨fl, hfl, X⟩⟩

theorem flyC_sub (S0 : Sat0 G c H m h₀ news s) {S' : Scope} {L' f : Addr} {qual : Str} {cdv : Value} {cl : List (Str × Addr)} {H' : PHeap} {m' : Str → Option Value} {news' : List (Addr × Obj)} {ea : Addr} {s' : Shared}
    (F : FlyC G (Cx.sub c m S' L' f qual cdv cl) H' m' news' ea s') : FlyC G c H' m news' ea s' := by
  refine ⟨S0.B.stack, F.stays, F.fr.2.2, F.bk.ns _ (.head _), F.hr, F.dj, fun q hq => ?_, F.en, ⟨fun p hp => F.bk.ns p (.tail _ hp), S0.bk.lt, S0.bk.fr, S0.bk.base⟩, F.g, F.d, F.o⟩
  have z := F.nw q hq
  refine ⟨z.1, z.2.1, fun hm => z.2.2.1 ?_, fun e => z.2.2.2.2 ?_, fun hm => z.2.2.2.2 ?_⟩
  · obtain ⟨e, h1, h2⟩ := List.mem_filterMap.mp hm
    exact List.mem_filterMap.mpr ⟨e, .tail _ h1, h2⟩
  · show q.1 ∈ ((c.L, m) :: c.bl).map (·.1)
    rw [e]; exact .head _
  · show q.1 ∈ ((c.L, m) :: c.bl).map (·.1)
    exact .tail _ hm

/-- exceptions leave a def -/
theorem leave_ex (S0 : Sat0 G c H m h₀ news s) (V : VR vs m) {S' : Scope} {L' f : Addr} {qual : Str} {cdv : Value} {cl : List (Str × Addr)} (hk : S'.kind = .function) {H' : PHeap} {vs1 : Vars} {x : PX} {e : Value} {s' : Shared}
    (hx : ExSat G (Cx.sub c m S' L' f qual cdv cl) H' vs1 x e s') (hE : E x H' vs) : wpAny (model G.prog G.w) (Cx.sub c m S' L' f qual cdv cl).A (leaving (Cx.sub c m S' L' f qual cdv cl).env e)
      (fun _ s'' => ∃ x H' vs', ExSat G c H' vs' x e s'' ∧ E x H' vs') (fun e' s'' => ∃ x H' vs', ExSat G c H' vs' x e' s'' ∧ E x H' vs') s' := by
  obtain ⟨ea, rfl, hy⟩ := hx rfl
  obtain ⟨m', news', _, F, X⟩ := flyC_at (c := Cx.sub c m S' L' f qual cdv cl) (Cx.sub_ok hk) hy
  unfold leaving
  refine wpAny_bind (note_wp (c := Cx.sub c m S' L' f qual cdv cl) rfl rfl F X fun s1 h1 => ?_)
  refine flight_wp h1 fun s2 h2 => ⟨x, H', vs, fun _ => ⟨ea, rfl, .inr ⟨m, news', .none, .inl rfl, V, flyC_sub S0 h2.1, h2.2⟩⟩, hE⟩

/-- the parameters -/
def BindR (bs : Vars) (binds : List (Str × Value)) : Prop := bs.map (·.1) = binds.map (·.1) ∧ RL (bs.map (·.2)) (binds.map (·.2))
theorem BindR.look : ∀ {bs : Vars} {binds : List (Str × Value)}, BindR bs binds → ∀ {x p}, bs.lookup x = some p → ∃ v, binds.lookup x = some v ∧ PV.R p v
  | [], _, _, _, _, e => by cases e
  | (y, q) :: r, [], h, _, _, _ => by cases h.1
  | (y, q) :: r, (z, v) :: t, ⟨h1, h2⟩, x, p, e => by
    rw [List.map_cons, List.map_cons, List.cons.injEq] at h1
    obtain ⟨hn, h1⟩ := h1
    dsimp only at hn
    subst hn
    cases h2 with
    | cons a b =>
      rw [List.lookup_cons] at e ⊢
      cases hq : x == y with
      | true => rw [hq] at e; cases e; exact ⟨v, rfl, a⟩
      | false => rw [hq] at e; exact BindR.look ⟨h1, b⟩ e
theorem lookup_append' {β : Type} {x : Str} : ∀ (l1 l2 : List (Str × β)), (l1 ++ l2).lookup x = (l1.lookup x).or (l2.lookup x)
  | [], _ => by simp [List.lookup]
  | (y, q) :: r, l2 => by
    rw [List.cons_append, List.lookup_cons, List.lookup_cons]
    cases h : x == y with
    | true => rfl
    | false => exact lookup_append' r l2
theorem lookup_none' {β : Type} {x : Str} : ∀ {l : List (Str × β)}, x ∉ l.map (·.1) → l.lookup x = none
  | [], _ => rfl
  | (y, q) :: r, h => by
    rw [List.map_cons, List.mem_cons, not_or] at h
    rw [List.lookup_cons, beq_false_of_ne h.1]
    exact lookup_none' h.2
theorem lookup_rev {β : Type} : ∀ {l : List (Str × β)}, (l.map (·.1)).Nodup → ∀ x, l.reverse.lookup x = l.lookup x
  | [], _, _ => rfl
  | (y, q) :: r, h, x => by
    rw [List.map_cons, List.nodup_cons] at h
    rw [List.reverse_cons, lookup_append', lookup_rev h.2, List.lookup_cons]
    cases e : x == y with
    | true =>
      have : x = y := by simpa using e
      rw [this, lookup_none' h.1]
      simp [List.lookup]
    | false => simp [List.lookup, e]

theorem BindR.vr {bs : Vars} {binds : List (Str × Value)} (h : BindR bs binds) (hn : (bs.map (·.1)).Nodup) : VR bs (fun y => binds.reverse.lookup y) := fun x p e => by
  obtain ⟨v, hv, hr⟩ := h.look e
  exact ⟨v, by show binds.reverse.lookup x = _; rw [lookup_rev (h.1 ▸ hn)]; exact hv, hr⟩

/-- a call, as code -/
def CodeP (G : Gl) (c : Cx S) (f : PV) (as : List PV) (kn : List Str) (ks : List PV) (H : PHeap) (vs : Vars) (Q : PV → PHeap → Vars → Prop) (E : PX → PHeap → Vars → Prop) : Prop :=
  ∀ fv us ws, PV.R f fv → RL as us → RL ks ws → ∀ s, Sat G c H vs s → codeAny (model G.prog G.w) c.A (.call fv ⟨us, kn.zip ws⟩) (fun r s' => match r with
    | .ok (.ret v) => ∃ r H' vs', PV.R r v ∧ Sat G c H' vs' s' ∧ Q r H' vs'
    | .ok _ => False
    | .error e => ∃ x H' vs', ExSat G c H' vs' x e s' ∧ E x H' vs') s
theorem CodeP.call {f : PV} {as : List PV} {kn : List Str} {ks : List PV} (h : CodeP G c f as kn ks H vs Q E) : CallP G c f as kn ks H vs Q E := fun fv us ws hf h1 h2 s hs => wpAny_call (codeAny_mono (h fv us ws hf h1 h2 s hs) fun r s' hr => by
  cases r with
  | ok f => cases f <;> exact hr
  | error e => exact hr)

theorem k_def (hG : G.Ok) (hc : c.Ok) {f : Addr} {as : List PV} {kn : List Str} {ks : List PV} {oc : Value} {od : Option Addr} {osl : Array (Option Value)} {name qual : Str} {params : Arguments} {body : List Stmt} {scope : Scope} {dV kV doc pm cdv ct : Value} {an : Option Addr} {cl : List (Str × Addr)} {bs : Vars}
    (ho : G.K.lookup f = some ⟨oc, od, .func (fnX name qual params body scope cl dV kV doc pm an cdv ct), osl⟩) (hcd : codeIn G.K cdv qual = true) (hroom : c.dp < 900)
    (hbind : ∀ us ws, RL as us → RL ks ws → ∀ s : Shared, G.K.In s.heap → ∃ binds, BindsTo s (fnX name qual params body scope cl dV kV doc pm an cdv ct) ⟨us, kn.zip ws⟩ binds ∧ BindR bs binds)
    {ns : List Str} (hns : bs.map (·.1) = ns) (hloc : ∀ y ∈ ns, scope.names.lookup y = some .local) (hnd : ns.Nodup) (hcell : ∀ x ∈ scope.names, x.2 ≠ .cell)
    (hco : scope.isCoroutine = false) (hgen : scope.isGenerator = false) (hk : scope.kind = .function)
    (h : ∀ c' : Cx scope, c'.Ok → c'.dp = c.dp + 1 → c'.un = c.un + 3 → c'.hd = c.hd → c'.own = true → c'.cl = cl → T G c' PF.R (execs body c'.env) H bs (RetQ Q vs) (fun x H1 _ => E x H1 vs)) :
    CodeP G c (.ref f) as kn ks H vs Q E := by
  subst hns
  rintro _ us ws rfl has hks s hs
  obtain ⟨h₀, m, news, S0, V⟩ := id hs
  have X := S0.X hG
  have T' := S0.T hG
  obtain ⟨binds, hb, hbr⟩ := hbind us ws has hks s (X.keeps S0.F.keep)
  refine (codeAny_call_def (fd := fnX name qual params body scope cl dV kV doc pm an cdv ct) (body := body) (binds := binds) (Nat.lt_of_lt_of_le hroom (by decide)) ((X.keeps S0.F.keep) _ _ ho) rfl (T'.nolimit.keeps S0.F.keep) (codeRec_of (X.keeps S0.F.keep) hcd) rfl hb hcell
    (fun y hy => hloc y.1 (by rw [hbr.1]; exact List.mem_map_of_mem (f := (·.1)) hy)) (fun h₁ hns hk₁ => ?_) hco hgen hk)
  obtain ⟨FG, BG⟩ := ground hc S0
  have FL : Fr (hideAll s.heap (news.map (·.1))) s.heap.objs.size h₁ (fun y => binds.reverse.lookup y) := ⟨hns, fun b o e => hk₁ b o (of_hideAll _ e), Nat.le_of_eq (hideAll_size _ _)⟩
  have NL : News (hideAll s.heap (news.map (·.1))) s.heap.objs.size h₁ news := fun p hp => ⟨hk₁ _ _ (S0.N p hp).1, Nat.ne_of_lt (Heap.lt_size (S0.N p hp).1), hideAll_none _ (List.mem_map_of_mem hp)⟩
  have key := h (Cx.sub c m scope s.heap.objs.size f qual cdv cl) (Cx.sub_ok hk) rfl rfl rfl rfl rfl { s with heap := h₁, toks := s.toks + binds.length }
    ⟨_, _, news, ⟨FL, NL, BG, back_sub hc S0 FG rfl rfl (Heap.lt_size S0.F.ns.choose_spec.choose_spec.choose_spec.1), S0.hr, S0.dj, S0.g, S0.d, S0.o⟩, hbr.vr hnd⟩
  refine wpAny_mono key (fun fl s' hq => ?_) (fun e s' hx => ?_)
  · obtain ⟨r, H1, vs1, hr, hs1, hq⟩ := hq
    obtain ⟨p, H2, hp, le, hq2⟩ := ret_q hr hq
    exact ⟨p, H2, vs, hp, (ret_sat (c := c) (c' := Cx.sub c m scope s.heap.objs.size f qual cdv cl) S0 V rfl rfl rfl hs1).weaken le, hq2⟩
  · obtain ⟨x, H', vs', hx, hE⟩ := hx
    exact leave_ex S0 V hk hx hE
end
end Mine
namespace Mine

/-- what an iterator hands out -/
inductive Itm where
  | val (p : PV)
  | pair (p q : PV)

def Cx.wp {S : Scope} (c : Cx S) (P : List (Addr × Obj)) : Cx S := { c with P := P ++ c.P }
theorem Cx.wp_ok {S : Scope} {c : Cx S} {P : List (Addr × Obj)} (h : c.Ok) : (c.wp P).Ok := ⟨h.hk, h.hL⟩

section
variable {G : Gl} {S : Scope} {c : Cx S} {H : PHeap} {vs : Vars} {E : PX → PHeap → Vars → Prop} {Q : PV → PHeap → Vars → Prop} {QF : PF → PHeap → Vars → Prop} {s : Shared} {h₀ h' : Heap} {m : Str → Option Value} {news : List (Addr × Obj)} {it : Addr} {o o' : Obj}

theorem Sat0.priv (S0 : Sat0 G (c.wp [(it, o)]) H m h₀ news s) : (it, o) ∈ news ∧ H it = none := by
  have e : ext (c.wp [(it, o)]).P H it = some (.raw o) := by
    show ext ((it, o) :: c.P) H it = _
    unfold ext; simp [List.lookup]
  obtain ⟨mo, hm, hr⟩ := S0.hr.mem e
  cases hr
  exact ⟨hm, S0.dj it (by show (List.lookup it ((it, o) :: c.P)).isSome = true; simp [List.lookup])⟩

theorem Sat0.turn (S0 : Sat0 G (c.wp [(it, o)]) H m h₀ news s) {k : Nat} (hs : Heap.SameBut it s.heap h') (ho : h'.get? it = some o') : ∃ news', Sat0 G (c.wp [(it, o')]) H m h₀ news' { s with heap := h', toks := k } := by
  obtain ⟨hm, hn⟩ := S0.priv
  have z := S0.N _ hm
  obtain ⟨news', U, e1, e2⟩ := upd_mem (mo' := o') hm S0.hr.nodup
  obtain ⟨pre, post, rfl, rfl, a, b⟩ := U.split
  have e : ext (c.wp [(it, o)]).P H it = some (.raw o) := by
    show ext ((it, o) :: c.P) H it = _
    unfold ext; simp [List.lookup]
  have hput := S0.hr.put (po' := .raw o') (mo' := o') e e1 e2 rfl
  have heq : (ext (c.wp [(it, o)]).P H).set it (.raw o') = ext (c.wp [(it, o')]).P H := by
    funext b
    show PHeap.set (ext ((it, o) :: c.P) H) it (.raw o') b = ext ((it, o') :: c.P) H b
    unfold ext PHeap.set
    by_cases hb : b = it
    · subst hb; simp [List.lookup]
    · simp [List.lookup, hb, beq_false_of_ne hb]
  refine ⟨_, S0.F.change hs z.2.1 z.2.2, news_set S0.N a b hs ho, S0.B, S0.bk, heq ▸ hput, fun b hb => S0.dj b ?_, S0.g, S0.d, S0.o⟩
  revert hb
  show (List.lookup b ((it, o') :: c.P)).isSome = true → (List.lookup b ((it, o) :: c.P)).isSome = true
  rw [List.lookup_cons, List.lookup_cons]
  cases b == it <;> exact id

theorem Sat0.gone (S0 : Sat0 G (c.wp [(it, o)]) H m h₀ news s) {k : Nat} (hs : ∀ b ob, b ≠ it → s.heap.get? b = some ob → h'.get? b = some ob) (hp : c.P.lookup it = none) : ∃ news', Sat0 G c H m h₀ news' { s with heap := h', toks := k } := by
  obtain ⟨hm, hn⟩ := S0.priv
  have z := S0.N _ hm
  obtain ⟨oL, es, ep, hL, r⟩ := S0.F.ns
  have F' : Fr h₀ c.L h' m := ⟨⟨oL, es, ep, hs _ _ (Ne.symm z.2.1) hL, r⟩, fun b x e => hs b x (fun q => by rw [q] at e; rw [z.2.2] at e; cases e) (S0.F.keep b x e), S0.F.above⟩
  refine ⟨news.filter fun q => (ext c.P H q.1).isSome, F', fun q hq => ?_, S0.B, S0.bk, ?_, fun b hb => S0.dj b ?_, S0.g, S0.d, S0.o⟩
  · obtain ⟨hq1, hq2⟩ := List.mem_filter.mp hq
    have w := S0.N q hq1
    refine ⟨hs _ _ (fun e => ?_) w.1, w.2⟩
    rw [e] at hq2
    unfold ext at hq2
    rw [hp, hn] at hq2
    cases hq2
  · refine S0.hr.weaken fun a p e => ?_
    show ext ((it, o) :: c.P) H a = some p
    unfold ext at *
    rw [List.lookup_cons]
    by_cases ha : a = it
    · subst ha; rw [hp, hn] at e; cases e
    · rw [beq_false_of_ne ha]; exact e
  · show (List.lookup b ((it, o) :: c.P)).isSome = true
    rw [List.lookup_cons]
    cases b == it
    · exact hb
    · rfl

theorem Sat0.take (S0 : Sat0 G c H m h₀ news s) (hf : o.isFreed = false) : Sat0 G (c.wp [(s.heap.objs.size, o)]) H m h₀ ((s.heap.objs.size, o) :: news) { s with heap := s.heap.push o } ∧ c.P.lookup s.heap.objs.size = none := by
  have hl : ∀ q ∈ news, q.1 < s.heap.objs.size := fun q hq => Heap.lt_size (S0.N q hq).1
  obtain ⟨hp, hh⟩ := S0.off (not_key hl)
  have heq : ext (c.wp [(s.heap.objs.size, o)]).P H = (ext c.P H).set s.heap.objs.size (.raw o) := by
    funext b
    show ext ((s.heap.objs.size, o) :: c.P) H b = _
    unfold ext PHeap.set
    by_cases hb : b = s.heap.objs.size
    · subst hb; simp [List.lookup]
    · simp [List.lookup, hb, beq_false_of_ne hb]
  refine ⟨⟨S0.F.push o, News.push S0.F S0.N o hf, S0.B, S0.bk, by rw [heq]; exact S0.hr.cons (not_key hl) rfl, fun b hb => ?_, S0.g, S0.d, S0.o⟩, hp⟩
  by_cases e : b = s.heap.objs.size
  · rw [e]; exact hh
  · refine S0.dj b ?_
    have hb' : (List.lookup b ((s.heap.objs.size, o) :: c.P)).isSome = true := hb
    rw [List.lookup_cons, beq_false_of_ne e] at hb'
    exact hb'

/-- an iterator: its private object, from item to item -/
structure Stp (G : Gl) (it : Addr) (items : List Itm) (Src : PHeap → Prop) (St : Nat → Obj → Prop) : Prop where
  again : ∀ {S : Scope} (c : Cx S) (H : PHeap) (vs : Vars) (s : Shared) (k : Nat) (o : Obj) (Q : Value → Shared → Prop) (E : Value → Shared → Prop), St k o → Sat G (c.wp [(it, o)]) H vs s → Q (.ref it) s → wpAny (model G.prog G.w) c.A (pyIter (.ref it)) Q E s
  next : ∀ {S : Scope} (c : Cx S) (H : PHeap) (vs : Vars) (s : Shared) (k : Nat) (o : Obj), c.hd = none → St k o → Src H → c.P.lookup it = none → Sat G (c.wp [(it, o)]) H vs s →
    wpAny (model G.prog G.w) c.A (pyNext (.ref it)) (fun r s' => match items[k]? with
      | none => r = none ∧ Sat G c H vs s'
      | some (.val x) => ∃ v o', r = some v ∧ PV.R x v ∧ St (k + 1) o' ∧ Sat G (c.wp [(it, o')]) H vs s'
      | some (.pair x y) => ∃ t o', r = some (.ref t) ∧ St (k + 1) o' ∧ H t = none ∧ Sat G (c.wp [(it, o')]) (H.set t (.tup [x, y])) vs s') (fun _ _ => False) s
  owned : ∀ {S : Scope} (c : Cx S) (H : PHeap) (vs : Vars) (s : Shared) (k : Nat) (o : Obj) (tgt : Expr) (v : Value), St k o → Sat G (c.wp [(it, o)]) H vs s →
    wpAny (model G.prog G.w) c.A (letOwnedTupleGo tgt (.ref it) v) (fun _ s' => ∃ o', St k o' ∧ Sat G (c.wp [(it, o')]) H vs s') (fun _ _ => False) s

theorem letOwned_other {M : Model} {A : Around} {E : Value → Shared → Prop} {tgt : Expr} {v : Value} {s : Shared} {Q : Unit → Shared → Prop} {n : String} (ho : s.heap.get? it = some o) (hc : o.cls = .type n)
    (hn : ["enumerate", "zip", "dict_itemiterator", "dict_reverseitemiterator", "odict_iterator", "itertools.zip_longest", "itertools.pairwise"].contains n = false) (h : Q () s) : wpAny M A (letOwnedTupleGo tgt (.ref it) v) Q E s := by
  unfold letOwnedTupleGo
  split
  all_goals first | exact wpAny_pure h | skip
  all_goals
    cases v <;> first | exact wpAny_pure h | skip
    refine wpAny_bind (wpAny_load ho ?_)
    rw [hc]
    split
    · rename_i e _
      cases e
      rw [hn]
      exact wpAny_pure h
    · exact wpAny_pure h

theorem stp_list {l : Addr} {xs : List PV} : Stp G it (xs.map .val) (fun H => H l = some (.list xs)) (fun k o => o.cls = .type "list_iterator" ∧ o.data = .fields #[.ref l, .int (k : Int) 0]) where
  again c H vs s k o Q E hst hs hq := by
    obtain ⟨h₀, m, news, S0, V⟩ := hs
    obtain ⟨hm, hn⟩ := S0.priv
    exact wpAny_pyIter_listiter (i := k) ⟨o, (S0.N _ hm).1, hst.1, hst.2⟩ hq
  next c H vs s k o hd hst hsrc hp hs := by
    obtain ⟨h₀, m, news, S0, V⟩ := hs
    obtain ⟨hm, hn⟩ := S0.priv
    obtain ⟨us, n, hmu, hr, hl⟩ := S0.list hsrc
    have hit : s.heap.IsListIter it l k := ⟨o, (S0.N _ hm).1, hst.1, hst.2⟩
    rw [List.getElem?_map]
    cases hx : xs[k]? with
    | none =>
      refine wpAny_pyNext_list_end hd hit hl (by rw [List.getElem?_toArray]; rw [List.getElem?_eq_none_iff] at hx ⊢; rw [hr.len]; exact hx) fun h' he => ?_
      obtain ⟨news', S1⟩ := S0.gone (k := s.toks) (fun b ob hb e => he b ob hb e) hp
      exact ⟨rfl, h₀, m, news', S1, V⟩
    | some x =>
      obtain ⟨v, hv, hxv⟩ := hr.get hx
      refine wpAny_pyNext_list_item hit hl (by simpa using hv) fun h' hi hsb => ?_
      obtain ⟨o', ho', hc', hd'⟩ := hi
      obtain ⟨news', S1⟩ := S0.turn (k := s.toks) hsb ho'
      exact ⟨v, o', rfl, hxv, ⟨hc', hd'⟩, h₀, m, news', S1, V⟩
  owned c H vs s k o tgt v hst hs := by
    obtain ⟨h₀, m, news, S0, V⟩ := id hs
    obtain ⟨hm, hn⟩ := S0.priv
    exact letOwned_other (S0.N _ hm).1 hst.1 (by decide) ⟨o, hst, hs⟩
end
end Mine
namespace Mine

section
variable {G : Gl} {S : Scope} {c : Cx S} {H : PHeap} {vs : Vars} {E : PX → PHeap → Vars → Prop} {Q : PV → PHeap → Vars → Prop} {QF : PF → PHeap → Vars → Prop} {QU : Unit → PHeap → Vars → Prop} {s : Shared} {h₀ h' : Heap} {m : Str → Option Value} {news : List (Addr × Obj)} {it : Addr} {o o' : Obj} {pos : Pos}

/-- an exception of a loop's turn, noted and come back -/
theorem ex_loop (hc : c.Ok) (ho : c.own = true) {x : PX} {e : Value} (hx : ExSat G c H vs x e s) (hE : E x H vs) : notedBy (model G.prog G.w) c.A c.env (fun e s' => cameBackBy (model G.prog G.w) c.A c.env (fun e s' => ∃ x H' vs', ExSat G c H' vs' x e s' ∧ E x H' vs') e s') e s := by
  obtain ⟨ea, rfl, hy⟩ := hx ho
  obtain ⟨m', news', V, F, X⟩ := flyC_at hc hy
  unfold notedBy
  refine note_wp ho rfl F X fun s1 h1 => ?_
  unfold cameBackBy
  obtain ⟨T, oT, ts, ⟨ob, ws, k1, k2, k3, k4, k5⟩, r⟩ := id h1.2
  refine wpAny_bind (wpAny_field k1 k2 k4 ?_)
  rw [if_neg (show ¬ ((Value.ref T == Value.none) = true) from by simp)]
  exact flight_wp h1 fun s2 h2 => ⟨x, H, vs, fun _ => ⟨ea, rfl, .inr ⟨m', news', _, .inr rfl, V, h2⟩⟩, hE⟩
theorem ex_unwp {x : PX} {e : Value} (hx : ExSat G (c.wp [(it, o)]) H vs x e s) (hp : c.P.lookup it = none) : ExSat G c H vs x e s := fun ho => by
  have sub : ∀ {news : List (Addr × Obj)}, HR (ext (c.wp [(it, o)]).P H) news → (∀ a, ((c.wp [(it, o)]).P.lookup a).isSome = true → H a = none) → HR (ext c.P H) (news.filter fun q => (ext c.P H q.1).isSome) := fun hr dj => by
    have hn : H it = none := dj it (by show (List.lookup it ((it, o) :: c.P)).isSome = true; simp [List.lookup])
    refine hr.weaken fun a p e => ?_
    show ext ((it, o) :: c.P) H a = some p
    unfold ext at *
    rw [List.lookup_cons]
    by_cases ha : a = it
    · subst ha; rw [hp, hn] at e; cases e
    · rw [beq_false_of_ne ha]; exact e
  have dj' : (∀ a, ((c.wp [(it, o)]).P.lookup a).isSome = true → H a = none) → ∀ a, (c.P.lookup a).isSome = true → H a = none := fun dj a ha => dj a (by
    show (List.lookup a ((it, o) :: c.P)).isSome = true
    rw [List.lookup_cons]
    cases a == it
    · exact ha
    · rfl)
  have fil : ∀ {news : List (Addr × Obj)} {a : Addr}, a ∉ news.map (·.1) → a ∉ (news.filter fun q => (ext c.P H q.1).isSome).map (·.1) := fun hn hm => by
    obtain ⟨q, hq, e⟩ := List.mem_map.mp hm
    exact hn (e ▸ List.mem_map_of_mem (List.mem_filter.mp hq).1)
  obtain ⟨ea, rfl, ⟨h₀, m, news, S0, V, n1, n2⟩ | ⟨m, news, fl, hfl, V, F, T, oT, ts, X1, X2, X3⟩⟩ := hx ho
  · exact ⟨ea, rfl, .inl ⟨h₀, m, _, ⟨S0.F, fun q hq => S0.N q (List.mem_filter.mp hq).1, S0.B, S0.bk, sub S0.hr S0.dj, dj' S0.dj, S0.g, S0.d, S0.o⟩, V, fil n1, n2⟩⟩
  · exact ⟨ea, rfl,   .inr ⟨m, _, fl, hfl, V, ⟨F.st, F.stays, F.fr, F.ns, sub F.hr F.dj, dj' F.dj, fun q hq => F.nw q (List.mem_filter.mp hq).1, ⟨fil F.en.1, F.en.2⟩, F.bk, F.g, F.d, F.o⟩, T, oT, ts, X1, fil X2, X3⟩⟩

/-- what a turn's end leads to -/
def ForN (K : PHeap → Vars → Prop) (QF : PF → PHeap → Vars → Prop) : PF → PHeap → Vars → Prop
  | .next, H, vs => ∃ H2, PHeap.Le H2 H ∧ K H2 vs
  | .cont, H, vs => ∃ H2, PHeap.Le H2 H ∧ K H2 vs
  | .brk, H, vs => QF .next H vs
  | .ret p, H, vs => QF (.ret p) H vs

def ForP (G : Gl) (c : Cx S) (Src : PHeap → Prop) (target : Expr) (body : List Stmt) (QF : PF → PHeap → Vars → Prop) (E : PX → PHeap → Vars → Prop) : List Itm → PHeap → Vars → Prop
  | [], H, vs => QF .next H vs
  | .val x :: r, H, vs => ∀ P v, PV.R x v → T G (c.wp P) UR (assign target (c.wp P).env v) H vs (fun _ H1 vs1 => T G (c.wp P) PF.R (execs body (c.wp P).env) H1 vs1 (ForN (fun H2 vs2 => Src H2 ∧ ForP G c Src target body QF E r H2 vs2) QF) E) E
  | .pair x y :: r, H, vs => ∀ P t, H t = none → T G (c.wp P) UR (assign target (c.wp P).env (.ref t)) (H.set t (.tup [x, y])) vs (fun _ H1 vs1 => T G (c.wp P) PF.R (execs body (c.wp P).env) H1 vs1 (ForN (fun H2 vs2 => Src H2 ∧ ForP G c Src target body QF E r H2 vs2) QF) E) E

/-- the iterator of a value -/
def IterP (G : Gl) (c : Cx S) (p : PV) (H : PHeap) (vs : Vars) (K : (PHeap → Prop) → List Itm → Prop) : Prop :=
  ∀ v, PV.R p v → ∀ s, Sat G c H vs s → wpAny (model G.prog G.w) c.A (pyIter v) (fun itv s' => ∃ it o items Src St, itv = .ref it ∧ Stp G it items Src St ∧ St 0 o ∧ c.P.lookup it = none ∧ Sat G (c.wp [(it, o)]) H vs s' ∧ K Src items) (fun _ _ => False) s

theorem Sat0.unwp (S0 : Sat0 G (c.wp [(it, o)]) H m h₀ news s) (hp : c.P.lookup it = none) : ∃ news', Sat0 G c H m h₀ news' s := S0.gone (k := s.toks) (h' := s.heap) (fun _ _ _ e => e) hp
theorem Sat.unwp (hs : Sat G (c.wp [(it, o)]) H vs s) (hp : c.P.lookup it = none) : Sat G c H vs s := by
  obtain ⟨h₀, m, news, S0, V⟩ := hs
  obtain ⟨news', S1⟩ := S0.unwp hp
  exact ⟨h₀, m, news', S1, V⟩

theorem for_core (hc : c.Ok) (ho : c.own = true) {target : Expr} {body : List Stmt} {items : List Itm} {Src : PHeap → Prop} {St : Nat → Obj → Prop} (hd : c.hd = none) (stp : Stp G it items Src St) (hp : c.P.lookup it = none)
    (h0 : St 0 o) (hs : Sat G (c.wp [(it, o)]) H vs s) (hsrc : Src H) (h : ForP G c Src target body QF E items H vs) :
    codeAny (model G.prog G.w) c.A (.forLoop target (.ref it) body [] c.env) (fun r s' => match r with
      | .ok f => ∃ r H' vs', PF.R r f ∧ Sat G c H' vs' s' ∧ QF r H' vs'
      | .error e => cameBackBy (model G.prog G.w) c.A c.env (fun e s' => ∃ x H' vs', ExSat G c H' vs' x e s' ∧ E x H' vs') e s') s := by
  refine codeAny_forLoop_any (fun n s => ∃ k o H vs, n = items.length - k ∧ k ≤ items.length ∧ St k o ∧ Src H ∧ Sat G (c.wp [(it, o)]) H vs s ∧ ForP G c Src target body QF E (items.drop k) H vs) (fun n s hI => ?_) items.length ⟨0, o, H, vs, rfl, Nat.zero_le _, h0, hsrc, hs, h⟩
  obtain ⟨k, o, H, vs, rfl, hk, hst, hsrc, hs, hfor⟩ := hI
  refine wpAny_mono (stp.next c H vs s k o hd hst hsrc hp hs) (fun r s1 hr => ?_) fun _ _ x => x.elim
  have exn : ∀ (o : Obj) (e : Value) (s' : Shared), (∃ x H' vs', ExSat G (c.wp [(it, o)]) H' vs' x e s' ∧ E x H' vs') → notedBy (model G.prog G.w) c.A c.env (fun e s' => cameBackBy (model G.prog G.w) c.A c.env (fun e s' => ∃ x H' vs', ExSat G c H' vs' x e s' ∧ E x H' vs') e s') e s' := fun o e s' ⟨x, H', vs', hx, hE⟩ => ex_loop hc ho (ex_unwp hx hp) hE
  have body_end : ∀ (o' : Obj) (r' : List Itm), items.drop (k + 1) = r' → St (k + 1) o' → k < items.length → ∀ (f : Flow) (s3 : Shared), (∃ r H' vs', PF.R r f ∧ Sat G (c.wp [(it, o')]) H' vs' s3 ∧ ForN (fun H2 vs2 => Src H2 ∧ ForP G c Src target body QF E r' H2 vs2) QF r H' vs') →
      (match f with
        | .next | .cont => ∃ m, m < items.length - k ∧ ∃ k o H vs, m = items.length - k ∧ k ≤ items.length ∧ St k o ∧ Src H ∧ Sat G (c.wp [(it, o)]) H vs s3 ∧ ForP G c Src target body QF E (items.drop k) H vs
        | .brk => ∃ r H' vs', PF.R r .next ∧ Sat G c H' vs' s3 ∧ QF r H' vs'
        | .ret v => ∃ r H' vs', PF.R r (.ret v) ∧ Sat G c H' vs' s3 ∧ QF r H' vs') := by
    rintro o' r' er hst' hlt f s3 ⟨r, H', vs', hr, hs3, hn⟩
    have again : (∃ H2, PHeap.Le H2 H' ∧ (Src H2 ∧ ForP G c Src target body QF E r' H2 vs')) → ∃ m, m < items.length - k ∧ ∃ k o H vs, m = items.length - k ∧ k ≤ items.length ∧ St k o ∧ Src H ∧ Sat G (c.wp [(it, o)]) H vs s3 ∧ ForP G c Src target body QF E (items.drop k) H vs := by
      rintro ⟨H2, le, hsrc2, hf⟩
      exact ⟨items.length - (k + 1), by omega, k + 1, o', H2, vs', rfl, hlt, hst', hsrc2, hs3.weaken le, er ▸ hf⟩
    cases r with
    | next => cases hr; exact again hn
    | cont => cases hr; exact again hn
    | brk => cases hr; exact ⟨.next, H', vs', rfl, hs3.unwp hp, hn⟩
    | ret p => obtain ⟨v, rfl, hv⟩ := hr; exact ⟨.ret p, H', vs', ⟨v, rfl, hv⟩, hs3.unwp hp, hn⟩
  cases hx : items[k]? with
  | none =>
    rw [hx] at hr
    obtain ⟨rfl, hs1⟩ := hr
    have : items.drop k = [] := by rw [List.drop_eq_nil_iff]; exact List.getElem?_eq_none_iff.mp hx
    rw [this] at hfor
    exact wpAny_execs_nil ⟨.next, H, vs, rfl, hs1, hfor⟩
  | some x =>
    have hlt : k < items.length := (List.getElem?_eq_some_iff.mp hx).1
    have hdr : items.drop k = x :: items.drop (k + 1) := by
      rw [List.drop_eq_getElem_cons hlt]
      rw [(List.getElem?_eq_some_iff.mp hx).2]
    rw [hdr] at hfor
    rw [hx] at hr
    cases x with
    | val x =>
      obtain ⟨v, o1, rfl, hxv, hst1, hs1⟩ := hr
      refine wpAny_mono (stp.owned c H vs s1 (k + 1) o1 target v hst1 hs1) (fun _ s2 h2 => ?_) fun _ _ x => x.elim
      obtain ⟨o2, hst2, hs2⟩ := h2
      refine wpAny_mono (hfor [(it, o2)] v hxv s2 hs2) (fun _ s3 h3 => ?_) (exn o2)
      obtain ⟨_, H3, vs3, _, hs3, h3⟩ := h3
      refine wpAny_mono (h3 s3 hs3) (fun f s4 h4 => ?_) (exn o2)
      have := body_end o2 _ rfl hst2 hlt f s4 h4
      cases f <;> exact this
    | pair x y =>
      obtain ⟨t, o1, rfl, hst1, ht, hs1⟩ := hr
      refine wpAny_mono (stp.owned c _ vs s1 (k + 1) o1 target (.ref t) hst1 hs1) (fun _ s2 h2 => ?_) fun _ _ x => x.elim
      obtain ⟨o2, hst2, hs2⟩ := h2
      refine wpAny_mono (hfor [(it, o2)] t ht s2 hs2) (fun _ s3 h3 => ?_) (exn o2)
      obtain ⟨_, H3, vs3, _, hs3, h3⟩ := h3
      refine wpAny_mono (h3 s3 hs3) (fun f s4 h4 => ?_) (exn o2)
      have := body_end o2 _ rfl hst2 hlt f s4 h4
      cases f <;> exact this

theorem t_for (hc : c.Ok) (ho : c.own = true) {target iter : Expr} {body : List Stmt} (hd : c.hd = none) (hf : ∀ x, foldedSetIterable iter c.env x = pure x)
    (h : T G c PV.R (eval iter c.env) H vs (fun p H1 vs1 => IterP G c p H1 vs1 (fun Src items => Src H1 ∧ ForP G c Src target body QF E items H1 vs1)) E) :
    T G c PF.R (exec (.For target iter body [] pos) c.env) H vs QF E := fun s hs => by
  refine wpAny_For (wpAny_mono (h s hs) (fun v s1 ⟨p, H1, vs1, hp, hs1, h1⟩ => ?_) fun _ _ x => x) hf
  refine wpAny_mono (h1 v hp s1 hs1) (fun itv s2 h2 => ?_) fun _ _ x => x.elim
  obtain ⟨it, o, items, Src, St, rfl, stp, h0, hpl, hs2, hsrc, hfor⟩ := h2
  exact for_core hc ho hd stp hpl h0 hs2 hsrc hfor

theorem iter_list {l : Addr} {xs : List PV} {K : (PHeap → Prop) → List Itm → Prop} (e : H l = some (.list xs)) (h : K (fun H => H l = some (.list xs)) (xs.map .val)) : IterP G c (.ref l) H vs K := by
  rintro _ rfl s ⟨h₀, m, news, S0, V⟩
  obtain ⟨us, n, hmu, hr, hl⟩ := S0.list e
  refine wpAny_pyIter_list hl ?_
  obtain ⟨S1, hp⟩ := S0.take (o := { cls := .type "list_iterator", data := .fields #[.ref l, .int 0 0] }) rfl
  exact ⟨_, _, _, _, _, rfl, stp_list, ⟨rfl, rfl⟩, hp, ⟨h₀, m, _, S1, V⟩, h⟩

/-- the target of an assignment -/
theorem a_name (hc : c.Ok) {x : Str} {px : Pos} {p : PV} {v : Value} (hx : S.names.lookup x = some .local) (hr : PV.R p v) (h : QU () H (putV x p vs)) : T G c UR (assign (.Name x px) c.env v) H vs QU E := fun s hs =>
  wpAny_assign_Name (t_store hc hx hr h s hs)

theorem t_while (hc : c.Ok) (ho : c.own = true) {test : Expr} {body : List Stmt} (I : Nat → PHeap → Vars → Prop) (n : Nat) (h0 : I n H vs)
    (step : ∀ n H vs, I n H vs → T G c BR (isTrue test c.env (eval test c.env)) H vs (fun b H1 vs1 => (b = true → T G c PF.R (execs body c.env) H1 vs1 (ForN (fun H2 vs2 => ∃ m, m < n ∧ I m H2 vs2) QF) E) ∧ (b = false → QF .next H1 vs1)) E) :
    T G c PF.R (exec (.While test body [] pos) c.env) H vs QF E := fun s hs => by
  have exn : ∀ (e : Value) (s' : Shared), (∃ x H' vs', ExSat G c H' vs' x e s' ∧ E x H' vs') → notedBy (model G.prog G.w) c.A c.env (fun e s' => cameBackBy (model G.prog G.w) c.A c.env (fun e s' => ∃ x H' vs', ExSat G c H' vs' x e s' ∧ E x H' vs') e s') e s' := fun e s' ⟨x, H', vs', hx, hE⟩ => ex_loop hc ho hx hE
  refine wpAny_While (codeAny_whileLoop (fun n s => ∃ H vs, I n H vs ∧ Sat G c H vs s) (fun n s hI => ?_) n ⟨H, vs, h0, hs⟩)
  obtain ⟨H, vs, hI, hs⟩ := hI
  refine wpAny_mono (step n H vs hI s hs) (fun b s1 h1 => ?_) exn
  obtain ⟨b', H1, vs1, rfl, hs1, h1⟩ := h1
  cases b' with
  | true =>
    refine wpAny_mono (h1.1 rfl s1 hs1) (fun f s2 h2 => ?_) exn
    obtain ⟨r, H2, vs2, hr, hs2, h2⟩ := h2
    have again : (∃ H3, PHeap.Le H3 H2 ∧ ∃ m, m < n ∧ I m H3 vs2) → ∃ m, m < n ∧ ∃ H vs, I m H vs ∧ Sat G c H vs s2 := by
      rintro ⟨H3, le, m, hm, hi⟩
      exact ⟨m, hm, H3, vs2, hi, hs2.weaken le⟩
    cases r with
    | next => cases hr; exact again h2
    | cont => cases hr; exact again h2
    | brk => cases hr; exact ⟨.next, H2, vs2, rfl, hs2, h2⟩
    | ret p => obtain ⟨v, rfl, hv⟩ := hr; exact ⟨.ret p, H2, vs2, ⟨v, rfl, hv⟩, hs2, h2⟩
  | false => exact wpAny_execs_nil ⟨.next, H1, vs1, rfl, hs1, h1.2 rfl⟩
end
end Mine
namespace Mine

theorem RD.getSome {fs : Vars} {es : List DictEntry} (h : RD fs es) : ∀ {x p}, fs.lookup x = some p → ∃ v, getL x es = some (some v) ∧ PV.R p v := by
  induction h with
  | nil => intro x p e; cases e
  | @cons y q e ps es hk hr _ ih =>
    intro x p e2
    obtain ⟨t, hk⟩ := hk
    rw [List.lookup_cons] at e2
    have hs : e.key.isStr x = (y == x) := by rw [hk]; rfl
    unfold getL
    rw [List.find?_cons, hs]
    cases hq : x == y with
    | true =>
      rw [hq] at e2; cases e2
      have : (y == x) = true := by have := beq_iff_eq.mp hq; rw [this]; simp
      rw [this]
      exact ⟨e.val, rfl, hr⟩
    | false =>
      rw [hq] at e2
      have : (y == x) = false := by
        cases h : y == x with
        | false => rfl
        | true => rw [beq_iff_eq.mp h] at hq; simp at hq
      rw [this]
      obtain ⟨v, hv, hr'⟩ := ih e2
      refine ⟨v, ?_, hr'⟩
      unfold getL at hv
      dsimp only
      revert hv
      cases List.find? (fun e => e.key.isStr x) es with
      | some z => exact id
      | none =>
        dsimp only
        intro hv
        split at hv <;> cases hv
theorem RD.noRef {fs : Vars} {es : List DictEntry} (h : RD fs es) : es.any (·.refKey) = false := by
  induction h with
  | nil => rfl
  | @cons y q e ps es hk hr _ ih =>
    obtain ⟨t, hk⟩ := hk
    rw [List.any_cons, ih, Bool.or_false]
    unfold DictEntry.refKey
    rw [hk]
theorem RD.getNone {fs : Vars} {es : List DictEntry} (h : RD fs es) {x : Str} (e : fs.lookup x = none) : getL x es = some none := by
  have hf : es.find? (fun e => e.key.isStr x) = none := by
    induction h with
    | nil => rfl
    | @cons y q e' ps es hk hr _ ih =>
      obtain ⟨t, hk⟩ := hk
      rw [List.lookup_cons] at e
      have hs : e'.key.isStr x = (y == x) := by rw [hk]; rfl
      rw [List.find?_cons, hs]
      cases hq : x == y with
      | true => rw [hq] at e; cases e
      | false =>
        rw [hq] at e
        have : (y == x) = false := by
          cases h : y == x with
          | false => rfl
          | true => rw [beq_iff_eq.mp h] at hq; simp at hq
        rw [this]
        exact ih e
  unfold getL
  rw [hf]
  dsimp only
  rw [h.noRef]
  rfl
theorem RD.getIs {fs : Vars} {es : List DictEntry} (h : RD fs es) (x : Str) : (getL x es).isSome = true := by
  cases e : fs.lookup x with
  | none => rw [h.getNone e]; rfl
  | some p => obtain ⟨v, hv, _⟩ := h.getSome e; rw [hv]; rfl
theorem RD.put {fs : Vars} {es : List DictEntry} (h : RD fs es) {x : Str} {p : PV} {v : Value} {hsh : Int} {t : Tok} (hr : PV.R p v) : RD (putV x p fs) (putL x hsh (.str x t) v es) := by
  induction h with
  | nil => exact .cons ⟨t, rfl⟩ hr .nil
  | @cons y q e ps es hk hr' h2 ih =>
    obtain ⟨t', hk⟩ := hk
    have hs : e.key.isStr x = (y == x) := by rw [hk]; rfl
    unfold putV putL
    rw [hs]
    by_cases hy : y = x
    · subst hy
      rw [if_pos rfl, if_pos (by simp)]
      exact .cons ⟨t', hk⟩ hr h2
    · rw [if_neg hy, if_neg (by simpa using hy)]
      exact .cons ⟨t', hk⟩ hr' ih
theorem RD.len {fs : Vars} {es : List DictEntry} (h : RD fs es) : es.length = fs.length := by
  induction h with
  | nil => rfl
  | cons _ _ _ ih => simp [ih]

def PV.plain : PV → Bool
  | .bi _ => false
  | _ => true
theorem PV.plain_handed {p : PV} {v : Value} (h : p.plain = true) (hr : PV.R p v) : handedIn v = true := by
  cases p <;> first | cases h | skip
  all_goals first | (cases hr; rfl) | (obtain ⟨t, rfl⟩ := hr; rfl)

section
variable {G : Gl} {S : Scope} {c : Cx S} {H : PHeap} {vs : Vars} {E : PX → PHeap → Vars → Prop} {Q : PV → PHeap → Vars → Prop} {QF : PF → PHeap → Vars → Prop} {QU : Unit → PHeap → Vars → Prop} {s : Shared} {h₀ h' : Heap} {m : Str → Option Value} {news : List (Addr × Obj)} {pos : Pos} {p : PV}

def GetP (G : Gl) (c : Cx S) (o : PV) (name : Str) (H : PHeap) (vs : Vars) (Q : PV → PHeap → Vars → Prop) (E : PX → PHeap → Vars → Prop) : Prop :=
  ∀ vo, PV.R o vo → T G c PV.R (getAttr vo name true) H vs Q E
def SetP (G : Gl) (c : Cx S) (o : PV) (name : Str) (v : PV) (H : PHeap) (vs : Vars) (QU : Unit → PHeap → Vars → Prop) (E : PX → PHeap → Vars → Prop) : Prop :=
  ∀ vo vv, PV.R o vo → PV.R v vv → T G c UR (setAttr vo name vv) H vs QU E

theorem t_attr {v : Expr} {name : Str} (he : eval (.Attribute v name pos) c.env = (do
      let o ← eval v c.env
      standAt pos.atName
      let r ← holding [o] (getAttr o name true)
      letTemporaryGo v o r
      pure r)) (h : T G c PV.R (eval v c.env) H vs (fun o H1 vs1 => GetP G c o name H1 vs1 Q E) E) : T G c PV.R (eval (.Attribute v name pos) c.env) H vs Q E := fun s hs => by
  refine Attribute_any_ (wpAny_mono (h s hs) (fun vo s1 ⟨o, H1, vs1, ho, hs1, h1⟩ => ?_) fun _ _ x => x) he
  exact h1 vo ho s1 hs1

theorem Sat0.inst (S0 : Sat0 G c H m h₀ news s) {x C d : Addr} {fs : Vars} (e1 : H x = some (.inst C d)) (e2 : H d = some (.dict fs)) : ∃ es n, (d, dictOf es n) ∈ news ∧ RD fs es ∧ InstAt s.heap x (instObj C d) C (some (dictOf es n)) := by
  obtain ⟨mo, hm, rfl⟩ := S0.mem e1
  obtain ⟨mo2, hm2, es, n, rfl, hr⟩ := S0.mem e2
  exact ⟨es, n, hm2, hr, InstAt.of_news S0.N hm hm2⟩

/-- a name of a class, read by its instances -/
structure AttrOk (G : Gl) (C : Addr) (name : Str) : Prop where
  get : plainGet G.K C name = true
  dict : hasDictIn G.K C = true
  attr : ∃ a, findIn G.K (.ref C) name = some a ∧ noGet G.K a = true
structure SetOk (G : Gl) (C : Addr) (name : Str) : Prop where
  set : findIn G.K (.ref C) "__setattr__" = some (some (.builtin "object.__setattr__"))
  over : plainOver G.K C = true
  taker : takerIn G.K C name = some none
  dict : hasDictIn G.K C = true
structure MethOk (G : Gl) (C : Addr) (name : Str) (f : Addr) : Prop where
  get : plainGet G.K C name = true
  find : findIn G.K (.ref C) name = some (some (.ref f))
  isf : isFn G.K (.ref f) = true

theorem g_inst (hG : G.Ok) {x C d : Addr} {fs : Vars} {name : Str} (ha : AttrOk G C name) (e1 : H x = some (.inst C d)) (e2 : H d = some (.dict fs)) (hl : fs.lookup name = some p) (hp : p.plain = true) (h : Q p H vs) : GetP G c (.ref x) name H vs Q E := by
  rintro _ rfl s ⟨h₀, m, news, S0, V⟩
  obtain ⟨es, n, hm, hr, I⟩ := S0.inst e1 e2
  obtain ⟨v, hv, hpv⟩ := hr.getSome hl
  obtain ⟨a, ha1, ha2⟩ := ha.attr
  exact get_own S0.F (S0.X hG) I ha.get ha.dict ha1 ha2 hv (hp.symm ▸ PV.plain_handed hp hpv) ⟨p, H, vs, hpv, Sat.tok ⟨h₀, m, news, S0, V⟩, h⟩
theorem m_inst (hG : G.Ok) {x C d f : Addr} {fs : Vars} {name : Str} {QM : PV → List PV → PHeap → Vars → Prop} (ha : MethOk G C name f) (e1 : H x = some (.inst C d)) (e2 : H d = some (.dict fs)) (hl : fs.lookup name = none)
    (h : QM (.ref f) [.ref x] H vs) : MthP G c (.ref x) name H vs QM E := by
  rintro _ pl rfl s ⟨h₀, m, news, S0, V⟩
  obtain ⟨es, n, hm, hr, I⟩ := S0.inst e1 e2
  exact method_inst S0.F (S0.X hG) I ha.get ha.find ha.isf (hr.getNone hl) ⟨.ref f, [.ref x], H, vs, rfl, .cons rfl .nil, ⟨h₀, m, news, S0, V⟩, h⟩
theorem s_inst (hG : G.Ok) {x C d : Addr} {fs : Vars} {name : Str} (ha : SetOk G C name) (e1 : H x = some (.inst C d)) (e2 : H d = some (.dict fs)) (hz : fs.length < 1000) (h : QU () (H.set d (.dict (putV name p fs))) vs) : SetP G c (.ref x) name p H vs QU E := by
  rintro _ vv rfl hv s ⟨h₀, m, news, S0, V⟩
  obtain ⟨es, n, hm, hr, I⟩ := S0.inst e1 e2
  have hp : RD (putV name p fs) (putL name (PyData.keyHash G.w.params name) (.str name (s.toks + 1)) vv es) := hr.put hv
  obtain ⟨news', U, q1, q2⟩ := upd_mem (mo' := dictOf (putL name (PyData.keyHash G.w.params name) (.str name (s.toks + 1)) vv es) (putN name es n)) hm S0.hr.nodup
  have hlen : ∀ (l : Vars), (putV name p l).length ≤ l.length + 1 := by
    intro l
    induction l with
    | nil => simp [putV]
    | cons a r ih => unfold putV; split <;> simp <;> omega
  refine PySem.W.set_dict S0.F (S0.X hG) S0.N I rfl ha.set ha.over ha.taker ha.dict (hr.getIs name) rfl U (by rw [hp.len]; have := hlen fs; omega) fun h' F' N' => ?_
  exact ⟨(), _, vs, trivial, ⟨h₀, m, news', S0.upd (po' := .dict (putV name p fs)) e2 q1 q2 ⟨_, _, rfl, hp⟩ F' N', V⟩, h⟩

theorem t_setattr {e o : Expr} {name : Str} {pos' : Pos} (hs' : swapsWith e (some (.Attribute o name pos')) pos.line c.env = pure false)
    (h : T G c PV.R (eval e c.env) H vs (fun p H1 vs1 => T G c PV.R (eval o c.env) H1 vs1 (fun q H2 vs2 => SetP G c q name p H2 vs2 (fun _ H3 vs3 => QF .next H3 vs3) E) E) E) :
    T G c PF.R (exec (.Assign [.Attribute o name pos'] e pos) c.env) H vs QF E := fun s hs => by
  refine plainObj_wpAny_Assign_Attribute (wpAny_mono (h s hs) (fun v s1 ⟨p, H1, vs1, hp, hs1, h1⟩ => ?_) fun _ _ x => x) hs'
  refine wpAny_mono (h1 s1 hs1) (fun ov s2 ⟨q, H2, vs2, hq, hs2, h2⟩ => ?_) fun _ _ x => x
  exact wpAny_mono (h2 ov v hq hp s2 hs2) (fun _ s3 ⟨_, H3, vs3, _, hs3, h3⟩ => ⟨.next, H3, vs3, rfl, hs3, h3⟩) fun _ _ x => x
theorem t_setsub {e o i : Expr} {pos' : Pos} (hs' : swapsWith e (some (.Subscript o i pos')) pos.line c.env = pure false)
    (h : T G c PV.R (eval e c.env) H vs (fun p H1 vs1 => T G c PV.R (eval o c.env) H1 vs1 (fun q H2 vs2 => T G c PV.R (eval i c.env) H2 vs2 (fun k H3 vs3 => StoP G c q k p H3 vs3 (fun _ H4 vs4 => QF .next H4 vs4) E) E) E) E) :
    T G c PF.R (exec (.Assign [.Subscript o i pos'] e pos) c.env) H vs QF E := fun s hs => by
  refine wpAny_Assign_Subscript (wpAny_mono (h s hs) (fun v s1 ⟨p, H1, vs1, hp, hs1, h1⟩ => ?_) fun _ _ x => x) hs'
  refine wpAny_mono (h1 s1 hs1) (fun ov s2 ⟨q, H2, vs2, hq, hs2, h2⟩ => ?_) fun _ _ x => x
  refine wpAny_mono (h2 s2 hs2) (fun iv s3 ⟨k, H3, vs3, hk, hs3, h3⟩ => ?_) fun _ _ x => x
  exact wpAny_mono (h3 ov iv v hq hk hp s3 hs3) (fun _ s4 ⟨_, H4, vs4, _, hs4, h4⟩ => ⟨.next, H4, vs4, rfl, hs4, h4⟩) fun _ _ x => x
theorem t_augsub {o i e : Expr} {op : Operator} {pos' : Pos} (ha : ∀ ov iv new, augStore i ov iv new = (do holding [new, ov, iv] (setItem ov iv new); release [new, ov, iv] []; pure .next))
    (h : T G c PV.R (eval o c.env) H vs (fun q H1 vs1 => T G c PV.R (eval i c.env) H1 vs1 (fun k H2 vs2 => ItmP G c q k H2 vs2 (fun old H3 vs3 => T G c PV.R (eval e c.env) H3 vs3 (fun p H4 vs4 => InpP G c op old p H4 vs4 (fun new H5 vs5 => StoP G c q k new H5 vs5 (fun _ H6 vs6 => QF .next H6 vs6) E) E) E) E) E) E) :
    T G c PF.R (exec (.AugAssign (.Subscript o i pos') op e pos) c.env) H vs QF E := fun s hs => by
  refine wpAny_AugAssign_Subscript_any (wpAny_mono (h s hs) (fun ov s1 ⟨q, H1, vs1, hq, hs1, h1⟩ => ?_) fun _ _ x => x) ha
  refine wpAny_mono (h1 s1 hs1) (fun iv s2 ⟨k, H2, vs2, hk, hs2, h2⟩ => ?_) fun _ _ x => x
  refine wpAny_mono (h2 ov iv hq hk s2 hs2) (fun old s3 ⟨ol, H3, vs3, hol, hs3, h3⟩ => ?_) fun _ _ x => x
  refine wpAny_mono (h3 s3 hs3) (fun v s4 ⟨p, H4, vs4, hp, hs4, h4⟩ => ?_) fun _ _ x => x
  refine wpAny_mono (h4 old v hol hp s4 hs4) (fun nv s5 ⟨nw, H5, vs5, hnw, hs5, h5⟩ => ?_) fun _ _ x => x
  exact wpAny_mono (h5 ov iv nv hq hk hnw s5 hs5) (fun _ s4 ⟨_, H4, vs4, _, hs4, h4⟩ => ⟨.next, H4, vs4, rfl, hs4, h4⟩) fun _ _ x => x
theorem seq_next {rest : List Stmt} (h : T G c PF.R (execs rest c.env) H vs QF E) : Seq G c rest QF E .next H vs := h
theorem seq_ret {rest : List Stmt} (h : QF (.ret p) H vs) : Seq G c rest QF E (.ret p) H vs := h
theorem seq_brk {rest : List Stmt} (h : QF .brk H vs) : Seq G c rest QF E .brk H vs := h
theorem seq_cont {rest : List Stmt} (h : QF .cont H vs) : Seq G c rest QF E .cont H vs := h
theorem forn_brk {K : PHeap → Vars → Prop} (h : QF .next H vs) : ForN K QF .brk H vs := h
theorem forn_ret {K : PHeap → Vars → Prop} (h : QF (.ret p) H vs) : ForN K QF (.ret p) H vs := h
theorem ret_same (h : Q p H vs) {vs1 : Vars} : RetQ Q vs (.ret p) H vs1 := ⟨H, PHeap.Le.refl _, h⟩
theorem t_usub {e : Expr} (h : T G c PV.R (eval e c.env) H vs (fun p H1 vs1 => ∃ i, p = .int i ∧ Q (.int (-i)) H1 vs1) E) : T G c PV.R (eval (.UnaryOp .USub e pos) c.env) H vs Q E := fun s hs => by
  refine wpAny_UnaryOp (wpAny_mono (h s hs) (fun v s1 ⟨p, H1, vs1, hp, hs1, h1⟩ => ?_) fun _ _ x => x)
  obtain ⟨i, rfl, h1⟩ := h1
  obtain ⟨t, rfl⟩ := hp
  exact PySem.P.neg_int ⟨.int (-i), H1, vs1, ⟨_, rfl⟩, hs1.tok, h1⟩
end
end Mine
namespace Mine

theorem lookup_mem {β : Type} : ∀ {l : List (Str × β)} {x : Str} {p : β}, l.lookup x = some p → (x, p) ∈ l
  | (y, q) :: r, x, p, e => by
    rw [List.lookup_cons] at e
    cases h : x == y with
    | true =>
      rw [h] at e; cases e
      have : x = y := by simpa using h
      rw [this]; exact .head _
    | false => rw [h] at e; exact .tail _ (lookup_mem e)

theorem bindC_is (k : Str → Option NameKind) : ∀ {l : List (Str × Value)} {m : Str → Option Value} {x : Str}, (l.map (·.1)).Nodup → k x ≠ some .local → bindC k l m x = (l.lookup x).or (m x)
  | [], m, x, _, _ => by simp [bindC, List.lookup]
  | (n, v) :: r, m, x, hn, hk => by
    rw [List.map_cons, List.nodup_cons] at hn
    unfold bindC
    rw [bindC_is k hn.2 hk, List.lookup_cons]
    cases h : x == n with
    | true =>
      have : x = n := by simpa using h
      subst this
      rw [lookup_none' hn.1, if_neg hk]
      simp
    | false =>
      have : x ≠ n := by intro e; rw [e] at h; simp at h
      congr 1
      split
      · rfl
      · simp [this]
theorem bindL_is (k : Str → Option NameKind) : ∀ {l : List (Str × Value)} {m : Str → Option Value} {x : Str}, (l.map (·.1)).Nodup → k x = some .local → bindL k l m x = (l.lookup x).or (m x)
  | [], m, x, _, _ => by simp [bindL, List.lookup]
  | (n, v) :: r, m, x, hn, hk => by
    rw [List.map_cons, List.nodup_cons] at hn
    unfold bindL
    rw [bindL_is k hn.2 hk, List.lookup_cons]
    cases h : x == n with
    | true =>
      have : x = n := by simpa using h
      subst this
      rw [lookup_none' hn.1, if_pos hk]
      simp
    | false =>
      have : x ≠ n := by intro e; rw [e] at h; simp at h
      congr 1
      split
      · simp [this]
      · rfl

theorem cells_apart : ∀ (names : List (Str × NameKind)) (n : Nat) (acc : List (Str × Addr)), (∀ q ∈ acc, q.2 < n) → (acc.map (·.2)).Nodup → ((cellsFrom n names acc).map (·.2)).Nodup
  | [], _, _, _, h => h
  | (x, k) :: r, n, acc, h1, h2 => by
    unfold cellsFrom
    split
    · refine cells_apart r (n + 1) _ (fun q hq => ?_) ?_
      · rcases List.mem_cons.mp hq with rfl | hq
        · exact Nat.lt_succ_self _
        · exact Nat.lt_succ_of_lt (h1 q hq)
      · rw [List.map_cons, List.nodup_cons]
        refine ⟨fun hm => ?_, h2⟩
        obtain ⟨q, hq, e⟩ := List.mem_map.mp hm
        have := h1 q hq
        rw [e] at this
        exact Nat.lt_irrefl _ this
    · exact cells_apart r n acc h1 h2

/-- the cells of a def, laid -/
def setCells (bs : Vars) : List (Str × Addr) → PHeap → PHeap
  | [], H => H
  | (n, ca) :: r, H => (setCells bs r H).set ca (.cell (bs.lookup n))

theorem setCells_le {bs : Vars} {H : PHeap} : ∀ {cl : List (Str × Addr)}, (∀ q ∈ cl, H q.2 = none) → H.Le (setCells bs cl H)
  | [], _ => PHeap.Le.refl _
  | (n, ca) :: r, h => PHeap.Le.set (setCells_le fun q hq => h q (.tail _ hq)) (h _ (.head _))
theorem setCells_off {bs : Vars} {H : PHeap} {a : Addr} : ∀ {cl : List (Str × Addr)}, a ∉ cl.map (·.2) → setCells bs cl H a = H a
  | [], _ => rfl
  | (n, ca) :: r, h => by
    rw [List.map_cons, List.mem_cons, not_or] at h
    unfold setCells
    rw [PHeap.set_ne h.1]
    exact setCells_off h.2

theorem cells_hr {bs : Vars} {cm : Str → Option Value} {H : PHeap} {P : List (Addr × Obj)} {news : List (Addr × Obj)} (h : HR (ext P H) news) :
    ∀ {cs : List (Str × Addr)} {cells : List (Addr × Obj)}, CellsAre cm cs cells → (∀ q ∈ cs, ∀ p, bs.lookup q.1 = some p → ∃ v, cm q.1 = some v ∧ PV.R p v) → (cs.map (·.2)).Nodup → (∀ q ∈ cs, P.lookup q.2 = none ∧ q.2 ∉ news.map (·.1)) →
      HR (ext P (setCells bs cs H)) (cells ++ news) ∧ cells.map (·.1) = cs.map (·.2)
  | _, _, .nil, _, _, _ => ⟨h, rfl⟩
  | _, _, .cons (n := n) (c := ca) (o := o) (cs := cs) (cells := cells) hd hr, hv, hn, hf => by
    rw [List.map_cons, List.nodup_cons] at hn
    obtain ⟨h1, h2⟩ := cells_hr h hr (fun q hq => hv q (.tail _ hq)) hn.2 (fun q hq => hf q (.tail _ hq))
    have hfa := hf _ (.head _)
    refine ⟨?_, by simp [h2]⟩
    show HR (ext P ((setCells bs cs H).set ca (.cell (bs.lookup n)))) ((ca, o) :: (cells ++ news))
    rw [ext_set hfa.1]
    refine h1.cons ?_ ⟨cm n, hd, ?_⟩
    · rw [List.map_append, List.mem_append, not_or, h2]
      exact ⟨hn.1, hfa.2⟩
    · cases e : bs.lookup n with
      | none => exact trivial
      | some p =>
        obtain ⟨v, e2, hr2⟩ := hv _ (.head _) p e
        rw [e2]
        exact hr2

section
variable {G : Gl} {S : Scope} {c : Cx S} {H : PHeap} {vs : Vars} {E : PX → PHeap → Vars → Prop} {Q : PV → PHeap → Vars → Prop} {s : Shared} {h₀ : Heap} {m : Str → Option Value} {news : List (Addr × Obj)}

theorem k_defc (hG : G.Ok) (hc : c.Ok) {f : Addr} {as : List PV} {kn : List Str} {ks : List PV} {oc : Value} {od : Option Addr} {osl : Array (Option Value)} {name qual : Str} {params : Arguments} {body : List Stmt} {scope : Scope} {dV kV doc pm cdv ct : Value} {an : Option Addr} {bs bl : Vars}
    (ho : G.K.lookup f = some ⟨oc, od, .func (fnX name qual params body scope [] dV kV doc pm an cdv ct), osl⟩) (hcd : codeIn G.K cdv qual = true) (hroom : c.dp < 900)
    (hbind : ∀ us ws, RL as us → RL ks ws → ∀ s : Shared, G.K.In s.heap → ∃ binds, BindsTo s (fnX name qual params body scope [] dV kV doc pm an cdv ct) ⟨us, kn.zip ws⟩ binds ∧ BindR bs binds)
    {ns cn : List Str} (hns : bs.map (·.1) = ns) (hloc : ∀ y ∈ ns, scope.names.lookup y = some .local ∨ (scope.names.lookup y = some .cell ∧ ((cellsFrom 0 scope.names []).lookup y).isSome = true)) (hnd : ns.Nodup)
    (hcn : (cellsFrom 0 scope.names []).map (·.1) = cn) (hcnd : cn.Nodup) (hcl : ∀ y ∈ cn, scope.names.lookup y = some .cell) (hbl : ∀ y ∈ bl, bs.lookup y.1 = some y.2 ∧ scope.names.lookup y.1 = some .local)
    (hco : scope.isCoroutine = false) (hgen : scope.isGenerator = false) (hk : scope.kind = .function)
    (h : ∀ (c' : Cx scope) (cl : List (Str × Addr)), c'.Ok → c'.dp = c.dp + 1 → c'.un = c.un + 3 → c'.hd = c.hd → c'.own = true → c'.cl = cl → cl.map (·.1) = cn → (cl.map (·.2)).Nodup → (∀ q ∈ cl, H q.2 = none) →
      T G c' PF.R (execs body c'.env) (setCells bs cl H) bl (RetQ Q vs) (fun x H1 _ => E x H1 vs)) :
    CodeP G c (.ref f) as kn ks H vs Q E := by
  subst hns
  rintro _ us ws rfl has hks s hs
  obtain ⟨h₀, m, news, S0, V⟩ := id hs
  have X := S0.X hG
  have T' := S0.T hG
  obtain ⟨binds, hb, hbr⟩ := hbind us ws has hks s (X.keeps S0.F.keep)
  have hbn : (binds.map (·.1)).Nodup := hbr.1 ▸ hnd
  have hcf : ∀ n, (cellsFrom n scope.names []).map (·.1) = cn := fun n => by rw [← hcn]; exact (cellsFrom_names scope.names n 0 [] [] rfl)
  have hlk : ∀ n y, ((cellsFrom 0 scope.names []).lookup y).isSome = true → ((cellsFrom n scope.names []).lookup y).isSome = true := fun n y e => by
    have e1 : y ∈ cn := by
      obtain ⟨a, ha⟩ := Option.isSome_iff_exists.mp e
      rw [← hcn]; exact List.mem_map_of_mem (f := (·.1)) (lookup_mem ha)
    rw [← hcf n] at e1
    cases q : (cellsFrom n scope.names []).lookup y with
    | some _ => rfl
    | none =>
      exfalso
      obtain ⟨z, hz, ez⟩ := List.mem_map.mp e1
      have : ∀ (l : List (Str × Addr)), z ∈ l → l.lookup y ≠ none := by
        intro l
        induction l with
        | nil => intro h; cases h
        | cons a r ih =>
          intro hm
          rw [List.lookup_cons]
          cases hq : y == a.1 with
          | true => exact fun h => by cases h
          | false =>
            rcases List.mem_cons.mp hm with rfl | hm
            · rw [ez] at hq; simp at hq
            · exact ih hm
      exact this _ hz q
  refine (codeAny_call_function (Nat.lt_of_lt_of_le hroom (by decide)) ((X.keeps S0.F.keep) _ _ ho) rfl hco hgen rfl (codeRec_of (X.keeps S0.F.keep) hcd) (hb _ _ _ _ ?_))
  refine wpAny_newFunctionEnv_cells hk (fun x hx => (hloc x.1 (by rw [hbr.1]; exact List.mem_map_of_mem (f := (·.1)) hx)).imp id fun e => ⟨e.1, hlk _ _ e.2⟩) fun env' he s' x => ?_
  subst he
  refine ⟨(T'.nolimit.keeps S0.F.keep).keeps x.toInCall.keep, codeAny_func ?_⟩
  obtain ⟨h₁, tk, rfl, _⟩ := x.done
  have hk₁ := x.toInCall.keep
  have hnd' : ((cellsFrom (s.heap.objs.size + 1) scope.names []).map (·.1)).Nodup := by rw [hcf]; exact hcnd
  obtain ⟨cells, NC, Y⟩ := Cl.news (h₀ := s.heap) (Nat.le_refl _) fun n c hm => ⟨x.cell n c (lookup_of_mem_nodup hnd' hm), x.above n c hm⟩
  obtain ⟨FG, BG⟩ := ground hc S0
  have hbig : ∀ q ∈ cellsFrom (s.heap.objs.size + 1) scope.names [], s.heap.objs.size < q.2 := fun q hq => x.above q.1 q.2 hq
  have hoff : ∀ q ∈ cellsFrom (s.heap.objs.size + 1) scope.names [], q.2 ∉ news.map (·.1) := fun q hq hm => by
    obtain ⟨z, hz, e⟩ := List.mem_map.mp hm
    have h1 := Heap.lt_size (S0.N z hz).1
    have h2 := hbig q hq
    have h3 : z.1 = q.2 := e
    rw [← h3] at h2
    exact Nat.lt_irrefl _ (Nat.lt_trans h1 h2)
  have hall : ∀ q ∈ cellsFrom (s.heap.objs.size + 1) scope.names [], c.P.lookup q.2 = none ∧ H q.2 = none := fun q hq => S0.off (hoff q hq)
  have hap := cells_apart scope.names (s.heap.objs.size + 1) [] (fun _ h => nomatch h) List.nodup_nil
  obtain ⟨HC, hkeys⟩ := cells_hr (bs := bs) S0.hr Y (fun q hq p e => by
    obtain ⟨v, hv, hr⟩ := hbr.look e
    have hcell : scope.names.lookup q.1 = some .cell := hcl q.1 (by rw [← hcf (s.heap.objs.size + 1)]; exact List.mem_map_of_mem (f := (·.1)) hq)
    refine ⟨v, ?_, hr⟩
    rw [bindC_is _ hbn (by show scope.names.lookup q.1 ≠ _; rw [hcell]; intro h; cases h), hv]
    rfl) hap (fun q hq => ⟨(hall q hq).1, hoff q hq⟩)
  have FL : Fr (hideAll s.heap (news.map (·.1))) s.heap.objs.size h₁ _ := ⟨x.toInCall.ns, fun b o e => hk₁ b o (of_hideAll _ e), Nat.le_of_eq (hideAll_size _ _)⟩
  have NL : News (hideAll s.heap (news.map (·.1))) s.heap.objs.size h₁ (cells ++ news) := fun p hp => by
    rcases List.mem_append.mp hp with hp | hp
    · refine ⟨(NC p hp).1, (NC p hp).2.1, ?_⟩
      cases q : (hideAll s.heap (news.map (·.1))).get? p.1 with
      | none => rfl
      | some o => have := of_hideAll _ q; rw [(NC p hp).2.2] at this; cases this
    · exact ⟨hk₁ _ _ (S0.N p hp).1, Nat.ne_of_lt (Heap.lt_size (S0.N p hp).1), hideAll_none _ (List.mem_map_of_mem hp)⟩
  have key := h (Cx.sub c m scope s.heap.objs.size f qual cdv (cellsFrom (s.heap.objs.size + 1) scope.names [])) _ (Cx.sub_ok hk) rfl rfl rfl rfl rfl (hcf _) hap (fun q hq => (hall q hq).2) { s with heap := h₁, toks := tk }
    ⟨_, _, cells ++ news, ⟨FL, NL, BG, back_sub hc S0 FG rfl rfl (Heap.lt_size S0.F.ns.choose_spec.choose_spec.choose_spec.1), HC, fun b hb => (by
        have hz := S0.dj b hb
        rw [setCells_off]
        · exact hz
        · intro hm
          obtain ⟨q, hq, e⟩ := List.mem_map.mp hm
          have := (hall q hq).1
          have e' : q.2 = b := e
          rw [e'] at this
          have hb' : (c.P.lookup b).isSome = true := hb
          rw [this] at hb'
          cases hb'), S0.g, S0.d, S0.o⟩, fun y p e => by
      obtain ⟨e1, e2⟩ := hbl _ (lookup_mem e)
      obtain ⟨v, hv, hr⟩ := hbr.look e1
      exact ⟨v, by rw [bindL_is _ hbn e2, hv]; rfl, hr⟩⟩
  refine wpAny_mono key (fun fl s' hq => ?_) (fun e s' hx => ?_)
  · obtain ⟨r, H1, vs1, hr, hs1, hq⟩ := hq
    obtain ⟨p, H2, hp, le, hq2⟩ := ret_q hr hq
    exact ⟨p, H2, vs, hp, (ret_sat (c := c) (c' := Cx.sub c m scope s.heap.objs.size f qual cdv (cellsFrom (s.heap.objs.size + 1) scope.names [])) S0 V rfl rfl rfl hs1).weaken le, hq2⟩
  · obtain ⟨x, H', vs', hx, hE⟩ := hx
    exact leave_ex S0 V hk hx hE
end
end Mine
namespace Mine

section
variable {G : Gl} {S : Scope} {c : Cx S} {H : PHeap} {vs : Vars} {E : PX → PHeap → Vars → Prop} {Q : PV → PHeap → Vars → Prop} {QF : PF → PHeap → Vars → Prop} {QU : Unit → PHeap → Vars → Prop} {QB : Bool → PHeap → Vars → Prop} {s : Shared} {h₀ h' : Heap} {m : Str → Option Value} {news : List (Addr × Obj)} {x : Str} {p : PV} {pos : Pos}

theorem t_storec (hc : c.Ok) {v : Value} {ca : Addr} {w : Option PV} (hx : S.names.lookup x = some .cell) (hl : c.cl.lookup x = some ca) (hv : H ca = some (.cell w)) (hr : PV.R p v) (h : QU () (H.set ca (.cell (some p))) vs) : T G c UR (storeName c.env x v) H vs QU E := fun s hs => by
  obtain ⟨h₀, m, news, S0, V⟩ := hs
  obtain ⟨mo, hm, v', hd, _⟩ := S0.mem hv
  refine wpAny_storeName_cell hc.hk hx hl ⟨mo, S0.N.get hm, hd⟩ fun h' hi hsb => ?_
  obtain ⟨o', ho', hd'⟩ := hi
  obtain ⟨news', U, e1, e2⟩ := upd_mem (mo' := o') hm S0.hr.nodup
  obtain ⟨pre, post, rfl, rfl, a, b⟩ := U.split
  have z := S0.N _ hm
  exact ⟨(), _, vs, trivial, ⟨h₀, m, _, S0.upd (po' := .cell (some p)) (k := s.toks) hv e1 e2 ⟨some v, hd', hr⟩ (S0.F.change hsb z.2.1 z.2.2) (news_set S0.N a b hsb ho'), V⟩, h⟩
theorem t_assignc (hc : c.Ok) {e : Expr} {pos' : Pos} {ca : Addr} (hs' : swapsWith e (some (.Name x pos')) pos.line c.env = pure false) (hx : S.names.lookup x = some .cell) (hl : c.cl.lookup x = some ca)
    (h : T G c PV.R (eval e c.env) H vs (fun p H1 vs1 => ∃ w, H1 ca = some (.cell w) ∧ QF .next (H1.set ca (.cell (some p))) vs1) E) : T G c PF.R (exec (.Assign [.Name x pos'] e pos) c.env) H vs QF E := fun s hs => by
  refine wpAny_Assign_Name (wpAny_mono (h s hs) (fun v s1 ⟨p, H1, vs1, hr, hs1, w, hw, h1⟩ => ?_) fun _ _ x => x) hs'
  exact wpAny_mono (t_storec (E := E) (QU := fun _ H2 vs2 => QF .next H2 vs2) hc hx hl hw hr h1 s1 hs1) (fun _ s2 ⟨_, H2, vs2, _, hs2, h2⟩ => ⟨.next, H2, vs2, rfl, hs2, h2⟩) fun _ _ x => x

/-! comprehensions -/
theorem compLoop_any {prog : Program} {w : World} {A : Around} {R : Result → Shared → Prop} {elt target iter : Expr} {ifs : List Expr} {scope : Scope} {it acc : Value} {env : Env} (I : Nat → Shared → Prop)
    (turn : ∀ n s, I n s → wpAny (model prog w) A (pyNext it) (fun r s₁ => match r with
      | none => R (.ok .next) s₁
      | some v => wpAny (model prog w) A (letOwnedTupleGo target it v) (fun _ s₁' => wpAny (model prog w) A (assign target env v) (fun _ s₂ =>
          wpAny (model prog w) A (forIn ifs true fun c r => if r = true then do let ok ← isTrue c env (eval c env); pure (ForInStep.yield ok) else pure (ForInStep.yield r)) (fun ok s₃ =>
            if ok = true then wpAny (model prog w) A (eval elt env) (fun x s₄ =>
              wpAny (model prog w) A (call (.builtin "list.append") [acc, x]) (fun _ s₅ => ∃ m, m < n ∧ I m s₅) (notedBy (model prog w) A env fun e s' => R (.error e) s') s₄) (notedBy (model prog w) A env fun e s' => R (.error e) s') s₃
            else ∃ m, m < n ∧ I m s₃) (notedBy (model prog w) A env fun e s' => R (.error e) s') s₂) (notedBy (model prog w) A env fun e s' => R (.error e) s') s₁') (notedBy (model prog w) A env fun e s' => R (.error e) s') s₁) (notedBy (model prog w) A env fun e s' => R (.error e) s') s)
    (n : Nat) (h : I n s) : codeAny (model prog w) A (.compLoop (.ListComp elt [⟨target, iter, ifs, 0⟩] scope pos) 0 it acc env) R s := by
  refine codeAny_loop rfl I (fun n s hI => ?_) n h
  show wpAny _ A ((compTurn (.ListComp elt [⟨target, iter, ifs, 0⟩] scope pos) 0 it acc env).onRaise (fun x => do noteFrame x env; theTreesLotGoes x)) _ _ s
  refine wpAny_noted ?_
  rw [compTurn_list]
  refine wpAny_bind (wpAny_standAt (wpAny_bind (wpAny_mono (turn n s hI) (fun r s₁ h₁ => ?_) fun _ _ h' => h')))
  cases r with
  | none => exact wpAny_pure h₁
  | some v =>
    refine wpAny_bind (wpAny_mono h₁ (fun _ s₁' h₁' => ?_) fun _ _ h' => h')
    refine wpAny_bind (wpAny_mono h₁' (fun _ s₂ h₂ => wpAny_bind (wpAny_mono h₂ (fun ok s₃ h₃ => ?_) fun _ _ h' => h')) fun _ _ h' => h')
    cases ok with
    | false => exact wpAny_pure ⟨rfl, h₃⟩
    | true =>
      exact wpAny_bind (wpAny_bind (wpAny_mono h₃ (fun x s₄ h₄ => wpAny_bind (wpAny_mono h₄ (fun _ s₅ h₅ => wpAny_pure (wpAny_pure ⟨rfl, h₅⟩)) fun _ _ h' => h')) fun _ _ h' => h'))

def Cx.comp (c : Cx S) (m : Str → Option Value) (S' : Scope) (C : Addr) (cl : List (Str × Addr)) : Cx S' :=
  { A₀ := c.A, outer := c.frames, L := C, qu := c.qu, fn := none, ccd := c.ccd, cl := cl, Lf := c.Lf, own := false, hd := c.hd, dp := c.dp, un := c.un, gd := c.gd, P := c.P, bl := (c.L, m) :: c.bl }
theorem Cx.comp_ok {S' : Scope} {C : Addr} {cl : List (Str × Addr)} (hk : S'.kind = .function) : (Cx.comp c m S' C cl).Ok :=
  ⟨hk, fun e => (by cases e)⟩

theorem Sat0.relist {P' : List (Addr × Obj)} (S0 : Sat0 G c H m h₀ news s) (e : ∀ a, c.P.lookup a = P'.lookup a) : Sat0 G ({ c with P := P' } : Cx S) H m h₀ news s := by
  have he : ext c.P H = ext P' H := by funext a; unfold ext; rw [e]
  exact ⟨S0.F, S0.N, S0.B, S0.bk, he ▸ S0.hr, fun a ha => S0.dj a (by rw [e]; exact ha), S0.g, S0.d, S0.o⟩
theorem Sat.swap {a b : Addr × Obj} (hs : Sat G ((c.wp [a]).wp [b]) H vs s) (hne : a.1 ≠ b.1) : Sat G ((c.wp [b]).wp [a]) H vs s := by
  obtain ⟨h₀, m, news, S0, V⟩ := hs
  refine ⟨h₀, m, news, S0.relist (P' := a :: b :: c.P) (fun x => ?_), V⟩
  show List.lookup x (b :: a :: c.P) = List.lookup x (a :: b :: c.P)
  rw [List.lookup_cons, List.lookup_cons, List.lookup_cons, List.lookup_cons]
  by_cases h1 : x = a.1
  · subst h1; simp [beq_false_of_ne hne]
  · rw [beq_false_of_ne h1]

/-- the tests of a comprehension -/
def TestP (G : Gl) {S' : Scope} (c : Cx S') (H : PHeap) (vs : Vars) (QB : Bool → PHeap → Vars → Prop) (E : PX → PHeap → Vars → Prop) : List Expr → Prop
  | [] => QB true H vs
  | e :: _ => T G c BR (isTrue e c.env (eval e c.env)) H vs QB E

def noX : PX → PHeap → Vars → Prop := fun _ _ _ => False

def CompP (G : Gl) {S' : Scope} (c : Cx S') (Src : PHeap → Prop) (target : Expr) (ifs : List Expr) (elt : Expr) (K : List PV → PHeap → Prop) : List Itm → List PV → PHeap → Vars → Prop
  | [], acc, H, _ => K acc H
  | .val x :: r, acc, H, vs => ∀ P v, PV.R x v → T G (c.wp P) UR (assign target (c.wp P).env v) H vs (fun _ H1 vs1 => TestP G (c.wp P) H1 vs1 (fun b H2 vs2 =>
      (b = true → T G (c.wp P) PV.R (eval elt (c.wp P).env) H2 vs2 (fun p H3 vs3 => ∃ H4, PHeap.Le H4 H3 ∧ Src H4 ∧ CompP G c Src target ifs elt K r (acc ++ [p]) H4 vs3) noX) ∧
      (b = false → ∃ H4, PHeap.Le H4 H2 ∧ Src H4 ∧ CompP G c Src target ifs elt K r acc H4 vs2)) noX ifs) noX
  | .pair x y :: r, acc, H, vs => ∀ P t, H t = none → T G (c.wp P) UR (assign target (c.wp P).env (.ref t)) (H.set t (.tup [x, y])) vs (fun _ H1 vs1 => TestP G (c.wp P) H1 vs1 (fun b H2 vs2 =>
      (b = true → T G (c.wp P) PV.R (eval elt (c.wp P).env) H2 vs2 (fun p H3 vs3 => ∃ H4, PHeap.Le H4 H3 ∧ Src H4 ∧ CompP G c Src target ifs elt K r (acc ++ [p]) H4 vs3) noX) ∧
      (b = false → ∃ H4, PHeap.Le H4 H2 ∧ Src H4 ∧ CompP G c Src target ifs elt K r acc H4 vs2)) noX ifs) noX

theorem comp_loop {it D : Addr} {elt target iter : Expr} {ifs : List Expr} {scope : Scope} {items : List Itm} {Src : PHeap → Prop} {St : Nat → Obj → Prop} {K : List PV → PHeap → Prop} {R : Result → Shared → Prop} {o : Obj}
    (hd : c.hd = none) (hifs : ifs.length ≤ 1) (hz : items.length ≤ sizeLine) (stp : Stp G it items Src St) (hp : c.P.lookup it = none) (hpD : c.P.lookup D = none) (hne : D ≠ it)
    (h0 : St 0 o) (hs : Sat G ((c.wp [(D, listOf #[] 0)]).wp [(it, o)]) H vs s) (hsrc : Src H) (h : CompP G c Src target ifs elt K items [] H vs)
    (hR : ∀ us n acc H vs s', RL acc us → Sat G (c.wp [(D, listOf (List.toArray us) n)]) H vs s' → K acc H → R (.ok .next) s') :
    codeAny (model G.prog G.w) c.A (.compLoop (.ListComp elt [⟨target, iter, ifs, 0⟩] scope pos) 0 (.ref it) (.ref D) c.env) R s := by
  refine compLoop_any (fun n s => ∃ k o H vs us e acc, n = items.length - k ∧ k ≤ items.length ∧ RL acc us ∧ us.length ≤ k ∧ St k o ∧ Src H ∧ Sat G ((c.wp [(D, listOf (List.toArray us) e)]).wp [(it, o)]) H vs s ∧ CompP G c Src target ifs elt K (items.drop k) acc H vs)
    (fun n s hI => ?_) items.length ⟨0, o, H, vs, [], 0, [], rfl, Nat.zero_le _, .nil, Nat.le_refl _, h0, hsrc, hs, h⟩
  obtain ⟨k, o, H, vs, us, e, acc, rfl, hk, hacc, hul, hst, hsrc, hs, hfor⟩ := hI
  have hpit : ∀ l, (c.wp [(D, l)]).P.lookup it = none := fun l => by
    show List.lookup it ((D, l) :: c.P) = none
    rw [List.lookup_cons, beq_false_of_ne (Ne.symm hne)]; exact hp
  refine wpAny_mono (stp.next (c.wp [(D, listOf (List.toArray us) e)]) H vs s k o hd hst hsrc (hpit _) hs) (fun r s1 hr => ?_) fun _ _ x => x.elim
  have exn : ∀ {S' : Scope} (c2 : Cx S') (e : Value) (s' : Shared), (∃ x H' vs', ExSat G c2 H' vs' x e s' ∧ noX x H' vs') → notedBy (model G.prog G.w) c.A c.env (fun e s' => R (.error e) s') e s' := fun _ e s' ⟨x, H', vs', hx, hE⟩ => hE.elim
  cases hx : items[k]? with
  | none =>
    rw [hx] at hr
    obtain ⟨rfl, hs1⟩ := hr
    have : items.drop k = [] := by rw [List.drop_eq_nil_iff]; exact List.getElem?_eq_none_iff.mp hx
    rw [this] at hfor
    exact hR us e acc H vs s1 hacc hs1 hfor
  | some x =>
    have hlt : k < items.length := (List.getElem?_eq_some_iff.mp hx).1
    have hdr : items.drop k = x :: items.drop (k + 1) := by
      rw [List.drop_eq_getElem_cons hlt]
      rw [(List.getElem?_eq_some_iff.mp hx).2]
    rw [hdr] at hfor
    rw [hx] at hr
    have tests : ∀ (P : List (Addr × Obj)) (H1 : PHeap) (vs1 : Vars) (s2 : Shared) (QB : Bool → PHeap → Vars → Prop), TestP G (c.wp P) H1 vs1 QB noX ifs → Sat G (c.wp P) H1 vs1 s2 →
        wpAny (model G.prog G.w) c.A (forIn ifs true fun e r => if r = true then do let ok ← isTrue e c.env (eval e c.env); pure (ForInStep.yield ok) else pure (ForInStep.yield r)) (fun ok s₃ => ∃ H2 vs2, Sat G (c.wp P) H2 vs2 s₃ ∧ QB ok H2 vs2) (notedBy (model G.prog G.w) c.A c.env fun e s' => R (.error e) s') s2 := by
      intro P H1 vs1 s2 QB ht hs2
      match ifs, hifs, ht with
      | [], _, ht => exact wpAny_pure ⟨H1, vs1, hs2, ht⟩
      | [e], _, ht =>
        refine wpAny_tests_one (wpAny_mono (ht s2 hs2) (fun b s3 h3 => ?_) (exn (c.wp P)))
        obtain ⟨b', H2, vs2, rfl, hs3, hq⟩ := h3
        exact ⟨H2, vs2, hs3, hq⟩
      | _ :: _ :: _, h, _ => simp at h
    have rest : ∀ (o2 : Obj) (H1 : PHeap) (vs1 : Vars) (s2 : Shared), St (k + 1) o2 → Sat G ((c.wp [(D, listOf (List.toArray us) e)]).wp [(it, o2)]) H1 vs1 s2 → TestP G (c.wp ([(it, o2)] ++ [(D, listOf (List.toArray us) e)])) H1 vs1 (fun b H2 vs2 =>
      (b = true → T G (c.wp ([(it, o2)] ++ [(D, listOf (List.toArray us) e)])) PV.R (eval elt c.env) H2 vs2 (fun p H3 vs3 => ∃ H4, PHeap.Le H4 H3 ∧ Src H4 ∧ CompP G c Src target ifs elt K (items.drop (k + 1)) (acc ++ [p]) H4 vs3) noX) ∧
      (b = false → ∃ H4, PHeap.Le H4 H2 ∧ Src H4 ∧ CompP G c Src target ifs elt K (items.drop (k + 1)) acc H4 vs2)) noX ifs →
        wpAny (model G.prog G.w) c.A (forIn ifs true fun e r => if r = true then do let ok ← isTrue e c.env (eval e c.env); pure (ForInStep.yield ok) else pure (ForInStep.yield r)) (fun ok s₃ =>
            if ok = true then wpAny (model G.prog G.w) c.A (eval elt c.env) (fun x s₄ =>
              wpAny (model G.prog G.w) c.A (call (.builtin "list.append") [.ref D, x]) (fun _ s₅ => ∃ m, m < items.length - k ∧ ∃ k o H vs us e acc, m = items.length - k ∧ k ≤ items.length ∧ RL acc us ∧ us.length ≤ k ∧ St k o ∧ Src H ∧ Sat G ((c.wp [(D, listOf (List.toArray us) e)]).wp [(it, o)]) H vs s₅ ∧ CompP G c Src target ifs elt K (items.drop k) acc H vs)
                (notedBy (model G.prog G.w) c.A c.env fun e s' => R (.error e) s') s₄) (notedBy (model G.prog G.w) c.A c.env fun e s' => R (.error e) s') s₃
            else ∃ m, m < items.length - k ∧ ∃ k o H vs us e acc, m = items.length - k ∧ k ≤ items.length ∧ RL acc us ∧ us.length ≤ k ∧ St k o ∧ Src H ∧ Sat G ((c.wp [(D, listOf (List.toArray us) e)]).wp [(it, o)]) H vs s₃ ∧ CompP G c Src target ifs elt K (items.drop k) acc H vs)
          (notedBy (model G.prog G.w) c.A c.env fun e s' => R (.error e) s') s2 := by
      intro o2 H1 vs1 s2 hst2 hs2 ht
      refine wpAny_mono (tests _ H1 vs1 s2 _ ht hs2) (fun ok s3 h3 => ?_) fun _ _ x => x
      obtain ⟨H2, vs2, hs3, hq⟩ := h3
      cases ok with
      | true =>
        rw [if_pos rfl]
        refine wpAny_mono (hq.1 rfl s3 hs3) (fun v s4 h4 => ?_) (exn (c.wp ([(it, o2)] ++ [(D, listOf (List.toArray us) e)])))
        obtain ⟨p, H3, vs3, hpv, hs4, H4, le, hsrc4, hc4⟩ := h4
        have hs4' : Sat G ((c.wp [(it, o2)]).wp [(D, listOf (List.toArray us) e)]) H3 vs3 s4 := Sat.swap (a := (D, listOf (List.toArray us) e)) (b := (it, o2)) hs4 hne
        obtain ⟨h₀, m, news, S0, V⟩ := hs4'
        obtain ⟨hm, hn⟩ := S0.priv
        refine append_at (S0.N.get hm) (fun h' hsb ho => ?_) (by rw [List.size_toArray]; omega)
        obtain ⟨news', S1⟩ := S0.turn (k := s4.toks) hsb ho
        refine ⟨items.length - (k + 1), by omega, k + 1, o2, H4, vs3, us ++ [v], e + 1, acc ++ [p], rfl, hlt, hacc.app (.cons hpv .nil), by simp; omega, hst2, hsrc4, ?_, hc4⟩
        have e3 : (List.toArray us).push v = List.toArray (us ++ [v]) := by simp
        rw [e3] at S1
        have hfin : Sat G ((c.wp [(it, o2)]).wp [(D, listOf (List.toArray (us ++ [v])) (e + 1))]) H3 vs3 { s4 with heap := h', toks := s4.toks } := ⟨h₀, m, news', S1, V⟩
        exact (Sat.swap (a := (it, o2)) (b := (D, listOf (List.toArray (us ++ [v])) (e + 1))) hfin (Ne.symm hne)).weaken le
      | false =>
        rw [if_neg (by decide)]
        obtain ⟨H4, le, hsrc4, hc4⟩ := hq.2 rfl
        exact ⟨items.length - (k + 1), by omega, k + 1, o2, H4, vs2, us, e, acc, rfl, hlt, hacc, by omega, hst2, hsrc4, hs3.weaken le, hc4⟩
    cases x with
    | val x =>
      obtain ⟨v, o1, rfl, hxv, hst1, hs1⟩ := hr
      refine wpAny_mono (stp.owned (c.wp [(D, listOf (List.toArray us) e)]) H vs s1 (k + 1) o1 target v hst1 hs1) (fun _ s2 h2 => ?_) fun _ _ x => x.elim
      obtain ⟨o2, hst2, hs2⟩ := h2
      refine wpAny_mono (hfor ([(it, o2)] ++ [(D, listOf (List.toArray us) e)]) v hxv s2 hs2) (fun _ s3 h3 => ?_) (exn (c.wp ([(it, o2)] ++ [(D, listOf (List.toArray us) e)])))
      obtain ⟨_, H3, vs3, _, hs3, h3⟩ := h3
      exact rest o2 H3 vs3 s3 hst2 hs3 h3
    | pair x y =>
      obtain ⟨t, o1, rfl, hst1, ht, hs1⟩ := hr
      refine wpAny_mono (stp.owned (c.wp [(D, listOf (List.toArray us) e)]) _ vs s1 (k + 1) o1 target (.ref t) hst1 hs1) (fun _ s2 h2 => ?_) fun _ _ x => x.elim
      obtain ⟨o2, hst2, hs2⟩ := h2
      refine wpAny_mono (hfor ([(it, o2)] ++ [(D, listOf (List.toArray us) e)]) t ht s2 hs2) (fun _ s3 h3 => ?_) (exn (c.wp ([(it, o2)] ++ [(D, listOf (List.toArray us) e)])))
      obtain ⟨_, H3, vs3, _, hs3, h3⟩ := h3
      exact rest o2 H3 vs3 s3 hst2 hs3 h3
end
end Mine
namespace Mine

section
variable {G : Gl} {S : Scope} {c : Cx S} {H : PHeap} {vs : Vars} {E : PX → PHeap → Vars → Prop} {Q : PV → PHeap → Vars → Prop} {QF : PF → PHeap → Vars → Prop} {QU : Unit → PHeap → Vars → Prop} {QB : Bool → PHeap → Vars → Prop} {s : Shared} {h₀ h' : Heap} {m : Str → Option Value} {news : List (Addr × Obj)} {x : Str} {p : PV} {pos : Pos}

theorem Sat0.release {D : Addr} {us : List Value} {n : Nat} {acc : List PV} (S0 : Sat0 G (c.wp [(D, listOf (List.toArray us) n)]) H m h₀ news s) (hr : RL acc us) (hp : c.P.lookup D = none) : Sat0 G c (H.set D (.list acc)) m h₀ news s ∧ H D = none := by
  obtain ⟨hm, hn⟩ := S0.priv
  have e : ext (c.wp [(D, listOf (List.toArray us) n)]).P H D = some (.raw (listOf (List.toArray us) n)) := by
    show ext ((D, _) :: c.P) H D = _
    unfold ext; simp [List.lookup]
  have hput := S0.hr.put (po' := .list acc) (mo' := listOf (List.toArray us) n) (news' := news) e rfl (fun q hq => by
    by_cases hD : q.1 = D
    · have : (D, q.2) ∈ news := by rw [← hD]; exact hq
      have := S0.hr.uniq this hm
      exact .inl (by rw [← hD, ← this])
    · exact .inr ⟨hq, hD⟩) ⟨us, n, rfl, hr⟩
  have heq : (ext (c.wp [(D, listOf (List.toArray us) n)]).P H).set D (.list acc) = ext c.P (H.set D (.list acc)) := by
    funext b
    show PHeap.set (ext ((D, _) :: c.P) H) D (.list acc) b = ext c.P (H.set D (.list acc)) b
    unfold ext PHeap.set
    by_cases hb : b = D
    · subst hb; rw [hp]; simp
    · simp [List.lookup, hb, beq_false_of_ne hb]
  refine ⟨⟨S0.F, S0.N, S0.B, S0.bk, heq ▸ hput, fun b hb => ?_, S0.g, S0.d, S0.o⟩, hn⟩
  have hbD : b ≠ D := fun e => by rw [e, hp] at hb; cases hb
  rw [PHeap.set_ne hbD]
  refine S0.dj b ?_
  show (List.lookup b ((D, _) :: c.P)).isSome = true
  rw [List.lookup_cons, beq_false_of_ne hbD]
  exact hb

theorem comp_exit {S' : Scope} {C : Addr} {cl : List (Str × Addr)} {P : List (Addr × Obj)} {vs' : Vars} (hst : c.A₀.frames = some c.outer) (hlt : ∀ p ∈ c.bl, p.1 < c.L) (hfr : ∀ a ∈ c.outer.filterMap (·.frame), a < c.L) (hba : G.base.objs.size ≤ c.L) (V : VR vs m) (hs : Sat G ((Cx.comp c m S' C cl).wp P) H vs' s) :
    ∃ oC, (∃ mC, s.heap.Ns C mC) ∧ (c.wp P).P.lookup C = none ∧ Sat G ((c.wp P).wp [(C, oC)]) H vs s := by
  obtain ⟨h₁, m', news', S1, _⟩ := hs
  obtain ⟨oC, es2, ep2, hC, hCd, r⟩ := S1.F.ns
  have hC1 : h₁.get? C = none := by
    cases q : h₁.get? C with
    | none => rfl
    | some o => exact absurd (Nat.lt_of_lt_of_le (Heap.lt_size q) S1.F.above) (Nat.lt_irrefl _)
  have hCn : C ∉ news'.map (·.1) := fun hm => by
    obtain ⟨q, hq, e⟩ := List.mem_map.mp hm
    exact (S1.N q hq).2.1 e
  have hoff := S1.off hCn
  have up : ∀ p ∈ (c.L, m) :: c.bl, h₁.Ns p.1 p.2 := S1.bk.ns
  have ns : ∀ p ∈ (c.L, m) :: c.bl, s.heap.Ns p.1 p.2 := fun p hp => by
    obtain ⟨oL, es, ep, q, r⟩ := up p hp
    exact ⟨oL, es, ep, S1.F.keep _ _ q, r⟩
  have old : ∀ q ∈ (C, oC) :: news', s.heap.get? q.1 = some q.2 ∧ h₁.get? q.1 = none := fun q hq => by
    rcases List.mem_cons.mp hq with rfl | hq
    · exact ⟨hC, hC1⟩
    · exact ⟨(S1.N q hq).1, (S1.N q hq).2.2⟩
  have apart : ∀ q ∈ (C, oC) :: news', ∀ p ∈ (c.L, m) :: c.bl, q.1 ≠ p.1 := fun q hq p hp e => by
    obtain ⟨oL, es, ep, z, r⟩ := up p hp
    have := (old q hq).2
    rw [e, z] at this; cases this
  have ff : h₁.FunFrames G.base c.outer := frames_tail rfl S1.B.frames
  obtain ⟨h₂, F2, N2, B2, b2⟩ := reground (c := c) (m := m) (news := (C, oC) :: news') hst (fun b o e => S1.F.keep _ _ (S1.B.stays _ _ e)) (ff.of_keeps fun b o e _ => ⟨o, S1.F.keep _ _ e, rfl⟩) (ns _ (.head _)) ⟨fun p hp => ns p (.tail _ hp), hlt, hfr, hba⟩ fun q hq => by
    refine ⟨(old q hq).1, ?_, apart q hq _ (.head _), fun hm => ?_, fun hm => ?_⟩
    · cases z : G.base.get? q.1 with
      | none => rfl
      | some o => have := (old q hq).2; rw [S1.B.stays _ _ z] at this; cases this
    · obtain ⟨_, o, z⟩ := mem_frame ff hm
      have := (old q hq).2; rw [z] at this; cases this
    · obtain ⟨p, hp, e⟩ := List.mem_map.mp hm
      exact apart q hq p (.tail _ hp) e.symm
  refine ⟨oC, ⟨_, oC, es2, ep2, hC, hCd, r⟩, hoff.1, h₂, m, (C, oC) :: news', ⟨F2, N2, B2, b2, ?_, fun b' hb' => ?_, S1.g, S1.d, S1.o⟩, V⟩
  · have heq : ext ((c.wp P).wp [(C, oC)]).P H = (ext (c.wp P).P H).set C (.raw oC) := by
      funext b
      show ext ((C, oC) :: (c.wp P).P) H b = _
      unfold ext PHeap.set
      by_cases hb : b = C
      · subst hb; simp [List.lookup]
      · simp [List.lookup, hb, beq_false_of_ne hb]
    rw [heq]
    exact S1.hr.cons hCn rfl
  · by_cases e : b' = C
    · rw [e]; exact hoff.2
    · refine S1.dj b' ?_
      have hb2 : (List.lookup b' ((C, oC) :: (c.wp P).P)).isSome = true := hb'
      rw [List.lookup_cons, beq_false_of_ne e] at hb2
      exact hb2

theorem comp_block {it : Addr} {o : Obj} {elt target iter : Expr} {ifs : List Expr} {scope : Scope} {cl : List (Str × Addr)} {items : List Itm} {Src : PHeap → Prop} {St : Nat → Obj → Prop} {K : List PV → PHeap → Prop} {use : Option (Value → Sem Unit)} {E' : Value → Shared → Prop} {Q' : Value → Shared → Prop}
    (hc : c.Ok) (hd : c.hd = none) (hcell : ∀ y ∈ scope.names, y.2 ≠ .cell) (hkind : scope.kind = .function) (hifs : ifs.length ≤ 1) (hz : items.length ≤ sizeLine) (stp : Stp G it items Src St) (hp : c.P.lookup it = none)
    (h0 : St 0 o) (hs : Sat G (c.wp [(it, o)]) H vs s) (hsrc : Src H)
    (h : ∀ c1 : Cx (relabel scope c.env), c1.Ok → c1.hd = c.hd → c1.dp = c.dp → c1.un = c.un → c1.cl = cl → CompP G c1 Src target ifs elt K items [] H [])
    (hQ : ∀ D C oC acc H1 s', c.P.lookup C = none → H1 D = none → K acc H1 → Sat G (c.wp [(C, oC)]) (H1.set D (.list acc)) vs s' → (∃ mC, s'.heap.Ns C mC) → compPost (model G.prog G.w) c.A E' use Q' (.ref D) C (.ok .next) s') :
    wpAny (model G.prog G.w) c.A (newList []) (fun acc s₃ => wpAny (model G.prog G.w) c.A (newFunctionEnv scope c.env.globals cl [] c.env.qual none .none (some c.env)) (fun cenv s₄ =>
        codeAny (model G.prog G.w) c.A (.compStart (.ListComp elt [⟨target, iter, ifs, 0⟩] scope pos) 0 (.ref it) acc { cenv with scope := relabel scope c.env }) (compPost (model G.prog G.w) c.A E' use Q' acc cenv.locals) s₄) E' s₃) E' s := by
  obtain ⟨h₀, m, news, S0, V⟩ := hs
  refine wpAny_newObj_type ?_ (by show (List.toArray ([] : List Value)).size ≤ sizeLine; simp)
  obtain ⟨S1, hpD⟩ := S0.take (o := listOf #[] 0) rfl
  generalize hDe : s.heap.objs.size = D at S1 hpD
  have hDit : D ≠ it := fun e => by
    rw [e] at hpD
    have : List.lookup it ((it, o) :: c.P) = none := hpD
    simp [List.lookup] at this
  have hpD' : c.P.lookup D = none := by
    have : List.lookup D ((it, o) :: c.P) = none := hpD
    rw [List.lookup_cons, beq_false_of_ne hDit] at this
    exact this
  generalize hs1 : ({ s with heap := s.heap.push (listOf #[] 0) } : Shared) = s1 at S1
  have hgoal : wpAny (model G.prog G.w) c.A (newFunctionEnv scope c.env.globals cl [] c.env.qual none .none (some c.env)) (fun cenv s₄ =>
        codeAny (model G.prog G.w) c.A (.compStart (.ListComp elt [⟨target, iter, ifs, 0⟩] scope pos) 0 (.ref it) (.ref D) { cenv with scope := relabel scope c.env }) (compPost (model G.prog G.w) c.A E' use Q' (.ref D) cenv.locals) s₄) E' s1 := by
    refine wpAny_newFunctionEnv (binds := []) hcell (fun _ h => nomatch h) (fun h1 hns hsb => ?_) hkind
    have hc1 : ((c.wp [(it, o)]).wp [(D, listOf #[] 0)]).Ok := Cx.wp_ok (Cx.wp_ok hc)
    obtain ⟨FG, BG⟩ := ground hc1 S1
    have hk₁ : ∀ b ob, s1.heap.get? b = some ob → h1.get? b = some ob := fun b ob e => by
      have hlt := Heap.lt_size e
      rw [hsb.2 b (Nat.ne_of_lt hlt)]
      exact Heap.get?_push_of_some _ e
    have FL : Fr (hideAll s1.heap (((D, listOf #[] 0) :: news).map (·.1))) s1.heap.objs.size h1 _ := ⟨hns, fun b o e => hk₁ b o (of_hideAll _ e), Nat.le_of_eq (hideAll_size _ _)⟩
    have NL : News (hideAll s1.heap (((D, listOf #[] 0) :: news).map (·.1))) s1.heap.objs.size h1 ((D, listOf #[] 0) :: news) := fun p hp => ⟨hk₁ _ _ (S1.N p hp).1, Nat.ne_of_lt (Heap.lt_size (S1.N p hp).1), hideAll_none _ (List.mem_map_of_mem hp)⟩
    have SC : Sat G (((Cx.comp c m (relabel scope c.env) s1.heap.objs.size cl).wp [(it, o)]).wp [(D, listOf #[] 0)]) H [] { s1 with heap := h1, toks := s1.toks + ([] : List (Str × Value)).length } :=
      ⟨_, _, _, ⟨FL, NL, BG, back_sub (c := (c.wp [(it, o)]).wp [(D, listOf #[] 0)]) hc1 S1 FG rfl rfl (Heap.lt_size S1.F.ns.choose_spec.choose_spec.choose_spec.1), S1.hr, S1.dj, S1.g, S1.d, S1.o⟩, fun y p e => by cases e⟩
    have SC' := Sat.swap (c := Cx.comp c m (relabel scope c.env) s1.heap.objs.size cl) (a := (it, o)) (b := (D, listOf #[] 0)) SC (Ne.symm hDit)
    have loop : codeAny (model G.prog G.w) c.A (.compLoop (.ListComp elt [⟨target, iter, ifs, 0⟩] scope pos) 0 (.ref it) (.ref D) (Cx.comp c m (relabel scope c.env) s1.heap.objs.size cl).env) (compPost (model G.prog G.w) c.A E' use Q' (.ref D) s1.heap.objs.size) { s1 with heap := h1, toks := s1.toks + ([] : List (Str × Value)).length } := by
      refine comp_loop (c := Cx.comp c m (relabel scope c.env) s1.heap.objs.size cl) hd hifs hz stp hp hpD' hDit h0 SC' hsrc (h (Cx.comp c m (relabel scope c.env) s1.heap.objs.size cl) (Cx.comp_ok hkind) rfl rfl rfl rfl) fun us n acc H1 vs1 s' hacc hs' hK => ?_
      obtain ⟨oC, hns', hpC, hsx⟩ := comp_exit (c := c) S0.B.stack S0.bk.lt S0.bk.fr S0.bk.base V hs'
      have hCD : s1.heap.objs.size ≠ D := fun e => by
        have hpC' : List.lookup s1.heap.objs.size ((D, listOf (List.toArray us) n) :: c.P) = none := hpC
        rw [e] at hpC'
        simp [List.lookup] at hpC'
      have hpC' : c.P.lookup s1.heap.objs.size = none := by
        have : List.lookup s1.heap.objs.size ((D, listOf (List.toArray us) n) :: c.P) = none := hpC
        rw [List.lookup_cons, beq_false_of_ne hCD] at this
        exact this
      have hsy := Sat.swap (a := (D, listOf (List.toArray us) n)) (b := (s1.heap.objs.size, oC)) hsx (Ne.symm hCD)
      obtain ⟨h₃, m3, news3, S3, V3⟩ := hsy
      have hpD3 : (c.wp [(s1.heap.objs.size, oC)]).P.lookup D = none := by
        show List.lookup D ((s1.heap.objs.size, oC) :: c.P) = none
        rw [List.lookup_cons, beq_false_of_ne (Ne.symm hCD)]
        exact hpD'
      obtain ⟨S4, hDn⟩ := S3.release hacc hpD3
      exact hQ D s1.heap.objs.size oC acc H1 s' hpC' hDn hK ⟨h₃, m3, news3, S4, V3⟩ hns'
    refine codeAny_compStart_list loop ?_
    exact stp.again ((Cx.comp c m (relabel scope c.env) s1.heap.objs.size cl).wp [(D, listOf #[] 0)]) H [] _ 0 o _ _ h0 SC' loop
  exact hgoal

theorem t_listcomp (hc : c.Ok) (hd : c.hd = none) {elt target iter : Expr} {ifs : List Expr} {scope : Scope} {cl : List (Str × Addr)} (hclos : closureFor scope c.env = pure cl) (hcell : ∀ y ∈ scope.names, y.2 ≠ .cell) (hkind : scope.kind = .function)
    (hnames : ∀ y ∈ scope.names, y.2 = .local → scope.names.lookup y.1 = some .local) (hifs : ifs.length ≤ 1) (hf : ∀ x, foldedSetIterable iter c.env x = pure x)
    (h : T G c PV.R (eval iter c.env) H vs (fun p H1 vs1 => IterP G c p H1 vs1 (fun Src items => items.length ≤ sizeLine ∧ Src H1 ∧ ∀ c1 : Cx (relabel scope c.env), c1.Ok → c1.hd = c.hd → c1.dp = c.dp → c1.un = c.un → c1.cl = cl →
      CompP G c1 Src target ifs elt (fun acc H2 => ∀ d, H2 d = none → Q (.ref d) (H2.set d (.list acc)) vs1) items [] H1 [])) E) :
    T G c PV.R (eval (.ListComp elt [⟨target, iter, ifs, 0⟩] scope pos) c.env) H vs Q E := fun s hs => by
  rw [eval_ListComp]
  refine wpAny_comprehension_free (use := none) rfl hf hclos hkind hnames (wpAny_mono (h s hs) (fun v s1 ⟨p, H1, vs1, hp, hs1, h1⟩ => ?_) fun _ _ x => x)
  refine wpAny_mono (h1 v hp s1 hs1) (fun itv s2 h2 => ?_) fun _ _ x => x.elim
  obtain ⟨it, o, items, Src, St, rfl, stp, h0, hpl, hs2, hz, hsrc, hcp⟩ := h2
  refine comp_block hc hd hcell hkind hifs hz stp hpl h0 hs2 hsrc hcp fun D C oC acc H2 s' hpC hD hK hsC hns => ?_
  obtain ⟨mC, hmC⟩ := hns
  refine ⟨mC, hmC, fun h' hsb => ?_⟩
  obtain ⟨h₃, m3, news3, S3, V3⟩ := hsC
  obtain ⟨news4, S4⟩ := S3.gone (k := s'.toks) (fun b ob hb e => (hsb.2 b hb).trans e) hpC
  exact ⟨.ref D, _, vs1, rfl, ⟨h₃, m3, news4, S4, V3⟩, hK D hD⟩

/-- a comprehension stored in a name -/
theorem t_assigncomp (hc : c.Ok) (hd : c.hd = none) {elt target iter : Expr} {ifs : List Expr} {scope : Scope} {cl : List (Str × Addr)} {y : Str} {py : Pos} {spos : Pos}
    (hsw : swapsWith (.ListComp elt [⟨target, iter, ifs, 0⟩] scope pos) (some (.Name y py)) spos.line c.env = pure true) (hy : S.names.lookup y = some .local)
    (hclos : closureFor scope c.env = pure cl) (hcell : ∀ y ∈ scope.names, y.2 ≠ .cell) (hkind : scope.kind = .function)
    (hnames : ∀ y ∈ scope.names, y.2 = .local → scope.names.lookup y.1 = some .local) (hifs : ifs.length ≤ 1) (hf : ∀ x, foldedSetIterable iter c.env x = pure x)
    (h : T G c PV.R (eval iter c.env) H vs (fun p H1 vs1 => IterP G c p H1 vs1 (fun Src items => items.length ≤ sizeLine ∧ Src H1 ∧ ∀ c1 : Cx (relabel scope c.env), c1.Ok → c1.hd = c.hd → c1.dp = c.dp → c1.un = c.un → c1.cl = cl →
      CompP G c1 Src target ifs elt (fun acc H2 => ∀ d, H2 d = none → QF .next (H2.set d (.list acc)) (putV y (.ref d) vs1)) items [] H1 [])) E) :
    T G c PF.R (exec (.Assign [.Name y py] (.ListComp elt [⟨target, iter, ifs, 0⟩] scope pos) spos) c.env) H vs QF E := fun s hs => by
  rw [exec_Assign_Name_used _ _ _ _ hsw]
  refine wpAny_bind (wpAny_standAt (wpAny_bind ?_))
  show wpAny _ c.A (do let _ ← comprehension (.ListComp elt [⟨target, iter, ifs, 0⟩] scope pos) scope c.env _ (newList []) false (eval iter c.env) (some (assign (.Name y py) c.env))) _ _ s
  refine wpAny_bind (wpAny_mono (wpAny_comprehension_free (use := some (assign (.Name y py) c.env)) (Q := fun _ s' => ∃ r H' vs', PF.R r .next ∧ Sat G c H' vs' s' ∧ QF r H' vs') rfl hf hclos hkind hnames
    (wpAny_mono (h s hs) (fun v s1 ⟨p, H1, vs1, hp, hs1, h1⟩ => ?_) fun _ _ x => x)) (fun _ s' hq => wpAny_pure (wpAny_pure hq)) fun _ _ e => e)
  refine wpAny_mono (h1 v hp s1 hs1) (fun itv s2 h2 => ?_) fun _ _ x => x.elim
  obtain ⟨it, o, items, Src, St, rfl, stp, h0, hpl, hs2, hz, hsrc, hcp⟩ := h2
  refine comp_block hc hd hcell hkind hifs hz stp hpl h0 hs2 hsrc hcp fun D C oC acc H2 s' hpC hD hK hsC hns => ?_
  obtain ⟨mC, hmC⟩ := hns
  have key := a_name (G := G) (c := c.wp [(C, oC)]) (E := noX) (QU := fun _ H3 vs3 => QF .next H3 vs3) (px := py) (x := y) (v := .ref D) (p := .ref D) (Cx.wp_ok hc) hy rfl (hK D hD) s' hsC
  refine wpAny_mono key (fun _ s4 h4 => ?_) fun _ _ ⟨_, _, _, _, hE⟩ => hE.elim
  obtain ⟨_, H4, vs4, _, hs4, hq4⟩ := h4
  obtain ⟨h₃, m3, news3, S3, V3⟩ := hs4
  obtain ⟨hmm, _⟩ := S3.priv
  obtain ⟨oC', es, ep, hoC, hdC, rC⟩ := hmC
  obtain ⟨h₅, m5, news5, S5, V5⟩ := hsC
  obtain ⟨hmm5, _⟩ := S5.priv
  have e5 := (S5.N _ hmm5).1
  have e3 := (S3.N _ hmm).1
  have e6 : oC' = oC := by
    have : s'.heap.get? C = some oC := e5
    rw [hoC] at this
    exact Option.some.inj this
  refine ⟨mC, ⟨oC, es, ep, e3, e6 ▸ hdC, rC⟩, fun h' hsb => ?_⟩
  obtain ⟨news4, S4⟩ := S3.gone (k := s4.toks) (fun b ob hb e => (hsb.2 b hb).trans e) hpC
  exact ⟨.next, H4, vs4, rfl, ⟨h₃, m3, news4, S4, V3⟩, hq4⟩
end
end Mine
namespace Mine

def rangeObj (n : Int) (t u v : Tok) : Obj := { cls := .type "range", data := .fields #[.int 0 t, .int n u, .int 1 v] }

section
variable {G : Gl} {S : Scope} {c : Cx S} {H : PHeap} {vs : Vars} {E : PX → PHeap → Vars → Prop} {Q : PV → PHeap → Vars → Prop} {QF : PF → PHeap → Vars → Prop} {QU : Unit → PHeap → Vars → Prop} {QB : Bool → PHeap → Vars → Prop} {s : Shared} {h₀ h' : Heap} {m : Str → Option Value} {news : List (Addr × Obj)} {x : Str} {p : PV} {pos : Pos} {it : Addr}

theorem k_range {n : Int} (h : ∀ d t u v, H d = none → Q (.ref d) (H.set d (.raw (rangeObj n t u v))) vs) : CallP G c (.typ "range") [.int n] [] [] H vs Q E := by
  rintro _ _ _ rfl (_ | ⟨⟨t, rfl⟩, _ | _⟩) (_ | _) s ⟨h₀, m, news, S0, V⟩
  refine call_range_1 ?_
  obtain ⟨S1, hn⟩ := S0.alloc (po := .raw (rangeObj n s.toks t (s.toks + 1))) (mo := rangeObj n s.toks t (s.toks + 1)) (k := s.toks + 1 + 1) (S0.F.push _) (News.push S0.F S0.N _ rfl) (fun q hq => Heap.lt_size (S0.N q hq).1) rfl
  exact ⟨.ref _, _, vs, rfl, ⟨h₀, m, _, S1, V⟩, h _ _ _ _ hn⟩

theorem rs_nat {n : Int} : Builtin.Range.rangeSize 0 n 1 = (n.toNat : Int) := by
  unfold Builtin.Range.rangeSize
  simp only [show ((1 : Int) > 0) = True by simp, if_true]
  split <;> omega
theorem rs_small {n : Int} (hn : n < 2 ^ 62) (h0 : -(2 ^ 62) ≤ n) : Builtin.Range.small 0 n 1 = true := by
  unfold Builtin.Range.small
  rw [rs_nat]
  unfold Builtin.Range.rangeFitsLong
  simp
  omega

theorem stp_range {n : Nat} : Stp G it ((List.range n).map fun (i : Nat) => .val (.int (i : Int))) (fun _ => True) (fun k o => k ≤ n ∧ o = { cls := .type "range_iterator", dict := none, data := .fields #[rawInt k, rawInt (n - k : Nat), rawInt 1], slots := #[] }) where
  again c H vs s k o Q E hst hs hq := by
    obtain ⟨h₀, m, news, S0, V⟩ := hs
    obtain ⟨hm, hn⟩ := S0.priv
    exact wpAny_pyIter_rangeiter (x := k) (left := (n - k : Nat)) (step := 1) (by have z := (S0.N _ hm).1; have z2 := hst.2; subst z2; exact z) hq
  next c H vs s k o hd hst hsrc hp hs := by
    obtain ⟨h₀, m, news, S0, V⟩ := hs
    obtain ⟨hm, hn⟩ := S0.priv
    have hit : IsRangeIter s.heap it (k : Int) ((n - k : Nat) : Int) 1 := by
      have z := (S0.N _ hm).1
      have z2 := hst.2
      subst z2
      exact z
    rw [List.getElem?_map]
    by_cases hk : k < n
    · rw [List.getElem?_range hk]
      refine wpAny_pyNext_range_item hit (by omega) fun h' hi hsb => ?_
      obtain ⟨news', S1⟩ := S0.turn (k := s.toks + 1) hsb hi
      refine ⟨_, _, rfl, ⟨_, rfl⟩, ⟨by omega, ?_⟩, h₀, m, news', S1, V⟩
      have e1 : ((n - k : Nat) : Int) - 1 = ((n - (k + 1) : Nat) : Int) := by omega
      rw [e1]
      rfl
    · have : (List.range n)[k]? = none := by simp; omega
      rw [this]
      refine wpAny_pyNext_range_end hd hit (by omega) fun h' he => ?_
      obtain ⟨news', S1⟩ := S0.gone (k := s.toks) (fun b ob hb e => he b ob hb e) hp
      exact ⟨rfl, h₀, m, news', S1, V⟩
  owned c H vs s k o tgt v hst hs := by
    obtain ⟨h₀, m, news, S0, V⟩ := id hs
    obtain ⟨hm, hn⟩ := S0.priv
    exact letOwned_other (S0.N _ hm).1 (by rw [hst.2]) (by decide) ⟨o, hst, hs⟩

theorem iter_range {d : Addr} {n : Int} {t u v : Tok} {K : (PHeap → Prop) → List Itm → Prop} (e : H d = some (.raw (rangeObj n t u v))) (hn : n < 2 ^ 62) (h0 : -(2 ^ 62) ≤ n) (h : K (fun _ => True) ((List.range n.toNat).map fun (i : Nat) => .val (.int (i : Int)))) : IterP G c (.ref d) H vs K := by
  rintro _ rfl s ⟨h₀, m, news, S0, V⟩
  obtain ⟨mo, hm, rfl⟩ := S0.mem e
  refine wpAny_pyIter_range (a := 0) (b := n) (c := 1) (t := t) (u := u) (v := v) (S0.N _ hm).1 (rs_small hn h0) ?_
  rw [rs_nat]
  obtain ⟨S1, hp⟩ := S0.take (o := { cls := .type "range_iterator", data := .fields #[rawInt 0, rawInt (n.toNat : Int), rawInt 1] }) rfl
  exact ⟨_, _, _, _, _, rfl, stp_range, ⟨Nat.zero_le _, rfl⟩, hp, ⟨h₀, m, _, S1, V⟩, h⟩

/-! targets -/
theorem Sat.ext' (hs : Sat G c H vs s) {a : Addr} (he : Heap.ExtBut s.heap.objs.size s.heap h') {k : Nat} : Sat G c H vs { s with heap := h', toks := k } := by
  obtain ⟨h₀, m, news, S0, V⟩ := hs
  have hk : ∀ b o, s.heap.get? b = some o → h'.get? b = some o := fun b o e => he b o (Nat.ne_of_lt (Heap.lt_size e)) e
  exact ⟨h₀, m, news, ⟨S0.F.keeps hk, fun q hq => ⟨hk _ _ (S0.N q hq).1, (S0.N q hq).2⟩, S0.B, S0.bk, S0.hr, S0.dj, S0.g, S0.d, S0.o⟩, V⟩

theorem a_unpack2 (hc : c.Ok) (hd : c.hd = none) {a b : Str} {pa pb pt : Pos} {n : Nat} {t : Addr} {pv qv : PV} (e : H t = some (.tup [pv, qv])) (ha : S.names.lookup a = some .local) (hb : S.names.lookup b = some .local)
    (h : QU () H (putV b qv (putV a pv vs))) : T G c UR (assign (.Tuple [.Name a pa, .Name b pb] n pt) c.env (.ref t)) H vs QU E := fun s hs => by
  obtain ⟨h₀, m, news, S0, V⟩ := id hs
  obtain ⟨us, k, hm, hr, ht⟩ := S0.tup e
  cases hr with
  | cons h1 hr =>
    cases hr with
    | cons h2 hr =>
      cases hr
      refine wpAny_assign_Tuple hd ht rfl rfl fun h' he => ?_
      have hs1 : Sat G c H vs { s with heap := h' } := hs.ext' (a := 0) (k := s.toks) he
      refine wpAny_assignInOrder_more (wpAny_mono (a_name (E := E) (QU := fun _ H1 vs1 => QU () H1 (putV b qv vs1)) hc ha h1 h _ hs1) (fun _ s2 h2' => ?_) fun _ _ x => x)
      obtain ⟨_, H2, vs2, _, hs2, hq2⟩ := h2'
      refine wpAny_assignInOrder_more (wpAny_mono (a_name (E := E) (QU := QU) hc hb h2 hq2 _ hs2) (fun _ s3 h3 => ?_) fun _ _ x => x)
      exact wpAny_pure h3

/-- two names are given the two items of a tuple -/
theorem t_assign2 (hc : c.Ok) (hd : c.hd = none) {a b : Str} {pa pb pt : Pos} {n : Nat} {e : Expr} (hw : swapsWithSole [.Tuple [.Name a pa, .Name b pb] n pt] e pos.line c.env = pure false) (hw2 : swappedStores [.Tuple [.Name a pa, .Name b pb] n pt] e c.env = pure none)
    (ha : S.names.lookup a = some .local) (hb : S.names.lookup b = some .local)
    (h : T G c PV.R (eval e c.env) H vs (fun p H1 vs1 => ∃ t pv qv, p = .ref t ∧ H1 t = some (.tup [pv, qv]) ∧ QF .next H1 (putV b qv (putV a pv vs1))) E) :
    T G c PF.R (exec (.Assign [.Tuple [.Name a pa, .Name b pb] n pt] e pos) c.env) H vs QF E := fun s hs => by
  refine wpAny_Assign_stores (wpAny_mono (h s hs) (fun v s1 ⟨p, H1, vs1, hp, hs1, h1⟩ => ?_) fun _ _ x => x) hw hw2
  obtain ⟨t, pv, qv, rfl, et, hq⟩ := h1
  cases hp
  exact wpAny_mono (a_unpack2 (E := E) (n := n) (QU := fun _ H2 vs2 => QF .next H2 vs2) hc hd et ha hb hq s1 hs1) (fun _ s2 ⟨_, H2, vs2, _, hs2, h2⟩ => ⟨.next, H2, vs2, rfl, hs2, h2⟩) fun _ _ x => x

theorem a_sub {o i : Expr} {pos' : Pos} {v : Value} (hr : PV.R p v) (h : T G c PV.R (eval o c.env) H vs (fun q H2 vs2 => T G c PV.R (eval i c.env) H2 vs2 (fun k H3 vs3 => StoP G c q k p H3 vs3 QU E) E) E) : T G c UR (assign (.Subscript o i pos') c.env v) H vs QU E := fun s hs => by
  rw [arm_assign_Subscript]
  refine wpAny_bind (wpAny_holding (wpAny_mono (h s hs) (fun ov s2 ⟨q, H2, vs2, hq, hs2, h2⟩ => ?_) fun _ _ x => x))
  refine wpAny_bind (wpAny_holding (wpAny_mono (h2 s2 hs2) (fun iv s3 ⟨k, H3, vs3, hk, hs3, h3⟩ => ?_) fun _ _ x => x))
  refine wpAny_bind (wpAny_standAt (wpAny_bind (wpAny_holding (wpAny_mono (h3 ov iv v hq hk hr s3 hs3) (fun _ s4 h4 => ?_) fun _ _ x => x))))
  exact wpAny_release h4
theorem t_assigns2 {e t1 t2 : Expr} (he : (assignEach [t1, t2] c.env).map (·.2) = [assign t1 c.env, assign t2 c.env]) (hw : swappedStores [t1, t2] e c.env = pure none)
    (h : T G c PV.R (eval e c.env) H vs (fun p H1 vs1 => ∀ v, PV.R p v → T G c UR (assign t1 c.env v) H1 vs1 (fun _ H2 vs2 => T G c UR (assign t2 c.env v) H2 vs2 (fun _ H3 vs3 => QF .next H3 vs3) E) E) E) :
    T G c PF.R (exec (.Assign [t1, t2] e pos) c.env) H vs QF E := fun s hs => by
  refine wpAny_Assign_two (wpAny_mono (h s hs) (fun v s1 ⟨p, H1, vs1, hp, hs1, h1⟩ => ?_) fun _ _ x => x) he hw
  refine wpAny_mono (h1 v hp s1 hs1) (fun _ s2 ⟨_, H2, vs2, _, hs2, h2⟩ => ?_) fun _ _ x => x
  exact wpAny_mono (h2 s2 hs2) (fun _ s3 ⟨_, H3, vs3, _, hs3, h3⟩ => ⟨.next, H3, vs3, rfl, hs3, h3⟩) fun _ _ x => x

theorem sto_neg {a : Addr} {k : Int} {xs : List PV} (e : H a = some (.list xs)) (h0 : k < 0) (h1 : -(xs.length : Int) ≤ k) (h2 : -(2 ^ 63) ≤ k) (h : QU () (H.set a (.list (xs.set (k + xs.length).toNat p))) vs) : StoP G c (.ref a) (.int k) p H vs QU E := by
  rintro _ _ vv rfl ⟨t, rfl⟩ hv s ⟨h₀, m, news, S0, V⟩
  obtain ⟨us, n, hm, hr, hl⟩ := S0.list e
  have hs : us.toArray.size = xs.length := by rw [List.size_toArray, hr.len]
  obtain ⟨news', U, e1, e2⟩ := upd_mem (mo' := listOf (List.toArray (us.set (k + xs.length).toNat vv)) n) hm S0.hr.nodup
  refine ki_setNeg (its := us.toArray) (j := (k + xs.length).toNat) (q := us.set (k + xs.length).toNat vv) S0.F S0.N h0 h2 ?_ ?_ U fun h' F' N' => ⟨(), _, vs, trivial, ⟨h₀, m, news', S0.upd (po' := .list (xs.set (k + xs.length).toNat p)) e e1 e2 ⟨_, n, rfl, hr.set hv _⟩ F' N', V⟩, h⟩
  · have := PySem.seqIndex_neg h0 (by rw [hs]; exact h1 : -(us.toArray.size : Int) ≤ k)
    rw [hs] at this ⊢
    exact this
  · exact setL_is (by rw [hr.len]; omega)

theorem sub_str {y : Str} {k : Int} {v i : Expr} (h0 : 0 ≤ k) (h1 : k < y.length) (h2 : k < 2 ^ 62) (h : Q (.str (Txt.item y k)) H vs)
    (hs : ∀ t u, subscripted i false (.str y t) (.int k u) = operate [.str y t, .int k u] (getItem (.str y t) (.int k u)) := by intro _ _; with_unfolding_all rfl)
    (ht : ∀ t r, letTemporaryGo v (.str y t) r = pure () := by intro _ _; with_unfolding_all rfl) : SubP G c v i (.str y) (.int k) H vs Q E := by
  rintro _ _ ⟨t, rfl⟩ ⟨u, rfl⟩ s hs0
  exact item_str (by unfold fitsSsize; simp; omega) (by omega) h1 (fun _ => ⟨.str _, H, vs, ⟨_, rfl⟩, hs0.tok, h⟩) (hs t u) (ht t)

/-! lists -/
theorem b_lists {a b : Addr} {xs ys : List PV} (e1 : H a = some (.list xs)) (e2 : H b = some (.list ys)) (hz : xs.length + ys.length ≤ sizeLine) (h : ∀ d, H d = none → Q (.ref d) (H.set d (.list (xs ++ ys))) vs) : BinP G c .Add (.ref a) (.ref b) H vs Q E := by
  rintro _ _ rfl rfl s ⟨h₀, m, news, S0, V⟩
  obtain ⟨us, n, hm, hr, hl⟩ := S0.list e1
  obtain ⟨ws, n2, hm2, hr2, hl2⟩ := S0.list e2
  refine PySem.P.add_list (S0.N _ hm).1 (S0.N _ hm2).1 ?_ (by rw [List.size_toArray, List.size_toArray, hr.len, hr2.len]; exact hz)
  obtain ⟨S1, hn⟩ := S0.alloc (po := .list (xs ++ ys)) (mo := { cls := .type "list", data := .seq (us.toArray ++ ws.toArray) }) (k := s.toks) (S0.F.push _) (News.push S0.F S0.N _ rfl) (fun q hq => Heap.lt_size (S0.N q hq).1) ⟨us ++ ws, 0, by simp, hr.app hr2⟩
  exact ⟨.ref _, _, vs, rfl, ⟨h₀, m, _, S1, V⟩, h _ hn⟩
theorem k_list {a : Addr} {xs : List PV} (e : H a = some (.list xs)) (hz : xs.length ≤ sizeLine) (h : ∀ d, H d = none → Q (.ref d) (H.set d (.list xs)) vs) : CallP G c (.typ "list") [.ref a] [] [] H vs Q E := by
  rintro _ _ _ rfl (_ | ⟨rfl, _ | _⟩) (_ | _) s ⟨h₀, m, news, S0, V⟩
  obtain ⟨us, n, hm, hr, hl⟩ := S0.list e
  refine list_copyK S0.F S0.N hl (fun D k h' F' N' hD => ?_) (by rw [List.size_toArray, hr.len]; exact hz)
  obtain ⟨S1, hn⟩ := S0.alloc (po := .list xs) (k := s.toks) F' N' hD ⟨us, k, rfl, hr⟩
  exact ⟨.ref _, _, vs, rfl, ⟨h₀, m, _, S1, V⟩, h _ hn⟩
theorem k_pop {a : Addr} {xs : List PV} (e : H a = some (.list (xs ++ [p]))) (hz : xs.length < sizeLine) (h : Q p (H.set a (.list xs)) vs) : CallP G c (.bi "list.pop") [.ref a] [] [] H vs Q E := by
  rintro _ _ _ rfl (_ | ⟨rfl, _ | _⟩) (_ | _) s ⟨h₀, m, news, S0, V⟩
  obtain ⟨us, n, hm, hr, hl⟩ := S0.list e
  have hul : us.length = xs.length + 1 := by rw [hr.len]; simp
  have hdec : us = us.take xs.length ++ [us[xs.length]] := by
    have := List.take_append_getElem (l := us) (i := xs.length) (by omega)
    have e2 : us.take (xs.length + 1) = us := List.take_of_length_le (by omega)
    rw [← this] at e2
    exact e2.symm
  obtain ⟨q, v, rfl⟩ : ∃ q v, us = q ++ [v] := ⟨_, _, hdec⟩
  have hql : q.length = xs.length := by simpa using hul
  obtain ⟨hr1, hr2⟩ := hr.append_inv hql
  cases hr2 with
  | cons hp _ =>
    obtain ⟨news', U, e1, e2⟩ := upd_mem (mo' := listOf (List.toArray q) (n + 1)) hm S0.hr.nodup
    refine kl_pop (p := q) (y := v) S0.F S0.N ?_ U (by simp; omega) fun h' F' N' => ⟨p, _, vs, hp, ⟨h₀, m, news', S0.upd (po' := .list xs) (k := s.toks) e e1 e2 ⟨q, n + 1, rfl, hr1⟩ F' N', V⟩, h⟩
    have : ∀ l : List Value, kl_last (l ++ [v]) = some (l, v) := by
      intro l
      induction l with
      | nil => rfl
      | cons z r ih =>
        show (match kl_last (r ++ [v]) with | some (p, y) => some (z :: p, y) | none => some ([], z)) = _
        rw [ih]
    simpa using this q
end
end Mine
namespace Mine
open PySem.SeqAt

mutual
/-- what a plain value reads as -/
inductive Rd (H : PHeap) : PV → PyData → Prop
  | none : Rd H .none .none
  | bool (b : Bool) : Rd H (.bool b) (.bool b)
  | int (i : Int) : Rd H (.int i) (.int i)
  | str (x : Str) : Rd H (.str x) (.str x)
  | list {a ps ds} : H a = some (.list ps) → RdAll H ps ds → Rd H (.ref a) (.list ds)
  | tup {a ps ds} : H a = some (.tup ps) → RdAll H ps ds → Rd H (.ref a) (.tuple ds)
inductive RdAll (H : PHeap) : List PV → List PyData → Prop
  | nil : RdAll H [] []
  | cons {p d ps ds} : Rd H p d → RdAll H ps ds → RdAll H (p :: ps) (d :: ds)
end
theorem RdAll.len {H : PHeap} : ∀ {ps ds}, RdAll H ps ds → ps.length = ds.length
  | _, _, .nil => rfl
  | _, _, .cons _ h => by simp [h.len]
theorem RdAll.app {H : PHeap} {qs es} (h2 : RdAll H qs es) : ∀ {ps ds}, RdAll H ps ds → RdAll H (ps ++ qs) (ds ++ es)
  | _, _, .nil => h2
  | _, _, .cons h h1 => .cons h (RdAll.app h2 h1)
mutual
theorem Rd.le {H H' : PHeap} (l : H.Le H') : ∀ (d : PyData) {p}, Rd H p d → Rd H' p d
  | .none, _, .none => .none
  | .bool _, _, .bool _ => .bool _
  | .int _, _, .int _ => .int _
  | .str _, _, .str _ => .str _
  | .list ds, _, .list h1 h2 => .list (l _ _ h1) (RdAll.le l ds h2)
  | .tuple ds, _, .tup h1 h2 => .tup (l _ _ h1) (RdAll.le l ds h2)
theorem RdAll.le {H H' : PHeap} (l : H.Le H') : ∀ (ds : List PyData) {ps}, RdAll H ps ds → RdAll H' ps ds
  | [], _, .nil => .nil
  | d :: ds, _, .cons h1 h2 => .cons (Rd.le l d h1) (RdAll.le l ds h2)
end

section
variable {G : Gl} {S : Scope} {c : Cx S} {H : PHeap} {vs : Vars} {E : PX → PHeap → Vars → Prop} {Q : PV → PHeap → Vars → Prop} {QF : PF → PHeap → Vars → Prop} {QU : Unit → PHeap → Vars → Prop} {QB : Bool → PHeap → Vars → Prop} {s : Shared} {h₀ h' : Heap} {m : Str → Option Value} {news : List (Addr × Obj)} {x : Str} {p q : PV} {pos : Pos} {it : Addr}

mutual
theorem eq_rd (S0 : Sat0 G c H m h₀ news s) : ∀ (d : PyData) (A : Around) (p q : PV) (v w : Value), Rd H p d → Rd H q d → PV.R p v → PV.R q w → A.units + d.depth < cLine → EqAt A s v w true
  | .none, A, _, _, _, _, h1, h2, hv, hw, _ => by cases h1; cases h2; cases hv; cases hw; exact EqAt.same _
  | .bool b, A, _, _, _, _, h1, h2, hv, hw, _ => by cases h1; cases h2; cases hv; cases hw; exact EqAt.same _
  | .int i, A, _, _, _, _, h1, h2, hv, hw, _ => by
    cases h1; cases h2; obtain ⟨t, rfl⟩ := hv; obtain ⟨u, rfl⟩ := hw
    have := EqAt.int_int (A := A) (s := s) i t i u
    rwa [show (i == i) = true from beq_self_eq_true i] at this
  | .str i, A, _, _, _, _, h1, h2, hv, hw, _ => by
    cases h1; cases h2; obtain ⟨t, rfl⟩ := hv; obtain ⟨u, rfl⟩ := hw
    have := EqAt.str_str (A := A) (s := s) i t i u
    rwa [show (i == i) = true from beq_self_eq_true i] at this
  | .dict _, A, _, _, _, _, h1, _, _, _, _ => by cases h1
  | .list ds, A, _, _, _, _, h1, h2, hv, hw, hu => by
    cases h1 with
    | @list a _ _ e1 r1 =>
      cases h2 with
      | @list b _ _ e2 r2 =>
        cases hv; cases hw
        obtain ⟨us, n, hm, hr, hl⟩ := S0.list e1
        obtain ⟨ws, n2, hm2, hr2, hl2⟩ := S0.list e2
        have hu' : A.units + (PyData.depthAll ds + 1) < cLine := hu
        by_cases hab : a = b
        · subst hab; exact EqAt.same _
        · have n1 : us.length = ds.length := by rw [hr.len, r1.len]
          have n3 : ws.length = ds.length := by rw [hr2.len, r2.len]
          have := RcAt.lists (A := A) (e := fun _ => true) hl hl2 (by rw [List.size_toArray, List.size_toArray, n1, n3]) (by omega) fun j j1 j2 => by
            have := eq_rdAll S0 ds A.in1 _ _ us ws r1 r2 hr hr2 (by show A.units + 1 + _ < _; omega) j (by simpa using j1) (by simpa using j2)
            simpa using this
          rw [show ((List.range us.toArray.size).all fun _ => true) = true by simp] at this
          exact EqAt.of_refs hab this
  | .tuple ds, A, _, _, _, _, h1, h2, hv, hw, hu => by
    cases h1 with
    | @tup a _ _ e1 r1 =>
      cases h2 with
      | @tup b _ _ e2 r2 =>
        cases hv; cases hw
        obtain ⟨us, n, hm, hr, hl⟩ := S0.tup e1
        obtain ⟨ws, n2, hm2, hr2, hl2⟩ := S0.tup e2
        have hu' : A.units + (PyData.depthAll ds + 1) < cLine := hu
        by_cases hab : a = b
        · subst hab; exact EqAt.same _
        · have n1 : us.length = ds.length := by rw [hr.len, r1.len]
          have n3 : ws.length = ds.length := by rw [hr2.len, r2.len]
          have := RcAt.tuples (A := A) (e := fun _ => true) hl hl2 (by omega) fun j j1 j2 => by
            have := eq_rdAll S0 ds A.in1 _ _ us ws r1 r2 hr hr2 (by show A.units + 1 + _ < _; omega) j (by simpa using j1) (by simpa using j2)
            simpa using this
          rw [show ((List.range (min us.toArray.size ws.toArray.size)).all (fun _ => true) && us.toArray.size == ws.toArray.size) = true by simp [n1, n3]] at this
          exact EqAt.of_refs hab this
theorem eq_rdAll (S0 : Sat0 G c H m h₀ news s) : ∀ (ds : List PyData) (A : Around) (ps qs : List PV) (us ws : List Value), RdAll H ps ds → RdAll H qs ds → RL ps us → RL qs ws → A.units + PyData.depthAll ds < cLine →
    ∀ j (h1 : j < us.length) (h2 : j < ws.length), EqAt A s us[j] ws[j] true
  | [], _, _, _, _, _, r1, _, k1, _, _, j, h1, _ => by cases r1; cases k1; exact absurd h1 (Nat.not_lt_zero _)
  | d :: ds, A, _, _, _, _, r1, r2, k1, k2, hu, j, h1, h2 => by
    have hu' : A.units + max d.depth (PyData.depthAll ds) < cLine := hu
    cases r1 with
    | cons r1 r1' =>
      cases r2 with
      | cons r2 r2' =>
        cases k1 with
        | cons k1 k1' =>
          cases k2 with
          | cons k2 k2' =>
            cases j with
            | zero => exact eq_rd S0 d A _ _ _ _ r1 r2 k1 k2 (by omega)
            | succ j => exact eq_rdAll S0 ds A _ _ _ _ r1' r2' k1' k2' (by omega) j (Nat.lt_of_succ_lt_succ h1) (Nat.lt_of_succ_lt_succ h2)
end

theorem c_same {d : PyData} (h1 : Rd H p d) (h2 : Rd H q d) (hu : c.un + d.depth < cLine) (h : Q (.bool true) H vs) : CmpP G c .Eq p q H vs Q E := by
  rintro v w hv hw s ⟨h₀, m, news, S0, V⟩
  have fin : ∃ r H' vs', PV.R r (.bool true) ∧ Sat G c H' vs' s ∧ Q r H' vs' := ⟨.bool true, H, vs, rfl, ⟨h₀, m, news, S0, V⟩, h⟩
  have key : RcAt c.A s v w true := by
    cases h1 with
    | none => cases h2; cases hv; cases hw; exact RcAt.none_none
    | bool b => cases h2; cases hv; cases hw; have := RcAt.bool_bool (A := c.A) (s := s) b b; rwa [show (b == b) = true by simp] at this
    | int i => cases h2; obtain ⟨t, rfl⟩ := hv; obtain ⟨u, rfl⟩ := hw; have := RcAt.int_int (A := c.A) (s := s) i t i u; rwa [show (i == i) = true by simp] at this
    | str i => cases h2; obtain ⟨t, rfl⟩ := hv; obtain ⟨u, rfl⟩ := hw; have := RcAt.str_str (A := c.A) (s := s) i t i u; rwa [show (i == i) = true by simp] at this
    | @list a _ ds e1 r1 =>
      cases h2 with
      | @list b _ _ e2 r2 =>
        cases hv; cases hw
        obtain ⟨us, n, hm, hr, hl⟩ := S0.list e1
        obtain ⟨ws, n2, hm2, hr2, hl2⟩ := S0.list e2
        have hu' : c.A.units + (PyData.depthAll ds + 1) < cLine := hu
        have n1 : us.length = ds.length := by rw [hr.len, r1.len]
        have n3 : ws.length = ds.length := by rw [hr2.len, r2.len]
        have := RcAt.lists (A := c.A) (e := fun _ => true) hl hl2 (by rw [List.size_toArray, List.size_toArray, n1, n3]) (by omega) fun j j1 j2 => by
          have := eq_rdAll S0 ds c.A.in1 _ _ us ws r1 r2 hr hr2 (by show c.A.units + 1 + _ < _; omega) j (by simpa using j1) (by simpa using j2)
          simpa using this
        rwa [show ((List.range us.toArray.size).all fun _ => true) = true by simp] at this
    | @tup a _ ds e1 r1 =>
      cases h2 with
      | @tup b _ _ e2 r2 =>
        cases hv; cases hw
        obtain ⟨us, n, hm, hr, hl⟩ := S0.tup e1
        obtain ⟨ws, n2, hm2, hr2, hl2⟩ := S0.tup e2
        have hu' : c.A.units + (PyData.depthAll ds + 1) < cLine := hu
        have n1 : us.length = ds.length := by rw [hr.len, r1.len]
        have n3 : ws.length = ds.length := by rw [hr2.len, r2.len]
        have := RcAt.tuples (A := c.A) (e := fun _ => true) hl hl2 (by omega) fun j j1 j2 => by
          have := eq_rdAll S0 ds c.A.in1 _ _ us ws r1 r2 hr hr2 (by show c.A.units + 1 + _ < _; omega) j (by simpa using j1) (by simpa using j2)
          simpa using this
        rwa [show ((List.range (min us.toArray.size ws.toArray.size)).all (fun _ => true) && us.toArray.size == ws.toArray.size) = true by simp [n1, n3]] at this
  exact key G.prog G.w _ _ fin
theorem c_nsame {d : PyData} (h1 : Rd H p d) (h2 : Rd H q d) (hu : c.un + d.depth < cLine) (h : Q (.bool false) H vs) : CmpP G c .NotEq p q H vs Q E := by
  rintro v w hv hw s ⟨h₀, m, news, S0, V⟩
  have fin : ∃ r H' vs', PV.R r (.bool false) ∧ Sat G c H' vs' s ∧ Q r H' vs' := ⟨.bool false, H, vs, rfl, ⟨h₀, m, news, S0, V⟩, h⟩
  have key : RcNeAt c.A s v w false := by
    cases h1 with
    | none => cases h2; cases hv; cases hw; exact RcNeAt.none_none
    | bool b => cases h2; cases hv; cases hw; have := RcNeAt.bool_bool (A := c.A) (s := s) b b; rwa [show (!(b == b)) = false by simp] at this
    | int i => cases h2; obtain ⟨t, rfl⟩ := hv; obtain ⟨u, rfl⟩ := hw; have := RcNeAt.int_int (A := c.A) (s := s) i t i u; rwa [show (!(i == i)) = false by simp] at this
    | str i => cases h2; obtain ⟨t, rfl⟩ := hv; obtain ⟨u, rfl⟩ := hw; have := RcNeAt.str_str (A := c.A) (s := s) i t i u; rwa [show (!(i == i)) = false by simp] at this
    | @list a _ ds e1 r1 =>
      cases h2 with
      | @list b _ _ e2 r2 =>
        cases hv; cases hw
        obtain ⟨us, n, hm, hr, hl⟩ := S0.list e1
        obtain ⟨ws, n2, hm2, hr2, hl2⟩ := S0.list e2
        have hu' : c.A.units + (PyData.depthAll ds + 1) < cLine := hu
        have n1 : us.length = ds.length := by rw [hr.len, r1.len]
        have n3 : ws.length = ds.length := by rw [hr2.len, r2.len]
        have := RcNeAt.lists (A := c.A) (e := fun _ => true) hl hl2 (by rw [List.size_toArray, List.size_toArray, n1, n3]) (by omega) fun j j1 j2 => by
          have := eq_rdAll S0 ds c.A.in1 _ _ us ws r1 r2 hr hr2 (by show c.A.units + 1 + _ < _; omega) j (by simpa using j1) (by simpa using j2)
          simpa using this
        rwa [show (!((List.range us.toArray.size).all fun _ => true)) = false by simp] at this
    | @tup a _ ds e1 r1 =>
      cases h2 with
      | @tup b _ _ e2 r2 =>
        cases hv; cases hw
        obtain ⟨us, n, hm, hr, hl⟩ := S0.tup e1
        obtain ⟨ws, n2, hm2, hr2, hl2⟩ := S0.tup e2
        have hu' : c.A.units + (PyData.depthAll ds + 1) < cLine := hu
        have n1 : us.length = ds.length := by rw [hr.len, r1.len]
        have n3 : ws.length = ds.length := by rw [hr2.len, r2.len]
        have := RcNeAt.tuples (A := c.A) (e := fun _ => true) hl hl2 (by omega) fun j j1 j2 => by
          have := eq_rdAll S0 ds c.A.in1 _ _ us ws r1 r2 hr hr2 (by show c.A.units + 1 + _ < _; omega) j (by simpa using j1) (by simpa using j2)
          simpa using this
        rwa [show (!((List.range (min us.toArray.size ws.toArray.size)).all (fun _ => true) && us.toArray.size == ws.toArray.size)) = false by simp [n1, n3]] at this
  exact key G.prog G.w _ _ fin

/-- a list against the empty list -/
theorem c_empty {a b : Addr} {xs : List PV} (e1 : H a = some (.list xs)) (e2 : H b = some (.list [])) (hu : c.un < 9000) (h : Q (.bool xs.isEmpty) H vs) : CmpP G c .Eq (.ref a) (.ref b) H vs Q E := by
  cases xs with
  | nil => exact c_same (d := .list []) (.list e1 .nil) (.list e2 .nil) (by show c.un + (0 + 1) < 9900; omega) h
  | cons y ys =>
    rintro _ _ rfl rfl s ⟨h₀, m, news, S0, V⟩
    obtain ⟨us, n, hm, hr, hl⟩ := S0.list e1
    obtain ⟨ws, n2, hm2, hr2, hl2⟩ := S0.list e2
    cases hr2
    have key := RcAt.lists_lengths (A := c.A) hl hl2 (by rw [List.size_toArray, hr.len]; simp) (by show c.un < 9900; omega)
    exact key G.prog G.w _ _ ⟨.bool false, H, vs, rfl, ⟨h₀, m, news, S0, V⟩, h⟩
theorem c_nempty {a b : Addr} {xs : List PV} (e1 : H a = some (.list xs)) (e2 : H b = some (.list [])) (hu : c.un < 9000) (h : Q (.bool (!xs.isEmpty)) H vs) : CmpP G c .NotEq (.ref a) (.ref b) H vs Q E := by
  cases xs with
  | nil => exact c_nsame (d := .list []) (.list e1 .nil) (.list e2 .nil) (by show c.un + (0 + 1) < 9900; omega) h
  | cons y ys =>
    rintro _ _ rfl rfl s ⟨h₀, m, news, S0, V⟩
    obtain ⟨us, n, hm, hr, hl⟩ := S0.list e1
    obtain ⟨ws, n2, hm2, hr2, hl2⟩ := S0.list e2
    cases hr2
    have key := RcNeAt.lists_lengths (A := c.A) hl hl2 (by rw [List.size_toArray, hr.len]; simp) (by show c.un < 9900; omega)
    exact key G.prog G.w _ _ ⟨.bool true, H, vs, rfl, ⟨h₀, m, news, S0, V⟩, h⟩

/-! least and greatest -/
theorem Sat.keep (hs : Sat G c H vs s) (hk : ∀ b o, s.heap.get? b = some o → h'.get? b = some o) {k : Nat} : Sat G c H vs { s with heap := h', toks := k } := by
  obtain ⟨h₀, m, news, S0, V⟩ := hs
  exact ⟨h₀, m, news, ⟨S0.F.keeps hk, fun q hq => ⟨hk _ _ (S0.N q hq).1, (S0.N q hq).2⟩, S0.B, S0.bk, S0.hr, S0.dj, S0.g, S0.d, S0.o⟩, V⟩
theorem k_max2 {i j : Int} (hd : c.hd = none) (h : Q (.int (max i j)) H vs) : CallP G c (.bi "max") [.int i, .int j] [] [] H vs Q E := by
  rintro _ _ _ rfl (_ | ⟨⟨t, rfl⟩, _ | ⟨⟨u, rfl⟩, _ | _⟩⟩) (_ | _) s hs
  refine max_two_ints hd fun h' tk hk => ?_
  split
  · exact ⟨.int (max i j), H, vs, ⟨u, by congr 1; omega⟩, hs.keep hk, h⟩
  · exact ⟨.int (max i j), H, vs, ⟨t, by congr 1; omega⟩, hs.keep hk, h⟩
theorem k_min2 {i j : Int} (hd : c.hd = none) (h : Q (.int (min i j)) H vs) : CallP G c (.bi "min") [.int i, .int j] [] [] H vs Q E := by
  rintro _ _ _ rfl (_ | ⟨⟨t, rfl⟩, _ | ⟨⟨u, rfl⟩, _ | _⟩⟩) (_ | _) s hs
  refine min_two_ints hd fun h' tk hk => ?_
  split
  · exact ⟨.int (min i j), H, vs, ⟨u, by congr 1; omega⟩, hs.keep hk, h⟩
  · exact ⟨.int (min i j), H, vs, ⟨t, by congr 1; omega⟩, hs.keep hk, h⟩

theorem RL.ints : ∀ {is : List Int} {us : List Value}, RL (is.map .int) us → ∃ xs : List (Int × Tok), us = xs.map (fun p => .int p.1 p.2) ∧ xs.map (·.1) = is
  | [], _, .nil => ⟨[], rfl, rfl⟩
  | i :: is, _, .cons ⟨t, e⟩ h => by
    obtain ⟨xs, rfl, rfl⟩ := RL.ints h
    exact ⟨(i, t) :: xs, by rw [e]; rfl, rfl⟩
theorem RL.intsAre : ∀ {is : List Int} {us : List Value}, RL (is.map .int) us → PyProof.Rows.IntsAre us is
  | [], _, .nil => .nil
  | i :: is, _, .cons ⟨t, e⟩ h => by rw [e]; exact .cons i t (RL.intsAre h)

theorem argBest_max (f : Nat → Int) : ∀ n, argBest (fun i j => decide (f i > f j)) n ≤ n ∧ ∀ i, i ≤ n → f i ≤ f (argBest (fun i j => decide (f i > f j)) n)
  | 0 => ⟨Nat.le_refl _, fun i hi => by rw [Nat.le_zero.mp hi]; exact Int.le_refl _⟩
  | n + 1 => by
    obtain ⟨a, b⟩ := argBest_max f n
    unfold argBest
    split
    · rename_i hc
      have hc := of_decide_eq_true hc
      refine ⟨Nat.le_refl _, fun i hi => ?_⟩
      rcases Nat.lt_or_eq_of_le hi with h | rfl
      · have := b i (by omega); omega
      · exact Int.le_refl _
    · rename_i hc
      have hc : ¬ _ := fun z => hc (decide_eq_true z)
      refine ⟨by omega, fun i hi => ?_⟩
      rcases Nat.lt_or_eq_of_le hi with h | rfl
      · exact b i (by omega)
      · omega
theorem argBest_min (f : Nat → Int) : ∀ n, argBest (fun i j => decide (f i < f j)) n ≤ n ∧ ∀ i, i ≤ n → f (argBest (fun i j => decide (f i < f j)) n) ≤ f i
  | 0 => ⟨Nat.le_refl _, fun i hi => by rw [Nat.le_zero.mp hi]; exact Int.le_refl _⟩
  | n + 1 => by
    obtain ⟨a, b⟩ := argBest_min f n
    unfold argBest
    split
    · rename_i hc
      have hc := of_decide_eq_true hc
      refine ⟨Nat.le_refl _, fun i hi => ?_⟩
      rcases Nat.lt_or_eq_of_le hi with h | rfl
      · have := b i (by omega); omega
      · exact Int.le_refl _
    · rename_i hc
      have hc : ¬ _ := fun z => hc (decide_eq_true z)
      refine ⟨by omega, fun i hi => ?_⟩
      rcases Nat.lt_or_eq_of_le hi with h | rfl
      · exact b i (by omega)
      · omega

theorem k_maxl {a : Addr} {is : List Int} {i : Int} (hd : c.hd = none) (e : H a = some (.list (is.map .int))) (hi : i ∈ is) (hm : ∀ j ∈ is, j ≤ i) (h : Q (.int i) H vs) : CallP G c (.bi "max") [.ref a] [] [] H vs Q E := by
  rintro _ _ _ rfl (_ | ⟨rfl, _ | _⟩) (_ | _) s hs
  obtain ⟨h₀, m, news, S0, V⟩ := id hs
  obtain ⟨us, n, hmm, hr, hl⟩ := S0.list e
  obtain ⟨xs, rfl, rfl⟩ := hr.ints
  have hl' : s.heap.IsList a (intItems xs.toArray) := by unfold intItems; simpa using hl
  obtain ⟨x0, hx0, rfl⟩ := List.mem_map.mp hi
  have hpos : 0 < xs.length := List.length_pos_of_mem hx0
  refine max_intList hd hl' (by simpa using hpos) fun v h' tk hv hk => ?_
  obtain ⟨hle, hbest⟩ := argBest_max (numAt xs.toArray) (xs.toArray.size - 1)
  obtain ⟨t, rfl⟩ := intItems_at hv
  obtain ⟨k, hk1, hk2⟩ := List.mem_iff_getElem.mp hx0
  have h1 := hbest k (by simp; omega)
  have h2 : numAt xs.toArray k = x0.1 := by unfold numAt; simp [hk1, hk2]
  have h3 : numAt xs.toArray (argBest (fun i j => decide (numAt xs.toArray i > numAt xs.toArray j)) (xs.toArray.size - 1)) ≤ x0.1 := by
    refine hm _ ?_
    generalize argBest (fun i j => decide (numAt xs.toArray i > numAt xs.toArray j)) (xs.toArray.size - 1) = z at hle
    have hz : z < xs.length := by simp at hle; omega
    have : numAt xs.toArray z = (xs[z]).1 := by unfold numAt; simp [hz]
    rw [this]
    exact List.mem_map_of_mem (List.getElem_mem hz)
  have h4 : numAt xs.toArray (argBest (fun i j => decide (numAt xs.toArray i > numAt xs.toArray j)) (xs.toArray.size - 1)) = x0.1 := by omega
  exact ⟨.int x0.1, H, vs, ⟨t, by rw [h4]⟩, hs.keep hk, h⟩
theorem k_minl {a : Addr} {is : List Int} {i : Int} (hd : c.hd = none) (e : H a = some (.list (is.map .int))) (hi : i ∈ is) (hm : ∀ j ∈ is, i ≤ j) (h : Q (.int i) H vs) : CallP G c (.bi "min") [.ref a] [] [] H vs Q E := by
  rintro _ _ _ rfl (_ | ⟨rfl, _ | _⟩) (_ | _) s hs
  obtain ⟨h₀, m, news, S0, V⟩ := id hs
  obtain ⟨us, n, hmm, hr, hl⟩ := S0.list e
  obtain ⟨xs, rfl, rfl⟩ := hr.ints
  have hl' : s.heap.IsList a (intItems xs.toArray) := by unfold intItems; simpa using hl
  obtain ⟨x0, hx0, rfl⟩ := List.mem_map.mp hi
  have hpos : 0 < xs.length := List.length_pos_of_mem hx0
  refine min_intList hd hl' (by simpa using hpos) fun v h' tk hv hk => ?_
  obtain ⟨hle, hbest⟩ := argBest_min (numAt xs.toArray) (xs.toArray.size - 1)
  obtain ⟨t, rfl⟩ := intItems_at hv
  obtain ⟨k, hk1, hk2⟩ := List.mem_iff_getElem.mp hx0
  have h1 := hbest k (by simp; omega)
  have h2 : numAt xs.toArray k = x0.1 := by unfold numAt; simp [hk1, hk2]
  have h3 : x0.1 ≤ numAt xs.toArray (argBest (fun i j => decide (numAt xs.toArray i < numAt xs.toArray j)) (xs.toArray.size - 1)) := by
    refine hm _ ?_
    generalize argBest (fun i j => decide (numAt xs.toArray i < numAt xs.toArray j)) (xs.toArray.size - 1) = z at hle
    have hz : z < xs.length := by simp at hle; omega
    have : numAt xs.toArray z = (xs[z]).1 := by unfold numAt; simp [hz]
    rw [this]
    exact List.mem_map_of_mem (List.getElem_mem hz)
  have h4 : numAt xs.toArray (argBest (fun i j => decide (numAt xs.toArray i < numAt xs.toArray j)) (xs.toArray.size - 1)) = x0.1 := by omega
  exact ⟨.int x0.1, H, vs, ⟨t, by rw [h4]⟩, hs.keep hk, h⟩

/-- the digits of an int -/
def digs (i : Int) : Str := Str.ofString (toString i)
theorem k_str {i : Int} (hi : i.natAbs < 2 ^ 60) (h : Q (.str (digs i)) H vs) : CallP G c (.typ "str") [.int i] [] [] H vs Q E := by
  rintro _ _ _ rfl (_ | ⟨⟨t, rfl⟩, _ | _⟩) (_ | _) s hs
  refine PySem.P.str_of_int ?_ ⟨.str (digs i), H, vs, ⟨_, rfl⟩, hs.tok, h⟩
  by_cases h0 : i.natAbs = 0
  · rw [h0]; decide
  · exact Nat.lt_trans ((Nat.log2_lt h0).mpr hi) (by decide)
theorem c_notin {a : Addr} {is : List Int} {i : Int} (e : H a = some (.list (is.map .int))) (h : Q (.bool (!is.contains i)) H vs) : CmpP G c .NotIn (.int i) (.ref a) H vs Q E := by
  rintro _ _ ⟨t, rfl⟩ rfl s hs
  obtain ⟨h₀, m, news, S0, V⟩ := id hs
  obtain ⟨us, n, hmm, hr, hl⟩ := S0.list e
  have hi := hr.intsAre
  have hany : ∀ {us : List Value} {is : List Int}, PyProof.Rows.IntsAre us is → (us.any fun y => isInt i y) = is.contains i := by
    intro us is hi
    induction hi with
    | nil => rfl
    | cons n t _ ih =>
      rw [List.any_cons, ih, List.contains_cons]
      have e1 : isInt i (.int n t) = (n == i) := rfl
      rw [e1, Bool.beq_comm]
  refine PySem.SeqRoads2.notIn_list (e := fun y => isInt i y) ?_ (S0.N _ hmm).1 ?_
  · have : ∀ {us : List Value} {is : List Int}, PyProof.Rows.IntsAre us is → kf_ints us = true := by
      intro us is hi
      induction hi with
      | nil => rfl
      | cons n t _ ih => exact ih
    intro y hy
    exact kf_eq (this hi) y (by simpa using hy)
  · have : (us.toArray.any fun y => isInt i y) = is.contains i := by rw [← hany hi]; simp
    rw [this]
    exact ⟨.bool (!is.contains i), H, vs, rfl, hs, h⟩
theorem k_index {a : Addr} {is : List Int} {i : Int} (e : H a = some (.list (is.map .int))) (hi : i ∈ is) (hz : is.length ≤ sizeLine) (h : Q (.int (is.idxOf i : Nat)) H vs) : CallP G c (.bi "list.index") [.ref a, .int i] [] [] H vs Q E := by
  rintro _ _ _ rfl (_ | ⟨rfl, _ | ⟨⟨t, rfl⟩, _ | _⟩⟩) (_ | _) s hs
  obtain ⟨h₀, m, news, S0, V⟩ := id hs
  obtain ⟨us, n, hmm, hr, hl⟩ := S0.list e
  have hI := hr.intsAre
  have hat : ∀ {us : List Value} {is : List Int}, PyProof.Rows.IntsAre us is → i ∈ is → kf_at i us = some (is.idxOf i) ∧ kf_ints us = true := by
    intro us is hI
    induction hI with
    | nil => intro h; cases h
    | @cons n t us is hI ih =>
      intro h
      have hk : kf_ints us = true := by
        clear ih h
        induction hI with
        | nil => rfl
        | cons n t _ ih => exact ih
      refine ⟨?_, hk⟩
      show cond (n == i) (some 0) _ = _
      rw [List.idxOf_cons]
      cases hn : n == i with
      | true => rfl
      | false =>
        have : i ∈ is := by
          rcases List.mem_cons.mp h with rfl | h
          · simp at hn
          · exact h
        rw [(ih this).1]
        rfl
  obtain ⟨k1, k2⟩ := hat hI hi
  refine kf_index (its := us.toArray) (n := n) (j := is.idxOf i) (i := (is.idxOf i : Nat)) S0.N hmm k2 k1 rfl (by rw [show us.toArray.toList = us from rfl, hr.len]; simpa using hz) ⟨.int (is.idxOf i : Nat), H, vs, ⟨_, rfl⟩, hs.tok, h⟩
theorem b_mull {a : Addr} {n : Int} (e : H a = some (.list [p])) (h0 : 0 ≤ n) (h1 : n ≤ 2 ^ 24) (h : ∀ d, H d = none → Q (.ref d) (H.set d (.list (List.replicate n.toNat p))) vs) : BinP G c .Mult (.ref a) (.int n) H vs Q E := by
  rintro _ _ rfl ⟨t, rfl⟩ s ⟨h₀, m, news, S0, V⟩
  obtain ⟨us, k, hm, hr, hl⟩ := S0.list e
  cases hr with
  | cons hp hr =>
    cases hr
    rename_i v
    refine mul_list S0.F S0.N (S0.N _ hm).1 (by omega) (by omega) (by simp; omega) fun h' F' N' => ?_
    have hrep : List.foldl (fun x1 x2 => x1 ++ x2) #[] (List.replicate n.toNat #[v]) = (List.replicate n.toNat v).toArray := by
      have : ∀ (k : Nat) (acc : Array Value), List.foldl (fun x1 x2 => x1 ++ x2) acc (List.replicate k #[v]) = acc ++ (List.replicate k v).toArray := by
        intro k
        induction k with
        | zero => intro acc; simp
        | succ k ih => intro acc; rw [List.replicate_succ, List.foldl_cons, ih, List.replicate_succ]; apply Array.ext'; simp
      rw [this]; simp
    have hrl : ∀ k, RL (List.replicate k p) (List.replicate k v) := by
      intro k
      induction k with
      | zero => exact .nil
      | succ k ih => rw [List.replicate_succ, List.replicate_succ]; exact .cons hp ih
    obtain ⟨S1, hn⟩ := S0.alloc (po := .list (List.replicate n.toNat p)) (k := s.toks) F' N' (fun q hq => Heap.lt_size (S0.N q hq).1) ⟨_, 0, by rw [show (if (List.toArray [v]).isEmpty = true then 0 else n.toNat) = n.toNat by simp]; rw [hrep], hrl _⟩
    exact ⟨.ref _, _, vs, rfl, ⟨h₀, m, _, S1, V⟩, h _ hn⟩
end
end Mine
namespace Mine

def PHeap.del (H : PHeap) (a : Addr) : PHeap := fun b => if b = a then none else H b
theorem PHeap.del_set {H : PHeap} {a : Addr} {o : PO} (h : H a = none) : (H.set a o).del a = H := by
  funext b
  unfold PHeap.del PHeap.set
  by_cases hb : b = a
  · subst hb; simp [h]
  · simp [hb]

def enumObj (it : Addr) : Obj := { cls := .type "enumerate", dict := none, data := .fields #[.none, .bool false, .ref it, rawInt 0, .none, .none], slots := #[] }

section
variable {G : Gl} {S : Scope} {c : Cx S} {H : PHeap} {vs : Vars} {E : PX → PHeap → Vars → Prop} {Q : PV → PHeap → Vars → Prop} {QF : PF → PHeap → Vars → Prop} {QU : Unit → PHeap → Vars → Prop} {QB : Bool → PHeap → Vars → Prop} {s : Shared} {h₀ h' : Heap} {m : Str → Option Value} {news : List (Addr × Obj)} {x : Str} {p : PV} {pos : Pos} {it : Addr} {o : Obj}

theorem Sat0.adopt (S0 : Sat0 G c H m h₀ news s) {a : Addr} (h1 : a ∉ news.map (·.1)) (h2 : a ≠ c.L) (h3 : h₀.get? a = none) (h4 : s.heap.get? a = some o) : Sat0 G (c.wp [(a, o)]) H m h₀ ((a, o) :: news) s := by
  obtain ⟨hp, hh⟩ := S0.off h1
  have heq : ext (c.wp [(a, o)]).P H = (ext c.P H).set a (.raw o) := by
    funext b
    show ext ((a, o) :: c.P) H b = _
    unfold ext PHeap.set
    by_cases hb : b = a
    · subst hb; simp [List.lookup]
    · simp [List.lookup, hb, beq_false_of_ne hb]
  refine ⟨S0.F, fun q hq => ?_, S0.B, S0.bk, heq ▸ S0.hr.cons h1 rfl, fun b hb => ?_, S0.g, S0.d, S0.o⟩
  · rcases List.mem_cons.mp hq with rfl | hq
    · exact ⟨h4, h2, h3⟩
    · exact S0.N q hq
  · by_cases e : b = a
    · rw [e]; exact hh
    · refine S0.dj b ?_
      have hb' : (List.lookup b ((a, o) :: c.P)).isSome = true := hb
      rw [List.lookup_cons, beq_false_of_ne e] at hb'
      exact hb'
theorem Sat0.adoptP (S0 : Sat0 G c H m h₀ news s) {a : Addr} {po : PO} (h1 : a ∉ news.map (·.1)) (h2 : a ≠ c.L) (h3 : h₀.get? a = none) (h4 : s.heap.get? a = some o) (hr : PO.R po o) : Sat0 G c (H.set a po) m h₀ ((a, o) :: news) s ∧ H a = none := by
  obtain ⟨hp, hh⟩ := S0.off h1
  refine ⟨⟨S0.F, fun q hq => ?_, S0.B, S0.bk, by rw [ext_set hp]; exact S0.hr.cons h1 hr, fun b hb => ?_, S0.g, S0.d, S0.o⟩, hh⟩
  · rcases List.mem_cons.mp hq with rfl | hq
    · exact ⟨h4, h2, h3⟩
    · exact S0.N q hq
  · rw [PHeap.set_ne]
    · exact S0.dj b hb
    · intro e; rw [e, hp] at hb; cases hb
theorem Sat0.leap (S0 : Sat0 G c H m h₀ news s) {a b : Addr} {k : Nat} (ha : a ∉ news.map (·.1)) (ha2 : a ≠ c.L) (ha3 : h₀.get? a = none) (hb : b ∉ news.map (·.1)) (hb2 : b ≠ c.L) (hb3 : h₀.get? b = none)
    (hk : ∀ d o, d ≠ a → d ≠ b → s.heap.get? d = some o → h'.get? d = some o) : Sat0 G c H m h₀ news { s with heap := h', toks := k } := by
  obtain ⟨oL, es, ep, hL, r⟩ := S0.F.ns
  have off : ∀ {d : Addr} {z : Addr} {o : Obj}, (d, o) ∈ news → z ∉ news.map (·.1) → d ≠ z := fun hm hz e => hz (e ▸ List.mem_map_of_mem (f := (·.1)) hm)
  refine ⟨⟨⟨oL, es, ep, hk _ _ (Ne.symm ha2) (Ne.symm hb2) hL, r⟩, fun d o e => hk d o (fun q => by rw [q, ha3] at e; cases e) (fun q => by rw [q, hb3] at e; cases e) (S0.F.keep d o e), S0.F.above⟩,
    fun q hq => ⟨hk _ _ (off hq ha) (off hq hb) (S0.N q hq).1, (S0.N q hq).2⟩, S0.B, S0.bk, S0.hr, S0.dj, S0.g, S0.d, S0.o⟩
theorem Sat0.publish (S0 : Sat0 G c H m h₀ news s) {a : Addr} (e : H a = some (.raw o)) : Sat0 G (c.wp [(a, o)]) (H.del a) m h₀ news s ∧ c.P.lookup a = none := by
  have hp : c.P.lookup a = none := by
    cases q : c.P.lookup a with
    | none => rfl
    | some z => have := S0.dj a (by rw [q]; rfl); rw [e] at this; cases this
  have heq : ext (c.wp [(a, o)]).P (H.del a) = ext c.P H := by
    funext b
    show ext ((a, o) :: c.P) (H.del a) b = _
    unfold ext PHeap.del
    by_cases hb : b = a
    · subst hb; simp [List.lookup, hp, e]
    · simp [List.lookup, hb, beq_false_of_ne hb]
  refine ⟨⟨S0.F, S0.N, S0.B, S0.bk, heq ▸ S0.hr, fun b hb => ?_, S0.g, S0.d, S0.o⟩, hp⟩
  unfold PHeap.del
  by_cases eb : b = a
  · simp [eb]
  · simp only [eb, if_false]
    refine S0.dj b ?_
    have hb' : (List.lookup b ((a, o) :: c.P)).isSome = true := hb
    rw [List.lookup_cons, beq_false_of_ne eb] at hb'
    exact hb'
theorem Sat0.unwp' (S0 : Sat0 G (c.wp [(it, o)]) H m h₀ news s) (hp : c.P.lookup it = none) : (∃ news', Sat0 G c H m h₀ news' s ∧ it ∉ news'.map (·.1)) ∧ it ≠ c.L ∧ h₀.get? it = none ∧ s.heap.get? it = some o := by
  obtain ⟨hm, hn⟩ := S0.priv
  obtain ⟨news', S1⟩ := S0.unwp hp
  have z := S0.N _ hm
  refine ⟨⟨news', S1, fun q => ?_⟩, z.2.1, z.2.2, z.1⟩
  obtain ⟨r, hr, e⟩ := List.mem_map.mp q
  obtain ⟨o', e', _⟩ := S1.hr.to r hr
  rw [e] at e'
  unfold ext at e'
  rw [hp, hn] at e'
  cases e'

/-- what enumerate gives -/
def EnumP (l : Addr) (p : PV) (H1 : PHeap) (K : PHeap → Prop) : Prop := ∃ e it H0 oi, p = .ref e ∧ H1 = (PHeap.set H0 it (.raw oi)).set e (.raw (enumObj it)) ∧ oi.cls = .type "list_iterator" ∧ oi.data = .fields #[.ref l, .int 0 0] ∧ H0 it = none ∧ H0 e = none ∧ e ≠ it ∧ K H0

theorem k_enum {l : Addr} {xs : List PV} (e : H l = some (.list xs)) (h : ∀ q H1, EnumP l q H1 (fun H0 => H0 = H) → Q q H1 vs) : CallP G c (.typ "enumerate") [.ref l] [] [] H vs Q E := by
  rintro _ _ _ rfl (_ | ⟨rfl, _ | _⟩) (_ | _) s ⟨h₀, m, news, S0, V⟩
  obtain ⟨us, n, hm, hr, hl⟩ := S0.list e
  refine call_enumerate_list hl fun h' he hli hsz hk => ?_
  obtain ⟨oi, hoi, hci, hdi⟩ := hli
  have hlt : ∀ q ∈ news, q.1 < s.heap.objs.size := fun q hq => Heap.lt_size (S0.N q hq).1
  have hLs : c.L < s.heap.objs.size := by
    obtain ⟨oL, es, ep, hL, _⟩ := S0.F.ns
    exact Heap.lt_size hL
  have S1 : Sat0 G c H m h₀ news { s with heap := h', toks := s.toks } := ⟨S0.F.keeps hk, fun q hq => ⟨hk _ _ (S0.N q hq).1, (S0.N q hq).2⟩, S0.B, S0.bk, S0.hr, S0.dj, S0.g, S0.d, S0.o⟩
  have z3 : ∀ a, s.heap.objs.size ≤ a → h₀.get? a = none := fun a ha => by
    cases q : h₀.get? a with
    | none => rfl
    | some o => exact absurd (Heap.lt_size (S0.F.keep _ _ q)) (Nat.not_lt.mpr ha)
  have hoi' : PO.R (.raw oi) oi := rfl
  obtain ⟨S2, hn1⟩ := S1.adoptP (a := s.heap.objs.size) (po := .raw oi) (fun hm => by obtain ⟨q, hq, e⟩ := List.mem_map.mp hm; have := hlt q hq; rw [e] at this; exact Nat.lt_irrefl _ this) (Nat.ne_of_gt hLs) (z3 _ (Nat.le_refl _)) hoi rfl
  obtain ⟨S3, hn2⟩ := S2.adoptP (a := s.heap.objs.size + 1) (po := .raw (enumObj s.heap.objs.size)) (fun hm => by
    rcases List.mem_cons.mp hm with e | hm
    · exact absurd e (Nat.succ_ne_self _)
    · obtain ⟨q, hq, e⟩ := List.mem_map.mp hm
      have := hlt q hq
      rw [e] at this
      exact absurd this (Nat.not_lt.mpr (Nat.le_succ _))) (Nat.ne_of_gt (Nat.lt_succ_of_lt hLs)) (z3 _ (Nat.le_succ _)) he rfl
  have hne : H (s.heap.objs.size + 1) = none := by
    rw [PHeap.set_ne (Nat.succ_ne_self _)] at hn2
    exact hn2
  exact ⟨.ref _, _, vs, rfl, ⟨h₀, m, _, S3, V⟩, h _ _ ⟨_, _, H, oi, rfl, rfl, hci, hdi, hn1, hne, Nat.succ_ne_self _, rfl⟩⟩

theorem t_forenum {l : Addr} {n : Nat} {xi xv : Str} {pi pv pt : Pos} {k1 : Nat} {iter : Expr} {body : List Stmt} (hc : c.Ok) (ho : c.own = true) (hd : c.hd = none) (hf : ∀ x, foldedSetIterable iter c.env x = pure x) (hxi : S.names.lookup xi = some .local) (hxv : S.names.lookup xv = some .local)
    (I : Nat → PHeap → Vars → Prop)
    (h : T G c PV.R (eval iter c.env) H vs (fun p H1 vs1 => EnumP l p H1 (fun H0 => I 0 H0 vs1)) E)
    (hI : ∀ k H1 vs1, I k H1 vs1 → ∃ ys, H1 l = some (.list ys) ∧ ys.length = n)
    (step : ∀ k H1 vs1 ys y, k < n → I k H1 vs1 → H1 l = some (.list ys) → ys[k]? = some y → ∀ P t, H1 t = none → T G (c.wp P) PF.R (execs body (c.wp P).env) (H1.set t (.tup [.int k, y])) (putV xv y (putV xi (.int k) vs1)) (ForN (fun H2 vs2 => I (k + 1) H2 vs2) QF) E)
    (hend : ∀ H1 vs1, I n H1 vs1 → QF .next H1 vs1) :
    T G c PF.R (exec (.For (.Tuple [.Name xi pi, .Name xv pv] k1 pt) iter body [] pos) c.env) H vs QF E := fun s hs => by
  refine wpAny_For (wpAny_mono (h s hs) (fun v s1 ⟨p, H1, vs1, hp, hs1, e, it, H0, oi, hpe, hH1, hci, hdi, hni, hne, hei, h0⟩ => ?_) fun _ _ x => x) hf
  subst hpe hH1
  cases hp
  obtain ⟨h₀, m, news, S0, V⟩ := hs1
  obtain ⟨S1, hpe⟩ := S0.publish (a := e) PHeap.set_self
  rw [PHeap.del_set (by rw [PHeap.set_ne hei]; exact hne)] at S1
  obtain ⟨S2, hpi⟩ := S1.publish (a := it) PHeap.set_self
  rw [PHeap.del_set hni] at S2
  have hpi2 : ∀ z, (c.wp [(e, z)]).P.lookup it = none := fun z => by
    have : List.lookup it ((e, enumObj it) :: c.P) = none := hpi
    rw [List.lookup_cons, beq_false_of_ne (Ne.symm hei)] at this
    show List.lookup it ((e, z) :: c.P) = none
    rw [List.lookup_cons, beq_false_of_ne (Ne.symm hei)]
    exact this
  have he0 := (S1.unwp' hpe).2.2.2
  refine wpAny_pyIter_enum (i := 0) (old := .none) he0 ?_
  have exn : ∀ (P : List (Addr × Obj)) (o1 o2 : Obj) (e' : Value) (s' : Shared), P = [(it, o2)] ++ [(e, o1)] → (∃ x H' vs', ExSat G (c.wp P) H' vs' x e' s' ∧ E x H' vs') → notedBy (model G.prog G.w) c.A c.env (fun e s' => cameBackBy (model G.prog G.w) c.A c.env (fun e s' => ∃ x H' vs', ExSat G c H' vs' x e s' ∧ E x H' vs') e s') e' s' := fun P o1 o2 e' s' hP ⟨x, H', vs', hx, hE⟩ => by
    subst hP
    exact ex_loop hc ho (ex_unwp (it := e) (o := o1) (ex_unwp (c := c.wp [(e, o1)]) (it := it) (o := o2) hx (hpi2 _)) hpe) hE
  refine codeAny_forLoop_any (fun nn s => ∃ k oi old H vs, nn = n - k ∧ k ≤ n ∧ oi.cls = .type "list_iterator" ∧ oi.data = .fields #[.ref l, .int (k : Int) 0] ∧ I k H vs ∧
    Sat G ((c.wp [(e, ({ cls := .type "enumerate", dict := none, data := .fields #[.none, .bool false, .ref it, rawInt k, .none, old], slots := #[] } : Obj))]).wp [(it, oi)]) H vs s) (fun nn s hI' => ?_) n ⟨0, oi, .none, H0, vs1, rfl, Nat.zero_le _, hci, hdi, h0, h₀, m, news, S2, V⟩
  obtain ⟨k, oi, old, H, vs, rfl, hk, hci, hdi, hIk, hs⟩ := hI'
  obtain ⟨ys, hys, hlen⟩ := hI k H vs hIk
  obtain ⟨h₀, m, news, S0, V⟩ := hs
  obtain ⟨⟨n1, S1, o1⟩, b1, d1, g1⟩ := S0.unwp' (hpi2 _)
  obtain ⟨⟨n2, S2, o2⟩, b2, d2, g2⟩ := S1.unwp' hpe
  have oit : it ∉ n2.map (·.1) := fun hm => by
    obtain ⟨q, hq, eq⟩ := List.mem_map.mp hm
    obtain ⟨o', e', _⟩ := S2.hr.to q hq
    have h1 := (S1.hr.from' q.1 o' (by
      have hqe : q.1 ≠ e := by rw [eq]; exact Ne.symm hei
      show ext ((e, _) :: c.P) H q.1 = _
      unfold ext at e' ⊢
      rw [List.lookup_cons, beq_false_of_ne hqe]
      exact e'))
    obtain ⟨mo, hmo⟩ := h1
    exact o1 (eq ▸ List.mem_map_of_mem (f := (·.1)) hmo)
  obtain ⟨us, nn, hm, hr, hl⟩ := S2.list hys
  have hli : s.heap.IsListIter it l k := ⟨oi, g1, hci, hdi⟩
  by_cases hkn : k < n
  · obtain ⟨y, hy⟩ : ∃ y, ys[k]? = some y := ⟨ys[k]'(by omega), by simp [hlen, hkn]⟩
    obtain ⟨v, hv, hyv⟩ := hr.get hy
    refine wpAny_pyNext_enum_item (i := k) (old := old) g2 hli hl (by simpa using hv) hei fun h' hout hli' htup hsz hkeep => ?_
    have S3 := S2.leap (k := s.toks + 1) o2 b2 d2 oit b1 d1 hkeep
    have hall : ∀ z o, s.heap.get? z = some o → z < s.heap.objs.size := fun z o q => Heap.lt_size q
    have z3 : h₀.get? s.heap.objs.size = none := by
      cases q : h₀.get? s.heap.objs.size with
      | none => rfl
      | some o => exact absurd (Heap.lt_size (S0.F.keep _ _ q)) (Nat.lt_irrefl _)
    refine wpAny_letOwnedTupleGo_enum hout fun h2 he2 hsb2 => ?_
    have hkeep2 : ∀ d o, d ≠ e → d ≠ it → s.heap.get? d = some o → h2.get? d = some o := fun d o a b q => (hsb2.2 d a).trans (hkeep d o a b q)
    have S4 := S2.leap (k := s.toks + 1) o2 b2 d2 oit b1 d1 hkeep2
    have heL := hall _ _ g2
    have hiL := hall _ _ g1
    obtain ⟨oi', hoi', hci', hdi'⟩ := hli'
    have S5 := S4.adopt o2 b2 d2 (o := { cls := .type "enumerate", dict := none, data := .fields #[.none, .bool false, .ref it, rawInt ((k : Int) + 1), .none, v], slots := #[] }) he2
    have S6 := S5.adopt (a := it) (fun hm => by
      rcases List.mem_cons.mp hm with q | q
      · exact hei q.symm
      · exact oit q) b1 d1 (o := oi') ((hsb2.2 it (Ne.symm hei)).trans hoi')
    have hLs : c.L < s.heap.objs.size := by
      obtain ⟨oL, es, ep, hL, _⟩ := S0.F.ns
      exact Heap.lt_size hL
    obtain ⟨S7, hn7⟩ := S6.adoptP (a := s.heap.objs.size) (po := .tup [.int k, y]) (fun hm => by
      rcases List.mem_cons.mp hm with q | q
      · exact Nat.ne_of_gt hiL q
      · rcases List.mem_cons.mp q with q | q
        · exact Nat.ne_of_gt heL q
        · obtain ⟨r, hr, er⟩ := List.mem_map.mp q
          have := Heap.lt_size (S2.N r hr).1
          rw [er] at this
          exact Nat.lt_irrefl _ this) (Nat.ne_of_gt hLs) z3 ((hsb2.2 _ (Nat.ne_of_gt heL)).trans htup) ⟨[.int k s.toks, v], 0, rfl, .cons ⟨_, rfl⟩ (.cons hyv .nil)⟩
    have e1 : ((k : Int) + 1) = ((k + 1 : Nat) : Int) := by omega
    rw [e1] at S7
    have key := a_unpack2 (G := G) (E := E) (c := (c.wp [(e, ({ cls := .type "enumerate", dict := none, data := .fields #[.none, .bool false, .ref it, rawInt (k + 1 : Nat), .none, v], slots := #[] } : Obj))]).wp [(it, oi')]) (QU := fun _ H2 vs2 => H2 = H.set s.heap.objs.size (.tup [.int k, y]) ∧ vs2 = putV xv y (putV xi (.int k) vs))
      (a := xi) (b := xv) (pa := pi) (pb := pv) (pt := pt) (n := k1) (vs := vs) (Cx.wp_ok (Cx.wp_ok hc)) hd (t := s.heap.objs.size) PHeap.set_self hxi hxv ⟨rfl, rfl⟩ _ ⟨h₀, m, _, S7, V⟩
    refine wpAny_mono key (fun _ s5 h5 => ?_) (fun e' s' hx => exn _ _ _ e' s' rfl hx)
    obtain ⟨_, H5, vs5, _, hs5, rfl, rfl⟩ := h5
    refine wpAny_mono (step k H vs ys y hkn hIk hys hy ([(it, oi')] ++ [(e, ({ cls := .type "enumerate", dict := none, data := .fields #[.none, .bool false, .ref it, rawInt (k + 1 : Nat), .none, v], slots := #[] } : Obj))]) _ hn7 s5 hs5) (fun f s6 h6 => ?_) (fun e' s' hx => exn _ _ _ e' s' rfl hx)
    obtain ⟨r, H6, vs6, hr6, hs6, hq⟩ := h6
    have again : (∃ H2, PHeap.Le H2 H6 ∧ I (k + 1) H2 vs6) → ∃ m, m < n - k ∧ ∃ k oi old H vs, m = n - k ∧ k ≤ n ∧ oi.cls = .type "list_iterator" ∧ oi.data = .fields #[.ref l, .int (k : Int) 0] ∧ I k H vs ∧
        Sat G ((c.wp [(e, ({ cls := .type "enumerate", dict := none, data := .fields #[.none, .bool false, .ref it, rawInt k, .none, old], slots := #[] } : Obj))]).wp [(it, oi)]) H vs s6 := by
      rintro ⟨H2, le, hi⟩
      exact ⟨n - (k + 1), by omega, k + 1, oi', v, H2, vs6, rfl, hkn, hci', hdi', hi, hs6.weaken le⟩
    have hs6' : Sat G c H6 vs6 s6 := (Sat.unwp (c := c.wp [(e, _)]) (it := it) (o := oi') hs6 (hpi2 _)).unwp hpe
    cases r with
    | next => cases hr6; exact again hq
    | cont => cases hr6; exact again hq
    | brk => cases hr6; exact ⟨.next, H6, vs6, rfl, hs6', hq⟩
    | ret p => obtain ⟨z, rfl, hz⟩ := hr6; exact ⟨.ret p, H6, vs6, ⟨z, rfl, hz⟩, hs6', hq⟩
  · have hkn' : k = n := by omega
    subst hkn'
    refine wpAny_pyNext_enum_end (i := k) (old := old) hd g2 hli hl (by rw [List.getElem?_toArray, List.getElem?_eq_none_iff, hr.len]; omega) fun h' he => ?_
    have S3 := S2.leap (k := s.toks) o2 b2 d2 oit b1 d1 (fun d o h1 h2 h3 => he d o h2 h3)
    exact wpAny_execs_nil ⟨.next, H, vs, rfl, ⟨h₀, m, n2, S3, V⟩, hend H vs hIk⟩
end
end Mine
namespace Mine

def Cx.up {S : Scope} (c : Cx S) (k : Nat) (d : Nat := 0) : Cx S := { c with un := c.un + k, dp := c.dp + d }

section
variable {G : Gl} {S : Scope} {c : Cx S} {H : PHeap} {vs : Vars} {E : PX → PHeap → Vars → Prop} {Q : PV → PHeap → Vars → Prop} {QF : PF → PHeap → Vars → Prop} {QU : Unit → PHeap → Vars → Prop} {QB : Bool → PHeap → Vars → Prop} {s : Shared} {h₀ h' : Heap} {m : Str → Option Value} {news : List (Addr × Obj)} {x : Str} {p : PV} {pos : Pos} {k dd : Nat}

theorem Cx.up_ok (h : c.Ok) : (c.up k dd).Ok := ⟨h.hk, h.hL⟩
theorem Sat.up (hs : Sat G c H vs s) : Sat G (c.up k dd) H vs s := by
  obtain ⟨h₀, m, news, S0, V⟩ := hs
  exact ⟨h₀, m, news, ⟨S0.F, S0.N, S0.B, S0.bk, S0.hr, S0.dj, S0.g, S0.d, S0.o⟩, V⟩
theorem Sat.down (hs : Sat G (c.up k dd) H vs s) : Sat G c H vs s := by
  obtain ⟨h₀, m, news, S0, V⟩ := hs
  exact ⟨h₀, m, news, ⟨S0.F, S0.N, S0.B, S0.bk, S0.hr, S0.dj, S0.g, S0.d, S0.o⟩, V⟩
theorem ExSat.down {y : PX} {e : Value} (hx : ExSat G (c.up k dd) H vs y e s) : ExSat G c H vs y e s := fun ho => by
  obtain ⟨ea, rfl, ⟨h₀, m, news, S0, r⟩ | ⟨m, news, fl, hfl, V, F, X⟩⟩ := hx ho
  · exact ⟨ea, rfl, .inl ⟨h₀, m, news, ⟨S0.F, S0.N, S0.B, S0.bk, S0.hr, S0.dj, S0.g, S0.d, S0.o⟩, r⟩⟩
  · exact ⟨ea, rfl, .inr ⟨m, news, fl, hfl, V, ⟨F.st, F.stays, F.fr, F.ns, F.hr, F.dj, F.nw, F.en, F.bk, F.g, F.d, F.o⟩, X⟩⟩
theorem CallP.down {f : PV} {as : List PV} {kn : List Str} {ks : List PV} (h : CallP G (c.up k dd) f as kn ks H vs Q E) {fv : Value} {us ws : List Value} (hf : PV.R f fv) (h1 : RL as us) (h2 : RL ks ws) (hs : Sat G c H vs s) :
    wpAny (model G.prog G.w) (c.up k dd).A (call fv us (kn.zip ws)) (fun v s' => ∃ r H' vs', PV.R r v ∧ Sat G c H' vs' s' ∧ Q r H' vs') (fun e s' => ∃ x H' vs', ExSat G c H' vs' x e s' ∧ E x H' vs') s :=
  wpAny_mono (h fv us ws hf h1 h2 s hs.up) (fun _ _ ⟨r, H', vs', a, b, d⟩ => ⟨r, H', vs', a, b.down, d⟩) fun _ _ ⟨y, H', vs', a, b⟩ => ⟨y, H', vs', a.down, b⟩

/-- a special method of an own class -/
structure OwnOk (G : Gl) (C : Addr) (name : Str) (f : Addr) : Prop where
  find : findIn G.K (.ref C) name = some (some (.ref f))
  isf : isFn G.K (.ref f) = true

theorem k_ownlen (hG : G.Ok) {a C d f : Addr} {fs : Vars} (ho : OwnOk G C "__len__" f) (e1 : H a = some (.inst C d)) (e2 : H d = some (.dict fs))
    (h : CallP G (c.up 1) (.ref f) [.ref a] [] [] H vs (fun r H1 vs1 => ∃ n : Int, r = .int n ∧ 0 ≤ n ∧ n < 2 ^ 62 ∧ Q (.int n) H1 vs1) E) : CallP G c (.bi "len") [.ref a] [] [] H vs Q E := by
  rintro _ _ _ rfl (_ | ⟨rfl, _ | _⟩) (_ | _) s ⟨h₀, m, news, S0, V⟩
  obtain ⟨es, n, hm, hr, I⟩ := S0.inst e1 e2
  refine len_K S0.F (S0.X hG) I ho.find ho.isf ?_
  refine wpAny_mono (CallP.down h (fv := .ref f) (us := [.ref a]) (ws := []) rfl (.cons rfl .nil) .nil ⟨h₀, m, news, S0, V⟩) (fun v s1 hq => ?_) fun _ _ x => x
  obtain ⟨r, H1, vs1, hrv, hs1, n, rfl, h0, h1, hq⟩ := hq
  obtain ⟨t, rfl⟩ := hrv
  refine ⟨⟨h0, by omega⟩, ?_⟩
  exact ⟨.int n, H1, vs1, ⟨_, rfl⟩, hs1.tok, hq⟩
theorem itm_own (hG : G.Ok) {a C d f : Addr} {fs : Vars} {i : PV} (ho : OwnOk G C "__getitem__" f) (hq : noSeq G.K C = true) (e1 : H a = some (.inst C d)) (e2 : H d = some (.dict fs))
    (h : CallP G c (.ref f) [.ref a, i] [] [] H vs Q E) : ItmP G c (.ref a) i H vs Q E := by
  rintro _ vi rfl hi s ⟨h₀, m, news, S0, V⟩
  obtain ⟨es, n, hm, hr, I⟩ := S0.inst e1 e2
  exact getItem_K S0.F (S0.X hG) I hq ho.find ho.isf (h _ [.ref a, vi] [] rfl (.cons rfl (.cons hi .nil)) .nil s ⟨h₀, m, news, S0, V⟩)
theorem sub_own (hG : G.Ok) {a C d f : Addr} {fs : Vars} {i : PV} {v ie : Expr} (ho : OwnOk G C "__getitem__" f) (hq : fnIn G.K f = true) (e1 : H a = some (.inst C d)) (e2 : H d = some (.dict fs))
    (h : CallP G (c.up 1) (.ref f) [.ref a, i] [] [] H vs Q E) (hsl : ∀ u, PV.R i u → subscripted ie true (.ref a) u = runValue (.builtin "lifetime.subscript" ⟨[.ref a, u], []⟩)) : SubP G c v ie (.ref a) i H vs Q E := by
  rintro _ vi rfl hi s hs0
  obtain ⟨h₀, m, news, S0, V⟩ := id hs0
  obtain ⟨es, n, hm, hr, I⟩ := S0.inst e1 e2
  exact sub_K S0.F (S0.X hG) I ho.find hq ho.isf (CallP.down h (fv := .ref f) (us := [.ref a, vi]) (ws := []) rfl (.cons rfl (.cons hi .nil)) .nil hs0) (hsl vi hi)
theorem sto_own (hG : G.Ok) {a C d f : Addr} {fs : Vars} {i : PV} (ho : OwnOk G C "__setitem__" f) (hq : noSeq G.K C = true) (e1 : H a = some (.inst C d)) (e2 : H d = some (.dict fs))
    (h : CallP G c (.ref f) [.ref a, i, p] [] [] H vs (fun _ H1 vs1 => QU () H1 vs1) E) : StoP G c (.ref a) i p H vs QU E := by
  rintro _ vi vv rfl hi hv s ⟨h₀, m, news, S0, V⟩
  obtain ⟨es, n, hm, hr, I⟩ := S0.inst e1 e2
  have X := (S0.X hG).keeps S0.F.keep
  unfold setItem sequenceKey
  refine wpAny_holding (wpAny_bind (wpAny_bind (I.type.here ?_)))
  refine wpAny_bind ((anyM_none X hq).here ?_)
  rw [if_pos (show (!false) = true from rfl)]
  refine wpAny_pure (wpAny_bind (special_fn X I ho.find (beq_iff_eq.mp ho.isf) (wpAny_mono (h _ [.ref a, vi, vv] [] rfl (.cons rfl (.cons hi (.cons hv .nil))) .nil s ⟨h₀, m, news, S0, V⟩) (fun _ s1 z => ?_) fun _ _ z => z)))
  obtain ⟨r, H1, vs1, _, hs1, hq⟩ := z
  exact wpAny_pure ⟨(), H1, vs1, trivial, hs1, hq⟩
theorem tr_own (hG : G.Ok) {a C d f : Addr} {fs : Vars} (ho : OwnOk G C "__bool__" f) (e1 : H a = some (.inst C d)) (e2 : H d = some (.dict fs))
    (h : CallP G c (.ref f) [.ref a] [] [] H vs (fun r H1 vs1 => ∃ b, r = .bool b ∧ QB b H1 vs1) E) : TruP G c (.ref a) H vs QB E := by
  rintro _ rfl s ⟨h₀, m, news, S0, V⟩
  obtain ⟨es, n, hm, hr, I⟩ := S0.inst e1 e2
  refine truthy_K S0.F (S0.X hG) I ho.find ho.isf (wpAny_mono (h _ [.ref a] [] rfl (.cons rfl .nil) .nil s ⟨h₀, m, news, S0, V⟩) (fun v s1 hq => ?_) fun _ _ x => x)
  obtain ⟨r, H1, vs1, hrv, hs1, b, rfl, hq⟩ := hq
  cases hrv
  exact ⟨b, H1, vs1, rfl, hs1, hq⟩

/-- a new object of a class -/
structure NewOk (G : Gl) (C fI : Addr) : Prop where
  makes : makesIn G.K C = true
  init : findIn G.K (.ref C) "__init__" = some (some (.ref fI))
  isf : isFn G.K (.ref fI) = true

theorem k_new (hG : G.Ok) {C fI : Addr} {as : List PV} {kn : List Str} {ks : List PV} (hn : NewOk G C fI)
    (h : ∀ x dx, H x = none → H dx = none → x ≠ dx → CodeP G (c.up 1 1) (.ref fI) (.ref x :: as) kn ks ((H.set dx (.dict [])).set x (.inst C dx)) vs (fun r H1 vs1 => r = .none ∧ Q (.ref x) H1 vs1) E) : CallP G c (.ref C) as kn ks H vs Q E := by
  rintro _ us ws rfl has hks s ⟨h₀, m, news, S0, V⟩
  refine call_cls S0.F (S0.X hG) S0.N hn.makes hn.init hn.isf fun x dx h' F' N' hl hlt => ?_
  have N1 : News h₀ c.L h' ((dx, dictOf [] 0) :: news) := fun q hq => N' q (.tail _ hq)
  obtain ⟨S1, e1⟩ := S0.alloc (a := dx) (po := .dict []) (mo := dictOf [] 0) (k := s.toks) F' N1 hl ⟨[], 0, rfl, .nil⟩
  obtain ⟨S2, e2⟩ := S1.alloc (a := x) (po := .inst C dx) (mo := instObj C dx) (k := s.toks) F' N' (fun q hq => by
    rcases List.mem_cons.mp hq with rfl | hq
    · exact hlt
    · exact Nat.lt_trans (hl q hq) hlt) rfl
  have hxd : x ≠ dx := Nat.ne_of_gt hlt
  rw [PHeap.set_ne hxd] at e2
  have hA : c.A.under (.builtin "type.__call__" ⟨.ref C :: us, kn.zip ws⟩) = (c.up 1 1).A := rfl
  rw [hA]
  refine codeAny_mono (h x dx e2 e1 hxd _ (.ref x :: us) ws rfl (.cons rfl has) hks _ (Sat.up ⟨h₀, m, _, S2, V⟩)) fun r s' hr => ?_
  unfold InitBack
  cases r with
  | ok fl =>
    cases fl with
    | ret v =>
      obtain ⟨r, H1, vs1, hrv, hs1, rfl, hq⟩ := hr
      cases hrv
      exact ⟨rfl, .ref x, H1, vs1, rfl, hs1.down, hq⟩
    | next => exact hr
    | brk => exact hr
    | cont => exact hr
  | error e =>
    obtain ⟨y, H', vs', a, b⟩ := hr
    exact ⟨y, H', vs', a.down, b⟩

theorem k_isnot_list (hG : G.Ok) {a C : Addr} {xs : List PV} (e : H a = some (.list xs)) (hn : isNotIn G.K "list" C = true) (h : Q (.bool false) H vs) : CallP G c (.bi "isinstance") [.ref a, .ref C] [] [] H vs Q E := by
  rintro _ _ _ rfl (_ | ⟨rfl, _ | ⟨rfl, _ | _⟩⟩) (_ | _) s hs
  obtain ⟨h₀, m, news, S0, V⟩ := id hs
  obtain ⟨us, n, hm, hr, hl⟩ := S0.list e
  have hg := (S0.N _ hm).1
  refine isn_call (T := "list") (P := fun h => ∃ o, h.get? a = some o ∧ o.cls = .type "list") (hs.X hG) (fun M => (Looks.ld hg).andThen .now) hn (by intro e; cases e) ⟨_, hg, rfl⟩ (fun p q => list_cls p q) ⟨.bool false, H, vs, rfl, hs.tok, h⟩

theorem t_assert {test : Expr} {msg : Option Expr} (h : T G c BR (isTrue test c.env (eval test c.env)) H vs (fun b H1 vs1 => b = true ∧ QF .next H1 vs1) E) : T G c PF.R (exec (.Assert test msg pos) c.env) H vs QF E := fun s hs =>
  wpAny_Assert_holds (wpAny_mono (h s hs) (fun b s1 ⟨r, H1, vs1, hr, hs1, h1, h2⟩ => ⟨by cases hr; exact h1, .next, H1, vs1, rfl, hs1, h2⟩) fun _ _ x => x)
end
end Mine
namespace Mine
section
variable {G : Gl} {S : Scope} {c : Cx S} {H : PHeap} {vs : Vars} {E : PX → PHeap → Vars → Prop} {Q : PV → PHeap → Vars → Prop}
/-! texts with a number in them -/
theorem b_pct {X X' : Str} {T : Int → Str} {i : Int} (hX : X = X') (h0 : 0 ≤ i) (h1 : i < 10 ^ 10)
    (hm : ∀ u t : Tok, ∀ i : Int, 0 ≤ i → i < 10 ^ 10 → i.natAbs.log2 < 1920 → ((i.natAbs : Nat) : Int).natAbs.log2 < 1920 → Meets (Builtin.«str.__mod__» ⟨[.str X' t, .int i u], []⟩) (fun _ R s => ∀ t' k, R (.ok (.ret (.str (T i) t'))) { s with toks := k }))
    (h : Q (.str (T i)) H vs) : BinP G c .Mod (.str X) (.int i) H vs Q E := by
  rintro _ _ ⟨t, rfl⟩ ⟨u, rfl⟩ s hs
  exact KPc.mod_int hX h0 h1 (hm u t) fun t' k => ⟨.str _, H, vs, ⟨_, rfl⟩, hs.tok, h⟩
def msg1 (i : Int) : Str := ("Column span incomplete in table line " : Str) ++ digs i ++ ("." : Str)
def msg2 (i : Int) : Str := ("Column span alignment problem in table line " : Str) ++ digs i ++ ("." : Str)
def msg3 (i : Int) : Str := ("Text in column margin in table line " : Str) ++ digs i ++ ("." : Str)
theorem b_pct1 {i : Int} (h0 : 0 ≤ i) (h1 : i < 10 ^ 10) (h : Q (.str (msg1 i)) H vs) : BinP G c .Mod (.str ("Column span incomplete in table line %s." : Str)) (.int i) H vs Q E := by
  refine' b_pct (T := msg1) ?a h0 h1 ?b h
  case a => kpc_eq
  case b =>
    intro u t
    intros
    apply KPc.meets_of
    intro _ _ _ _ _ _ _
    rw [KPc.entry_is]
    unfold Builtin.Str.percentFormat
    refine wpAny_bind (wpAny_isInstance (typeIs_int _ _ _) F.sub_int_tuple ?_)
    refine wpAny_bind (wpAny_of_eq (a := none) rfl ?_)
    refine wpAny_bind (wpAny_of_eq (KPc.fills _ _) ?_)
    kpc_if
    refine wpAny_bind (wpAny_pure ?_)
    refine wpAny_bind ?_
    rw [KPc.range_list]
    refine KPc.start ?_
    intro _ _
    refine KPc.turn ?_
    kpc_check
    repeat kpc_if
    refine wpAny_pure ?_
    kpc_piece
    refine KPc.turn ?_
    kpc_check
    repeat kpc_if
    refine wpAny_bind ?_
    refine wpAny_holding ?_
    repeat kpc_if
    kpc_conv
    refine wpAny_pure ?_
    refine wpAny_pure ?_
    refine KPc.after_str (by kpc_g) (by kpc_len) (by kpc_obj) ?_
    intro _ _
    kpc_turns
theorem b_pct2 {i : Int} (h0 : 0 ≤ i) (h1 : i < 10 ^ 10) (h : Q (.str (msg2 i)) H vs) : BinP G c .Mod (.str ("Column span alignment problem in table line %s." : Str)) (.int i) H vs Q E := by
  refine' b_pct (T := msg2) ?a h0 h1 ?b h
  case a => kpc_eq
  case b =>
    intro u t
    intros
    apply KPc.meets_of
    intro _ _ _ _ _ _ _
    rw [KPc.entry_is]
    unfold Builtin.Str.percentFormat
    refine wpAny_bind (wpAny_isInstance (typeIs_int _ _ _) F.sub_int_tuple ?_)
    refine wpAny_bind (wpAny_of_eq (a := none) rfl ?_)
    refine wpAny_bind (wpAny_of_eq (KPc.fills _ _) ?_)
    kpc_if
    refine wpAny_bind (wpAny_pure ?_)
    refine wpAny_bind ?_
    rw [KPc.range_list]
    refine KPc.start ?_
    intro _ _
    refine KPc.turn ?_
    kpc_check
    repeat kpc_if
    refine wpAny_pure ?_
    kpc_piece
    refine KPc.turn ?_
    kpc_check
    repeat kpc_if
    refine wpAny_bind ?_
    refine wpAny_holding ?_
    repeat kpc_if
    kpc_conv
    refine wpAny_pure ?_
    refine wpAny_pure ?_
    refine KPc.after_str (by kpc_g) (by kpc_len) (by kpc_obj) ?_
    intro _ _
    kpc_turns
theorem b_pct3 {i : Int} (h0 : 0 ≤ i) (h1 : i < 10 ^ 10) (h : Q (.str (msg3 i)) H vs) : BinP G c .Mod (.str ("Text in column margin in table line %s." : Str)) (.int i) H vs Q E := by
  refine' b_pct (T := msg3) ?a h0 h1 ?b h
  case a => kpc_eq
  case b =>
    intro u t
    intros
    apply KPc.meets_of
    intro _ _ _ _ _ _ _
    rw [KPc.entry_is]
    unfold Builtin.Str.percentFormat
    refine wpAny_bind (wpAny_isInstance (typeIs_int _ _ _) F.sub_int_tuple ?_)
    refine wpAny_bind (wpAny_of_eq (a := none) rfl ?_)
    refine wpAny_bind (wpAny_of_eq (KPc.fills _ _) ?_)
    kpc_if
    refine wpAny_bind (wpAny_pure ?_)
    refine wpAny_bind ?_
    rw [KPc.range_list]
    refine KPc.start ?_
    intro _ _
    refine KPc.turn ?_
    kpc_check
    repeat kpc_if
    refine wpAny_pure ?_
    kpc_piece
    refine KPc.turn ?_
    kpc_check
    repeat kpc_if
    refine wpAny_bind ?_
    refine wpAny_holding ?_
    repeat kpc_if
    kpc_conv
    refine wpAny_pure ?_
    refine wpAny_pure ?_
    refine KPc.after_str (by kpc_g) (by kpc_len) (by kpc_obj) ?_
    intro _ _
    kpc_turns

end
end Mine
namespace Mine

/-- in a handler -/
def Cx.hand {S : Scope} (c : Cx S) (e : Addr) : Cx S := { c with hd := some (.ref e) }

section
variable {G : Gl} {S : Scope} {c : Cx S} {H : PHeap} {vs : Vars} {E : PX → PHeap → Vars → Prop} {Q : PV → PHeap → Vars → Prop} {QF : PF → PHeap → Vars → Prop} {QU : Unit → PHeap → Vars → Prop} {QB : Bool → PHeap → Vars → Prop} {s : Shared} {h₀ h' : Heap} {m : Str → Option Value} {news : List (Addr × Obj)} {x : PX} {p : PV} {pos : Pos} {ea : Addr}

theorem Cx.hand_ok (h : c.Ok) : (c.hand ea).Ok := ⟨h.hk, h.hL⟩
theorem Sat0.hand (S0 : Sat0 G c H m h₀ news s) : Sat0 G (c.hand ea) H m h₀ news s := ⟨S0.F, S0.N, S0.B, S0.bk, S0.hr, S0.dj, S0.g, S0.d, S0.o⟩
theorem Sat0.unhand (S0 : Sat0 G (c.hand ea) H m h₀ news s) : Sat0 G c H m h₀ news s := ⟨S0.F, S0.N, S0.B, S0.bk, S0.hr, S0.dj, S0.g, S0.d, S0.o⟩
theorem ExSat.unhand {y : PX} {e : Value} (hx : ExSat G (c.hand ea) H vs y e s) : ExSat G c H vs y e s := fun ho => by
  obtain ⟨ea', rfl, ⟨h₀, m, news, S0, r⟩ | ⟨m, news, fl, hfl, V, F, X⟩⟩ := hx ho
  · exact ⟨ea', rfl, .inl ⟨h₀, m, news, S0.unhand, r⟩⟩
  · exact ⟨ea', rfl, .inr ⟨m, news, fl, hfl, V, ⟨F.st, F.stays, F.fr, F.ns, F.hr, F.dj, F.nw, F.en, F.bk, F.g, F.d, F.o⟩, X⟩⟩

/-- a built-in exception is raised -/
theorem ex_new (hs : Sat G c H vs s) {cls : String} {k : Nat} (hx : Heap.NewExc s.heap h' ea cls) : ExSat G c H vs (.bi cls) (.ref ea) { s with heap := h', toks := k } := fun _ => by
  obtain ⟨h₀, m, news, S0, V⟩ := hs
  obtain ⟨ob, t, h1, h2, h3⟩ := hx.there
  refine ⟨ea, rfl, .inl ⟨h₀, m, news, ⟨S0.F.keeps hx.keeps, fun q hq => ⟨hx.keeps _ _ (S0.N q hq).1, (S0.N q hq).2⟩, S0.B, S0.bk, S0.hr, S0.dj, S0.g, S0.d, S0.o⟩, V, fun hm => ?_, fun e => ?_, ?_, ob, _, h1, h3, rfl, rfl, h2, rfl⟩⟩
  · obtain ⟨q, hq, e⟩ := List.mem_map.mp hm
    have := (S0.N q hq).1
    rw [e, hx.new] at this; cases this
  · obtain ⟨oL, es, ep, hL, _⟩ := S0.F.ns
    rw [← e, hx.new] at hL; cases hL
  · cases z : h₀.get? ea with
    | none => rfl
    | some o => have := S0.F.keep _ _ z; rw [hx.new] at this; cases this

theorem t_assertx {test : Expr} (hd : c.hd = none) (h : T G c BR (isTrue test c.env (eval test c.env)) H vs (fun b H1 vs1 => (b = true → QF .next H1 vs1) ∧ (b = false → E (.bi "AssertionError") H1 vs1)) E) : T G c PF.R (exec (.Assert test none pos) c.env) H vs QF E := fun s hs => by
  refine wpAny_Assert_new hd (wpAny_mono (h s hs) (fun b s1 ⟨r, H1, vs1, hr, hs1, h1, h2⟩ => ?_) fun _ _ x => x)
  cases hr
  cases b with
  | true => rw [if_pos rfl]; exact ⟨.next, H1, vs1, rfl, hs1, h1 rfl⟩
  | false =>
    rw [if_neg (by decide)]
    intro h' e hx
    exact ⟨.bi "AssertionError", H1, vs1, ex_new (k := s1.toks) hs1 hx, h2 rfl⟩
theorem sub_listx {a : Addr} {k : Int} {xs : List PV} {v i : Expr} (hd : c.hd = none) (e : H a = some (.list xs)) (h0 : 0 ≤ k) (h1 : k < 2 ^ 63) (hx : (xs.length : Int) ≤ k) (h : E (.bi "IndexError") H vs)
    (hs : ∀ u, subscripted i false (.ref a) (.int k u) = operate [.ref a, .int k u] (getItem (.ref a) (.int k u)) := by intro _; with_unfolding_all rfl) : SubP G c v i (.ref a) (.int k) H vs Q E := by
  rintro _ _ rfl ⟨t, rfl⟩ s hs0
  obtain ⟨h₀, m, news, S0, V⟩ := id hs0
  obtain ⟨us, n, hm, hr, hl⟩ := S0.list e
  refine item_outK hd hl (.inr ?_) (by omega) h1 (fun h' tk e hx => ⟨.bi "IndexError", H, vs, ex_new hs0 hx, h⟩) (hs t)
  rw [List.size_toArray, hr.len]; exact hx

/-- a flying exception lands -/
theorem fly_land {fl : Value} (F : Fly G c H m news x ea fl s) : ∃ h₀ T oe oT vs ts, Sat0 G c H m h₀ news s ∧ (ea ∉ news.map (·.1) ∧ ea ≠ c.L ∧ h₀.get? ea = none ∧ s.heap.get? ea = some oe) ∧ (T ∉ news.map (·.1) ∧ T ≠ c.L ∧ h₀.get? T = none ∧ s.heap.get? T = some oT) ∧ T ≠ ea ∧
    oe.data = .fields vs ∧ vs.size = 6 ∧ vs[1]? = some (.ref T) ∧ (match x with | .bi n => oe.cls = .type n ∧ vs[2]? = some .none | .own C d => oe.cls = .ref C ∧ oe.dict = some d) ∧ oT.data = .fields ts ∧ ts[3]? = some fl := by
  obtain ⟨F, T, oT, ts, ⟨oe, vs, k1, k2, k3, k4, k5⟩, hTn, hTb, hTe, hT, hTd, hT3⟩ := F
  have notL : ∀ {a : Addr} {m' : Str → Option Value} {b : Addr} {o : Obj} {vs : Array Value}, s.heap.Ns a m' → s.heap.get? b = some o → o.data = .fields vs → b ≠ a := fun hn hb hd e => by
    obtain ⟨oL, es, ep, hL, hLd, _⟩ := hn
    rw [e, hL] at hb; cases hb
    rw [hLd] at hd; cases hd
  have notF : ∀ {b : Addr} {o : Obj} {vs : Array Value}, s.heap.get? b = some o → o.data = .fields vs → b ∉ c.frames.filterMap (·.frame) := fun hb hd hm => by
    obtain ⟨_, o', ho', hnf⟩ := F.fr.mem hm
    rw [hb] at ho'; cases ho'
    exact hnf _ hd
  have all : ∀ q ∈ (T, oT) :: (ea, oe) :: news, s.heap.get? q.1 = some q.2 ∧ G.base.get? q.1 = none ∧ q.1 ≠ c.L ∧ q.1 ∉ c.outer.filterMap (·.frame) ∧ q.1 ∉ c.bl.map (·.1) := fun q hq => by
    have recd : ∀ {b : Addr} {o : Obj} {vs : Array Value}, s.heap.get? b = some o → o.data = .fields vs → G.base.get? b = none → s.heap.get? b = some o ∧ G.base.get? b = none ∧ b ≠ c.L ∧ b ∉ c.outer.filterMap (·.frame) ∧ b ∉ c.bl.map (·.1) := fun hb hd hn => by
      refine ⟨hb, hn, notL F.ns hb hd, fun hm => notF hb hd (frames_sub hm), fun hm => ?_⟩
      obtain ⟨p, hp, e⟩ := List.mem_map.mp hm
      exact notL (F.bk.ns p hp) hb hd e.symm
    rcases List.mem_cons.mp hq with rfl | hq
    · exact recd hT hTd hTb
    · rcases List.mem_cons.mp hq with rfl | hq
      · exact recd k1 k2 F.en.2
      · have z := F.nw q hq
        exact ⟨z.1, z.2.1, z.2.2.2.1, fun hm => z.2.2.1 (frames_sub hm), z.2.2.2.2⟩
  obtain ⟨h₀, F0, N0, B0, b0⟩ := reground F.st F.stays (frames_tail rfl F.fr) F.ns F.bk all
  refine ⟨h₀, T, oe, oT, vs, ts, ⟨F0, fun q hq => N0 q (.tail _ (.tail _ hq)), B0, b0, F.hr, F.dj, F.g, F.d, F.o⟩, ⟨F.en.1, ?_, ?_, k1⟩, ⟨hTn, ?_, ?_, hT⟩, hTe, k2, k3, k4, k5, hTd, hT3⟩
  · exact (N0 (ea, oe) (.tail _ (.head _))).2.1
  · exact (N0 (ea, oe) (.tail _ (.head _))).2.2
  · exact (N0 (T, oT) (.head _)).2.1
  · exact (N0 (T, oT) (.head _)).2.2

theorem ex_suite (hc : c.Ok) (ho : c.own = true) {e' : Value} {y : PX} {H1 : PHeap} {vs1 : Vars} (hx : ExSat G c H1 vs1 y e' s) (hE : E y H1 vs1) :
    notedBy (model G.prog G.w) (c.hand ea).A c.env (cameBackBy (model G.prog G.w) c.A c.env (fun e s' => ∃ x H' vs', ExSat G c H' vs' x e s' ∧ E x H' vs')) e' s := by
  obtain ⟨ea', rfl, hy⟩ := hx ho
  obtain ⟨m', news', V, F, X⟩ := flyC_at hc hy
  unfold notedBy
  refine note_wp ho rfl F X fun s1 h1 => ?_
  unfold cameBackBy
  obtain ⟨T, oT, ts, ⟨ob, ws, k1, k2, k3, k4, k5⟩, r⟩ := id h1.2
  refine wpAny_bind (wpAny_field k1 k2 k4 ?_)
  rw [if_neg (show ¬ ((Value.ref T == Value.none) = true) from by simp)]
  exact flight_wp h1 fun s2 h2 => ⟨y, H1, vs1, fun _ => ⟨ea', rfl, .inr ⟨m', news', _, .inr rfl, V, h2⟩⟩, hE⟩

/-- two built-in classes are caught -/
theorem t_try2 (hc : c.Ok) (ho : c.own = true) {T1 T2 : String} {body : List Stmt} {t : Expr} {b₀ : Stmt} {suite : List Stmt} {hpos : Pos}
    (hexc1 : isSubtype (.type T1) (.type "BaseException") = pure true) (hnt1 : isSubtype (.type ((Manifest.find? T1).elim "type" fun x => x.metatype)) (.type "tuple") = pure false)
    (hexc2 : isSubtype (.type T2) (.type "BaseException") = pure true) (hnt2 : isSubtype (.type ((Manifest.find? T2).elim "type" fun x => x.metatype)) (.type "tuple") = pure false)
    (h : T G c PF.R (execs body c.env) H vs QF (fun x H1 vs1 => (∃ X b1 b2, x = .bi X ∧ isSubtype (.type X) (.type T1) = pure b1 ∧ isSubtype (.type X) (.type T2) = pure b2 ∧ (b1 || b2) = true) ∧
      ∀ e, (∀ P, T G ((c.wp P).hand e) PV.R (eval t c.env) H1 vs1 (fun p H2 vs2 => ∃ d, p = .ref d ∧ H1 d = none ∧ H2 = H1.set d (.tup [.typ T1, .typ T2]) ∧ vs2 = vs1) noX) ∧ ∀ oe ws, oe.data = .fields ws → ws[2]? = some .none → c.P.lookup e = none → T G ((c.wp [(e, oe)]).hand e) PF.R (execs (b₀ :: suite) c.env) H1 vs1 QF E)) :
    T G c PF.R (exec (.Try body [.ExceptHandler (some t) none (b₀ :: suite) hpos] [] [] pos) c.env) H vs QF E := fun s hs => by
  refine wpAny_Try_except (wpAny_mono (h s hs) (fun f s1 ⟨r, H1, vs1, hr, hs1, h1⟩ => ?_) fun e s1 hx => ?_)
  · cases r with
    | next => cases hr; exact wpAny_execs_nil ⟨.next, H1, vs1, rfl, hs1, h1⟩
    | brk => cases hr; exact ⟨.brk, H1, vs1, rfl, hs1, h1⟩
    | cont => cases hr; exact ⟨.cont, H1, vs1, rfl, hs1, h1⟩
    | ret p => obtain ⟨v, rfl, hv⟩ := hr; exact ⟨.ret p, H1, vs1, ⟨v, rfl, hv⟩, hs1, h1⟩
  · obtain ⟨x, H1, vs1, hx, ⟨X, b1, b2, rfl, hs1, hs2, hb⟩, hh⟩ := hx
    obtain ⟨ea, rfl, hy⟩ := hx ho
    obtain ⟨m1, news1, V1, F1, X1⟩ := flyC_at hc hy
    obtain ⟨ht, hsu⟩ := hh ea
    refine note_wp ho rfl F1 X1 fun s2 h2 => ?_
    refine flight_wp h2 fun s3 h3 => ?_
    obtain ⟨h₀, T, oe, oT, ws, ts, S0, ⟨a1, a2, a3, a4⟩, ⟨c1, c2, c3, c4⟩, hTe, d1, d2, d3, d4, d5, d6⟩ := fly_land h3
    have SA := S0.adopt a1 a2 a3 a4
    have SB := SA.adopt (a := T) (fun hm => by
      rcases List.mem_cons.mp hm with e | hm
      · exact hTe e
      · exact c1 hm) c2 c3 c4
    have hpe : c.P.lookup ea = none := (S0.off a1).1
    have hpT : (c.wp [(ea, oe)]).P.lookup T = none := (SA.off (a := T) (fun hm => by
      rcases List.mem_cons.mp hm with e | hm
      · exact hTe e
      · exact c1 hm)).1
    have key := ht ([(T, oT)] ++ [(ea, oe)]) s3 ⟨h₀, m1, _, SB.hand, V1⟩
    refine wpAny_handleBy_tup2 hexc1 hnt1 hexc2 hnt2 hs1 hs2 (wpAny_mono key (fun cv s4 h4 => ?_) fun _ _ ⟨_, _, _, _, hf⟩ => hf.elim)
    obtain ⟨p, H4, vs4, hp, hs4, d, rfl, hdn, rfl, rfl⟩ := h4
    cases hp
    obtain ⟨h4, m4, news4, S4, V4⟩ := hs4
    have S4 : Sat0 G ((c.wp [(ea, oe)]).wp [(T, oT)]) (H1.set d (.tup [.typ T1, .typ T2])) m4 h4 news4 s4 := S4.unhand
    obtain ⟨us, n, hm, hr, htup⟩ := S4.tup (a := d) PHeap.set_self
    cases hr with
    | cons r1 hr =>
      cases hr with
      | cons r2 hr =>
        cases hr; cases r1; cases r2
        obtain ⟨⟨n5, S5, o5⟩, b5, g5, gT⟩ := S4.unwp' hpT
        obtain ⟨⟨n6, S6, o6⟩, b6, g6, ge⟩ := S5.unwp' hpe
        refine ⟨d, rfl, htup, ⟨oe, ge, d4.1⟩, ?_⟩
        rw [hb, if_pos rfl]
        unfold setFlight
        refine wpAny_bind (wpAny_field ge d1 d3 ?_)
        rw [if_pos (show (Value.ref T != Value.none) = true from by simp)]
        refine wpAny_setField gT d5 (Array.getElem?_eq_some_iff.mp d6).1 ?_
        have other : ∀ b, b ≠ T → (s4.heap.update T (Obj.mapFields (·.setIfInBounds 3 (Option.none (α := Addr) |>.elim Value.none fun f => rawInt f)))).get? b = s4.heap.get? b := fun b hb => Heap.get?_update_other _ _ (Ne.symm hb)
        have S7 := S5.leap (a := T) (b := T) (k := s4.toks) o5 b5 g5 o5 b5 g5 (fun z o hz _ e => (other z hz).trans e)
        have hle : PHeap.Le H1 (H1.set d (.tup [.typ T1, .typ T2])) := (PHeap.Le.refl H1).set hdn
        have hsuite := hsu oe ws d1 d4.2 hpe _ (Sat.weaken (c := (c.wp [(ea, oe)]).hand ea) ⟨h4, m4, n5, S7.hand (ea := ea), V4⟩ hle)
        refine wpAny_mono hsuite (fun f s8 ⟨r, H8, vs8, hr8, hs8, hq8⟩ => ⟨r, H8, vs8, hr8, ?_, hq8⟩) fun e8 s8 ⟨y, H8, vs8, hx8, hE8⟩ => ex_suite hc ho (ex_unwp (c := c) (ExSat.unhand (c := c.wp [(ea, oe)]) hx8) hpe) hE8
        obtain ⟨h9, m9, n9, S9, V9⟩ := hs8
        exact Sat.unwp (c := c) ⟨h9, m9, n9, S9.unhand, V9⟩ hpe
end
end Mine
namespace Mine

theorem refuse_exc (self : Value) (a b c : Addr) : refuseLoop self "__setattr__" [.ref a, .ref b, .ref c, .type "Exception", .type "BaseException", .type "object"] = pure () := by
  rw [refuseLoop_ref, refuseLoop_ref, refuseLoop_ref]
  kernel_rfl

/-- an own exception class -/
structure ExcOk (G : Gl) (C : Addr) : Prop where
  cls : ∃ cd a b, clsIn G.K C = some cd ∧ cd.hasDict = true ∧ cd.mro = [.ref C, .ref a, .ref b, .type "Exception", .type "BaseException", .type "object"]
  ga : findIn G.K (.ref C) "__getattribute__" = some (some (.builtin "BaseException.__getattribute__"))
  gn : findIn G.K (.ref C) "__getattr__" = some none
  sa : findIn G.K (.ref C) "__setattr__" = some (some (.builtin "object.__setattr__"))
  subO : subIn G.K (.ref C) (.type "object") = some true
  subB : subIn G.K (.ref C) (.type "BaseException") = some true
  subT : subIn G.K (.ref C) (.type "type") = some false
  ty : typeIn G.K (.ref C) = some (.type "type")
structure ExcName' (G : Gl) (C : Addr) (name : Str) : Prop where
  find : findIn G.K (.ref C) name = some none

section
variable {prog : Program} {w : World} {A : Around} {E : Value → Shared → Prop} {s : Shared} {K : Frag} {x C d : Addr} {ox : Obj} {name : Str} {v : Value} {es : List DictEntry} {n : Nat}

theorem nsstore_wp {tk : Tok} {Q : Fin → Shared → Prop} (D : s.heap.get? d = some (dictOf es n)) (hl : (getL name es).isSome = true) (hz : (putL name (PyData.keyHash w.params name) (.str name s.toks) v es).length ≤ 1000)
    (h : ∀ h', Heap.SameBut d s.heap h' → h'.get? d = some (dictOf (putL name (PyData.keyHash w.params name) (.str name s.toks) v es) (putN name es n)) → Q (.done (.ret .none)) { s with heap := h', toks := s.toks + 1 }) :
    wpAny (model prog w) A (Builtin.ObjectAttr.storeInDict d (.str name tk) name v) Q E s := by
  have D' : (s.heap.update d (Obj.putName name (PyData.keyHash w.params name) (.str name s.toks) v)).get? d = some (dictOf (putL name (PyData.keyHash w.params name) (.str name s.toks) v es) (putN name es n)) := by
    rw [← putName_dict]
    refine Heap.get?_update_self _ D ?_
    rw [putName_dict]; rfl
  unfold Builtin.ObjectAttr.storeInDict
  refine wpAny_bind (wpAny_pure (wpAny_bind ?_))
  unfold nsSet
  refine wpAny_bind (wpAny_bind (wpAny_askSetting (wpAny_pure (wpAny_bind (wpAny_mkText (wpAny_bind (wpAny_loadPart D ?_)))))))
  unfold getL at hl
  have c : (!es.toArray.any (·.key.isStr name) && es.toArray.any (·.refKey)) = false := by
    rw [← Array.any_toList, ← Array.any_toList]
    dsimp only
    split at hl
    · rename_i en he
      rw [List.any_eq_true.mpr ⟨en, List.mem_of_find?_eq_some he, List.find?_some he⟩]; rfl
    · split at hl
      · cases hl
      · rename_i z; rw [Bool.not_eq_true] at z; rw [z, Bool.and_false]
  dsimp only [dictOf]
  rw [aRefKeyMayBeTheName_at, c]
  refine wpAny_updatePart D ?_
  refine wpAny_bind (wpAny_lookBehind D' (pastItsLine_dict (by rw [List.size_toArray, sizeLine_eq]; omega)) ?_)
  exact wpAny_pure (h _ (Heap.SameBut.update ..) D')

/-- the store itself: what is left when the dict is known -/
theorem exc_set_wp {G : Gl} {od : Option Obj} (hE : ExcOk G C) (hn : findIn G.K (.ref C) name = some none) (X : G.K.In s.heap) (I : InstAt s.heap x ox C od) {Q : Unit → Shared → Prop}
    (h : wpAny (model prog w) A.in1 (Builtin.ObjectAttr.ownDictForStores (.ref x)) (fun od s1 => ∃ d, od = some d ∧ wpAny (model prog w) A.in1 (Builtin.ObjectAttr.storeInDict d (.str name s.toks) name v) (fun fin s' => fin = .done (.ret .none) ∧ Q () s') E s1) E { s with toks := s.toks + 1 }) :
    wpAny (model prog w) A (setAttr (.ref x) name v) Q E s := by
  obtain ⟨cd, a, b, hcd, hhd, hmro⟩ := hE.cls
  have TY : ∀ {M : Model}, Looks M s.heap (typeOf (.ref x)) (.ref C) := I.type
  have SF := PySem.F.store_object
  refine set_plain X I hE.sa ?_
  have sub : ∀ {M : Model}, Looks M s.heap (isInstance (.ref x) (.type "object")) true := TY.andThen (looks_subIn X hE.subO)
  refine codeAny_call_builtin SF.slot.plain SF.entry (@check_slot (model prog w) _ _ { s with toks := s.toks + 1 } "object.__setattr__" "object" "__setattr__" (.ref x) [.str name s.toks, v] [] _ SF.kind SF.split sub (SF.args (.ref x) (.str name s.toks) v) ?_)
  have hm : ∀ {M : Model}, Looks M s.heap (mroOf (.ref C)) cd.mro := (looks_clsIn X hcd).andThen .now
  rw [osa_eq, refuse_eq]
  refine wpAny_bind (wpAny_bind (TY.here (s := { s with toks := s.toks + 1 }) (wpAny_bind (hm.here (s := { s with toks := s.toks + 1 }) ?_))))
  rw [hmro, refuse_exc]
  refine wpAny_pure (wpAny_bind (TY.here (s := { s with toks := s.toks + 1 }) (wpAny_bind ((looks_findIn X hn).here (s := { s with toks := s.toks + 1 }) (wpAny_bind (wpAny_pure ?_))))))
  refine wpAny_bind (wpAny_pure (wpAny_bind (wpAny_mono h (fun od s1 h1 => ?_) fun _ _ e => e)))
  obtain ⟨d, rfl, h1⟩ := h1
  refine wpAny_mono h1 (fun fin s' hq => ?_) fun _ _ e => e
  obtain ⟨rfl, hq⟩ := hq
  exact hq

/-- the attribute of an exception -/
theorem exc_get_wp {G : Gl} {expr : Bool} (hE : ExcOk G C) (hn : findIn G.K (.ref C) name = some none) (X : G.K.In s.heap) (hx : s.heap.get? x = some ox) (hc : ox.cls = .ref C) (hd : ox.dict = some d) (hcl : notCls ox = true) (D : s.heap.get? d = some (dictOf es n)) (hl : getL name es = some (some v)) (hv : handedIn v = true)
    {Q : Value → Shared → Prop} (h : Q v { s with toks := s.toks + 1 }) : wpAny (model prog w) A (getAttr (.ref x) name expr) Q E s := by
  obtain ⟨cd, a, b, hcd, hhd, hmro⟩ := hE.cls
  have I : InstAt s.heap x ox C (some (dictOf es n)) := ⟨hx, hc, hcl, by rw [hd]; exact D⟩
  have hf : findObj G.K C (some (dictOf es n)) name = some (.value v) := findObj_own (attr := none) (by unfold hasDictIn; rw [hcd]; exact hhd) hn rfl hl
  have TY : ∀ {M : Model}, Looks M s.heap (typeOf (.ref x)) (.ref C) := I.type
  have LF : ∀ {M : Model}, Looks M s.heap (Builtin.ObjectAttr.find (.ref x) (.ref C) name) (.value v) := looks_find X I hf
  unfold getAttr getAttrBy
  refine wpAny_bind (wpAny_mkText (wpAny_holding (wpAny_bind (TY.here (s := { s with toks := s.toks + 1 }) (wpAny_bind ((looks_findIn X hE.ga).here (s := { s with toks := s.toks + 1 }) ?_))))))
  show wpAny _ _ (getAttrByItsOwn _ _ _ _ _ _) _ _ _
  unfold getAttrByItsOwn hookBefore
  rw [if_pos (show onTheHeap (.ref C) = true from rfl)]
  refine wpAny_bind ((looks_findIn X hE.gn).here (s := { s with toks := s.toks + 1 }) (wpAny_bind ?_))
  have hk : builtinKind "BaseException.__getattribute__" = some .slot := by decide +kernel
  have hsp : splitId "BaseException.__getattribute__" = some ("BaseException", "__getattribute__") := by decide +kernel
  have hpl : plainId "BaseException.__getattribute__" = true := by decide +kernel
  have hbt : typeOf (.builtin "BaseException.__getattribute__") = pure (.type "wrapper_descriptor") := by show builtinType _ = _; rw [builtinType_eq_fast]; kernel_rfl
  have hbs : bindSpecial (.builtin "BaseException.__getattribute__") (.ref x) = pure (.builtin "BaseException.__getattribute__", [.ref x]) := by
    unfold bindSpecial
    rw [hbt]
    rfl
  refine wpAny_attempt (wpAny_holding ?_)
  unfold callGetattribute
  rw [if_neg (by cases expr <;> decide)]
  unfold boundAndCalled
  rw [hbs]
  refine wpAny_bind (wpAny_pure (wpAny_call ?_))
  have sub : ∀ {M : Model}, Looks M s.heap (isInstance (.ref x) (.type "BaseException")) true := TY.andThen (looks_subIn X hE.subB)
  refine codeAny_call_builtin hpl F.entry_bexc_ga (@check_slot (model prog w) _ _ { s with toks := s.toks + 1 } "BaseException.__getattribute__" "BaseException" "__getattribute__" (.ref x) [.str name s.toks] [] _ hk hsp sub (F.args_bexc_ga (.ref x) (.str name s.toks)) ?_)
  unfold Builtin.«object.__getattribute__»
  refine wpAny_bind (wpAny_pure (wpAny_bind (wpAny_pure (wpAny_bind (TY.here (s := { s with toks := s.toks + 1 }) (wpAny_bind (LF.here (s := { s with toks := s.toks + 1 }) (wpAny_pure ?_))))))))
  show wpAny _ _ (handedOut v) _ _ _
  rw [handedOut_of hv]
  exact wpAny_pure h
end
end Mine
namespace Mine

section
variable {prog : Program} {w : World} {A : Around} {E : Value → Shared → Prop} {h : Heap} {g : Array GenState} {d : Drawn} {t : Nat} {os : OsState} {R : Result → Shared → Prop}
variable {nm q : Str} {C N : Addr} {bs bm : List Value} {hdct : Bool} {sn : List Str} {sub : List Value} {ab : Bool} {col : Option Bool} {dd : Option Addr} {k0 k1 k2 k3 k5 : Option Value} {kw : List (Str × Value)} {rest : List Value}

theorem check_new_kw {Q : Unit → Shared → Prop} {M : Model} (hB : bm.contains (.type "Exception") = true) (hC : h.get? C = some (excClassObj nm q C N bs bm hdct sn sub ab col dd k0 k1 k2 k3 k5 "Exception.__new__"))
    (hq : Q () ⟨h, g, d, t, os⟩) : wpAny M A (checkBuiltinCall "Exception.__new__" ⟨.ref C :: rest, kw⟩) Q E ⟨h, g, d, t, os⟩ := by
  have F := PySem.F.excBase_Exception
  have hcont : (Value.ref C :: bm).contains (.type "Exception") = true := by rw [List.contains_cons, hB, Bool.or_true]
  have hstar := F.noStar
  simp only [checkBuiltinCall, F.newKind, F.newSplit, F.newRow]
  repeat (first | refine wpAny_loadPart_at hC ?_ | (refine wpAny_isSubtype_exc hC ?_; rw [hcont]) | refine wpAny_staticBase_exc hC ?_ | refine wpAny_madeBy_exc hC ?_ | simp only [bne_self_eq_false, Bool.false_eq_true, if_false] | wp_step)
  exact hq

theorem exc_new_kw (hB : bm.contains (.type "Exception") = true) (hA : bm.contains (.type "AttributeError") = false) (hN : bm.contains (.type "NameError") = false)
    (hC : h.get? C = some (excClassObj nm q C N bs bm hdct sn sub ab col dd k0 k1 k2 k3 k5 "Exception.__new__"))
    (hq : R (.ok (.ret (.ref (h.objs.size + 1)))) ⟨(h.push { cls := .type "tuple", data := .seq rest.toArray }).push
      { cls := .ref C, data := .fields #[.ref h.objs.size, .none, .none, .none, .bool false, .none] }, g, d, t, os⟩) (hrest : rest.length ≤ sizeLine) :
    codeAny (model prog w) A (.builtin "Exception.__new__" ⟨.ref C :: rest, kw⟩) R ⟨h, g, d, t, os⟩ := by
  have F := PySem.F.excBase_Exception
  have hends := F.ends
  have hcB : (Value.ref C :: bm).contains (.type "Exception") = true := by rw [List.contains_cons, hB, Bool.or_true]
  have hcA : (Value.ref C :: bm).contains (.type "AttributeError") = false := by rw [List.contains_cons, hA]; rfl
  have hcN : (Value.ref C :: bm).contains (.type "NameError") = false := by rw [List.contains_cons, hN]; rfl
  refine codeAny_builtinAt F.entry ?_
  unfold Builtin.«BaseException.__new__»
  refine PySem.wpAt_bind ?_
  show PySem.wpAt _ _ _ (stack >>= _) _ _ _
  refine PySem.wpAt_bind (PySem.wpAt_stack fun p below => PySem.wpAt_of_wpAny ?_)
  wp_walk
  refine PySem.wpAt_of_wpAny ?_
  rw [F.owner]
  repeat (first | with_reducible refine wpAny_madeHere_exc F.canon hC ?_ | with_reducible refine wpAny_loadPart_at hC ?_ | (with_reducible refine wpAny_isSubtype_exc hC ?_; first | rw [hcB] | rw [hcA] | rw [hcN]) | wp_step)
  show R _ _
  rw [Heap.size_push]
  exact hq

theorem make_exc {K : Frag} {fI : Addr} (X : K.In h) (hcall : specialIn K (.ref C) "__call__" = some (some (.builtin "type.__call__"))) (htyp : instIn K (.ref C) (.type "type") = some true) (hB : bm.contains (.type "Exception") = true) (hA : bm.contains (.type "AttributeError") = false) (hN : bm.contains (.type "NameError") = false)
    (hC : h.get? C = some (excClassObj nm q C N bs bm hdct sn sub ab col dd k0 k1 k2 k3 k5 "Exception.__new__")) (hi : findIn K (.ref C) "__init__" = some (some (.ref fI))) (hf : typeIn K (.ref fI) = some (.type "function"))
    (hq : ∀ h' e, Heap.MadeExcOf h h' e (.ref C) rest → codeAny (model prog w) (A.under (.builtin "type.__call__" ⟨.ref C :: rest, kw⟩)) (.call (.ref fI) ⟨.ref e :: rest, kw⟩) (InitBack e R) ⟨h', g, d, t, os⟩) (hrest : rest.length ≤ sizeLine) :
    codeAny (model prog w) A (.call (.ref C) ⟨rest, kw⟩) R ⟨h, g, d, t, os⟩ := by
  have F := PySem.F.excBase_Exception
  refine codeAny_of_tree ?_
  show wpAny _ _ (callAny (.ref C) _) _ _ _
  refine nd_load hC ?_
  show wpAny _ _ (callAny.viaDunder (.ref C) _) _ _ _
  unfold callAny.viaDunder
  refine wpAny_bind ((looks_specialIn X hcall).at ?_)
  dsimp only
  rw [tc_bind]
  refine wpAny_bind (wpAny_pure (wpAny_bind (wpAny_pure ?_)))
  refine wpAny_pure (a := Fin.again (.call (.builtin "type.__call__") ⟨.ref C :: rest, kw⟩)) (And.intro rfl ?_)
  refine codeAny_call_builtin_at (Code.quiet_builtin _ (by decide +kernel)) entry_typeCall (check_slot tc_kind tc_split (looks_instIn X htyp) (tc_args _ _ _) ?_)
  unfold Builtin.«type.__call__»
  repeat (first | with_reducible refine wpAny_loadPart_at hC ?_ | with_reducible refine wpAny_madeBy_exc hC ?_ | wp_step)
  refine codeAny_call_builtin_code (Code.quiet_builtin _ F.quiet) (check_new_kw hB hC ?_)
  refine exc_new_kw hB hA hN hC ?_ hrest
  show wpAny _ _ _ _ _ _
  have hk : ∀ b o, h.get? b = some o → ((h.push { cls := .type "tuple", data := .seq rest.toArray }).push { cls := .ref C, data := .fields #[.ref h.objs.size, .none, .none, .none, .bool false, .none] }).get? b = some o := fun b o e => Heap.get?_push_of_some _ (Heap.get?_push_of_some _ e)
  have hC₁ := hk _ _ hC
  have X₁ := X.keeps hk
  have hget : ((h.push { cls := .type "tuple", data := .seq rest.toArray }).push
      { cls := .ref C, data := .fields #[.ref h.objs.size, .none, .none, .none, .bool false, .none] }).get? (h.objs.size + 1) = some
      { cls := .ref C, data := .fields #[.ref h.objs.size, .none, .none, .none, .bool false, .none] } := by heap_get
  have hcC : (Value.ref C :: bm).contains (.ref C) = true := by simp
  unfold isInstance
  repeat (first | with_reducible refine wpAny_loadPart_at hget ?_ | (with_reducible refine wpAny_isSubtype_exc hC₁ ?_; rw [hcC]) | wp_step)
  show wpAny _ _ (typeLookup (.ref C) _) _ _ _
  refine (looks_findIn X₁ hi).at ?_
  refine wpAny_holding (wpAny_bind ((bind_fn X₁ _ hf).at ?_))
  refine wpAny_bind (wpAny_call (codeAny_mono (hq _ (h.objs.size + 1) ⟨hk, Heap.get?_none_of_le (Nat.le_succ _), h.objs.size, hget, Heap.get?_none_of_le (Nat.le_refl _), ?_⟩) fun r s' z => ?_))
  · exact Heap.get?_push_of_some _ (Heap.get?_push_at rfl rfl)
  · rcases r with e | (v | _ | _ | _) <;> first | exact z | exact z.elim | skip
    obtain ⟨rfl, z⟩ := z
    exact wpAny_pure (wpAny_pure z)
end
end Mine
namespace Mine

theorem wd_type : typeOf (.builtin "Exception.__init__") = pure (.type "wrapper_descriptor") := by show builtinType _ = _; rw [builtinType_eq_fast]; kernel_rfl
theorem wd_slot : Slot "wrapper_descriptor" "__get__" "wrapper_descriptor.__get__" := .of (owner := "wrapper_descriptor") (n := "__get__") (by rw [typeLookup_type, builtinLookup_eq_fast]; kernel_rfl) (by decide +kernel) (by decide +kernel) (by decide +kernel)
    (by first | exact .inl (by decide +kernel) | exact .inr (by decide +kernel)) (by rw [isSubtype_type]; kernel_rfl)
theorem wd_entry : entryFor table "wrapper_descriptor.__get__" = some Builtin.«wrapper_descriptor.__get__» := entryFor_of_tree (by kernel_rfl)
theorem wd_args (a b c : Value) : argsOk "wrapper_descriptor.__get__" ⟨[a, b, c], []⟩ := by unfold argsOk; kernel_rfl

section
variable {prog : Program} {w : World} {M : Model} {A : Around} {E : Value → Shared → Prop} {h : Heap} {g : Array GenState} {d : Drawn} {t : Nat} {os : OsState}

theorem wd_get {x C : Addr} {Q : Fin → Shared → Prop} (hi : Looks (model prog w) h (isInstance (.ref x) (.type "Exception")) true)
    (hq : Q (.done (.ret (.ref h.objs.size))) ⟨h.push { cls := .type "method-wrapper", data := .fields #[.builtin "Exception.__init__", .ref x] }, g, d, t, os⟩) :
    wpAny (model prog w) A (Builtin.«wrapper_descriptor.__get__» ⟨[.builtin "Exception.__init__", .ref x, .ref C], []⟩) Q E ⟨h, g, d, t, os⟩ := by
  unfold Builtin.«wrapper_descriptor.__get__»
  refine wpAny_bind (wpAny_of_eq (a := (.builtin "Exception.__init__", some (.ref x), some (.ref C))) rfl ?_)
  refine wpAny_bind (wpAny_bind (wpAny_of_eq (a := (("__init__" : Str), Value.type "Exception")) (by kernel_rfl) (wpAny_bind (hi.at ?_))))
  refine wpAny_pure (wpAny_bind ?_)
  unfold newFields
  refine wpAny_newObj_type ?_ (by simp [sizeOk])
  exact wpAny_pure hq
theorem ei_quiet (args : Args) : (Code.builtin "Exception.__init__" args).quiet = true := Code.quiet_builtin _ (by decide +kernel)
theorem check_ei {nm q : Str} {C N : Addr} {bs bm : List Value} {hdct : Bool} {sn : List Str} {sub : List Value} {ab : Bool} {col : Option Bool} {dd : Option Addr} {k0 k1 k2 k3 k5 : Option Value} {newId : String} {x : Addr} {oe : Obj} {m : Value} {Q : Unit → Shared → Prop}
    (hC : h.get? C = some (excClassObj nm q C N bs bm hdct sn sub ab col dd k0 k1 k2 k3 k5 newId)) (he : h.get? x = some oe) (hcls : oe.cls = .ref C) (hq : Q () ⟨h, g, d, t, os⟩) : wpAny M A (checkBoundCall "Exception.__init__" ⟨[.ref x, m], []⟩) Q E ⟨h, g, d, t, os⟩ := by
  have F := PySem.F.excBase_Exception
  have hshort := F.noStar
  simp only [checkBoundCall, F.initKind, F.initRow]
  rw [if_pos (by decide)]
  repeat (first | (with_reducible refine wpAny_loadPart_at he ?_; rw [hcls]) | with_reducible refine wpAny_loadPart_at hC ?_ | wp_step)
  exact hq

/-- the super object's __init__ -/
theorem super_ga {so D x C : Addr} {l₀ l : List Value} {K : Frag} {tk : Tok} {Q : Fin → Shared → Prop}
    (hso : h.get? so = some { cls := .type "super", dict := none, data := .fields #[.ref D, .ref x, .ref C], slots := #[] }) (hno : Looks (model prog w) h (opaqueClassAbove (.ref C)) none)
    (hC : Looks (model prog w) h (mroOf (.ref C)) l₀) (hl : (l₀.dropWhile (· != .ref D)).drop 1 = l) (X : K.In h)
    (hf : alongIn K "__init__" l = some (some (.builtin "Exception.__init__"))) (hi : Looks (model prog w) h (isInstance (.ref x) (.type "Exception")) true) (hxC : x ≠ C)
    (hq : Q (.done (.ret (.ref h.objs.size))) ⟨h.push { cls := .type "method-wrapper", data := .fields #[.builtin "Exception.__init__", .ref x] }, g, d, t, os⟩) :
    wpAny (model prog w) A (Builtin.«super.__getattribute__» ⟨[.ref so, .str "__init__" tk], []⟩) Q E ⟨h, g, d, t, os⟩ := by
  have hlk := wd_slot.lookup
  have hne : (Value.ref x == Value.ref C) = false := by simp [hxC]
  have hTf : (⟨h, g, d, t, os⟩ : Shared).TypeIs (.builtin "Exception.__init__") "wrapper_descriptor" := wd_type
  have hdt : ({ cls := .type "super", dict := none, data := .fields #[.ref D, .ref x, .ref C], slots := #[] } : Obj).data = .fields #[.ref D, .ref x, .ref C] := rfl
  have f0 : (#[.ref D, .ref x, .ref C] : Array Value)[0]? = some (.ref D) := rfl
  have f1 : (#[.ref D, .ref x, .ref C] : Array Value)[1]? = some (.ref x) := rfl
  have f2 : (#[.ref D, .ref x, .ref C] : Array Value)[2]? = some (.ref C) := rfl
  unfold Builtin.«super.__getattribute__»
  repeat (first
    | (with_reducible refine wpAny_field hso hdt f0 ?_) | (with_reducible refine wpAny_field hso hdt f1 ?_) | (with_reducible refine wpAny_field hso hdt f2 ?_)
    | (with_reducible refine ks_wpAny_notOpaque hno ?_)
    | (with_reducible refine Looks.at hC ?_; rw [hl])
    | (refine ks_forIn_along X (fun _ _ => rfl) rfl ?_ hf)
    | (with_reducible refine wpAny_typeOf hTf ?_)
    | (with_reducible refine wpAny_call_entry wd_slot hTf wd_entry ?_ (wd_args _ _ _))
    | (with_reducible refine wd_get hi ?_)
    | (with_reducible refine ⟨_, rfl, ?_⟩)
    | (simp only [hne, Bool.or_false, Bool.false_eq_true, if_false])
    | wp_step
    | dsimp only)
  all_goals exact hq

theorem super_method {so D x C : Addr} {l₀ l : List Value} {K : Frag} {pl : Sem Bool} {Q : Value × List Value → Shared → Prop}
    (hso : h.get? so = some { cls := .type "super", dict := none, data := .fields #[.ref D, .ref x, .ref C], slots := #[] }) (hno : Looks (model prog w) h (opaqueClassAbove (.ref C)) none)
    (hC : Looks (model prog w) h (mroOf (.ref C)) l₀) (hl : (l₀.dropWhile (· != .ref D)).drop 1 = l) (X : K.In h)
    (hf : alongIn K "__init__" l = some (some (.builtin "Exception.__init__"))) (hi : Looks (model prog w) h (isInstance (.ref x) (.type "Exception")) true) (hxC : x ≠ C)
    (hq : Q (.ref h.objs.size, []) ⟨h.push { cls := .type "method-wrapper", data := .fields #[.builtin "Exception.__init__", .ref x] }, g, d, t + 1, os⟩) :
    wpAny (model prog w) A (getMethod (.ref so) "__init__" pl) Q E ⟨h, g, d, t, os⟩ := by
  have hlk := PySem.F.ks_slot_super_ga.lookup
  have hcan := PySem.F.ks_canon_super_ga
  have hT : ∀ t', (⟨h, g, d, t', os⟩ : Shared).TypeIs (.ref so) "super" := fun _ => ⟨_, hso, rfl⟩
  unfold getMethod
  refine wpAny_bind (wpAny_specialOf (hT _) hlk ?_)
  show wpAny _ _ (if (Manifest.canonical "super.__getattribute__" != "object.__getattribute__") = true then _ else _) _ _ _
  rw [if_pos hcan]
  unfold getAttr getAttrBy
  refine wpAny_bind (wpAny_bind (wpAny_mkText (wpAny_holding (wpAny_bind (wpAny_typeOf (hT _) (wpAny_bind (wpAny_of_eq hlk ?_)))))))
  show wpAny _ _ (getAttrByItsOwn (.ref so) (.str "__init__" t) (.type "super") (.builtin "super.__getattribute__") true false) _ _ _
  unfold getAttrByItsOwn hookBefore callGetattribute boundAndCalled
  refine wpAny_bind (wpAny_of_eq (show (if onTheHeap (.type "super") then typeLookup (.type "super") "__getattr__" else pure none) = pure none from rfl) ?_)
  refine wpAny_bind (wpAny_attempt (wpAny_holding ?_))
  show wpAny _ _ (bindSpecial (.builtin "super.__getattribute__") (.ref so) >>= _) _ _ _
  refine wpAny_bind (wpAny_of_eq (PySem.F.ks_slot_super_ga.bind _) ?_)
  refine wpAny_mono (Q := fun v s' => v = .ref h.objs.size ∧ s' = ⟨h.push { cls := .type "method-wrapper", data := .fields #[.builtin "Exception.__init__", .ref x] }, g, d, t + 1, os⟩) (E := fun _ _ => False)
    (wpAny_call_entry PySem.F.ks_slot_super_ga (hT _) PySem.F.ks_entry_super_ga (super_ga hso hno hC hl X hf hi hxC ⟨_, rfl, rfl, rfl⟩) (PySem.F.ks_gaArgs_super _ _)) (fun v s' hv => ?_) fun _ _ z => z.elim
  obtain ⟨rfl, rfl⟩ := hv
  exact wpAny_pure (wpAny_pure hq)

theorem bi_plain : plainId "Exception.__init__" = true := by decide +kernel
theorem bi_entry : entryFor table "Exception.__init__" = some Builtin.«BaseException.__init__» := PySem.F.excBase_Exception.initEntry

/-- the bound __init__ called -/
theorem bound_init {nm q : Str} {C N : Addr} {bs bm : List Value} {hdct : Bool} {sn : List Str} {sub : List Value} {ab : Bool} {col : Option Bool} {dd : Option Addr} {k0 k1 k2 k3 k5 : Option Value} {newId : String} {x b : Addr} {oe : Obj} {vs : Array Value} {m : Value} {Q : Value → Shared → Prop}
    (hb : h.get? b = some { cls := .type "method-wrapper", data := .fields #[.builtin "Exception.__init__", .ref x] }) (hC : h.get? C = some (excClassObj nm q C N bs bm hdct sn sub ab col dd k0 k1 k2 k3 k5 newId)) (he : h.get? x = some oe) (hcls : oe.cls = .ref C) (hd : oe.data = .fields vs) (hsz : 0 < vs.size)
    (hq : Q .none ⟨(h.push { cls := .type "tuple", data := .seq #[m] }).update x (Obj.mapFields (·.setIfInBounds 0 (.ref h.objs.size))), g, d, t, os⟩) :
    wpAny (model prog w) A (call (.ref b) [m]) Q E ⟨h, g, d, t, os⟩ := by
  refine wpAny_call (codeAny_of_tree ?_)
  show wpAny _ A.in1 (callAny (.ref b) ⟨[m], []⟩) _ _ _
  simp only [callAny]
  refine wpAny_bind (wpAny_load hb ?_)
  dsimp only
  rw [if_pos (by decide)]
  refine wpAny_bind (check_ei hC he hcls ?_)
  refine wpAny_pure ⟨ei_quiet _, codeAny_builtin bi_entry ?_⟩
  rw [Around.under_plainId bi_plain _]
  unfold Builtin.«BaseException.__init__»
  repeat wp_step
  have he1 := Heap.get?_push_of_some { cls := .type "tuple", data := .seq [m].toArray } he
  rw [hd]
  refine wpAny_pure ?_
  have h0 : vs[0]? = some vs[0] := by simp [hsz]
  rw [h0]
  refine wpAny_pure ?_
  show wpAny _ _ (setField (.ref x) 0 (Value.ref h.objs.size) >>= _) _ _ _
  refine wpAny_bind (wpAny_setField he1 hd hsz ?_)
  generalize vs[0] = old
  have fin : wpAny (model prog w) A.in1 (ret .none) (fun fin s' => match fin with
      | .done f => (match Except.ok f with | Except.ok (Flow.ret v) => Q v s' | Except.ok a => False | Except.error e => E e s')
      | .again c' => c'.quiet = true ∧ codeAny (model prog w) A c' (fun r s' => match r with | .ok (.ret v) => Q v s' | .ok _ => False | .error e => E e s') s') (fun e s' => E e s') ⟨(h.push { cls := .type "tuple", data := .seq #[m] }).update x (Obj.mapFields (·.setIfInBounds 0 (.ref h.objs.size))), g, d, t, os⟩ := wpAny_pure hq
  cases old <;> first | (refine wpAny_pure ?_; exact fin) | (refine wpAny_letGo ?_; exact fin) | (refine wpAny_bind (wpAny_pure ?_); exact fin) | (refine wpAny_bind (wpAny_letGo ?_); exact fin)
end
end Mine
namespace Mine

section
variable {G : Gl} {S : Scope} {c : Cx S} {H : PHeap} {vs : Vars} {E : PX → PHeap → Vars → Prop} {Q : PV → PHeap → Vars → Prop} {QF : PF → PHeap → Vars → Prop} {QU : Unit → PHeap → Vars → Prop} {s : Shared} {h₀ : Heap} {m : Str → Option Value} {news : List (Addr × Obj)} {pos : Pos} {p : PV}

theorem k_defAt (hG : G.Ok) (hc : c.Ok) {f : Addr} {as : List PV} {kn : List Str} {ks : List PV} {oc : Value} {od : Option Addr} {osl : Array (Option Value)} {name qual : Str} {params : Arguments} {body : List Stmt} {scope : Scope} {dV kV doc pm cdv ct : Value} {an : Option Addr} {cl : List (Str × Addr)} {bs : Vars}
    (ho : G.K.lookup f = some ⟨oc, od, .func (fnX name qual params body scope cl dV kV doc pm an cdv ct), osl⟩) (hcd : codeIn G.K cdv qual = true) (hroom : c.dp < 900)
    (hbind : ∀ us ws, RL as us → RL ks ws → ∀ s : Shared, G.K.In s.heap → ∃ binds, BindsTo s (fnX name qual params body scope cl dV kV doc pm an cdv ct) ⟨us, kn.zip ws⟩ binds ∧ BindR bs binds)
    {ns : List Str} (hns : bs.map (·.1) = ns) (hloc : ∀ y ∈ ns, scope.names.lookup y = some .local) (hnd : ns.Nodup) (hcell : ∀ x ∈ scope.names, x.2 ≠ .cell)
    (hco : scope.isCoroutine = false) (hgen : scope.isGenerator = false) (hk : scope.kind = .function)
    (h : ∀ c' : Cx scope, c'.Ok → c'.dp = c.dp + 1 → c'.un = c.un + 3 → c'.hd = c.hd → c'.own = true → c'.cl = cl → c'.fn = some f → c'.ccd = cdv → ∀ s, Sat G c' H bs s → PySem.wpAt (model G.prog G.w) c'.A (.func body c'.env) (execs body c'.env) (fun fl s' => ∃ r H' vs', PF.R r fl ∧ Sat G c' H' vs' s' ∧ RetQ Q vs r H' vs') (fun e s' => ∃ x H' vs', ExSat G c' H' vs' x e s' ∧ E x H' vs) s) :
    CodeP G c (.ref f) as kn ks H vs Q E := by
  subst hns
  rintro _ us ws rfl has hks s hs
  obtain ⟨h₀, m, news, S0, V⟩ := id hs
  have X := S0.X hG
  have T' := S0.T hG
  obtain ⟨binds, hb, hbr⟩ := hbind us ws has hks s (X.keeps S0.F.keep)
  refine (ks_codeAny_call_defAt (fd := fnX name qual params body scope cl dV kV doc pm an cdv ct) (body := body) (binds := binds) (Nat.lt_of_lt_of_le hroom (by decide)) ((X.keeps S0.F.keep) _ _ ho) rfl (T'.nolimit.keeps S0.F.keep) (codeRec_of (X.keeps S0.F.keep) hcd) rfl hb hcell
    (fun y hy => hloc y.1 (by rw [hbr.1]; exact List.mem_map_of_mem (f := (·.1)) hy)) (fun h₁ hns hk₁ => ?_) hco hgen hk)
  obtain ⟨FG, BG⟩ := ground hc S0
  have FL : Fr (hideAll s.heap (news.map (·.1))) s.heap.objs.size h₁ (fun y => binds.reverse.lookup y) := ⟨hns, fun b o e => hk₁ b o (of_hideAll _ e), Nat.le_of_eq (hideAll_size _ _)⟩
  have NL : News (hideAll s.heap (news.map (·.1))) s.heap.objs.size h₁ news := fun p hp => ⟨hk₁ _ _ (S0.N p hp).1, Nat.ne_of_lt (Heap.lt_size (S0.N p hp).1), hideAll_none _ (List.mem_map_of_mem hp)⟩
  have key := h (Cx.sub c m scope s.heap.objs.size f qual cdv cl) (Cx.sub_ok hk) rfl rfl rfl rfl rfl rfl rfl { s with heap := h₁, toks := s.toks + binds.length }
    ⟨_, _, news, ⟨FL, NL, BG, back_sub hc S0 FG rfl rfl (Heap.lt_size S0.F.ns.choose_spec.choose_spec.choose_spec.1), S0.hr, S0.dj, S0.g, S0.d, S0.o⟩, hbr.vr hnd⟩
  refine ks_wpAt_mono key (fun fl s' hq => ?_) (fun e s' hx => ?_)
  · obtain ⟨r, H1, vs1, hr, hs1, hq⟩ := hq
    obtain ⟨p, H2, hp, le, hq2⟩ := ret_q hr hq
    exact ⟨p, H2, vs, hp, (ret_sat (c := c) (c' := Cx.sub c m scope s.heap.objs.size f qual cdv cl) S0 V rfl rfl rfl hs1).weaken le, hq2⟩
  · obtain ⟨x, H', vs', hx, hE⟩ := hx
    exact leave_ex S0 V hk hx hE


theorem Sat0.exc (S0 : Sat0 G c H m h₀ news s) {a C : Addr} {od : Option Addr} {fl : Bool} (e : H a = some (.exc C od fl)) : ∃ o ws, (a, o) ∈ news ∧ o.cls = .ref C ∧ o.dict = od ∧ o.data = .fields ws ∧ ws.size = 6 ∧ (fl = true → ws[1]? = some .none) ∧ s.heap.get? a = some o := by
  obtain ⟨mo, hm, h1, h2, ws, h3, h4, h5⟩ := S0.mem e
  exact ⟨mo, ws, hm, h1, h2, h3, h4, h5, (S0.N _ hm).1⟩
theorem Sat0.dict (S0 : Sat0 G c H m h₀ news s) {d : Addr} {fs : Vars} (e : H d = some (.dict fs)) : ∃ es n, (d, dictOf es n) ∈ news ∧ RD fs es ∧ s.heap.get? d = some (dictOf es n) := by
  obtain ⟨mo, hm, es, n, rfl, hr⟩ := S0.mem e
  exact ⟨es, n, hm, hr, (S0.N _ hm).1⟩

theorem g_exc (hG : G.Ok) {a C d : Addr} {fl : Bool} {fs : Vars} {name : Str} (hE : ExcOk G C) (hn : findIn G.K (.ref C) name = some none) (e1 : H a = some (.exc C (some d) fl)) (e2 : H d = some (.dict fs)) (hl : fs.lookup name = some p) (hp : p.plain = true) (h : Q p H vs) : GetP G c (.ref a) name H vs Q E := by
  rintro _ rfl s ⟨h₀, m, news, S0, V⟩
  obtain ⟨o, ws, hm, k1, k2, k3, k4, k5, k6⟩ := S0.exc e1
  obtain ⟨es, n, hm2, hr, hd⟩ := S0.dict e2
  obtain ⟨v, hv, hpv⟩ := hr.getSome hl
  have hX := (S0.X hG).keeps S0.F.keep
  refine exc_get_wp hE hn hX k6 k1 k2 ?_ hd hv (hp.symm ▸ PV.plain_handed hp hpv) ⟨p, H, vs, hpv, Sat.tok ⟨h₀, m, news, S0, V⟩, h⟩
  unfold notCls; rw [k3]
theorem s_exc (hG : G.Ok) {a C d : Addr} {fl : Bool} {fs : Vars} {name : Str} (hE : ExcOk G C) (hn : findIn G.K (.ref C) name = some none) (e1 : H a = some (.exc C (some d) fl)) (e2 : H d = some (.dict fs)) (hz : fs.length < 1000) (h : QU () (H.set d (.dict (putV name p fs))) vs) : SetP G c (.ref a) name p H vs QU E := by
  rintro _ vv rfl hv s ⟨h₀, m, news, S0, V⟩
  obtain ⟨o, ws, hm, k1, k2, k3, k4, k5, k6⟩ := S0.exc e1
  obtain ⟨es, n, hm2, hr, hd⟩ := S0.dict e2
  have hX := (S0.X hG).keeps S0.F.keep
  have hlen : ∀ (l : Vars), (putV name p l).length ≤ l.length + 1 := by
    intro l
    induction l with
    | nil => simp [putV]
    | cons a r ih => unfold putV; split <;> simp <;> omega
  obtain ⟨cd, a', b', hcd, hhd, hmro⟩ := hE.cls
  refine exc_set_wp hE hn hX (od := some (dictOf es n)) ⟨k6, k1, by unfold notCls; rw [k3], by rw [k2]; exact hd⟩ ?_
  show wpAny _ _ (instanceDict a true) _ _ _
  unfold instanceDict
  refine wpAny_bind (wpAny_loadPart k6 ?_)
  rw [k1]
  refine wpAny_bind ((looks_clsIn hX hcd).here (s := { s with toks := s.toks + 1 }) ?_)
  rw [hhd, k2]
  refine wpAny_pure ⟨d, rfl, ?_⟩
  have hp : RD (putV name p fs) (putL name (PyData.keyHash G.w.params name) (.str name (s.toks + 1)) vv es) := hr.put hv
  refine nsstore_wp (n := n) hd (hr.getIs name) (by rw [hp.len]; have := hlen fs; omega) fun h' hsb hd' => ⟨rfl, ?_⟩
  obtain ⟨news', U, q1, q2⟩ := upd_mem (mo' := dictOf (putL name (PyData.keyHash G.w.params name) (.str name (s.toks + 1)) vv es) (putN name es n)) hm2 S0.hr.nodup
  obtain ⟨pre, post, rfl, rfl, u1, u2⟩ := U.split
  have z := S0.N _ hm2
  exact ⟨(), _, vs, trivial, ⟨h₀, m, _, S0.upd (po' := .dict (putV name p fs)) (k := s.toks + 1 + 1) e2 q1 q2 ⟨_, _, rfl, hp⟩ (S0.F.change hsb z.2.1 z.2.2) (news_set S0.N u1 u2 hsb hd'), V⟩, h⟩

theorem k_newexc (hG : G.Ok) {C fI : Addr} {as : List PV} {kn : List Str} {ks : List PV} {nm q : Str} {N : Addr} {bs bm : List Value} {hdct : Bool} {sn : List Str} {sub : List Value} {ab : Bool} {col : Option Bool} {dd : Option Addr} {k0 k1 k2 k3 k5 : Option Value}
    (hK : G.K.lookup C = some (excClassObj nm q C N bs bm hdct sn sub ab col dd k0 k1 k2 k3 k5 "Exception.__new__")) (hB : bm.contains (.type "Exception") = true) (hA : bm.contains (.type "AttributeError") = false) (hN : bm.contains (.type "NameError") = false)
    (hcall : specialIn G.K (.ref C) "__call__" = some (some (.builtin "type.__call__"))) (htyp : instIn G.K (.ref C) (.type "type") = some true) (hi : findIn G.K (.ref C) "__init__" = some (some (.ref fI))) (hf : typeIn G.K (.ref fI) = some (.type "function")) (hz : as.length ≤ sizeLine)
    (h : ∀ e, H e = none → CodeP G (c.up 1 1) (.ref fI) (.ref e :: as) kn ks (H.set e (.exc C none true)) vs (fun r H1 vs1 => r = .none ∧ Q (.ref e) H1 vs1) E) : CallP G c (.ref C) as kn ks H vs Q E := by
  rintro _ us ws rfl has hks s ⟨h₀, m, news, S0, V⟩
  have hX := (S0.X hG).keeps S0.F.keep
  obtain ⟨hh, g, d, t, os⟩ := s
  refine wpAny_call (make_exc hX hcall htyp hB hA hN (hX _ _ hK) hi hf (fun h' e hm => ?_) (by rw [has.len]; exact hz))
  obtain ⟨tt, ht, ht2, ht3⟩ := hm.there
  have S1 : Sat0 G c H m h₀ news ⟨h', g, d, t, os⟩ := ⟨S0.F.keeps hm.keeps, fun q hq => ⟨hm.keeps _ _ (S0.N q hq).1, (S0.N q hq).2⟩, S0.B, S0.bk, S0.hr, S0.dj, S0.g, S0.d, S0.o⟩
  obtain ⟨S2, e2⟩ := S1.adoptP (a := e) (po := .exc C none true) (fun hq => by
    obtain ⟨q, hq, e1⟩ := List.mem_map.mp hq
    have := (S0.N q hq).1
    rw [e1, hm.new] at this; cases this) (fun e1 => by
    obtain ⟨oL, es, ep, hL, _⟩ := S0.F.ns
    rw [← e1, hm.new] at hL; cases hL) (by
    cases z : h₀.get? e with
    | none => rfl
    | some o => have := S0.F.keep _ _ z; rw [hm.new] at this; cases this) ht ⟨rfl, rfl, _, rfl, rfl, fun _ => rfl⟩
  have hA : c.A.under (.builtin "type.__call__" ⟨.ref C :: us, kn.zip ws⟩) = (c.up 1 1).A := rfl
  rw [hA]
  refine codeAny_mono (h e e2 _ (.ref e :: us) ws rfl (.cons rfl has) hks _ (Sat.up ⟨h₀, m, _, S2, V⟩)) fun r s' hr => ?_
  unfold InitBack
  cases r with
  | ok fl =>
    cases fl with
    | ret v =>
      obtain ⟨r, H1, vs1, hrv, hs1, rfl, hq⟩ := hr
      cases hrv
      exact ⟨rfl, .ref e, H1, vs1, rfl, hs1.down, hq⟩
    | next => exact hr
    | brk => exact hr
    | cont => exact hr
  | error e =>
    obtain ⟨y, H', vs', a, b⟩ := hr
    exact ⟨y, H', vs', a.down, b⟩
end
end Mine
namespace Mine

section
variable {G : Gl} {S : Scope} {c : Cx S} {H : PHeap} {vs : Vars} {E : PX → PHeap → Vars → Prop} {Q : PV → PHeap → Vars → Prop} {QF : PF → PHeap → Vars → Prop} {QU : Unit → PHeap → Vars → Prop} {s : Shared} {h₀ h' : Heap} {m : Str → Option Value} {news : List (Addr × Obj)} {pos : Pos} {p : PV}

/-- an object of the ledger changes -/
theorem Sat0.poke (S0 : Sat0 G c H m h₀ news s) {a : Addr} {po po' : PO} {o o' : Obj} {k : Nat} (e : H a = some po) (hm : (a, o) ∈ news) (hsb : Heap.SameBut a s.heap h') (ho : h'.get? a = some o') (hr : PO.R po' o') :
    ∃ news', Sat0 G c (H.set a po') m h₀ news' { s with heap := h', toks := k } ∧ (a, o') ∈ news' ∧ news'.map (·.1) = news.map (·.1) := by
  obtain ⟨news', U, q1, q2⟩ := upd_mem (mo' := o') hm S0.hr.nodup
  obtain ⟨pre, post, rfl, rfl, u1, u2⟩ := U.split
  have z := S0.N _ hm
  exact ⟨_, S0.upd (po' := po') (k := k) e q1 q2 hr (S0.F.change hsb z.2.1 z.2.2) (news_set S0.N u1 u2 hsb ho), by simp, q1⟩

theorem s_exc0 (hG : G.Ok) {a C : Addr} {name : Str} (hE : ExcOk G C) (hn : findIn G.K (.ref C) name = some none) (e1 : H a = some (.exc C none true)) (h : ∀ d, H d = none → QU () ((H.set a (.exc C (some d) true)).set d (.dict [(name, p)])) vs) : SetP G c (.ref a) name p H vs QU E := by
  rintro _ vv rfl hv s ⟨h₀, m, news, S0, V⟩
  obtain ⟨o, ws, hm, k1, k2, k3, k4, k5, k6⟩ := S0.exc e1
  have hX := (S0.X hG).keeps S0.F.keep
  obtain ⟨cd, a', b', hcd, hhd, hmro⟩ := hE.cls
  refine exc_set_wp hE hn hX (od := none) ⟨k6, k1, by unfold notCls; rw [k3], by rw [k2]; trivial⟩ ?_
  show wpAny _ _ (instanceDict a true) _ _ _
  unfold instanceDict
  refine wpAny_bind (wpAny_loadPart k6 ?_)
  rw [k1]
  refine wpAny_bind ((looks_clsIn hX hcd).here (s := { s with toks := s.toks + 1 }) ?_)
  rw [hhd, k2]
  dsimp only
  rw [k3]
  refine wpAny_bind (wpAny_alloc ?_)
  have had : a ≠ s.heap.objs.size := Nat.ne_of_lt (Heap.lt_size k6)
  obtain ⟨S1, hd1⟩ := S0.alloc (a := s.heap.objs.size) (po := .dict []) (mo := dictOf [] 0) (k := s.toks + 1) (S0.F.push _) (News.push S0.F S0.N (dictOf [] 0) rfl) (fun q hq => Heap.lt_size (S0.N q hq).1) ⟨[], 0, rfl, .nil⟩
  have k6' := Heap.get?_push_of_some (h := s.heap) (dictOf [] 0) k6
  refine wpAny_bind (wpAny_update k6' ?_)
  have hself : ((s.heap.push (dictOf [] 0)).update a fun o => { o with dict := some s.heap.objs.size }).get? a = some { o with dict := some s.heap.objs.size } := Heap.get?_update_self _ k6' (Obj.isFreed_of_fields k3)
  obtain ⟨news2, S2, hm2, hk2⟩ := S1.poke (a := a) (po' := .exc C (some s.heap.objs.size) true) (k := s.toks + 1) ((PHeap.set_ne had).trans e1) (.tail _ hm) (Heap.SameBut.update ..) hself ⟨k1, rfl, ws, k3, k4, k5⟩
  rw [show dictMade (.ref C) a s.heap.objs.size = pure (some s.heap.objs.size) from rfl]
  refine wpAny_pure ⟨s.heap.objs.size, rfl, ?_⟩
  have hD2 : (((H.set s.heap.objs.size (.dict [])).set a (.exc C (some s.heap.objs.size) true))) s.heap.objs.size = some (.dict []) := (PHeap.set_ne (Ne.symm had)).trans PHeap.set_self
  obtain ⟨es, n, hm3, hr3, hd3⟩ := S2.dict hD2
  have hr4 : RD (putV name p []) (putL name (PyData.keyHash G.w.params name) (.str name (s.toks + 1)) vv es) := hr3.put hv
  refine nsstore_wp (n := n) hd3 (hr3.getIs name) (by rw [hr4.len]; show ([(name, p)] : Vars).length ≤ 1000; simp) fun h' hsb hd' => ⟨rfl, ?_⟩
  obtain ⟨news3, S3, _⟩ := S2.poke (k := s.toks + 1 + 1) (po' := .dict [(name, p)]) hD2 hm3 hsb hd' ⟨_, _, rfl, hr4⟩
  refine ⟨(), _, vs, trivial, ⟨h₀, m, news3, S3, V⟩, ?_⟩
  have heq : (((H.set s.heap.objs.size (.dict [])).set a (.exc C (some s.heap.objs.size) true)).set s.heap.objs.size (.dict [(name, p)])) = ((H.set a (.exc C (some s.heap.objs.size) true)).set s.heap.objs.size (.dict [(name, p)])) := by
    funext b
    unfold PHeap.set
    by_cases hb : b = s.heap.objs.size
    · simp [hb]
    · simp [hb]
  rw [heq]
  exact h _ hd1

/-- an object of an own exception class is raised -/
theorem raise_wp {M : Model} {A : Around} {E' : Value → Shared → Prop} {Q' : Flow → Shared → Prop} {env : Env} {x : Sem Value}
    (h : wpAny M A x (fun v s => ∃ ea C o ws, ExcOk G C ∧ v = .ref ea ∧ G.K.In s.heap ∧ s.heap.get? ea = some o ∧ o.cls = .ref C ∧ o.data = .fields ws ∧ ws[1]? = some Value.none ∧ wpAny M A (raiseNew (.ref ea) : Sem Flow) Q' E' s) E' s) : wpAny M A (raiseStmt env (some x) none) Q' E' s := by
  unfold raiseStmt
  refine wpAny_bind (wpAny_mono h (fun v s1 h1 => ?_) fun _ _ x => x)
  obtain ⟨ea, C, o, ws, hE, rfl, X, k1, k2, k3, k4, h1⟩ := h1
  refine wpAny_bind (wpAny_pure ?_)
  have TY : Looks M s1.heap (typeOf (.ref ea)) (.ref C) := k2 ▸ (Looks.ld k1).andThen .now
  have isT : ∀ {Q : Bool → Shared → Prop} {E : Value → Shared → Prop}, Q false s1 → wpAny M A (isType (.ref ea)) Q E s1 := fun hq => by
    unfold isType loadHead
    refine wpAny_bind (wpAny_loadPart k1 ?_)
    rw [k3]
    exact wpAny_pure hq
  have sub : Looks M s1.heap (isInstance (.ref ea) (.type "BaseException")) true := TY.andThen (looks_subIn X hE.subB)
  refine wpAny_bind (wpAny_holding ?_)
  unfold excFromValue isExcClass
  refine wpAny_bind (wpAny_bind (isT ?_))
  rw [if_neg (by decide)]
  refine wpAny_pure ?_
  rw [if_neg (by decide)]
  refine wpAny_bind (sub.here ?_)
  rw [if_pos rfl]
  refine wpAny_pure ?_
  dsimp only
  refine wpAny_bind (isT ?_)
  rw [if_neg (by decide)]
  unfold raisedInstance
  refine wpAny_bind (wpAny_bind (TY.here (wpAny_bind ((looks_typeIn X hE.ty).here ?_))))
  rw [if_pos (by decide)]
  refine wpAny_pure ?_
  unfold setFlight
  refine wpAny_bind (wpAny_bind (wpAny_field k1 k3 k4 ?_))
  rw [if_neg (by decide)]
  exact wpAny_pure h1
end
end Mine
namespace Mine

theorem PHeap.del_le {H : PHeap} {a : Addr} : PHeap.Le (H.del a) H := fun b o e => by
  unfold PHeap.del at e
  split at e
  · cases e
  · exact e
theorem uc_entry : entryFor table "proto.unchain" = some Builtin.«proto.unchain» := entryFor_of_tree (by kernel_rfl)
theorem uc_plain : plainId "proto.unchain" = true := by decide +kernel

section
variable {G : Gl} {S : Scope} {c : Cx S} {H : PHeap} {vs : Vars} {E : PX → PHeap → Vars → Prop} {Q : PV → PHeap → Vars → Prop} {QF : PF → PHeap → Vars → Prop} {QU : Unit → PHeap → Vars → Prop} {s : Shared} {h₀ h' : Heap} {m : Str → Option Value} {news : List (Addr × Obj)} {pos : Pos} {p : PV}

theorem ex_own (S0 : Sat0 G c H m h₀ news s) (V : VR vs m) {a C d : Addr} (e : H a = some (.exc C (some d) true)) {o' : Obj} {k : Nat} (hsb : Heap.SameBut a s.heap h') (ho : h'.get? a = some o') {ws : Array Value} (g1 : o'.cls = .ref C) (g2 : o'.dict = some d) (g3 : o'.data = .fields ws) (g4 : ws.size = 6) (g5 : ws[1]? = some .none) :
    ExSat G c (H.del a) vs (.own C d) (.ref a) { s with heap := h', toks := k } := fun _ => by
  obtain ⟨o, ws0, hm, k1, k2, k3, k4, k5, k6⟩ := S0.exc e
  obtain ⟨news', S1, hm1, hk⟩ := S0.poke (k := k) (po' := .exc C (some d) true) e hm hsb ho ⟨g1, g2, ws, g3, g4, fun _ => g5⟩
  have le : PHeap.Le (H.del a) (H.set a (.exc C (some d) true)) := fun b x hb => by
    unfold PHeap.del at hb
    split at hb
    · cases hb
    · rename_i hne; rw [PHeap.set_ne hne]; exact hb
  have S2 := S1.weaken le
  have hp : c.P.lookup a = none := by
    cases q : c.P.lookup a with
    | none => rfl
    | some z => have := S0.dj a (by rw [q]; rfl); rw [e] at this; cases this
  have z := S1.N _ hm1
  refine ⟨a, rfl, .inl ⟨h₀, m, _, S2, V, fun hq => ?_, z.2.1, z.2.2, o', ws, ho, g3, g4, g5, g1, g2⟩⟩
  obtain ⟨q, hq, e1⟩ := List.mem_map.mp hq
  have := (List.mem_filter.mp hq).2
  rw [e1] at this
  unfold ext PHeap.del at this
  rw [hp] at this
  simp at this

theorem t_raise (hG : G.Ok) (hd : c.hd = none) {x : Expr} (h : T G c PV.R (eval x c.env) H vs (fun p H1 vs1 => ∃ ea C d, p = .ref ea ∧ ExcOk G C ∧ H1 ea = some (.exc C (some d) true) ∧ E (.own C d) (H1.del ea) vs1) E) :
    T G c PF.R (exec (.Raise (some x) none pos) c.env) H vs QF E := fun s hs => by
  rw [arm_exec_Raise]
  refine wpAny_bind (wpAny_standAt (raise_wp (G := G) ?_))
  refine wpAny_bind (wpAny_mono (h s hs) (fun v s1 ⟨p, H1, vs1, hp, hs1, ea, C, d, e1, hE, e2, hq⟩ => ?_) fun _ _ x => x)
  subst e1
  cases hp
  obtain ⟨h₀, m, news, S0, V⟩ := id hs1
  obtain ⟨o, ws0, hm, k1, k2, k3, k4, k5, k6⟩ := S0.exc e2
  refine wpAny_bind (wpAny_standAt (wpAny_pure ⟨ea, C, o, ws0, hE, rfl, hs1.X hG, k6, k1, k3, k5 rfl, wpAny_raiseNew_none hd ?_⟩))
  exact ⟨.own C d, H1.del ea, vs1, ex_own (k := s1.toks) S0 V e2 ⟨rfl, fun _ _ => rfl⟩ k6 k1 k2 k3 k4 (k5 rfl), hq⟩

/-- under a handler -/
theorem t_raiseh (hG : G.Ok) {eh : Addr} {oh : Obj} {wh : Array Value} (hd : c.hd = some (.ref eh)) (hPl : c.P.lookup eh = some oh) (hhd : oh.data = .fields wh) (hh2 : wh[2]? = some .none) {x : Expr}
    (h : T G c PV.R (eval x c.env) H vs (fun p H1 vs1 => ∃ ea C d, p = .ref ea ∧ ExcOk G C ∧ H1 ea = some (.exc C (some d) true) ∧ E (.own C d) (H1.del ea) vs1) E) :
    T G c PF.R (exec (.Raise (some x) none pos) c.env) H vs QF E := fun s hs => by
  rw [arm_exec_Raise]
  refine wpAny_bind (wpAny_standAt (raise_wp (G := G) ?_))
  refine wpAny_bind (wpAny_mono (h s hs) (fun v s1 ⟨p, H1, vs1, hp, hs1, ea, C, d, e1, hE, e2, hq⟩ => ?_) fun _ _ x => x)
  subst e1
  cases hp
  obtain ⟨h₀, m, news, S0, V⟩ := id hs1
  obtain ⟨o, ws0, hm, k1, k2, k3, k4, k5, k6⟩ := S0.exc e2
  have hpe : ext c.P H1 eh = some (.raw oh) := by unfold ext; rw [hPl]
  obtain ⟨mo, hmo, hmr⟩ := S0.hr.mem hpe
  cases hmr
  have gh := (S0.N _ hmo).1
  have hne : eh ≠ ea := fun e => by
    have := S0.dj eh (by rw [hPl]; rfl)
    rw [e, e2] at this; cases this
  refine wpAny_bind (wpAny_standAt (wpAny_pure ⟨ea, C, o, ws0, hE, rfl, hs1.X hG, k6, k1, k3, k5 rfl, ?_⟩))
  unfold raiseNew
  refine wpAny_bind (wpAny_handled ?_)
  rw [show c.A.handled = some (.ref eh) from hd]
  dsimp only
  rw [if_pos (by simp [hne])]
  refine wpAny_bind (wpAny_holding (wpAny_runValue (codeAny_builtin uc_entry ?_)))
  rw [Around.under_plainId uc_plain _]
  unfold Builtin.«proto.unchain»
  refine wpAny_bind (wpAny_field gh hhd hh2 ?_)
  rw [if_pos (by decide)]
  refine wpAny_pure ?_
  show wpAny _ _ (updateField ea 2 (.ref eh) >>= fun _ => throw (.ref ea)) _ _ _
  unfold updateField
  refine wpAny_bind (wpAny_bind (wpAny_load k6 ?_))
  rw [k3]
  dsimp only
  rw [if_pos (by omega)]
  refine wpAny_update k6 (wpAny_throw ?_)
  refine ⟨.own C d, H1.del ea, vs1, ex_own (k := s1.toks) S0 V e2 (Heap.SameBut.update ..) (Heap.get?_update_self _ k6 (Obj.isFreed_of_fields (Obj.data_mapFields k3 _))) ((Obj.cls_mapFields _ _).trans k1) ((dict_mapFields _ _).trans k2) (Obj.data_mapFields k3 _) (by simp [k4]) (by rw [Array.getElem?_setIfInBounds_ne (by decide)]; exact k5 rfl), hq⟩
end
end Mine
namespace Mine

section
variable {G : Gl} {S : Scope} {c : Cx S} {H : PHeap} {vs : Vars} {E : PX → PHeap → Vars → Prop} {Q : PV → PHeap → Vars → Prop} {QF : PF → PHeap → Vars → Prop} {QU : Unit → PHeap → Vars → Prop} {s : Shared} {h₀ h' : Heap} {m : Str → Option Value} {news : List (Addr × Obj)} {pos : Pos} {p : PV}

/-- an own class is caught, with a name; the suite raises nothing -/
theorem t_try_as (hG : G.Ok) (hc : c.Ok) (ho : c.own = true) {body : List Stmt} {x n : Str} {np : Pos} {b₀ : Stmt} {suite : List Stmt} {hpos : Pos} {C N : Addr} {nm q : Str} {bs bm : List Value} {hdct : Bool} {sn : List Str} {sub : List Value} {ab : Bool} {col : Option Bool} {dd : Option Addr} {k0 k1 k2 k3 k5 : Option Value} {newId : String}
    (hx : S.names.lookup x = some .globalImplicit) (ex : nsIn G.K mainGlobals x = some (some (.ref C))) (hdb : (x == ("__debug__" : Str)) = false) (hn : S.names.lookup n = some .local)
    (hK : G.K.lookup C = some (excClassObj nm q C N bs bm hdct sn sub ab col dd k0 k1 k2 k3 k5 newId)) (hbase : bm.contains (.type "BaseException") = true)
    (h : T G c PF.R (execs body c.env) H vs QF (fun x H1 vs1 => ∃ d, x = .own C d ∧ ∀ e, H1 e = none → T G (c.hand e) PF.R (execs (b₀ :: suite) c.env) (H1.set e (.exc C (some d) false)) (putV n (.ref e) vs1) (fun fl H2 _ => QF fl H2 []) noX)) :
    T G c PF.R (exec (.Try body [.ExceptHandler (some (.Name x np)) (some n) (b₀ :: suite) hpos] [] [] pos) c.env) H vs QF E := fun s hs => by
  refine wpAny_Try_except (wpAny_mono (h s hs) (fun f s1 ⟨r, H1, vs1, hr, hs1, h1⟩ => ?_) fun e s1 hx1 => ?_)
  · cases r with
    | next => cases hr; exact wpAny_execs_nil ⟨.next, H1, vs1, rfl, hs1, h1⟩
    | brk => cases hr; exact ⟨.brk, H1, vs1, rfl, hs1, h1⟩
    | cont => cases hr; exact ⟨.cont, H1, vs1, rfl, hs1, h1⟩
    | ret p => obtain ⟨v, rfl, hv⟩ := hr; exact ⟨.ret p, H1, vs1, ⟨v, rfl, hv⟩, hs1, h1⟩
  · obtain ⟨y, H1, vs1, hx1, d, rfl, hh⟩ := hx1
    obtain ⟨ea, rfl, hy⟩ := hx1 ho
    obtain ⟨m1, news1, V1, F1, X1⟩ := flyC_at hc hy
    refine note_wp ho rfl F1 X1 fun s2 h2 => ?_
    refine flight_wp h2 fun s3 h3 => ?_
    obtain ⟨h₀, T, oe, oT, ws, ts, S0, ⟨a1, a2, a3, a4⟩, ⟨c1, c2, c3, c4⟩, hTe, d1, d2, d3, d4, d5, d6⟩ := fly_land h3
    have hX : G.K.In s3.heap := (S0.X hG).keeps S0.F.keep
    obtain ⟨hh3, gg, gd, tk, gos⟩ := s3
    refine wpAny_handleBy_cons (codeAny_handlers_test ?_) (by intro q; cases q)
    refine Name_function_global (env := c.env) hc.hk hx (loadGlobal_global (env := c.env) ((S0.T hG).g.keeps S0.F.keep) (mg_of (S0.X hG) (S0.T hG).g ex) ?_) hdb
    refine wpAny_excMatches_sub_self (hX _ _ hK) a4 d4.1 hbase ?_
    refine codeAny_handlers_suite_as ?_
    unfold setFlight
    refine wpAny_bind (wpAny_field a4 d1 d3 ?_)
    rw [if_pos (show (Value.ref T != Value.none) = true from by simp)]
    refine wpAny_setField c4 d5 (Array.getElem?_eq_some_iff.mp d6).1 ?_
    have other : ∀ b, b ≠ T → (hh3.update T (Obj.mapFields (·.setIfInBounds 3 (Option.none (α := Addr) |>.elim Value.none fun f => rawInt f)))).get? b = hh3.get? b := fun b hb => Heap.get?_update_other _ _ (Ne.symm hb)
    have S1 := S0.leap (a := T) (b := T) (k := tk) c1 c2 c3 c1 c2 c3 (fun z o hz _ e => (other z hz).trans e)
    obtain ⟨S2, hen⟩ := S1.adoptP (a := ea) (po := .exc C (some d) false) a1 a2 a3 ((other ea (Ne.symm hTe)).trans a4) ⟨d4.1, d4.2, ws, d1, d2, fun e => by cases e⟩
    have key := t_store (G := G) (c := c.hand ea) (E := noX) (QU := fun _ H2 vs2 => H2 = H1.set ea (.exc C (some d) false) ∧ vs2 = putV n (.ref ea) vs1) (p := .ref ea) (v := .ref ea) (x := n) (Cx.hand_ok hc) hn rfl ⟨rfl, rfl⟩ _ ⟨h₀, m1, _, S2.hand, V1⟩
    refine wpAny_mono key (fun _ s5 h5 => ?_) fun _ _ ⟨_, _, _, _, hf⟩ => hf.elim
    obtain ⟨_, H5, vs5, _, hs5, rfl, rfl⟩ := h5
    refine wpAny_mono (hh ea hen s5 hs5) (fun f s6 h6 => ?_) fun _ _ ⟨_, _, _, _, hf⟩ => hf.elim
    obtain ⟨r, H6, vs6, hr6, ⟨h7, m7, n7, S7, V7⟩, hq6⟩ := h6
    refine wpAny_nameGoes (env := c.env) hn S7.F.ns (by show (S.kind == .class || (S.kind == .module && c.L != mainGlobals)) = false; rw [hc.hk]; rfl) fun h8 m8 hn8 hs8 => ?_
    have S8 : Sat0 G c H6 m8 h7 n7 { s6 with heap := h8, toks := s6.toks + 1 } := ⟨S7.F.set hn8 hs8, S7.N.set hs8, S7.B, S7.bk, S7.hr, S7.dj, S7.g, S7.d, S7.o⟩
    exact ⟨r, H6, [], hr6, ⟨h7, m8, n7, S8, fun y p e => by cases e⟩, hq6⟩
end
end Mine
namespace Mine

/-- what super() needs to know -/
structure SuperOk (G : Gl) (C f cda ca : Addr) : Prop where
  fn : ∃ oc od fd osl ar, G.K.lookup f = some ⟨oc, od, .func fd, osl⟩ ∧ (fd.params.posonlyargs ++ fd.params.args).head? = some ar ∧ ar.arg = ("self" : Str)
  code : ∃ oc file tf vs, G.K.lookup cda = some oc ∧ oc.data = .fields vs ∧ vs[2]? = some (.str file tf) ∧ ((G.prog.main.file : Str) == file) = true
  cell : ∃ oc, G.K.lookup ca = some oc ∧ oc.data = .cell (some (.ref C))
  top : (G.prog.main.scope.names.lookup ("super" : Str)).isSome = false
  sup : nsIn G.K mainGlobals "super" = some none
  tp : nsIn G.K cStatics "thirdparty.any" = some none
  self : mroIn G.K C (.ref C) = some true
  exc : subIn G.K (.ref C) (.type "Exception") = some true
  along : ∃ cd, clsIn G.K C = some cd ∧ alongIn G.K "__init__" ((cd.mro.dropWhile (· != .ref C)).drop 1) = some (some (.builtin "Exception.__init__"))

section
variable {G : Gl} {S : Scope} {c : Cx S} {H : PHeap} {vs : Vars} {E : PX → PHeap → Vars → Prop} {Q : PV → PHeap → Vars → Prop} {QF : PF → PHeap → Vars → Prop} {QU : Unit → PHeap → Vars → Prop} {s : Shared} {h₀ h' : Heap} {m : Str → Option Value} {news : List (Addr × Obj)} {pos : Pos} {p : PV}

theorem superinit_wpAt (hG : G.Ok) (hc : c.Ok) {f cda ca C e N : Addr} {body : List Stmt} {p0 p1 ap mp cp : Pos} {nm q : Str} {bs bm : List Value} {hdct : Bool} {sn : List Str} {sub : List Value} {ab : Bool} {col : Option Bool} {dd : Option Addr} {k0 k1 k2 k3 k5 : Option Value} {newId : String} {msg : PV} {fl : Bool} {od : Option Addr} {E' : Value → Shared → Prop} {pl : Sem Bool}
    (hce : eval (.Call (.Attribute (.Call (.Name ("super" : Str) p0) [] [] p1) ("__init__" : Str) ap) [.Name ("message" : Str) mp] [] cp) c.env = (do
      let ov ← attributeBase (.Call (.Name ("super" : Str) p0) [] [] p1) ("__init__" : Str) c.env (eval (.Call (.Name ("super" : Str) p0) [] [] p1) c.env)
      standAt ap.atName
      let (f, first) ← holding [ov] (getMethod ov ("__init__" : Str) pl)
      callWith cp f first (backTo cp (starEach [.Name ("message" : Str) mp] c.env)) []))
    (hS : SuperOk G C f cda ca) (hK : G.K.lookup C = some (excClassObj nm q C N bs bm hdct sn sub ab col dd k0 k1 k2 k3 k5 newId)) (hfn : c.fn = some f) (hcc : c.ccd = .ref cda) (hcl : c.cl.lookup ("__class__" : Str) = some ca)
    (hks : S.names.lookup ("super" : Str) = some .globalImplicit) (hkc : S.names.lookup ("__class__" : Str) = some .free) (hka : S.names.lookup ("self" : Str) = some .local) (hkm : S.names.lookup ("message" : Str) = some .local)
    (hv : vs.lookup ("self" : Str) = some (.ref e)) (hvm : vs.lookup ("message" : Str) = some msg) (he : H e = some (.exc C od fl)) (hs : Sat G c H vs s) :
    PySem.wpAt (model G.prog G.w) c.A (.func body c.env) (exec (.Expr (.Call (.Attribute (.Call (.Name ("super" : Str) p0) [] [] p1) ("__init__" : Str) ap) [.Name ("message" : Str) mp] [] cp) pos) c.env) (fun f s' => f = .next ∧ Sat G c H vs s') E' s := by
  obtain ⟨h₀, m, news, S0, V⟩ := id hs
  have X : G.K.In s.heap := (S0.X hG).keeps S0.F.keep
  have T' := S0.T hG
  obtain ⟨oc, odf, fd, osl, ar, hf, hp, har⟩ := hS.fn
  obtain ⟨occ, file, tf, cvs, hcode, hcd, hvs2, hfile⟩ := hS.code
  obtain ⟨oce, hcell, hcelld⟩ := hS.cell
  obtain ⟨cd, hclsC, halong⟩ := hS.along
  obtain ⟨v, hmv, hrv⟩ := V _ _ hv
  cases hrv
  obtain ⟨vm, hmm, hrm⟩ := V _ _ hvm
  obtain ⟨o, ws, hm, x1, x2, x3, x4, x5, x6⟩ := S0.exc he
  obtain ⟨hh, g, d, t, os⟩ := s
  have hCh := X _ _ hK
  have hne : e ≠ C := fun q => by
    rw [q, hCh] at x6; cases x6; cases x3
  refine ks_wpAt_Expr_any ?_ (by unfold interactive; show (S.kind == _ && _) = false; rw [hc.hk]; rfl) rfl
  refine ks_wpAt_MethodCall (pl := pl) ?_ hce
  have hD2 : (excClassObj nm q C N bs bm hdct sn sub ab col dd k0 k1 k2 k3 k5 newId).data = .cls { name := nm, bases := bs, mro := .ref C :: bm, ns := N, qualname := q, hasDict := hdct, slotNames := sn, subclasses := sub, abstract := ab, collection := col, hasDel := false } := rfl
  refine ks_wpAt_super_base (env := c.env) (attr := ("__init__" : Str)) hks hkc (by decide) hfn (X _ _ hf) rfl hp hcc (X _ _ hcode) hcd hvs2 hfile hS.top ?_
  refine ks_loadName_global (env := c.env) hc.hk hks (loadGlobal_builtin (env := c.env) (T'.g.keeps S0.F.keep) (mg_none_of (S0.X hG) T'.g hS.sup) (T'.b.keeps S0.F.keep) ((T'.builtins _ (by decide +kernel)).trans (by first | rfl | kernel_rfl)) ⟨rfl, ?_⟩)
  refine wpAny_loadName_free (env := c.env) hc.hk hkc hcl ⟨oce, X _ _ hcell, hcelld⟩ ?_
  rw [har]
  refine wpAny_loadName_local (env := c.env) hc.hk hka S0.F.ns hmv ?_
  refine ks_wpAny_isType_cls hCh hD2 ⟨rfl, ?_⟩
  refine ks_wpAny_call_super hCh hD2 x6 x1 (fun c' e' => by rw [x3] at e'; cases e') (looks_mroIn X hS.self) (fun h1 hso k1' => ?_)
  have X1 : G.K.In h1 := X.keeps k1'
  have TY1 : Looks (model G.prog G.w) h1 (typeOf (.ref e)) (.ref C) := x1 ▸ (Looks.ld (k1' _ _ x6)).andThen .now
  refine super_method hso (looks_opaque X1 hS.tp) (l₀ := cd.mro) (fun A Q E s k q => wpAny_bind ((looks_clsIn X1 hclsC) A _ E s k (wpAny_pure q))) rfl X1 halong (TY1.andThen (looks_subIn X1 hS.exc)) hne ?_
  generalize hb : ({ cls := .type "method-wrapper", data := .fields #[.builtin "Exception.__init__", .ref e] } : Obj) = mw
  have hmw : (h1.push mw).get? h1.objs.size = some mw := Heap.get?_push_size _ (by rw [← hb]; rfl)
  have k2' : ∀ b o, hh.get? b = some o → (h1.push mw).get? b = some o := fun b o q => Heap.get?_push_of_some _ (k1' b o q)
  have hs2 : Sat G c H vs ⟨h1.push mw, g, d, t + 1, os⟩ := Sat.keep (k := t + 1) hs k2'
  refine callWith_of (P := fun h => h.get? h1.objs.size = some mw) (by rfl) (fun h hp => ⟨.machine, .inr (.inl rfl), ?_⟩) ?_
  · unfold keeperOf
    refine (Looks.ld hp).andThen ?_
    rw [← hb]
    exact .now
  · refine evalArgs_plain (spliced_cons (wpAny_Name (env := c.env) (wpAny_loadName_local (env := c.env) hc.hk hkm ?_ hmm ?_) (by decide)))
    · obtain ⟨oL, es, ep, hL, r⟩ := S0.F.ns
      exact ⟨oL, es, ep, k2' _ _ hL, r⟩
    · refine spliced_nil ⟨hmw, ?_⟩
      subst hb
      refine bound_init hmw (k2' _ _ hCh) (k2' _ _ x6) x1 x3 (by omega) ?_
      obtain ⟨h3, m3, n3, S3, V3⟩ := hs2
      have hm3 := (S3.exc he)
      obtain ⟨o', ws', hm', y1, y2, y3, y4, y5, y6⟩ := hm3
      have eo : o' = o := by
        have := k2' _ _ x6
        rw [this] at y6; exact (Option.some.inj y6).symm
      subst eo
      have S4 := S3.junk (o := { cls := .type "tuple", data := .seq #[vm] }) rfl
      have up : ((h1.push { cls := .type "method-wrapper", data := .fields #[.builtin "Exception.__init__", .ref e] }).push { cls := .type "tuple", data := .seq #[vm] }).get? e = some o' := Heap.get?_push_of_some _ (k2' _ _ x6)
      obtain ⟨n5, S5, _⟩ := S4.poke (k := t + 1) (po' := .exc C od fl) he hm' (Heap.SameBut.update ..) (Heap.get?_update_self (Obj.mapFields (·.setIfInBounds 0 (Value.ref (h1.push { cls := .type "method-wrapper", data := .fields #[.builtin "Exception.__init__", .ref e] }).objs.size))) up (Obj.isFreed_of_fields (Obj.data_mapFields x3 _)))
        ⟨(Obj.cls_mapFields _ _).trans x1, (dict_mapFields _ _).trans x2, _, Obj.data_mapFields x3 _, by simp [x4], fun q => by rw [Array.getElem?_setIfInBounds_ne (by decide)]; exact x5 q⟩
      have hH : H.set e (.exc C od fl) = H := by
        funext b
        unfold PHeap.set
        by_cases hb : b = e
        · simp [hb, he]
        · simp [hb]
      rw [hH] at S5
      exact ⟨rfl, h3, m3, n5, S5, V3⟩
end
end Mine
namespace Mine

/-- the cells that a comprehension or a def closes over -/
def closL (cells : List (Str × Addr)) : List (Str × NameKind) → List (Str × Addr) → Option (List (Str × Addr))
  | [], acc => some acc
  | (n, k) :: r, acc => if (k == NameKind.free) = true then (cells.lookup n).bind fun a => closL cells r ((n, a) :: acc) else closL cells r acc

theorem closureFor_of {scope : Scope} {env : Env} {cl : List (Str × Addr)} (h : closL env.cells scope.names [] = some cl) : closureFor scope env = pure cl := by
  have : ∀ (names : List (Str × NameKind)) (acc : List (Str × Addr)), closL env.cells names acc = some cl → (forIn names acc fun (x : Str × NameKind) (s : List (Str × Addr)) => (if (x.2 == NameKind.free) = true then do let a ← cellOf env x.1; pure (ForInStep.yield ((x.1, a) :: s)) else pure (ForInStep.yield s) : Sem (ForInStep (List (Str × Addr))))) = pure cl := by
    intro names
    induction names with
    | nil => intro acc h; cases h; rfl
    | cons y r ih =>
      intro acc h
      obtain ⟨n, k⟩ := y
      rw [List.forIn_cons]
      unfold closL at h
      dsimp only
      split at h
      · rename_i hk
        rw [if_pos hk]
        obtain ⟨a, ha, h2⟩ := Option.bind_eq_some_iff.mp h
        have hc : cellOf env n = pure a := by unfold cellOf; rw [ha]
        rw [hc]
        simp only [pure_bind]
        exact ih _ h2
      · rename_i hk
        rw [if_neg hk]
        simp only [pure_bind]
        exact ih _ h
  show (forIn scope.names [] _ >>= fun cs => pure cs) = _
  have e := this scope.names [] h
  exact (congrArg (fun t => t >>= fun cs => pure cs) e).trans rfl

section
variable {G : Gl} {S : Scope} {c : Cx S} {H : PHeap} {vs : Vars} {E : PX → PHeap → Vars → Prop} {x : Str} {pos : Pos} {p : PV} {Q : PV → PHeap → Vars → Prop}
theorem t_free (hc : c.Ok) (hx : S.names.lookup x = some .free) {ca : Addr} (hl : c.cl.lookup x = some ca) (hv : H ca = some (.cell (some p))) (h : Q p H vs) (hd : (x == ("__debug__" : Str)) = false := by decide) (hcd : (x == ("__classdict__" : Str)) = false := by decide) :
    T G c PV.R (eval (.Name x pos) c.env) H vs Q E := fun s hs => by
  obtain ⟨h₀, m, news, S0, V⟩ := hs
  obtain ⟨mo, hm, v', hd', hr⟩ := S0.mem hv
  cases v' with
  | none => exact hr.elim
  | some v => exact wpAny_Name (wpAny_loadName_free hc.hk hx hl ⟨mo, S0.N.get hm, hd'⟩ ⟨p, H, vs, hr, ⟨h₀, m, news, S0, V⟩, h⟩ hcd) hd
end
end Mine
namespace Mine

def cellObj : Obj := { cls := .type "cell", data := .cell none }
theorem newFunctionEnv1 {M : Model} {A : Around} {E : Value → Shared → Prop} {s : Shared} {scope : Scope} {globals : Addr} {cl : List (Str × Addr)} {x : Str} {qual : Str} {outer : Env} {builtins : Addr} {Q : Env → Shared → Prop}
    (h1 : ∀ n, cellsFrom n scope.names cl = (x, n) :: cl) (h2 : ∀ h : Heap, pushCells h scope.names = h.push cellObj)
    (hQ : Q (newEnv scope s.heap.objs.size globals ((x, s.heap.objs.size + 1) :: cl) qual none .none (some outer) builtins) { s with heap := (s.heap.push { cls := .type "dict", data := .dict #[] }).push cellObj }) :
    wpAny M A (newFunctionEnv scope globals cl [] qual none .none (some outer) builtins) Q E s := by
  simp only [newFunctionEnv, Option.isSome_some, if_true]
  refine wpAny_bind (wpAny_alloc ?_)
  refine wpAny_bind (wpAny_layCells _ (fun name kind cells => by cases hkc : kind == NameKind.cell <;> simp [hkc]) _ _ _ _ ?_)
  rw [show ({ s with heap := s.heap.push { cls := .type "dict", data := .dict #[] } } : Shared).heap.objs.size = s.heap.objs.size + 1 from Heap.size_push ..]
  rw [h1]
  show wpAny _ _ _ _ _ { s with heap := pushCells (s.heap.push { cls := .type "dict", data := .dict #[] }) scope.names }
  rw [h2]
  refine wpAny_bind (wpAny_pure ?_)
  exact wpAny_pure hQ

section
variable {G : Gl} {S : Scope} {c : Cx S} {H : PHeap} {vs : Vars} {E : PX → PHeap → Vars → Prop} {Q : PV → PHeap → Vars → Prop} {QF : PF → PHeap → Vars → Prop} {QU : Unit → PHeap → Vars → Prop} {QB : Bool → PHeap → Vars → Prop} {s : Shared} {h₀ h' : Heap} {m : Str → Option Value} {news : List (Addr × Obj)} {x : Str} {p : PV} {pos : Pos}

theorem comp_block1 {it : Addr} {o : Obj} {elt target iter : Expr} {ifs : List Expr} {scope : Scope} {cl : List (Str × Addr)} {items : List Itm} {Src : PHeap → Prop} {St : Nat → Obj → Prop} {K : List PV → PHeap → Prop} {use : Option (Value → Sem Unit)} {E' : Value → Shared → Prop} {Q' : Value → Shared → Prop}
    (hc : c.Ok) (hd : c.hd = none) (hcell1 : ∀ n, cellsFrom n scope.names cl = (x, n) :: cl) (hcell2 : ∀ h : Heap, pushCells h scope.names = h.push cellObj) (hkind : scope.kind = .function) (hifs : ifs.length ≤ 1) (hz : items.length ≤ sizeLine) (stp : Stp G it items Src St) (hp : c.P.lookup it = none)
    (h0 : St 0 o) (hs : Sat G (c.wp [(it, o)]) H vs s) (hsrc : ∀ cc, H cc = none → Src (H.set cc (.cell none)))
    (h : ∀ (c1 : Cx (relabel scope c.env)) (cc : Addr), c1.Ok → c1.hd = c.hd → c1.dp = c.dp → c1.un = c.un → c1.cl = (x, cc) :: cl → H cc = none → CompP G c1 Src target ifs elt K items [] (H.set cc (.cell none)) [])
    (hQ : ∀ D C oC acc H1 s', c.P.lookup C = none → H1 D = none → K acc H1 → Sat G (c.wp [(C, oC)]) (H1.set D (.list acc)) vs s' → (∃ mC, s'.heap.Ns C mC) → compPost (model G.prog G.w) c.A E' use Q' (.ref D) C (.ok .next) s') :
    wpAny (model G.prog G.w) c.A (newList []) (fun acc s₃ => wpAny (model G.prog G.w) c.A (newFunctionEnv scope c.env.globals cl [] c.env.qual none .none (some c.env)) (fun cenv s₄ =>
        codeAny (model G.prog G.w) c.A (.compStart (.ListComp elt [⟨target, iter, ifs, 0⟩] scope pos) 0 (.ref it) acc { cenv with scope := relabel scope c.env }) (compPost (model G.prog G.w) c.A E' use Q' acc cenv.locals) s₄) E' s₃) E' s := by
  obtain ⟨h₀, m, news, S0, V⟩ := hs
  refine wpAny_newObj_type ?_ (by show (List.toArray ([] : List Value)).size ≤ sizeLine; simp)
  obtain ⟨S1, hpD⟩ := S0.take (o := listOf #[] 0) rfl
  generalize hDe : s.heap.objs.size = D at S1 hpD
  have hDit : D ≠ it := fun e => by
    rw [e] at hpD
    have : List.lookup it ((it, o) :: c.P) = none := hpD
    simp [List.lookup] at this
  have hpD' : c.P.lookup D = none := by
    have : List.lookup D ((it, o) :: c.P) = none := hpD
    rw [List.lookup_cons, beq_false_of_ne hDit] at this
    exact this
  generalize hs1 : ({ s with heap := s.heap.push (listOf #[] 0) } : Shared) = s1 at S1
  have hgoal : wpAny (model G.prog G.w) c.A (newFunctionEnv scope c.env.globals cl [] c.env.qual none .none (some c.env)) (fun cenv s₄ =>
        codeAny (model G.prog G.w) c.A (.compStart (.ListComp elt [⟨target, iter, ifs, 0⟩] scope pos) 0 (.ref it) (.ref D) { cenv with scope := relabel scope c.env }) (compPost (model G.prog G.w) c.A E' use Q' (.ref D) cenv.locals) s₄) E' s1 := by
    refine newFunctionEnv1 hcell1 hcell2 ?_
    obtain ⟨h1, hh1⟩ : ∃ h1, h1 = (s1.heap.push { cls := .type "dict", data := .dict #[] }).push cellObj := ⟨_, rfl⟩
    rw [← hh1]
    have hns : h1.Ns s1.heap.objs.size (fun _ => none) := by
      rw [hh1]
      exact (Heap.Ns.new s1.heap (.type "dict")).keeps fun b ob e => Heap.get?_push_of_some _ e
    have hk₁ : ∀ b ob, s1.heap.get? b = some ob → h1.get? b = some ob := fun b ob e => by
      rw [hh1]
      exact Heap.get?_push_of_some _ (Heap.get?_push_of_some _ e)
    have hcc : h1.get? (s1.heap.objs.size + 1) = some cellObj := by
      rw [hh1]
      have := Heap.get?_push_size (s1.heap.push { cls := .type "dict", data := .dict #[] }) (o := cellObj) rfl
      rw [Heap.size_push] at this
      exact this
    have hc1 : ((c.wp [(it, o)]).wp [(D, listOf #[] 0)]).Ok := Cx.wp_ok (Cx.wp_ok hc)
    obtain ⟨FG, BG⟩ := ground hc1 S1
    have hlt : ∀ q ∈ ((D, listOf #[] 0) :: news : List (Addr × Obj)), q.1 < s1.heap.objs.size := fun q hq => Heap.lt_size (S1.N q hq).1
    have hcn : s1.heap.objs.size + 1 ∉ ((D, listOf #[] 0) :: news : List (Addr × Obj)).map (·.1) := not_key fun q hq => Nat.lt_succ_of_lt (hlt q hq)
    obtain ⟨hcp, hch⟩ := S1.off hcn
    have FL : Fr (hideAll s1.heap (((D, listOf #[] 0) :: news).map (·.1))) s1.heap.objs.size h1 _ := ⟨hns, fun b o e => hk₁ b o (of_hideAll _ e), Nat.le_of_eq (hideAll_size _ _)⟩
    have NL : News (hideAll s1.heap (((D, listOf #[] 0) :: news).map (·.1))) s1.heap.objs.size h1 ((s1.heap.objs.size + 1, cellObj) :: (D, listOf #[] 0) :: news) := fun p hp => by
      rcases List.mem_cons.mp hp with rfl | hp
      · refine ⟨hcc, Nat.succ_ne_self _, ?_⟩
        cases q : (hideAll s1.heap (((D, listOf #[] 0) :: news).map (·.1))).get? (s1.heap.objs.size + 1) with
        | none => rfl
        | some ob => exact absurd (Heap.lt_size (of_hideAll _ q)) (Nat.not_lt_of_le (Nat.le_succ _))
      · exact ⟨hk₁ _ _ (S1.N p hp).1, Nat.ne_of_lt (hlt p hp), hideAll_none _ (List.mem_map_of_mem hp)⟩
    generalize hCC : s1.heap.objs.size + 1 = cc at *
    have hHR : HR (ext ((c.wp [(it, o)]).wp [(D, listOf #[] 0)]).P (H.set cc (.cell none))) ((cc, cellObj) :: (D, listOf #[] 0) :: news) := by
      rw [ext_set hcp]
      exact S1.hr.cons hcn ⟨none, rfl, trivial⟩
    have hDJ : ∀ b, (((c.wp [(it, o)]).wp [(D, listOf #[] 0)]).P.lookup b).isSome = true → (H.set cc (.cell none)) b = none := fun b hb => by
      rw [PHeap.set_ne]
      · exact S1.dj b hb
      · intro e
        rw [e, hcp] at hb
        cases hb
    have SC : Sat G (((Cx.comp c m (relabel scope c.env) s1.heap.objs.size ((x, cc) :: cl)).wp [(it, o)]).wp [(D, listOf #[] 0)]) (H.set cc (.cell none)) [] { s1 with heap := h1 } :=
      ⟨_, _, _, ⟨FL, NL, BG, back_sub (c := (c.wp [(it, o)]).wp [(D, listOf #[] 0)]) hc1 S1 FG rfl rfl (Heap.lt_size S1.F.ns.choose_spec.choose_spec.choose_spec.1), hHR, hDJ, S1.g, S1.d, S1.o⟩, fun y p e => by cases e⟩
    have SC' := Sat.swap (c := Cx.comp c m (relabel scope c.env) s1.heap.objs.size ((x, cc) :: cl)) (a := (it, o)) (b := (D, listOf #[] 0)) SC (Ne.symm hDit)
    have loop : codeAny (model G.prog G.w) c.A (.compLoop (.ListComp elt [⟨target, iter, ifs, 0⟩] scope pos) 0 (.ref it) (.ref D) (Cx.comp c m (relabel scope c.env) s1.heap.objs.size ((x, cc) :: cl)).env) (compPost (model G.prog G.w) c.A E' use Q' (.ref D) s1.heap.objs.size) { s1 with heap := h1 } := by
      refine comp_loop (c := Cx.comp c m (relabel scope c.env) s1.heap.objs.size ((x, cc) :: cl)) hd hifs hz stp hp hpD' hDit h0 SC' (hsrc cc hch) (h (Cx.comp c m (relabel scope c.env) s1.heap.objs.size ((x, cc) :: cl)) cc (Cx.comp_ok hkind) rfl rfl rfl rfl hch) fun us n acc H1 vs1 s' hacc hs' hK => ?_
      obtain ⟨oC, hns', hpC, hsx⟩ := comp_exit (c := c) S0.B.stack S0.bk.lt S0.bk.fr S0.bk.base V hs'
      have hCD : s1.heap.objs.size ≠ D := fun e => by
        have hpC' : List.lookup s1.heap.objs.size ((D, listOf (List.toArray us) n) :: c.P) = none := hpC
        rw [e] at hpC'
        simp [List.lookup] at hpC'
      have hpC' : c.P.lookup s1.heap.objs.size = none := by
        have : List.lookup s1.heap.objs.size ((D, listOf (List.toArray us) n) :: c.P) = none := hpC
        rw [List.lookup_cons, beq_false_of_ne hCD] at this
        exact this
      have hsy := Sat.swap (a := (D, listOf (List.toArray us) n)) (b := (s1.heap.objs.size, oC)) hsx (Ne.symm hCD)
      obtain ⟨h₃, m3, news3, S3, V3⟩ := hsy
      have hpD3 : (c.wp [(s1.heap.objs.size, oC)]).P.lookup D = none := by
        show List.lookup D ((s1.heap.objs.size, oC) :: c.P) = none
        rw [List.lookup_cons, beq_false_of_ne (Ne.symm hCD)]
        exact hpD'
      obtain ⟨S4, hDn⟩ := S3.release hacc hpD3
      exact hQ D s1.heap.objs.size oC acc H1 s' hpC' hDn hK ⟨h₃, m3, news3, S4, V3⟩ hns'
    refine codeAny_compStart_list loop ?_
    exact stp.again ((Cx.comp c m (relabel scope c.env) s1.heap.objs.size ((x, cc) :: cl)).wp [(D, listOf #[] 0)]) (H.set cc (.cell none)) [] _ 0 o _ _ h0 SC' loop
  exact hgoal

/-- a comprehension whose target a comprehension inside closes over -/
theorem t_listcomp1 (hc : c.Ok) (hd : c.hd = none) {elt target iter : Expr} {ifs : List Expr} {scope : Scope} {cl : List (Str × Addr)} (hclos : closureFor scope c.env = pure cl) (hcell1 : ∀ n, cellsFrom n scope.names cl = (x, n) :: cl) (hcell2 : ∀ h : Heap, pushCells h scope.names = h.push cellObj) (hkind : scope.kind = .function)
    (hnames : ∀ y ∈ scope.names, y.2 = .local → scope.names.lookup y.1 = some .local) (hifs : ifs.length ≤ 1) (hf : ∀ x, foldedSetIterable iter c.env x = pure x)
    (h : T G c PV.R (eval iter c.env) H vs (fun p H1 vs1 => IterP G c p H1 vs1 (fun Src items => items.length ≤ sizeLine ∧ (∀ cc, H1 cc = none → Src (H1.set cc (.cell none))) ∧ ∀ (c1 : Cx (relabel scope c.env)) (cc : Addr), c1.Ok → c1.hd = c.hd → c1.dp = c.dp → c1.un = c.un → c1.cl = (x, cc) :: cl → H1 cc = none →
      CompP G c1 Src target ifs elt (fun acc H2 => ∀ d, H2 d = none → Q (.ref d) (H2.set d (.list acc)) vs1) items [] (H1.set cc (.cell none)) [])) E) :
    T G c PV.R (eval (.ListComp elt [⟨target, iter, ifs, 0⟩] scope pos) c.env) H vs Q E := fun s hs => by
  rw [eval_ListComp]
  refine wpAny_comprehension_free (use := none) rfl hf hclos hkind hnames (wpAny_mono (h s hs) (fun v s1 ⟨p, H1, vs1, hp, hs1, h1⟩ => ?_) fun _ _ x => x)
  refine wpAny_mono (h1 v hp s1 hs1) (fun itv s2 h2 => ?_) fun _ _ x => x.elim
  obtain ⟨it, o, items, Src, St, rfl, stp, h0, hpl, hs2, hz, hsrc, hcp⟩ := h2
  refine comp_block1 hc hd hcell1 hcell2 hkind hifs hz stp hpl h0 hs2 hsrc hcp fun D C oC acc H2 s' hpC hD hK hsC hns => ?_
  obtain ⟨mC, hmC⟩ := hns
  refine ⟨mC, hmC, fun h' hsb => ?_⟩
  obtain ⟨h₃, m3, news3, S3, V3⟩ := hsC
  obtain ⟨news4, S4⟩ := S3.gone (k := s'.toks) (fun b ob hb e => (hsb.2 b hb).trans e) hpC
  exact ⟨.ref D, _, vs1, rfl, ⟨h₃, m3, news4, S4, V3⟩, hK D hD⟩
theorem a_cell (hc : c.Ok) {px : Pos} {v : Value} {ca : Addr} {w : Option PV} (hx : S.names.lookup x = some .cell) (hl : c.cl.lookup x = some ca) (hv : H ca = some (.cell w)) (hr : PV.R p v) (h : QU () (H.set ca (.cell (some p))) vs) : T G c UR (assign (.Name x px) c.env v) H vs QU E := fun s hs =>
  wpAny_assign_Name (t_storec hc hx hl hv hr h s hs)
end
end Mine
namespace Mine

/-! tokens only grow -/
theorem runs_toks {M : Model} {Γ : PySem.Ctx} {p : Pos} {t : Sem Fin} {fs : List Frame} {s : Shared} {e : End} {s' : Shared} (h : Runs M Γ p t fs s e s') : s.toks ≤ s'.toks := by
  induction h with
  | done => exact Nat.le_refl _
  | raise => exact Nat.le_refl _
  | «yield» => exact Nat.le_refl _
  | fresh _ ih => exact Nat.le_trans (Nat.le_succ _) ih
  | call _ _ ih1 ih2 => exact Nat.le_trans ih1 ih2
  | resumeFresh _ _ _ _ ih1 ih2 => exact Nat.le_trans ih1 ih2
  | resumeSuspended _ _ _ _ ih1 ih2 => exact Nat.le_trans ih1 ih2
  | segRet _ _ ih1 ih2 => exact Nat.le_trans ih1 ih2
  | segGen _ _ ih1 ih2 => exact Nat.le_trans ih1 ih2
  | segSuspGen _ _ _ _ ih1 ih2 => exact Nat.le_trans ih1 ih2
  | _ => assumption

theorem wp_toks {α : Type} {M : Model} {Γ : PySem.Ctx} (t : Sem α) : ∀ {Q : α → Pos → Shared → Prop} {E : Value → Pos → Shared → Prop} {p : Pos} {s : Shared} {n : Nat}, n ≤ s.toks → Sem.wp M Γ t Q E p s → Sem.wp M Γ t (fun a p s' => Q a p s' ∧ n ≤ s'.toks) E p s := by
  induction t with
  | pure a => intro Q E p s n hn h; rw [Sem.wp] at h ⊢; exact ⟨h, hn⟩
  | raise e => intro Q E p s n hn h; rw [Sem.wp] at h ⊢; exact h
  | unsupported w => intro Q E p s n hn h; rw [Sem.wp] at h; exact h.elim
  | finish w => intro Q E p s n hn h; rw [Sem.wp] at h; exact h.elim
  | rule t k ih => intro Q E p s n hn h; rw [Sem.wp] at h ⊢; exact ih _ hn h
  | «at» t k ih => intro Q E p s n hn h; rw [Sem.wp] at h ⊢; exact ih _ hn h
  | load a part k ih => intro Q E p s n hn h; rw [Sem.wp] at h ⊢; obtain ⟨o, h1, h2⟩ := h; exact ⟨o, h1, ih _ hn h2⟩
  | update a part f k ih => intro Q E p s n hn h; rw [Sem.wp] at h ⊢; exact ⟨h.1, ih _ hn h.2⟩
  | alloc o k ih => intro Q E p s n hn h; rw [Sem.wp] at h ⊢; exact ih _ hn h
  | loadIfAlive a k ih => intro Q E p s n hn h; rw [Sem.wp] at h ⊢; exact ih _ hn h
  | point l k ih => intro Q E p s n hn h; rw [Sem.wp] at h ⊢; exact ih _ hn h
  | register a k ih => intro Q E p s n hn h; rw [Sem.wp] at h; exact h.elim
  | fresh k ih => intro Q E p s n hn h; rw [Sem.wp] at h ⊢; exact ih _ (Nat.le_trans hn (Nat.le_succ _)) h
  | ask k ih => intro Q E p s n hn h; rw [Sem.wp] at h ⊢; exact ih _ hn h
  | choose src m k ih => intro Q E p s n hn h; rw [Sem.wp] at h ⊢; exact ⟨h.1, ih _ hn h.2⟩
  | os q l k ih => intro Q E p s n hn h; rw [Sem.wp] at h ⊢; exact ih _ hn h
  | call c hh g l k ih =>
    intro Q E p s n hn h
    rw [Sem.wp] at h ⊢
    obtain ⟨r, s', h1, h2⟩ := h
    exact ⟨r, s', h1, ih _ (Nat.le_trans hn (runs_toks h1)) h2⟩
  | handled o k ih => intro Q E p s n hn h; rw [Sem.wp] at h ⊢; exact ih _ hn h
  | newGen c k ih => intro Q E p s n hn h; rw [Sem.wp] at h ⊢; exact ih _ hn h
  | genState g k ih => intro Q E p s n hn h; rw [Sem.wp] at h ⊢; obtain ⟨o, h1, h2⟩ := h; exact ⟨o, h1, ih _ hn h2⟩
  | resume g r l k ih =>
    intro Q E p s n hn h
    rw [Sem.wp] at h ⊢
    obtain ⟨res, s', h1, h2⟩ := h
    refine ⟨res, s', h1, ih _ (Nat.le_trans hn ?_) h2⟩
    unfold Wakes at h1
    split at h1
    · exact h1.elim
    · split at h1
      · obtain ⟨e1, s1, q1, _, _, rfl⟩ := h1; exact runs_toks (s := s.setGen g .running) (s' := s1) q1
      · rw [h1.2]; exact Nat.le_refl _
      · rw [h1.2]; exact Nat.le_refl _
    · obtain ⟨e1, s1, q1, _, _, rfl⟩ := h1; exact runs_toks (s := s.setGen g .running) (s' := s1) q1
    · rw [h1.2]; exact Nat.le_refl _
    · rw [h1.2]; exact Nat.le_refl _
  | «yield» v g l k ih => intro Q E p s n hn h; rw [Sem.wp] at h; exact h.elim
  | stack k ih => intro Q E p s n hn h; rw [Sem.wp] at h ⊢; exact ih _ hn h
  | fork c k ih => intro Q E p s n hn h; rw [Sem.wp] at h; exact h.elim
  | thread k ih => intro Q E p s n hn h; rw [Sem.wp] at h ⊢; exact ih _ hn h
  | await a t d l k ih => intro Q E p s n hn h; rw [Sem.wp] at h; exact h.elim
theorem wpAny_toks {α : Type} {M : Model} {A : Around} {t : Sem α} {Q : α → Shared → Prop} {E : Value → Shared → Prop} {s : Shared} {n : Nat} (hn : n ≤ s.toks) (h : wpAny M A t Q E s) : wpAny M A t (fun a s' => Q a s' ∧ n ≤ s'.toks) E s := fun Γ p hΓ => wp_toks t hn (h Γ p hΓ)

section
variable {G : Gl} {S : Scope} {c : Cx S} {H : PHeap} {vs : Vars} {E : PX → PHeap → Vars → Prop} {Q : PV → PHeap → Vars → Prop} {QF : PF → PHeap → Vars → Prop} {QU : Unit → PHeap → Vars → Prop} {s : Shared} {h₀ h' : Heap} {m : Str → Option Value} {news : List (Addr × Obj)} {pos : Pos} {p : PV}

/-- evaluated, and a token is out -/
def TP (G : Gl) {S : Scope} (c : Cx S) (e : Expr) (H : PHeap) (vs : Vars) (Q : PV → PHeap → Vars → Prop) (E : PX → PHeap → Vars → Prop) : Prop :=
  ∀ s, Sat G c H vs s → wpAny (model G.prog G.w) c.A (eval e c.env) (fun v s' => (∃ r H' vs', PV.R r v ∧ Sat G c H' vs' s' ∧ Q r H' vs') ∧ 1 ≤ s'.toks) (fun e s' => ∃ x H' vs', ExSat G c H' vs' x e s' ∧ E x H' vs') s

theorem tp_int {i : Int} {k : Nat} (h : Q (.int i) H vs) : TP G c (.Constant (.int i) k pos) H vs Q E := fun s hs =>
  wpAny_Constant_int ⟨⟨.int i, H, vs, ⟨_, rfl⟩, hs.tok, h⟩, Nat.le_add_left _ _⟩
theorem tp_neg {i : Int} {k : Nat} {p' : Pos} (h : Q (.int (-i)) H vs) : TP G c (.UnaryOp .USub (.Constant (.int i) k p') pos) H vs Q E := fun s hs => by
  refine wpAny_UnaryOp (wpAny_Constant_int ?_)
  refine wpAny_toks (Nat.le_add_left _ _) ?_
  exact PySem.P.neg_int ⟨.int (-i), H, vs, ⟨_, rfl⟩, (hs.tok (k := s.toks + 1)).tok, h⟩
theorem tp_sub {v i : Expr} (h : T G c PV.R (eval v c.env) H vs (fun a H1 vs1 => TP G c i H1 vs1 (fun b H2 vs2 => SubP G c v i a b H2 vs2 Q E) E) E) : TP G c (.Subscript v i pos) H vs Q E := fun s hs => by
  refine Subscript_ (wpAny_mono (h s hs) (fun va s1 ⟨a, H1, vs1, ha, hs1, h1⟩ => ?_) fun _ _ x => x)
  refine wpAny_mono (h1 s1 hs1) (fun vb s2 ⟨⟨b, H2, vs2, hb, hs2, h2⟩, h3⟩ => ?_) fun _ _ x => x
  exact wpAny_toks h3 (h2 va vb ha hb s2 hs2)

/-- a text, one written text for another -/
theorem t_replace (hG : G.Ok) {o : Expr} {apos pa pb : Pos} {a b : Str} {ka kb : Nat} {pl : Sem Bool}
    (he : eval (.Call (.Attribute o "replace" apos) [.Constant (.str a) ka pa, .Constant (.str b) kb pb] [] pos) c.env = (do
      let ov ← eval o c.env
      standAt apos.atName
      let (f, first) ← holding [ov] (getMethod ov "replace" pl)
      callWith pos f first (backTo pos (starEach [.Constant (.str a) ka pa, .Constant (.str b) kb pb] c.env)) (backToKw pos (keywordEach [] c.env))))
    (hp : (backTo pos (starEach [.Constant (.str a) ka pa, .Constant (.str b) kb pb] c.env)).any (·.1) = false)
    (h1 : starEach [.Constant (.str a) ka pa, .Constant (.str b) kb pb] c.env = (false, eval (.Constant (.str a) ka pa) c.env) :: starEach [.Constant (.str b) kb pb] c.env)
    (h2 : starEach [.Constant (.str b) kb pb] c.env = (false, eval (.Constant (.str b) kb pb) c.env) :: starEach [] c.env)
    (hab : (a == b) = false) (hb : b.length ≤ 14)
    (h : TP G c o H vs (fun p H1 vs1 => ∃ l, p = .str l ∧ l.length ≤ 100000 ∧ Q (.str (Txt.replace l a b)) H1 vs1) E) :
    T G c PV.R (eval (.Call (.Attribute o "replace" apos) [.Constant (.str a) ka pa, .Constant (.str b) kb pb] [] pos) c.env) H vs Q E := fun s hs => by
  refine methodCall_KW (pl := pl) (wpAny_mono (h s hs) (fun ov s1 ⟨⟨p, H1, vs1, hp, hs1, l, hl, hz, hq⟩, ht⟩ => ?_) fun _ _ x => x) he
  subst hl
  obtain ⟨t, rfl⟩ := hp
  refine getMethod_builtin (typeIs_str s1 l t) PySem.F.plainAttrs_str PySem.F.slot_str_replace rfl (fun a q => by cases q) ?_
  have hk : Kp G (.bi "str.replace") := trivial
  refine callWith_of (P := fun h => G.K.In h) (by rw [hp]; rfl) (fun h X => hk.looks rfl h X) (evalArgs_pos hp rfl ?_)
  rw [h1]
  refine spliced_cons (wpAny_Constant_str (k := ka) (pos := pa) ?_)
  rw [h2]
  refine spliced_cons (wpAny_Constant_str (k := kb) (pos := pb) ?_)
  refine spliced_nil ?_
  refine wpAny_evalAll_nil ?_
  have hX1 : G.K.In s1.heap := hs1.X hG
  refine ⟨hX1, ?_⟩
  have hz' : l.length ≤ 1048576 := Nat.le_trans hz (by decide)
  refine SC.replaceW (x := l) (y := a) (z := b) (t := t) (u := s1.toks) (v := s1.toks + 1) (Nat.ne_of_gt ht) (Nat.succ_ne_zero _) (Nat.ne_of_lt (Nat.lt_succ_self _)) hab hz' hb fun t' k => ?_
  exact ⟨.str _, H1, vs1, ⟨_, rfl⟩, Sat.tok (s := s1) hs1, hq⟩

theorem k_new0 (hG : G.Ok) {C : Addr} (hm : makesIn G.K C = true) (hi : findIn G.K (.ref C) "__init__" = some (some (.builtin "object.__init__")))
    (h : ∀ x dx, H x = none → H dx = none → x ≠ dx → Q (.ref x) ((H.set dx (.dict [])).set x (.inst C dx)) vs) : CallP G c (.ref C) [] [] [] H vs Q E := by
  rintro _ _ _ rfl (_ | _) (_ | _) s ⟨h₀, m, news, S0, V⟩
  refine call_cls0 S0.F (S0.X hG) S0.N hm hi fun x dx h' F' N' hl hlt => ?_
  have N1 : News h₀ c.L h' ((dx, dictOf [] 0) :: news) := fun q hq => N' q (.tail _ hq)
  obtain ⟨S1, e1⟩ := S0.alloc (a := dx) (po := .dict []) (mo := dictOf [] 0) (k := s.toks) F' N1 hl ⟨[], 0, rfl, .nil⟩
  obtain ⟨S2, e2⟩ := S1.alloc (a := x) (po := .inst C dx) (mo := instObj C dx) (k := s.toks) F' N' (fun q hq => by
    rcases List.mem_cons.mp hq with rfl | hq
    · exact hlt
    · exact Nat.lt_trans (hl q hq) hlt) rfl
  have hxd : x ≠ dx := Nat.ne_of_gt hlt
  rw [PHeap.set_ne hxd] at e2
  exact ⟨.ref x, _, vs, rfl, ⟨h₀, m, _, S2, V⟩, h x dx e2 e1 hxd⟩

/-- a dict with one int key; it is not looked at again -/
theorem t_dict1 {i : Int} {k : Nat} {pk : Pos} {v : Expr} (h : ∀ P, T G (c.wp P) PV.R (eval v (c.wp P).env) H vs (fun _ H1 vs1 => ∀ d, Q (.ref d) H1 vs1) noX) : T G c PV.R (eval (.Dict [some (.Constant (.int i) k pk)] [v] pos) c.env) H vs Q E := fun s ⟨h₀, m, news, S0, V⟩ => by
  refine wpAny_Dict_walk (knd := intKind G.prog G.w) rfl rfl (by intro q; cases q) (by show 1 ≤ 15; omega) ?_
  obtain ⟨S1, hp⟩ := S0.take (o := { cls := .type "dict", data := .dict #[] }) rfl
  have hnew := Heap.DictOf.new (knd := intKind G.prog G.w) s.heap
  have hs1 : Sat G (c.wp [(s.heap.objs.size, { cls := .type "dict", data := .dict #[] })]) H vs { s with heap := s.heap.push { cls := .type "dict", data := .dict #[] }, toks := s.toks + 1 } := Sat.tok (s := { s with heap := s.heap.push { cls := .type "dict", data := .dict #[] } }) ⟨h₀, m, _, S1, V⟩
  refine pairTrees_cons_walk (wpAny_Constant_int ?_)
  refine wpAny_mono (h _ _ hs1) (fun vv s2 ⟨r, H2, vs2, _, hs2, hq⟩ => ?_) fun e s' ⟨_, _, _, _, hf⟩ => hf.elim
  refine pairTrees_nil_walk ?_
  obtain ⟨h₂, m2, news2, S2, V2⟩ := hs2
  obtain ⟨hm2, _⟩ := S2.priv
  refine ⟨[(i, vv)], ⟨by simp [intKind, Value.isInt], rfl, trivial⟩, ?_, fun h' hd hsb => ?_⟩
  · obtain ⟨o, es, ep, q1, q2⟩ := hnew
    have e1 := Heap.get?_push_size s.heap (o := { cls := .type "dict", data := .dict #[] }) rfl
    rw [e1] at q1
    cases q1
    exact ⟨_, es, ep, (S2.N _ hm2).1, q2⟩
  · obtain ⟨news3, S3⟩ := S2.gone (k := s2.toks + 1) (fun b ob hb e => (hsb.2 b hb).trans e) hp
    exact ⟨.ref _, H2, vs2, rfl, ⟨h₂, m2, news3, S3, V2⟩, hq _⟩
end
end Mine
set_option maxHeartbeats 4000000
namespace Mine
def tops : List Stmt := PySem.Challenge.pw_gr5006_01.main.body
def noStmt : Stmt := .Pass ⟨0, 0, 0, 0⟩
def topAt (i : Nat) : Stmt := tops.getD i noStmt
def dBody : Stmt → List Stmt
  | .FunctionDef _ _ b _ _ _ _ _ _ _ => b
  | .ClassDef (body := b) .. => b
  | _ => []
def dArgs : Stmt → Arguments
  | .FunctionDef _ a _ _ _ _ _ _ _ _ => a
  | _ => ⟨[], [], none, [], [], none, []⟩
def dScope : Stmt → Scope
  | .FunctionDef _ _ _ _ _ _ s _ _ _ => s
  | _ => { kind := .module, names := [], isGenerator := false, isCoroutine := false, more := [] }
def methAt (i j : Nat) : Stmt := (dBody (topAt i)).getD j noStmt

/-- a def of the text stands at f -/
structure DefAt (G : Gl) (f cd : Addr) (name qual : Str) (d : Stmt) (cl : List (Str × Addr)) (dV ct : Value) (mod : Str) : Prop where
  at_ : ∃ t, G.K.lookup f = some ⟨.type "function", none, .func (fnX name qual (dArgs d) (dBody d) (dScope d) cl dV .none .none (.str mod t) none (.ref cd) ct), #[]⟩
  code : codeIn G.K (.ref cd) qual = true

def gTable : List (Str × PV) := [("_law_next", .ref 551), ("_law_line", .ref 558), ("_law_runs", .ref 565), ("_law_span", .ref 572), ("_law_text", .ref 579), ("_law_lines_cut", .ref 584), ("_law_record", .ref 589), ("_law_told", .ref 596), ("_law_seen", .ref 601),
  ("SimpleTableParser", .ref 237), ("StringList", .ref 542), ("ViewList", .ref 484), ("TableMarkupError", .ref 149), ("len", .bi "len"), ("range", .typ "range"), ("list", .typ "list"), ("str", .typ "str"), ("min", .bi "min"), ("max", .bi "max"), ("enumerate", .typ "enumerate"), ("isinstance", .bi "isinstance"), ("AssertionError", .typ "AssertionError"), ("IndexError", .typ "IndexError")]

def GlobOk (G : Gl) (x : Str) (p : PV) : Prop :=
  (∃ v, nsIn G.K mainGlobals x = some (some v) ∧ PV.R p v) ∨ (nsIn G.K mainGlobals x = some none ∧ ∃ v, bootBuiltins x = some v ∧ x ≠ ("__name__" : Str) ∧ PV.R p v)

/-- what is known of the written part -/
def at237 : List Str := ["block", "columns", "border_end", "table", "done", "rowseps", "colseps", "head_body_sep"]
def at542 : List Str := ["data", "items", "parent", "parent_offset"]
def me237 : List (Str × Addr) := [("setup", 193), ("parse_columns", 207), ("init_row", 214), ("parse_row", 222), ("check_columns", 229), ("structure_from_cells", 234)]
def me542 : List (Str × Addr) := [("part", 502), ("disconnect", 474), ("get_2D_block", 539)]
def tupObj (vs : List Value) (n : Nat) : Obj := { cls := .type "tuple", data := .seq vs.toArray n }
structure GF (G : Gl) : Prop where
  g : ∀ x p, gTable.lookup x = some p → GlobOk G x p ∧ Kp G p
  d_next : DefAt G 551 550 "_law_next" "_law_next" (topAt 18) [] .none .none "law_gr5006_01"
  d_line : DefAt G 558 557 "_law_line" "_law_line" (topAt 19) [] .none .none "law_gr5006_01"
  d_runs : DefAt G 565 564 "_law_runs" "_law_runs" (topAt 20) [] .none .none "law_gr5006_01"
  d_span : DefAt G 572 571 "_law_span" "_law_span" (topAt 21) [] .none .none "law_gr5006_01"
  d_text : DefAt G 579 578 "_law_text" "_law_text" (topAt 22) [] .none .none "law_gr5006_01"
  d_lines_cut : DefAt G 584 583 "_law_lines_cut" "_law_lines_cut" (topAt 23) [] .none .none "law_gr5006_01"
  d_record : DefAt G 589 588 "_law_record" "_law_record" (topAt 24) [] .none .none "law_gr5006_01"
  d_told : DefAt G 596 595 "_law_told" "_law_told" (topAt 25) [] .none .none "law_gr5006_01"
  d_seen : DefAt G 601 600 "_law_seen" "_law_seen" (topAt 26) [] .none .none "law_gr5006_01"
  d193 : DefAt G 193 192 "setup" "SimpleTableParser.setup" (methAt 13 2) [] .none .none "docutils.parsers.rst.tableparser"
  d207 : DefAt G 207 206 "parse_columns" "SimpleTableParser.parse_columns" (methAt 13 4) [] .none .none "docutils.parsers.rst.tableparser"
  d214 : DefAt G 214 213 "init_row" "SimpleTableParser.init_row" (methAt 13 5) [] .none .none "docutils.parsers.rst.tableparser"
  d222 : DefAt G 222 221 "parse_row" "SimpleTableParser.parse_row" (methAt 13 6) [] (.ref 215) .none "docutils.parsers.rst.tableparser"
  d229 : DefAt G 229 228 "check_columns" "SimpleTableParser.check_columns" (methAt 13 7) [] .none .none "docutils.parsers.rst.tableparser"
  d234 : DefAt G 234 233 "structure_from_cells" "SimpleTableParser.structure_from_cells" (methAt 13 8) [] .none .none "docutils.parsers.rst.tableparser"
  d252 : DefAt G 252 251 "__init__" "ViewList.__init__" (methAt 15 0) [] (.ref 247) .none "docutils.statemachine"
  d329 : DefAt G 329 328 "__len__" "ViewList.__len__" (methAt 15 11) [] .none .none "docutils.statemachine"
  d336 : DefAt G 336 335 "__bool__" "ViewList.__bool__" (methAt 15 12) [] .none .none "docutils.statemachine"
  d350 : DefAt G 350 349 "__getitem__" "ViewList.__getitem__" (methAt 15 14) [] .none .none "docutils.statemachine"
  d357 : DefAt G 357 356 "__setitem__" "ViewList.__setitem__" (methAt 15 15) [] .none .none "docutils.statemachine"
  d474 : DefAt G 474 473 "disconnect" "ViewList.disconnect" (methAt 15 31) [] .none .none "docutils.statemachine"
  d502 : DefAt G 502 501 "part" "StringList.part" (methAt 16 0) [] .none .none "docutils.statemachine"
  d539 : DefAt G 539 538 "get_2D_block" "StringList.get_2D_block" (methAt 16 5) [] (.ref 534) .none "docutils.statemachine"
  d146 : DefAt G 146 145 "__init__" "TableMarkupError.__init__" (methAt 11 0) [("__class__", 133)] (.ref 138) (.ref 139) "docutils.parsers.rst.tableparser"
  a237 : ∀ n ∈ at237, AttrOk G 237 n ∧ SetOk G 237 n
  a542 : ∀ n ∈ at542, AttrOk G 542 n ∧ SetOk G 542 n
  m237 : ∀ q ∈ me237, MethOk G 237 q.1 q.2 ∧ Kp G (.ref q.2)
  m542 : ∀ q ∈ me542, MethOk G 542 q.1 q.2 ∧ Kp G (.ref q.2)
  o_len : OwnOk G 542 "__len__" 329
  o_bool : OwnOk G 542 "__bool__" 336
  o_get : OwnOk G 542 "__getitem__" 350
  o_set : OwnOk G 542 "__setitem__" 357
  noSeq542 : noSeq G.K 542 = true
  fn350 : fnIn G.K 350 = true
  n542 : NewOk G 542 252
  new237 : makesIn G.K 237 = true ∧ findIn G.K (.ref 237) "__init__" = some (some (.builtin "object.__init__"))
  isn484 : isNotIn G.K "list" 484 = true
  e149 : ExcOk G 149
  s149 : SuperOk G 149 146 145 133
  f149 : findIn G.K (.ref 149) "message" = some none ∧ findIn G.K (.ref 149) "offset" = some none
  x149 : ∃ (nm q : Str) (N : Addr) (bs bm : List Value) (hdct : Bool) (sn : List Str) (sub : List Value) (ab : Bool) (col : Option Bool) (dd : Option Addr) (k0 k1 k2 k3 k5 : Option Value), G.K.lookup 149 = some (excClassObj nm q 149 N bs bm hdct sn sub ab col dd k0 k1 k2 k3 k5 "Exception.__new__") ∧
    bm.contains (.type "Exception") = true ∧ bm.contains (.type "AttributeError") = false ∧ bm.contains (.type "NameError") = false ∧ bm.contains (.type "BaseException") = true
  c149 : specialIn G.K (.ref 149) "__call__" = some (some (.builtin "type.__call__")) ∧ instIn G.K (.ref 149) (.type "type") = some true ∧ findIn G.K (.ref 149) "__init__" = some (some (.ref 146)) ∧ typeIn G.K (.ref 146) = some (.type "function")
  t138 : ∃ n tk, G.K.lookup 138 = some (tupObj [.int 0 tk] n)
  t215 : ∃ n, G.K.lookup 215 = some (tupObj [.none] n)
  t247 : ∃ n, G.K.lookup 247 = some (tupObj [.none, .none, .none, .none, .none] n)
  t534 : ∃ n, G.K.lookup 534 = some (tupObj [.bool true] n)

section
variable {G : Gl} {S : Scope} {c : Cx S} {H : PHeap} {vs : Vars} {E : PX → PHeap → Vars → Prop} {Q : PV → PHeap → Vars → Prop} {QF : PF → PHeap → Vars → Prop} {QU : Unit → PHeap → Vars → Prop} {pos : Pos} {p : PV}
theorem t_g (hG : G.Ok) (hF : GF G) (hc : c.Ok) {x : Str} (hx : S.names.lookup x = some .globalImplicit) (e : gTable.lookup x = some p) (h : Kp G p → Q p H vs) (hd : (x == ("__debug__" : Str)) = false := by decide) : T G c PV.R (eval (.Name x pos) c.env) H vs Q E := by
  obtain ⟨hg, hk⟩ := hF.g x p e
  rcases hg with ⟨v, e1, hr⟩ | ⟨e1, v, e2, hn, hr⟩
  · exact t_glob hG hc hx e1 hr (h hk) hd
  · exact t_bi hG hc hx e1 e2 hn hr (h hk) hd
end

end Mine
namespace Mine
local macro_rules | `(tactic| walk_at "ok") => `(tactic| first | assumption | exact Cx.wp_ok (by assumption) | exact Cx.wp_ok (Cx.wp_ok (by assumption)) | exact Cx.up_ok (by assumption) | exact Cx.hand_ok (by assumption) | exact Cx.hand_ok (Cx.wp_ok (by assumption)) | exact Cx.hand_ok (Cx.wp_ok (Cx.wp_ok (by assumption))))
local macro_rules | `(tactic| walk_at "wS") => `(tactic| with_reducible first
  | refine t_cons ?_
  | refine t_nil ?_
  | refine t_ret ?_
  | (refine' t_assign ?a ?b ?v ?_; (case a => walk_at "ok"); (case b => k_dflt (exact rfl)); (case v => k_dflt (exact rfl)))
  | refine t_if_ ?_
  | (refine' t_expr ?a ?b ?_; (case a => k_dflt (exact rfl)); (case b => k_dflt (exact rfl)))
  | (refine' t_setattr ?a ?_; (case a => k_dflt (exact rfl)))
  | (refine' t_setsub ?a ?_; (case a => k_dflt (exact rfl)))
  | (refine' t_aug ?a ?b ?v ?_; (case a => walk_at "ok"); (case b => k_dflt (exact rfl)); (case v => k_dflt (exact rfl)))
  | (refine' t_augsub ?a ?_; (case a => k_dflt (exact fun _ _ _ => rfl)))
  | refine t_ret0 ?_
  | refine t_brk ?_)
local macro_rules | `(tactic| walk_at "wV") => `(tactic| with_reducible first
  | (refine' t_local ?a ?b ?v ?_; (case a => walk_at "ok"); (case b => k_dflt (exact rfl)); (case v => k_dflt (exact rfl)))
  | refine t_int ?_
  | (refine' t_g ?a ?b ?d ?e ?v ?_; (case a => assumption); (case b => assumption); (case d => walk_at "ok"); (case e => k_dflt (exact rfl)); (case v => k_dflt (exact rfl)); intro _)
  | refine t_str ?_
  | refine t_slc ?_
  | refine t_sub ?_
  | refine t_part0 ?_
  | (refine' t_mcall ?a ?b ?d ?e ?v ?_; (case a => assumption); (case b => k_dflt (exact rfl)); (case d => k_dflt (exact rfl)); (case e => k_dflt (exact rfl)); (case v => k_dflt (exact rfl)))
  | (refine' t_call ?a ?b ?d ?e ?v ?_; (case a => assumption); (case b => k_dflt (exact rfl)); (case d => k_dflt (exact rfl)); (case e => k_dflt (exact rfl)); (case v => k_dflt (exact rfl)))
  | (refine' t_attr ?a ?_; (case a => k_dflt (exact rfl)))
  | refine t_none ?_
  | refine t_boolc ?_
  | refine t_binop ?_
  | refine t_ifexp ?_
  | refine t_usub ?_
  | (refine' t_cmp ?a ?_; (case a => k_dflt (exact rfl)))
  | refine t_list ?_
  | refine t_tuple ?_
  | refine t_part ?_)
local macro_rules | `(tactic| walk_at "wA") => `(tactic| with_reducible first
  | (refine' t_args1 ?a ?_; (case a => k_dflt (exact rfl)))
  | refine t_args0 ?_
  | refine t_kws0 ?_
  | refine t_kws1 ?_)
local macro_rules | `(tactic| walk_at "wB") => `(tactic| with_reducible first
  | (refine' t_tcmp ?a ?_; (case a => k_dflt (exact rfl)))
  | refine t_tbool ?_
  | refine t_tnot ?_
  | refine t_and1 ?_
  | refine t_or1 ?_
  | refine t_and0 ?_
  | refine t_or0 ?_
  | (refine' t_tval ?a ?_; (case a => k_dflt (exact rfl))))
local macro_rules | `(tactic| walk_at "wP") => `(tactic| with_reducible first
  | refine And.intro (by assumption) ?_
  | refine b_add ?_
  | refine b_sub ?_
  | refine i_add ?_
  | refine c_eq ?_
  | refine c_ne ?_
  | refine c_lt ?_
  | refine c_gt ?_
  | refine c_ge ?_
  | refine c_eqs ?_
  | refine c_nes ?_
  | refine c_is ?_
  | refine c_isnot ?_
  | refine tr_bool ?_
  | refine tr_int ?_
  | refine tr_none ?_
  | refine seq_next ?_
  | refine seq_ret ?_
  | refine seq_brk ?_
  | refine seq_cont ?_)
local macro_rules | `(tactic| walk_at "w") => `(tactic| first
  | ((with_reducible show T _ _ RL _ _ _ _ _); walk_at "wA")
  | ((with_reducible show T _ _ PV.R _ _ _ _ _); walk_at "wV")
  | ((with_reducible show T _ _ BR _ _ _ _ _); walk_at "wB")
  | ((with_reducible show T _ _ PF.R _ _ _ _ _); walk_at "wS")
  | walk_at "wP")
section
variable {G : Gl} {S : Scope} {c : Cx S} {H : PHeap} {vs : Vars} {E : PX → PHeap → Vars → Prop} {Q : PV → PHeap → Vars → Prop}
theorem next_spec (hG : G.Ok) (hF : GF G) (hc : c.Ok) (hd : c.dp < 900) {st l : Addr} {xs : List Int} {p lim : Int} (e1 : H st = some (.list [.ref l, .int p])) (e2 : H l = some (.list (xs.map .int))) (hne : l ≠ st)
    (h0 : 0 ≤ p) (h1 : p < 2 ^ 60) (hz : xs.length ≤ 100) (hl : 0 < lim) (h : ∀ v, 0 ≤ v → v < lim → Q (.int v) (H.set st (.list [.ref l, .int (p + 1)])) vs) : CallP G c (.ref 551) [.ref st, .int lim] [] [] H vs Q E := by
  obtain ⟨t, ho⟩ := hF.d_next.at_
  refine CodeP.call (k_def (bs := [("state", .ref st), ("limit", .int lim)]) (ns := ["state", "limit"]) hG hc ho hF.d_next.code hd ?_ rfl (by decide) (by decide) (by decide) (by decide) (by decide) (by decide) fun c' hc' e1' e2' e3' e4' e5' => ?_)
  · rintro _ _ (_ | ⟨h1, _ | ⟨h2, _ | _⟩⟩) (_ | _) s X
    exact ⟨[("state", _), ("limit", _)], BindsTo.of_eq (by rfl), rfl, .cons h1 (.cons h2 .nil)⟩
  · refine t_cons ?_
    with_reducible refine t_augsub ?_ ?_
    · intro _ _ _; rfl
    walk_at "w"
    walk_at "w"
    refine itm_list e1 (by decide) (by decide) rfl ?_
    walk_at "w"
    walk_at "w"
    refine sto_list e1 (by decide) (by decide) (by simp) ?_
    show T _ _ _ _ _ _ _ _
    have g1 : (H.set st (.list [.ref l, .int (p + 1)])) st = some (.list [.ref l, .int (p + 1)]) := PHeap.set_self
    have g2 : (H.set st (.list [.ref l, .int (p + 1)])) l = some (.list (xs.map .int)) := (PHeap.set_ne hne).trans e2
    repeat walk_at "w"
    refine sub_list g1 (by decide) (by decide) rfl ?_
    repeat walk_at "w"
    refine sub_list g1 (by decide) (by decide) rfl ?_
    repeat walk_at "w"
    refine k_len g2 (by simp; rw [sizeLine_eq]; omega) ?_
    repeat walk_at "w"
    refine ⟨fun hb => ?_, fun hb => ?_⟩
    · repeat walk_at "w"
      exact ret_same (h 0 (by omega) hl)
    · repeat walk_at "w"
      refine sub_list g1 (by decide) (by decide) rfl ?_
      repeat walk_at "w"
      refine sub_list g1 (by decide) (by decide) rfl ?_
      repeat walk_at "w"
      have hb' : p + 1 ≤ xs.length := by simpa using hb
      have hi : p.toNat < xs.length := by omega
      refine sub_list (p := .int (xs[p.toNat])) g2 (by omega) (by omega) ?_ ?_
      · have : (p + 1 - 1).toNat = p.toNat := by omega
        rw [this]; simp [hi]
      · repeat walk_at "w"
        refine b_mod (by omega) (seq_ret ?_)
        exact ret_same (h _ (Int.fmod_nonneg_of_pos _ hl) (Int.fmod_lt_of_pos _ hl))
end
section
variable {G : Gl} {S : Scope} {c : Cx S} {H : PHeap} {vs : Vars} {E : PX → PHeap → Vars → Prop} {Q : PV → PHeap → Vars → Prop}
theorem excinit_spec (hG : G.Ok) (hF : GF G) (hc : c.Ok) (hd : c.dp < 900) {e : Addr} {msg : Str} {off : Int} (he : H e = some (.exc 149 none true))
    (h : ∀ d, H d = none → d ≠ e → Q .none ((H.set e (.exc 149 (some d) true)).set d (.dict [("message", .str msg), ("offset", .int off)])) vs) : CodeP G c (.ref 146) [.ref e, .str msg] ["offset"] [.int off] H vs Q E := by
  obtain ⟨t, ho⟩ := hF.d146.at_
  refine k_defAt (bs := [("self", .ref e), ("message", .str msg), ("offset", .int off)]) (ns := ["self", "message", "offset"]) hG hc ho hF.d146.code hd ?_ rfl (by decide) (by decide) (by decide) (by decide) (by decide) (by decide) fun c' hc' e1' e2' e3' e4' e5' e6' e7' s hs => ?_
  · rintro _ _ (_ | ⟨h1, _ | ⟨h2, _ | _⟩⟩) (_ | ⟨h3, _ | _⟩) s X
    refine ⟨[("self", _), ("message", _), ("offset", _)], ?_, rfl, .cons h1 (.cons h2 (.cons h3 .nil))⟩
    obtain ⟨n, tk, h138⟩ := hF.t138
    exact binds_K X rfl h138 rfl (by rfl) (by rfl)
  · obtain ⟨nm, q, N, bs, bm, hdct, sn, sub, ab, col, dd, k0, k1, k2, k3, k5, hK, _⟩ := hF.x149
    refine ks_wpAt_execs_cons (ks_wpAt_mono (superinit_wpAt (cda := 145) (C := 149) (e := e) hG hc' rfl hF.s149 hK e6' e7' (by rw [e5']; rfl) rfl rfl rfl rfl rfl rfl he hs) (fun f s1 ⟨hf, hs1⟩ => ?_) fun _ _ x => x)
    subst hf
    refine PySem.wpAt_of_wpAny ?_
    have key : T G c' PF.R (execs ((dBody (methAt 11 0)).drop 1) c'.env) H [("self", .ref e), ("message", .str msg), ("offset", .int off)] (RetQ Q vs) (fun x H1 _ => E x H1 vs) := by
      refine t_cons ?_
      with_reducible refine' t_setattr ?a ?_
      case a => k_dflt (exact rfl)
      repeat walk_at "w"
      refine s_exc0 hG hF.e149 hF.f149.1 he fun d hdn => ?_
      have hde : d ≠ e := fun q => by rw [q, he] at hdn; cases hdn
      repeat walk_at "w"
      repeat walk_at "w"
      refine s_exc (d := d) (fs := [("message", .str msg)]) hG hF.e149 hF.f149.2 ((PHeap.set_ne (Ne.symm hde)).trans PHeap.set_self) PHeap.set_self (by simp) ?_
      repeat walk_at "w"
      refine ⟨_, PHeap.Le.refl _, ?_⟩
      have e2 : ((H.set e (.exc 149 (some d) true)).set d (.dict [("message", .str msg)])).set d (.dict (putV "offset" (.int off) [("message", .str msg)])) = (H.set e (.exc 149 (some d) true)).set d (.dict [("message", .str msg), ("offset", .int off)]) := by
        funext b
        unfold PHeap.set
        by_cases hb : b = d
        · simp only [hb, if_true]; rfl
        · simp [hb]
      rw [e2]
      exact h d hdn hde
    exact key s1 hs1
end
section
variable {G : Gl} {S : Scope} {c : Cx S} {H : PHeap} {vs : Vars} {E : PX → PHeap → Vars → Prop} {Q : PV → PHeap → Vars → Prop}
/-- the dict of a refusal -/
def refus (msg : Str) (off : Int) : PO := .dict [("message", .str msg), ("offset", .int off)]
theorem newexc_spec (hG : G.Ok) (hF : GF G) (hc : c.Ok) (hd : c.dp < 800) {msg : Str} {off : Int}
    (h : ∀ e d, H e = none → H d = none → d ≠ e → Q (.ref e) ((H.set e (.exc 149 (some d) true)).set d (refus msg off)) vs) : CallP G c (.ref 149) [.str msg] ["offset"] [.int off] H vs Q E := by
  obtain ⟨nm, q, N, bs, bm, hdct, sn, sub, ab, col, dd, k0, k1, k2, k3, k5, hK, hB, hA, hN, _⟩ := hF.x149
  refine k_newexc hG hK hB hA hN hF.c149.1 hF.c149.2.1 hF.c149.2.2.1 hF.c149.2.2.2 (by simp; rw [sizeLine_eq]; decide) fun e he => ?_
  refine excinit_spec hG hF (Cx.up_ok hc) (by show c.dp + 1 < 900; omega) PHeap.set_self fun d hdn hde => ⟨rfl, ?_⟩
  have h1 : H d = none := by rw [PHeap.set_ne hde] at hdn; exact hdn
  have h2 : ((H.set e (.exc 149 none true)).set e (.exc 149 (some d) true)) = H.set e (.exc 149 (some d) true) := by
    funext b
    unfold PHeap.set
    by_cases hb : b = e <;> simp [hb]
  rw [h2]
  exact h e d he h1 hde
theorem refus_del {e d : Addr} {o : PO} {p : PO} (he : H e = none) (hde : d ≠ e) : ((H.set e o).set d p).del e = H.set d p := by
  funext b
  unfold PHeap.del PHeap.set
  by_cases hb : b = e
  · subst hb; simp [Ne.symm hde, he]
  · simp [hb]
/-- what a refusal leads to -/
theorem refus_end (hF : GF G) {e d : Addr} {msg : Str} {off : Int} {p : PV} (hp : p = .ref e) (he : H e = none) (hde : d ≠ e) (h : E (.own 149 d) (H.set d (refus msg off)) vs) :
    ∃ ea C d', p = .ref ea ∧ ExcOk G C ∧ ((H.set e (.exc 149 (some d) true)).set d (refus msg off)) ea = some (.exc C (some d') true) ∧ E (.own C d') (((H.set e (.exc 149 (some d) true)).set d (refus msg off)).del ea) vs :=
  ⟨e, 149, d, hp, hF.e149, (PHeap.set_ne (Ne.symm hde)).trans PHeap.set_self, by rw [refus_del he hde]; exact h⟩
end
section
variable {G : Gl} {S : Scope} {c : Cx S} {H : PHeap} {vs : Vars} {E : PX → PHeap → Vars → Prop} {Q : PV → PHeap → Vars → Prop}
def stm (ss : List Stmt) (i : Nat) : Stmt := ss.getD i noStmt
def forT : Stmt → Expr
  | .For t _ _ _ _ => t
  | _ => .Constant .none 0 ⟨0, 0, 0, 0⟩
def forB : Stmt → List Stmt
  | .For _ _ b _ _ => b
  | .While _ b _ _ => b
  | .If _ b _ _ => b
  | .Try b _ _ _ _ => b
  | _ => []
/-- columns, laid -/
inductive ColsAt (H : PHeap) : List PV → List (Int × Int) → Prop
  | nil : ColsAt H [] []
  | cons {r : Addr} {a b : Int} {ps cs} : H r = some (.tup [.int a, .int b]) → ColsAt H ps cs → ColsAt H (.ref r :: ps) ((a, b) :: cs)
def Cols (H : PHeap) (l : Addr) (cs : List (Int × Int)) : Prop := ∃ ps, H l = some (.list ps) ∧ ColsAt H ps cs
theorem ColsAt.le {H H' : PHeap} (hl : H.Le H') : ∀ {ps cs}, ColsAt H ps cs → ColsAt H' ps cs
  | _, _, .nil => .nil
  | _, _, .cons h r => .cons (hl _ _ h) (r.le hl)
theorem ColsAt.len {H : PHeap} : ∀ {ps cs}, ColsAt H ps cs → ps.length = cs.length
  | _, _, .nil => rfl
  | _, _, .cons _ r => by simp [r.len]
def Bd (cs : List (Int × Int)) : Prop := ∀ q ∈ cs, 0 ≤ q.1 ∧ q.1 ≤ 1000 ∧ 0 ≤ q.2 ∧ q.2 ≤ 1000

/-- one column of a line -/
def lineStep (sign text : Str) (q : Int × Int) : Str := (text ++ Txt.mul " " (q.1 - text.length)) ++ Txt.mul sign (q.2 - q.1)
def lawLine (cs : List (Int × Int)) (sign : Str) : Str := cs.foldl (lineStep sign) ""

theorem mul1_le {x : Str} {n : Int} (hx : x.length = 1) : (Txt.mul x n).length ≤ n.toNat := by
  have h1 := PyProof.Rows.len_mul_leN (x := x) (n := n) (L := 1) (N := n.toNat) (by omega) (by omega)
  omega
theorem len_app (x y : Str) : (x ++ y).length = x.length + y.length := by
  show (x ++ y).cps.size = _
  rw [Str.cps_append, Array.size_append]; rfl
theorem len_lineStep {sign text : Str} {q : Int × Int} (hs : sign.length = 1) (hq : 0 ≤ q.1 ∧ q.1 ≤ 1000 ∧ 0 ≤ q.2 ∧ q.2 ≤ 1000) : (lineStep sign text q).length ≤ text.length + 2000 := by
  unfold lineStep
  rw [len_app, len_app]
  have h1 := mul1_le (x := " ") (n := q.1 - text.length) rfl
  have h2 := mul1_le (x := sign) (n := q.2 - q.1) hs
  omega
theorem line_spec (hG : G.Ok) (hF : GF G) (hc : c.Ok) (hd : c.dp < 800) (hh : c.hd = none) {l : Addr} {cs : List (Int × Int)} {sign : Str} (hcols : Cols H l cs) (hb : Bd cs) (hn : cs.length ≤ 100) (hs : sign.length = 1)
    (h : Q (.str (lawLine cs sign)) H vs) : CallP G c (.ref 558) [.ref l, .str sign] [] [] H vs Q E := by
  obtain ⟨t, ho⟩ := hF.d_line.at_
  refine CodeP.call (k_def (bs := [("columns", .ref l), ("sign", .str sign)]) (ns := ["columns", "sign"]) hG hc ho hF.d_line.code (by omega) ?_ rfl (by decide) (by decide) (by decide) (by decide) (by decide) (by decide) fun c' hc' e1' e2' e3' e4' e5' => ?_)
  · rintro _ _ (_ | ⟨h1, _ | ⟨h2, _ | _⟩⟩) (_ | _) s X
    exact ⟨[("columns", _), ("sign", _)], BindsTo.of_eq (by rfl), rfl, .cons h1 (.cons h2 .nil)⟩
  · obtain ⟨ps, hps, hat⟩ := hcols
    have hd' : c'.hd = none := e3'.trans hh
    refine t_cons ?_
    repeat walk_at "w"
    with_reducible refine' t_for hc' e4' hd' ?f ?_
    case f => k_dflt (exact fun _ => rfl)
    repeat walk_at "w"
    refine iter_list hps ⟨hps, ?_⟩
    have loop : ∀ (ps' : List PV) (cs' : List (Int × Int)) (text : Str) (vs1 : Vars), ColsAt H ps' cs' → (∀ q ∈ cs', q ∈ cs) → text.length + 2000 * cs'.length ≤ 200000 →
        (vs1 = ([("columns", .ref l), ("sign", .str sign), ("text", .str text)] : Vars) ∨ ∃ y, vs1 = ([("columns", .ref l), ("sign", .str sign), ("text", .str text), ("one", y)] : Vars)) → lawLine cs sign = cs'.foldl (lineStep sign) text →
        ForP G c' (fun H1 => H1 l = some (.list ps)) (forT (stm (dBody (topAt 19)) 1)) (forB (stm (dBody (topAt 19)) 1)) (Seq G c' ((dBody (topAt 19)).drop 2) (RetQ Q vs) (fun x H1 _ => E x H1 vs)) (fun x H1 _ => E x H1 vs) (ps'.map .val) H vs1 := by
      intro ps' cs' text vs1 hat'
      induction hat' generalizing text vs1 with
      | nil =>
        intro _ _ hv hq
        rcases hv with rfl | ⟨y, rfl⟩
        all_goals
          refine t_cons ?_
          repeat walk_at "w"
          refine ret_same ?_
          rw [show text = lawLine cs sign from hq.symm]
          exact h
      | @cons r a b ps' cs' hr hat' ih =>
        intro hsub hlen hv hq P v hpv
        have hput : putV "one" (.ref r) vs1 = ([("columns", .ref l), ("sign", .str sign), ("text", .str text), ("one", .ref r)] : Vars) := by
          rcases hv with rfl | ⟨y, rfl⟩ <;> rfl
        refine a_name (Cx.wp_ok hc') rfl hpv ?_
        rw [hput]
        have hq1 := hb (a, b) (hsub _ (.head _))
        have hl1 := len_lineStep (sign := sign) (text := text) (q := (a, b)) hs hq1
        have hl0 : text.length + 2000 * (cs'.length + 1) ≤ 200000 := hlen
        refine t_cons ?_
        repeat walk_at "w"
        refine sub_tup hr (by decide) (by decide) rfl ?_
        repeat walk_at "w"
        refine k_lens (by rw [sizeLine_eq]; omega) ?_
        repeat walk_at "w"
        refine b_rep (by rw [sizeLine_eq]; show 1 * _ ≤ _; omega) (by omega) ?_
        have m1 := mul1_le (x := " ") (n := a - text.length) rfl
        refine b_cat (by rw [sizeLine_eq]; omega) ?_
        repeat walk_at "w"
        refine sub_tup hr (by decide) (by decide) rfl ?_
        repeat walk_at "w"
        refine sub_tup hr (by decide) (by decide) rfl ?_
        repeat walk_at "w"
        have m2 := mul1_le (x := sign) (n := b - a) hs
        refine b_rep (by rw [hs, sizeLine_eq]; omega) (by omega) ?_
        refine b_cat (by rw [len_app, sizeLine_eq]; omega) ?_
        repeat walk_at "w"
        refine ⟨H, PHeap.Le.refl _, hps, ?_⟩
        exact ih (lineStep sign text (a, b)) _ (fun q hq => hsub q (.tail _ hq)) (by omega) (.inr ⟨_, rfl⟩) hq
    refine loop ps cs "" _ hat (fun _ h => h) ?_ (.inl rfl) rfl
    show 0 + 2000 * cs.length ≤ 200000
    omega
end
section
variable {G : Gl} {S : Scope} {c : Cx S} {H : PHeap} {vs : Vars} {E : PX → PHeap → Vars → Prop} {Q : PV → PHeap → Vars → Prop}
/-- a dash at k -/
def isDash (x : Str) (k : Nat) : Bool := (Txt.item x (k : Int)).cps.toList == ("-" : Str).cps.toList
inductive DStop (x : Str) : Nat → Nat → Prop
  | over {k} : x.length ≤ k → DStop x k k
  | here {k} : k < x.length → isDash x k = false → DStop x k k
  | on {k j} : k < x.length → isDash x k = true → DStop x (k + 1) j → DStop x k j
inductive Runs (x : Str) : Nat → List (Int × Int) → Prop
  | done {k} : x.length ≤ k → Runs x k []
  | skip {k rs} : k < x.length → isDash x k = false → Runs x (k + 1) rs → Runs x k rs
  | run {k j rs} : k < x.length → isDash x k = true → DStop x k j → Runs x j rs → Runs x k (((k : Int), (j : Int)) :: rs)
theorem DStop.le {x : Str} : ∀ {k j}, DStop x k j → k ≤ j ∧ (k ≤ x.length → j ≤ x.length)
  | _, _, .over _ => ⟨Nat.le_refl _, id⟩
  | _, _, .here _ _ => ⟨Nat.le_refl _, id⟩
  | _, _, .on h1 _ r => by have := r.le; omega
theorem DStop.lt {x : Str} {k j : Nat} (h : DStop x k j) (hk : k < x.length) (hd : isDash x k = true) : k < j := by
  cases h with
  | over h => omega
  | here _ h => rw [hd] at h; cases h
  | on _ _ r => have := r.le; omega
def lawW : Stmt := stm (dBody (topAt 20)) 2
def lawW2 : Stmt := stm (forB (stm (forB lawW) 0)) 1

theorem ColsAt.app {H : PHeap} {ps2 cs2} (h2 : ColsAt H ps2 cs2) : ∀ {ps cs}, ColsAt H ps cs → ColsAt H (ps ++ ps2) (cs ++ cs2)
  | _, _, .nil => h2
  | _, _, .cons h r => .cons h (ColsAt.app h2 r)

theorem ColsAt.set {H : PHeap} {r : Addr} {xs : List PV} {o : PO} (hr : H r = some (.list xs)) : ∀ {ps cs}, ColsAt H ps cs → ColsAt (H.set r o) ps cs
  | _, _, .nil => .nil
  | _, _, .cons h k => .cons (by rw [PHeap.set_ne]; exact h; intro e; rw [e, hr] at h; cases h) (ColsAt.set hr k)
theorem runs_spec (hG : G.Ok) (hF : GF G) (hc : c.Ok) (hd : c.dp < 800) (hh : c.hd = none) {x : Str} {rs : List (Int × Int)} (hx : x.length ≤ 5000) (hr : Runs x 0 rs)
    (h : ∀ r H', PHeap.Le H H' → H r = none → Cols H' r rs → Q (.ref r) H' vs) : CallP G c (.ref 565) [.str x] [] [] H vs Q E := by
  obtain ⟨t, ho⟩ := hF.d_runs.at_
  refine CodeP.call (k_def (bs := [("text", .str x)]) (ns := ["text"]) hG hc ho hF.d_runs.code (by omega) ?_ rfl (by decide) (by decide) (by decide) (by decide) (by decide) (by decide) fun c' hc' e1' e2' e3' e4' e5' => ?_)
  · rintro _ _ (_ | ⟨h1, _ | _⟩) (_ | _) s X
    exact ⟨[("text", _)], BindsTo.of_eq (by rfl), rfl, .cons h1 .nil⟩
  · refine t_cons ?_
    repeat walk_at "w"
    refine ⟨Nat.zero_le _, fun r hrn => ?_⟩
    repeat walk_at "w"
    refine t_while hc' e4' (fun n H1 vs1 => ∃ (k : Nat) (rest acc : List (Int × Int)) (ps : List PV), n = x.length - k ∧ Runs x k rest ∧ rs = acc ++ rest ∧ acc.length ≤ k ∧ k ≤ x.length ∧ H1 r = some (.list ps) ∧ ColsAt H1 ps acc ∧ PHeap.Le H H1 ∧
      (vs1 = ([("text", .str x), ("runs", .ref r), ("k", .int k)] : Vars) ∨ ∃ y, vs1 = ([("text", .str x), ("runs", .ref r), ("k", .int k), ("stop", y)] : Vars))) x.length
      ⟨0, rs, [], [], rfl, hr, rfl, Nat.le_refl _, Nat.zero_le _, PHeap.set_self, .nil, (PHeap.Le.refl H).set hrn, .inl rfl⟩ ?_
    rintro n H1 vs1 ⟨k, rest, acc, ps, rfl, hR, hrs, hacc, hkx, hr1, hat, hle, hv⟩
    rcases hv with rfl | ⟨y, rfl⟩
    all_goals
      repeat walk_at "w"
      refine k_lens (by rw [sizeLine_eq]; omega) ?_
      repeat walk_at "w"
      refine ⟨fun hb => ?_, fun hb => ?_⟩
      · have hb : (k : Int) < x.length := of_decide_eq_true hb
        repeat walk_at "w"
        refine sub_str (by omega) hb (by omega) ?_
        repeat walk_at "w"
        refine ⟨fun hb2 => ?_, fun hb2 => ?_⟩
        · -- a run
          cases hR with
          | done h => omega
          | skip _ h2 _ => exact absurd (hb2.symm.trans h2) (by decide)
          | @run _ j rs' h1 h2 hD hR' =>
            have hj := hD.lt (by omega) hb2
            have hjx := hD.le.2 hkx
            repeat walk_at "w"
            refine t_while hc' e4' (fun n H2 vs2 => ∃ (i : Nat), n = x.length - i ∧ k ≤ i ∧ i ≤ x.length ∧ DStop x i j ∧ H2 = H1 ∧ vs2 = ([("text", .str x), ("runs", .ref r), ("k", .int k), ("stop", .int i)] : Vars)) (x.length - k)
              ⟨k, rfl, Nat.le_refl _, hkx, hD, rfl, rfl⟩ ?_
            rintro n2 H2 vs2 ⟨i, rfl, hki, hix, hDi, rfl, rfl⟩
            repeat walk_at "w"
            refine k_lens (by rw [sizeLine_eq]; omega) ?_
            repeat walk_at "w"
            refine ⟨fun hbi => ?_, fun hbi => ?_⟩
            repeat walk_at "w"
            refine sub_str (by omega) (of_decide_eq_true hbi) (by omega) ?_
            repeat walk_at "w"
            refine ⟨fun hdd => ?_, fun hdd => ?_⟩
            repeat walk_at "w"
            refine ⟨fun _ => ?_, fun hq => nomatch hq⟩
            repeat walk_at "w"
            · have hlt : (i : Int) < x.length := of_decide_eq_true hbi
              refine ⟨H2, PHeap.Le.refl _, x.length - (i + 1), by omega, i + 1, rfl, by omega, by omega, ?_, rfl, ?_⟩
              · cases hDi with
                | over h => omega
                | here _ h => exact absurd (hdd.symm.trans h) (by decide)
                | on _ _ r => exact r
              · show _ = ([("text", .str x), ("runs", .ref r), ("k", .int k), ("stop", .int ((i + 1 : Nat) : Int))] : Vars)
                rw [show ((i + 1 : Nat) : Int) = (i : Int) + 1 by omega]
                rfl
            · have hij : j = i := by
                cases hDi with
                | over h => rfl
                | here _ h => rfl
                | on _ h _ => exact absurd (h.symm.trans hdd) (by decide)
              subst hij
              refine ⟨fun hq => (nomatch hq), fun _ => ?_⟩
              repeat walk_at "w"
              refine m_list hr1 PySem.F.slot_list_append rfl ?_
              refine ⟨trivial, ?_⟩
              repeat walk_at "w"
              refine ⟨by show 2 ≤ _; rw [sizeLine_eq]; decide, fun d hdn => ?_⟩
              have hdr : r ≠ d := fun q => by rw [← q, hr1] at hdn; cases hdn
              repeat walk_at "w"
              have hr2 : (H2.set d (.tup [.int k, .int j])) r = some (.list ps) := (PHeap.set_ne hdr).trans hr1
              refine k_append hr2 (by rw [hat.len, sizeLine_eq]; omega) ?_
              repeat walk_at "w"
              have hat2 : ColsAt (H2.set d (.tup [.int k, .int j])) (ps ++ [.ref d]) (acc ++ [((k : Int), (j : Int))]) := ColsAt.app (.cons PHeap.set_self .nil) (hat.le ((PHeap.Le.refl H2).set hdn))
              refine ⟨_, PHeap.Le.refl _, x.length - j, by omega, j, rs', acc ++ [((k : Int), (j : Int))], ps ++ [.ref d], rfl, hR', by rw [hrs, List.append_assoc]; rfl, by simp; omega, hjx, PHeap.set_self, ColsAt.set hr2 hat2, ?_, .inr ⟨_, rfl⟩⟩
              exact (hle.trans ((PHeap.Le.refl H2).set hdn)).set hrn
            · have hij : j = i := by
                have := of_decide_eq_false hbi
                cases hDi with
                | over h => rfl
                | here _ h => rfl
                | on h _ _ => omega
              subst hij
              repeat walk_at "w"
              refine ⟨fun hq => (nomatch hq), fun _ => ?_⟩
              repeat walk_at "w"
              refine m_list hr1 PySem.F.slot_list_append rfl ?_
              refine ⟨trivial, ?_⟩
              repeat walk_at "w"
              refine ⟨by show 2 ≤ _; rw [sizeLine_eq]; decide, fun d hdn => ?_⟩
              have hdr : r ≠ d := fun q => by rw [← q, hr1] at hdn; cases hdn
              repeat walk_at "w"
              have hr2 : (H2.set d (.tup [.int k, .int j])) r = some (.list ps) := (PHeap.set_ne hdr).trans hr1
              refine k_append hr2 (by rw [hat.len, sizeLine_eq]; omega) ?_
              repeat walk_at "w"
              have hat2 : ColsAt (H2.set d (.tup [.int k, .int j])) (ps ++ [.ref d]) (acc ++ [((k : Int), (j : Int))]) := ColsAt.app (.cons PHeap.set_self .nil) (hat.le ((PHeap.Le.refl H2).set hdn))
              refine ⟨_, PHeap.Le.refl _, x.length - j, by omega, j, rs', acc ++ [((k : Int), (j : Int))], ps ++ [.ref d], rfl, hR', by rw [hrs, List.append_assoc]; rfl, by simp; omega, hjx, PHeap.set_self, ColsAt.set hr2 hat2, ?_, .inr ⟨_, rfl⟩⟩
              exact (hle.trans ((PHeap.Le.refl H2).set hdn)).set hrn
        · -- no dash
          cases hR with
          | done h => omega
          | run _ h2 _ _ => exact absurd (h2.symm.trans hb2) (by decide)
          | skip h1 h2 hR' =>
            repeat walk_at "w"
            refine ⟨H1, PHeap.Le.refl _, x.length - (k + 1), by omega, k + 1, rest, acc, ps, rfl, hR', hrs, by omega, by omega, hr1, hat, hle, ?_⟩
            rw [show ((k + 1 : Nat) : Int) = (k : Int) + 1 by omega]
            first | exact .inl rfl | exact .inr ⟨_, rfl⟩
      · -- the end
        have hke : k = x.length := by have := of_decide_eq_false hb; omega
        cases hR with
        | skip h1 _ _ => omega
        | run h1 _ _ _ => omega
        | done _ =>
          repeat walk_at "w"
          refine ret_same ?_
          rw [List.append_nil] at hrs
          exact h r H1 hle hrn ⟨ps, hr1, hrs ▸ hat⟩
end
section
variable {G : Gl} {S : Scope} {c : Cx S} {H : PHeap} {vs : Vars} {E : PX → PHeap → Vars → Prop} {Q : PV → PHeap → Vars → Prop}
theorem Cols.get {H : PHeap} {l : Addr} {cs : List (Int × Int)} (h : Cols H l cs) {i : Nat} {a b : Int} (hi : cs[i]? = some (a, b)) : ∃ ps r, H l = some (.list ps) ∧ ps[i]? = some (.ref r) ∧ H r = some (.tup [.int a, .int b]) ∧ ps.length = cs.length := by
  obtain ⟨ps, h1, h2⟩ := h
  refine ⟨ps, ?_⟩
  have : ∀ {ps cs}, ColsAt H ps cs → ∀ {i : Nat}, cs[i]? = some (a, b) → ∃ r, ps[i]? = some (.ref r) ∧ H r = some (.tup [.int a, .int b]) := by
    intro ps cs hat
    induction hat with
    | nil => intro i e; simp at e
    | @cons r a' b' ps cs hr _ ih =>
      intro i e
      cases i with
      | zero => simp at e; obtain ⟨rfl, rfl⟩ := e; exact ⟨r, rfl, hr⟩
      | succ i => simp at e; obtain ⟨r', h3, h4⟩ := ih e; exact ⟨r', by simpa using h3, h4⟩
  obtain ⟨r, h3, h4⟩ := this h2 hi
  exact ⟨r, h1, h3, h4, h2.len⟩
def optPV : Option Str → PV
  | none => .none
  | some s => .str s
def lawSpan (cs : List (Int × Int)) (f s : Int) (way : Int) : Option Str :=
  let text := lawLine cs "-"
  if way = 1 then some text else if way = 2 then some (Txt.mul "-" s ++ ssl text (some s) none) else if way = 3 then some (ssl text none (some f)) else if way = 4 then some ((" " : Str) ++ ssl text (some 1) none)
  else if way = 5 then some ((ssl text none (some (f - 1)) ++ (" " : Str)) ++ ssl text (some f) none) else none
theorem len_ssl (x : Str) (lo hi : Option Int) : (ssl x lo hi).length ≤ x.length := by
  show (List.toArray (lsl x.cps.toList lo hi)).size ≤ x.cps.size
  rw [List.size_toArray]
  unfold lsl
  rw [List.length_take, List.length_drop, Array.length_toList]
  omega
theorem len_lawLine {cs : List (Int × Int)} {sign : Str} (hs : sign.length = 1) (hb : Bd cs) : (lawLine cs sign).length ≤ 2000 * cs.length := by
  have : ∀ (cs' : List (Int × Int)) (text : Str), (∀ q ∈ cs', q ∈ cs) → (cs'.foldl (lineStep sign) text).length ≤ text.length + 2000 * cs'.length := by
    intro cs'
    induction cs' with
    | nil => intro text _; simp
    | cons q r ih =>
      intro text hsub
      have h1 := len_lineStep (sign := sign) (text := text) hs (hb q (hsub q (.head _)))
      have h2 := ih (lineStep sign text q) fun z hz => hsub z (.tail _ hz)
      rw [List.foldl_cons, List.length_cons]
      omega
  have := this cs "" fun _ h => h
  rw [show ("" : Str).length = 0 from rfl, Nat.zero_add] at this
  exact this
theorem span_spec (hG : G.Ok) (hF : GF G) (hc : c.Ok) (hd : c.dp < 700) (hh : c.hd = none) {l : Addr} {cs : List (Int × Int)} {a f a2 s way : Int} (hcols : Cols H l cs) (hb : Bd cs) (hn : cs.length ≤ 5) (h0 : cs[0]? = some (a, f)) (h1 : cs[1]? = some (a2, s)) (hf : 1 ≤ f)
    (h : Q (optPV (lawSpan cs f s way)) H vs) : CallP G c (.ref 572) [.ref l, .int way] [] [] H vs Q E := by
  obtain ⟨t, ho⟩ := hF.d_span.at_
  refine CodeP.call (k_def (bs := [("columns", .ref l), ("way", .int way)]) (ns := ["columns", "way"]) hG hc ho hF.d_span.code (by omega) ?_ rfl (by decide) (by decide) (by decide) (by decide) (by decide) (by decide) fun c' hc' e1' e2' e3' e4' e5' => ?_)
  · rintro _ _ (_ | ⟨h1, _ | ⟨h2, _ | _⟩⟩) (_ | _) s X
    exact ⟨[("columns", _), ("way", _)], BindsTo.of_eq (by rfl), rfl, .cons h1 (.cons h2 .nil)⟩
  · obtain ⟨ps, r0, p1, p2, p3, p4⟩ := hcols.get h0
    obtain ⟨ps', r1, q1, q2, q3, q4⟩ := hcols.get h1
    rw [p1] at q1; cases q1
    have hl := len_lawLine (sign := "-") rfl hb
    have hf2 : f ≤ 1000 := by
      have := hb (a, f) (List.mem_of_getElem? h0)
      exact this.2.2.2
    have hs2 := hb (a2, s) (List.mem_of_getElem? h1)
    refine t_cons ?_
    repeat walk_at "w"
    refine line_spec hG hF hc' (by omega) (e3'.trans hh) hcols hb (by omega) rfl ?_
    repeat walk_at "w"
    refine sub_list p1 (by decide) (by decide) p2 ?_
    repeat walk_at "w"
    refine sub_tup p3 (by decide) (by decide) rfl ?_
    repeat walk_at "w"
    refine ⟨fun hw => ?_, fun hw => ?_⟩
    · repeat walk_at "w"
      refine ret_same ?_
      have : way = 1 := by simpa using hw
      subst this; exact h
    have w1 : way ≠ 1 := by simpa using hw
    repeat walk_at "w"
    refine ⟨fun hw => ?_, fun hw => ?_⟩
    · have : way = 2 := by simpa using hw
      subst this
      repeat walk_at "w"
      refine sub_list p1 (by decide) (by decide) q2 ?_
      repeat walk_at "w"
      refine sub_tup q3 (by decide) (by decide) rfl ?_
      repeat walk_at "w"
      refine b_rep (by rw [sizeLine_eq]; show 1 * _ ≤ _; omega) (by omega) ?_
      repeat walk_at "w"
      refine sub_list p1 (by decide) (by decide) q2 ?_
      repeat walk_at "w"
      refine sub_tup q3 (by decide) (by decide) rfl ?_
      repeat walk_at "w"
      refine slc_str (lo := some s) (hi := none) rfl rfl (by rw [sizeLine_eq]; omega) ?_
      have m1 := mul1_le (x := "-") (n := s) rfl
      have m2 := len_ssl (lawLine cs "-") (some s) none
      refine b_cat (by rw [sizeLine_eq]; omega) ?_
      repeat walk_at "w"
      exact ret_same h
    have w2 : way ≠ 2 := by simpa using hw
    repeat walk_at "w"
    refine ⟨fun hw => ?_, fun hw => ?_⟩
    · have : way = 3 := by simpa using hw
      subst this
      repeat walk_at "w"
      refine slc_str (lo := none) (hi := some f) rfl rfl (by rw [sizeLine_eq]; omega) ?_
      repeat walk_at "w"
      exact ret_same h
    have w3 : way ≠ 3 := by simpa using hw
    repeat walk_at "w"
    refine ⟨fun hw => ?_, fun hw => ?_⟩
    · have : way = 4 := by simpa using hw
      subst this
      repeat walk_at "w"
      refine slc_str (lo := some 1) (hi := none) rfl rfl (by rw [sizeLine_eq]; omega) ?_
      have m2 := len_ssl (lawLine cs "-") (some 1) none
      refine b_cat (by rw [sizeLine_eq]; show 1 + _ ≤ _; omega) ?_
      repeat walk_at "w"
      exact ret_same h
    have w4 : way ≠ 4 := by simpa using hw
    repeat walk_at "w"
    refine ⟨fun hw => ?_, fun hw => ?_⟩
    · have : way = 5 := by simpa using hw
      subst this
      repeat walk_at "w"
      refine slc_str (lo := none) (hi := some (f - 1)) rfl rfl (by rw [sizeLine_eq]; omega) ?_
      have m2 := len_ssl (lawLine cs "-") none (some (f - 1))
      repeat walk_at "w"
      refine b_cat (by rw [sizeLine_eq]; show _ + 1 ≤ _; omega) ?_
      repeat walk_at "w"
      refine slc_str (lo := some f) (hi := none) rfl rfl (by rw [sizeLine_eq]; omega) ?_
      have m3 := len_ssl (lawLine cs "-") (some f) none
      refine b_cat (by rw [len_app, sizeLine_eq]; show _ + 1 + _ ≤ _; omega) ?_
      repeat walk_at "w"
      exact ret_same h
    have w5 : way ≠ 5 := by simpa using hw
    repeat walk_at "w"
    refine ret_same ?_
    unfold lawSpan at h
    simp only [w1, w2, w3, w4, w5, if_false] at h
    exact h
end
section
variable {G : Gl} {S : Scope} {c : Cx S} {H : PHeap} {vs : Vars} {E : PX → PHeap → Vars → Prop} {Q : PV → PHeap → Vars → Prop}
/-- one column of a record's text -/
def textStep (k : Int) (text : Str) (q : Int × Int) : Str := ((text ++ Txt.mul " " (q.1 - text.length)) ++ ("p" : Str)) ++ digs k
def textBase (cs : List (Int × Int)) (k : Int) : Str := cs.foldl (textStep k) ""
def lawText (cs : List (Int × Int)) (f z : Int) (kind k : Int) : Str :=
  let text := textBase cs k
  if kind = 2 then Txt.mul " " f ++ ssl text (some f) none
  else if kind = 3 then (ssl text none (some f) ++ ("x" : Str)) ++ ssl text (some (f + 1)) none
  else if kind = 4 then (text ++ Txt.mul " " (z - text.length)) ++ ("zzzz" : Str)
  else if kind = 5 then "" else text
theorem len_digs {k : Int} (h0 : 0 ≤ k) (h1 : k < 10) : (digs k).length ≤ 20 := by
  have := PyProof.Rows.len_str_of_int k
  unfold digs
  omega
theorem len_textStep {k : Int} {text : Str} {q : Int × Int} (h0 : 0 ≤ k) (h1 : k < 10) (hq : 0 ≤ q.1 ∧ q.1 ≤ 1000 ∧ 0 ≤ q.2 ∧ q.2 ≤ 1000) : (textStep k text q).length ≤ text.length + 2000 := by
  unfold textStep
  rw [len_app, len_app, len_app]
  have h2 := mul1_le (x := " ") (n := q.1 - text.length) rfl
  have h3 := len_digs h0 h1
  have h4 : ("p" : Str).length = 1 := rfl
  omega
theorem len_textBase {cs : List (Int × Int)} {k : Int} (h0 : 0 ≤ k) (h1 : k < 10) (hb : Bd cs) : (textBase cs k).length ≤ 2000 * cs.length := by
  have : ∀ (cs' : List (Int × Int)) (text : Str), (∀ q ∈ cs', q ∈ cs) → (cs'.foldl (textStep k) text).length ≤ text.length + 2000 * cs'.length := by
    intro cs'
    induction cs' with
    | nil => intro text _; simp
    | cons q r ih =>
      intro text hsub
      have h1 := len_textStep (k := k) (text := text) h0 h1 (hb q (hsub q (.head _)))
      have h2 := ih (textStep k text q) fun z hz => hsub z (.tail _ hz)
      rw [List.foldl_cons, List.length_cons]
      omega
  have := this cs "" fun _ h => h
  rw [show ("" : Str).length = 0 from rfl, Nat.zero_add] at this
  exact this
theorem text_spec (hG : G.Ok) (hF : GF G) (hc : c.Ok) (hd : c.dp < 700) (hh : c.hd = none) {l : Addr} {cs : List (Int × Int)} {a f az z kind k : Int} (hcols : Cols H l cs) (hb : Bd cs) (hn : cs.length ≤ 5) (h0 : cs[0]? = some (a, f)) (h1 : cs[cs.length - 1]? = some (az, z)) (hk0 : 0 ≤ k) (hk1 : k < 10)
    (h : Q (.str (lawText cs f z kind k)) H vs) : CallP G c (.ref 579) [.ref l, .int kind, .int k] [] [] H vs Q E := by
  obtain ⟨t, ho⟩ := hF.d_text.at_
  refine CodeP.call (k_def (bs := [("columns", .ref l), ("kind", .int kind), ("k", .int k)]) (ns := ["columns", "kind", "k"]) hG hc ho hF.d_text.code (by omega) ?_ rfl (by decide) (by decide) (by decide) (by decide) (by decide) (by decide) fun c' hc' e1' e2' e3' e4' e5' => ?_)
  · rintro _ _ (_ | ⟨h1, _ | ⟨h2, _ | ⟨h3, _ | _⟩⟩⟩) (_ | _) s X
    exact ⟨[("columns", _), ("kind", _), ("k", _)], BindsTo.of_eq (by rfl), rfl, .cons h1 (.cons h2 (.cons h3 .nil))⟩
  · obtain ⟨ps, r0, p1, p2, p3, p4⟩ := hcols.get h0
    obtain ⟨ps', r1, q1, q2, q3, q4⟩ := hcols.get h1
    rw [p1] at q1; cases q1
    obtain ⟨ps2, hps2, hat⟩ := id hcols
    rw [p1] at hps2; cases hps2
    have hl := len_textBase (k := k) hk0 hk1 hb
    have hf2 := hb (a, f) (List.mem_of_getElem? h0)
    have hz2 := hb (az, z) (List.mem_of_getElem? h1)
    have hcn : 0 < cs.length := by
      rcases Nat.eq_zero_or_pos cs.length with e | e
      · rw [List.length_eq_zero_iff.mp e] at h0; simp at h0
      · exact e
    have hd' : c'.hd = none := e3'.trans hh
    refine t_cons ?_
    repeat walk_at "w"
    with_reducible refine' t_for hc' e4' hd' ?f ?_
    case f => k_dflt (exact fun _ => rfl)
    repeat walk_at "w"
    refine iter_list p1 ⟨p1, ?_⟩
    have tail : ∀ y, T G c' PF.R (execs ((dBody (topAt 22)).drop 2) c'.env) H ([("columns", .ref l), ("kind", .int kind), ("k", .int k), ("text", .str (textBase cs k)), ("one", y)] : Vars) (RetQ Q vs) (fun x H1 _ => E x H1 vs) := by
      intro y
      generalize hX : textBase cs k = X at hl
      have hX' : lawText cs f z kind k = (if kind = 2 then Txt.mul " " f ++ ssl X (some f) none else if kind = 3 then (ssl X none (some f) ++ ("x" : Str)) ++ ssl X (some (f + 1)) none else if kind = 4 then (X ++ Txt.mul " " (z - X.length)) ++ ("zzzz" : Str) else if kind = 5 then "" else X) := by
        unfold lawText; rw [hX]
      rw [hX'] at h
      refine t_cons ?_
      repeat walk_at "w"
      refine ⟨fun hw => ?_, fun hw => ?_⟩
      · have : kind = 2 := by simpa using hw
        subst this
        repeat walk_at "w"
        refine sub_list p1 (by decide) (by decide) p2 ?_
        repeat walk_at "w"
        refine sub_tup p3 (by decide) (by decide) rfl ?_
        repeat walk_at "w"
        refine b_rep (by rw [sizeLine_eq]; show 1 * _ ≤ _; omega) (by omega) ?_
        repeat walk_at "w"
        refine sub_list p1 (by decide) (by decide) p2 ?_
        repeat walk_at "w"
        refine sub_tup p3 (by decide) (by decide) rfl ?_
        repeat walk_at "w"
        refine slc_str (lo := some f) (hi := none) rfl rfl (by rw [sizeLine_eq]; omega) ?_
        have m1 := mul1_le (x := " ") (n := f) rfl
        have m2 := len_ssl X (some f) none
        refine b_cat (by rw [sizeLine_eq]; omega) ?_
        repeat walk_at "w"
        exact ret_same h
      have w2 : kind ≠ 2 := by simpa using hw
      repeat walk_at "w"
      refine ⟨fun hw => ?_, fun hw => ?_⟩
      · have : kind = 3 := by simpa using hw
        subst this
        repeat walk_at "w"
        refine sub_list p1 (by decide) (by decide) p2 ?_
        repeat walk_at "w"
        refine sub_tup p3 (by decide) (by decide) rfl ?_
        repeat walk_at "w"
        refine slc_str (lo := none) (hi := some f) rfl rfl (by rw [sizeLine_eq]; omega) ?_
        have m2 := len_ssl X none (some f)
        repeat walk_at "w"
        refine b_cat (by rw [sizeLine_eq]; show _ + 1 ≤ _; omega) ?_
        repeat walk_at "w"
        refine sub_list p1 (by decide) (by decide) p2 ?_
        repeat walk_at "w"
        refine sub_tup p3 (by decide) (by decide) rfl ?_
        repeat walk_at "w"
        refine slc_str (lo := some (f + 1)) (hi := none) rfl rfl (by rw [sizeLine_eq]; omega) ?_
        have m3 := len_ssl X (some (f + 1)) none
        refine b_cat (by rw [len_app, sizeLine_eq]; show _ + 1 + _ ≤ _; omega) ?_
        repeat walk_at "w"
        refine ret_same ?_
        simpa using h
      have w3 : kind ≠ 3 := by simpa using hw
      repeat walk_at "w"
      refine ⟨fun hw => ?_, fun hw => ?_⟩
      · have : kind = 4 := by simpa using hw
        subst this
        repeat walk_at "w"
        refine ⟨_, rfl, ?_⟩
        refine sub_neg p1 (by decide) (by omega) (by decide) (by rw [p4]; rw [show ((-1 : Int) + (cs.length : Int)).toNat = cs.length - 1 by omega]; exact q2) ?_
        repeat walk_at "w"
        refine sub_tup q3 (by decide) (by decide) rfl ?_
        repeat walk_at "w"
        refine k_lens (by rw [sizeLine_eq]; omega) ?_
        repeat walk_at "w"
        refine b_rep (by rw [sizeLine_eq]; show 1 * _ ≤ _; omega) (by omega) ?_
        have m1 := mul1_le (x := " ") (n := z - X.length) rfl
        refine b_cat (by rw [sizeLine_eq]; omega) ?_
        repeat walk_at "w"
        refine b_cat (by rw [len_app, sizeLine_eq]; show _ + 4 ≤ _; omega) ?_
        repeat walk_at "w"
        refine ret_same ?_
        simpa using h
      have w4 : kind ≠ 4 := by simpa using hw
      repeat walk_at "w"
      refine ⟨fun hw => ?_, fun hw => ?_⟩
      · have : kind = 5 := by simpa using hw
        subst this
        repeat walk_at "w"
        exact ret_same (by simpa using h)
      · have w5 : kind ≠ 5 := by simpa using hw
        repeat walk_at "w"
        refine ret_same ?_
        simp only [w2, w3, w4, w5, if_false] at h
        exact h
    have loop : ∀ (ps' : List PV) (cs' : List (Int × Int)) (text : Str) (vs1 : Vars), ColsAt H ps' cs' → (∀ q ∈ cs', q ∈ cs) → text.length + 2000 * cs'.length ≤ 200000 →
        ((cs' ≠ [] ∧ vs1 = ([("columns", .ref l), ("kind", .int kind), ("k", .int k), ("text", .str text)] : Vars)) ∨ ∃ y, vs1 = ([("columns", .ref l), ("kind", .int kind), ("k", .int k), ("text", .str text), ("one", y)] : Vars)) → textBase cs k = cs'.foldl (textStep k) text →
        ForP G c' (fun H1 => H1 l = some (.list ps)) (forT (stm (dBody (topAt 22)) 1)) (forB (stm (dBody (topAt 22)) 1)) (Seq G c' ((dBody (topAt 22)).drop 2) (RetQ Q vs) (fun x H1 _ => E x H1 vs)) (fun x H1 _ => E x H1 vs) (ps'.map .val) H vs1 := by
      intro ps' cs' text vs1 hat'
      induction hat' generalizing text vs1 with
      | nil =>
        intro _ _ hv hq
        rcases hv with ⟨h, _⟩ | ⟨y, rfl⟩
        · exact absurd rfl h
        · have hq' : textBase cs k = text := hq
          rw [← hq']
          exact tail y
      | @cons r a b ps' cs' hr hat' ih =>
        intro hsub hlen hv hq P v hpv
        have hput : putV "one" (.ref r) vs1 = ([("columns", .ref l), ("kind", .int kind), ("k", .int k), ("text", .str text), ("one", .ref r)] : Vars) := by
          rcases hv with ⟨_, rfl⟩ | ⟨y, rfl⟩ <;> rfl
        refine a_name (Cx.wp_ok hc') rfl hpv ?_
        rw [hput]
        have hq1 := hb (a, b) (hsub _ (.head _))
        have hl1 := len_textStep (k := k) (text := text) (q := (a, b)) hk0 hk1 hq1
        have hl0 : text.length + 2000 * (cs'.length + 1) ≤ 200000 := hlen
        refine t_cons ?_
        repeat walk_at "w"
        refine sub_tup hr (by decide) (by decide) rfl ?_
        repeat walk_at "w"
        refine k_lens (by rw [sizeLine_eq]; omega) ?_
        repeat walk_at "w"
        refine b_rep (by rw [sizeLine_eq]; show 1 * _ ≤ _; omega) (by omega) ?_
        have m1 := mul1_le (x := " ") (n := a - text.length) rfl
        refine b_cat (by rw [sizeLine_eq]; omega) ?_
        repeat walk_at "w"
        refine b_cat (by rw [len_app, sizeLine_eq]; show _ + 1 ≤ _; omega) ?_
        repeat walk_at "w"
        refine k_str (by omega) ?_
        have m3 := len_digs hk0 hk1
        refine b_cat (by rw [len_app, len_app, sizeLine_eq]; show _ + 1 + _ ≤ _; omega) ?_
        repeat walk_at "w"
        refine ⟨H, PHeap.Le.refl _, p1, ?_⟩
        exact ih (textStep k text (a, b)) _ (fun q hq => hsub q (.tail _ hq)) (by omega) (.inr ⟨_, rfl⟩) hq
    refine loop ps cs "" _ hat (fun _ h => h) ?_ (.inl ⟨?_, rfl⟩) rfl
    · show 0 + 2000 * cs.length ≤ 200000
      omega
    · intro e; rw [e] at hcn; exact absurd hcn (by decide)
end
section
variable {G : Gl} {S : Scope} {c : Cx S} {H : PHeap} {vs : Vars} {E : PX → PHeap → Vars → Prop} {Q : PV → PHeap → Vars → Prop}
/-- the fields of a StringList -/
def slf (ld li : Addr) (par po : PV) : PO := .dict [("data", .ref ld), ("items", .ref li), ("parent", par), ("parent_offset", po)]
structure SL (H : PHeap) (a d ld li : Addr) (par po : PV) : Prop where
  i : H a = some (.inst 542 d)
  f : H d = some (slf ld li par po)
theorem len_sl (hG : G.Ok) (hF : GF G) (hc : c.Ok) (hd : c.dp < 800) {a d ld li : Addr} {par po : PV} {xs : List PV} (hs : SL H a d ld li par po) (hl : H ld = some (.list xs)) (hz : xs.length ≤ 10000)
    (h : Q (.int xs.length) H vs) : CallP G c (.ref 329) [.ref a] [] [] H vs Q E := by
  obtain ⟨t, ho⟩ := hF.d329.at_
  refine CodeP.call (k_def (bs := [("self", .ref a)]) (ns := ["self"]) hG hc ho hF.d329.code (by omega) ?_ rfl (by decide) (by decide) (by decide) (by decide) (by decide) (by decide) fun c' hc' e1' e2' e3' e4' e5' => ?_)
  · rintro _ _ (_ | ⟨h1, _ | _⟩) (_ | _) s X
    exact ⟨[("self", _)], BindsTo.of_eq (by rfl), rfl, .cons h1 .nil⟩
  · refine t_cons ?_
    repeat walk_at "w"
    refine g_inst hG (hF.a542 "data" (by decide)).1 hs.i hs.f rfl rfl ?_
    repeat walk_at "w"
    refine k_len hl (by rw [sizeLine_eq]; omega) ?_
    repeat walk_at "w"
    exact ret_same h
theorem bool_sl (hG : G.Ok) (hF : GF G) (hc : c.Ok) (hd : c.dp < 800) {a d ld li : Addr} {par po : PV} {xs : List PV} (hs : SL H a d ld li par po) (hl : H ld = some (.list xs)) (hz : xs.length ≤ 10000)
    (h : Q (.bool (decide ((xs.length : Int) > 0))) H vs) : CallP G c (.ref 336) [.ref a] [] [] H vs Q E := by
  obtain ⟨t, ho⟩ := hF.d336.at_
  refine CodeP.call (k_def (bs := [("self", .ref a)]) (ns := ["self"]) hG hc ho hF.d336.code (by omega) ?_ rfl (by decide) (by decide) (by decide) (by decide) (by decide) (by decide) fun c' hc' e1' e2' e3' e4' e5' => ?_)
  · rintro _ _ (_ | ⟨h1, _ | _⟩) (_ | _) s X
    exact ⟨[("self", _)], BindsTo.of_eq (by rfl), rfl, .cons h1 .nil⟩
  · refine t_cons ?_
    repeat walk_at "w"
    refine g_inst hG (hF.a542 "data" (by decide)).1 hs.i hs.f rfl rfl ?_
    repeat walk_at "w"
    refine k_len hl (by rw [sizeLine_eq]; omega) ?_
    repeat walk_at "w"
    exact ret_same h
theorem get_sl (hG : G.Ok) (hF : GF G) (hc : c.Ok) (hd : c.dp < 800) {a d ld li : Addr} {par po p : PV} {xs : List PV} {i : Int} (hs : SL H a d ld li par po) (hl : H ld = some (.list xs)) (hz : xs.length ≤ 10000)
    (hi : (0 ≤ i ∧ xs[i.toNat]? = some p ∧ i < 2 ^ 60) ∨ (i < 0 ∧ -(xs.length : Int) ≤ i ∧ xs[(i + xs.length).toNat]? = some p)) (h : Q p H vs) : CallP G c (.ref 350) [.ref a, .int i] [] [] H vs Q E := by
  obtain ⟨t, ho⟩ := hF.d350.at_
  refine CodeP.call (k_def (bs := [("self", .ref a), ("i", .int i)]) (ns := ["self", "i"]) hG hc ho hF.d350.code (by omega) ?_ rfl (by decide) (by decide) (by decide) (by decide) (by decide) (by decide) fun c' hc' e1' e2' e3' e4' e5' => ?_)
  · rintro _ _ (_ | ⟨h1, _ | ⟨h2, _ | _⟩⟩) (_ | _) s X
    exact ⟨[("self", _), ("i", _)], BindsTo.of_eq (by rfl), rfl, .cons h1 (.cons h2 .nil)⟩
  · refine t_cons ?_
    repeat walk_at "w"
    refine g_inst hG (hF.a542 "data" (by decide)).1 hs.i hs.f rfl rfl ?_
    repeat walk_at "w"
    rcases hi with ⟨g1, g2, g3⟩ | ⟨g1, g2, g3⟩
    · refine sub_list hl g1 (by omega) g2 ?_
      repeat walk_at "w"
      exact ret_same h
    · refine sub_neg hl g1 g2 (by omega) g3 ?_
      repeat walk_at "w"
      exact ret_same h
/-- an item of a StringList, set; it has no parent -/
theorem set_sl (hG : G.Ok) (hF : GF G) (hc : c.Ok) (hd : c.dp < 800) {a d ld li : Addr} {po p : PV} {xs : List PV} {i : Int} {j : Nat} (hs : SL H a d ld li .none po) (hl : H ld = some (.list xs)) (hz : xs.length ≤ 10000) (hld : ld ≠ a ∧ ld ≠ d)
    (hi : (0 ≤ i ∧ i < xs.length ∧ j = i.toNat) ∨ (i < 0 ∧ -(xs.length : Int) ≤ i ∧ j = (i + xs.length).toNat)) (h : Q .none (H.set ld (.list (xs.set j p))) vs) : CallP G c (.ref 357) [.ref a, .int i, p] [] [] H vs Q E := by
  obtain ⟨t, ho⟩ := hF.d357.at_
  refine CodeP.call (k_def (bs := [("self", .ref a), ("i", .int i), ("item", p)]) (ns := ["self", "i", "item"]) hG hc ho hF.d357.code (by omega) ?_ rfl (by decide) (by decide) (by decide) (by decide) (by decide) (by decide) fun c' hc' e1' e2' e3' e4' e5' => ?_)
  · rintro _ _ (_ | ⟨h1, _ | ⟨h2, _ | ⟨h3, _ | _⟩⟩⟩) (_ | _) s X
    exact ⟨[("self", _), ("i", _), ("item", _)], BindsTo.of_eq (by rfl), rfl, .cons h1 (.cons h2 (.cons h3 .nil))⟩
  · have i2 : (H.set ld (.list (xs.set j p))) a = some (.inst 542 d) := (PHeap.set_ne (Ne.symm hld.1)).trans hs.i
    have f2 : (H.set ld (.list (xs.set j p))) d = some (slf ld li .none po) := (PHeap.set_ne (Ne.symm hld.2)).trans hs.f
    refine t_cons ?_
    repeat walk_at "w"
    refine g_inst hG (hF.a542 "data" (by decide)).1 hs.i hs.f rfl rfl ?_
    repeat walk_at "w"
    rcases hi with ⟨g1, g2, rfl⟩ | ⟨g1, g2, rfl⟩
    · refine sto_list hl g1 (by omega) (by omega) ?_
      repeat walk_at "w"
      refine g_inst hG (hF.a542 "parent" (by decide)).1 i2 f2 rfl rfl ?_
      repeat walk_at "w"
      refine ⟨fun q => (nomatch q), fun _ => ?_⟩
      repeat walk_at "w"
      exact ⟨_, PHeap.Le.refl _, h⟩
    · refine sto_neg hl g1 g2 (by omega) ?_
      repeat walk_at "w"
      refine g_inst hG (hF.a542 "parent" (by decide)).1 i2 f2 rfl rfl ?_
      repeat walk_at "w"
      refine ⟨fun q => (nomatch q), fun _ => ?_⟩
      repeat walk_at "w"
      exact ⟨_, PHeap.Le.refl _, h⟩
theorem disc_sl (hG : G.Ok) (hF : GF G) (hc : c.Ok) (hd : c.dp < 800) {a d ld li : Addr} {par po : PV} (hs : SL H a d ld li par po) (h : Q .none (H.set d (slf ld li .none po)) vs) : CallP G c (.ref 474) [.ref a] [] [] H vs Q E := by
  obtain ⟨t, ho⟩ := hF.d474.at_
  refine CodeP.call (k_def (bs := [("self", .ref a)]) (ns := ["self"]) hG hc ho hF.d474.code (by omega) ?_ rfl (by decide) (by decide) (by decide) (by decide) (by decide) (by decide) fun c' hc' e1' e2' e3' e4' e5' => ?_)
  · rintro _ _ (_ | ⟨h1, _ | _⟩) (_ | _) s X
    exact ⟨[("self", _)], BindsTo.of_eq (by rfl), rfl, .cons h1 .nil⟩
  · refine t_cons ?_
    repeat walk_at "w"
    refine s_inst hG (hF.a542 "parent" (by decide)).2 hs.i hs.f (by simp) ?_
    repeat walk_at "w"
    exact ⟨_, PHeap.Le.refl _, h⟩
end
section
variable {G : Gl} {S : Scope} {c : Cx S} {H : PHeap} {vs : Vars} {E : PX → PHeap → Vars → Prop} {Q : PV → PHeap → Vars → Prop}
theorem tr_list {QB : Bool → PHeap → Vars → Prop} {a : Addr} {xs : List PV} (e : H a = some (.list xs)) (hz : xs.length ≤ 100000) (h : QB (!xs.isEmpty) H vs) : TruP G c (.ref a) H vs QB E := by
  rintro _ rfl s ⟨h₀, m, news, S0, V⟩
  obtain ⟨us, n, hm, hr, hl⟩ := S0.list e
  refine wpAny_truthy_list hl (by rw [List.size_toArray, hr.len]; omega) ?_
  have : us.toArray.isEmpty = xs.isEmpty := by
    cases hr with
    | nil => rfl
    | cons _ _ => rfl
  rw [this]
  exact ⟨_, H, vs, rfl, Sat.tok ⟨h₀, m, news, S0, V⟩, h⟩
/-- the columns of a line of dashes -/
inductive PC (x : Str) : Int → List (Int × Int) → Prop
  | stop {e} : Txt.find3 x "-" e < 0 → PC x e []
  | step {e b e2 rs} : b = Txt.find3 x "-" e → 0 ≤ b → e2 = (if Txt.find3 x " " b < 0 then (x.length : Int) else Txt.find3 x " " b) → PC x e2 rs → PC x e ((b, e2) :: rs)

theorem ColsAt.snoc {H : PHeap} {a b : Int} : ∀ {cs : List (Int × Int)} {ps : List PV}, ColsAt H ps (cs ++ [(a, b)]) → ∃ ps' r, ps = ps' ++ [.ref r] ∧ ColsAt H ps' cs ∧ H r = some (.tup [.int a, .int b])
  | [], _, .cons h .nil => ⟨[], _, rfl, .nil, h⟩
  | _ :: _, _, .cons h r => by
    obtain ⟨ps', r', rfl, h1, h2⟩ := ColsAt.snoc r
    exact ⟨_ :: ps', r', rfl, .cons h h1, h2⟩
theorem last_get {α : Type} {l : List α} {x : α} : (l ++ [x])[((-1 : Int) + ((l ++ [x]).length : Nat)).toNat]? = some x := by
  have : ((-1 : Int) + ((l ++ [x]).length : Nat)).toNat = l.length := by simp; omega
  rw [this]; simp
theorem last_set {α : Type} {l : List α} {x y : α} : (l ++ [x]).set ((-1 : Int) + ((l ++ [x]).length : Nat)).toNat y = l ++ [y] := by
  have : ((-1 : Int) + ((l ++ [x]).length : Nat)).toNat = l.length := by simp; omega
  rw [this]; simp
theorem pcols_spec (hG : G.Ok) (hF : GF G) (hc : c.Ok) (hd : c.dp < 700) (hh : c.hd = none) {p dp lc : Addr} {fs : Vars} {x : Str} {off : Int} {rs : List (Int × Int)} (hp1 : H p = some (.inst 237 dp)) (hp2 : H dp = some (.dict fs)) (hfc : fs.lookup ("columns" : Str) = some (.ref lc)) (hx : x.length ≤ 5000) (hrl : rs.length ≤ 1000) (ho0 : 0 ≤ off) (ho1 : off < 100000) (hR : PC x 0 rs)
    (hcase : (H lc = some (.list []) ∧ (∀ r H', PHeap.Le H H' → H r = none → Cols H' r rs → Q (.ref r) H' vs)) ∨
      (∃ ccs az cz init lb le be, Cols H lc ccs ∧ ccs.length ≤ 100 ∧ ccs[ccs.length - 1]? = some (az, cz) ∧ rs = init ++ [(lb, le)] ∧ fs.lookup ("border_end" : Str) = some (.int be) ∧ (le ≠ be → ∀ d H', PHeap.Le H H' → H' d = none → E (.own 149 d) (H'.set d (refus (msg1 (off + 1)) off)) vs) ∧
        (le = be → ∀ r H', PHeap.Le H H' → H r = none → Cols H' r (init ++ [(lb, cz)]) → Q (.ref r) H' vs))) : CallP G c (.ref 207) [.ref p, .str x, .int off] [] [] H vs Q E := by
  obtain ⟨t, ho⟩ := hF.d207.at_
  refine CodeP.call (k_def (bs := [("self", .ref p), ("line", .str x), ("offset", .int off)]) (ns := ["self", "line", "offset"]) hG hc ho hF.d207.code (by omega) ?_ rfl (by decide) (by decide) (by decide) (by decide) (by decide) (by decide) fun c' hc' e1' e2' e3' e4' e5' => ?_)
  · rintro _ _ (_ | ⟨h1, _ | ⟨h2, _ | ⟨h3, _ | _⟩⟩⟩) (_ | _) s X
    exact ⟨[("self", _), ("line", _), ("offset", _)], BindsTo.of_eq (by rfl), rfl, .cons h1 (.cons h2 (.cons h3 .nil))⟩
  · have hd' : c'.hd = none := e3'.trans hh
    refine t_cons ?_
    repeat walk_at "w"
    refine ⟨Nat.zero_le _, fun r hrn => ?_⟩
    repeat walk_at "w"
    refine t_while hc' e4' (fun n H1 vs1 => ∃ (rest acc : List (Int × Int)) (ps : List PV) (e : Int), n = rest.length ∧ PC x e rest ∧ rs = acc ++ rest ∧ H1 r = some (.list ps) ∧ ColsAt H1 ps acc ∧ PHeap.Le H H1 ∧
      (vs1 = ([("self", .ref p), ("line", .str x), ("offset", .int off), ("cols", .ref r), ("end", .int e)] : Vars) ∨ ∃ y, vs1 = ([("self", .ref p), ("line", .str x), ("offset", .int off), ("cols", .ref r), ("end", .int e), ("begin", y)] : Vars))) rs.length
      ⟨rs, [], [], 0, rfl, hR, rfl, PHeap.set_self, .nil, (PHeap.Le.refl H).set hrn, .inl rfl⟩ ?_
    rintro n H1 vs1 ⟨rest, acc, ps, e, rfl, hP, hrs, hr1, hat, hle, hv⟩
    have tail : ∀ ve vb, rest = [] → T G c' PF.R (execs ((dBody (methAt 13 4)).drop 3) c'.env) H1 ([("self", .ref p), ("line", .str x), ("offset", .int off), ("cols", .ref r), ("end", ve), ("begin", vb)] : Vars) (RetQ Q vs) (fun x H1 _ => E x H1 vs) := by
      intro ve vb hrest
      subst hrest
      rw [List.append_nil] at hrs
      subst hrs
      have g1 := hle _ _ hp1
      have g2 := hle _ _ hp2
      refine t_cons ?_
      repeat walk_at "w"
      refine g_inst hG (hF.a237 "columns" (by decide)).1 g1 g2 hfc rfl ?_
      repeat walk_at "w"
      rcases hcase with ⟨k1, k2⟩ | ⟨ccs, az, cz, init, lb, le, be, k1, k2, k3, k4, k5, k6, k7⟩
      · refine tr_list (hle _ _ k1) (by simp) ?_
        refine ⟨fun q => (nomatch q), fun _ => ?_⟩
        repeat walk_at "w"
        exact ret_same (k2 r H1 hle hrn ⟨ps, hr1, hat⟩)
      · obtain ⟨pcs, m1, m2⟩ := k1
        have hpos : 0 < ccs.length := by
          rcases Nat.eq_zero_or_pos ccs.length with e | e
          · rw [List.length_eq_zero_iff.mp e] at k3; simp at k3
          · exact e
        refine tr_list (hle _ _ m1) (by rw [m2.len]; omega) ?_
        refine ⟨fun _ => ?_, fun q => ?_⟩
        · repeat walk_at "w"
          refine ⟨_, rfl, ?_⟩
          rw [k4] at hat
          obtain ⟨pi, rl, rfl, hpi, hrl2⟩ := hat.snoc
          have hlen : -(((pi ++ [PV.ref rl]).length : Nat) : Int) ≤ -1 := by simp; omega
          have hpil : pi.length ≤ 1000 := by rw [hpi.len]; rw [k4, List.length_append] at hrl; omega
          refine sub_neg hr1 (by decide) hlen (by decide) last_get ?_
          repeat walk_at "w"
          refine sub_tup hrl2 (by decide) (by decide) rfl ?_
          repeat walk_at "w"
          refine g_inst hG (hF.a237 "border_end" (by decide)).1 g1 g2 k5 rfl ?_
          repeat walk_at "w"
          refine ⟨fun hb => ?_, fun hb => ?_⟩
          · have hne : le ≠ be := by simpa using hb
            repeat walk_at "w"
            refine t_raise hG hd' ?_
            repeat walk_at "w"
            refine b_pct1 (by omega) (by omega) ?_
            repeat walk_at "w"
            refine newexc_spec hG hF hc' (by omega) fun e d he hdn hde => ?_
            exact refus_end hF rfl he hde (k6 hne d H1 hle hdn)
          · have heq : le = be := by simpa using hb
            have hcols : Cols H lc ccs := ⟨pcs, m1, m2⟩
            obtain ⟨pcs2, rz, n1, n2, n3, n4⟩ := hcols.get k3
            rw [m1] at n1; cases n1
            repeat walk_at "w"
            refine ⟨_, rfl, ?_⟩
            refine sub_neg hr1 (by decide) hlen (by decide) last_get ?_
            repeat walk_at "w"
            refine sub_tup hrl2 (by decide) (by decide) rfl ?_
            repeat walk_at "w"
            refine g_inst hG (hF.a237 "columns" (by decide)).1 g1 g2 hfc rfl ?_
            repeat walk_at "w"
            refine ⟨_, rfl, ?_⟩
            refine sub_neg (hle _ _ m1) (by decide) (by omega) (by decide) (by rw [n4, show ((-1 : Int) + (ccs.length : Int)).toNat = ccs.length - 1 by omega]; exact n2) ?_
            repeat walk_at "w"
            refine sub_tup (hle _ _ n3) (by decide) (by decide) rfl ?_
            repeat walk_at "w"
            refine ⟨by show 2 ≤ _; rw [sizeLine_eq]; decide, fun d hdn => ?_⟩
            have hdr : r ≠ d := fun q => by rw [← q, hr1] at hdn; cases hdn
            have hr2 : (H1.set d (.tup [.int lb, .int cz])) r = some (.list (pi ++ [.ref rl])) := (PHeap.set_ne hdr).trans hr1
            repeat walk_at "w"
            refine ⟨_, rfl, ?_⟩
            refine sto_neg hr2 (by decide) hlen (by decide) ?_
            rw [last_set]
            repeat walk_at "w"
            refine ret_same ?_
            have hat2 : ColsAt (H1.set d (.tup [.int lb, .int cz])) (pi ++ [.ref d]) (init ++ [(lb, cz)]) := ColsAt.app (.cons PHeap.set_self .nil) (hpi.le ((PHeap.Le.refl H1).set hdn))
            exact k7 heq r _ ((hle.trans ((PHeap.Le.refl H1).set hdn)).set hrn) hrn ⟨_, PHeap.set_self, ColsAt.set hr2 hat2⟩
        · exfalso
          cases pcs with
          | nil => have := m2.len; simp at this; omega
          | cons _ _ => simp at q
    rcases hv with rfl | ⟨y, rfl⟩
    all_goals
      repeat walk_at "w"
      refine ⟨fun _ => ?_, fun q => (nomatch q)⟩
      repeat walk_at "w"
      refine m_str PySem.F.slot_str_find rfl ?_
      refine ⟨trivial, ?_⟩
      repeat walk_at "w"
      refine k_find3 ?_
      repeat walk_at "w"
      refine m_str PySem.F.slot_str_find rfl ?_
      refine ⟨trivial, ?_⟩
      repeat walk_at "w"
      refine k_find3 ?_
      repeat walk_at "w"
      refine ⟨fun hb => ?_, fun hb => ?_⟩
      · repeat walk_at "w"
        refine forn_brk ?_
        refine seq_next ?_
        refine tail _ _ ?_
        cases hP with
        | stop _ => rfl
        | step h1 h2 _ _ => have := of_decide_eq_true hb; omega
      · cases hP with
        | stop h => exact absurd (of_decide_eq_false hb) (by omega)
        | @step _ b e2 rs' h1 h2 h3 h4 =>
          subst h1
          repeat walk_at "w"
          refine ⟨fun hb2 => ?_, fun hb2 => ?_⟩
          · repeat walk_at "w"
            refine k_lens (by rw [sizeLine_eq]; omega) ?_
            repeat walk_at "w"
            have he : (x.length : Int) = e2 := by rw [h3, if_pos (of_decide_eq_true hb2)]
            refine m_list hr1 PySem.F.slot_list_append rfl ?_
            refine ⟨trivial, ?_⟩
            repeat walk_at "w"
            refine ⟨by show 2 ≤ _; rw [sizeLine_eq]; decide, fun d hdn => ?_⟩
            have hdr : r ≠ d := fun q => by rw [← q, hr1] at hdn; cases hdn
            repeat walk_at "w"
            have hr2 : (H1.set d (.tup [.int (Txt.find3 x "-" e), .int (x.length : Int)])) r = some (.list ps) := (PHeap.set_ne hdr).trans hr1
            have hacc : acc.length ≤ 1000 := by rw [hrs, List.length_append] at hrl; omega
            refine k_append hr2 (by rw [hat.len, sizeLine_eq]; omega) ?_
            repeat walk_at "w"
            have hat2 : ColsAt (H1.set d (.tup [.int (Txt.find3 x "-" e), .int (x.length : Int)])) (ps ++ [.ref d]) (acc ++ [(Txt.find3 x "-" e, (x.length : Int))]) := ColsAt.app (.cons PHeap.set_self .nil) (hat.le ((PHeap.Le.refl H1).set hdn))
            exact ⟨_, PHeap.Le.refl _, rs'.length, by simp, rs', acc ++ [(Txt.find3 x "-" e, (x.length : Int))], ps ++ [.ref d], (x.length : Int), rfl, he ▸ h4, by rw [hrs, List.append_assoc, he]; rfl, PHeap.set_self, ColsAt.set hr2 hat2, (hle.trans ((PHeap.Le.refl H1).set hdn)).set hrn, .inr ⟨_, rfl⟩⟩
          · repeat walk_at "w"
            have he : (Txt.find3 x " " (Txt.find3 x "-" e)) = e2 := by rw [h3, if_neg (of_decide_eq_false hb2)]
            refine m_list hr1 PySem.F.slot_list_append rfl ?_
            refine ⟨trivial, ?_⟩
            repeat walk_at "w"
            refine ⟨by show 2 ≤ _; rw [sizeLine_eq]; decide, fun d hdn => ?_⟩
            have hdr : r ≠ d := fun q => by rw [← q, hr1] at hdn; cases hdn
            repeat walk_at "w"
            have hr2 : (H1.set d (.tup [.int (Txt.find3 x "-" e), .int (Txt.find3 x " " (Txt.find3 x "-" e))])) r = some (.list ps) := (PHeap.set_ne hdr).trans hr1
            have hacc : acc.length ≤ 1000 := by rw [hrs, List.length_append] at hrl; omega
            refine k_append hr2 (by rw [hat.len, sizeLine_eq]; omega) ?_
            repeat walk_at "w"
            have hat2 : ColsAt (H1.set d (.tup [.int (Txt.find3 x "-" e), .int (Txt.find3 x " " (Txt.find3 x "-" e))])) (ps ++ [.ref d]) (acc ++ [(Txt.find3 x "-" e, (Txt.find3 x " " (Txt.find3 x "-" e)))]) := ColsAt.app (.cons PHeap.set_self .nil) (hat.le ((PHeap.Le.refl H1).set hdn))
            exact ⟨_, PHeap.Le.refl _, rs'.length, by simp, rs', acc ++ [(Txt.find3 x "-" e, (Txt.find3 x " " (Txt.find3 x "-" e)))], ps ++ [.ref d], (Txt.find3 x " " (Txt.find3 x "-" e)), rfl, he ▸ h4, by rw [hrs, List.append_assoc, he]; rfl, PHeap.set_self, ColsAt.set hr2 hat2, (hle.trans ((PHeap.Le.refl H1).set hdn)).set hrn, .inr ⟨_, rfl⟩⟩
end
section
variable {G : Gl} {S : Scope} {c : Cx S} {H : PHeap} {vs : Vars} {E : PX → PHeap → Vars → Prop} {Q : PV → PHeap → Vars → Prop}
/-- the columns of a row, aligned -/
def align (ccs : List (Int × Int)) : List (Int × Int) → Nat → Option (List Nat)
  | [], _ => some []
  | (s, e) :: r, i => match ccs[i]? with
    | some (s', _) => if s' = s ∧ ((ccs.drop i).map (·.2)).contains e = true then (align ccs r (i + ((ccs.drop i).map (·.2)).idxOf e + 1)).map (((ccs.drop i).map (·.2)).idxOf e :: ·) else none
    | none => none
/-- the cells of a row, empty -/
inductive RowAt (H : PHeap) (off : Int) : List PV → List Nat → Prop
  | nil : RowAt H off [] []
  | cons {a l : Addr} {k ps ks} : H a = some (.list [.int 0, .int (k : Nat), .int off, .ref l]) → H l = some (.list []) → RowAt H off ps ks → RowAt H off (.ref a :: ps) (k :: ks)
theorem exA : isSubtype (.type "AssertionError") (.type "BaseException") = pure true := by rw [isSubtype_type]; kernel_rfl
theorem exI : isSubtype (.type "IndexError") (.type "BaseException") = pure true := by rw [isSubtype_type]; kernel_rfl
theorem ntA : isSubtype (.type ((Manifest.find? "AssertionError").elim "type" fun x => x.metatype)) (.type "tuple") = pure false := by rw [isSubtype_type]; kernel_rfl
theorem ntI : isSubtype (.type ((Manifest.find? "IndexError").elim "type" fun x => x.metatype)) (.type "tuple") = pure false := by rw [isSubtype_type]; kernel_rfl
theorem sAA : isSubtype (.type "AssertionError") (.type "AssertionError") = pure true := by rw [isSubtype_type]; kernel_rfl
theorem sAI : isSubtype (.type "AssertionError") (.type "IndexError") = pure false := by rw [isSubtype_type]; kernel_rfl
theorem sIA : isSubtype (.type "IndexError") (.type "AssertionError") = pure false := by rw [isSubtype_type]; kernel_rfl
theorem sII : isSubtype (.type "IndexError") (.type "IndexError") = pure true := by rw [isSubtype_type]; kernel_rfl
theorem RowAt.app {H : PHeap} {off : Int} {ps2 ks2} (h2 : RowAt H off ps2 ks2) : ∀ {ps ks}, RowAt H off ps ks → RowAt H off (ps ++ ps2) (ks ++ ks2)
  | _, _, .nil => h2
  | _, _, .cons h h' r => .cons h h' (RowAt.app h2 r)
theorem RowAt.len {H : PHeap} {off : Int} : ∀ {ps ks}, RowAt H off ps ks → ps.length = ks.length
  | _, _, .nil => rfl
  | _, _, .cons _ _ r => by simp [r.len]
theorem RowAt.le {H H' : PHeap} {off : Int} (hl : H.Le H') : ∀ {ps ks}, RowAt H off ps ks → RowAt H' off ps ks
  | _, _, .nil => .nil
  | _, _, .cons h h' r => .cons (hl _ _ h) (hl _ _ h') (r.le hl)
theorem del_set' {H : PHeap} {a : Addr} {o : PO} : (H.set a o).del a = H.del a := by
  funext b
  unfold PHeap.del PHeap.set
  by_cases hb : b = a <;> simp [hb]
theorem del_le' {H H' : PHeap} {a : Addr} (h : H.Le H') : (H.del a).Le (H'.del a) := fun b o e => by
  unfold PHeap.del at e ⊢
  split at e
  · cases e
  · rename_i hb; rw [if_neg hb]; exact h b o e
theorem del_get {H : PHeap} {a b : Addr} {o : PO} (h : b ≠ a) (e : H b = some o) : (H.del a) b = some o := by
  unfold PHeap.del; rw [if_neg h]; exact e
theorem idxOf_first {l : List Int} {b : Int} : ∀ {j : Nat}, l[j]? = some b → (∀ k, k < j → l[k]? ≠ some b) → l.idxOf b = j := by
  induction l with
  | nil => intro j h; simp at h
  | cons x r ih =>
    intro j h hno
    cases j with
    | zero => simp at h; subst h; simp
    | succ j =>
      have hx : x ≠ b := fun e => hno 0 (Nat.succ_pos _) (by simp [e])
      rw [List.idxOf_cons, beq_false_of_ne hx]
      show r.idxOf b + 1 = _
      rw [ih (by simpa using h) fun k hk => by have := hno (k + 1) (by omega); simpa using this]
theorem RowAt.mem {H : PHeap} {off : Int} {a : Addr} : ∀ {ps ks}, RowAt H off ps ks → PV.ref a ∈ ps → ∃ o, H a = some o
  | _, _, .nil, h => by cases h
  | _, _, .cons h1 _ r, h => by
    rcases List.mem_cons.mp h with e | h
    · cases e; exact ⟨_, h1⟩
    · exact RowAt.mem r h
theorem nodup_snoc {l : List PV} {x : PV} (h : l.Nodup) (hx : x ∉ l) : (l ++ [x]).Nodup := by
  induction l with
  | nil => simp
  | cons y r ih =>
    rw [List.nodup_cons] at h
    rw [List.mem_cons, not_or] at hx
    rw [List.cons_append, List.nodup_cons]
    refine ⟨fun hm => ?_, ih h.2 hx.2⟩
    rcases List.mem_append.mp hm with hm | hm
    · exact h.1 hm
    · exact hx.1 (List.mem_singleton.mp hm).symm
/-- no two are one, and all are new -/
def NewIn (H : PHeap) (ps : List PV) : Prop := ps.Nodup ∧ ∀ a, PV.ref a ∈ ps → H a = none
theorem init_spec (hG : G.Ok) (hF : GF G) (hc : c.Ok) (hd : c.dp < 700) (hh : c.hd = none) {p dp lc q : Addr} {fs : Vars} {ccs cs : List (Int × Int)} {off : Int} (hp1 : H p = some (.inst 237 dp)) (hp2 : H dp = some (.dict fs)) (hfc : fs.lookup ("columns" : Str) = some (.ref lc)) (hcc : Cols H lc ccs) (hcl : ccs.length ≤ 100) (hcs : Cols H q cs) (hcsl : cs.length ≤ 100) (ho0 : 0 ≤ off) (ho1 : off < 100000)
    (h1 : ∀ ks, align ccs cs 0 = some ks → ∀ r H' ps, PHeap.Le H H' → H r = none → H' r = some (.list ps) → RowAt H' off ps ks → NewIn H ps → Q (.ref r) H' vs)
    (h2 : align ccs cs 0 = none → ∀ d H', PHeap.Le H H' → H' d = none → E (.own 149 d) (H'.set d (refus (msg2 (off + 2)) (off + 1))) vs) : CallP G c (.ref 214) [.ref p, .ref q, .int off] [] [] H vs Q E := by
  obtain ⟨t, ho⟩ := hF.d214.at_
  refine CodeP.call (k_def (bs := [("self", .ref p), ("colspec", .ref q), ("offset", .int off)]) (ns := ["self", "colspec", "offset"]) hG hc ho hF.d214.code (by omega) ?_ rfl (by decide) (by decide) (by decide) (by decide) (by decide) (by decide) fun c' hc' e1' e2' e3' e4' e5' => ?_)
  · rintro _ _ (_ | ⟨h1, _ | ⟨h2, _ | ⟨h3, _ | _⟩⟩⟩) (_ | _) s X
    exact ⟨[("self", _), ("colspec", _), ("offset", _)], BindsTo.of_eq (by rfl), rfl, .cons h1 (.cons h2 (.cons h3 .nil))⟩
  · have hd' : c'.hd = none := e3'.trans hh
    obtain ⟨qs, hqs, hat⟩ := hcs
    refine t_cons ?_
    repeat walk_at "w"
    refine ⟨Nat.zero_le _, fun r hrn => ?_⟩
    repeat walk_at "w"
    with_reducible refine' t_for hc' e4' hd' ?f ?_
    case f => k_dflt (exact fun _ => rfl)
    repeat walk_at "w"
    have hqr : q ≠ r := fun e => by rw [← e, hqs] at hrn; cases hrn
    refine iter_list ((PHeap.set_ne hqr).trans hqs) ⟨(PHeap.set_ne hqr).trans hqs, ?_⟩
    have loop : ∀ (qs' : List PV) (cs' : List (Int × Int)), ColsAt H qs' cs' → ∀ (i : Nat) (acc : List Nat) (ps : List PV) (vs1 : Vars) (H1 : PHeap), PHeap.Le H H1 → H1 q = some (.list qs) → H1 r = some (.list ps) → RowAt (H1.del r) off ps acc → NewIn H ps → i ≤ 1000 → acc.length + cs'.length ≤ 100 →
        align ccs cs 0 = (align ccs cs' i).map (acc ++ ·) →
        (vs1 = ([("self", .ref p), ("colspec", .ref q), ("offset", .int off), ("i", .int i), ("cells", .ref r)] : Vars) ∨ ∃ y1 y2 y3, vs1 = ([("self", .ref p), ("colspec", .ref q), ("offset", .int off), ("i", .int i), ("cells", .ref r), ("start", y1), ("end", y2), ("morecols", y3)] : Vars)) →
        ForP G c' (fun H => H q = some (.list qs)) (forT (stm (dBody (methAt 13 5)) 2)) (forB (stm (dBody (methAt 13 5)) 2)) (Seq G c' ((dBody (methAt 13 5)).drop 3) (RetQ Q vs) (fun x H1 _ => E x H1 vs)) (fun x H1 _ => E x H1 vs) (qs'.map .val) H1 vs1 := by
      intro qs' cs' hat'
      induction hat' with
      | nil =>
        intro i acc ps vs1 H1 hle hq1 hr1 hrow hnew hi hacc hal hv
        have hal' : align ccs cs 0 = some acc := by rw [hal]; simp [align]
        rcases hv with rfl | ⟨y1, y2, y3, rfl⟩
        all_goals
          refine t_cons ?_
          repeat walk_at "w"
          exact ret_same (h1 acc hal' r H1 ps hle hrn hr1 (hrow.le PHeap.del_le) hnew)
      | @cons t0 a b qs' cs' hr0 hat' ih =>
        intro i acc ps vs1 H1 hle hq1 hr1 hrow hnew hi hacc hal hv P v hpv
        cases hpv
        have hput : putV "end" (.int b) (putV "start" (.int a) vs1) = ([("self", .ref p), ("colspec", .ref q), ("offset", .int off), ("i", .int i), ("cells", .ref r), ("start", .int a), ("end", .int b)] : Vars) ∨ ∃ y3, putV "end" (.int b) (putV "start" (.int a) vs1) = ([("self", .ref p), ("colspec", .ref q), ("offset", .int off), ("i", .int i), ("cells", .ref r), ("start", .int a), ("end", .int b), ("morecols", y3)] : Vars) := by
          rcases hv with rfl | ⟨y1, y2, y3, rfl⟩
          · exact .inl rfl
          · exact .inr ⟨y3, rfl⟩
        refine a_unpack2 (Cx.wp_ok hc') hd' (hle _ _ hr0) rfl rfl ?_
        generalize putV "end" (.int b) (putV "start" (.int a) vs1) = vs2 at hput
        have body : T G (c'.wp P) PF.R (execs ((forB (stm (dBody (methAt 13 5)) 2)).drop 1) (c'.wp P).env) H1 ([("self", .ref p), ("colspec", .ref q), ("offset", .int off), ("i", .int i), ("cells", .ref r), ("start", .int a), ("end", .int b), ("morecols", .int 0)] : Vars)
            (ForN (fun H2 vs2 => H2 q = some (.list qs) ∧ ForP G c' (fun H => H q = some (.list qs)) (forT (stm (dBody (methAt 13 5)) 2)) (forB (stm (dBody (methAt 13 5)) 2)) (Seq G c' ((dBody (methAt 13 5)).drop 3) (RetQ Q vs) (fun x H1 _ => E x H1 vs)) (fun x H1 _ => E x H1 vs) (qs'.map .val) H2 vs2) (Seq G c' ((dBody (methAt 13 5)).drop 3) (RetQ Q vs) (fun x H1 _ => E x H1 vs))) (fun x H1 _ => E x H1 vs) := by
          have g1 := hle _ _ hp1
          have g2 := hle _ _ hp2
          obtain ⟨pcs, m1, m2⟩ := id hcc
          have m1' := hle _ _ m1
          refine t_cons ?_
          refine t_try2 (T1 := "AssertionError") (T2 := "IndexError") (Cx.wp_ok hc') e4' exA ntA exI ntI ?_
          refine t_cons ?_
          refine t_assertx hd' ?_
          repeat walk_at "w"
          refine g_inst hG (hF.a237 "columns" (by decide)).1 g1 g2 hfc rfl ?_
          repeat walk_at "w"
          by_cases hil : i < ccs.length
          · obtain ⟨a', b', hab⟩ : ∃ a' b', ccs[i]? = some (a', b') := ⟨ccs[i].1, ccs[i].2, by simp [hil]⟩
            obtain ⟨ps2, r0, n1, n2, n3, n4⟩ := hcc.get hab
            rw [m1] at n1; cases n1
            refine sub_list m1' (by omega) (by omega) (by simpa using n2) ?_
            repeat walk_at "w"
            refine sub_tup (hle _ _ n3) (by decide) (by decide) rfl ?_
            repeat walk_at "w"
            refine ⟨fun hq => ?_, fun hq => ?_⟩
            · have haa : a = a' := by simpa using hq
              subst haa
              repeat walk_at "w"
              refine t_while (Cx.wp_ok hc') e4' (fun n H2 vs2 => ∃ j : Nat, n = ccs.length + 1 - (i + j) ∧ i + j ≤ ccs.length ∧ (∀ k, k < j → ((ccs.drop i).map (·.2))[k]? ≠ some b) ∧ H2 = H1 ∧
                vs2 = ([("self", .ref p), ("colspec", .ref q), ("offset", .int off), ("i", .int (i + j : Nat)), ("cells", .ref r), ("start", .int a), ("end", .int b), ("morecols", .int j)] : Vars)) (ccs.length + 1 - i)
                ⟨0, rfl, by omega, fun k hk => absurd hk (Nat.not_lt_zero _), rfl, rfl⟩ ?_
              rintro n2 H2 vs2 ⟨j, rfl, hij, hno, rfl, rfl⟩
              repeat walk_at "w"
              refine g_inst hG (hF.a237 "columns" (by decide)).1 g1 g2 hfc rfl ?_
              repeat walk_at "w"
              by_cases hjl : i + j < ccs.length
              · obtain ⟨aj, bj, habj⟩ : ∃ a' b', ccs[i + j]? = some (a', b') := ⟨ccs[i + j].1, ccs[i + j].2, by simp [hjl]⟩
                obtain ⟨ps3, r3, u1, u2, u3, u4⟩ := hcc.get habj
                rw [m1] at u1; cases u1
                refine sub_list m1' (by omega) (by omega) (by rw [show ((i + j : Nat) : Int).toNat = i + j by omega]; exact u2) ?_
                repeat walk_at "w"
                refine sub_tup (hle _ _ u3) (by decide) (by decide) rfl ?_
                repeat walk_at "w"
                have hget : ((ccs.drop i).map (·.2))[j]? = some bj := by simp [habj]
                refine ⟨fun hq => ?_, fun hq => ?_⟩
                · have hne : b ≠ bj := by simpa using hq
                  repeat walk_at "w"
                  refine ⟨H2, PHeap.Le.refl _, ccs.length + 1 - (i + (j + 1)), by omega, j + 1, rfl, by omega, fun k hk => ?_, rfl, ?_⟩
                  · by_cases hkj : k = j
                    · subst hkj; rw [hget]; intro e; exact hne (Option.some.inj e).symm
                    · exact hno k (by omega)
                  · rw [show ((i + (j + 1) : Nat) : Int) = ((i + j : Nat) : Int) + 1 by omega, show ((j + 1 : Nat) : Int) = (j : Int) + 1 by omega]
                    rfl
                · have heq : b = bj := by simpa using hq
                  have hidx : ((ccs.drop i).map (·.2)).idxOf b = j := idxOf_first (by rw [hget, heq]) hno
                  have hcon : ((ccs.drop i).map (·.2)).contains b = true := by
                    rw [List.contains_iff_mem]
                    exact List.mem_of_getElem? (by rw [hget, heq])
                  have hal2 : align ccs cs 0 = (align ccs cs' (i + j + 1)).map ((acc ++ [j]) ++ ·) := by
                    rw [hal]
                    conv => lhs; unfold align
                    rw [hab]
                    simp only [hcon, and_self, if_true, hidx]
                    cases align ccs cs' (i + j + 1) <;> simp
                  repeat walk_at "w"
                  refine m_list hr1 PySem.F.slot_list_append rfl ?_
                  refine ⟨trivial, ?_⟩
                  repeat walk_at "w"
                  refine ⟨Nat.zero_le _, fun l hln => ?_⟩
                  repeat walk_at "w"
                  refine ⟨by show 4 ≤ _; rw [sizeLine_eq]; decide, fun d hdn => ?_⟩
                  repeat walk_at "w"
                  have hrl : r ≠ l := fun e => by rw [← e, hr1] at hln; cases hln
                  have hld : l ≠ d := fun e => by rw [← e, PHeap.set_self] at hdn; cases hdn
                  have hrd : r ≠ d := fun e => by rw [← e, PHeap.set_ne hrl, hr1] at hdn; cases hdn
                  have hdn2 : H2 d = none := by rw [PHeap.set_ne (Ne.symm hld)] at hdn; exact hdn
                  have hr2 : ((H2.set l (.list [])).set d (.list [.int 0, .int j, .int off, .ref l])) r = some (.list ps) := (PHeap.set_ne hrd).trans ((PHeap.set_ne hrl).trans hr1)
                  have le2 : PHeap.Le H2 ((H2.set l (.list [])).set d (.list [.int 0, .int j, .int off, .ref l])) := ((PHeap.Le.refl H2).set hln).set hdn2
                  have hpsl : ps.length ≤ 200 := by have := hrow.len; omega
                  refine k_append hr2 (by rw [sizeLine_eq]; omega) ?_
                  repeat walk_at "w"
                  have hrow2 : RowAt (((H2.set l (.list [])).set d (.list [.int 0, .int j, .int off, .ref l])).del r) off (ps ++ [.ref d]) (acc ++ [j]) :=
                    RowAt.app (.cons (l := l) (del_get (Ne.symm hrd) PHeap.set_self) (del_get (Ne.symm hrl) ((PHeap.set_ne hld).trans PHeap.set_self)) .nil) (hrow.le (del_le' le2))
                  have hnew2 : NewIn H (ps ++ [.ref d]) := by
                    refine ⟨nodup_snoc hnew.1 fun hm => ?_, fun a ha => ?_⟩
                    · obtain ⟨o, ho⟩ := hrow.mem hm
                      have := PHeap.del_le _ _ ho
                      rw [hdn2] at this; cases this
                    · rcases List.mem_append.mp ha with ha | ha
                      · exact hnew.2 a ha
                      · have e : a = d := by have := List.mem_singleton.mp ha; cases this; rfl
                        subst e
                        cases q : H a with
                        | none => rfl
                        | some o => rw [hle _ _ q] at hdn2; cases hdn2
                  refine ⟨_, PHeap.Le.refl _, (PHeap.set_ne hqr).trans (le2 _ _ hq1), ?_⟩
                  refine ih (i + j + 1) (acc ++ [j]) (ps ++ [.ref d]) _ _ ?_ ((PHeap.set_ne hqr).trans (le2 _ _ hq1)) PHeap.set_self (by rw [del_set']; exact hrow2) hnew2 (by omega) (by simp at hacc ⊢; omega) hal2 ?_
                  · exact (hle.trans le2).set hrn
                  · refine .inr ⟨.int a, .int b, .int j, ?_⟩
                    rw [show ((i + j + 1 : Nat) : Int) = ((i + j : Nat) : Int) + 1 by omega]
                    rfl
              · have hij2 : i + j = ccs.length := by omega
                have hnone : align ccs ((a, b) :: cs') i = none := by
                  have hnc : ((ccs.drop i).map (·.2)).contains b = false := by
                    rw [Bool.eq_false_iff]
                    intro hc
                    rw [List.contains_iff_mem] at hc
                    obtain ⟨k, hk, hk2⟩ := List.mem_iff_getElem.mp hc
                    refine hno k ?_ (by rw [List.getElem?_eq_getElem hk, hk2])
                    simp at hk
                    omega
                  unfold align
                  rw [hab]
                  simp only [hnc]
                  simp
                refine sub_listx hd' m1' (by omega) (by omega) (by rw [m2.len]; omega) ?_
                refine ⟨⟨"IndexError", false, true, rfl, sIA, sII, rfl⟩, fun e => ⟨fun P2 => ?_, fun oe ws hoe hoe2 hpl => ?_⟩⟩
                · show T G (((c'.wp P).wp P2).hand e) PV.R (eval _ (((c'.wp P).wp P2).hand e).env) H2 _ _ _
                  repeat walk_at "w"
                  exact ⟨by show 2 ≤ _; rw [sizeLine_eq]; decide, fun d hdn => ⟨d, rfl, hdn, rfl, rfl⟩⟩
                · refine t_cons ?_
                  refine t_raiseh hG (eh := e) (oh := oe) (wh := ws) rfl (by show List.lookup e ((e, oe) :: _) = _; simp [List.lookup]) hoe hoe2 ?_
                  repeat walk_at "w"
                  refine b_pct2 (by omega) (by omega) ?_
                  repeat walk_at "w"
                  refine newexc_spec hG hF (Cx.hand_ok (Cx.wp_ok (Cx.wp_ok hc'))) (by show c'.dp < 800; omega) fun e1 d he hdn hde => ?_
                  exact refus_end hF rfl he hde (h2 (by rw [hal, hnone]; rfl) d H2 hle hdn)
            · have hnone : align ccs ((a, b) :: cs') i = none := by
                have hne : a ≠ a' := by simpa using hq
                unfold align
                rw [hab]
                simp [Ne.symm hne]
              refine ⟨⟨"AssertionError", true, false, rfl, sAA, sAI, rfl⟩, fun e => ⟨fun P2 => ?_, fun oe ws hoe hoe2 hpl => ?_⟩⟩
              · show T G (((c'.wp P).wp P2).hand e) PV.R (eval _ (((c'.wp P).wp P2).hand e).env) H1 _ _ _
                repeat walk_at "w"
                exact ⟨by show 2 ≤ _; rw [sizeLine_eq]; decide, fun d hdn => ⟨d, rfl, hdn, rfl, rfl⟩⟩
              · refine t_cons ?_
                refine t_raiseh hG (eh := e) (oh := oe) (wh := ws) rfl (by show List.lookup e ((e, oe) :: _) = _; simp [List.lookup]) hoe hoe2 ?_
                repeat walk_at "w"
                refine b_pct2 (by omega) (by omega) ?_
                repeat walk_at "w"
                refine newexc_spec hG hF (Cx.hand_ok (Cx.wp_ok (Cx.wp_ok hc'))) (by show c'.dp < 800; omega) fun e1 d he hdn hde => ?_
                exact refus_end hF rfl he hde (h2 (by rw [hal, hnone]; rfl) d H1 hle hdn)
          · have hnone : align ccs ((a, b) :: cs') i = none := by
              unfold align
              rw [List.getElem?_eq_none_iff.mpr (by omega)]
            refine sub_listx hd' m1' (by omega) (by omega) (by rw [m2.len]; omega) ?_
            refine ⟨⟨"IndexError", false, true, rfl, sIA, sII, rfl⟩, fun e => ⟨fun P2 => ?_, fun oe ws hoe hoe2 hpl => ?_⟩⟩
            · show T G (((c'.wp P).wp P2).hand e) PV.R (eval _ (((c'.wp P).wp P2).hand e).env) H1 _ _ _
              repeat walk_at "w"
              exact ⟨by show 2 ≤ _; rw [sizeLine_eq]; decide, fun d hdn => ⟨d, rfl, hdn, rfl, rfl⟩⟩
            · refine t_cons ?_
              refine t_raiseh hG (eh := e) (oh := oe) (wh := ws) rfl (by show List.lookup e ((e, oe) :: _) = _; simp [List.lookup]) hoe hoe2 ?_
              repeat walk_at "w"
              refine b_pct2 (by omega) (by omega) ?_
              repeat walk_at "w"
              refine newexc_spec hG hF (Cx.hand_ok (Cx.wp_ok (Cx.wp_ok hc'))) (by show c'.dp < 800; omega) fun e1 d he hdn hde => ?_
              exact refus_end hF rfl he hde (h2 (by rw [hal, hnone]; rfl) d H1 hle hdn)
        rcases hput with rfl | ⟨y3, rfl⟩
        all_goals
          refine t_cons ?_
          with_reducible refine' t_assign ?ta ?tb ?tv ?_
          case ta => exact Cx.wp_ok hc'
          case tb => k_dflt (exact rfl)
          case tv => k_dflt (exact rfl)
          refine t_int ?_
          exact body
    refine loop qs cs hat 0 [] [] _ _ ((PHeap.Le.refl H).set hrn) ((PHeap.set_ne hqr).trans hqs) PHeap.set_self .nil ⟨List.nodup_nil, fun _ h => nomatch h⟩ (by decide) (by simpa using hcsl) ?_ (.inl rfl)
    cases align ccs cs 0 <;> rfl
end
section
variable {G : Gl} {S : Scope} {c : Cx S} {H : PHeap} {vs : Vars} {E : PX → PHeap → Vars → Prop} {Q : PV → PHeap → Vars → Prop}
/-- vs' is held in vs -/
def Sub (vs' vs : Vars) : Prop := ∀ y p, vs'.lookup y = some p → vs.lookup y = some p
theorem sub_nil {vs : Vars} : Sub [] vs := fun _ _ e => by cases e
theorem sub_cons {x : Str} {p : PV} {r vs : Vars} (h1 : vs.lookup x = some p) (h2 : Sub r vs) : Sub ((x, p) :: r) vs := fun y q e => by
  rw [List.lookup_cons] at e
  cases hq : y == x with
  | true =>
    rw [hq] at e
    cases e
    have : y = x := by simpa using hq
    rw [this]; exact h1
  | false => rw [hq] at e; exact h2 y q e
theorem sub_refl {vs : Vars} : Sub vs vs := fun _ _ e => e
theorem sub_put {x : Str} {p : PV} {vs vs' : Vars} (h : Sub vs' vs) : Sub (putV x p vs') (putV x p vs) := fun y q e => by
  rw [putV_lookup] at e ⊢
  split at e
  · rename_i hy; rw [if_pos hy]; exact e
  · rename_i hy; rw [if_neg hy]; exact h y q e

theorem t_vars {S : Scope} {c : Cx S} {α β : Type} {R : β → α → Prop} {t : Sem α} {H : PHeap} {vs vs' : Vars} {Q : β → PHeap → Vars → Prop} {E : PX → PHeap → Vars → Prop} (hv : ∀ y p, vs'.lookup y = some p → vs.lookup y = some p) (h : T G c R t H vs' Q E) : T G c R t H vs Q E := fun s ⟨h₀, m, news, S0, V⟩ =>
  h s ⟨h₀, m, news, S0, fun y p e => V y p (hv y p e)⟩
theorem t_only {S : Scope} {c : Cx S} {α β : Type} {R : β → α → Prop} {t : Sem α} {H : PHeap} {vs : Vars} {x : Str} {p : PV} {Q : β → PHeap → Vars → Prop} {E : PX → PHeap → Vars → Prop} (h : T G c R t H [(x, p)] Q E) : T G c R t H (putV x p vs) Q E :=
  t_vars (fun y q e => by
    rw [List.lookup_cons] at e
    rw [putV_lookup]
    cases hq : y == x with
    | true => rw [hq] at e; cases e; rw [if_pos (by simpa using hq)]
    | false => rw [hq] at e; cases e) h
/-- the first line with words from a to b -/
def mrow (a b : Int) : List Str → Nat → Option Nat
  | [], _ => none
  | x :: r, n => if (Txt.strip (ssl x (some a) (some b))).length = 0 then mrow a b r (n + 1) else some n
/-- the first line with words in a margin, column by column -/
def margs (xs : List Str) : List (Int × Int) → Option Nat
  | [] => none
  | [_] => none
  | (_, e) :: (s, e') :: r => match mrow e s xs 0 with
    | some n => some n
    | none => margs xs ((s, e') :: r)
/-- the ends of the words beyond the last column -/
def byd (b e : Int) : List Str → List Int
  | [] => []
  | x :: r => if (Txt.strip (ssl x (some e) none)).length = 0 then byd b e r else (b + ((Txt.rstrip (ssl x (some b) none)).length : Nat)) :: byd b e r
def reach (m : Int) (l : List Int) : Int := l.foldl max m
theorem margs_drop {xs : List Str} {cs : List (Int × Int)} {i : Nat} {a e s e' : Int} (h1 : cs[i]? = some (a, e)) (h2 : cs[i + 1]? = some (s, e')) : margs xs (cs.drop i) = match mrow e s xs 0 with | some n => some n | none => margs xs (cs.drop (i + 1)) := by
  have g1 : cs.drop i = (a, e) :: cs.drop (i + 1) := by
    have hlt : i < cs.length := (List.getElem?_eq_some_iff.mp h1).1
    rw [List.drop_eq_getElem_cons hlt, (List.getElem?_eq_some_iff.mp h1).2]
  have g2 : cs.drop (i + 1) = (s, e') :: cs.drop (i + 2) := by
    have hlt : i + 1 < cs.length := (List.getElem?_eq_some_iff.mp h2).1
    rw [List.drop_eq_getElem_cons hlt, (List.getElem?_eq_some_iff.mp h2).2]
  rw [g1, g2]
  rfl
theorem ssl_top {x : Str} {e k : Int} (hk : (x.length : Int) ≤ k) : ssl x (some e) (some k) = ssl x (some e) none := by
  have hx : x.length = x.cps.toList.length := by simp [Str.length]
  have : kms_hi (some k) x.cps.toList.length = kms_hi none x.cps.toList.length := by
    rw [← hx]
    simp only [kms_hi]
    split <;> omega
  unfold ssl lsl
  rw [this]

abbrev ckV (p ld q : Addr) (first lastI i a e s n : Int) : Vars := [("self", .ref p), ("lines", .ref ld), ("first_line", .int first), ("columns", .ref q), ("lastcol", .int lastI), ("i", .int i), ("start", .int a), ("end", .int e), ("nextstart", .int s), ("offset", .int n)]
abbrev ckW (p ld q : Addr) (first lastI i a e s n : Int) (y : PV) : Vars := [("self", .ref p), ("lines", .ref ld), ("first_line", .int first), ("columns", .ref q), ("lastcol", .int lastI), ("i", .int i), ("start", .int a), ("end", .int e), ("nextstart", .int s), ("offset", .int n), ("line", y)]
abbrev ckX (p ld q : Addr) (first lastI i a e s n : Int) (y y1 y2 y3 y4 : PV) : Vars := [("self", .ref p), ("lines", .ref ld), ("first_line", .int first), ("columns", .ref q), ("lastcol", .int lastI), ("i", .int i), ("start", .int a), ("end", .int e), ("nextstart", .int s), ("offset", .int n), ("line", y), ("text", y1), ("new_end", y2), ("main_start", y3), ("main_end", y4)]
theorem reach_snoc (m n : Int) (l : List Int) : reach m (l ++ [n]) = max (reach m l) n := by unfold reach; simp
theorem byd_cons0 {b e : Int} {x : Str} {r : List Str} (h : (Txt.strip (ssl x (some e) none)).length = 0) : byd b e (x :: r) = byd b e r := by rw [byd, if_pos h]
theorem byd_cons1 {b e : Int} {x : Str} {r : List Str} (h : (Txt.strip (ssl x (some e) none)).length ≠ 0) : byd b e (x :: r) = (b + ((Txt.rstrip (ssl x (some b) none)).length : Nat)) :: byd b e r := by rw [byd, if_neg h]
theorem le_stripBy (goes : Nat → Bool) (l r : Bool) (x : Str) : (Txt.stripBy goes l r x).length ≤ x.length := by
  unfold Txt.stripBy
  split
  · exact Nat.le_refl _
  · exact PySem.le_strSub x _ _
theorem len_strip (x : Str) : (Txt.strip x).length ≤ x.length := le_stripBy _ _ _ _
theorem len_rstrip (x : Str) : (Txt.rstrip x).length ≤ x.length := le_stripBy _ _ _ _
theorem ColsAt.del {H : PHeap} {q : Addr} {l : List PV} (hq : H q = some (.list l)) : ∀ {ps cs}, ColsAt H ps cs → ColsAt (H.del q) ps cs
  | _, _, .nil => .nil
  | _, _, .cons h r => .cons (del_get (fun w => by rw [w, hq] at h; cases h) h) (r.del hq)
theorem set_mid {α : Type} {pi : List α} {x y z : α} : ((pi ++ [x]) ++ [z]).set pi.length y = (pi ++ [y]) ++ [z] := by
  induction pi with
  | nil => rfl
  | cons a r ih => simpa using ih
theorem ColsAt.get {H : PHeap} {a b : Int} : ∀ {ps cs}, ColsAt H ps cs → ∀ {i : Nat}, cs[i]? = some (a, b) → ∃ r, ps[i]? = some (.ref r) ∧ H r = some (.tup [.int a, .int b]) := by
  intro ps cs hat
  induction hat with
  | nil => intro i e; simp at e
  | @cons r a' b' ps cs hr _ ih =>
    intro i e
    cases i with
    | zero => simp at e; obtain ⟨rfl, rfl⟩ := e; exact ⟨r, rfl, hr⟩
    | succ i => simp at e; obtain ⟨r', h3, h4⟩ := ih e; exact ⟨r', by simpa using h3, h4⟩
theorem check_spec (hG : G.Ok) (hF : GF G) (hc : c.Ok) (hd : c.dp < 700) (hh : c.hd = none) {p dp lc q a0 d0 ld li : Addr} {par po : PV} {fs : Vars} {ccs cinit cs init : List (Int × Int)} {cz m b e first : Int} {xs : List Str} (hp1 : H p = some (.inst 237 dp)) (hp2 : H dp = some (.dict fs)) (hfc : fs.lookup ("columns" : Str) = some (.ref lc)) (hcc : Cols H lc ccs) (hce : ccs = cinit ++ [(cz, m)]) (hcl : ccs.length ≤ 100)
    (hs : SL H a0 d0 ld li par po) (hld : H ld = some (.list (xs.map .str))) (hxl : xs.length ≤ 1000) (hx : ∀ x ∈ xs, x.length ≤ 5000) (hcs : Cols H q cs) (hcse : cs = init ++ [(b, e)]) (hcsl : cs.length ≤ 100) (hql : q ≠ lc) (ho0 : 0 ≤ first) (ho1 : first < 100000)
    (h1 : ∀ n, margs xs cs = some n → ∀ d H', PHeap.Le (H.del q) H' → H' d = none → E (.own 149 d) (H'.set d (refus (msg3 (first + n + 1)) (first + n))) vs)
    (h2 : margs xs cs = none → ∀ H', PHeap.Le ((H.del q).del lc) H' → Cols H' q (if byd b e xs = [] then cs else init ++ [(b, reach m (byd b e xs))]) → Cols H' lc (cinit ++ [(cz, reach m (byd b e xs))]) → Q .none H' vs) : CallP G c (.ref 229) [.ref p, .ref a0, .int first, .ref q] [] [] H vs Q E := by
  obtain ⟨t, ho⟩ := hF.d229.at_
  refine CodeP.call (k_def (bs := [("self", .ref p), ("lines", .ref a0), ("first_line", .int first), ("columns", .ref q)]) (ns := ["self", "lines", "first_line", "columns"]) hG hc ho hF.d229.code (by omega) ?_ rfl (by decide) (by decide) (by decide) (by decide) (by decide) (by decide) fun c' hc' e1' e2' e3' e4' e5' => ?_)
  · rintro _ _ (_ | ⟨h1, _ | ⟨h2, _ | ⟨h3, _ | ⟨h4, _ | _⟩⟩⟩⟩) (_ | _) s X
    exact ⟨[("self", _), ("lines", _), ("first_line", _), ("columns", _)], BindsTo.of_eq (by rfl), rfl, .cons h1 (.cons h2 (.cons h3 (.cons h4 .nil)))⟩
  · have hd' : c'.hd = none := e3'.trans hh
    obtain ⟨qs, hq, hqat⟩ := hcs
    have hqlen := hqat.len
    refine t_cons ?_
    repeat walk_at "w"
    refine m_list hq PySem.F.slot_list_append rfl ?_
    refine ⟨trivial, ?_⟩
    repeat walk_at "w"
    refine ⟨by show 2 ≤ _; rw [sizeLine_eq]; decide, fun z hzn => ?_⟩
    have hqz : q ≠ z := fun h => by rw [← h, hq] at hzn; cases hzn
    repeat walk_at "w"
    refine k_append ((PHeap.set_ne hqz).trans hq) (by rw [hqlen, sizeLine_eq]; omega) ?_
    repeat walk_at "w"
    have hH0 : ∃ H0, H0 = (H.set z (.tup [.int 9223372036854775807, .none])).set q (.list (qs ++ [.ref z])) := ⟨_, rfl⟩
    obtain ⟨H0, hH0e⟩ := hH0
    have hzH : ∀ w o, H w = some o → w ≠ q → H0 w = some o := fun w o hw hwq => by
      rw [hH0e, PHeap.set_ne hwq, PHeap.set_ne (fun e => by rw [e, hzn] at hw; cases hw)]; exact hw
    have hz0 : H0 z = some (.tup [.int 9223372036854775807, .none]) := by rw [hH0e, PHeap.set_ne (Ne.symm hqz)]; exact PHeap.set_self
    have hq0 : H0 q = some (.list (qs ++ [.ref z])) := by rw [hH0e]; exact PHeap.set_self
    rw [← hH0e]
    refine k_len hq0 (by rw [List.length_append, hqlen, sizeLine_eq]; simp; omega) ?_
    repeat walk_at "w"
    have naq : a0 ≠ q := fun w => by rw [← w, hs.i] at hq; cases hq
    have ndq : d0 ≠ q := fun w => by rw [← w, hs.f] at hq; cases hq
    have npq : p ≠ q := fun w => by rw [← w, hp1] at hq; cases hq
    have ndpq : dp ≠ q := fun w => by rw [← w, hp2] at hq; cases hq
    have nldq : ld ≠ q := fun w => by
      rw [← w, hld] at hq
      have hq' : xs.map PV.str = qs := by simpa using hq
      have hl2 := hqat.len
      rw [hcse] at hqat hl2
      subst hq'
      cases xs with
      | nil => simp at hl2
      | cons x r =>
        cases init with
        | nil => cases hqat
        | cons _ _ => cases hqat
    obtain ⟨ls, hlc, hlat⟩ := id hcc
    have nplc : p ≠ lc := fun w => by rw [← w, hp1] at hlc; cases hlc
    have ndplc : dp ≠ lc := fun w => by rw [← w, hp2] at hlc; cases hlc
    have nldlc : ld ≠ lc := fun w => by
      rw [← w, hld] at hlc
      have hq' : xs.map PV.str = ls := by simpa using hlc
      have hl2 := hlat.len
      rw [hce] at hlat hl2
      subst hq'
      cases xs with
      | nil => simp at hl2
      | cons x r =>
        cases cinit with
        | nil => cases hlat
        | cons _ _ => cases hlat
    have cs1 : 1 ≤ cs.length := by rw [hcse]; simp
    have hln : (((qs ++ [PV.ref z]).length : Nat) : Int) = (cs.length : Int) + 1 := by rw [List.length_append, hqlen]; simp
    rw [hln]
    refine g_inst hG (hF.a542 "data" (by decide)).1 (hzH _ _ hs.i naq) (hzH _ _ hs.f ndq) rfl rfl ?_
    repeat walk_at "w"
    with_reducible refine' t_for hc' e4' hd' ?f ?_
    case f => k_dflt (exact fun _ => rfl)
    repeat walk_at "w"
    refine k_len hq0 (by rw [List.length_append, hqlen, sizeLine_eq]; simp; omega) ?_
    repeat walk_at "w"
    refine k_range fun rg t1 t2 t3 hrg => ?_
    rw [hln]
    refine iter_range PHeap.set_self (by omega) (by omega) ⟨trivial, ?_⟩
    have hH1 : ∃ H1, H1 = H0.set rg (.raw (rangeObj ((cs.length : Int) + 1 - 1) t1 t2 t3)) := ⟨_, rfl⟩
    obtain ⟨H1, hH1e⟩ := hH1
    rw [← hH1e]
    have h01 : PHeap.Le H0 H1 := by rw [hH1e]; exact (PHeap.Le.refl H0).set hrg
    have nrq : rg ≠ q := fun w => by rw [w, hq0] at hrg; cases hrg
    have kq : H1 q = some (.list (qs ++ [.ref z])) := h01 _ _ hq0
    have kz : H1 z = some (.tup [.int 9223372036854775807, .none]) := h01 _ _ hz0
    have hle : PHeap.Le (H.del q) H1 := fun w o hw => by
      unfold PHeap.del at hw
      split at hw
      · cases hw
      · rename_i hne; exact h01 _ _ (hzH _ _ hw hne)
    have kat : ColsAt H1 qs cs := (hqat.del hq).le hle
    have kld : H1 ld = some (.list (xs.map .str)) := hle _ _ (del_get nldq hld)
    have kp1 : H1 p = some (.inst 237 dp) := hle _ _ (del_get npq hp1)
    have kp2 : H1 dp = some (.dict fs) := hle _ _ (del_get ndpq hp2)
    have innerN : ∀ (P : List (Addr × Obj)) (i : Nat) (a e' s : Int) (QF' : PF → PHeap → Vars → Prop), (i : Int) ≠ (cs.length : Int) + 1 - 2 → (∀ n, mrow e' s xs 0 = some n → margs xs cs = some n) →
        (mrow e' s xs 0 = none → ∀ vs1, Sub (ckV p ld q first ((cs.length : Int) + 1 - 2) i a e' s (xs.length : Nat)) vs1 → QF' .next H1 vs1) →
        ∀ (xs' : List Str) (n : Nat), mrow e' s xs 0 = mrow e' s xs' n → n + xs'.length = xs.length → (∀ x ∈ xs', x ∈ xs) → ∀ vs1, Sub (ckV p ld q first ((cs.length : Int) + 1 - 2) i a e' s (n : Nat)) vs1 →
        ForP G (c'.wp P) (fun H2 => H2 ld = some (.list (xs.map .str))) (forT (stm (forB (stm (dBody (methAt 13 7)) 3)) 3)) (forB (stm (forB (stm (dBody (methAt 13 7)) 3)) 3)) QF' (fun x H1 _ => E x H1 vs) ((xs'.map PV.str).map .val) H1 vs1 := by
      intro P i a e' s QF' hi hm hn xs'
      induction xs' with
      | nil =>
        intro n hmr hlen _ vs1 hv
        have hnn : n = xs.length := by simpa using hlen
        subst hnn
        exact hn (by rw [hmr]; rfl) vs1 hv
      | cons x r ih =>
        intro n hmr hlen hsub vs1 hv P2 v hpv
        refine a_name (Cx.wp_ok (Cx.wp_ok hc')) rfl hpv ?_
        refine t_vars (sub_put hv) ?_
        show T G _ PF.R _ _ (ckW p ld q first ((cs.length : Int) + 1 - 2) i a e' s (n : Nat) (.str x)) _ _
        have hxx := hx x (hsub x (.head _))
        refine t_cons ?_
        repeat walk_at "w"
        refine ⟨fun hq1 => absurd (by simpa using hq1) hi, fun _ => ?_⟩
        repeat walk_at "w"
        refine ⟨fun hq2 => (nomatch hq2), fun _ => ?_⟩
        repeat walk_at "w"
        refine slc_str (lo := some e') (hi := some s) rfl rfl (by rw [sizeLine_eq]; omega) ?_
        have hsl := len_ssl x (some e') (some s)
        refine m_str PySem.F.slot_str_strip rfl ?_
        refine ⟨trivial, ?_⟩
        repeat walk_at "w"
        refine k_strip (by rw [sizeLine_eq]; omega) ?_
        refine tr_str (by have := len_strip (ssl x (some e') (some s)); rw [sizeLine_eq]; omega) ?_
        refine ⟨fun hq3 => ?_, fun hq3 => ?_⟩
        · have hw : (Txt.strip (ssl x (some e') (some s))).length ≠ 0 := by simpa using hq3
          have hmm : mrow e' s xs 0 = some n := by rw [hmr, mrow, if_neg hw]
          repeat walk_at "w"
          refine t_raise hG (c := (c'.wp P).wp P2) hd' ?_
          repeat walk_at "w"
          refine b_pct3 (by omega) (by omega) ?_
          repeat walk_at "w"
          refine newexc_spec hG hF (Cx.wp_ok (Cx.wp_ok hc')) (by show c'.dp < 800; omega) fun e1 d he hdn hde => ?_
          exact refus_end hF rfl he hde (h1 n (hm n hmm) d H1 hle hdn)
        · have hw : (Txt.strip (ssl x (some e') (some s))).length = 0 := by simpa using hq3
          repeat walk_at "w"
          refine ⟨H1, PHeap.Le.refl _, kld, ?_⟩
          exact ih (n + 1) (by rw [hmr, mrow, if_pos hw]) (by simpa [Nat.add_comm, Nat.add_left_comm] using hlen) (fun y hy => hsub y (.tail _ hy)) _ (sub_cons rfl (sub_cons rfl (sub_cons rfl (sub_cons rfl (sub_cons rfl (sub_cons rfl (sub_cons rfl (sub_cons rfl (sub_cons rfl (sub_cons rfl sub_nil))))))))))
    have innerL : ∀ (P : List (Addr × Obj)) (i : Nat) (QF' : PF → PHeap → Vars → Prop), (i : Int) = (cs.length : Int) + 1 - 2 →
        (∀ H2 vs1, PHeap.Le ((H.del q).del lc) H2 → (∃ ps, H2 q = some (.list (ps ++ [.ref z])) ∧ ColsAt H2 ps (if byd b e xs = [] then cs else init ++ [(b, reach m (byd b e xs))])) → Cols H2 lc (cinit ++ [(cz, reach m (byd b e xs))]) →
          Sub (ckV p ld q first ((cs.length : Int) + 1 - 2) i b e 9223372036854775807 (xs.length : Nat)) vs1 → QF' .next H2 vs1) →
        ∀ (xs' : List Str) (n : Nat) (B : List Int), byd b e xs = B ++ byd b e xs' → n + xs'.length = xs.length → (∀ x ∈ xs', x ∈ xs) → ∀ H2 vs1, PHeap.Le ((H.del q).del lc) H2 →
          (∃ ps, H2 q = some (.list (ps ++ [.ref z])) ∧ ColsAt H2 ps (if B = [] then cs else init ++ [(b, reach m B)])) → Cols H2 lc (cinit ++ [(cz, reach m B)]) →
          Sub (ckV p ld q first ((cs.length : Int) + 1 - 2) i b e 9223372036854775807 (n : Nat)) vs1 →
        ForP G (c'.wp P) (fun H2 => H2 ld = some (.list (xs.map .str))) (forT (stm (forB (stm (dBody (methAt 13 7)) 3)) 3)) (forB (stm (forB (stm (dBody (methAt 13 7)) 3)) 3)) QF' (fun x H1 _ => E x H1 vs) ((xs'.map PV.str).map .val) H2 vs1 := by
      intro P i QF' hi hn xs'
      induction xs' with
      | nil =>
        intro n B hB hlen _ H2 vs1 g1 g2 g3 hv
        have hnn : n = xs.length := by simpa using hlen
        subst hnn
        have hB' : byd b e xs = B := by rw [hB]; simp [byd]
        rw [← hB'] at g2 g3
        exact hn H2 vs1 g1 g2 g3 hv
      | cons x r ih =>
        intro n B hB hlen hsub H2 vs1 g1 g2 g3 hv P2 v hpv
        refine a_name (Cx.wp_ok (Cx.wp_ok hc')) rfl hpv ?_
        refine t_vars (sub_put hv) ?_
        show T G _ PF.R _ _ (ckW p ld q first ((cs.length : Int) + 1 - 2) i b e 9223372036854775807 (n : Nat) (.str x)) _ _
        have hxx := hx x (hsub x (.head _))
        obtain ⟨ps, hqp, hpat⟩ := id g2
        refine t_cons ?_
        repeat walk_at "w"
        refine ⟨fun _ => ?_, fun hq1 => absurd (by simpa using hq1) (not_not_intro hi)⟩
        repeat walk_at "w"
        refine slc_str (lo := some e) (hi := none) rfl rfl (by rw [sizeLine_eq]; omega) ?_
        have hsl := len_ssl x (some e) none
        refine m_str PySem.F.slot_str_strip rfl ?_
        refine ⟨trivial, ?_⟩
        repeat walk_at "w"
        refine k_strip (by rw [sizeLine_eq]; omega) ?_
        repeat walk_at "w"
        refine tr_str (by have := len_strip (ssl x (some e) none); rw [sizeLine_eq]; omega) ?_
        refine ⟨fun hq3 => ?_, fun hq3 => ?_⟩
        · have hw : (Txt.strip (ssl x (some e) none)).length ≠ 0 := by simpa using hq3
          repeat walk_at "w"
          refine ⟨fun _ => ?_, fun hq4 => (nomatch hq4)⟩
          repeat walk_at "w"
          refine slc_str (lo := some b) (hi := none) rfl rfl (by rw [sizeLine_eq]; omega) ?_
          have hsl2 := len_ssl x (some b) none
          have hsl3 := len_rstrip (ssl x (some b) none)
          refine m_str PySem.F.slot_str_rstrip rfl ?_
          refine ⟨trivial, ?_⟩
          repeat walk_at "w"
          refine k_rstrip (by rw [sizeLine_eq]; omega) ?_
          repeat walk_at "w"
          refine k_lens (by rw [sizeLine_eq]; omega) ?_
          repeat walk_at "w"
          refine t_assign2 (Cx.wp_ok (Cx.wp_ok hc')) hd' rfl rfl rfl rfl ?_
          repeat walk_at "w"
          refine g_inst hG (hF.a237 "columns" (by decide)).1 (g1 _ _ (del_get nplc (del_get npq hp1))) (g1 _ _ (del_get ndplc (del_get ndpq hp2))) hfc rfl ?_
          repeat walk_at "w"
          refine ⟨_, rfl, ?_⟩
          obtain ⟨lps, hl1, hlat2⟩ := g3
          obtain ⟨l', rz, rfl, hlat3, hrz⟩ := hlat2.snoc
          have hll : l'.length ≤ 100 := by rw [hlat3.len]; rw [hce, List.length_append] at hcl; omega
          refine sub_neg hl1 (by decide) (by simp; omega) (by decide) last_get ?_
          refine ⟨_, _, _, rfl, hrz, ?_⟩
          obtain ⟨X, hXe⟩ : ∃ X, (if B = [] then cs else init ++ [(b, reach m B)]) = init ++ [(b, X)] := by
            split
            · exact ⟨e, hcse⟩
            · exact ⟨_, rfl⟩
          rw [hXe] at hpat
          obtain ⟨pi, rq, rfl, hpi, hrq⟩ := hpat.snoc
          have hpil : pi.length = init.length := hpi.len
          have hil : cs.length = init.length + 1 := by rw [hcse]; simp
          have hil2 : init.length ≤ 100 := by omega
          repeat walk_at "w"
          refine k_max2 hd' ?_
          repeat walk_at "w"
          refine ⟨by show 2 ≤ _; rw [sizeLine_eq]; decide, fun d hdn => ?_⟩
          have hdq : q ≠ d := fun w => by rw [← w, hqp] at hdn; cases hdn
          have hdlc : lc ≠ d := fun w => by rw [← w, hl1] at hdn; cases hdn
          repeat walk_at "w"
          refine sto_list ((PHeap.set_ne hdq).trans hqp) (by omega) (by omega) (by simp; omega) ?_
          rw [show ((i : Int)).toNat = pi.length by omega, set_mid]
          generalize hY : b + ((Txt.rstrip (ssl x (some b) none)).length : Int) = Y
          have hB' : reach m (B ++ [Y]) = max (reach m B) Y := reach_snoc _ _ _
          have hBn : ¬ (B ++ [Y] = []) := by simp
          generalize hT : PO.tup [.int b, .int (max (reach m B) Y)] = tp
          have hH3 : ∃ H3, H3 = (H2.set d tp).set q (.list ((pi ++ [.ref d]) ++ [.ref z])) := ⟨_, rfl⟩
          obtain ⟨H3, hH3e⟩ := hH3
          rw [← hH3e]
          have w1 : PHeap.Le ((H.del q).del lc) H3 := by
            rw [hH3e]
            refine PHeap.Le.set (PHeap.Le.trans g1 ((PHeap.Le.refl H2).set hdn)) ?_
            unfold PHeap.del
            simp
          have w2 : H3 q = some (.list ((pi ++ [.ref d]) ++ [.ref z])) := by rw [hH3e]; exact PHeap.set_self
          have w3 : H3 lc = some (.list (l' ++ [.ref rz])) := by rw [hH3e]; exact (PHeap.set_ne (Ne.symm hql)).trans ((PHeap.set_ne hdlc).trans hl1)
          have w4 : ∀ {ps cs}, ColsAt H2 ps cs → ColsAt H3 ps cs := fun h => by
            rw [hH3e]
            exact ColsAt.set ((PHeap.set_ne hdq).trans hqp) (h.le ((PHeap.Le.refl H2).set hdn))
          have w5 : ColsAt H3 (pi ++ [.ref d]) (init ++ [(b, max (reach m B) Y)]) := by
            refine ColsAt.app (.cons ?_ .nil) (w4 hpi)
            rw [hH3e, PHeap.set_ne (Ne.symm hdq), ← hT]
            exact PHeap.set_self
          have w6 : ColsAt H3 (l' ++ [.ref rz]) (cinit ++ [(cz, reach m B)]) := w4 hlat2
          repeat walk_at "w"
          refine ⟨fun hq6 => ?_, fun hq6 => ?_⟩
          · have hgt : Y > reach m B := of_decide_eq_true hq6
            repeat walk_at "w"
            refine ⟨by show 2 ≤ _; rw [sizeLine_eq]; decide, fun d2 hdn2 => ?_⟩
            have hdlc2 : lc ≠ d2 := fun w => by rw [← w, w3] at hdn2; cases hdn2
            have hdq2 : q ≠ d2 := fun w => by rw [← w, w2] at hdn2; cases hdn2
            have w7 := PHeap.Le.trans w1 ((PHeap.Le.refl H3).set (o := .tup [.int cz, .int Y]) hdn2)
            repeat walk_at "w"
            refine g_inst hG (hF.a237 "columns" (by decide)).1 (w7 _ _ (del_get nplc (del_get npq hp1))) (w7 _ _ (del_get ndplc (del_get ndpq hp2))) hfc rfl ?_
            repeat walk_at "w"
            refine ⟨_, rfl, ?_⟩
            refine sto_neg ((PHeap.set_ne hdlc2).trans w3) (by decide) (by simp; omega) (by decide) ?_
            rw [last_set]
            repeat walk_at "w"
            have w8 : PHeap.Le ((H.del q).del lc) ((H3.set d2 (.tup [.int cz, .int Y])).set lc (.list (l' ++ [.ref d2]))) := by
              refine PHeap.Le.set w7 ?_
              unfold PHeap.del
              simp
            have w9 : ∀ {ps cs}, ColsAt H3 ps cs → ColsAt ((H3.set d2 (.tup [.int cz, .int Y])).set lc (.list (l' ++ [.ref d2]))) ps cs := fun h =>
              ColsAt.set ((PHeap.set_ne hdlc2).trans w3) (h.le ((PHeap.Le.refl H3).set hdn2))
            refine ⟨_, PHeap.Le.refl _, w8 _ _ (del_get nldlc (del_get nldq hld)), ?_⟩
            refine ih (n + 1) (B ++ [Y]) (by rw [hB, byd_cons1 hw, ← hY]; simp) (by simpa [Nat.add_comm, Nat.add_left_comm] using hlen) (fun y hy => hsub y (.tail _ hy)) _ _ w8 ⟨pi ++ [.ref d], ?_, ?_⟩ ⟨l' ++ [.ref d2], PHeap.set_self, ?_⟩ (sub_cons rfl (sub_cons rfl (sub_cons rfl (sub_cons rfl (sub_cons rfl (sub_cons rfl (sub_cons rfl (sub_cons rfl (sub_cons rfl (sub_cons rfl sub_nil))))))))))
            · exact (PHeap.set_ne hql).trans ((PHeap.set_ne hdq2).trans w2)
            · rw [if_neg hBn, hB']
              exact w9 w5
            · rw [hB', show max (reach m B) Y = Y by omega]
              refine ColsAt.app (.cons ?_ .nil) (w9 (w4 hlat3))
              rw [PHeap.set_ne (Ne.symm hdlc2)]
              exact PHeap.set_self
          · have hgt : ¬ Y > reach m B := of_decide_eq_false hq6
            repeat walk_at "w"
            refine ⟨_, PHeap.Le.refl _, w1 _ _ (del_get nldlc (del_get nldq hld)), ?_⟩
            refine ih (n + 1) (B ++ [Y]) (by rw [hB, byd_cons1 hw, ← hY]; simp) (by simpa [Nat.add_comm, Nat.add_left_comm] using hlen) (fun y hy => hsub y (.tail _ hy)) _ _ w1 ⟨pi ++ [.ref d], w2, ?_⟩ ⟨l' ++ [.ref rz], w3, ?_⟩ (sub_cons rfl (sub_cons rfl (sub_cons rfl (sub_cons rfl (sub_cons rfl (sub_cons rfl (sub_cons rfl (sub_cons rfl (sub_cons rfl (sub_cons rfl sub_nil))))))))))
            · rw [if_neg hBn, hB']
              exact w5
            · rw [hB', show max (reach m B) Y = reach m B by omega]
              exact w6
        · have hw : (Txt.strip (ssl x (some e) none)).length = 0 := by simpa using hq3
          refine ⟨fun hq4 => (nomatch hq4), fun _ => ?_⟩
          repeat walk_at "w"
          refine slc_str (lo := some e) (hi := some 9223372036854775807) rfl rfl (by rw [sizeLine_eq]; omega) ?_
          rw [ssl_top (by omega)]
          refine m_str PySem.F.slot_str_strip rfl ?_
          refine ⟨trivial, ?_⟩
          repeat walk_at "w"
          refine k_strip (by rw [sizeLine_eq]; omega) ?_
          refine tr_str (by have := len_strip (ssl x (some e) none); rw [sizeLine_eq]; omega) ?_
          refine ⟨fun hq5 => absurd hw (by simpa using hq5), fun _ => ?_⟩
          repeat walk_at "w"
          refine ⟨H2, PHeap.Le.refl _, g1 _ _ (del_get nldlc (del_get nldq hld)), ?_⟩
          refine ih (n + 1) B (by rw [hB, byd_cons0 hw]) (by simpa [Nat.add_comm, Nat.add_left_comm] using hlen) (fun y hy => hsub y (.tail _ hy)) H2 _ g1 g2 g3 (sub_cons rfl (sub_cons rfl (sub_cons rfl (sub_cons rfl (sub_cons rfl (sub_cons rfl (sub_cons rfl (sub_cons rfl (sub_cons rfl (sub_cons rfl sub_nil))))))))))
    have outer : ∀ (r i : Nat), i + (r + 1) = cs.length → margs xs cs = margs xs (cs.drop i) → ∀ vs1,
        Sub ([("self", .ref p), ("lines", .ref ld), ("first_line", .int first), ("columns", .ref q), ("lastcol", .int ((cs.length : Int) + 1 - 2))] : Vars) vs1 →
        ForP G c' (fun _ => True) (forT (stm (dBody (methAt 13 7)) 3)) (forB (stm (dBody (methAt 13 7)) 3)) (Seq G c' ((dBody (methAt 13 7)).drop 4) (RetQ Q vs) (fun x H1 _ => E x H1 vs)) (fun x H1 _ => E x H1 vs) ((List.range' i (r + 1)).map fun (i : Nat) => .val (.int (i : Int))) H1 vs1 := by
      intro r
      induction r with
      | zero =>
        intro i hir hm vs1 hv P v hpv
        refine a_name (Cx.wp_ok hc') rfl hpv ?_
        refine t_vars (sub_put hv) ?_
        have hil : i = init.length := by rw [hcse] at hir; simp at hir; omega
        have hci : cs[i]? = some (b, e) := by rw [hcse, hil]; simp
        obtain ⟨r0, hr0, hr1⟩ := kat.get hci
        have hilt : i < qs.length := by rw [hqlen]; omega
        have hmn : margs xs cs = none := by
          rw [hm, hcse, hil]
          simp [margs]
        refine t_cons ?_
        refine t_assign2 (Cx.wp_ok hc') hd' rfl rfl rfl rfl ?_
        repeat walk_at "w"
        refine sub_list kq (by omega) (by omega) (by rw [show ((i : Int)).toNat = i by omega, List.getElem?_append_left hilt]; exact hr0) ?_
        refine ⟨_, _, _, rfl, hr1, ?_⟩
        repeat walk_at "w"
        refine sub_list kq (by omega) (by omega) (by rw [show ((i : Int) + 1).toNat = qs.length by rw [hqlen]; omega]; exact List.getElem?_concat_length) ?_
        repeat walk_at "w"
        refine sub_tup kz (by decide) (by decide) rfl ?_
        repeat walk_at "w"
        have ew : (c'.wp P).own = true := e4'
        have dw : (c'.wp P).hd = none := hd'
        with_reducible refine' t_for (Cx.wp_ok hc') ew dw ?f2 ?_
        case f2 => k_dflt (exact fun _ => rfl)
        repeat walk_at "w"
        refine iter_list kld ⟨kld, ?_⟩
        refine innerL P i _ (by omega) (fun H2 vs3 g1 g2 g3 hv3 => ?_) xs 0 [] rfl (by simp) (fun _ h => h) H1 _ ((del_le' (PHeap.Le.refl _) |>.trans PHeap.del_le).trans hle) ⟨qs, kq, kat⟩ ?_ ?_
        · refine seq_next ?_
          refine t_nil ?_
          refine ⟨H2, PHeap.Le.refl _, trivial, ?_⟩
          obtain ⟨ps, k1, k2⟩ := g2
          have hpl : ps.length ≤ 100 := by
            rw [k2.len]
            split
            · omega
            · rw [hcse] at hcsl; simpa using hcsl
          have k3 : Cols (H2.set q (.list ps)) q (if byd b e xs = [] then cs else init ++ [(b, reach m (byd b e xs))]) := ⟨ps, PHeap.set_self, ColsAt.set k1 k2⟩
          have k4 : Cols (H2.set q (.list ps)) lc (cinit ++ [(cz, reach m (byd b e xs))]) := by
            obtain ⟨l1, u1, u2⟩ := g3
            exact ⟨l1, (PHeap.set_ne (Ne.symm hql)).trans u1, ColsAt.set k1 u2⟩
          have k5 : PHeap.Le ((H.del q).del lc) (H2.set q (.list ps)) := PHeap.Le.set g1 (by unfold PHeap.del; simp)
          show T _ _ _ _ _ _ _ _
          refine t_vars hv3 ?_
          refine t_cons ?_
          repeat walk_at "w"
          refine m_list k1 PySem.F.slot_list_pop rfl ?_
          refine ⟨trivial, ?_⟩
          repeat walk_at "w"
          refine k_pop k1 (by rw [sizeLine_eq]; omega) ?_
          repeat walk_at "w"
          exact ⟨_, PHeap.Le.refl _, h2 hmn _ k5 k3 k4⟩
        · obtain ⟨l1, u1, u2⟩ := hcc
          have u3 : H1 lc = some (.list l1) := hle _ _ (del_get (Ne.symm hql) u1)
          refine ⟨l1, u3, ?_⟩
          rw [hce] at u2
          exact (u2.del hq).le hle
        · exact (sub_cons rfl (sub_cons rfl (sub_cons rfl (sub_cons rfl (sub_cons rfl (sub_cons rfl (sub_cons rfl (sub_cons rfl (sub_cons rfl (sub_cons rfl sub_nil))))))))))
      | succ r ih =>
        intro i hir hm vs1 hv P v hpv
        refine a_name (Cx.wp_ok hc') rfl hpv ?_
        refine t_vars (sub_put hv) ?_
        obtain ⟨ai, ei, hci⟩ : ∃ a' b', cs[i]? = some (a', b') := ⟨(cs[i]'(by omega)).1, (cs[i]'(by omega)).2, List.getElem?_eq_getElem (by omega)⟩
        obtain ⟨si, ei', hci2⟩ : ∃ a' b', cs[i + 1]? = some (a', b') := ⟨(cs[i + 1]'(by omega)).1, (cs[i + 1]'(by omega)).2, List.getElem?_eq_getElem (by omega)⟩
        obtain ⟨r0, hr0, hr1⟩ := kat.get hci
        obtain ⟨r2, hr2, hr3⟩ := kat.get hci2
        have hilt : i < qs.length := by rw [hqlen]; omega
        have hilt2 : i + 1 < qs.length := by rw [hqlen]; omega
        have hmd := margs_drop (xs := xs) hci hci2
        refine t_cons ?_
        refine t_assign2 (Cx.wp_ok hc') hd' rfl rfl rfl rfl ?_
        repeat walk_at "w"
        refine sub_list kq (by omega) (by omega) (by rw [show ((i : Int)).toNat = i by omega, List.getElem?_append_left hilt]; exact hr0) ?_
        refine ⟨_, _, _, rfl, hr1, ?_⟩
        repeat walk_at "w"
        refine sub_list kq (by omega) (by omega) (by rw [show ((i : Int) + 1).toNat = i + 1 by omega, List.getElem?_append_left hilt2]; exact hr2) ?_
        repeat walk_at "w"
        refine sub_tup hr3 (by decide) (by decide) rfl ?_
        repeat walk_at "w"
        have ew : (c'.wp P).own = true := e4'
        have dw : (c'.wp P).hd = none := hd'
        with_reducible refine' t_for (Cx.wp_ok hc') ew dw ?f2 ?_
        case f2 => k_dflt (exact fun _ => rfl)
        repeat walk_at "w"
        refine iter_list kld ⟨kld, ?_⟩
        refine innerN P i ai ei si _ (by omega) (fun n hn => by rw [hm, hmd, hn]) (fun hn vs3 hv3 => ?_) xs 0 rfl (by simp) (fun _ h => h) _ ?_
        · refine seq_next ?_
          refine t_nil ?_
          refine ⟨H1, PHeap.Le.refl _, trivial, ?_⟩
          refine ih (i + 1) (by omega) (by rw [hm, hmd, hn]) _ ?_
          exact fun y w e => hv3 y w ((sub_cons rfl (sub_cons rfl (sub_cons rfl (sub_cons rfl (sub_cons rfl sub_nil)))) : Sub ([("self", .ref p), ("lines", .ref ld), ("first_line", .int first), ("columns", .ref q), ("lastcol", .int ((cs.length : Int) + 1 - 2))] : Vars) (ckV p ld q first ((cs.length : Int) + 1 - 2) i ai ei si (xs.length : Nat))) y w e)
        · exact (sub_cons rfl (sub_cons rfl (sub_cons rfl (sub_cons rfl (sub_cons rfl (sub_cons rfl (sub_cons rfl (sub_cons rfl (sub_cons rfl (sub_cons rfl sub_nil))))))))))
    have hn1 : ((cs.length : Int) + 1 - 1).toNat = (cs.length - 1) + 1 := by omega
    rw [hn1, List.range_eq_range']
    exact outer (cs.length - 1) 0 (by omega) (by simp) _ sub_refl
end
section
variable {G : Gl} {S : Scope} {c : Cx S} {H : PHeap} {vs : Vars} {E : PX → PHeap → Vars → Prop} {Q : PV → PHeap → Vars → Prop}
theorem t_tcmp2 {S : Scope} {c : Cx S} {H : PHeap} {vs : Vars} {E : PX → PHeap → Vars → Prop} {l r1 r2 : Expr} {op1 op2 : CmpOp} {pos : Pos} {whole : Sem Value} {QB : Bool → PHeap → Vars → Prop} (hm : lastMarks [op1, op2] [r1, r2] = false)
    (h : T G c PV.R (eval l c.env) H vs (fun a H1 vs1 => T G c PV.R (eval r1 c.env) H1 vs1 (fun b H2 vs2 => CmpP G c op1 a b H2 vs2 (fun v H3 vs3 => TruP G c v H3 vs3 (fun t H4 vs4 =>
      (t = false → QB false H4 vs4) ∧ (t = true → T G c PV.R (eval r2 c.env) H4 vs4 (fun d H5 vs5 => CmpP G c op2 b d H5 vs5 (fun w H6 vs6 => TruP G c w H6 vs6 QB E) E) E)) E) E) E) E) :
    T G c BR (isTrue (.Compare l [op1, op2] [r1, r2] pos) c.env whole) H vs QB E := fun s hs => by
  refine isTrue_chain (wpAny_mono (h s hs) (fun va s1 ⟨a, H1, vs1, ha, hs1, h1⟩ => ?_) fun _ _ x => x) hm
  refine test_link ?_
  refine wpAny_mono (h1 s1 hs1) (fun vb s2 ⟨b, H2, vs2, hb, hs2, h2⟩ => ?_) fun _ _ x => x
  refine wpAny_mono (h2 va vb ha hb s2 hs2) (fun vc s3 ⟨d, H3, vs3, hd, hs3, h3⟩ => ?_) fun _ _ x => x
  refine wpAny_mono (h3 vc hd s3 hs3) (fun t s4 ⟨t', H4, vs4, ht, hs4, h4⟩ => ?_) fun _ _ x => x
  cases ht
  cases t with
  | false => exact ⟨false, H4, vs4, rfl, hs4, h4.1 rfl⟩
  | true =>
    refine test_last ?_
    refine wpAny_mono (h4.2 rfl s4 hs4) (fun vd s5 ⟨d, H5, vs5, hd, hs5, h5⟩ => ?_) fun _ _ x => x
    refine wpAny_mono (h5 vb vd hb hd s5 hs5) (fun ve s6 ⟨w, H6, vs6, hw, hs6, h6⟩ => ?_) fun _ _ x => x
    exact h6 ve hw s6 hs6

def ifE : Stmt → List Stmt
  | .If _ _ b _ => b
  | _ => []
def asgV : Stmt → Expr
  | .Assign _ e _ => e
  | .Return (some e) _ => e
  | _ => .Constant .none 0 ⟨0, 0, 0, 0⟩
def cmpT : Expr → Expr
  | .ListComp _ [⟨t, _, _, _⟩] _ _ => t
  | _ => .Constant .none 0 ⟨0, 0, 0, 0⟩
def cmpE : Expr → Expr
  | .ListComp e _ _ _ => e
  | _ => .Constant .none 0 ⟨0, 0, 0, 0⟩
def cmpI : Expr → List Expr
  | .ListComp _ [⟨_, _, i, _⟩] _ _ => i
  | _ => []
def cT (s : Stmt) : Expr := cmpT (asgV s)
def cE (s : Stmt) : Expr := cmpE (asgV s)
theorem le_put {H Hk : PHeap} {d : Addr} {o : PO} (L : PHeap.Le (H.del d) Hk) : PHeap.Le (H.del d) (Hk.set d o) := PHeap.Le.set L (by unfold PHeap.del; simp)
theorem le_new {H Hk : PHeap} {a : Addr} {o : PO} (L : PHeap.Le H Hk) (h : Hk a = none) : PHeap.Le H (Hk.set a o) := PHeap.Le.trans L ((PHeap.Le.refl Hk).set h)
theorem ne_none {H : PHeap} {a b : Addr} {o : PO} (h1 : H a = some o) (h2 : H b = none) : a ≠ b := fun e => by rw [e, h2] at h1; cases h1
def ini (x l : Addr) (src its par po : PV) : Vars := [("self", .ref x), ("initlist", .ref l), ("source", src), ("items", its), ("parent", par), ("parent_offset", po)]
def iniL (x l : Addr) (its par po : PV) : Vars := [("self", .ref x), ("initlist", .ref l), ("items", its), ("parent", par), ("parent_offset", po)]
theorem init_sl (hG : G.Ok) (hF : GF G) (hc : c.Ok) (hd : c.dp < 800) (hh : c.hd = none) {x dx l : Addr} {xs : List PV} {src its par po : PV} {kn : List Str} {ks : List PV} (hx : H x = some (.inst 542 dx)) (hdx : H dx = some (.dict [])) (hl : H l = some (.list xs)) (hz : xs.length ≤ 1000)
    (hits : its = .none ∨ ∃ ia ys, its = .ref ia ∧ H ia = some (.list ys) ∧ ys.length = xs.length)
    (hkk : (kn = (["source"] : List Str) ∧ ks = [src] ∧ its = .none ∧ par = .none ∧ po = .none) ∨ (kn = (["items", "parent", "parent_offset"] : List Str) ∧ ks = [its, par, po] ∧ src = .none))
    (h : ∀ ld li ys H', PHeap.Le (H.del dx) H' → H ld = none → H' dx = some (slf ld li par po) → H' ld = some (.list xs) → H' li = some (.list ys) → ys.length = xs.length → (H li = none ∨ its = .ref li) → Q .none H' vs) :
    CodeP G c (.ref 252) [.ref x, .ref l] kn ks H vs Q E := by
  obtain ⟨t, ho⟩ := hF.d252.at_
  obtain ⟨n247, h247⟩ := hF.t247
  refine k_defc (bs := ini x l src its par po) (bl := iniL x l its par po) (ns := ["self", "initlist", "source", "items", "parent", "parent_offset"]) (cn := ["source"]) hG hc ho hF.d252.code (by omega) ?_ rfl (by decide) (by decide) (by rfl) (by decide) (by decide) ?_ (by decide) (by decide) (by decide) fun c' cl hc' e1' e2' e3' e4' e5' e6' e7' e8' => ?_
  · rcases hkk with ⟨rfl, rfl, rfl, rfl, rfl⟩ | ⟨rfl, rfl, rfl⟩
    · rintro _ _ (_ | ⟨h1, _ | ⟨h2, _ | _⟩⟩) (_ | ⟨h3, _ | _⟩) s X
      refine ⟨[("self", _), ("initlist", _), ("source", _), ("items", .none), ("parent", .none), ("parent_offset", .none)], ?_, rfl, .cons h1 (.cons h2 (.cons h3 (.cons rfl (.cons rfl (.cons rfl .nil)))))⟩
      exact binds_K X rfl h247 rfl (by rfl) (by rfl)
    · rintro _ _ (_ | ⟨h1, _ | ⟨h2, _ | _⟩⟩) (_ | ⟨h3, _ | ⟨h4, _ | ⟨h5, _ | _⟩⟩⟩) s X
      refine ⟨[("self", _), ("initlist", _), ("source", .none), ("items", _), ("parent", _), ("parent_offset", _)], ?_, rfl, .cons h1 (.cons h2 (.cons rfl (.cons h3 (.cons h4 (.cons h5 .nil)))))⟩
      exact binds_K X rfl h247 rfl (by rfl) (by rfl)
  · intro y hy
    simp only [iniL, List.mem_cons, List.not_mem_nil, or_false] at hy
    rcases hy with rfl | rfl | rfl | rfl | rfl
    all_goals exact ⟨rfl, rfl⟩
  · have hd' : c'.hd = none := e3'.trans hh
    obtain ⟨ca, rfl⟩ : ∃ ca, cl = ([("source", ca)] : List (Str × Addr)) := by
      match cl, e6' with
      | [(_, ca)], e => exact ⟨ca, by simp at e; rw [e]⟩
    have hca : H ca = none := e8' _ (.head _)
    have hH0 : setCells (ini x l src its par po) [("source", ca)] H = H.set ca (.cell (some src)) := rfl
    rw [hH0]
    clear hH0
    have nca : ∀ w o, H w = some o → w ≠ ca := fun w o hw e => by rw [e, hca] at hw; cases hw
    obtain ⟨H0, hH0⟩ : ∃ H0, H0 = H.set ca (.cell (some src)) := ⟨_, rfl⟩
    rw [← hH0]
    have le0 : PHeap.Le H H0 := by rw [hH0]; exact (PHeap.Le.refl H).set hca
    have hca0 : H0 ca = some (.cell (some src)) := by rw [hH0]; exact PHeap.set_self
    have nxd : x ≠ dx := fun e => by rw [e, hdx] at hx; cases hx
    have nld : l ≠ dx := fun e => by rw [e, hdx] at hl; cases hl
    have nsd : ca ≠ dx := fun e => nca _ _ hdx e.symm
    have L0 : PHeap.Le (H0.del dx) H0 := PHeap.del_le
    refine t_cons ?_
    repeat walk_at "w"
    refine ⟨Nat.zero_le _, fun a1 ha1 => ?_⟩
    repeat walk_at "w"
    have L1 : PHeap.Le (H0.del dx) (H0.set a1 (.list [])) := le_new L0 ha1
    have gx : ∀ {Hk}, PHeap.Le (H0.del dx) Hk → Hk x = some (.inst 542 dx) := fun L => L _ _ (del_get nxd (le0 _ _ hx))
    have gl : ∀ {Hk}, PHeap.Le (H0.del dx) Hk → Hk l = some (.list xs) := fun L => L _ _ (del_get nld (le0 _ _ hl))
    have gs : ∀ {Hk}, PHeap.Le (H0.del dx) Hk → Hk ca = some (.cell (some src)) := fun L => L _ _ (del_get nsd hca0)
    have n1 : dx ≠ a1 := ne_none (le0 _ _ hdx) ha1
    refine s_inst hG (hF.a542 "data" (by decide)).2 (gx L1) ((PHeap.set_ne n1).trans (le0 _ _ hdx)) (by simp) ?_
    obtain ⟨H2, hH2⟩ : ∃ H2, H2 = (H0.set a1 (.list [])).set dx (.dict (putV "data" (.ref a1) [])) := ⟨_, rfl⟩
    rw [← hH2]
    have L2 : PHeap.Le (H0.del dx) H2 := by rw [hH2]; exact le_put L1
    have D2 : H2 dx = some (.dict [("data", .ref a1)]) := by rw [hH2]; exact PHeap.set_self
    repeat walk_at "w"
    refine ⟨Nat.zero_le _, fun a2 ha2 => ?_⟩
    repeat walk_at "w"
    have L3 : PHeap.Le (H0.del dx) (H2.set a2 (.list [])) := le_new L2 ha2
    have n2 : dx ≠ a2 := ne_none D2 ha2
    refine s_inst hG (hF.a542 "items" (by decide)).2 (gx L3) ((PHeap.set_ne n2).trans D2) (by simp) ?_
    obtain ⟨H4, hH4⟩ : ∃ H4, H4 = (H2.set a2 (.list [])).set dx (.dict (putV "items" (.ref a2) [("data", .ref a1)])) := ⟨_, rfl⟩
    rw [← hH4]
    have L4 : PHeap.Le (H0.del dx) H4 := by rw [hH4]; exact le_put L3
    have D4 : H4 dx = some (.dict [("data", .ref a1), ("items", .ref a2)]) := by rw [hH4]; exact PHeap.set_self
    repeat walk_at "w"
    refine s_inst hG (hF.a542 "parent" (by decide)).2 (gx L4) D4 (by simp) ?_
    obtain ⟨H5, hH5⟩ : ∃ H5, H5 = H4.set dx (.dict (putV "parent" par [("data", .ref a1), ("items", .ref a2)])) := ⟨_, rfl⟩
    rw [← hH5]
    have L5 : PHeap.Le (H0.del dx) H5 := by rw [hH5]; exact le_put L4
    have D5 : H5 dx = some (.dict [("data", .ref a1), ("items", .ref a2), ("parent", par)]) := by rw [hH5]; exact PHeap.set_self
    repeat walk_at "w"
    refine s_inst hG (hF.a542 "parent_offset" (by decide)).2 (gx L5) D5 (by simp) ?_
    obtain ⟨H6, hH6⟩ : ∃ H6, H6 = H5.set dx (.dict (putV "parent_offset" po [("data", .ref a1), ("items", .ref a2), ("parent", par)])) := ⟨_, rfl⟩
    rw [← hH6]
    have L6 : PHeap.Le (H0.del dx) H6 := by rw [hH6]; exact le_put L5
    have D6 : H6 dx = some (slf a1 a2 par po) := by rw [hH6]; exact PHeap.set_self
    repeat walk_at "w"
    refine k_isnot_list hG (gl L6) hF.isn484 ?_
    repeat walk_at "w"
    refine ⟨fun q => (nomatch q), fun _ => ?_⟩
    repeat walk_at "w"
    refine ⟨fun _ => ?_, fun q => (nomatch q)⟩
    repeat walk_at "w"
    refine k_list (gl L6) (by rw [sizeLine_eq]; omega) fun ld hld => ?_
    repeat walk_at "w"
    have L7 : PHeap.Le (H0.del dx) (H6.set ld (.list xs)) := le_new L6 hld
    have n7 : dx ≠ ld := ne_none D6 hld
    refine s_inst hG (hF.a542 "data" (by decide)).2 (gx L7) ((PHeap.set_ne n7).trans D6) (by simp) ?_
    obtain ⟨H8, hH8⟩ : ∃ H8, H8 = (H6.set ld (.list xs)).set dx (.dict (putV "data" (.ref ld) [("data", .ref a1), ("items", .ref a2), ("parent", par), ("parent_offset", po)])) := ⟨_, rfl⟩
    have hH8' : (H6.set ld (.list xs)).set dx (.dict (putV "data" (.ref ld) [("data", .ref a1), ("items", .ref a2), ("parent", par), ("parent_offset", po)])) = H8 := hH8.symm
    rw [hH8']
    clear hH8'
    have L8 : PHeap.Le (H0.del dx) H8 := by rw [hH8]; exact le_put L7
    have D8 : H8 dx = some (slf ld a2 par po) := by rw [hH8]; exact PHeap.set_self
    have d8 : H8 ld = some (.list xs) := by rw [hH8]; exact (PHeap.set_ne (Ne.symm n7)).trans PHeap.set_self
    have hldn : H ld = none := by
      cases q : H ld with
      | none => rfl
      | some o =>
        have := L6 _ _ (del_get (Ne.symm n7) (le0 _ _ q))
        rw [hld] at this; cases this
    have LH : PHeap.Le (H.del dx) (H0.del dx) := del_le' le0
    have tail : ∀ Hk li ys, PHeap.Le (H0.del dx) Hk → Hk dx = some (slf ld li par po) → Hk ld = some (.list xs) → Hk li = some (.list ys) → ys.length = xs.length → (H li = none ∨ its = .ref li) →
        T G c' PF.R (exec (stm (dBody (methAt 15 0)) 9) c'.env) Hk (iniL x l its par po) (Seq G c' [] (RetQ Q vs) (fun x H1 _ => E x H1 vs)) (fun x H1 _ => E x H1 vs) := by
      intro Hk li ys L D e1 e2 e3 e9
      refine t_assert ?_
      repeat walk_at "w"
      refine g_inst hG (hF.a542 "data" (by decide)).1 (gx L) D rfl rfl ?_
      repeat walk_at "w"
      refine k_len e1 (by rw [sizeLine_eq]; omega) ?_
      repeat walk_at "w"
      refine g_inst hG (hF.a542 "items" (by decide)).1 (gx L) D rfl rfl ?_
      repeat walk_at "w"
      refine k_len e2 (by rw [sizeLine_eq]; omega) ?_
      repeat walk_at "w"
      refine ⟨by rw [e3]; simp, ?_⟩
      repeat walk_at "w"
      exact ⟨Hk, PHeap.Le.refl _, h ld li ys Hk (PHeap.Le.trans LH L) hldn D e1 e2 e3 e9⟩
    have comp : ∀ QF : PF → PHeap → Vars → Prop, (∀ H1 li ys, PHeap.Le (H0.del dx) H1 → H1 dx = some (slf ld li par po) → H1 ld = some (.list xs) → H1 li = some (.list ys) → ys.length = xs.length → H li = none → QF .next H1 (iniL x l its par po)) →
        T G c' PF.R (execs (ifE (stm (forB (stm (ifE (stm (dBody (methAt 15 0)) 8)) 0)) 1)) c'.env) H8 (iniL x l its par po) QF (fun x H1 _ => E x H1 vs) := by
      intro QF hQF
      refine t_cons ?_
      with_reducible refine' t_setattr ?ha ?_
      case ha => k_dflt (exact rfl)
      with_reducible refine' t_listcomp (cl := [("source", ca)]) hc' hd' ?f1 ?f2 ?f3 ?f4 ?f5 ?f6 ?_
      case f1 => exact closureFor_of (by rw [show c'.env.cells = ([("source", ca)] : List (Str × Addr)) from e5']; rfl)
      case f2 => decide
      case f3 => rfl
      case f4 => decide
      case f5 => decide
      case f6 => exact fun _ => rfl
      repeat walk_at "w"
      refine k_len (gl L8) (by rw [sizeLine_eq]; omega) ?_
      repeat walk_at "w"
      refine k_range fun rg t1 t2 t3 hrg => ?_
      refine iter_range PHeap.set_self (by omega) (by omega) ⟨by simp; rw [sizeLine_eq]; omega, trivial, fun c1 hc1 g1 g2 g3 g4 => ?_⟩
      rw [show ((xs.length : Int)).toNat = xs.length by omega, List.range_eq_range']
      have L9 : PHeap.Le (H0.del dx) (H8.set rg (.raw (rangeObj (xs.length : Int) t1 t2 t3))) := le_new L8 hrg
      have D9 : (H8.set rg (.raw (rangeObj (xs.length : Int) t1 t2 t3))) dx = some (slf ld a2 par po) := (PHeap.set_ne (ne_none D8 hrg)).trans D8
      have d9 : (H8.set rg (.raw (rangeObj (xs.length : Int) t1 t2 t3))) ld = some (.list xs) := (PHeap.set_ne (ne_none d8 hrg)).trans d8
      have loop : ∀ K : List PV → PHeap → Prop, (∀ acc H2, acc.length = xs.length → PHeap.Le (H0.del dx) H2 → H2 dx = some (slf ld a2 par po) → H2 ld = some (.list xs) → K acc H2) → ∀ (r i : Nat) (acc : List PV) (Hk : PHeap) (vs1 : Vars), i + r = xs.length → acc.length = i → PHeap.Le (H0.del dx) Hk → Hk dx = some (slf ld a2 par po) → Hk ld = some (.list xs) →
          CompP G c1 (fun _ => True) (cT (stm (ifE (stm (forB (stm (ifE (stm (dBody (methAt 15 0)) 8)) 0)) 1)) 0)) [] (cE (stm (ifE (stm (forB (stm (ifE (stm (dBody (methAt 15 0)) 8)) 0)) 1)) 0)) K ((List.range' i r).map fun (i : Nat) => .val (.int (i : Int))) acc Hk vs1 := by
        intro K hK r
        induction r with
        | zero =>
          intro i acc Hk vs1 h1 h2 L D e1
          exact hK acc Hk (by omega) L D e1
        | succ r ih =>
          intro i acc Hk vs1 h1 h2 L D e1 P v hpv
          refine a_name (Cx.wp_ok hc1) rfl hpv ?_
          refine ⟨fun _ => ?_, fun q => (nomatch q)⟩
          refine t_tuple ?_
          with_reducible refine' t_args1 ?b1 ?_
          case b1 => k_dflt (exact rfl)
          refine t_cell (ca := ca) (Cx.wp_ok hc1) rfl (by show c1.cl.lookup _ = _; rw [g4]; rfl) (gs L) ?_
          with_reducible refine' t_args1 ?b1 ?_
          case b1 => k_dflt (exact rfl)
          refine t_local (p := .int (i : Int)) (Cx.wp_ok hc1) rfl (by rw [putV_lookup]; rfl) ?_
          refine t_args0 ?_
          refine ⟨by show 2 ≤ _; rw [sizeLine_eq]; decide, fun d hdn => ?_⟩
          refine ⟨_, PHeap.Le.refl _, trivial, ?_⟩
          exact ih (i + 1) (acc ++ [.ref d]) _ _ (by omega) (by simp; omega) (le_new L hdn) ((PHeap.set_ne (ne_none D hdn)).trans D) ((PHeap.set_ne (ne_none e1 hdn)).trans e1)
      refine loop _ (fun acc H2 k1 k2 k3 k4 d hdn => ?_) xs.length 0 [] _ _ (by omega) rfl L9 D9 d9
      have nd := ne_none k3 hdn
      repeat walk_at "w"
      refine s_inst hG (hF.a542 "items" (by decide)).2 (gx (le_new k2 hdn)) ((PHeap.set_ne nd).trans k3) (by simp) ?_
      repeat walk_at "w"
      refine hQF _ d acc (le_put (le_new k2 hdn)) PHeap.set_self ?_ ?_ k1 ?_
      · exact (PHeap.set_ne (Ne.symm n7)).trans ((PHeap.set_ne (ne_none k4 hdn)).trans k4)
      · exact (PHeap.set_ne (Ne.symm nd)).trans PHeap.set_self
      · cases q : H d with
        | none => rfl
        | some o => rw [k2 _ _ (del_get (Ne.symm nd) (le0 _ _ q))] at hdn; cases hdn
    rcases hits with rfl | ⟨ia, ys, rfl, h6, h7⟩
    · repeat walk_at "w"
      refine ⟨fun q => (nomatch q), fun _ => ?_⟩
      refine comp _ fun H1 li ys k1 k2 k3 k4 k5 k6 => ?_
      repeat walk_at "w"
      exact tail H1 li ys k1 k2 k3 k4 k5 (.inl k6)
    · have nia : ia ≠ dx := fun e => by rw [e, hdx] at h6; cases h6
      have h8 : H8 ia = some (.list ys) := L8 _ _ (del_get nia (le0 _ _ h6))
      repeat walk_at "w"
      refine tr_list h8 (by omega) ?_
      refine ⟨fun _ => ?_, fun _ => ?_⟩
      · repeat walk_at "w"
        refine s_inst hG (hF.a542 "items" (by decide)).2 (gx L8) D8 (by simp) ?_
        repeat walk_at "w"
        refine tail _ ia ys (le_put L8) PHeap.set_self ((PHeap.set_ne (Ne.symm n7)).trans d8) ((PHeap.set_ne nia).trans h8) h7 (.inr rfl)
      · refine comp _ fun H1 li ys k1 k2 k3 k4 k5 k6 => ?_
        repeat walk_at "w"
        exact tail H1 li ys k1 k2 k3 k4 k5 (.inl k6)
end
section
variable {G : Gl} {S : Scope} {c : Cx S} {H : PHeap} {vs : Vars} {E : PX → PHeap → Vars → Prop} {Q : PV → PHeap → Vars → Prop}
/-- a new StringList -/
theorem new_sl (hG : G.Ok) (hF : GF G) (hc : c.Ok) (hd : c.dp < 700) (hh : c.hd = none) {l : Addr} {xs : List PV} {src its par po : PV} {kn : List Str} {ks : List PV} (hl : H l = some (.list xs)) (hz : xs.length ≤ 1000)
    (hits : its = .none ∨ ∃ ia ys, its = .ref ia ∧ H ia = some (.list ys) ∧ ys.length = xs.length)
    (hkk : (kn = (["source"] : List Str) ∧ ks = [src] ∧ its = .none ∧ par = .none ∧ po = .none) ∨ (kn = (["items", "parent", "parent_offset"] : List Str) ∧ ks = [its, par, po] ∧ src = .none))
    (h : ∀ a d ld li ys H', PHeap.Le H H' → H a = none → H d = none → H ld = none → SL H' a d ld li par po → H' ld = some (.list xs) → H' li = some (.list ys) → ys.length = xs.length → (H li = none ∨ its = .ref li) → Q (.ref a) H' vs) :
    CallP G c (.ref 542) [.ref l] kn ks H vs Q E := by
  refine k_new hG hF.n542 fun x dx hx hdx hne => ?_
  have le : PHeap.Le H ((H.set dx (.dict [])).set x (.inst 542 dx)) := le_new (le_new (PHeap.Le.refl H) hdx) (by rw [PHeap.set_ne hne]; exact hx)
  refine init_sl (src := src) (its := its) (par := par) (po := po) (dx := dx) (xs := xs) hG hF (Cx.up_ok hc) (by show c.dp + 1 < 800; omega) hh PHeap.set_self ((PHeap.set_ne (Ne.symm hne)).trans PHeap.set_self) (le _ _ hl) hz ?_ hkk fun ld li ys H' k1 k2 k3 k4 k5 k6 k7 => ⟨rfl, ?_⟩
  · rcases hits with h | ⟨ia, ys, h1, h2, h3⟩
    · exact .inl h
    · exact .inr ⟨ia, ys, h1, le _ _ h2, h3⟩
  · have off : ∀ w, ((H.set dx (.dict [])).set x (.inst 542 dx)) w = none → H w = none := fun w hw => by
      cases q : H w with
      | none => rfl
      | some o => rw [le _ _ q] at hw; cases hw
    refine h x dx ld li ys H' ?_ hx hdx ?_ ⟨?_, k3⟩ k4 k5 k6 (k7.imp (off li) id)
    · exact PHeap.Le.trans (fun b o hb => del_get (fun e => by rw [e, hdx] at hb; cases hb) (le _ _ hb)) k1
    · cases q : H ld with
      | none => rfl
      | some o => rw [le _ _ q] at k2; cases k2
    · exact k1 _ _ (del_get hne PHeap.set_self)

theorem lsl_all {α : Type} {l : List α} : lsl l (some 0) (some (l.length : Int)) = l := by
  unfold lsl
  have h1 : kms_lo (some 0) l.length = 0 := by simp [kms_lo]
  have h2 : kms_hi (some (l.length : Int)) l.length = l.length := by
    unfold kms_hi
    simp
  rw [h1, h2]
  simp
theorem part_spec (hG : G.Ok) (hF : GF G) (hc : c.Ok) (hd : c.dp < 600) (hh : c.hd = none) {a d ld li : Addr} {par po : PV} {xs ys : List PV} (hs : SL H a d ld li par po) (hl : H ld = some (.list xs)) (hi : H li = some (.list ys)) (hy : ys.length = xs.length) (hz : xs.length ≤ 1000) {n : Int} (hn : n = (xs.length : Nat))
    (h : ∀ a2 d2 ld2 li2 ys2 H', PHeap.Le H H' → H a2 = none → H d2 = none → H ld2 = none → SL H' a2 d2 ld2 li2 (.ref a) (.int 0) → H' ld2 = some (.list xs) → H' li2 = some (.list ys2) → ys2.length = xs.length → Q (.ref a2) H' vs) :
    CallP G c (.ref 502) [.ref a, .int 0, .int n] [] [] H vs Q E := by
  subst hn
  obtain ⟨t, ho⟩ := hF.d502.at_
  refine CodeP.call (k_def (bs := [("self", .ref a), ("start", .int 0), ("stop", .int (xs.length : Nat))]) (ns := ["self", "start", "stop"]) hG hc ho hF.d502.code (by omega) ?_ rfl (by decide) (by decide) (by decide) (by decide) (by decide) (by decide) fun c' hc' e1' e2' e3' e4' e5' => ?_)
  · rintro _ _ (_ | ⟨h1, _ | ⟨h2, _ | ⟨h3, _ | _⟩⟩⟩) (_ | _) s X
    exact ⟨[("self", _), ("start", _), ("stop", _)], BindsTo.of_eq (by rfl), rfl, .cons h1 (.cons h2 (.cons h3 .nil))⟩
  · refine t_cons ?_
    repeat walk_at "w"
    refine g_inst hG (hF.a542 "data" (by decide)).1 hs.i hs.f rfl rfl ?_
    repeat walk_at "w"
    refine slc_list (lo := some 0) (hi := some (xs.length : Int)) hl rfl rfl (by rw [sizeLine_eq]; omega) fun s1 hs1 => ?_
    rw [lsl_all]
    have L1 : PHeap.Le H (H.set s1 (.list xs)) := le_new (PHeap.Le.refl H) hs1
    repeat walk_at "w"
    refine g_inst hG (hF.a542 "items" (by decide)).1 (L1 _ _ hs.i) (L1 _ _ hs.f) rfl rfl ?_
    repeat walk_at "w"
    refine slc_list (lo := some 0) (hi := some (xs.length : Int)) (L1 _ _ hi) rfl rfl (by rw [sizeLine_eq]; omega) fun s2 hs2 => ?_
    rw [show lsl ys (some 0) (some (xs.length : Int)) = ys by rw [← hy]; exact lsl_all]
    have L2 : PHeap.Le H ((H.set s1 (.list xs)).set s2 (.list ys)) := le_new L1 hs2
    repeat walk_at "w"
    refine new_sl (its := .ref s2) (par := .ref a) (po := .int 0) (src := .none) (xs := xs) hG hF hc' (by omega) (e3'.trans hh) ((PHeap.set_ne (ne_none PHeap.set_self hs2)).trans PHeap.set_self) hz (.inr ⟨s2, ys, rfl, PHeap.set_self, hy⟩) (.inr ⟨rfl, rfl, rfl⟩) fun a2 d2 ld2 li2 ys2 H' k1 k2 k3 k4 k5 k6 k7 k8 _ => ?_
    repeat walk_at "w"
    have off : ∀ w, ((H.set s1 (.list xs)).set s2 (.list ys)) w = none → H w = none := fun w hw => by
      cases q : H w with
      | none => rfl
      | some o => rw [L2 _ _ q] at hw; cases hw
    exact ret_same (h a2 d2 ld2 li2 ys2 H' (PHeap.Le.trans L2 k1) (off _ k2) (off _ k3) (off _ k4) k5 k6 k7 k8)
end
section
variable {G : Gl} {S : Scope} {c : Cx S} {H : PHeap} {vs : Vars} {E : PX → PHeap → Vars → Prop} {Q : PV → PHeap → Vars → Prop}
theorem testP_mono {S' : Scope} {c : Cx S'} {H : PHeap} {vs : Vars} {QB QB' : Bool → PHeap → Vars → Prop} {E : PX → PHeap → Vars → Prop} {ifs : List Expr} (h : TestP G c H vs QB E ifs) (hq : ∀ b H1 vs1, QB b H1 vs1 → QB' b H1 vs1) : TestP G c H vs QB' E ifs := by
  cases ifs with
  | nil => exact hq _ _ _ h
  | cons e r => exact t_mono h hq fun _ _ _ x => x
/-- a comprehension whose elements make nothing -/
theorem comp_map {S' : Scope} {c1 : Cx S'} (hc1 : c1.Ok) {Src : PHeap → Prop} {x : Str} {px : Pos} {ifs : List Expr} {elt : Expr} {K : List PV → PHeap → Prop} {α : Type} {it f : α → PV} {tst : α → Bool} {Hk : PHeap} (hx : S'.names.lookup x = some .local) (hsrc : Src Hk) :
    ∀ (items : List α) (acc : List PV) (vs1 : Vars), (∀ P a vs1, a ∈ items → TestP G (c1.wp P) Hk (putV x (it a) vs1) (fun b H2 vs2 => H2 = Hk ∧ b = tst a ∧ (b = true → T G (c1.wp P) PV.R (eval elt (c1.wp P).env) Hk vs2 (fun p H3 _ => p = f a ∧ H3 = Hk) noX)) noX ifs) →
      K (acc ++ (items.filter tst).map f) Hk → CompP G c1 Src (.Name x px) ifs elt K (items.map fun a => .val (it a)) acc Hk vs1
  | [], acc, vs1, _, hK => by
    show K acc Hk
    simpa using hK
  | a :: r, acc, vs1, hs, hK => by
    intro P v hpv
    refine a_name (Cx.wp_ok hc1) hx hpv ?_
    refine testP_mono (hs P a vs1 (.head _)) fun b H2 vs2 ⟨e1, e2, e3⟩ => ?_
    subst e1
    have ih := fun acc vs2 => comp_map hc1 (ifs := ifs) (elt := elt) (K := K) (px := px) hx hsrc r acc vs2 fun P a vs1 ha => hs P a vs1 (.tail _ ha)
    refine ⟨fun hb => ?_, fun hb => ?_⟩
    · refine t_mono (e3 hb) (fun p H3 vs3 ⟨k1, k2⟩ => ?_) fun _ _ _ x => x
      subst k1
      subst k2
      refine ⟨_, PHeap.Le.refl _, hsrc, ih _ _ ?_⟩
      rw [List.filter_cons, if_pos (e2 ▸ hb)] at hK
      simpa using hK
    · refine ⟨_, PHeap.Le.refl _, hsrc, ih _ _ ?_⟩
      rw [List.filter_cons, if_neg (by rw [← e2, hb]; decide)] at hK
      exact hK
/-- a line between two columns -/
def cutOne (b e : Int) (x : Str) : Str := Txt.rstrip (ssl x (some b) (some e))
def indOf (x : Str) : Int := (x.length : Int) - ((Txt.lstrip x).length : Int)
def leastS (m : Int) (x : Str) : Int := if x.length = 0 then m else min m (indOf x)
def leastL (e : Int) (l : List Str) : Int := l.foldl leastS e
def cutB (xs : List Str) (b e : Int) : List Str :=
  if 0 < leastL e (xs.map (cutOne b e)) ∧ leastL e (xs.map (cutOne b e)) < e then (xs.map (cutOne b e)).map (fun x => ssl x (some (leastL e (xs.map (cutOne b e)))) none) else xs.map (cutOne b e)
theorem len_lstrip (x : Str) : (Txt.lstrip x).length ≤ x.length := le_stripBy _ _ _ _
theorem len_cutOne {b e : Int} {x : Str} : (cutOne b e x).length ≤ x.length := by
  unfold cutOne
  exact Nat.le_trans (len_rstrip _) (len_ssl _ _ _)
theorem len_leastL {e : Int} {l : List Str} (he : -1000000 ≤ e ∧ e ≤ 1000000) (hl : ∀ x ∈ l, x.length ≤ 5000) : -1000000 ≤ leastL e l ∧ leastL e l ≤ 1000000 := by
  unfold leastL
  induction l generalizing e with
  | nil => exact he
  | cons x r ih =>
    rw [List.foldl_cons]
    refine ih ?_ fun y hy => hl y (.tail _ hy)
    have h1 := hl x (.head _)
    have h2 := len_lstrip x
    unfold leastS indOf
    split
    · exact he
    · omega

def g2 (a : Addr) (n : Nat) (b e : Int) : Vars := [("self", .ref a), ("top", .int 0), ("left", .int b), ("bottom", .int (n : Nat)), ("right", .int e), ("strip_indent", .bool true)]
def g2b (a : Addr) (n : Nat) (b e : Int) (a2 : Addr) : Vars := [("self", .ref a), ("top", .int 0), ("left", .int b), ("bottom", .int (n : Nat)), ("right", .int e), ("strip_indent", .bool true), ("block", .ref a2)]
def g2c (a : Addr) (n : Nat) (b e : Int) (a2 : Addr) (i y : PV) : Vars := [("self", .ref a), ("top", .int 0), ("left", .int b), ("bottom", .int (n : Nat)), ("right", .int e), ("strip_indent", .bool true), ("block", .ref a2), ("i", i), ("line", y)]
theorem mid_set {α γ : Type} {f : α → α} {g : α → γ} : ∀ {xs : List α} {k : Nat} {x : α}, xs[k]? = some x → (((xs.take k).map f ++ xs.drop k).map g).set k (g (f x)) = ((xs.take (k + 1)).map f ++ xs.drop (k + 1)).map g
  | [], _, _, h => by simp at h
  | y :: r, 0, x, h => by simp at h; subst h; simp
  | y :: r, k + 1, x, h => by
    have ih := mid_set (f := f) (g := g) (xs := r) (k := k) (x := x) (by simpa using h)
    simp only [List.take_succ_cons, List.drop_succ_cons, List.map_cons, List.cons_append, List.set_cons_succ] at ih ⊢
    rw [ih]
theorem get2d_spec (hG : G.Ok) (hF : GF G) (hc : c.Ok) (hd : c.dp < 500) (hh : c.hd = none) {a d ld li : Addr} {par po : PV} {xs : List Str} {ys : List PV} {b e : Int} (hs : SL H a d ld li par po) (hl : H ld = some (.list (xs.map .str))) (hi : H li = some (.list ys)) (hy : ys.length = xs.length) (hz : xs.length ≤ 1000) (hx : ∀ x ∈ xs, x.length ≤ 5000)
    (hb0 : 0 ≤ b) (hb1 : b ≤ 100000) (he0 : 0 ≤ e) (he1 : e ≤ 100000)
    (h : ∀ a2 d2 ld2 li2 H', PHeap.Le H H' → H a2 = none → H d2 = none → H ld2 = none → SL H' a2 d2 ld2 li2 (.ref a) (.int 0) → H' ld2 = some (.list ((cutB xs b e).map .str)) → Q (.ref a2) H' vs) :
    CallP G c (.ref 539) [.ref a, .int 0, .int b, .int (xs.length : Nat), .int e] [] [] H vs Q E := by
  obtain ⟨t, ho⟩ := hF.d539.at_
  obtain ⟨n534, h534⟩ := hF.t534
  refine CodeP.call (k_defc (bs := g2 a xs.length b e) (bl := g2 a xs.length b e) (ns := ["self", "top", "left", "bottom", "right", "strip_indent"]) (cn := ["indent"]) hG hc ho hF.d539.code (by omega) ?_ rfl (by decide) (by decide) (by rfl) (by decide) (by decide) ?_ (by decide) (by decide) (by decide) fun c' cl hc' e1' e2' e3' e4' e5' e6' e7' e8' => ?_)
  · rintro _ _ (_ | ⟨h1, _ | ⟨h2, _ | ⟨h3, _ | ⟨h4, _ | ⟨h5, _ | _⟩⟩⟩⟩⟩) (_ | _) s X
    refine ⟨[("self", _), ("top", _), ("left", _), ("bottom", _), ("right", _), ("strip_indent", .bool true)], ?_, rfl, .cons h1 (.cons h2 (.cons h3 (.cons h4 (.cons h5 (.cons rfl .nil)))))⟩
    exact binds_K X rfl h534 rfl (by rfl) (by rfl)
  · intro y hy
    simp only [g2, List.mem_cons, List.not_mem_nil, or_false] at hy
    rcases hy with rfl | rfl | rfl | rfl | rfl | rfl
    all_goals exact ⟨rfl, rfl⟩
  · have hd' : c'.hd = none := e3'.trans hh
    obtain ⟨ca, rfl⟩ : ∃ ca, cl = ([("indent", ca)] : List (Str × Addr)) := by
      match cl, e6' with
      | [(_, ca)], e => exact ⟨ca, by simp at e; rw [e]⟩
    have hca : H ca = none := e8' _ (.head _)
    have hH0 : setCells (g2 a xs.length b e) [("indent", ca)] H = H.set ca (.cell none) := rfl
    rw [hH0]
    clear hH0
    obtain ⟨H0, hH0⟩ : ∃ H0, H0 = H.set ca (.cell none) := ⟨_, rfl⟩
    rw [← hH0]
    have le0 : PHeap.Le H H0 := by rw [hH0]; exact le_new (PHeap.Le.refl H) hca
    have hca0 : H0 ca = some (.cell none) := by rw [hH0]; exact PHeap.set_self
    have hs0 : SL H0 a d ld li par po := ⟨le0 _ _ hs.i, le0 _ _ hs.f⟩
    have off : ∀ w, H0 w = none → H w = none := fun w hw => by
      cases q : H w with
      | none => rfl
      | some o => rw [le0 _ _ q] at hw; cases hw
    refine t_cons ?_
    repeat walk_at "w"
    refine m_inst hG (hF.m542 ("part", 502) (by decide)).1 hs0.i hs0.f rfl ?_
    refine ⟨(hF.m542 ("part", 502) (by decide)).2, ?_⟩
    repeat walk_at "w"
    have hxl : (xs.map PV.str).length = xs.length := by simp
    refine part_spec (xs := xs.map PV.str) hG hF hc' (by omega) hd' hs0 (le0 _ _ hl) (le0 _ _ hi) (by rw [hxl]; exact hy) (by rw [hxl]; exact hz) (by rw [hxl]) fun a2 d2 ld2 li2 ys2 H1 k1 k2 k3 k4 k5 k6 k7 k8 => ?_
    have hc1 : H1 ca = some (.cell none) := k1 _ _ hca0
    repeat walk_at "w"
    with_reducible refine' t_assignc (ca := ca) ?a1 ?a2 ?a3 ?a4 ?_
    case a1 => exact hc'
    case a2 => k_dflt (exact rfl)
    case a3 => k_dflt (exact rfl)
    case a4 => rw [e5']; rfl
    repeat walk_at "w"
    refine ⟨none, hc1, ?_⟩
    repeat walk_at "w"
    obtain ⟨H2, hH2⟩ : ∃ H2, H2 = H1.set ca (.cell (some (.int e))) := ⟨_, rfl⟩
    rw [← hH2]
    have nldca : ld2 ≠ ca := fun w => by rw [w, hc1] at k6; cases k6
    have na2l : a2 ≠ ld2 := fun w => by have := k5.i; rw [w, k6] at this; cases this
    have nd2l : d2 ≠ ld2 := fun w => by have := k5.f; rw [w, k6] at this; cases this
    have na2c : a2 ≠ ca := fun w => by have := k5.i; rw [w, hc1] at this; cases this
    have nd2c : d2 ≠ ca := fun w => by have := k5.f; rw [w, hc1] at this; cases this
    have gi : ∀ {Hk}, PHeap.Le ((H1.del ld2).del ca) Hk → Hk a2 = some (.inst 542 d2) := fun L => L _ _ (del_get na2c (del_get na2l k5.i))
    have gf : ∀ {Hk}, PHeap.Le ((H1.del ld2).del ca) Hk → Hk d2 = some (slf ld2 li2 (.ref a) (.int 0)) := fun L => L _ _ (del_get nd2c (del_get nd2l k5.f))
    have L2 : PHeap.Le ((H1.del ld2).del ca) H2 := by rw [hH2]; exact PHeap.Le.set (PHeap.Le.trans PHeap.del_le PHeap.del_le) (by unfold PHeap.del; simp)
    have d2' : H2 ld2 = some (.list (xs.map .str)) := by rw [hH2]; exact (PHeap.set_ne nldca).trans k6
    have c2' : H2 ca = some (.cell (some (.int e))) := by rw [hH2]; exact PHeap.set_self
    refine t_forenum (l := ld2) (n := xs.length) hc' e4' hd' (fun _ => rfl) rfl rfl (fun k Hk vs1 => PHeap.Le ((H1.del ld2).del ca) Hk ∧ Hk ld2 = some (.list ((((xs.take k).map (cutOne b e)) ++ xs.drop k).map .str)) ∧
      Hk ca = some (.cell (some (.int (leastL e ((xs.take k).map (cutOne b e)))))) ∧ (vs1 = g2b a xs.length b e a2 ∨ ∃ i y, vs1 = g2c a xs.length b e a2 i y)) ?_ ?_ ?_ ?_
    · repeat walk_at "w"
      refine g_inst hG (hF.a542 "data" (by decide)).1 (gi L2) (gf L2) rfl rfl ?_
      repeat walk_at "w"
      refine k_enum d2' fun q H3 ⟨e1, it, H4, oi, g1, g2, g3, g4, g5, g6, g7, g8⟩ => ?_
      subst g8
      exact ⟨e1, it, H4, oi, g1, g2, g3, g4, g5, g6, g7, L2, by simpa using d2', c2', .inl rfl⟩
    · rintro k Hk vs1 ⟨u1, u2, u3, u4⟩
      refine ⟨_, u2, ?_⟩
      simp
      omega
    · rintro k Hk vs1 ys y hk ⟨u1, u2, u3, u4⟩ hys hy P t htn
      rw [u2] at hys
      cases hys
      obtain ⟨x, hxk⟩ : ∃ x, xs[k]? = some x := ⟨xs[k], by simp [hk]⟩
      have hyx : y = .str x := by
        rw [List.map_append, List.getElem?_append_right (by simp; omega)] at hy
        simp [hxk, Nat.min_eq_left (Nat.le_of_lt hk)] at hy
        exact hy.symm
      subst hyx
      have hxm : x ∈ xs := List.mem_of_getElem? hxk
      have hxx := hx x hxm
      have hput : putV "line" (.str x) (putV "i" (.int (k : Int)) vs1) = g2c a xs.length b e a2 (.int (k : Int)) (.str x) := by
        rcases u4 with rfl | ⟨i, y, rfl⟩ <;> rfl
      rw [hput]
      obtain ⟨H5, hH5⟩ : ∃ H5, H5 = Hk.set t (.tup [.int k, .str x]) := ⟨_, rfl⟩
      rw [← hH5]
      have L5 : PHeap.Le ((H1.del ld2).del ca) H5 := by rw [hH5]; exact le_new u1 htn
      have v2 : H5 ld2 = some (.list ((((xs.take k).map (cutOne b e)) ++ xs.drop k).map .str)) := by rw [hH5]; exact (PHeap.set_ne (ne_none u2 htn)).trans u2
      have v3 : H5 ca = some (.cell (some (.int (leastL e ((xs.take k).map (cutOne b e)))))) := by rw [hH5]; exact (PHeap.set_ne (ne_none u3 htn)).trans u3
      refine t_cons ?_
      refine t_assigns2 rfl rfl ?_
      repeat walk_at "w"
      refine slc_str (lo := some b) (hi := some e) rfl rfl (by rw [sizeLine_eq]; omega) ?_
      have hsl := len_ssl x (some b) (some e)
      refine m_str PySem.F.slot_str_rstrip rfl ?_
      refine ⟨trivial, ?_⟩
      repeat walk_at "w"
      refine k_rstrip (by rw [sizeLine_eq]; omega) ?_
      repeat walk_at "w"
      intro vv hvv
      refine a_sub hvv ?_
      repeat walk_at "w"
      refine g_inst hG (hF.a542 "data" (by decide)).1 (gi L5) (gf L5) rfl rfl ?_
      repeat walk_at "w"
      have hlen : ((((xs.take k).map (cutOne b e)) ++ xs.drop k).map PV.str).length = xs.length := by simp; omega
      refine sto_list v2 (by omega) (by omega) (by rw [hlen]; omega) ?_
      rw [show ((k : Int)).toNat = k by omega, show PV.str (Txt.rstrip (ssl x (some b) (some e))) = PV.str (cutOne b e x) from rfl, mid_set (f := cutOne b e) (g := PV.str) hxk]
      obtain ⟨H6, hH6⟩ : ∃ H6, H6 = H5.set ld2 (.list ((((xs.take (k + 1)).map (cutOne b e)) ++ xs.drop (k + 1)).map .str)) := ⟨_, rfl⟩
      rw [← hH6]
      have L6 : PHeap.Le ((H1.del ld2).del ca) H6 := by rw [hH6]; exact PHeap.Le.set L5 (by unfold PHeap.del; simp)
      have x2 : H6 ld2 = some (.list ((((xs.take (k + 1)).map (cutOne b e)) ++ xs.drop (k + 1)).map .str)) := by rw [hH6]; exact PHeap.set_self
      have x3 : H6 ca = some (.cell (some (.int (leastL e ((xs.take k).map (cutOne b e)))))) := by rw [hH6]; exact (PHeap.set_ne (Ne.symm nldca)).trans v3
      have hst : leastL e ((xs.take (k + 1)).map (cutOne b e)) = leastS (leastL e ((xs.take k).map (cutOne b e))) (cutOne b e x) := by
        rw [List.take_add_one, hxk]
        simp [leastL]
      have hbd := len_leastL (e := e) (l := (xs.take k).map (cutOne b e)) (by omega) (fun y hy => by
        obtain ⟨z, hz1, rfl⟩ := List.mem_map.mp hy
        exact Nat.le_trans len_cutOne (hx z (List.mem_of_mem_take hz1)))
      have hYl : (cutOne b e x).length ≤ 5000 := Nat.le_trans len_cutOne hxx
      refine a_name (p := .str (cutOne b e x)) (Cx.wp_ok hc') rfl hvv ?_
      have hput2 : putV "line" (.str (cutOne b e x)) (g2c a xs.length b e a2 (.int (k : Int)) (.str x)) = g2c a xs.length b e a2 (.int (k : Int)) (.str (cutOne b e x)) := rfl
      rw [hput2]
      generalize cutOne b e x = Y at *
      repeat walk_at "w"
      refine tr_str (by rw [sizeLine_eq]; omega) ?_
      refine ⟨fun hq => ?_, fun hq => ?_⟩
      · have hY : Y.length ≠ 0 := by simpa using hq
        refine t_cons ?_
        with_reducible refine' t_assignc (ca := ca) ?a1 ?a2 ?a3 ?a4 ?_
        case a1 => exact Cx.wp_ok hc'
        case a2 => k_dflt (exact rfl)
        case a3 => k_dflt (exact rfl)
        case a4 => show c'.cl.lookup _ = _; rw [e5']; rfl
        repeat walk_at "w"
        refine t_cell (ca := ca) (p := .int (leastL e ((xs.take k).map (cutOne b e)))) (Cx.wp_ok hc') rfl (by show c'.cl.lookup _ = _; rw [e5']; rfl) x3 ?_
        repeat walk_at "w"
        refine k_lens (by rw [sizeLine_eq]; omega) ?_
        repeat walk_at "w"
        refine m_str PySem.F.slot_str_lstrip rfl ?_
        refine ⟨trivial, ?_⟩
        repeat walk_at "w"
        refine k_lstrip (by rw [sizeLine_eq]; omega) ?_
        repeat walk_at "w"
        have hls := len_lstrip Y
        refine k_lens (by rw [sizeLine_eq]; omega) ?_
        repeat walk_at "w"
        refine k_min2 hd' ?_
        repeat walk_at "w"
        refine ⟨_, x3, ?_⟩
        repeat walk_at "w"
        refine ⟨_, PHeap.Le.refl _, PHeap.Le.set L6 (by unfold PHeap.del; simp), (PHeap.set_ne nldca).trans x2, ?_, .inr ⟨_, _, rfl⟩⟩
        rw [PHeap.set_self, hst]
        unfold leastS indOf
        rw [if_neg hY]
      · have hY : Y.length = 0 := by simpa using hq
        repeat walk_at "w"
        refine ⟨_, PHeap.Le.refl _, L6, x2, ?_, .inr ⟨_, _, rfl⟩⟩
        rw [x3, hst]
        unfold leastS
        rw [if_pos hY]
    · rintro H7 vs1 ⟨u1, u2, u3, u4⟩
      simp only [List.take_length, List.drop_length, List.append_nil] at u2 u3
      have hbd := len_leastL (e := e) (l := xs.map (cutOne b e)) (by omega) (fun y hy => by
        obtain ⟨z, hz1, rfl⟩ := List.mem_map.mp hy
        exact Nat.le_trans len_cutOne (hx z hz1))
      have hcl : ∀ y ∈ xs.map (cutOne b e), y.length ≤ 5000 := fun y hy => by
        obtain ⟨z, hz1, rfl⟩ := List.mem_map.mp hy
        exact Nat.le_trans len_cutOne (hx z hz1)
      have hcn : (xs.map (cutOne b e)).length = xs.length := by simp
      have hcut : cutB xs b e = if 0 < leastL e (xs.map (cutOne b e)) ∧ leastL e (xs.map (cutOne b e)) < e then (xs.map (cutOne b e)).map (fun x => ssl x (some (leastL e (xs.map (cutOne b e)))) none) else xs.map (cutOne b e) := rfl
      generalize xs.map (cutOne b e) = zs at *
      generalize leastL e zs = m at *
      have fin : ∀ Hk ld3, PHeap.Le (((H1.del ld2).del ca).del d2) Hk → H ld3 = none → Hk d2 = some (slf ld3 li2 (.ref a) (.int 0)) → Hk ld3 = some (.list ((cutB xs b e).map .str)) → ∃ H2, PHeap.Le H2 Hk ∧ Q (.ref a2) H2 vs := fun Hk ld3 f1 f2 f3 f4 => by
        refine ⟨Hk, PHeap.Le.refl _, h a2 d2 ld3 li2 Hk (fun w o hw => ?_) (off _ k2) (off _ k3) f2 ⟨f1 _ _ (del_get ?_ (del_get na2c (del_get na2l k5.i))), f3⟩ f4⟩
        · have hw0 := le0 _ _ hw
          refine f1 _ _ (del_get (ne_none hw0 k3) (del_get (fun e => by rw [e, hca] at hw; cases hw) (del_get (ne_none hw0 k4) (k1 _ _ hw0))))
        · intro w
          have := k5.i
          rw [w, k5.f] at this
          cases this
      rcases u4 with rfl | ⟨i, y, rfl⟩
      all_goals
        refine t_cons ?_
        repeat walk_at "w"
        refine ⟨fun _ => ?_, fun q => (nomatch q)⟩
        repeat walk_at "w"
        refine t_tcmp2 rfl ?_
        repeat walk_at "w"
        refine t_cell (ca := ca) (p := .int m) hc' rfl (by rw [e5']; rfl) u3 ?_
        repeat walk_at "w"
        refine ⟨fun hq => ?_, fun hq => ?_⟩
        · have hm : ¬ (0 < m ∧ m < e) := fun q => absurd q.1 (of_decide_eq_false hq)
          refine ⟨fun q => (nomatch q), fun _ => ?_⟩
          refine ⟨fun q => (nomatch q), fun _ => ?_⟩
          repeat walk_at "w"
          refine fin H7 ld2 ?_ (off _ k4) (gf u1) ?_
          · exact PHeap.Le.trans PHeap.del_le u1
          · rw [hcut, if_neg hm]; exact u2
        · have hm0 : 0 < m := of_decide_eq_true hq
          repeat walk_at "w"
          refine ⟨fun hq2 => ?_, fun hq2 => ?_⟩
          · have hm1 : m < e := of_decide_eq_true hq2
            repeat walk_at "w"
            refine ⟨fun _ => ?_, fun q => (nomatch q)⟩
            refine t_cons ?_
            with_reducible refine' t_setattr ?ha ?_
            case ha => k_dflt (exact rfl)
            with_reducible refine' t_listcomp (cl := ([("indent", ca)] : List (Str × Addr))) hc' hd' ?f1 ?f2 ?f3 ?f4 ?f5 ?f6 ?_
            case f1 => exact closureFor_of (by rw [show c'.env.cells = ([("indent", ca)] : List (Str × Addr)) from e5']; rfl)
            case f2 => decide
            case f3 => rfl
            case f4 => decide
            case f5 => decide
            case f6 => exact fun _ => rfl
            repeat walk_at "w"
            refine g_inst hG (hF.a542 "data" (by decide)).1 (gi u1) (gf u1) rfl rfl ?_
            refine iter_list u2 ⟨by simp; rw [hcn, sizeLine_eq]; omega, u2, fun c1 hc1 g1 g2 g3 g4 => ?_⟩
            have him : (zs.map PV.str).map Itm.val = zs.map (fun z => Itm.val (.str z)) := by rw [List.map_map]; rfl
            rw [him]
            refine comp_map (it := .str) (f := fun z => .str (ssl z (some m) none)) (tst := fun _ => true) (Hk := H7) hc1 rfl u2 zs [] [] (fun P z vs1 hz => ⟨rfl, rfl, fun _ => ?_⟩) ?_
            · have hzl := hcl z hz
              refine t_slc ?_
              refine t_local (p := .str z) (Cx.wp_ok hc1) rfl (by rw [putV_lookup]; rfl) ?_
              refine t_part ?_
              refine t_cell (ca := ca) (p := .int m) (Cx.wp_ok hc1) rfl (by show c1.cl.lookup _ = _; rw [g4]; rfl) u3 ?_
              refine t_part0 ?_
              exact slc_str (lo := some m) (hi := none) rfl rfl (by rw [sizeLine_eq]; omega) ⟨rfl, rfl⟩
            · intro d3 hd3
              have nd3 : d2 ≠ d3 := ne_none (gf u1) hd3
              repeat walk_at "w"
              refine s_inst hG (hF.a542 "data" (by decide)).2 (gi (le_new u1 hd3)) ((PHeap.set_ne nd3).trans (gf u1)) (by simp) ?_
              have hz3 : H d3 = none := by
                cases q : H d3 with
                | none => rfl
                | some o =>
                  have hw0 := le0 _ _ q
                  rw [u1 _ _ (del_get (fun e => by rw [e, hca] at q; cases q) (del_get (ne_none hw0 k4) (k1 _ _ hw0)))] at hd3
                  cases hd3
              repeat walk_at "w"
              refine fin _ d3 (PHeap.Le.set (PHeap.Le.trans PHeap.del_le (le_new u1 hd3)) (by unfold PHeap.del; simp)) hz3 PHeap.set_self ?_
              rw [PHeap.set_ne (Ne.symm nd3), PHeap.set_self, hcut, if_pos ⟨hm0, hm1⟩, List.filter_eq_self.mpr (fun _ _ => rfl), List.map_map]
              rfl
          · have hm : ¬ (0 < m ∧ m < e) := fun q => absurd q.2 (of_decide_eq_false hq2)
            refine ⟨fun q => (nomatch q), fun _ => ?_⟩
            repeat walk_at "w"
            refine fin H7 ld2 ?_ (off _ k4) (gf u1) ?_
            · exact PHeap.Le.trans PHeap.del_le u1
            · rw [hcut, if_neg hm]; exact u2
end
section
variable {G : Gl} {S : Scope} {c : Cx S} {H : PHeap} {vs : Vars} {E : PX → PHeap → Vars → Prop} {Q : PV → PHeap → Vars → Prop}
theorem tr_tup {QB : Bool → PHeap → Vars → Prop} {a : Addr} {xs : List PV} (e : H a = some (.tup xs)) (hz : xs.length ≤ 100000) (h : QB (!xs.isEmpty) H vs) : TruP G c (.ref a) H vs QB E := by
  rintro _ rfl s ⟨h₀, m, news, S0, V⟩
  obtain ⟨us, n, hm, hr, hl⟩ := S0.tup e
  refine truthy_tuple hl (by rw [List.size_toArray, hr.len]; omega) ?_
  have : us.toArray.isEmpty = xs.isEmpty := by
    cases hr with
    | nil => rfl
    | cons _ _ => rfl
  first
    | rw [this]
    | skip
  exact ⟨_, H, vs, by first | rfl | (rw [← this]; rfl), Sat.tok ⟨h₀, m, news, S0, V⟩, h⟩

/-- what a record comes to -/
inductive Res where
  | nothing
  | ref (msg : Str) (off : Int) (cc : List (Int × Int))
  | row (cc : List (Int × Int)) (cells : List (Nat × List Str))
def cellsOf (xs : List Str) : List (Int × Int) → List Nat → List (Nat × List Str)
  | (b, e) :: r, k :: ks => (k, cutB xs b e) :: cellsOf xs r ks
  | _, _ => []
def wideCs (init : List (Int × Int)) (b e m : Int) (xs : List Str) : List (Int × Int) := if byd b e xs = [] then init ++ [(b, e)] else init ++ [(b, reach m (byd b e xs))]
def wideCc (cinit : List (Int × Int)) (cz b e m : Int) (xs : List Str) : List (Int × Int) := cinit ++ [(cz, reach m (byd b e xs))]
/-- behind the runs -/
def recC (cinit : List (Int × Int)) (cz m : Int) (init : List (Int × Int)) (b e : Int) (xs : List Str) (first : Int) : Res :=
  match margs xs (init ++ [(b, e)]) with
  | some n => .ref (msg3 (first + n + 1)) (first + n) (cinit ++ [(cz, m)])
  | none => match align (wideCc cinit cz b e m xs) (wideCs init b e m xs) 0 with
    | none => .ref (msg2 (first + 2)) (first + 1) (wideCc cinit cz b e m xs)
    | some ks => .row (wideCc cinit cz b e m xs) (cellsOf xs (wideCs init b e m xs) ks)
def recF (cinit : List (Int × Int)) (cz m be : Int) (xs : List Str) (first : Int) : Option (List (Int × Int) × Int × Int × Int) → Res
  | none => if xs = [] then .nothing else recC cinit cz m cinit cz m xs first
  | some (init, lb, le, off) => if le = be then recC cinit cz m init lb m xs first else .ref (msg1 (off + 1)) off (cinit ++ [(cz, m)])

theorem align_len {ccs : List (Int × Int)} : ∀ {cs : List (Int × Int)} {i : Nat} {ks : List Nat}, align ccs cs i = some ks → ks.length = cs.length
  | [], i, ks, h => by simp [align] at h; subst h; rfl
  | (s, e) :: r, i, ks, h => by
    unfold align at h
    split at h
    · split at h
      · obtain ⟨ks', h1, h2⟩ := Option.map_eq_some_iff.mp h
        subst h2
        simp [align_len h1]
      · cases h
    · cases h

/-- the cells of a row, told -/
inductive RowP (H : PHeap) (first : Int) : List PV → List (Nat × List Str) → Prop
  | nil : RowP H first [] []
  | cons {a s d ld li : Addr} {po : PV} {k : Nat} {bl : List Str} {ps cs} : H a = some (.list [.int 0, .int (k : Nat), .int first, .ref s]) → SL H s d ld li .none po → H ld = some (.list (bl.map .str)) → RowP H first ps cs → RowP H first (.ref a :: ps) ((k, bl) :: cs)
theorem RowP.le {H H' : PHeap} {first : Int} (hl : H.Le H') : ∀ {ps cs}, RowP H first ps cs → RowP H' first ps cs
  | _, _, .nil => .nil
  | _, _, .cons h1 h2 h3 r => .cons (hl _ _ h1) ⟨hl _ _ h2.i, hl _ _ h2.f⟩ (hl _ _ h3) (r.le hl)
theorem RowP.app {H : PHeap} {first : Int} {ps2 cs2} (h2 : RowP H first ps2 cs2) : ∀ {ps cs}, RowP H first ps cs → RowP H first (ps ++ ps2) (cs ++ cs2)
  | _, _, .nil => h2
  | _, _, .cons a b d r => .cons a b d (RowP.app h2 r)
theorem RowP.keep {H H' : PHeap} {first : Int} {w : Addr} {z : PV} {zs : List PV} (hk : ∀ b o, b ≠ w → H b = some o → H' b = some o) (hw : H w = some (.list (z :: zs))) (hz : ∀ x : Str, z ≠ .str x) {ps : List PV} {cs : List (Nat × List Str)} (hn : PV.ref w ∉ ps) (h : RowP H first ps cs) : RowP H' first ps cs := by
  induction h with
  | nil => exact .nil
  | @cons a s d ld li po k bl ps cs h1 h2 h3 _ ih =>
    rw [List.mem_cons, not_or] at hn
    refine .cons (hk _ _ (fun e => hn.1 (by rw [e])) h1) ⟨hk _ _ (fun e => ?_) h2.i, hk _ _ (fun e => ?_) h2.f⟩ (hk _ _ (fun e => ?_) h3) (ih hn.2)
    · have := h2.i; rw [e, hw] at this; cases this
    · have := h2.f; rw [e, hw] at this; cases this
    · rw [e, hw] at h3
      cases bl with
      | nil => simp at h3
      | cons x r => simp at h3; exact hz x h3.1
theorem RowAt.keep {H H' : PHeap} {off : Int} {w : Addr} {z : PV} {zs : List PV} (hk : ∀ b o, b ≠ w → H b = some o → H' b = some o) (hw : H w = some (.list (z :: zs))) : ∀ {ps ks}, PV.ref w ∉ ps → RowAt H off ps ks → RowAt H' off ps ks
  | _, _, _, .nil => .nil
  | _, _, hn, .cons h1 h2 r => by
    rw [List.mem_cons, not_or] at hn
    refine .cons (hk _ _ (fun e => hn.1 (by rw [e])) h1) (hk _ _ (fun e => ?_) h2) (RowAt.keep hk hw hn.2 r)
    rw [e, hw] at h2; cases h2
theorem reach_le {b m k : Int} {e : Int} {xs : List Str} (hb : 0 ≤ b ∧ b ≤ 1000) (hm : 0 ≤ m ∧ m ≤ 1000) (hx : ∀ x ∈ xs, x.length ≤ 5000) : 0 ≤ reach m (byd b e xs) ∧ reach m (byd b e xs) ≤ 6000 := by
  have h1 : ∀ y ∈ byd b e xs, y ≤ 6000 := by
    induction xs with
    | nil => intro y hy; cases hy
    | cons x r ih =>
      intro y hy
      have ih' := ih fun z hz => hx z (.tail _ hz)
      unfold byd at hy
      split at hy
      · exact ih' y hy
      · rcases List.mem_cons.mp hy with e | hy
        · have := hx x (.head _)
          have h2 := len_rstrip (ssl x (some b) none)
          have h3 := len_ssl x (some b) none
          omega
        · exact ih' y hy
  have h2 : ∀ (l : List Int) (m : Int), 0 ≤ m ∧ m ≤ 6000 → (∀ y ∈ l, y ≤ 6000) → 0 ≤ reach m l ∧ reach m l ≤ 6000 := by
    intro l
    induction l with
    | nil => intro m hm _; exact hm
    | cons y r ih =>
      intro m hm hy
      show 0 ≤ reach (max m y) r ∧ reach (max m y) r ≤ 6000
      have := hy y (.head _)
      exact ih _ (by omega) fun z hz => hy z (.tail _ hz)
  exact h2 _ _ (by omega) h1
end
section
variable {G : Gl} {S : Scope} {c : Cx S} {H : PHeap} {vs : Vars} {E : PX → PHeap → Vars → Prop} {Q : PV → PHeap → Vars → Prop}
theorem RowAt.noRef {H : PHeap} {off : Int} {r : Addr} {ps : List PV} {ks : List Nat} (h : RowAt H off ps ks) (hr : H r = some (.list ps)) : PV.ref r ∉ ps := by
  have : ∀ {ps' ks'}, RowAt H off ps' ks' → PV.ref r ∈ ps' → ∃ k : Nat, ∃ l, H r = some (.list [.int 0, .int k, .int off, .ref l]) := by
    intro ps' ks' h'
    induction h' with
    | nil => intro h; cases h
    | cons h1 _ _ ih =>
      intro hm
      rcases List.mem_cons.mp hm with e | hm
      · cases e; exact ⟨_, _, h1⟩
      · exact ih hm
  intro hm
  obtain ⟨k, l, h2⟩ := this h hm
  rw [hr] at h2
  cases h2
  cases h
/-- without some addresses -/
def dM (M : List Addr) (X : PHeap) : PHeap := fun z => if z ∈ M then none else X z
theorem dM_le {M : List Addr} {X Y : PHeap} (h : X.Le Y) : PHeap.Le (dM M X) (dM M Y) := fun z o e => by
  unfold dM at e ⊢
  split at e
  · cases e
  · rename_i hz; rw [if_neg hz]; exact h _ _ e
theorem dM_get {M : List Addr} {X : PHeap} {z : Addr} {o : PO} (h : z ∉ M) (e : X z = some o) : dM M X z = some o := by unfold dM; rw [if_neg h]; exact e
theorem dM_sub {M : List Addr} {X : PHeap} : PHeap.Le (dM M X) X := fun z o e => by
  unfold dM at e
  split at e
  · cases e
  · exact e
theorem dM_keep {M : List Addr} {X Y : PHeap} (h : ∀ z o, z ∉ M → X z = some o → Y z = some o) : PHeap.Le (dM M X) (dM M Y) := fun z o e => by
  unfold dM at e ⊢
  split at e
  · cases e
  · rename_i hz; rw [if_neg hz]; exact h z o hz e
theorem le_dd {H H' : PHeap} {a b : Addr} (h : H.Le H') : PHeap.Le ((H.del a).del b) ((H'.del a).del b) := del_le' (del_le' h)
theorem dd_get {H : PHeap} {a b w : Addr} {o : PO} (h1 : w ≠ a) (h2 : w ≠ b) (h : H w = some o) : ((H.del a).del b) w = some o := del_get h2 (del_get h1 h)
theorem Cols.le {H H' : PHeap} {l : Addr} {cs : List (Int × Int)} (hl : H.Le H') (h : Cols H l cs) : Cols H' l cs := by
  obtain ⟨ps, h1, h2⟩ := h
  exact ⟨ps, hl _ _ h1, h2.le hl⟩
theorem Cols.put {H : PHeap} {l w : Addr} {cs : List (Int × Int)} {zs : List PV} {o : PO} (h : Cols H l cs) (hw : H w = some (.list zs)) (hn : l ≠ w) : Cols (H.set w o) l cs := by
  obtain ⟨ps, h1, h2⟩ := h
  exact ⟨ps, (PHeap.set_ne hn).trans h1, ColsAt.set hw h2⟩
theorem Bd.sub {cs cs' : List (Int × Int)} (h : Bd cs) (hs : ∀ q ∈ cs', q ∈ cs) : Bd cs' := fun q hq => h q (hs q hq)

abbrev prA (p a0 q r : Addr) (first : Int) (sp : PV) : Vars := [("self", .ref p), ("lines", .ref a0), ("start", .int first), ("spanline", sp), ("columns", .ref q), ("row", .ref r)]
abbrev prB (p a0 q r : Addr) (sp st i e cb : PV) : Vars := [("self", .ref p), ("lines", .ref a0), ("start", st), ("spanline", sp), ("columns", .ref q), ("row", .ref r), ("i", i), ("end", e), ("cellblock", cb)]
theorem lsl_none {α : Type} {l : List α} : lsl l none none = l := by
  unfold lsl
  simp [kms_lo, kms_hi]
theorem wide_bd {init : List (Int × Int)} {b m : Int} {xs : List Str} (h : Bd (init ++ [(b, m)])) (hx : ∀ x ∈ xs, x.length ≤ 5000) : ∀ q ∈ wideCs init b m m xs, 0 ≤ q.1 ∧ q.1 ≤ 1000 ∧ 0 ≤ q.2 ∧ q.2 ≤ 6000 := by
  have hb := h (b, m) (by simp)
  have hr := reach_le (b := b) (m := m) (e := m) (k := 0) (xs := xs) ⟨hb.1, hb.2.1⟩ hb.2.2 hx
  intro q hq
  unfold wideCs at hq
  split at hq
  · have := h q hq
    omega
  · rcases List.mem_append.mp hq with hq | hq
    · have := h q (List.mem_append_left _ hq)
      omega
    · rw [List.mem_singleton.mp hq]
      exact ⟨hb.1, hb.2.1, hr.1, hr.2⟩
theorem row_spec (hG : G.Ok) (hF : GF G) (hc : c.Ok) (hd : c.dp < 400) (hh : c.hd = none) {p dp lc tl a0 d0 ld li : Addr} {par po sp : PV} {fs : Vars} {cinit : List (Int × Int)} {cz m be first : Int} {xs : List Str} {ys tps : List PV} {span : Option (List (Int × Int) × Int × Int × Int)}
    (hp1 : H p = some (.inst 237 dp)) (hp2 : H dp = some (.dict fs)) (hfc : fs.lookup ("columns" : Str) = some (.ref lc)) (hfb : fs.lookup ("border_end" : Str) = some (.int be)) (hft : fs.lookup ("table" : Str) = some (.ref tl)) (hfm : ∀ q ∈ me237, fs.lookup q.1 = none)
    (hcc : Cols H lc (cinit ++ [(cz, m)])) (hcl : cinit.length ≤ 50) (hbd : Bd (cinit ++ [(cz, m)]))
    (hs : SL H a0 d0 ld li par po) (hld : H ld = some (.list (xs.map .str))) (hli : H li = some (.list ys)) (hnli : li ≠ lc) (hy : ys.length = xs.length) (hxl : xs.length ≤ 1000) (hx : ∀ x ∈ xs, x.length ≤ 5000)
    (M : List Addr) (hM : ∀ z ∈ M, ∃ o, H z = some o) (htM : tl ∈ M) (htl : H tl = some (.list tps)) (htz : tps.length ≤ 1000) (hne : lc ≠ tl) (ho0 : 0 ≤ first) (ho1 : first < 10000)
    (hsp : (sp = .none ∧ span = none) ∨ ∃ t x off init lb le, sp = .ref t ∧ H t = some (.tup [.str x, .int off]) ∧ x.length ≤ 5000 ∧ 0 ≤ off ∧ off < 100000 ∧ PC x 0 (init ++ [(lb, le)]) ∧ Bd (init ++ [(lb, le)]) ∧ init.length ≤ 50 ∧ span = some (init, lb, le, off))
    (h0 : recF cinit cz m be xs first span = .nothing → Q .none H vs)
    (h1 : ∀ msg off cc, recF cinit cz m be xs first span = .ref msg off cc → ∀ d H', PHeap.Le (H.del lc) H' → Cols H' lc cc → H' d = none → E (.own 149 d) (H'.set d (refus msg off)) vs)
    (h2 : ∀ cc cells, recF cinit cz m be xs first span = .row cc cells → ∀ rl ps H', PHeap.Le ((H.del lc).del tl) H' → Cols H' lc cc → H' tl = some (.list (tps ++ [.ref rl])) → H' rl = some (.list ps) → H rl = none → RowP (dM M H') first ps cells → Q .none H' vs) :
    CallP G c (.ref 222) [.ref p, .ref a0, .int first, sp] [] [] H vs Q E := by
  obtain ⟨t, ho⟩ := hF.d222.at_
  obtain ⟨n215, h215⟩ := hF.t215
  refine CodeP.call (k_def (bs := [("self", .ref p), ("lines", .ref a0), ("start", .int first), ("spanline", sp)]) (ns := ["self", "lines", "start", "spanline"]) hG hc ho hF.d222.code (by omega) ?_ rfl (by decide) (by decide) (by decide) (by decide) (by decide) (by decide) fun c' hc' e1' e2' e3' e4' e5' => ?_)
  · rintro _ _ (_ | ⟨h1, _ | ⟨h2, _ | ⟨h3, _ | ⟨h4, _ | _⟩⟩⟩⟩) (_ | _) s X
    refine ⟨[("self", _), ("lines", _), ("start", _), ("spanline", _)], ?_, rfl, .cons h1 (.cons h2 (.cons h3 (.cons h4 .nil)))⟩
    exact binds_K X rfl h215 rfl (by rfl) (by rfl)
  · have hd' : c'.hd = none := e3'.trans hh
    have hbm := hbd (cz, m) (by simp)
    have nplc : p ≠ lc := fun w => by obtain ⟨z, hz, _⟩ := hcc; rw [← w, hp1] at hz; cases hz
    have ndplc : dp ≠ lc := fun w => by obtain ⟨z, hz, _⟩ := hcc; rw [← w, hp2] at hz; cases hz
    have nalc : a0 ≠ lc := fun w => by obtain ⟨z, hz, _⟩ := hcc; rw [← w, hs.i] at hz; cases hz
    have ndlc : d0 ≠ lc := fun w => by obtain ⟨z, hz, _⟩ := hcc; rw [← w, hs.f] at hz; cases hz
    have nldlc : ld ≠ lc := fun w => by
      obtain ⟨z, hz, hz2⟩ := hcc
      rw [← w, hld] at hz
      cases hz
      cases xs with
      | nil => have := hz2.len; simp at this
      | cons x r =>
        cases cinit with
        | nil => cases hz2
        | cons _ _ => cases hz2
    have rest : ∀ (H1 : PHeap) (q : Addr) (ini : List (Int × Int)) (b : Int) (vs1 : Vars), PHeap.Le H H1 → H q = none → Cols H1 q (ini ++ [(b, m)]) → Bd (ini ++ [(b, m)]) → ini.length ≤ 50 → recF cinit cz m be xs first span = recC cinit cz m ini b m xs first →
        vs1 = ([("self", .ref p), ("lines", .ref a0), ("start", .int first), ("spanline", sp), ("columns", .ref q)] : Vars) → T G c' PF.R (execs ((dBody (methAt 13 6)).drop 2) c'.env) H1 vs1 (RetQ Q vs) (fun x H1 _ => E x H1 vs) := by
      rintro H1 q ini b _ L1 hqn hq hbq hil hrec rfl
      have nqlc : q ≠ lc := fun w => by obtain ⟨z, hz, _⟩ := hcc; rw [w, hz] at hqn; cases hqn
      have L1q : PHeap.Le H (H1.del q) := fun w o hw => del_get (fun e => by rw [e, hqn] at hw; cases hw) (L1 _ _ hw)
      have hlcs : lc ≠ tl := hne
      refine t_cons ?_
      repeat walk_at "w"
      refine m_inst hG (hF.m237 ("check_columns", 229) (by decide)).1 (L1 _ _ hp1) (L1 _ _ hp2) (hfm ("check_columns", 229) (by decide)) ?_
      refine ⟨(hF.m237 ("check_columns", 229) (by decide)).2, ?_⟩
      repeat walk_at "w"
      refine check_spec (cs := ini ++ [(b, m)]) (ccs := cinit ++ [(cz, m)]) (init := ini) (cinit := cinit) (b := b) (e := m) (cz := cz) (m := m) (xs := xs) hG hF hc' (by omega) hd' (L1 _ _ hp1) (L1 _ _ hp2) hfc (hcc.le L1) rfl (by simp; omega) ⟨L1 _ _ hs.i, L1 _ _ hs.f⟩ (L1 _ _ hld) hxl hx hq rfl (by simp; omega) nqlc ho0 (by omega) ?_ ?_
      · intro n hn d H' k1 k2
        exact h1 _ _ _ (by rw [hrec, recC, hn]) d H' (PHeap.Le.trans PHeap.del_le (PHeap.Le.trans L1q k1)) (hcc.le (PHeap.Le.trans L1q k1)) k2
      · intro hn H2 k1 k2 k3
        have L2 : PHeap.Le (H.del lc) H2 := PHeap.Le.trans (del_le' L1q) k1
        have gp : ∀ {Hk}, PHeap.Le H2 Hk → Hk p = some (.inst 237 dp) := fun L => L _ _ (L2 _ _ (del_get nplc hp1))
        have gd : ∀ {Hk}, PHeap.Le H2 Hk → Hk dp = some (.dict fs) := fun L => L _ _ (L2 _ _ (del_get ndplc hp2))
        have gs : ∀ {Hk}, PHeap.Le H2 Hk → SL Hk a0 d0 ld li par po := fun L => ⟨L _ _ (L2 _ _ (del_get nalc hs.i)), L _ _ (L2 _ _ (del_get ndlc hs.f))⟩
        have gl : ∀ {Hk}, PHeap.Le H2 Hk → Hk ld = some (.list (xs.map .str)) := fun L => L _ _ (L2 _ _ (del_get nldlc hld))
        repeat walk_at "w"
        refine m_inst hG (hF.m237 ("init_row", 214) (by decide)).1 (gp (PHeap.Le.refl _)) (gd (PHeap.Le.refl _)) (hfm ("init_row", 214) (by decide)) ?_
        refine ⟨(hF.m237 ("init_row", 214) (by decide)).2, ?_⟩
        repeat walk_at "w"
        have k2' : Cols H2 q (wideCs ini b m m xs) := k2
        have k3' : Cols H2 lc (wideCc cinit cz b m m xs) := k3
        have hwl : (wideCs ini b m m xs).length = ini.length + 1 := by unfold wideCs; split <;> simp
        refine init_spec (ccs := wideCc cinit cz b m m xs) (cs := wideCs ini b m m xs) hG hF hc' (by omega) hd' (gp (PHeap.Le.refl _)) (gd (PHeap.Le.refl _)) hfc k3' (by unfold wideCc; simp; omega) k2' (by omega) ho0 (by omega) ?_ ?_
        · intro ks hks r H3 ps j1 j2 j3 j4 j5
          have hksl := align_len hks
          have hpsl := j4.len
          have hrp : PV.ref r ∉ ps := j4.noRef j3
          have hnr : recF cinit cz m be xs first span = .row (wideCc cinit cz b m m xs) (cellsOf xs (wideCs ini b m m xs) ks) := by rw [hrec, recC, hn]; simp only [hks]
          have ntl : H2 tl = some (.list tps) := L2 _ _ (del_get (Ne.symm hne) htl)
          have nrtl : r ≠ tl := fun w => by rw [w, ntl] at j2; cases j2
          have nrlc : r ≠ lc := fun w => by obtain ⟨z, hz, _⟩ := k3'; rw [w, hz] at j2; cases j2
          have wbd := wide_bd hbq hx
          obtain ⟨qs, hqs, hqat⟩ := id k2'
          have hqsl := hqat.len
          generalize hcse : wideCs ini b m m xs = cs at *
          have nlc : ∀ {w}, H2 w = none → w ≠ lc := fun hw e => by obtain ⟨z, hz, _⟩ := k3'; rw [e, hz] at hw; cases hw
          have ntl' : ∀ {w}, H2 w = none → w ≠ tl := fun hw e => by rw [e, ntl] at hw; cases hw
          have nM : ∀ {w}, H2 w = none → w ∉ M := fun {w} hw hm => by
            obtain ⟨o, ho⟩ := hM w hm
            rw [L2 _ _ (del_get (nlc hw) ho)] at hw
            cases hw
          have tail : ∀ Hk vs1, PHeap.Le H2 Hk → Hk r = some (.list ps) → RowP (dM M Hk) first ps (cellsOf xs cs ks) → (vs1 = prA p a0 q r first sp ∨ ∃ st i e cb, vs1 = prB p a0 q r sp st i e cb) →
              T G c' PF.R (execs ((dBody (methAt 13 6)).drop 5) c'.env) Hk vs1 (RetQ Q vs) (fun x H1 _ => E x H1 vs) := by
            intro Hk vs1 L e1 e2 hv
            have fin : ∃ H2, PHeap.Le H2 (Hk.set tl (.list (tps ++ [.ref r]))) ∧ Q .none H2 vs := by
              refine ⟨_, PHeap.Le.refl _, h2 _ _ hnr r ps _ ?_ ?_ PHeap.set_self ((PHeap.set_ne nrtl).trans e1) ?_ ?_⟩
              · refine PHeap.Le.set (PHeap.Le.trans PHeap.del_le (PHeap.Le.trans L2 L)) ?_
                unfold PHeap.del; simp
              · exact (k3'.le L).put (L _ _ ntl) hne
              · cases w : H r with
                | none => rfl
                | some o => rw [L2 _ _ (del_get nrlc w)] at j2; cases j2
              · refine e2.le (dM_keep fun w o hw he => ?_)
                exact (PHeap.set_ne (fun e => hw (by rw [e]; exact htM))).trans he
            rcases hv with rfl | ⟨st, i, e, cb, rfl⟩
            all_goals
              refine t_cons ?_
              repeat walk_at "w"
              refine g_inst hG (hF.a237 "table" (by decide)).1 (gp L) (gd L) hft rfl ?_
              refine m_list (L _ _ ntl) PySem.F.slot_list_append rfl ?_
              refine ⟨trivial, ?_⟩
              repeat walk_at "w"
              refine k_append (L _ _ ntl) (by rw [sizeLine_eq]; omega) ?_
              repeat walk_at "w"
              exact fin
          have loop : ∀ (csr : List (Int × Int)) (i : Nat) (ksr : List Nat) (psr psd : List PV) (celld : List (Nat × List Str)) (Hk : PHeap) (vs1 : Vars), ps = psd ++ psr → psd.length = i → cs.drop i = csr → PHeap.Le H2 Hk → Hk r = some (.list ps) → RowP (dM M Hk) first psd celld → RowAt Hk first psr ksr → ksr.length = csr.length →
              cellsOf xs cs ks = celld ++ cellsOf xs csr ksr → (vs1 = prA p a0 q r first sp ∨ ∃ st i e cb, vs1 = prB p a0 q r sp st i e cb) →
              ForP G c' (fun _ => True) (forT (stm (dBody (methAt 13 6)) 4)) (forB (stm (dBody (methAt 13 6)) 4)) (Seq G c' ((dBody (methAt 13 6)).drop 5) (RetQ Q vs) (fun x H1 _ => E x H1 vs)) (fun x H1 _ => E x H1 vs) ((List.range' i csr.length).map fun (i : Nat) => .val (.int (i : Int))) Hk vs1 := by
            intro csr
            induction csr with
            | nil =>
              intro i ksr psr psd celld Hk vs1 f1 f2 f3 f4 f5 f6 f7 f8 f9 hv
              have hk0 : ksr = [] := List.length_eq_zero_iff.mp f8
              subst hk0
              cases f7
              rw [List.append_nil] at f1
              refine tail Hk vs1 f4 f5 ?_ hv
              rw [f1, f9]
              simpa [cellsOf] using f6
            | cons q0 csr ih =>
              obtain ⟨b0, e0⟩ := q0
              intro i ksr psr psd celld Hk vs1 f1 f2 f3 f4 f5 f6 f7 f8 f9 hv P v hpv
              cases f7 with
              | nil => simp at f8
              | @cons a l k psr ksr g1 g2 g3 =>
                have hci : cs[i]? = some (b0, e0) := by
                  have := congrArg (fun l => l[0]?) f3
                  simpa [List.getElem?_drop] using this
                have hdr : cs.drop (i + 1) = csr := by
                  have := congrArg (fun l => l.drop 1) f3
                  simpa [List.drop_drop, Nat.add_comm] using this
                obtain ⟨r0, hr0, hr1⟩ := hqat.get hci
                have hq0 := wbd _ (List.mem_of_getElem? hci)
                have hi50 : i < 52 := by
                  have := (List.getElem?_eq_some_iff.mp hci).1
                  omega
                have har : PV.ref a ∈ ps := by rw [f1]; simp
                have han : H2 a = none := j5.2 a har
                have nda : PV.ref a ∉ psd ∧ PV.ref a ∉ psr := by
                  have := j5.1
                  rw [f1, List.nodup_append] at this
                  refine ⟨fun hm => ?_, fun hm => ?_⟩
                  · exact this.2.2 _ hm _ (.head _) rfl
                  · exact (List.nodup_cons.mp this.2.1).1 hm
                have nra : r ≠ a := fun e => hrp (by rw [e]; exact har)
                obtain ⟨vs2, hvs2, hput⟩ : ∃ vs2, vs2 = putV "i" (.int (i : Int)) vs1 ∧ (vs2 = ([("self", .ref p), ("lines", .ref a0), ("start", .int first), ("spanline", sp), ("columns", .ref q), ("row", .ref r), ("i", .int (i : Int))] : Vars) ∨ ∃ st e cb, vs2 = prB p a0 q r sp st (.int (i : Int)) e cb) := by
                  refine ⟨_, rfl, ?_⟩
                  rcases hv with rfl | ⟨st, i, e, cb, rfl⟩
                  · exact .inl rfl
                  · exact .inr ⟨_, _, _, rfl⟩
                refine a_name (Cx.wp_ok hc') rfl hpv ?_
                rw [← hvs2]
                rcases hput with rfl | ⟨st, e, cb, rfl⟩
                all_goals
                  refine t_cons ?_
                  refine t_assign2 (Cx.wp_ok hc') hd' rfl rfl rfl rfl ?_
                  repeat walk_at "w"
                  refine sub_list (f4 _ _ hqs) (by omega) (by omega) (by rw [show ((i : Int)).toNat = i by omega]; exact hr0) ?_
                  refine ⟨_, _, _, rfl, f4 _ _ hr1, ?_⟩
                  repeat walk_at "w"
                  refine m_inst hG (hF.m542 ("get_2D_block", 539) (by decide)).1 (gs f4).i (gs f4).f rfl ?_
                  refine ⟨(hF.m542 ("get_2D_block", 539) (by decide)).2, ?_⟩
                  repeat walk_at "w"
                  refine k_ownlen hG hF.o_len (gs f4).i (gs f4).f ?_
                  refine len_sl (xs := xs.map .str) hG hF (Cx.up_ok (Cx.wp_ok hc')) (by show c'.dp + 0 < 800; omega) (gs f4) (gl f4) (by simp; omega) ⟨_, rfl, by omega, by simp; omega, ?_⟩
                  rw [List.length_map]
                  repeat walk_at "w"
                  refine get2d_spec (xs := xs) (b := b0) (e := e0) hG hF (Cx.wp_ok hc') (by show c'.dp < 500; omega) hd' (gs f4) (gl f4) (f4 _ _ (L2 _ _ (del_get hnli hli))) hy hxl hx hq0.1 (by omega) hq0.2.2.1 (by omega) fun a2 d2 ld2 li2 H4 m1 m2 m3 m4 m5 m6 => ?_
                  repeat walk_at "w"
                  refine m_inst hG (hF.m542 ("disconnect", 474) (by decide)).1 m5.i m5.f rfl ?_
                  refine ⟨(hF.m542 ("disconnect", 474) (by decide)).2, ?_⟩
                  repeat walk_at "w"
                  refine disc_sl hG hF (Cx.wp_ok hc') (by show c'.dp < 800; omega) m5 ?_
                  obtain ⟨H5, hH5⟩ : ∃ H5, H5 = H4.set d2 (slf ld2 li2 .none (.int 0)) := ⟨_, rfl⟩
                  rw [← hH5]
                  have n5 : PHeap.Le Hk H5 := by rw [hH5]; exact PHeap.Le.set m1 m3
                  have L5 := PHeap.Le.trans f4 n5
                  have na2d : a2 ≠ d2 := fun w => by
                    have h1 := m5.i
                    rw [w, m5.f] at h1
                    cases h1
                  have nldd : ld2 ≠ d2 := fun w => by
                    have h1 := m5.f
                    rw [← w, m6] at h1
                    cases h1
                  have s5 : SL H5 a2 d2 ld2 li2 .none (.int 0) := by
                    rw [hH5]
                    exact ⟨(PHeap.set_ne na2d).trans m5.i, PHeap.set_self⟩
                  have l5 : H5 ld2 = some (.list ((cutB xs b0 e0).map .str)) := by rw [hH5]; exact (PHeap.set_ne nldd).trans m6
                  repeat walk_at "w"
                  refine sub_list (p := .ref a) (n5 _ _ f5) (by omega) (by omega) (by rw [show ((i : Int)).toNat = i by omega, f1, List.getElem?_append_right (by omega)]; simp [f2]) ?_
                  repeat walk_at "w"
                  refine sto_list (n5 _ _ g1) (by decide) (by decide) (by simp) ?_
                  repeat walk_at "w"
                  have off2 : ∀ {w}, Hk w = none → H2 w = none := fun {w} hw => by
                    cases q : H2 w with
                    | none => rfl
                    | some o => rw [f4 _ _ q] at hw; cases hw
                  have hset : ([PV.int 0, PV.int (k : Nat), PV.int first, PV.ref l].set (Int.toNat 3) (PV.ref a2)) = [PV.int 0, PV.int (k : Nat), PV.int first, PV.ref a2] := rfl
                  rw [hset]
                  have hk6 : ∀ b o, b ≠ a → H5 b = some o → (H5.set a (.list [.int 0, .int (k : Nat), .int first, .ref a2])) b = some o := fun b o hb hq => (PHeap.set_ne hb).trans hq
                  have na2a : a2 ≠ a := fun w => by
                    have h1 := s5.i
                    rw [w, n5 _ _ g1] at h1
                    cases h1
                  have nd2a : d2 ≠ a := fun w => by
                    have h1 := s5.f
                    rw [w, n5 _ _ g1] at h1
                    cases h1
                  have nld2a : ld2 ≠ a := ne_none g1 m4 |>.symm
                  refine ⟨_, PHeap.Le.refl _, trivial, ?_⟩
                  refine ih (i + 1) ksr psr (psd ++ [.ref a]) (celld ++ [(k, cutB xs b0 e0)]) _ _ (by rw [f1]; simp) (by simp [f2]) hdr (PHeap.Le.set L5 han) ((PHeap.set_ne nra).trans (n5 _ _ f5)) ?_ ((g3.le n5).keep hk6 (n5 _ _ g1) nda.2) (by simpa using f8) (by rw [f9]; simp [cellsOf]) (.inr ⟨_, _, _, _, rfl⟩)
                  refine RowP.app (.cons (dM_get (nM han) PHeap.set_self) ⟨dM_get (nM (off2 m2)) (hk6 _ _ na2a s5.i), dM_get (nM (off2 m3)) (hk6 _ _ nd2a s5.f)⟩ (dM_get (nM (off2 m4)) (hk6 _ _ nld2a l5)) .nil) ?_
                  refine (f6.le (dM_le n5)).keep (w := a) (fun b o hb hq => ?_) (dM_get (nM han) (n5 _ _ g1)) (fun x h => nomatch h) nda.1
                  unfold dM at hq ⊢
                  split at hq
                  · cases hq
                  · rename_i h1
                    rw [if_neg h1]
                    exact hk6 _ _ hb hq
          repeat walk_at "w"
          with_reducible refine' t_for hc' e4' hd' ?f ?_
          case f => k_dflt (exact fun _ => rfl)
          repeat walk_at "w"
          refine k_len (j1 _ _ hqs) (by rw [hqsl, sizeLine_eq]; omega) ?_
          repeat walk_at "w"
          refine k_range fun rg t1 t2 t3 hrg => ?_
          rw [hqsl]
          refine iter_range PHeap.set_self (by omega) (by omega) ⟨trivial, ?_⟩
          rw [show ((cs.length : Int)).toNat = cs.length by omega, List.range_eq_range']
          have Lrg := le_new (o := .raw (rangeObj (cs.length : Int) t1 t2 t3)) (PHeap.Le.refl H3) hrg
          refine loop cs 0 ks ps [] [] _ _ rfl rfl rfl (PHeap.Le.trans j1 Lrg) (Lrg _ _ j3) .nil (j4.le Lrg) hksl rfl (.inl rfl)
        · intro hks d H' j1 j2
          exact h1 _ _ _ (by rw [hrec, recC, hn]; simp only [hks]) d H' (PHeap.Le.trans L2 j1) (k3'.le j1) j2
    have second : (xs ≠ [] ∨ span ≠ none) → T G c' PF.R (exec (stm (dBody (methAt 13 6)) 1) c'.env) H ([("self", .ref p), ("lines", .ref a0), ("start", .int first), ("spanline", sp)] : Vars) (Seq G c' ((dBody (methAt 13 6)).drop 2) (RetQ Q vs) (fun x H1 _ => E x H1 vs)) (fun x H1 _ => E x H1 vs) := by
      intro hor
      rcases hsp with ⟨rfl, rfl⟩ | ⟨t, x, off, init, lb, le, rfl, ht, hx5, o0, o1, hpc, hib, hil, rfl⟩
      · have hxn : xs ≠ [] := by
          rcases hor with h | h
          · exact h
          · exact absurd rfl h
        obtain ⟨ls, hls, hlat⟩ := id hcc
        refine t_if_ ?_
        repeat walk_at "w"
        refine ⟨fun q => (nomatch q), fun _ => ?_⟩
        refine t_cons ?_
        repeat walk_at "w"
        refine g_inst hG (hF.a237 "columns" (by decide)).1 hp1 hp2 hfc rfl ?_
        repeat walk_at "w"
        refine slc_list (lo := none) (hi := none) hls rfl rfl (by rw [hlat.len, sizeLine_eq]; simp; omega) fun q hq => ?_
        rw [lsl_none]
        have L1 : PHeap.Le H (H.set q (.list ls)) := le_new (PHeap.Le.refl H) hq
        repeat walk_at "w"
        exact rest _ q cinit cz _ L1 hq ⟨ls, PHeap.set_self, hlat.le L1⟩ hbd hcl (by rw [recF, if_neg hxn]) rfl
      · refine t_if_ ?_
        repeat walk_at "w"
        refine tr_tup ht (by simp) ?_
        refine ⟨fun _ => ?_, fun q => (nomatch q)⟩
        refine t_cons ?_
        repeat walk_at "w"
        refine m_inst hG (hF.m237 ("parse_columns", 207) (by decide)).1 hp1 hp2 (hfm ("parse_columns", 207) (by decide)) ?_
        refine ⟨(hF.m237 ("parse_columns", 207) (by decide)).2, ?_⟩
        repeat walk_at "w"
        refine sub_tup ht (by decide) (by decide) rfl ?_
        repeat walk_at "w"
        refine sub_tup ht (by decide) (by decide) rfl ?_
        repeat walk_at "w"
        refine pcols_spec (rs := init ++ [(lb, le)]) hG hF hc' (by omega) hd' hp1 hp2 hfc hx5 (by simp; omega) o0 o1 hpc (.inr ⟨cinit ++ [(cz, m)], cz, m, init, lb, le, be, hcc, by simp; omega, by simp, rfl, hfb, ?_, ?_⟩)
        · intro hne2 d H' j1 j2
          exact h1 _ _ _ (by rw [recF, if_neg hne2]) d H' (PHeap.Le.trans PHeap.del_le j1) (hcc.le j1) j2
        · intro heq r H' j1 j2 j3
          repeat walk_at "w"
          refine rest H' r init lb _ j1 j2 j3 ?_ hil (by rw [recF, if_pos heq]) rfl
          intro q hq
          rcases List.mem_append.mp hq with hq | hq
          · exact hib q (List.mem_append_left _ hq)
          · rw [List.mem_singleton.mp hq]
            have := hib (lb, le) (by simp)
            exact ⟨this.1, this.2.1, hbm.2.2⟩
    refine t_cons ?_
    repeat walk_at "w"
    refine tr_own hG hF.o_bool hs.i hs.f ?_
    refine bool_sl (xs := xs.map .str) hG hF (c := c') hc' (by omega) hs hld (by simp; omega) ⟨_, rfl, ?_⟩
    refine ⟨fun hq => ?_, fun hq => ?_⟩
    · have hxn : xs ≠ [] := fun e => by subst e; simp at hq
      refine ⟨fun q => (nomatch q), fun _ => ?_⟩
      refine t_nil ?_
      refine seq_next ?_
      refine t_cons ?_
      exact second (.inl hxn)
    · have hxe : xs = [] := by
        have := of_decide_eq_false hq
        rw [List.length_map] at this
        exact List.length_eq_zero_iff.mp (by omega)
      refine t_or1 ?_
      repeat walk_at "w"
      rcases hsp with ⟨rfl, rfl⟩ | ⟨t, x, off, init, lb, le, rfl, ht, hx5, o0, o1, hpc, hib, hil, rfl⟩
      · refine tr_none ?_
        refine ⟨fun q => (nomatch q), fun _ => ?_⟩
        refine t_or0 ?_
        refine ⟨fun _ => ?_, fun q => (nomatch q)⟩
        repeat walk_at "w"
        exact ret_same (h0 (by rw [recF, if_pos hxe]))
      · refine tr_tup ht (by simp) ?_
        refine ⟨fun _ => ?_, fun q => (nomatch q)⟩
        refine ⟨fun q => (nomatch q), fun _ => ?_⟩
        refine t_nil ?_
        refine seq_next ?_
        refine t_cons ?_
        exact second (.inr (by simp))
end
section
variable {G : Gl} {S : Scope} {c : Cx S} {H : PHeap} {vs : Vars} {E : PX → PHeap → Vars → Prop} {Q : PV → PHeap → Vars → Prop}
theorem leastL_le {zs : List Str} : ∀ {e : Int}, leastL e zs ≤ e ∧ ∀ z ∈ zs, z.length ≠ 0 → leastL e zs ≤ indOf z := by
  induction zs with
  | nil => intro e; exact ⟨Int.le_refl _, fun _ h => nomatch h⟩
  | cons x r ih =>
    intro e
    have h1 := ih (e := leastS e x)
    have h2 : leastL e (x :: r) = leastL (leastS e x) r := rfl
    rw [h2]
    have h3 : leastS e x ≤ e ∧ (x.length ≠ 0 → leastS e x ≤ indOf x) := by
      unfold leastS
      split
      · exact ⟨Int.le_refl _, fun h => absurd (by assumption) h⟩
      · omega
    refine ⟨Int.le_trans h1.1 h3.1, fun z hz hn => ?_⟩
    rcases List.mem_cons.mp hz with rfl | hz
    · exact Int.le_trans h1.1 (h3.2 hn)
    · exact h1.2 z hz hn
theorem leastL_mem {zs : List Str} : ∀ {e : Int}, leastL e zs ∈ (zs.filter fun z => z.length != 0).map indOf ++ [e] := by
  induction zs with
  | nil => intro e; exact List.mem_append_right _ (.head _)
  | cons x r ih =>
    intro e
    have h2 : leastL e (x :: r) = leastL (leastS e x) r := rfl
    rw [h2]
    have h1 := ih (e := leastS e x)
    rw [List.filter_cons]
    by_cases hx : x.length = 0
    · rw [if_neg (by simp [hx])]
      have : leastS e x = e := by unfold leastS; rw [if_pos hx]
      rw [this] at h1 ⊢
      exact h1
    · rw [if_pos (by simp [hx]), List.map_cons, List.cons_append]
      rcases List.mem_append.mp h1 with h1 | h1
      · exact List.mem_cons_of_mem _ (List.mem_append_left _ h1)
      · have h3 := List.mem_singleton.mp h1
        rw [h3]
        unfold leastS
        rw [if_neg hx]
        by_cases hm : e ≤ indOf x
        · rw [show min e (indOf x) = e by omega]
          exact List.mem_cons_of_mem _ (List.mem_append_right _ (.head _))
        · rw [show min e (indOf x) = indOf x by omega]
          exact .head _
theorem str_ne0 {z : Str} : (z.cps.toList != ("" : Str).cps.toList) = (z.length != 0) := by
  show (z.cps.toList != []) = (z.cps.size != 0)
  rw [← Array.length_toList]
  cases z.cps.toList <;> rfl

theorem cut_spec (hG : G.Ok) (hF : GF G) (hc : c.Ok) (hd : c.dp < 500) (hh : c.hd = none) {l : Addr} {xs : List Str} {b e : Int} (hl : H l = some (.list (xs.map .str))) (hz : xs.length ≤ 1000) (hx : ∀ x ∈ xs, x.length ≤ 5000)
    (hb0 : 0 ≤ b) (hb1 : b ≤ 100000) (he0 : 0 ≤ e) (he1 : e ≤ 100000)
    (h : ∀ r H', PHeap.Le H H' → H r = none → H' r = some (.list ((cutB xs b e).map .str)) → Q (.ref r) H' vs) :
    CallP G c (.ref 584) [.ref l, .int b, .int e] [] [] H vs Q E := by
  obtain ⟨t, ho⟩ := hF.d_lines_cut.at_
  refine CodeP.call (k_defc (bs := [("texts", .ref l), ("begin", .int b), ("end", .int e)]) (bl := [("texts", .ref l)]) (ns := ["texts", "begin", "end"]) (cn := ["least", "end", "begin"]) hG hc ho hF.d_lines_cut.code (by omega) ?_ rfl (by decide) (by decide) (by rfl) (by decide) (by decide) ?_ (by decide) (by decide) (by decide) fun c' cl hc' e1' e2' e3' e4' e5' e6' e7' e8' => ?_)
  · rintro _ _ (_ | ⟨h1, _ | ⟨h2, _ | ⟨h3, _ | _⟩⟩⟩) (_ | _) s X
    exact ⟨[("texts", _), ("begin", _), ("end", _)], BindsTo.of_eq (by rfl), rfl, .cons h1 (.cons h2 (.cons h3 .nil))⟩
  · intro y hy
    rw [List.mem_singleton.mp hy]
    exact ⟨rfl, rfl⟩
  · have hd' : c'.hd = none := e3'.trans hh
    obtain ⟨c3, c2, c1, rfl⟩ : ∃ c3 c2 c1, cl = ([("least", c3), ("end", c2), ("begin", c1)] : List (Str × Addr)) := by
      match cl, e6' with
      | [(_, c3), (_, c2), (_, c1)], e => exact ⟨c3, c2, c1, by simp at e; rw [e.1, e.2.1, e.2.2]⟩
    have n31 : c3 ≠ c2 ∧ c3 ≠ c1 ∧ c2 ≠ c1 := by
      simp at e7'
      exact ⟨e7'.1.1, e7'.1.2, e7'.2⟩
    have hc1 : H c1 = none := e8' _ (.tail _ (.tail _ (.head _)))
    have hc2 : H c2 = none := e8' _ (.tail _ (.head _))
    have hc3 : H c3 = none := e8' _ (.head _)
    have hH0 : setCells [("texts", .ref l), ("begin", .int b), ("end", .int e)] [("least", c3), ("end", c2), ("begin", c1)] H = ((H.set c1 (.cell (some (.int b)))).set c2 (.cell (some (.int e)))).set c3 (.cell none) := rfl
    rw [hH0]
    clear hH0
    obtain ⟨H0, hH0⟩ : ∃ H0, H0 = ((H.set c1 (.cell (some (.int b)))).set c2 (.cell (some (.int e)))).set c3 (.cell none) := ⟨_, rfl⟩
    rw [← hH0]
    have le0 : PHeap.Le H H0 := by
      rw [hH0]
      exact le_new (le_new (le_new (PHeap.Le.refl H) hc1) ((PHeap.set_ne n31.2.2).trans hc2)) ((PHeap.set_ne n31.1).trans ((PHeap.set_ne n31.2.1).trans hc3))
    have v1 : H0 c1 = some (.cell (some (.int b))) := by rw [hH0]; exact (PHeap.set_ne (Ne.symm n31.2.1)).trans ((PHeap.set_ne (Ne.symm n31.2.2)).trans PHeap.set_self)
    have v2 : H0 c2 = some (.cell (some (.int e))) := by rw [hH0]; exact (PHeap.set_ne (Ne.symm n31.1)).trans PHeap.set_self
    have v3 : H0 c3 = some (.cell none) := by rw [hH0]; exact PHeap.set_self
    have off : ∀ w, H0 w = none → H w = none := fun w hw => by
      cases q : H w with
      | none => rfl
      | some o => rw [le0 _ _ q] at hw; cases hw
    refine t_cons ?_
    with_reducible refine' t_assigncomp (cl := ([("end", c2), ("begin", c1)] : List (Str × Addr))) hc' hd' ?f0 ?f9 ?f1 ?f2 ?f3 ?f4 ?f5 ?f6 ?_
    case f0 => k_dflt (exact rfl)
    case f9 => k_dflt (exact rfl)
    case f1 => exact closureFor_of (by rw [show c'.env.cells = ([("least", c3), ("end", c2), ("begin", c1)] : List (Str × Addr)) from e5']; rfl)
    case f2 => decide
    case f3 => rfl
    case f4 => decide
    case f5 => decide
    case f6 => exact fun _ => rfl
    repeat walk_at "w"
    have hl0 := le0 _ _ hl
    refine iter_list hl0 ⟨by simp; rw [sizeLine_eq]; omega, hl0, fun k1 hk1 g1 g2 g3 g4 => ?_⟩
    have him : ∀ zs : List Str, (zs.map PV.str).map Itm.val = zs.map (fun z => Itm.val (.str z)) := fun zs => by rw [List.map_map]; rfl
    rw [him]
    refine comp_map (it := .str) (f := fun z => .str (cutOne b e z)) (tst := fun _ => true) (Hk := H0) hk1 rfl hl0 xs [] [] (fun P z vs1 hz => ⟨rfl, rfl, fun _ => ?_⟩) ?_
    · have hzl := hx z hz
      refine t_only ?_
      repeat walk_at "w"
      refine t_cell (ca := c1) (p := .int b) (Cx.wp_ok hk1) rfl (by show k1.cl.lookup _ = _; rw [g4]; rfl) v1 ?_
      repeat walk_at "w"
      refine t_cell (ca := c2) (p := .int e) (Cx.wp_ok hk1) rfl (by show k1.cl.lookup _ = _; rw [g4]; rfl) v2 ?_
      repeat walk_at "w"
      refine slc_str (lo := some b) (hi := some e) rfl rfl (by rw [sizeLine_eq]; omega) ?_
      have hsl := len_ssl z (some b) (some e)
      refine m_str PySem.F.slot_str_rstrip rfl ?_
      refine ⟨trivial, ?_⟩
      repeat walk_at "w"
      exact k_rstrip (by rw [sizeLine_eq]; omega) ⟨rfl, rfl⟩
    · intro r1 hr1
      rw [List.nil_append, List.filter_eq_self.mpr (fun _ _ => rfl)]
      have hcl : ∀ y ∈ xs.map (cutOne b e), y.length ≤ 5000 := fun y hy => by
        obtain ⟨z, hz1, rfl⟩ := List.mem_map.mp hy
        exact Nat.le_trans len_cutOne (hx z hz1)
      have hcn : (xs.map (cutOne b e)).length = xs.length := by simp
      have hcut : cutB xs b e = if 0 < leastL e (xs.map (cutOne b e)) ∧ leastL e (xs.map (cutOne b e)) < e then (xs.map (cutOne b e)).map (fun x => ssl x (some (leastL e (xs.map (cutOne b e)))) none) else xs.map (cutOne b e) := rfl
      rw [show xs.map (fun z => PV.str (cutOne b e z)) = (xs.map (cutOne b e)).map PV.str by rw [List.map_map]; rfl]
      generalize xs.map (cutOne b e) = zs at *
      obtain ⟨H1, hH1⟩ : ∃ H1, H1 = H0.set r1 (.list (zs.map .str)) := ⟨_, rfl⟩
      rw [← hH1]
      have L1 : PHeap.Le H0 H1 := by rw [hH1]; exact le_new (PHeap.Le.refl _) hr1
      have e1 : H1 r1 = some (.list (zs.map .str)) := by rw [hH1]; exact PHeap.set_self
      repeat walk_at "w"
      with_reducible refine' t_assignc (ca := c3) ?a1 ?a2 ?a3 ?a4 ?_
      case a1 => exact hc'
      case a2 => k_dflt (exact rfl)
      case a3 => k_dflt (exact rfl)
      case a4 => rw [e5']; rfl
      repeat walk_at "w"
      with_reducible refine' t_listcomp (cl := ([] : List (Str × Addr))) hc' hd' ?f1 ?f2 ?f3 ?f4 ?f5 ?f6 ?_
      case f1 => exact closureFor_of rfl
      case f2 => decide
      case f3 => rfl
      case f4 => decide
      case f5 => decide
      case f6 => exact fun _ => rfl
      repeat walk_at "w"
      refine iter_list e1 ⟨by simp; rw [hcn, sizeLine_eq]; omega, e1, fun k2 hk2 g1' g2' g3' g4' => ?_⟩
      rw [him]
      refine comp_map (it := .str) (f := fun z => .int (indOf z)) (tst := fun z => z.length != 0) (Hk := H1) hk2 rfl e1 zs [] [] (fun P z vs1 hz => ?_) ?_
      · have hzl := hcl z hz
        refine t_only ?_
        repeat walk_at "w"
        refine ⟨rfl, str_ne0, fun _ => ?_⟩
        repeat walk_at "w"
        refine k_lens (by rw [sizeLine_eq]; omega) ?_
        repeat walk_at "w"
        refine m_str PySem.F.slot_str_lstrip rfl ?_
        refine ⟨trivial, ?_⟩
        repeat walk_at "w"
        refine k_lstrip (by rw [sizeLine_eq]; omega) ?_
        repeat walk_at "w"
        have hls := len_lstrip z
        refine k_lens (by rw [sizeLine_eq]; omega) ?_
        repeat walk_at "w"
        exact ⟨rfl, rfl⟩
      · intro r2 hr2
        rw [List.nil_append]
        have L2 : PHeap.Le H0 (H1.set r2 (.list ((zs.filter fun z => z.length != 0).map fun z => PV.int (indOf z)))) := le_new L1 hr2
        repeat walk_at "w"
        refine t_cell (ca := c2) (p := .int e) hc' rfl (by rw [e5']; rfl) (L2 _ _ v2) ?_
        repeat walk_at "w"
        refine ⟨by show 1 ≤ _; rw [sizeLine_eq]; decide, fun r3 hr3 => ?_⟩
        have hfl : (zs.filter fun z => z.length != 0).length ≤ 1000 := Nat.le_trans (List.length_filter_le _ _) (by omega)
        refine b_lists ((PHeap.set_ne (ne_none PHeap.set_self hr3)).trans PHeap.set_self) PHeap.set_self (by rw [List.length_map, sizeLine_eq]; show _ + 1 ≤ _; omega) fun r4 hr4 => ?_
        repeat walk_at "w"
        refine k_minl (is := (zs.filter fun z => z.length != 0).map indOf ++ [e]) (i := leastL e zs) hd' (by rw [PHeap.set_self]; simp) leastL_mem (fun j hj => ?_) ?_
        · rcases List.mem_append.mp hj with hj | hj
          · obtain ⟨z, hz1, rfl⟩ := List.mem_map.mp hj
            obtain ⟨hz2, hz3⟩ := List.mem_filter.mp hz1
            exact leastL_le.2 z hz2 (by simpa using hz3)
          · rw [List.mem_singleton.mp hj]; exact leastL_le.1
        obtain ⟨H4, hH4⟩ : ∃ H4, H4 = (((H1.set r2 (.list ((zs.filter fun z => z.length != 0).map fun z => PV.int (indOf z)))).set r3 (.list [.int e])).set r4 (.list (((zs.filter fun z => z.length != 0).map fun z => PV.int (indOf z)) ++ [.int e]))) := ⟨_, rfl⟩
        rw [← hH4]
        have L4' : PHeap.Le H1 H4 := by rw [hH4]; exact le_new (le_new (le_new (PHeap.Le.refl _) hr2) hr3) hr4
        have L4 := PHeap.Le.trans L1 L4'
        clear hH4
        repeat walk_at "w"
        refine ⟨_, L4 _ _ v3, ?_⟩
        obtain ⟨H5, hH5⟩ : ∃ H5, H5 = H4.set c3 (.cell (some (.int (leastL e zs)))) := ⟨_, rfl⟩
        rw [← hH5]
        have w3 : H5 c3 = some (.cell (some (.int (leastL e zs)))) := by rw [hH5]; exact PHeap.set_self
        have w2 : H5 c2 = some (.cell (some (.int e))) := by rw [hH5]; exact (PHeap.set_ne (Ne.symm n31.1)).trans (L4 _ _ v2)
        have w1 : H5 r1 = some (.list (zs.map .str)) := by
          rw [hH5]
          refine (PHeap.set_ne (fun q => ?_)).trans (L4' _ _ e1)
          rw [q] at hr1
          rw [v3] at hr1; cases hr1
        have L5 : PHeap.Le H H5 := by
          rw [hH5]
          exact PHeap.Le.set (PHeap.Le.trans le0 L4) hc3
        have hbd := len_leastL (e := e) (l := zs) (by omega) hcl
        generalize leastL e zs = m at *
        repeat walk_at "w"
        refine t_cell (ca := c3) (p := .int m) hc' rfl (by rw [e5']; rfl) w3 ?_
        repeat walk_at "w"
        have no : ¬ (0 < m ∧ m < e) → T G c' PV.R (eval (.Name "cut" ⟨432, 76, 432, 79⟩) c'.env) H5 ([("texts", .ref l), ("cut", .ref r1)] : Vars) (fun p H1 vs1 => RetQ Q vs (.ret p) H1 vs1) (fun x H1 _ => E x H1 vs) := fun hm => by
          repeat walk_at "w"
          refine ret_same (h r1 H5 L5 (off _ hr1) ?_)
          rw [hcut, if_neg hm]
          exact w1
        refine ⟨fun hq => ?_, fun hq => ?_⟩
        · have hm0 : 0 < m := of_decide_eq_true hq
          repeat walk_at "w"
          refine t_cell (ca := c3) (p := .int m) hc' rfl (by rw [e5']; rfl) w3 ?_
          repeat walk_at "w"
          refine t_cell (ca := c2) (p := .int e) hc' rfl (by rw [e5']; rfl) w2 ?_
          repeat walk_at "w"
          refine ⟨fun hq2 => ?_, fun hq2 => ?_⟩
          · have hm1 : m < e := of_decide_eq_true hq2
            refine t_and0 ?_
            refine ⟨fun _ => ?_, fun q => (nomatch q)⟩
            with_reducible refine' t_listcomp (cl := ([("least", c3)] : List (Str × Addr))) hc' hd' ?f1 ?f2 ?f3 ?f4 ?f5 ?f6 ?_
            case f1 => exact closureFor_of (by rw [show c'.env.cells = ([("least", c3), ("end", c2), ("begin", c1)] : List (Str × Addr)) from e5']; rfl)
            case f2 => decide
            case f3 => rfl
            case f4 => decide
            case f5 => decide
            case f6 => exact fun _ => rfl
            repeat walk_at "w"
            refine iter_list w1 ⟨by simp; rw [hcn, sizeLine_eq]; omega, w1, fun k3 hk3 j1 j2 j3 j4 => ?_⟩
            rw [him]
            refine comp_map (it := .str) (f := fun z => .str (ssl z (some m) none)) (tst := fun _ => true) (Hk := H5) hk3 rfl w1 zs [] [] (fun P z vs1 hz => ⟨rfl, rfl, fun _ => ?_⟩) ?_
            · have hzl := hcl z hz
              refine t_only ?_
              repeat walk_at "w"
              refine t_cell (ca := c3) (p := .int m) (Cx.wp_ok hk3) rfl (by show k3.cl.lookup _ = _; rw [j4]; rfl) w3 ?_
              repeat walk_at "w"
              exact slc_str (lo := some m) (hi := none) rfl rfl (by rw [sizeLine_eq]; omega) ⟨rfl, rfl⟩
            · intro r5 hr5
              refine ⟨_, PHeap.Le.refl _, h r5 _ (le_new L5 hr5) ?_ ?_⟩
              · cases q : H r5 with
                | none => rfl
                | some o => rw [L5 _ _ q] at hr5; cases hr5
              · rw [PHeap.set_self, hcut, if_pos ⟨hm0, hm1⟩, List.nil_append, List.filter_eq_self.mpr (fun _ _ => rfl), List.map_map]
                rfl
          · refine ⟨fun q => (nomatch q), fun _ => ?_⟩
            exact no fun q => absurd q.2 (of_decide_eq_false hq2)
        · refine ⟨fun q => (nomatch q), fun _ => ?_⟩
          exact no fun q => absurd q.1 (of_decide_eq_false hq)
end
section
variable {G : Gl} {S : Scope} {c : Cx S} {H : PHeap} {vs : Vars} {E : PX → PHeap → Vars → Prop} {Q : PV → PHeap → Vars → Prop}
theorem ColsAt.zip {H : PHeap} : ∀ {ps cs}, ColsAt H ps cs → ∀ z ∈ ps.zip cs, ∃ r, z.1 = PV.ref r ∧ H r = some (.tup [.int z.2.1, .int z.2.2])
  | _, _, .nil, z, h => by simp at h
  | _, _, .cons (r := r) (ps := ps) (cs := cs) h1 h2, z, h => by
    rw [List.zip_cons_cons] at h
    rcases List.mem_cons.mp h with rfl | h
    · exact ⟨r, rfl, h1⟩
    · exact ColsAt.zip h2 z h
theorem zip_val : ∀ {ps : List PV} {cs : List (Int × Int)}, ps.length = cs.length → ps.map Itm.val = (ps.zip cs).map (fun z => Itm.val z.1)
  | [], [], _ => rfl
  | [], _ :: _, h => by simp at h
  | _ :: _, [], h => by simp at h
  | p :: ps, q :: cs, h => by simp at h; simp [zip_val h]
theorem zip_snd : ∀ {ps : List PV} {cs : List (Int × Int)}, ps.length = cs.length → (ps.zip cs).map (fun z => PV.int z.2.2) = (cs.map (·.2)).map PV.int
  | [], [], _ => rfl
  | [], _ :: _, h => by simp at h
  | _ :: _, [], h => by simp at h
  | p :: ps, q :: cs, h => by simp at h; simp [zip_snd h]

/-- the cells of a record's own row -/
inductive RowL (H : PHeap) (first : Int) : List PV → List (Nat × List Str) → Prop
  | nil : RowL H first [] []
  | cons {a s : Addr} {k : Nat} {bl : List Str} {ps cs} : H a = some (.list [.int 0, .int (k : Nat), .int first, .ref s]) → H s = some (.list (bl.map .str)) → RowL H first ps cs → RowL H first (.ref a :: ps) ((k, bl) :: cs)
theorem RowL.le {H H' : PHeap} {first : Int} (hl : H.Le H') : ∀ {ps cs}, RowL H first ps cs → RowL H' first ps cs
  | _, _, .nil => .nil
  | _, _, .cons h1 h2 r => .cons (hl _ _ h1) (hl _ _ h2) (r.le hl)
theorem RowL.app {H : PHeap} {first : Int} {ps2 cs2} (h2 : RowL H first ps2 cs2) : ∀ {ps cs}, RowL H first ps cs → RowL H first (ps ++ ps2) (cs ++ cs2)
  | _, _, .nil => h2
  | _, _, .cons a b r => .cons a b (RowL.app h2 r)
theorem RowL.len {H : PHeap} {first : Int} : ∀ {ps cs}, RowL H first ps cs → ps.length = cs.length
  | _, _, .nil => rfl
  | _, _, .cons _ _ r => by simp [r.len]

theorem ColsAt.drop {H : PHeap} : ∀ (i : Nat) {ps cs}, ColsAt H ps cs → ColsAt H (ps.drop i) (cs.drop i)
  | 0, _, _, h => h
  | _ + 1, _, _, .nil => .nil
  | i + 1, _, _, .cons _ r => r.drop i
theorem lsl_from {α : Type} {l : List α} {i : Nat} : lsl l (some (i : Int)) none = l.drop i := by
  unfold lsl
  simp only [kms_lo, kms_hi]
  rw [if_neg (by omega)]
  by_cases h : i ≤ l.length
  · rw [show min ((i : Int)).toNat l.length = i by omega, List.take_of_length_le (by rw [List.length_drop]; omega)]
  · rw [show min ((i : Int)).toNat l.length = l.length by omega]
    simp
    omega
theorem len_digs' {k : Int} (h : k.natAbs < 10 ^ 6) : (digs k).length ≤ 10 ^ 6 + 2 := by
  have := PyProof.Rows.len_str_of_int k
  unfold digs
  omega
def recStmts : List Stmt := dBody (topAt 24)
abbrev rcA (w l lw : Addr) (first : Int) (sp : PV) : Vars := [("world", .ref w), ("texts", .ref l), ("first", .int first), ("span", sp), ("columns", .ref lw)]
abbrev rcB (w l lw ce : Addr) (first at' : Int) (sp : PV) : Vars := [("world", .ref w), ("texts", .ref l), ("first", .int first), ("span", sp), ("columns", .ref lw), ("cells", .ref ce), ("at", .int at')]
theorem rec_tail (hG : G.Ok) (hF : GF G) {c' : Cx (dScope (topAt 24))} (hc' : c'.Ok) (hd' : c'.hd = none) (ho : c'.own = true) (hdp : c'.dp < 450) {cb cr w lw wl l q : Addr} (hcl : c'.cl = ([("begin", cb), ("runs", cr)] : List (Str × Addr))) {ccs cs : List (Int × Int)} {be first : Int} {xs : List Str} {sp : PV} {wps : List PV} {QF : PF → PHeap → Vars → Prop}
    (hw : H w = some (.list [.ref lw, .int be, .ref wl])) (hcr : H cr = some (.cell (some (.ref q)))) (hq : Cols H q cs) (hcs : cs.length ≤ 60) (hbd : ∀ z ∈ cs, 0 ≤ z.1 ∧ z.1 ≤ 1000 ∧ 0 ≤ z.2 ∧ z.2 ≤ 6000) (hcc : Cols H lw ccs) (hccl : ccs.length ≤ 60)
    (hl : H l = some (.list (xs.map .str))) (hxl : xs.length ≤ 1000) (hx : ∀ x ∈ xs, x.length ≤ 5000) (hwl : H wl = some (.list wps)) (hwz : wps.length ≤ 1000) (ho0 : 0 ≤ first) (ho1 : first < 10000) (M : List Addr) (hM : ∀ z ∈ M, ∃ o, H z = some o) (htM : wl ∈ M)
    (hA : align ccs cs 0 = none → ∀ t H' vs1, PHeap.Le H H' → H' t = some (.tup [.str (msg2 (first + 2)), .int (first + 1)]) → H t = none → QF (.ret (.ref t)) H' vs1)
    (hB : ∀ ks, align ccs cs 0 = some ks → ∀ rl ps H' vs1, PHeap.Le (H.del wl) H' → H' wl = some (.list (wps ++ [.ref rl])) → H' rl = some (.list ps) → H rl = none → RowL (dM M H') first ps (cellsOf xs cs ks) → QF (.ret .none) H' vs1)
    {vs1 : Vars} (hv : Sub (rcA w l lw first sp) vs1) :
    T G c' PF.R (execs (recStmts.drop 7) c'.env) H vs1 QF E := by
  refine t_vars hv ?_
  obtain ⟨qs, hqs, hqat⟩ := id hq
  obtain ⟨ls, hls, hlat⟩ := id hcc
  refine t_cons ?_
  repeat walk_at "w"
  refine ⟨Nat.zero_le _, fun ce hce => ?_⟩
  have L1 : PHeap.Le H (H.set ce (.list [])) := le_new (PHeap.Le.refl _) hce
  repeat walk_at "w"
  with_reducible refine' t_for hc' ho hd' ?f ?_
  case f => k_dflt (exact fun _ => rfl)
  refine t_cell (ca := cr) (p := .ref q) hc' rfl (by rw [hcl]; rfl) (L1 _ _ hcr) ?_
  refine iter_list (L1 _ _ hqs) ⟨L1 _ _ hqs, ?_⟩
  have nM : ∀ {z}, H z = none → z ∉ M := fun {z} hz hm => by
    obtain ⟨o, ho⟩ := hM z hm
    rw [ho] at hz; cases hz
  have nlw : ∀ {z}, H z = none → z ≠ lw := fun hz e => by rw [e, hls] at hz; cases hz
  have nwl : ∀ {z}, H z = none → z ≠ wl := fun hz e => by rw [e, hwl] at hz; cases hz
  have nqce : q ≠ ce := ne_none hqs hce
  have loop : ∀ (qs' : List PV) (cs' : List (Int × Int)), ColsAt H qs' cs' → (∀ z ∈ cs', z ∈ cs) → ∀ (i : Nat) (acc : List Nat) (ps : List PV) (accd : List (Nat × List Str)) (H1 : PHeap) (vs1 : Vars), PHeap.Le H H1 → H1 ce = some (.list ps) → RowL (dM M (H1.del ce)) first ps accd → ps.length + cs'.length ≤ 60 → i ≤ 100 →
      align ccs cs 0 = (align ccs cs' i).map (acc ++ ·) → (∀ ks', align ccs cs' i = some ks' → cellsOf xs cs (acc ++ ks') = accd ++ cellsOf xs cs' ks') → Sub (rcB w l lw ce first i sp) vs1 →
      ForP G c' (fun H => H q = some (.list qs)) (forT (stm recStmts 9)) (forB (stm recStmts 9)) (Seq G c' (recStmts.drop 10) QF E) E (qs'.map .val) H1 vs1 := by
    intro qs' cs' hat'
    induction hat' with
    | nil =>
      intro _ i acc ps accd H1 vs1 hle hce1 hrow hn hi hal hcell hv
      have hal' : align ccs cs 0 = some acc := by rw [hal]; simp [align]
      have hc0 := hcell [] rfl
      rw [List.append_nil] at hc0
      refine t_vars hv ?_
      refine t_cons ?_
      repeat walk_at "w"
      refine sub_list (hle _ _ hw) (by decide) (by decide) rfl ?_
      refine m_list (hle _ _ hwl) PySem.F.slot_list_append rfl ?_
      refine ⟨trivial, ?_⟩
      repeat walk_at "w"
      refine k_append (hle _ _ hwl) (by rw [sizeLine_eq]; omega) ?_
      repeat walk_at "w"
      refine hB acc hal' ce ps _ _ ?_ PHeap.set_self ((PHeap.set_ne (nwl hce)).trans hce1) hce ?_
      · exact PHeap.Le.set (PHeap.Le.trans PHeap.del_le hle) (by unfold PHeap.del; simp)
      · rw [hc0]
        simp only [cellsOf, List.append_nil]
        refine hrow.le (dM_keep fun b o hb he => ?_)
        exact (PHeap.set_ne (fun e => hb (by rw [e]; exact htM))).trans (PHeap.del_le _ _ he)
    | @cons t0 a b qs' cs' hr0 hat' ih =>
      intro hsub i acc ps accd H1 vs1 hle hce1 hrow hn hi hal hcell hv P v hpv
      refine a_name (Cx.wp_ok hc') rfl hpv ?_
      refine t_vars (sub_put hv) ?_
      have hbz := hbd (a, b) (hsub _ (.head _))
      have ref : ∀ (P : List (Addr × Obj)) (H3 : PHeap) (vs3 : Vars) (QF' : PF → PHeap → Vars → Prop), Sub ([("first", .int first)] : Vars) vs3 → PHeap.Le H H3 → (∀ t H' vs1, PHeap.Le H H' → H' t = some (.tup [.str (msg2 (first + 2)), .int (first + 1)]) → H t = none → QF' (.ret (.ref t)) H' vs1) →
          T G (c'.wp P) PF.R (execs (forB (stm (forB (stm recStmts 9)) 1)) (c'.wp P).env) H3 vs3 QF' E := by
        intro P H3 vs3 QF' hv3 hle3 hQF
        refine t_vars hv3 ?_
        refine t_cons ?_
        repeat walk_at "w"
        have hdl := len_digs' (k := first + 2) (by omega)
        refine k_str (by omega) ?_
        have h44 : ("Column span alignment problem in table line " : Str).length = 44 := by decide +kernel
        refine b_cat (by rw [sizeLine_eq, h44]; omega) ?_
        repeat walk_at "w"
        refine b_cat (by rw [len_app, sizeLine_eq, h44]; show 44 + _ + 1 ≤ _; omega) ?_
        repeat walk_at "w"
        refine ⟨by show 2 ≤ _; rw [sizeLine_eq]; decide, fun d hdn => ?_⟩
        refine hQF d _ _ (le_new hle3 hdn) PHeap.set_self ?_
        cases q : H d with
        | none => rfl
        | some o => rw [hle3 _ _ q] at hdn; cases hdn
      refine t_cons ?_
      have hcw : (c'.wp P).Ok := Cx.wp_ok hc'
      have hdw : (c'.wp P).hd = none := hd'
      with_reducible refine' t_assigncomp (cl := ([] : List (Str × Addr))) hcw hdw ?f0 ?f9 ?f1 ?f2 ?f3 ?f4 ?f5 ?f6 ?_
      case f0 => k_dflt (exact rfl)
      case f9 => k_dflt (exact rfl)
      case f1 => exact closureFor_of rfl
      case f2 => decide
      case f3 => rfl
      case f4 => decide
      case f5 => decide
      case f6 => exact fun _ => rfl
      repeat walk_at "w"
      refine slc_list (lo := some (i : Int)) (hi := none) (hle _ _ hls) rfl rfl (by rw [hlat.len, sizeLine_eq]; omega) fun d1 hd1 => ?_
      rw [lsl_from]
      obtain ⟨H2, hH2⟩ : ∃ H2, H2 = H1.set d1 (.list (ls.drop i)) := ⟨_, rfl⟩
      rw [← hH2]
      have L2 : PHeap.Le H1 H2 := by rw [hH2]; exact le_new (PHeap.Le.refl _) hd1
      have e2 : H2 d1 = some (.list (ls.drop i)) := by rw [hH2]; exact PHeap.set_self
      have hat2 : ColsAt H2 (ls.drop i) (ccs.drop i) := (hlat.drop i).le (PHeap.Le.trans hle L2)
      have hdl : (ls.drop i).length ≤ 60 := by rw [List.length_drop, hlat.len]; omega
      refine iter_list e2 ⟨by simp; have := hlat.len; rw [sizeLine_eq]; omega, e2, fun k1 hk1 g1 g2 g3 g4 => ?_⟩
      rw [zip_val hat2.len]
      refine comp_map (it := fun z : PV × (Int × Int) => z.1) (f := fun z => .int z.2.2) (tst := fun _ => true) (Hk := H2) hk1 rfl e2 _ [] [] (fun P z vs1 hz => ⟨rfl, rfl, fun _ => ?_⟩) ?_
      · obtain ⟨r, hr1, hr2⟩ := hat2.zip z hz
        rw [hr1]
        refine t_only ?_
        repeat walk_at "w"
        exact sub_tup hr2 (by decide) (by decide) rfl ⟨rfl, rfl⟩
      · intro d2 hd2
        rw [List.nil_append, List.filter_eq_self.mpr (fun _ _ => rfl), zip_snd hat2.len]
        obtain ⟨H3, hH3⟩ : ∃ H3, H3 = H2.set d2 (.list (((ccs.drop i).map (·.2)).map .int)) := ⟨_, rfl⟩
        rw [← hH3]
        have L3 : PHeap.Le H1 H3 := by rw [hH3]; exact le_new L2 hd2
        have e3 : H3 d2 = some (.list (((ccs.drop i).map (·.2)).map .int)) := by rw [hH3]; exact PHeap.set_self
        have LH := PHeap.Le.trans hle L3
        clear hH3 hH2
        repeat walk_at "w"
        refine k_len (LH _ _ hls) (by rw [hlat.len, sizeLine_eq]; omega) ?_
        repeat walk_at "w"
        have hrf : align ccs ((a, b) :: cs') i = none → ∀ t H' vs1, PHeap.Le H H' → H' t = some (.tup [.str (msg2 (first + 2)), .int (first + 1)]) → H t = none → QF (.ret (.ref t)) H' vs1 := fun hn t H' vs1 k1 k2 k3 => hA (by rw [hal, hn]; rfl) t H' vs1 k1 k2 k3
        refine ⟨fun hq1 => ?_, fun hq1 => ?_⟩
        · have hge : ccs.length ≤ i := by have := of_decide_eq_true hq1; rw [hlat.len] at this; omega
          refine ⟨fun _ => ?_, fun q => (nomatch q)⟩
          refine ref P H3 _ _ (sub_cons rfl sub_nil) LH fun t H' vs1 k1 k2 k3 => hrf ?_ t H' vs1 k1 k2 k3
          unfold align
          rw [List.getElem?_eq_none_iff.mpr hge]
        · have hlt : i < ccs.length := by have := of_decide_eq_false hq1; rw [hlat.len] at this; omega
          obtain ⟨a', b', hab⟩ : ∃ a' b', ccs[i]? = some (a', b') := ⟨ccs[i].1, ccs[i].2, by simp [hlt]⟩
          obtain ⟨r1, u1, u2⟩ := hlat.get hab
          repeat walk_at "w"
          refine sub_list (LH _ _ hls) (by omega) (by omega) (by rw [show ((i : Int)).toNat = i by omega]; exact u1) ?_
          repeat walk_at "w"
          refine sub_tup (LH _ _ u2) (by decide) (by decide) rfl ?_
          repeat walk_at "w"
          refine sub_tup (LH _ _ hr0) (by decide) (by decide) rfl ?_
          repeat walk_at "w"
          refine ⟨fun hq2 => ?_, fun hq2 => ?_⟩
          · have hne' : a' ≠ a := by simpa using hq2
            refine ⟨fun _ => ?_, fun q => (nomatch q)⟩
            refine ref P H3 _ _ (sub_cons rfl sub_nil) LH fun t H' vs1 k1 k2 k3 => hrf ?_ t H' vs1 k1 k2 k3
            unfold align
            rw [hab]
            simp [hne']
          · have heq : a' = a := by simpa using hq2
            subst heq
            repeat walk_at "w"
            refine sub_tup (LH _ _ hr0) (by decide) (by decide) rfl ?_
            repeat walk_at "w"
            refine c_notin e3 ?_
            repeat walk_at "w"
            refine ⟨fun hq3 => ?_, fun hq3 => ?_⟩
            · have hnc : ((ccs.drop i).map (·.2)).contains b = false := by simpa using hq3
              refine ⟨fun _ => ?_, fun q => (nomatch q)⟩
              refine ref P H3 _ _ (sub_cons rfl sub_nil) LH fun t H' vs1 k1 k2 k3 => hrf ?_ t H' vs1 k1 k2 k3
              unfold align
              rw [hab]
              simp only [hnc]
              simp
            · have hcon : ((ccs.drop i).map (·.2)).contains b = true := by
                cases hcc2 : ((ccs.drop i).map (·.2)).contains b with
                | true => rfl
                | false => rw [hcc2] at hq3; cases hq3
              have hmem : b ∈ (ccs.drop i).map (·.2) := List.contains_iff_mem.mp hcon
              repeat walk_at "w"
              refine ⟨fun q => (nomatch q), fun _ => ?_⟩
              repeat walk_at "w"
              refine m_list e3 PySem.F.slot_list_index rfl ?_
              refine ⟨trivial, ?_⟩
              repeat walk_at "w"
              refine sub_tup (LH _ _ hr0) (by decide) (by decide) rfl ?_
              repeat walk_at "w"
              refine k_index e3 hmem (by have := hlat.len; simp; rw [sizeLine_eq]; omega) ?_
              have hidx : ((ccs.drop i).map (·.2)).idxOf b < ccs.length - i := by
                have := List.idxOf_lt_length_iff.mpr hmem
                simpa using this
              have hal1 : align ccs ((a', b) :: cs') i = (align ccs cs' (i + ((ccs.drop i).map (·.2)).idxOf b + 1)).map (((ccs.drop i).map (·.2)).idxOf b :: ·) := by
                conv => lhs; unfold align
                rw [hab]
                simp only [hcon, and_self, if_true]
              generalize ((ccs.drop i).map (·.2)).idxOf b = idx at *
              repeat walk_at "w"
              refine m_list (L3 _ _ hce1) PySem.F.slot_list_append rfl ?_
              refine ⟨trivial, ?_⟩
              repeat walk_at "w"
              refine sub_tup (LH _ _ hr0) (by decide) (by decide) rfl ?_
              repeat walk_at "w"
              refine sub_tup (LH _ _ hr0) (by decide) (by decide) rfl ?_
              repeat walk_at "w"
              refine cut_spec (xs := xs) (b := a') (e := b) hG hF hcw (by show c'.dp < 500; omega) hdw (LH _ _ hl) hxl hx hbz.1 (by omega) hbz.2.2.1 (by omega) fun s H4 m1 m2 m3 => ?_
              repeat walk_at "w"
              refine ⟨by show 4 ≤ _; rw [sizeLine_eq]; decide, fun d5 hd5 => ?_⟩
              obtain ⟨H5, hH5⟩ : ∃ H5, H5 = H4.set d5 (.list [.int 0, .int (idx : Nat), .int first, .ref s]) := ⟨_, rfl⟩
              rw [← hH5]
              have L4 := PHeap.Le.trans L3 m1
              have L5 : PHeap.Le H1 H5 := by rw [hH5]; exact le_new L4 hd5
              have e5 : H5 d5 = some (.list [.int 0, .int (idx : Nat), .int first, .ref s]) := by rw [hH5]; exact PHeap.set_self
              have s5 : H5 s = some (.list ((cutB xs a' b).map .str)) := by rw [hH5]; exact (PHeap.set_ne (ne_none m3 hd5)).trans m3
              repeat walk_at "w"
              have hpl : ps.length ≤ 60 := by omega
              refine k_append (L5 _ _ hce1) (by rw [sizeLine_eq]; omega) ?_
              repeat walk_at "w"
              have off1 : ∀ {z}, H1 z = none → H z = none := fun {z} hz => by
                cases q : H z with
                | none => rfl
                | some o => rw [hle _ _ q] at hz; cases hz
              have off4 : ∀ {z}, H4 z = none → H1 z = none := fun {z} hz => by
                cases q : H1 z with
                | none => rfl
                | some o => rw [L4 _ _ q] at hz; cases hz
              have off3 : ∀ {z}, H3 z = none → H1 z = none := fun {z} hz => by
                cases q : H1 z with
                | none => rfl
                | some o => rw [L3 _ _ q] at hz; cases hz
              have nd5 : d5 ≠ ce := fun e => by rw [e] at hd5; rw [L4 _ _ hce1] at hd5; cases hd5
              have ns5 : s ≠ ce := fun e => by rw [e] at m2; rw [L3 _ _ hce1] at m2; cases m2
              have hcast : ((i + idx + 1 : Nat) : Int) = (i : Int) + (idx : Nat) + 1 := by omega
              refine ⟨_, PHeap.Le.refl _, (PHeap.set_ne nqce).trans (L5 _ _ (hle _ _ hqs)), ?_⟩
              refine ih (fun z hz => hsub z (.tail _ hz)) (i + idx + 1) (acc ++ [idx]) (ps ++ [.ref d5]) (accd ++ [(idx, cutB xs a' b)]) _ _ (PHeap.Le.set (PHeap.Le.trans hle L5) hce) PHeap.set_self ?_ (by simp at hn ⊢; omega) (by omega) ?_ ?_ ?_
              · rw [del_set']
                exact RowL.app (.cons (dM_get (nM (off1 (off4 hd5))) (del_get nd5 e5)) (dM_get (nM (off1 (off3 m2))) (del_get ns5 s5)) .nil) (hrow.le (dM_le (del_le' L5)))
              · rw [hal, hal1]
                cases align ccs cs' (i + idx + 1) <;> simp
              · intro ks' hks'
                have := hcell (idx :: ks') (by rw [hal1, hks']; rfl)
                rw [List.append_assoc]
                refine (this.trans ?_)
                simp [cellsOf]
              · rw [hcast]
                exact sub_cons rfl (sub_cons rfl (sub_cons rfl (sub_cons rfl (sub_cons rfl (sub_cons rfl (sub_cons rfl sub_nil))))))
  refine loop qs cs hqat (fun _ h => h) 0 [] [] [] _ _ L1 PHeap.set_self .nil ?_ (by decide) ?_ (fun _ _ => rfl) sub_refl
  · simpa using hcs
  · cases align ccs cs 0 <;> rfl
end
section
variable {G : Gl} {S : Scope} {c : Cx S} {H : PHeap} {vs : Vars} {E : PX → PHeap → Vars → Prop} {Q : PV → PHeap → Vars → Prop}
theorem ColsAt.setC {H : PHeap} {w : Addr} {v : Option PV} {o : PO} (hw : H w = some (.cell v)) : ∀ {ps cs}, ColsAt H ps cs → ColsAt (H.set w o) ps cs
  | _, _, .nil => .nil
  | _, _, .cons h k => .cons (by rw [PHeap.set_ne]; exact h; intro e; rw [e, hw] at h; cases h) (ColsAt.setC hw k)
theorem byd_map {b m : Int} {xs : List Str} : ((xs.filter fun z => (Txt.strip (ssl z (some m) none)).length != 0).map fun z => PV.int (b + ((Txt.rstrip (ssl z (some b) none)).length : Nat))) = (byd b m xs).map PV.int := by
  induction xs with
  | nil => rfl
  | cons x r ih =>
    rw [List.filter_cons]
    by_cases h : (Txt.strip (ssl x (some m) none)).length = 0
    · rw [if_neg (by simp [h]), byd_cons0 h]
      exact ih
    · rw [if_pos (by simp [h]), byd_cons1 h, List.map_cons, List.map_cons, ih]
theorem reach_ge {l : List Int} : ∀ {m : Int}, m ≤ reach m l ∧ ∀ j ∈ l, j ≤ reach m l := by
  induction l with
  | nil => intro m; exact ⟨Int.le_refl _, fun _ h => nomatch h⟩
  | cons x r ih =>
    intro m
    have h1 := ih (m := max m x)
    have h2 : reach m (x :: r) = reach (max m x) r := rfl
    rw [h2]
    refine ⟨by omega, fun j hj => ?_⟩
    rcases List.mem_cons.mp hj with rfl | hj
    · omega
    · exact h1.2 j hj
theorem reach_mem {l : List Int} : ∀ {m : Int}, reach m l ∈ l ++ [m] := by
  induction l with
  | nil => intro m; exact .head _
  | cons x r ih =>
    intro m
    have h2 : reach m (x :: r) = reach (max m x) r := rfl
    rw [h2]
    have h1 := ih (m := max m x)
    rcases List.mem_append.mp h1 with h1 | h1
    · exact List.mem_cons_of_mem _ (List.mem_append_left _ h1)
    · rw [List.mem_singleton.mp h1]
      by_cases hm : m ≤ x
      · rw [show max m x = x by omega]; exact .head _
      · rw [show max m x = m by omega]; exact List.mem_cons_of_mem _ (List.mem_append_right _ (.head _))
theorem byd_len {b m : Int} {xs : List Str} : (byd b m xs).length ≤ xs.length := by
  induction xs with
  | nil => exact Nat.le_refl _
  | cons x r ih =>
    unfold byd
    split
    · simp; omega
    · simp; omega

theorem rec_mid (hG : G.Ok) (hF : GF G) {c' : Cx (dScope (topAt 24))} (hc' : c'.Ok) (hd' : c'.hd = none) (ho : c'.own = true) (hdp : c'.dp < 450) (hun : c'.un < 8000) {cb cr w lw wl l q : Addr} (hcl : c'.cl = ([("begin", cb), ("runs", cr)] : List (Str × Addr))) {cinit ini : List (Int × Int)} {be cz b m first : Int} {xs : List Str} {sp : PV} {wps : List PV} {QF : PF → PHeap → Vars → Prop} {B : PHeap}
    (hLB : PHeap.Le (B.del lw) H) (hBb : B cb = none) (hBr : B cr = none) (hBq : B q = none) (hBl : ∃ o, B lw = some o) (hnw : w ≠ lw) (hnl : l ≠ lw)
    (hw : B w = some (.list [.ref lw, .int be, .ref wl])) (hcr : H cr = some (.cell (some (.ref q)))) (hcb : H cb = some (.cell none)) (hq : Cols H q (ini ++ [(b, m)])) (hcs : ini.length ≤ 50) (hbd : Bd (ini ++ [(b, m)])) (hcc : Cols H lw (cinit ++ [(cz, m)])) (hccl : cinit.length ≤ 50)
    (hl : B l = some (.list (xs.map .str))) (hxl : xs.length ≤ 1000) (hx : ∀ x ∈ xs, x.length ≤ 5000) (hwl : B wl = some (.list wps)) (hwz : wps.length ≤ 1000) (ho0 : 0 ≤ first) (ho1 : first < 10000) (hne : lw ≠ wl) (M : List Addr) (hM : ∀ z ∈ M, ∃ o, B z = some o) (htM : wl ∈ M)
    (hA : align (wideCc cinit cz b m m xs) (wideCs ini b m m xs) 0 = none → ∀ t H' vs1, PHeap.Le (B.del lw) H' → Cols H' lw (wideCc cinit cz b m m xs) → H' t = some (.tup [.str (msg2 (first + 2)), .int (first + 1)]) → B t = none → QF (.ret (.ref t)) H' vs1)
    (hB : ∀ ks, align (wideCc cinit cz b m m xs) (wideCs ini b m m xs) 0 = some ks → ∀ rl ps H' vs1, PHeap.Le ((B.del lw).del wl) H' → Cols H' lw (wideCc cinit cz b m m xs) → H' wl = some (.list (wps ++ [.ref rl])) → H' rl = some (.list ps) → B rl = none → RowL (dM M H') first ps (cellsOf xs (wideCs ini b m m xs) ks) → QF (.ret .none) H' vs1)
    {vs1 : Vars} (hv : Sub (rcA w l lw first sp) vs1) :
    T G c' PF.R (execs (recStmts.drop 4) c'.env) H vs1 QF E := by
  refine t_vars hv ?_
  obtain ⟨qs0, hqs, hqat⟩ := id hq
  obtain ⟨qi, rq, rfl, hqi, hrq⟩ := hqat.snoc
  obtain ⟨ls0, hls, hlat⟩ := id hcc
  obtain ⟨li, rz, rfl, hli, hrz⟩ := hlat.snoc
  have hqil := hqi.len
  have hlil := hli.len
  have gw : ∀ {Hk}, PHeap.Le (B.del lw) Hk → Hk w = some (.list [.ref lw, .int be, .ref wl]) := fun L => L _ _ (del_get hnw hw)
  have gl : ∀ {Hk}, PHeap.Le (B.del lw) Hk → Hk l = some (.list (xs.map .str)) := fun L => L _ _ (del_get hnl hl)
  have gwl : ∀ {Hk}, PHeap.Le (B.del lw) Hk → Hk wl = some (.list wps) := fun L => L _ _ (del_get (Ne.symm hne) hwl)
  have dB : ∀ {z}, B z = none → (B.del lw) z = none := fun {z} hz => by
    unfold PHeap.del
    split
    · rfl
    · exact hz
  have hb := hbd (b, m) (by simp)
  have mM : ∀ {Hk}, PHeap.Le (B.del lw) Hk → (∃ ps, Hk lw = some (.list ps)) → ∀ z ∈ M, ∃ o, Hk z = some o := fun {Hk} L ⟨ps, hp⟩ z hz => by
    by_cases e : z = lw
    · rw [e]; exact ⟨_, hp⟩
    · obtain ⟨o, ho⟩ := hM z hz
      exact ⟨o, L _ _ (del_get e ho)⟩
  refine t_cons ?_
  with_reducible refine' t_assignc (ca := cb) ?a1 ?a2 ?a3 ?a4 ?_
  case a1 => exact hc'
  case a2 => k_dflt (exact rfl)
  case a3 => k_dflt (exact rfl)
  case a4 => rw [hcl]; rfl
  repeat walk_at "w"
  refine t_cell (ca := cr) (p := .ref q) hc' rfl (by rw [hcl]; rfl) hcr ?_
  repeat walk_at "w"
  refine ⟨_, rfl, ?_⟩
  refine sub_neg hqs (by decide) (by simp; omega) (by decide) last_get ?_
  repeat walk_at "w"
  refine sub_tup hrq (by decide) (by decide) rfl ?_
  refine ⟨_, hcb, ?_⟩
  obtain ⟨H1, hH1⟩ : ∃ H1, H1 = H.set cb (.cell (some (.int b))) := ⟨_, rfl⟩
  rw [← hH1]
  have L1 : PHeap.Le (B.del lw) H1 := by rw [hH1]; exact PHeap.Le.set hLB (dB hBb)
  have k1 : ∀ z o, H z = some o → (∀ v, o ≠ .cell v) → H1 z = some o := fun z o hz hn => by
    rw [hH1]
    refine (PHeap.set_ne (fun e => ?_)).trans hz
    rw [e, hcb] at hz
    cases hz
    exact hn _ rfl
  have q1 := k1 _ _ hqs (fun _ h => nomatch h)
  have rq1 := k1 _ _ hrq (fun _ h => nomatch h)
  have lw1 := k1 _ _ hls (fun _ h => nomatch h)
  have rz1 := k1 _ _ hrz (fun _ h => nomatch h)
  have qi1 : ColsAt H1 qi ini := by rw [hH1]; exact hqi.setC hcb
  have li1 : ColsAt H1 li cinit := by rw [hH1]; exact hli.setC hcb
  have cb1 : H1 cb = some (.cell (some (.int b))) := by rw [hH1]; exact PHeap.set_self
  have cr1 : H1 cr = some (.cell (some (.ref q))) := by
    rw [hH1]
    refine (PHeap.set_ne (fun e => ?_)).trans hcr
    rw [e, hcb] at hcr
    cases hcr
  clear hH1 k1
  repeat walk_at "w"
  with_reducible refine' t_assigncomp (cl := ([("runs", cr), ("begin", cb)] : List (Str × Addr))) hc' hd' ?f0 ?f9 ?f1 ?f2 ?f3 ?f4 ?f5 ?f6 ?_
  case f0 => k_dflt (exact rfl)
  case f9 => k_dflt (exact rfl)
  case f1 => exact closureFor_of (by rw [show c'.env.cells = ([("begin", cb), ("runs", cr)] : List (Str × Addr)) from hcl]; rfl)
  case f2 => decide
  case f3 => rfl
  case f4 => decide
  case f5 => decide
  case f6 => exact fun _ => rfl
  repeat walk_at "w"
  refine iter_list (gl L1) ⟨by simp; rw [sizeLine_eq]; omega, gl L1, fun k2 hk2 g1 g2 g3 g4 => ?_⟩
  rw [show (xs.map PV.str).map Itm.val = xs.map (fun z => Itm.val (.str z)) by rw [List.map_map]; rfl]
  refine comp_map (it := .str) (f := fun z => .int (b + ((Txt.rstrip (ssl z (some b) none)).length : Nat))) (tst := fun z => (Txt.strip (ssl z (some m) none)).length != 0) (Hk := H1) hk2 rfl (gl L1) xs [] [] (fun P z vs1 hz => ?_) ?_
  · have hzl := hx z hz
    refine t_only ?_
    repeat walk_at "w"
    refine t_cell (ca := cr) (p := .ref q) (Cx.wp_ok hk2) rfl (by show k2.cl.lookup _ = _; rw [g4]; rfl) cr1 ?_
    repeat walk_at "w"
    refine ⟨_, rfl, ?_⟩
    refine sub_neg q1 (by decide) (by simp; omega) (by decide) last_get ?_
    repeat walk_at "w"
    refine sub_tup rq1 (by decide) (by decide) rfl ?_
    repeat walk_at "w"
    refine slc_str (lo := some m) (hi := none) rfl rfl (by rw [sizeLine_eq]; omega) ?_
    have hsl := len_ssl z (some m) none
    refine m_str PySem.F.slot_str_strip rfl ?_
    refine ⟨trivial, ?_⟩
    repeat walk_at "w"
    refine k_strip (by rw [sizeLine_eq]; omega) ?_
    repeat walk_at "w"
    refine ⟨rfl, str_ne0, fun _ => ?_⟩
    repeat walk_at "w"
    refine t_cell (ca := cb) (p := .int b) (Cx.wp_ok hk2) rfl (by show k2.cl.lookup _ = _; rw [g4]; rfl) cb1 ?_
    repeat walk_at "w"
    refine t_cell (ca := cb) (p := .int b) (Cx.wp_ok hk2) rfl (by show k2.cl.lookup _ = _; rw [g4]; rfl) cb1 ?_
    repeat walk_at "w"
    refine slc_str (lo := some b) (hi := none) rfl rfl (by rw [sizeLine_eq]; omega) ?_
    have hsl2 := len_ssl z (some b) none
    refine m_str PySem.F.slot_str_rstrip rfl ?_
    refine ⟨trivial, ?_⟩
    repeat walk_at "w"
    refine k_rstrip (by rw [sizeLine_eq]; omega) ?_
    repeat walk_at "w"
    have hsl3 := len_rstrip (ssl z (some b) none)
    refine k_lens (by rw [sizeLine_eq]; omega) ?_
    repeat walk_at "w"
    exact ⟨rfl, rfl⟩
  · intro d1 hd1
    rw [List.nil_append, byd_map]
    obtain ⟨H2, hH2⟩ : ∃ H2, H2 = H1.set d1 (.list ((byd b m xs).map .int)) := ⟨_, rfl⟩
    rw [← hH2]
    have N2 : PHeap.Le H1 H2 := by rw [hH2]; exact le_new (PHeap.Le.refl _) hd1
    have L2 := PHeap.Le.trans L1 N2
    have e2 : H2 d1 = some (.list ((byd b m xs).map .int)) := by rw [hH2]; exact PHeap.set_self
    clear hH2
    have hbl := byd_len (b := b) (m := m) (xs := xs)
    repeat walk_at "w"
    refine ⟨Nat.zero_le _, fun d2 hd2 => ?_⟩
    have N3 : PHeap.Le H1 (H2.set d2 (.list [])) := le_new N2 hd2
    obtain ⟨H3, hH3⟩ : ∃ H3, H3 = H2.set d2 (.list []) := ⟨_, rfl⟩
    rw [← hH3] at N3 ⊢
    have e3 : H3 d1 = some (.list ((byd b m xs).map .int)) := by rw [hH3]; exact (PHeap.set_ne (ne_none e2 hd2)).trans e2
    have f3 : H3 d2 = some (.list []) := by rw [hH3]; exact PHeap.set_self
    have L3 := PHeap.Le.trans L1 N3
    clear hH3
    refine c_nempty e3 f3 (by omega) ?_
    repeat walk_at "w"
    have offB : ∀ {Hk}, PHeap.Le (B.del lw) Hk → (∃ ps, Hk lw = some (.list ps)) → ∀ {z}, Hk z = none → B z = none := fun {Hk} L ⟨ps, hp⟩ {z} hz => by
      cases q : B z with
      | none => rfl
      | some o =>
        by_cases e : z = lw
        · rw [e, hp] at hz; cases hz
        · rw [L _ _ (del_get e q)] at hz; cases hz
    refine ⟨fun hq1 => ?_, fun hq1 => ?_⟩
    · have hbn : byd b m xs ≠ [] := fun e => by rw [e] at hq1; cases hq1
      have hwC : wideCs ini b m m xs = ini ++ [(b, reach m (byd b m xs))] := by unfold wideCs; rw [if_neg hbn]
      repeat walk_at "w"
      refine ⟨_, rfl, ?_⟩
      refine sub_neg (N3 _ _ lw1) (by decide) (by simp; omega) (by decide) last_get ?_
      repeat walk_at "w"
      refine sub_tup (N3 _ _ rz1) (by decide) (by decide) rfl ?_
      repeat walk_at "w"
      refine ⟨by show 1 ≤ _; rw [sizeLine_eq]; decide, fun d3 hd3 => ?_⟩
      refine b_lists ((PHeap.set_ne (ne_none e3 hd3)).trans e3) PHeap.set_self (by rw [List.length_map, sizeLine_eq]; show _ + 1 ≤ _; omega) fun d4 hd4 => ?_
      repeat walk_at "w"
      refine k_maxl (is := byd b m xs ++ [m]) (i := reach m (byd b m xs)) hd' (by rw [PHeap.set_self]; simp) reach_mem (fun j hj => ?_) ?_
      · rcases List.mem_append.mp hj with hj | hj
        · exact reach_ge.2 j hj
        · rw [List.mem_singleton.mp hj]; exact reach_ge.1
      obtain ⟨H4, hH4⟩ : ∃ H4, H4 = (H3.set d3 (.list [.int m])).set d4 (.list ((byd b m xs).map .int ++ [.int m])) := ⟨_, rfl⟩
      rw [← hH4]
      have N4 : PHeap.Le H1 H4 := by rw [hH4]; exact le_new (le_new N3 hd3) hd4
      have L4 := PHeap.Le.trans L1 N4
      clear hH4
      have hrl := reach_le (b := b) (m := m) (e := m) (k := 0) (xs := xs) ⟨hb.1, hb.2.1⟩ hb.2.2 hx
      generalize hR : reach m (byd b m xs) = R at *
      repeat walk_at "w"
      refine t_cell (ca := cb) (p := .int b) hc' rfl (by rw [hcl]; rfl) (N4 _ _ cb1) ?_
      repeat walk_at "w"
      refine ⟨by show 2 ≤ _; rw [sizeLine_eq]; decide, fun d5 hd5 => ?_⟩
      have N5 : PHeap.Le H1 (H4.set d5 (.tup [.int b, .int R])) := le_new N4 hd5
      repeat walk_at "w"
      refine t_cell (ca := cr) (p := .ref q) hc' rfl (by rw [hcl]; rfl) (N5 _ _ cr1) ?_
      repeat walk_at "w"
      refine ⟨_, rfl, ?_⟩
      refine sto_neg (N5 _ _ q1) (by decide) (by simp; omega) (by decide) ?_
      rw [last_set]
      obtain ⟨H5, hH5⟩ : ∃ H5, H5 = (H4.set d5 (.tup [.int b, .int R])).set q (.list (qi ++ [.ref d5])) := ⟨_, rfl⟩
      rw [← hH5]
      have L5 : PHeap.Le (B.del lw) H5 := by rw [hH5]; exact PHeap.Le.set (PHeap.Le.trans L1 N5) (dB hBq)
      have nqlw : q ≠ lw := fun e => by obtain ⟨o, ho⟩ := hBl; rw [← e, hBq] at ho; cases ho
      have k5 : ∀ z o, H1 z = some o → z ≠ q → H5 z = some o := fun z o hz hn => by rw [hH5]; exact (PHeap.set_ne hn).trans (N5 _ _ hz)
      have nq5 : ∀ {z o}, H1 z = some o → (∀ ps, o ≠ .list ps) → z ≠ q := fun {z o} hz hn e => by rw [e, q1] at hz; cases hz; exact hn _ rfl
      have q5 : H5 q = some (.list (qi ++ [.ref d5])) := by rw [hH5]; exact PHeap.set_self
      have lw5 := k5 _ _ lw1 (Ne.symm nqlw)
      have rz5 := k5 _ _ rz1 (nq5 rz1 fun _ h => nomatch h)
      have cr5 := k5 _ _ cr1 (nq5 cr1 fun _ h => nomatch h)
      have qat5 : ColsAt H5 (qi ++ [.ref d5]) (ini ++ [(b, R)]) := by
        refine ColsAt.app (.cons ?_ .nil) ?_
        · rw [hH5]; exact (PHeap.set_ne (Ne.symm (ne_none (N4 _ _ q1) hd5))).trans PHeap.set_self
        · rw [hH5]; exact ColsAt.set (N5 _ _ q1) (qi1.le N5)
      have li5 : ColsAt H5 li cinit := by rw [hH5]; exact ColsAt.set (N5 _ _ q1) (li1.le N5)
      clear hH5 k5
      repeat walk_at "w"
      refine ⟨_, rfl, ?_⟩
      refine sub_neg lw5 (by decide) (by simp; omega) (by decide) last_get ?_
      repeat walk_at "w"
      refine sub_tup rz5 (by decide) (by decide) rfl ?_
      repeat walk_at "w"
      refine ⟨by show 2 ≤ _; rw [sizeLine_eq]; decide, fun d6 hd6 => ?_⟩
      repeat walk_at "w"
      refine ⟨_, rfl, ?_⟩
      refine sto_neg ((PHeap.set_ne (ne_none lw5 hd6)).trans lw5) (by decide) (by simp; omega) (by decide) ?_
      rw [last_set]
      obtain ⟨H6, hH6⟩ : ∃ H6, H6 = (H5.set d6 (.tup [.int cz, .int R])).set lw (.list (li ++ [.ref d6])) := ⟨_, rfl⟩
      rw [← hH6]
      have N6 : PHeap.Le H5 (H5.set d6 (.tup [.int cz, .int R])) := le_new (PHeap.Le.refl _) hd6
      have lw6 : (H5.set d6 (.tup [.int cz, .int R])) lw = some (.list (li ++ [.ref rz])) := N6 _ _ lw5
      have L6 : PHeap.Le (B.del lw) H6 := by rw [hH6]; exact PHeap.Le.set (PHeap.Le.trans L5 N6) (by unfold PHeap.del; simp)
      have q6 : Cols H6 q (ini ++ [(b, R)]) := by
        rw [hH6]
        exact ⟨_, (PHeap.set_ne nqlw).trans (N6 _ _ q5), ColsAt.set lw6 (qat5.le N6)⟩
      have c6 : Cols H6 lw (cinit ++ [(cz, R)]) := by
        rw [hH6]
        refine ⟨_, PHeap.set_self, ColsAt.app (.cons ?_ .nil) (ColsAt.set lw6 (li5.le N6))⟩
        exact (PHeap.set_ne (Ne.symm (ne_none lw5 hd6))).trans PHeap.set_self
      have cr6 : H6 cr = some (.cell (some (.ref q))) := by
        rw [hH6]
        refine (PHeap.set_ne (fun e => ?_)).trans (N6 _ _ cr5)
        rw [e, lw5] at cr5; cases cr5
      clear hH6
      have hcC : wideCc cinit cz b m m xs = cinit ++ [(cz, R)] := by unfold wideCc; rw [hR]
      rw [hwC, hcC] at hA hB
      refine seq_next ?_
      refine t_nil ?_
      refine seq_next ?_
      refine rec_tail (ccs := cinit ++ [(cz, R)]) (cs := ini ++ [(b, R)]) (q := q) (be := be) (sp := sp) hG hF hc' hd' ho hdp hcl (gw L6) cr6 q6 (by simp; omega) ?_ c6 (by simp; omega) (gl L6) hxl hx (gwl L6) hwz ho0 ho1 M (mM L6 ⟨_, c6.choose_spec.1⟩) htM ?_ ?_ ?_
      · have := wide_bd hbd hx
        rw [hwC] at this
        exact this
      · intro hal t H' vs2 j1 j2 j3
        exact hA hal t H' vs2 (PHeap.Le.trans L6 j1) (c6.le j1) j2 (offB L6 ⟨_, c6.choose_spec.1⟩ j3)
      · intro ks hks rl ps H' vs2 j1 j2 j3 j4 j5
        exact hB ks hks rl ps H' vs2 (PHeap.Le.trans (del_le' L6) j1) (by
          obtain ⟨z, hz1, hz2⟩ := c6
          exact ⟨z, j1 _ _ (del_get hne hz1), (hz2.del (gwl L6)).le j1⟩) j2 j3 (offB L6 ⟨_, c6.choose_spec.1⟩ j4) j5
      · exact sub_cons rfl (sub_cons rfl (sub_cons rfl (sub_cons rfl (sub_cons rfl sub_nil))))
    · have hbn : byd b m xs = [] := by
        cases hbe : byd b m xs with
        | nil => rfl
        | cons _ _ => rw [hbe] at hq1; cases hq1
      have hwC : wideCs ini b m m xs = ini ++ [(b, m)] := by unfold wideCs; rw [if_pos hbn]
      have hcC : wideCc cinit cz b m m xs = cinit ++ [(cz, m)] := by unfold wideCc; rw [hbn]; rfl
      rw [hwC, hcC] at hA hB
      have c3 : Cols H3 lw (cinit ++ [(cz, m)]) := ⟨_, N3 _ _ lw1, ColsAt.app (.cons (N3 _ _ rz1) .nil) (li1.le N3)⟩
      refine t_nil ?_
      refine seq_next ?_
      refine rec_tail (ccs := cinit ++ [(cz, m)]) (cs := ini ++ [(b, m)]) (q := q) (be := be) (sp := sp) hG hF hc' hd' ho hdp hcl (gw L3) (N3 _ _ cr1) ⟨_, N3 _ _ q1, ColsAt.app (.cons (N3 _ _ rq1) .nil) (qi1.le N3)⟩ (by simp; omega) ?_ c3 (by simp; omega) (gl L3) hxl hx (gwl L3) hwz ho0 ho1 M (mM L3 ⟨_, c3.choose_spec.1⟩) htM ?_ ?_ ?_
      · intro z hz
        have := hbd z hz
        omega
      · intro hal t H' vs2 j1 j2 j3
        exact hA hal t H' vs2 (PHeap.Le.trans L3 j1) (c3.le j1) j2 (offB L3 ⟨_, c3.choose_spec.1⟩ j3)
      · intro ks hks rl ps H' vs2 j1 j2 j3 j4 j5
        exact hB ks hks rl ps H' vs2 (PHeap.Le.trans (del_le' L3) j1) (by
          obtain ⟨z, hz1, hz2⟩ := c3
          exact ⟨z, j1 _ _ (del_get hne hz1), (hz2.del (gwl L3)).le j1⟩) j2 j3 (offB L3 ⟨_, c3.choose_spec.1⟩ j4) j5
      · exact sub_cons rfl (sub_cons rfl (sub_cons rfl (sub_cons rfl (sub_cons rfl sub_nil))))
end
section
variable {G : Gl} {S : Scope} {c : Cx S} {H : PHeap} {vs : Vars} {E : PX → PHeap → Vars → Prop} {Q : PV → PHeap → Vars → Prop}
abbrev rcK (w l lw : Addr) (first k : Int) (sp : PV) : Vars := [("world", .ref w), ("texts", .ref l), ("first", .int first), ("span", sp), ("columns", .ref lw), ("k", .int k)]
theorem rec_marg (hG : G.Ok) (hF : GF G) {c' : Cx (dScope (topAt 24))} (hc' : c'.Ok) (hd' : c'.hd = none) (ho : c'.own = true) (hdp : c'.dp < 450) {cb cr w lw l q : Addr} (hcl : c'.cl = ([("begin", cb), ("runs", cr)] : List (Str × Addr))) {cs : List (Int × Int)} {first : Int} {xs : List Str} {sp : PV} {QF : PF → PHeap → Vars → Prop}
    (hcr : H cr = some (.cell (some (.ref q)))) (hq : Cols H q cs) (hcs : cs.length ≤ 60) (hcs0 : 1 ≤ cs.length)
    (hl : H l = some (.list (xs.map .str))) (hxl : xs.length ≤ 1000) (hx : ∀ x ∈ xs, x.length ≤ 5000) (ho0 : 0 ≤ first) (ho1 : first < 10000)
    (hM : ∀ n, margs xs cs = some n → ∀ t H' vs1, PHeap.Le H H' → H' t = some (.tup [.str (msg3 (first + n + 1)), .int (first + n)]) → H t = none → QF (.ret (.ref t)) H' vs1)
    (hN : margs xs cs = none → ∀ H' vs1, PHeap.Le H H' → Sub (rcA w l lw first sp) vs1 → T G c' PF.R (execs (recStmts.drop 4) c'.env) H' vs1 QF E)
    {vs1 : Vars} (hv : Sub (rcA w l lw first sp) vs1) :
    T G c' PF.R (execs (recStmts.drop 3) c'.env) H vs1 QF E := by
  obtain ⟨qs, hqs, hqat⟩ := id hq
  have hqlen := hqat.len
  have inner : ∀ (P : List (Addr × Obj)) (k : Nat) (a e s e' : Int) (QF' : PF → PHeap → Vars → Prop), cs[k]? = some (a, e) → cs[k + 1]? = some (s, e') → (∀ n, mrow e s xs 0 = some n → ∀ t H' vs1, PHeap.Le H H' → H' t = some (.tup [.str (msg3 (first + n + 1)), .int (first + n)]) → H t = none → QF' (.ret (.ref t)) H' vs1) →
      (mrow e s xs 0 = none → ∀ Hk vs1, PHeap.Le H Hk → Sub (rcA w l lw first sp) vs1 → QF' .next Hk vs1) →
      ∀ (xs' : List Str) (n : Nat) (Hk : PHeap) (vs1 : Vars), mrow e s xs 0 = mrow e s xs' n → xs.drop n = xs' → PHeap.Le H Hk → Sub (rcK w l lw first k sp) vs1 →
      ForP G (c'.wp P) (fun _ => True) (forT (stm (forB (stm recStmts 3)) 0)) (forB (stm (forB (stm recStmts 3)) 0)) QF' E ((List.range' n xs'.length).map fun (i : Nat) => .val (.int (i : Int))) Hk vs1 := by
    intro P k a e s e' QF' hk1 hk2 hhit hmiss xs'
    induction xs' with
    | nil =>
      intro n Hk vs1 hm hd hle hv
      refine hmiss (by rw [hm]; rfl) Hk vs1 hle fun y p hy => hv y p ?_
      revert hy
      exact (sub_cons rfl (sub_cons rfl (sub_cons rfl (sub_cons rfl (sub_cons rfl sub_nil)))) : Sub (rcA w l lw first sp) (rcK w l lw first k sp)) y p
    | cons x r ih =>
      intro n Hk vs1 hm hd hle hv P2 v hpv
      have hxn : xs[n]? = some x := by
        have := congrArg (fun l => l[0]?) hd
        simpa [List.getElem?_drop] using this
      have hdr : xs.drop (n + 1) = r := by
        have := congrArg (fun l => l.drop 1) hd
        simpa [List.drop_drop, Nat.add_comm] using this
      have hn1 : n < 1000 := by have := (List.getElem?_eq_some_iff.mp hxn).1; omega
      have hxx := hx x (List.mem_of_getElem? hxn)
      obtain ⟨r0, hr0, hr1⟩ := hqat.get hk1
      obtain ⟨r2, hr2, hr3⟩ := hqat.get hk2
      have hk60 : k < 60 := by have := (List.getElem?_eq_some_iff.mp hk1).1; omega
      refine a_name (Cx.wp_ok (Cx.wp_ok hc')) rfl hpv ?_
      refine t_vars (sub_put hv) ?_
      refine t_cons ?_
      repeat walk_at "w"
      refine sub_list (p := .str x) (hle _ _ hl) (by omega) (by omega) (by rw [show ((n : Int)).toNat = n by omega]; simp [hxn]) ?_
      repeat walk_at "w"
      refine t_cell (ca := cr) (p := .ref q) (Cx.wp_ok (Cx.wp_ok hc')) rfl (by show c'.cl.lookup _ = _; rw [hcl]; rfl) (hle _ _ hcr) ?_
      repeat walk_at "w"
      refine sub_list (hle _ _ hqs) (by omega) (by omega) (by rw [show ((k : Int)).toNat = k by omega]; exact hr0) ?_
      repeat walk_at "w"
      refine sub_tup (hle _ _ hr1) (by decide) (by decide) rfl ?_
      repeat walk_at "w"
      refine t_cell (ca := cr) (p := .ref q) (Cx.wp_ok (Cx.wp_ok hc')) rfl (by show c'.cl.lookup _ = _; rw [hcl]; rfl) (hle _ _ hcr) ?_
      repeat walk_at "w"
      refine sub_list (hle _ _ hqs) (by omega) (by omega) (by rw [show ((k : Int) + 1).toNat = k + 1 by omega]; exact hr2) ?_
      repeat walk_at "w"
      refine sub_tup (hle _ _ hr3) (by decide) (by decide) rfl ?_
      repeat walk_at "w"
      refine slc_str (lo := some e) (hi := some s) rfl rfl (by rw [sizeLine_eq]; omega) ?_
      have hsl := len_ssl x (some e) (some s)
      refine m_str PySem.F.slot_str_strip rfl ?_
      refine ⟨trivial, ?_⟩
      repeat walk_at "w"
      refine k_strip (by rw [sizeLine_eq]; omega) ?_
      repeat walk_at "w"
      rw [str_ne0]
      refine ⟨fun hq1 => ?_, fun hq1 => ?_⟩
      · have hw : (Txt.strip (ssl x (some e) (some s))).length ≠ 0 := by simpa using hq1
        have hmm : mrow e s xs 0 = some n := by rw [hm, mrow, if_neg hw]
        repeat walk_at "w"
        have hdl := len_digs' (k := first + n + 1) (by omega)
        refine k_str (by omega) ?_
        have h44 : ("Text in column margin in table line " : Str).length = 36 := by decide +kernel
        refine b_cat (by rw [sizeLine_eq, h44]; omega) ?_
        repeat walk_at "w"
        refine b_cat (by rw [len_app, sizeLine_eq, h44]; show 36 + _ + 1 ≤ _; omega) ?_
        repeat walk_at "w"
        refine ⟨by show 2 ≤ _; rw [sizeLine_eq]; decide, fun d hdn => ?_⟩
        refine hhit n hmm d _ _ (le_new hle hdn) PHeap.set_self ?_
        cases q : H d with
        | none => rfl
        | some o => rw [hle _ _ q] at hdn; cases hdn
      · have hw : (Txt.strip (ssl x (some e) (some s))).length = 0 := by simpa using hq1
        repeat walk_at "w"
        refine ⟨Hk, PHeap.Le.refl _, trivial, ?_⟩
        exact ih (n + 1) Hk _ (by rw [hm, mrow, if_pos hw]) hdr hle (sub_cons rfl (sub_cons rfl (sub_cons rfl (sub_cons rfl (sub_cons rfl (sub_cons rfl sub_nil))))))
  have outer : ∀ (r k : Nat) (Hk : PHeap) (vs1 : Vars), k + (r + 1) = cs.length → margs xs cs = margs xs (cs.drop k) → PHeap.Le H Hk → Sub (rcA w l lw first sp) vs1 →
      ForP G c' (fun _ => True) (forT (stm recStmts 3)) (forB (stm recStmts 3)) (Seq G c' (recStmts.drop 4) QF E) E ((List.range' k r).map fun (i : Nat) => .val (.int (i : Int))) Hk vs1 := by
    intro r
    induction r with
    | zero =>
      intro k Hk vs1 hk hm hle hv
      refine hN ?_ Hk vs1 hle hv
      rw [hm]
      obtain ⟨a, e, hci⟩ : ∃ a' b', cs[k]? = some (a', b') := ⟨(cs[k]'(by omega)).1, (cs[k]'(by omega)).2, List.getElem?_eq_getElem (by omega)⟩
      have g1 : cs.drop k = [(a, e)] := by
        rw [List.drop_eq_getElem_cons (by omega), (List.getElem?_eq_some_iff.mp hci).2, List.drop_eq_nil_of_le (by omega)]
      rw [g1]
      rfl
    | succ r ih =>
      intro k Hk vs1 hk hm hle hv P v hpv
      obtain ⟨a, e, hci⟩ : ∃ a' b', cs[k]? = some (a', b') := ⟨(cs[k]'(by omega)).1, (cs[k]'(by omega)).2, List.getElem?_eq_getElem (by omega)⟩
      obtain ⟨s, e', hci2⟩ : ∃ a' b', cs[k + 1]? = some (a', b') := ⟨(cs[k + 1]'(by omega)).1, (cs[k + 1]'(by omega)).2, List.getElem?_eq_getElem (by omega)⟩
      have hmd := margs_drop (xs := xs) hci hci2
      refine a_name (Cx.wp_ok hc') rfl hpv ?_
      refine t_vars (sub_put hv) ?_
      refine t_cons ?_
      have ew : (c'.wp P).own = true := ho
      have dw : (c'.wp P).hd = none := hd'
      with_reducible refine' t_for (Cx.wp_ok hc') ew dw ?f2 ?_
      case f2 => k_dflt (exact fun _ => rfl)
      repeat walk_at "w"
      refine k_len (hle _ _ hl) (by rw [List.length_map, sizeLine_eq]; omega) ?_
      repeat walk_at "w"
      refine k_range fun rg t1 t2 t3 hrg => ?_
      rw [List.length_map]
      refine iter_range PHeap.set_self (by omega) (by omega) ⟨trivial, ?_⟩
      rw [show ((xs.length : Int)).toNat = xs.length by omega, List.range_eq_range']
      refine inner P k a e s e' _ hci hci2 (fun n hn t H' vs2 j1 j2 j3 => ?_) (fun hn H4 vs2 j1 j2 => ?_) xs 0 _ _ rfl rfl (le_new hle hrg) ?_
      · exact hM n (by rw [hm, hmd, hn]) t H' vs2 j1 j2 j3
      · refine seq_next ?_
        refine t_nil ?_
        refine ⟨H4, PHeap.Le.refl _, trivial, ?_⟩
        exact ih (k + 1) H4 vs2 (by omega) (by rw [hm, hmd, hn]) j1 j2
      · exact sub_cons rfl (sub_cons rfl (sub_cons rfl (sub_cons rfl (sub_cons rfl (sub_cons rfl sub_nil)))))
  refine t_vars hv ?_
  refine t_cons ?_
  with_reducible refine' t_for hc' ho hd' ?f2 ?_
  case f2 => k_dflt (exact fun _ => rfl)
  repeat walk_at "w"
  refine t_cell (ca := cr) (p := .ref q) hc' rfl (by rw [hcl]; rfl) hcr ?_
  repeat walk_at "w"
  refine k_len hqs (by rw [hqlen, sizeLine_eq]; omega) ?_
  repeat walk_at "w"
  refine k_range fun rg t1 t2 t3 hrg => ?_
  rw [hqlen]
  refine iter_range PHeap.set_self (by omega) (by omega) ⟨trivial, ?_⟩
  rw [show ((cs.length : Int) - 1).toNat = cs.length - 1 by omega, List.range_eq_range']
  exact outer (cs.length - 1) 0 _ _ (by omega) (by simp) (le_new (PHeap.Le.refl _) hrg) sub_refl
end
section
variable {G : Gl} {S : Scope} {c : Cx S} {H : PHeap} {vs : Vars} {E : PX → PHeap → Vars → Prop} {Q : PV → PHeap → Vars → Prop}
theorem ColsAt.allRef {H : PHeap} {ps : List PV} {cs : List (Int × Int)} (h : ColsAt H ps cs) : ∀ p ∈ ps, ∃ r, p = .ref r := by
  induction h with
  | nil => intro p h; cases h
  | cons _ _ ih =>
    intro p hp
    rcases List.mem_cons.mp hp with rfl | hp
    · exact ⟨_, rfl⟩
    · exact ih p hp
theorem record_spec (hG : G.Ok) (hF : GF G) (hc : c.Ok) (hd : c.dp < 400) (hun : c.un < 7000) (hh : c.hd = none) {w lw wl l : Addr} {cinit : List (Int × Int)} {cz m be first : Int} {xs : List Str} {sp : PV} {wps : List PV} {span : Option (List (Int × Int) × Int × Int × Int)}
    (hw : H w = some (.list [.ref lw, .int be, .ref wl])) (hcc : Cols H lw (cinit ++ [(cz, m)])) (hccl : cinit.length ≤ 50) (hbd : Bd (cinit ++ [(cz, m)]))
    (hl : H l = some (.list (xs.map .str))) (hxl : xs.length ≤ 1000) (hx : ∀ x ∈ xs, x.length ≤ 5000) (hwl : H wl = some (.list wps)) (hwz : wps.length ≤ 1000) (hne : lw ≠ wl) (M : List Addr) (hM : ∀ z ∈ M, ∃ o, H z = some o) (htM : wl ∈ M) (ho0 : 0 ≤ first) (ho1 : first < 10000)
    (hsp : (sp = .none ∧ span = none) ∨ ∃ t x off init lb le, sp = .ref t ∧ H t = some (.tup [.str x, .int off]) ∧ x.length ≤ 5000 ∧ 0 ≤ off ∧ off < 100000 ∧ Runs x 0 (init ++ [(lb, le)]) ∧ Bd (init ++ [(lb, le)]) ∧ init.length ≤ 50 ∧ span = some (init, lb, le, off))
    (h0 : recF cinit cz m be xs first span = .nothing → ∀ H', PHeap.Le H H' → Q .none H' vs)
    (h1 : ∀ msg off cc, recF cinit cz m be xs first span = .ref msg off cc → ∀ t H', PHeap.Le (H.del lw) H' → Cols H' lw cc → H' t = some (.tup [.str msg, .int off]) → H t = none → Q (.ref t) H' vs)
    (h2 : ∀ cc cells, recF cinit cz m be xs first span = .row cc cells → ∀ rl ps H', PHeap.Le ((H.del lw).del wl) H' → Cols H' lw cc → H' wl = some (.list (wps ++ [.ref rl])) → H' rl = some (.list ps) → H rl = none → RowL (dM M H') first ps cells → Q .none H' vs) :
    CallP G c (.ref 589) [.ref w, .ref l, .int first, sp] [] [] H vs Q E := by
  obtain ⟨t, ho⟩ := hF.d_record.at_
  refine CodeP.call (k_defc (bs := [("world", .ref w), ("texts", .ref l), ("first", .int first), ("span", sp)]) (bl := [("world", .ref w), ("texts", .ref l), ("first", .int first), ("span", sp)]) (ns := ["world", "texts", "first", "span"]) (cn := ["begin", "runs"]) hG hc ho hF.d_record.code (by omega) ?_ rfl (by decide) (by decide) (by rfl) (by decide) (by decide) ?_ (by decide) (by decide) (by decide) fun c' cl hc' e1' e2' e3' e4' e5' e6' e7' e8' => ?_)
  · rintro _ _ (_ | ⟨h1, _ | ⟨h2, _ | ⟨h3, _ | ⟨h4, _ | _⟩⟩⟩⟩) (_ | _) s X
    exact ⟨[("world", _), ("texts", _), ("first", _), ("span", _)], BindsTo.of_eq (by rfl), rfl, .cons h1 (.cons h2 (.cons h3 (.cons h4 .nil)))⟩
  · intro y hy
    simp only [List.mem_cons, List.not_mem_nil, or_false] at hy
    rcases hy with rfl | rfl | rfl | rfl
    all_goals exact ⟨rfl, rfl⟩
  · have hd' : c'.hd = none := e3'.trans hh
    obtain ⟨cb, cr, rfl⟩ : ∃ cb cr, cl = ([("begin", cb), ("runs", cr)] : List (Str × Addr)) := by
      match cl, e6' with
      | [(_, cb), (_, cr)], e => exact ⟨cb, cr, by simp at e; rw [e.1, e.2]⟩
    have nbr : cb ≠ cr := by simpa using e7'
    have hcr : H cr = none := e8' _ (.tail _ (.head _))
    have hcb : H cb = none := e8' _ (.head _)
    have hH0 : setCells [("world", .ref w), ("texts", .ref l), ("first", .int first), ("span", sp)] [("begin", cb), ("runs", cr)] H = (H.set cr (.cell none)).set cb (.cell none) := rfl
    rw [hH0]
    clear hH0
    obtain ⟨H0, hH0⟩ : ∃ H0, H0 = (H.set cr (.cell none)).set cb (.cell none) := ⟨_, rfl⟩
    rw [← hH0]
    have le0 : PHeap.Le H H0 := by
      rw [hH0]
      exact le_new (le_new (PHeap.Le.refl H) hcr) ((PHeap.set_ne nbr).trans hcb)
    have vr : H0 cr = some (.cell none) := by rw [hH0]; exact (PHeap.set_ne (Ne.symm nbr)).trans PHeap.set_self
    have vb : H0 cb = some (.cell none) := by rw [hH0]; exact PHeap.set_self
    have off : ∀ {Hk}, PHeap.Le H Hk → ∀ {z}, Hk z = none → H z = none := fun {Hk} L {z} hz => by
      cases q : H z with
      | none => rfl
      | some o => rw [L _ _ q] at hz; cases hz
    obtain ⟨ls0, hls, hlat⟩ := id hcc
    obtain ⟨li, rz, rfl, hli, hrz⟩ := hlat.snoc
    have hlil := hli.len
    have hm := hbd (cz, m) (by simp)
    have nwlw : w ≠ lw := fun e => by
      rw [e, hls] at hw
      have h1 : li ++ [PV.ref rz] = [.ref lw, .int be, .ref wl] := by simpa using hw
      have h2 : PV.int be ∈ li ++ [PV.ref rz] := by rw [h1]; exact .tail _ (.head _)
      obtain ⟨r, hr⟩ := hlat.allRef _ h2
      cases hr
    have nllw : l ≠ lw := fun e => by
      rw [e, hls] at hl
      cases xs with
      | nil => simp at hl
      | cons x r =>
        cases hli with
        | nil => simp at hl
        | cons _ _ => simp at hl
    -- the rest, the runs being known
    have rest : ∀ (H1 : PHeap) (q : Addr) (ini : List (Int × Int)) (b : Int) (vs1 : Vars), PHeap.Le H H1 → H q = none → H1 cr = some (.cell (some (.ref q))) → H1 cb = some (.cell none) → Cols H1 q (ini ++ [(b, m)]) → Bd (ini ++ [(b, m)]) → ini.length ≤ 50 → recF cinit cz m be xs first span = recC cinit cz m ini b m xs first → Sub (rcA w l lw first sp) vs1 →
        T G c' PF.R (execs (recStmts.drop 3) c'.env) H1 vs1 (RetQ Q vs) (fun x H1 _ => E x H1 vs) := by
      intro H1 q ini b vs1 L1 hqn g1 g2 hq hbq hil hrec hv
      refine rec_marg (cs := ini ++ [(b, m)]) (w := w) (l := l) (lw := lw) (sp := sp) (first := first) (xs := xs) hG hF hc' hd' e4' (by omega) e5' g1 hq (by simp; omega) (by simp) (L1 _ _ hl) hxl hx ho0 ho1 ?_ ?_ hv
      · intro n hn t H' vs2 j1 j2 j3
        refine ret_same (h1 _ _ _ (by rw [hrec, recC, hn]) t H' (PHeap.Le.trans PHeap.del_le (PHeap.Le.trans L1 j1)) (hcc.le (PHeap.Le.trans L1 j1)) j2 (off L1 j3))
      · intro hn H2 vs2 j1 j2
        have L2 := PHeap.Le.trans L1 j1
        refine rec_mid (B := H) (q := q) (ini := ini) (b := b) (cinit := cinit) (cz := cz) (m := m) (be := be) (wps := wps) hG hF hc' hd' e4' (by omega) (by omega) e5' (PHeap.Le.trans PHeap.del_le L2) hcb hcr hqn ⟨_, hls⟩ nwlw nllw hw (j1 _ _ g1) (j1 _ _ g2) (hq.le j1) hil hbq (hcc.le L2) hccl hl hxl hx hwl hwz ho0 ho1 hne M hM htM ?_ ?_ j2
        · intro hal t H' vs3 k1 k2 k3 k4
          exact ret_same (h1 _ _ _ (by rw [hrec, recC, hn]; simp only [hal]) t H' k1 k2 k3 k4)
        · intro ks hks rl ps H' vs3 k1 k2 k3 k4 k5 k6
          exact ret_same (h2 _ _ (by rw [hrec, recC, hn]; simp only [hks]) rl ps H' k1 k2 k3 k4 k5 k6)
    have second : (xs ≠ [] ∨ span ≠ none) → ∀ H1 vs1, PHeap.Le H H1 → H1 cr = some (.cell none) → H1 cb = some (.cell none) → Sub (rcA w l lw first sp) vs1 → T G c' PF.R (execs (recStmts.drop 2) c'.env) H1 vs1 (RetQ Q vs) (fun x H1 _ => E x H1 vs) := by
      intro hor H1 vs1 L1 g1 g2 hv
      refine t_vars hv ?_
      refine t_cons ?_
      rcases hsp with ⟨rfl, rfl⟩ | ⟨t, x, off', init, lb, le, rfl, ht, hx5, o0, o1, hrn, hib, hil, rfl⟩
      · have hxn : xs ≠ [] := by
          rcases hor with h | h
          · exact h
          · exact absurd rfl h
        repeat walk_at "w"
        refine ⟨fun _ => ?_, fun q => (nomatch q)⟩
        refine t_cons ?_
        with_reducible refine' t_assignc (ca := cr) ?a1 ?a2 ?a3 ?a4 ?_
        case a1 => exact hc'
        case a2 => k_dflt (exact rfl)
        case a3 => k_dflt (exact rfl)
        case a4 => rw [e5']; rfl
        repeat walk_at "w"
        refine k_list (L1 _ _ hls) (by rw [sizeLine_eq]; simp; omega) fun q hq => ?_
        have N2 : PHeap.Le H1 (H1.set q (.list (li ++ [.ref rz]))) := le_new (PHeap.Le.refl _) hq
        refine ⟨none, N2 _ _ g1, ?_⟩
        refine seq_next ?_
        refine t_nil ?_
        refine seq_next ?_
        have nqc : q ≠ cr := fun e => by rw [e, g1] at hq; cases hq
        refine rest _ q cinit cz _ (PHeap.Le.set (PHeap.Le.trans L1 N2) hcr) (off L1 hq) PHeap.set_self ((PHeap.set_ne nbr).trans (N2 _ _ g2)) ⟨_, (PHeap.set_ne nqc).trans PHeap.set_self, ColsAt.setC (N2 _ _ g1) (hlat.le (PHeap.Le.trans L1 N2))⟩ hbd hccl (by rw [recF, if_neg hxn]) sub_refl
      · repeat walk_at "w"
        refine ⟨fun q => (nomatch q), fun _ => ?_⟩
        refine t_cons ?_
        with_reducible refine' t_assignc (ca := cr) ?a1 ?a2 ?a3 ?a4 ?_
        case a1 => exact hc'
        case a2 => k_dflt (exact rfl)
        case a3 => k_dflt (exact rfl)
        case a4 => rw [e5']; rfl
        repeat walk_at "w"
        refine sub_tup (L1 _ _ ht) (by decide) (by decide) rfl ?_
        repeat walk_at "w"
        refine runs_spec hG hF hc' (by omega) hd' hx5 hrn fun q H2 j1 j2 j3 => ?_
        have L2 := PHeap.Le.trans L1 j1
        refine ⟨none, j1 _ _ g1, ?_⟩
        obtain ⟨qs0, hqs, hqat⟩ := id j3
        obtain ⟨qi, rq, rfl, hqi, hrq⟩ := hqat.snoc
        have hqil := hqi.len
        obtain ⟨H3, hH3⟩ : ∃ H3, H3 = H2.set cr (.cell (some (.ref q))) := ⟨_, rfl⟩
        rw [← hH3]
        have L3 : PHeap.Le H H3 := by rw [hH3]; exact PHeap.Le.set L2 hcr
        have cr3 : H3 cr = some (.cell (some (.ref q))) := by rw [hH3]; exact PHeap.set_self
        have cb3 : H3 cb = some (.cell none) := by rw [hH3]; exact (PHeap.set_ne nbr).trans (j1 _ _ g2)
        have k3 : ∀ z o, H2 z = some o → (∀ v, o ≠ .cell v) → H3 z = some o := fun z o hz hn => by
          rw [hH3]
          refine (PHeap.set_ne (fun e => ?_)).trans hz
          rw [e, j1 _ _ g1] at hz
          cases hz
          exact hn _ rfl
        have q3 := k3 _ _ hqs (fun _ h => nomatch h)
        have rq3 := k3 _ _ hrq (fun _ h => nomatch h)
        have qi3 : ColsAt H3 qi init := by rw [hH3]; exact hqi.setC (j1 _ _ g1)
        clear hH3 k3
        repeat walk_at "w"
        refine t_cell (ca := cr) (p := .ref q) hc' rfl (by rw [e5']; rfl) cr3 ?_
        repeat walk_at "w"
        refine ⟨_, rfl, ?_⟩
        refine sub_neg q3 (by decide) (by simp; omega) (by decide) last_get ?_
        repeat walk_at "w"
        refine sub_tup rq3 (by decide) (by decide) rfl ?_
        repeat walk_at "w"
        refine sub_list (L3 _ _ hw) (by decide) (by decide) rfl ?_
        repeat walk_at "w"
        refine ⟨fun hq1 => ?_, fun hq1 => ?_⟩
        · have hne2 : le ≠ be := by simpa using hq1
          repeat walk_at "w"
          refine sub_tup (L3 _ _ ht) (by decide) (by decide) rfl ?_
          repeat walk_at "w"
          have hdl := len_digs' (k := off' + 1) (by omega)
          refine k_str (by omega) ?_
          have h44 : ("Column span incomplete in table line " : Str).length = 37 := by decide +kernel
          refine b_cat (by rw [sizeLine_eq, h44]; omega) ?_
          repeat walk_at "w"
          refine b_cat (by rw [len_app, sizeLine_eq, h44]; show 37 + _ + 1 ≤ _; omega) ?_
          repeat walk_at "w"
          refine sub_tup (L3 _ _ ht) (by decide) (by decide) rfl ?_
          repeat walk_at "w"
          refine ⟨by show 2 ≤ _; rw [sizeLine_eq]; decide, fun d hdn => ?_⟩
          exact ⟨_, PHeap.Le.refl _, h1 _ _ _ (by rw [recF, if_neg hne2]; rfl) d _ (PHeap.Le.trans PHeap.del_le (le_new L3 hdn)) (hcc.le (le_new L3 hdn)) PHeap.set_self (off L3 hdn)⟩
        · have heq : le = be := by simpa using hq1
          repeat walk_at "w"
          refine t_cell (ca := cr) (p := .ref q) hc' rfl (by rw [e5']; rfl) cr3 ?_
          repeat walk_at "w"
          refine ⟨_, rfl, ?_⟩
          refine sub_neg q3 (by decide) (by simp; omega) (by decide) last_get ?_
          repeat walk_at "w"
          refine sub_tup rq3 (by decide) (by decide) rfl ?_
          repeat walk_at "w"
          refine ⟨_, rfl, ?_⟩
          refine sub_neg (L3 _ _ hls) (by decide) (by simp; omega) (by decide) last_get ?_
          repeat walk_at "w"
          refine sub_tup (L3 _ _ hrz) (by decide) (by decide) rfl ?_
          repeat walk_at "w"
          refine ⟨by show 2 ≤ _; rw [sizeLine_eq]; decide, fun d hdn => ?_⟩
          have N4 : PHeap.Le H3 (H3.set d (.tup [.int lb, .int m])) := le_new (PHeap.Le.refl _) hdn
          repeat walk_at "w"
          refine t_cell (ca := cr) (p := .ref q) hc' rfl (by rw [e5']; rfl) (N4 _ _ cr3) ?_
          repeat walk_at "w"
          refine ⟨_, rfl, ?_⟩
          refine sto_neg (N4 _ _ q3) (by decide) (by simp; omega) (by decide) ?_
          rw [last_set]
          refine seq_next ?_
          refine t_nil ?_
          refine seq_next ?_
          have hqn : H q = none := off L1 j2
          have ncq : cr ≠ q := fun e => by rw [e, q3] at cr3; cases cr3
          have nbq : cb ≠ q := fun e => by rw [e, q3] at cb3; cases cb3
          refine rest _ q init lb _ (PHeap.Le.set (PHeap.Le.trans L3 N4) hqn) hqn ((PHeap.set_ne ncq).trans (N4 _ _ cr3)) ((PHeap.set_ne nbq).trans (N4 _ _ cb3)) ⟨_, PHeap.set_self, ?_⟩ ?_ hil (by rw [recF, if_pos heq]) sub_refl
          · refine ColsAt.app (.cons ?_ .nil) (ColsAt.set (N4 _ _ q3) (qi3.le N4))
            exact (PHeap.set_ne (Ne.symm (ne_none q3 hdn))).trans PHeap.set_self
          · intro z hz
            rcases List.mem_append.mp hz with hz | hz
            · exact hib z (List.mem_append_left _ hz)
            · rw [List.mem_singleton.mp hz]
              have := hib (lb, le) (by simp)
              exact ⟨this.1, this.2.1, hm.2.2⟩
    refine t_cons ?_
    repeat walk_at "w"
    refine sub_list (le0 _ _ hw) (by decide) (by decide) rfl ?_
    repeat walk_at "w"
    refine ⟨Nat.zero_le _, fun d1 hd1 => ?_⟩
    have N1 : PHeap.Le H0 (H0.set d1 (.list [])) := le_new (PHeap.Le.refl _) hd1
    refine c_empty (N1 _ _ (le0 _ _ hl)) PHeap.set_self (by omega) ?_
    repeat walk_at "w"
    refine ⟨fun hq1 => ?_, fun hq1 => ?_⟩
    · have hxe : xs = [] := by
        cases xs with
        | nil => rfl
        | cons _ _ => cases hq1
      repeat walk_at "w"
      refine ⟨fun hq2 => ?_, fun hq2 => ?_⟩
      · refine t_and0 ?_
        refine ⟨fun _ => ?_, fun q => (nomatch q)⟩
        repeat walk_at "w"
        rcases hsp with ⟨rfl, rfl⟩ | ⟨t, x, off', init, lb, le, rfl, _⟩
        · exact ret_same (h0 (by rw [recF, if_pos hxe]) _ (PHeap.Le.trans le0 N1))
        · cases hq2
      · refine ⟨fun q => (nomatch q), fun _ => ?_⟩
        refine t_nil ?_
        refine seq_next ?_
        refine second (.inr ?_) _ _ (PHeap.Le.trans le0 N1) (N1 _ _ vr) (N1 _ _ vb) sub_refl
        rcases hsp with ⟨rfl, rfl⟩ | ⟨t, x, off', init, lb, le, rfl, _, _, _, _, _, _, _, rfl⟩
        · cases hq2
        · simp
    · have hxn : xs ≠ [] := fun e => by subst e; cases hq1
      refine ⟨fun q => (nomatch q), fun _ => ?_⟩
      refine t_nil ?_
      refine seq_next ?_
      exact second (.inl hxn) _ _ (PHeap.Le.trans le0 N1) (N1 _ _ vr) (N1 _ _ vb) sub_refl
end
section
variable {G : Gl} {S : Scope} {c : Cx S} {H : PHeap} {vs : Vars} {E : PX → PHeap → Vars → Prop} {Q : PV → PHeap → Vars → Prop}
/-- the fields of the parser -/
def pfs (b2 tl dn rs cs : Addr) (hb co be : PV) : Vars := [("block", .ref b2), ("head_body_sep", hb), ("columns", co), ("border_end", be), ("table", .ref tl), ("done", .ref dn), ("rowseps", .ref rs), ("colseps", .ref cs)]
theorem le_del2 {X Y : PHeap} {d : Addr} (h : PHeap.Le (X.del d) Y) : PHeap.Le (X.del d) (Y.del d) := fun b o e => by
  by_cases hb : b = d
  · unfold PHeap.del at e; rw [if_pos hb] at e; cases e
  · exact del_get hb (h _ _ e)
theorem setup_spec (hG : G.Ok) (hF : GF G) (hc : c.Ok) (hd : c.dp < 400) (hh : c.hd = none) {p dp a0 d0 ld li : Addr} {top : Str} {ys : List PV} (hp1 : H p = some (.inst 237 dp)) (hp2 : H dp = some (.dict []))
    (hs : SL H a0 d0 ld li .none .none) (hl : H ld = some (.list [.str top, .str top])) (hi : H li = some (.list ys)) (hy : ys.length = 2) (htop : top.length ≤ 5000) (htop2 : (Txt.replace top "=" "-").length ≤ 5000)
    (h : ∀ b2 db ldb lib lc tl dn rs cs H', PHeap.Le (H.del dp) H' → H' dp = some (.dict (pfs b2 tl dn rs cs .none (.ref lc) .none)) → SL H' b2 db ldb lib .none (.int 0) → H' ldb = some (.list [.str (Txt.replace top "=" "-"), .str (Txt.replace top "=" "-")]) →
      H' lc = some (.list []) → H' tl = some (.list []) → lc ≠ tl → H lc = none → H tl = none → Q .none H' vs) : CallP G c (.ref 193) [.ref p, .ref a0] [] [] H vs Q E := by
  obtain ⟨t, ho⟩ := hF.d193.at_
  refine CodeP.call (k_def (bs := [("self", .ref p), ("block", .ref a0)]) (ns := ["self", "block"]) hG hc ho hF.d193.code (by omega) ?_ rfl (by decide) (by decide) (by decide) (by decide) (by decide) (by decide) fun c' hc' e1' e2' e3' e4' e5' => ?_)
  · rintro _ _ (_ | ⟨h1, _ | ⟨h2, _ | _⟩⟩) (_ | _) s X
    exact ⟨[("self", _), ("block", _)], BindsTo.of_eq (by rfl), rfl, .cons h1 (.cons h2 .nil)⟩
  · have hd' : c'.hd = none := e3'.trans hh
    have hn : ∀ n ∈ at237, SetOk G 237 n := fun n hn => (hF.a237 n hn).2
    have npd : p ≠ dp := fun e => by rw [e, hp2] at hp1; cases hp1
    have nad : a0 ≠ dp := fun e => by have := hs.i; rw [e, hp2] at this; cases this
    have ndd : d0 ≠ dp := fun e => by have := hs.f; rw [e, hp2] at this; cases this
    have nld : ld ≠ dp := fun e => by rw [e, hp2] at hl; cases hl
    have gp : ∀ {Hk}, PHeap.Le (H.del dp) Hk → Hk p = some (.inst 237 dp) := fun L => L _ _ (del_get npd hp1)
    have gs : ∀ {Hk}, PHeap.Le (H.del dp) Hk → SL Hk a0 d0 ld li .none .none := fun L => ⟨L _ _ (del_get nad hs.i), L _ _ (del_get ndd hs.f)⟩
    have gl : ∀ {Hk}, PHeap.Le (H.del dp) Hk → Hk ld = some (.list [.str top, .str top]) := fun L => L _ _ (del_get nld hl)
    refine t_cons ?_
    repeat walk_at "w"
    refine m_inst hG (hF.m542 ("part", 502) (by decide)).1 hs.i hs.f rfl ?_
    refine ⟨(hF.m542 ("part", 502) (by decide)).2, ?_⟩
    repeat walk_at "w"
    refine k_ownlen hG hF.o_len hs.i hs.f ?_
    refine len_sl (xs := [.str top, .str top]) hG hF (Cx.up_ok hc') (by show c'.dp + 0 < 800; omega) hs hl (by simp) ⟨_, rfl, by simp, by simp, ?_⟩
    repeat walk_at "w"
    refine part_spec (xs := [.str top, .str top]) hG hF hc' (by omega) hd' hs hl hi (by rw [hy]; rfl) (by simp) rfl fun b2 db ldb lib ys2 H1 k1 k2 k3 k4 k5 k6 k7 k8 => ?_
    repeat walk_at "w"
    refine s_inst hG (hn "block" (by decide)) (k1 _ _ hp1) (k1 _ _ hp2) (by simp) ?_
    have off : ∀ {z}, H1 z = none → H z = none := fun {z} hz => by
      cases q : H z with
      | none => rfl
      | some o => rw [k1 _ _ q] at hz; cases hz
    have nb2 : b2 ≠ dp := fun e => by rw [e, hp2] at k2; cases k2
    have ndb : db ≠ dp := fun e => by rw [e, hp2] at k3; cases k3
    have nlb : ldb ≠ dp := fun e => by rw [e, hp2] at k4; cases k4
    have nld2 : ldb ≠ b2 := fun e => by have := k5.i; rw [← e, k6] at this; cases this
    have nld3 : ldb ≠ db := fun e => by have := k5.f; rw [← e, k6] at this; cases this
    have nbdb : b2 ≠ db := fun e => by have := k5.i; rw [e, k5.f] at this; cases this
    obtain ⟨H2, hH2⟩ : ∃ H2, H2 = H1.set dp (.dict (putV "block" (.ref b2) [])) := ⟨_, rfl⟩
    rw [← hH2]
    have L2 : PHeap.Le (H.del dp) H2 := by rw [hH2]; exact le_put (PHeap.Le.trans PHeap.del_le k1)
    have D2 : H2 dp = some (.dict [("block", .ref b2)]) := by rw [hH2]; exact PHeap.set_self
    have S2 : SL H2 b2 db ldb lib (.ref a0) (.int 0) := by rw [hH2]; exact ⟨(PHeap.set_ne nb2).trans k5.i, (PHeap.set_ne ndb).trans k5.f⟩
    have l2 : H2 ldb = some (.list [.str top, .str top]) := by rw [hH2]; exact (PHeap.set_ne nlb).trans k6
    clear hH2
    repeat walk_at "w"
    refine g_inst hG (hF.a237 "block" (by decide)).1 (gp L2) D2 rfl rfl ?_
    repeat walk_at "w"
    refine m_inst hG (hF.m542 ("disconnect", 474) (by decide)).1 S2.i S2.f rfl ?_
    refine ⟨(hF.m542 ("disconnect", 474) (by decide)).2, ?_⟩
    repeat walk_at "w"
    refine disc_sl hG hF hc' (by omega) S2 ?_
    obtain ⟨H3, hH3⟩ : ∃ H3, H3 = H2.set db (slf ldb lib .none (.int 0)) := ⟨_, rfl⟩
    rw [← hH3]
    have dB : ∀ {z}, H z = none → (H.del dp) z = none := fun {z} hz => by
      unfold PHeap.del
      split
      · rfl
      · exact hz
    have L3 : PHeap.Le (H.del dp) H3 := by rw [hH3]; exact PHeap.Le.set L2 (dB k3)
    have D3 : H3 dp = some (.dict [("block", .ref b2)]) := by rw [hH3]; exact (PHeap.set_ne (Ne.symm ndb)).trans D2
    have S3 : SL H3 b2 db ldb lib .none (.int 0) := by rw [hH3]; exact ⟨(PHeap.set_ne nbdb).trans S2.i, PHeap.set_self⟩
    have l3 : H3 ldb = some (.list [.str top, .str top]) := by rw [hH3]; exact (PHeap.set_ne nld3).trans l2
    clear hH3
    refine seq_next ?_
    refine t_cons ?_
    with_reducible refine' t_setsub ?sa ?_
    case sa => k_dflt (exact rfl)
    with_reducible refine' t_replace hG ?b1 ?b2 ?b3 ?b4 ?b5 ?b6 ?_
    case b1 => k_dflt (exact rfl)
    case b2 => k_dflt (exact rfl)
    case b3 => k_dflt (exact rfl)
    case b4 => k_dflt (exact rfl)
    case b5 => decide
    case b6 => decide
    refine tp_sub ?_
    repeat walk_at "w"
    refine g_inst hG (hF.a237 "block" (by decide)).1 (gp L3) D3 rfl rfl ?_
    refine tp_int ?_
    refine sub_own hG hF.o_get hF.fn350 S3.i S3.f (get_sl (p := .str top) hG hF (Cx.up_ok hc') (by show c'.dp + 0 < 800; omega) S3 l3 (by simp) (.inl ⟨by decide, rfl, by decide⟩) ?_) (fun u hu => by obtain ⟨t, rfl⟩ := hu; rfl)
    refine ⟨top, rfl, by omega, ?_⟩
    generalize hT : Txt.replace top "=" "-" = tp at *
    repeat walk_at "w"
    refine g_inst hG (hF.a237 "block" (by decide)).1 (gp L3) D3 rfl rfl ?_
    repeat walk_at "w"
    refine sto_own hG hF.o_set hF.noSeq542 S3.i S3.f (set_sl (j := 0) hG hF hc' (by omega) S3 l3 (by simp) ⟨nld2, nld3⟩ (.inl ⟨by decide, by simp, rfl⟩) ?_)
    obtain ⟨H4, hH4⟩ : ∃ H4, H4 = H3.set ldb (.list [.str tp, .str top]) := ⟨_, rfl⟩
    have hH4' : H3.set ldb (.list (List.set [.str top, .str top] 0 (.str tp))) = H4 := hH4.symm
    rw [hH4']
    have L4 : PHeap.Le (H.del dp) H4 := by rw [hH4]; exact PHeap.Le.set L3 (dB k4)
    have D4 : H4 dp = some (.dict [("block", .ref b2)]) := by rw [hH4]; exact (PHeap.set_ne (Ne.symm nlb)).trans D3
    have S4 : SL H4 b2 db ldb lib .none (.int 0) := by rw [hH4]; exact ⟨(PHeap.set_ne (Ne.symm nld2)).trans S3.i, (PHeap.set_ne (Ne.symm nld3)).trans S3.f⟩
    have l4 : H4 ldb = some (.list [.str tp, .str top]) := by rw [hH4]; exact PHeap.set_self
    clear hH4 hH4'
    refine seq_next ?_
    refine t_cons ?_
    with_reducible refine' t_setsub ?sa ?_
    case sa => k_dflt (exact rfl)
    with_reducible refine' t_replace hG ?b1 ?b2 ?b3 ?b4 ?b5 ?b6 ?_
    case b1 => k_dflt (exact rfl)
    case b2 => k_dflt (exact rfl)
    case b3 => k_dflt (exact rfl)
    case b4 => k_dflt (exact rfl)
    case b5 => decide
    case b6 => decide
    refine tp_sub ?_
    repeat walk_at "w"
    refine g_inst hG (hF.a237 "block" (by decide)).1 (gp L4) D4 rfl rfl ?_
    refine tp_neg ?_
    refine sub_own hG hF.o_get hF.fn350 S4.i S4.f (get_sl (p := .str top) hG hF (Cx.up_ok hc') (by show c'.dp + 0 < 800; omega) S4 l4 (by simp) (.inr ⟨by decide, by simp, rfl⟩) ?_) (fun u hu => by obtain ⟨t, rfl⟩ := hu; rfl)
    refine ⟨top, rfl, by omega, ?_⟩
    rw [hT]
    repeat walk_at "w"
    refine g_inst hG (hF.a237 "block" (by decide)).1 (gp L4) D4 rfl rfl ?_
    repeat walk_at "w"
    refine ⟨_, rfl, ?_⟩
    refine sto_own hG hF.o_set hF.noSeq542 S4.i S4.f (set_sl (j := 1) hG hF hc' (by omega) S4 l4 (by simp) ⟨nld2, nld3⟩ (.inr ⟨by decide, by simp, rfl⟩) ?_)
    obtain ⟨H5, hH5⟩ : ∃ H5, H5 = H4.set ldb (.list [.str tp, .str tp]) := ⟨_, rfl⟩
    have hH5' : H4.set ldb (.list (List.set [.str tp, .str top] 1 (.str tp))) = H5 := hH5.symm
    rw [hH5']
    have L5 : PHeap.Le (H.del dp) H5 := by rw [hH5]; exact PHeap.Le.set L4 (dB k4)
    have D5 : H5 dp = some (.dict [("block", .ref b2)]) := by rw [hH5]; exact (PHeap.set_ne (Ne.symm nlb)).trans D4
    have S5 : SL H5 b2 db ldb lib .none (.int 0) := by rw [hH5]; exact ⟨(PHeap.set_ne (Ne.symm nld2)).trans S4.i, (PHeap.set_ne (Ne.symm nld3)).trans S4.f⟩
    have l5 : H5 ldb = some (.list [.str tp, .str tp]) := by rw [hH5]; exact PHeap.set_self
    clear hH5 hH5'
    -- the simple stores
    have st : ∀ {Hk : PHeap} {fs : Vars} {n : Str} {v : PV}, PHeap.Le (H5.del dp) Hk → PHeap.Le (H5.del dp) (Hk.set dp (.dict (putV n v fs))) := fun L => le_put L
    have L5' : PHeap.Le (H5.del dp) H5 := PHeap.del_le
    have gp5 : ∀ {Hk}, PHeap.Le (H5.del dp) Hk → Hk p = some (.inst 237 dp) := fun L => L _ _ (del_get npd (gp L5))
    repeat walk_at "w"
    refine s_inst hG (hn "head_body_sep" (by decide)) (gp5 L5') D5 (by simp) ?_
    have L6 := st (n := "head_body_sep") (v := .none) (fs := [("block", .ref b2)]) L5'
    generalize hH6 : H5.set dp (.dict (putV "head_body_sep" PV.none [("block", .ref b2)])) = H6 at *
    have D6 : H6 dp = some (.dict [("block", .ref b2), ("head_body_sep", .none)]) := by rw [← hH6]; exact PHeap.set_self
    clear hH6
    repeat walk_at "w"
    refine ⟨Nat.zero_le _, fun lc hlc => ?_⟩
    repeat walk_at "w"
    have L6' := le_new (o := .list []) L6 hlc
    refine s_inst hG (hn "columns" (by decide)) (gp5 L6') ((PHeap.set_ne (ne_none D6 hlc)).trans D6) (by simp) ?_
    have L7 := st (n := "columns") (v := .ref lc) (fs := [("block", .ref b2), ("head_body_sep", .none)]) L6'
    have nlc : lc ≠ dp := (ne_none D6 hlc).symm
    generalize hH7 : (H6.set lc (.list [])).set dp (.dict (putV "columns" (.ref lc) [("block", .ref b2), ("head_body_sep", .none)])) = H7 at *
    have D7 : H7 dp = some (.dict [("block", .ref b2), ("head_body_sep", .none), ("columns", .ref lc)]) := by rw [← hH7]; exact PHeap.set_self
    have c7 : H7 lc = some (.list []) := by rw [← hH7]; exact (PHeap.set_ne nlc).trans PHeap.set_self
    clear hH7
    repeat walk_at "w"
    refine s_inst hG (hn "border_end" (by decide)) (gp5 L7) D7 (by simp) ?_
    have L8 := st (n := "border_end") (v := .none) (fs := [("block", .ref b2), ("head_body_sep", .none), ("columns", .ref lc)]) L7
    generalize hH8 : H7.set dp (.dict (putV "border_end" PV.none [("block", .ref b2), ("head_body_sep", .none), ("columns", .ref lc)])) = H8 at *
    have D8 : H8 dp = some (.dict [("block", .ref b2), ("head_body_sep", .none), ("columns", .ref lc), ("border_end", .none)]) := by rw [← hH8]; exact PHeap.set_self
    have c8 : H8 lc = some (.list []) := by rw [← hH8]; exact (PHeap.set_ne nlc).trans c7
    clear hH8
    repeat walk_at "w"
    refine ⟨Nat.zero_le _, fun tl htl => ?_⟩
    repeat walk_at "w"
    have L8' := le_new (o := .list []) L8 htl
    refine s_inst hG (hn "table" (by decide)) (gp5 L8') ((PHeap.set_ne (ne_none D8 htl)).trans D8) (by simp) ?_
    have L9 := st (n := "table") (v := .ref tl) (fs := [("block", .ref b2), ("head_body_sep", .none), ("columns", .ref lc), ("border_end", .none)]) L8'
    have ntl : tl ≠ dp := (ne_none D8 htl).symm
    have nct : lc ≠ tl := ne_none c8 htl
    generalize hH9 : (H8.set tl (.list [])).set dp (.dict (putV "table" (.ref tl) [("block", .ref b2), ("head_body_sep", .none), ("columns", .ref lc), ("border_end", .none)])) = H9 at *
    have D9 : H9 dp = some (.dict [("block", .ref b2), ("head_body_sep", .none), ("columns", .ref lc), ("border_end", .none), ("table", .ref tl)]) := by rw [← hH9]; exact PHeap.set_self
    have c9 : H9 lc = some (.list []) := by rw [← hH9]; exact (PHeap.set_ne nlc).trans ((PHeap.set_ne nct).trans c8)
    have t9 : H9 tl = some (.list []) := by rw [← hH9]; exact (PHeap.set_ne ntl).trans PHeap.set_self
    clear hH9
    repeat walk_at "w"
    have LH : PHeap.Le (H.del dp) (H5.del dp) := le_del2 L5
    refine ⟨_, rfl, ?_⟩
    repeat walk_at "w"
    refine ⟨by show 1 ≤ _; rw [sizeLine_eq]; decide, fun a1 ha1 => ?_⟩
    have L10 := le_new (o := .list [.int (-1)]) L9 ha1
    repeat walk_at "w"
    refine sub_own hG hF.o_get hF.fn350 (gs (PHeap.Le.trans LH L10)).i (gs (PHeap.Le.trans LH L10)).f (get_sl (p := .str top) hG hF (Cx.up_ok hc') (by show c'.dp + 0 < 800; omega) (gs (PHeap.Le.trans LH L10)) (gl (PHeap.Le.trans LH L10)) (by simp) (.inl ⟨by decide, rfl, by decide⟩) ?_) (fun u hu => by obtain ⟨t, rfl⟩ := hu; rfl)
    repeat walk_at "w"
    refine k_lens (by rw [sizeLine_eq]; omega) ?_
    repeat walk_at "w"
    refine b_mull PHeap.set_self (by omega) (by omega) fun dn hdn => ?_
    have L11 := le_new (o := .list (List.replicate ((top.length : Int)).toNat (.int (-1)))) L10 hdn
    generalize hH11 : (H9.set a1 (.list [.int (-1)])).set dn (.list (List.replicate ((top.length : Int)).toNat (.int (-1)))) = H11 at *
    have k11 : ∀ z o, H9 z = some o → H11 z = some o := fun z o hz => by
      rw [← hH11]
      have h1 := (PHeap.set_ne (o := .list [.int (-1)]) (ne_none hz ha1)).trans hz
      exact (PHeap.set_ne (ne_none h1 hdn)).trans h1
    clear hH11
    repeat walk_at "w"
    refine s_inst hG (hn "done" (by decide)) (gp5 L11) (k11 _ _ D9) (by simp) ?_
    have L12 := st (n := "done") (v := .ref dn) (fs := [("block", .ref b2), ("head_body_sep", .none), ("columns", .ref lc), ("border_end", .none), ("table", .ref tl)]) L11
    generalize hH12 : H11.set dp (.dict (putV "done" (.ref dn) [("block", .ref b2), ("head_body_sep", .none), ("columns", .ref lc), ("border_end", .none), ("table", .ref tl)])) = H12 at *
    have D12 : H12 dp = some (.dict [("block", .ref b2), ("head_body_sep", .none), ("columns", .ref lc), ("border_end", .none), ("table", .ref tl), ("done", .ref dn)]) := by rw [← hH12]; exact PHeap.set_self
    have c12 : H12 lc = some (.list []) := by rw [← hH12]; exact (PHeap.set_ne nlc).trans (k11 _ _ c9)
    have t12 : H12 tl = some (.list []) := by rw [← hH12]; exact (PHeap.set_ne ntl).trans (k11 _ _ t9)
    clear hH12
    repeat walk_at "w"
    with_reducible refine t_dict1 ?_; intro P
    repeat walk_at "w"
    refine ⟨by show 1 ≤ _; rw [sizeLine_eq]; decide, fun a2 ha2 rs => ?_⟩
    have L13 := le_new (o := .list [.int 0]) L12 ha2
    repeat walk_at "w"
    refine s_inst hG (hn "rowseps" (by decide)) (gp5 L13) ((PHeap.set_ne (ne_none D12 ha2)).trans D12) (by simp) ?_
    have L14 := st (n := "rowseps") (v := .ref rs) (fs := [("block", .ref b2), ("head_body_sep", .none), ("columns", .ref lc), ("border_end", .none), ("table", .ref tl), ("done", .ref dn)]) L13
    generalize hH14 : (H12.set a2 (.list [.int 0])).set dp (.dict (putV "rowseps" (.ref rs) [("block", .ref b2), ("head_body_sep", .none), ("columns", .ref lc), ("border_end", .none), ("table", .ref tl), ("done", .ref dn)])) = H14 at *
    have D14 : H14 dp = some (.dict [("block", .ref b2), ("head_body_sep", .none), ("columns", .ref lc), ("border_end", .none), ("table", .ref tl), ("done", .ref dn), ("rowseps", .ref rs)]) := by rw [← hH14]; exact PHeap.set_self
    have c14 : H14 lc = some (.list []) := by rw [← hH14]; exact (PHeap.set_ne nlc).trans ((PHeap.set_ne (ne_none c12 ha2)).trans c12)
    have t14 : H14 tl = some (.list []) := by rw [← hH14]; exact (PHeap.set_ne ntl).trans ((PHeap.set_ne (ne_none t12 ha2)).trans t12)
    clear hH14
    repeat walk_at "w"
    with_reducible refine t_dict1 ?_; intro P
    repeat walk_at "w"
    refine ⟨by show 1 ≤ _; rw [sizeLine_eq]; decide, fun a3 ha3 cs => ?_⟩
    have L15 := le_new (o := .list [.int 0]) L14 ha3
    repeat walk_at "w"
    refine s_inst hG (hn "colseps" (by decide)) (gp5 L15) ((PHeap.set_ne (ne_none D14 ha3)).trans D14) (by simp) ?_
    have L16 := st (n := "colseps") (v := .ref cs) (fs := [("block", .ref b2), ("head_body_sep", .none), ("columns", .ref lc), ("border_end", .none), ("table", .ref tl), ("done", .ref dn), ("rowseps", .ref rs)]) L15
    generalize hH16 : (H14.set a3 (.list [.int 0])).set dp (.dict (putV "colseps" (.ref cs) [("block", .ref b2), ("head_body_sep", .none), ("columns", .ref lc), ("border_end", .none), ("table", .ref tl), ("done", .ref dn), ("rowseps", .ref rs)])) = H16 at *
    have D16 : H16 dp = some (.dict (pfs b2 tl dn rs cs .none (.ref lc) .none)) := by rw [← hH16]; exact PHeap.set_self
    have c16 : H16 lc = some (.list []) := by rw [← hH16]; exact (PHeap.set_ne nlc).trans ((PHeap.set_ne (ne_none c14 ha3)).trans c14)
    have t16 : H16 tl = some (.list []) := by rw [← hH16]; exact (PHeap.set_ne ntl).trans ((PHeap.set_ne (ne_none t14 ha3)).trans t14)
    clear hH16
    repeat walk_at "w"
    have LX := PHeap.Le.trans LH L16
    refine ⟨_, PHeap.Le.refl _, h b2 db ldb lib lc tl dn rs cs H16 LX D16 ⟨L16 _ _ (del_get nb2 S5.i), L16 _ _ (del_get ndb S5.f)⟩ (L16 _ _ (del_get nlb l5)) c16 t16 nct ?_ ?_⟩
    · cases q : H lc with
      | none => rfl
      | some o => rw [L6 _ _ (LH _ _ (del_get nlc q))] at hlc; cases hlc
    · cases q : H tl with
      | none => rfl
      | some o => rw [L8 _ _ (LH _ _ (del_get ntl q))] at htl; cases htl
end
section
variable {G : Gl} {S : Scope} {c : Cx S} {H : PHeap} {vs : Vars} {E : PX → PHeap → Vars → Prop} {Q : PV → PHeap → Vars → Prop}
/-- the rows of a table -/
inductive TabP (H : PHeap) : List PV → List (Int × List (Nat × List Str)) → Prop
  | nil : TabP H [] []
  | cons {a : Addr} {ps rs : List PV} {first : Int} {cells rows} : H a = some (.list ps) → RowP H first ps cells → cells ≠ [] → TabP H rs rows → TabP H (.ref a :: rs) ((first, cells) :: rows)
theorem TabP.le {H H' : PHeap} (hl : H.Le H') : ∀ {ps rows}, TabP H ps rows → TabP H' ps rows
  | _, _, .nil => .nil
  | _, _, .cons h1 h2 h3 r => .cons (hl _ _ h1) (h2.le hl) h3 (r.le hl)
theorem TabP.len {H : PHeap} : ∀ {ps rows}, TabP H ps rows → ps.length = rows.length
  | _, _, .nil => rfl
  | _, _, .cons _ _ _ r => by simp [r.len]
def cellD (first : Int) (q : Nat × List Str) : PyData := .list [.int 0, .int (q.1 : Nat), .int first, .list (q.2.map .str)]
def rowD (r : Int × List (Nat × List Str)) : PyData := .list (r.2.map (cellD r.1))
def tabD (rows : List (Int × List (Nat × List Str))) : PyData := .list (rows.map rowD)
theorem rdStrs {H : PHeap} : ∀ {l : List Str}, RdAll H (l.map .str) (l.map .str)
  | [] => .nil
  | x :: r => .cons (.str x) rdStrs

theorem RdAll.snoc {H : PHeap} {ps ds p d} (h : RdAll H ps ds) (h2 : Rd H p d) : RdAll H (ps ++ [p]) (ds ++ [d]) := RdAll.app (.cons h2 .nil) h

/-- a comprehension that builds -/
theorem comp_grow {S' : Scope} {c1 : Cx S'} (hc1 : c1.Ok) {Src : PHeap → Prop} {x : Str} {px : Pos} {elt : Expr} {K : List PV → PHeap → Prop} {α : Type} {it : α → PV} {dd : α → PyData} {Hb : PHeap} (hx : S'.names.lookup x = some .local) (hsrc : ∀ H, PHeap.Le Hb H → Src H) :
    ∀ (items : List α) (acc : List PV) (ds : List PyData) (Hk : PHeap) (vs1 : Vars), PHeap.Le Hb Hk → RdAll Hk acc ds → (∀ P a Hk, a ∈ items → PHeap.Le Hb Hk → T G (c1.wp P) PV.R (eval elt (c1.wp P).env) Hk [(x, it a)] (fun p H3 _ => PHeap.Le Hk H3 ∧ Rd H3 p (dd a)) noX) →
      (∀ acc' H', PHeap.Le Hb H' → RdAll H' acc' (ds ++ items.map dd) → K acc' H') → CompP G c1 Src (.Name x px) [] elt K (items.map fun a => .val (it a)) acc Hk vs1
  | [], acc, ds, Hk, vs1, hle, hrd, _, hK => by
    show K acc Hk
    exact hK acc Hk hle (by simpa using hrd)
  | a :: r, acc, ds, Hk, vs1, hle, hrd, hs, hK => by
    intro P v hpv
    refine a_name (Cx.wp_ok hc1) hx hpv ?_
    refine ⟨fun _ => ?_, fun q => (nomatch q)⟩
    refine t_mono (t_only (hs P a Hk (.head _) hle)) (fun p H3 vs3 ⟨k1, k2⟩ => ?_) fun _ _ _ x => x
    refine ⟨H3, PHeap.Le.refl _, hsrc _ (PHeap.Le.trans hle k1), ?_⟩
    refine comp_grow hc1 hx hsrc r (acc ++ [p]) (ds ++ [dd a]) H3 vs3 (PHeap.Le.trans hle k1) ((hrd.le k1 ds).snoc k2) (fun P a Hk ha => hs P a Hk (.tail _ ha)) fun acc' H' j1 j2 => ?_
    exact hK acc' H' j1 (by simpa using j2)

/-- the same, the target being a cell -/
theorem comp_growC {S' : Scope} {c1 : Cx S'} (hc1 : c1.Ok) {Src : PHeap → Prop} {x : Str} {px : Pos} {elt : Expr} {K : List PV → PHeap → Prop} {α : Type} {it : α → PV} {dd : α → PyData} {Hb : PHeap} {cc : Addr} (hx : S'.names.lookup x = some .cell) (hcl : c1.cl.lookup x = some cc) (hcc : Hb cc = none) (hsrc : ∀ H, PHeap.Le Hb H → Src H) :
    ∀ (items : List α) (acc : List PV) (ds : List PyData) (Hk : PHeap) (vs1 : Vars), PHeap.Le Hb Hk → (∃ w, Hk cc = some (.cell w)) → RdAll (Hk.del cc) acc ds → (∀ P a Hk, a ∈ items → PHeap.Le Hb Hk → Hk cc = some (.cell (some (it a))) → T G (c1.wp P) PV.R (eval elt (c1.wp P).env) Hk [] (fun p H3 _ => PHeap.Le Hk H3 ∧ Rd (H3.del cc) p (dd a)) noX) →
      (∀ acc' H', PHeap.Le Hb H' → RdAll (H'.del cc) acc' (ds ++ items.map dd) → K acc' H') → CompP G c1 Src (.Name x px) [] elt K (items.map fun a => .val (it a)) acc Hk vs1
  | [], acc, ds, Hk, vs1, hle, _, hrd, _, hK => by
    show K acc Hk
    exact hK acc Hk hle (by simpa using hrd)
  | a :: r, acc, ds, Hk, vs1, hle, ⟨w, hw⟩, hrd, hs, hK => by
    intro P v hpv
    refine a_cell (Cx.wp_ok hc1) hx hcl hw hpv ?_
    refine ⟨fun _ => ?_, fun q => (nomatch q)⟩
    have hle2 : PHeap.Le Hb (Hk.set cc (.cell (some (it a)))) := PHeap.Le.set hle hcc
    refine t_mono (t_vars (fun _ _ e => by cases e) (hs P a _ (.head _) hle2 PHeap.set_self)) (fun p H3 vs3 ⟨k1, k2⟩ => ?_) fun _ _ _ x => x
    refine ⟨H3, PHeap.Le.refl _, hsrc _ (PHeap.Le.trans hle2 k1), ?_⟩
    have hd : PHeap.Le (Hk.del cc) (H3.del cc) := by
      have := del_le' (a := cc) k1
      rw [del_set'] at this
      exact this
    refine comp_growC hc1 hx hcl hcc hsrc r (acc ++ [p]) (ds ++ [dd a]) H3 vs3 (PHeap.Le.trans hle2 k1) ⟨_, k1 _ _ PHeap.set_self⟩ ((hrd.le hd ds).snoc k2) (fun P a Hk ha => hs P a Hk (.tail _ ha)) fun acc' H' j1 j2 => ?_
    exact hK acc' H' j1 (by simpa using j2)
end
section
variable {G : Gl} {S : Scope} {c : Cx S} {H : PHeap} {vs : Vars} {E : PX → PHeap → Vars → Prop} {Q : PV → PHeap → Vars → Prop}
/-- a row, its cells zipped -/
theorem RowP.zip {H : PHeap} {first : Int} : ∀ {ps cs}, RowP H first ps cs → ∀ z ∈ ps.zip cs, ∃ a s d ld li po, z.1 = PV.ref a ∧ H a = some (.list [.int 0, .int (z.2.1 : Nat), .int first, .ref s]) ∧ SL H s d ld li .none po ∧ H ld = some (.list (z.2.2.map .str))
  | _, _, .nil, z, h => by simp at h
  | _, _, .cons (ps := ps) (cs := cs) h1 h2 h3 h4, z, h => by
    rw [List.zip_cons_cons] at h
    rcases List.mem_cons.mp h with rfl | h
    · exact ⟨_, _, _, _, _, _, rfl, h1, h2, h3⟩
    · exact RowP.zip h4 z h
theorem RowP.len {H : PHeap} {first : Int} : ∀ {ps cs}, RowP H first ps cs → ps.length = cs.length
  | _, _, .nil => rfl
  | _, _, .cons _ _ _ r => by simp [r.len]
theorem TabP.zip {H : PHeap} : ∀ {ps rows}, TabP H ps rows → ∀ z ∈ ps.zip rows, ∃ a cs, z.1 = PV.ref a ∧ H a = some (.list cs) ∧ RowP H z.2.1 cs z.2.2 ∧ z.2.2 ≠ []
  | _, _, .nil, z, h => by simp at h
  | _, _, .cons (rs := rs) (rows := rows) h1 h2 h3 h4, z, h => by
    rw [List.zip_cons_cons] at h
    rcases List.mem_cons.mp h with rfl | h
    · exact ⟨_, _, rfl, h1, h2, h3⟩
    · exact TabP.zip h4 z h
theorem zip_val2 {β : Type} : ∀ {ps : List PV} {cs : List β}, ps.length = cs.length → ps.map Itm.val = (ps.zip cs).map (fun z => Itm.val z.1)
  | [], [], _ => rfl
  | [], _ :: _, h => by simp at h
  | _ :: _, [], h => by simp at h
  | p :: ps, q :: cs, h => by simp at h; simp [zip_val2 h]
theorem zip_dd {β γ : Type} {f : β → γ} : ∀ {ps : List PV} {cs : List β}, ps.length = cs.length → (ps.zip cs).map (fun z => f z.2) = cs.map f
  | [], [], _ => rfl
  | [], _ :: _, h => by simp at h
  | _ :: _, [], h => by simp at h
  | p :: ps, q :: cs, h => by simp at h; simp [zip_dd h]
/-- sizes -/
def RowsOk (rows : List (Int × List (Nat × List Str))) : Prop := rows.length ≤ 100 ∧ ∀ r ∈ rows, r.2.length ≤ 100 ∧ ∀ q ∈ r.2, q.2.length ≤ 1000
theorem seen_spec (hG : G.Ok) (hF : GF G) (hc : c.Ok) (hd : c.dp < 500) (hh : c.hd = none) {l : Addr} {ps : List PV} {rows : List (Int × List (Nat × List Str))} (hl : H l = some (.list ps)) (ht : TabP H ps rows) (hz : RowsOk rows)
    (h : ∀ r H', PHeap.Le H H' → Rd H' (.ref r) (tabD rows) → Q (.ref r) H' vs) : CallP G c (.ref 601) [.ref l] [] [] H vs Q E := by
  obtain ⟨t, ho⟩ := hF.d_seen.at_
  refine CodeP.call (k_def (bs := [("rows", .ref l)]) (ns := ["rows"]) hG hc ho hF.d_seen.code (by omega) ?_ rfl (by decide) (by decide) (by decide) (by decide) (by decide) (by decide) fun c' hc' e1' e2' e3' e4' e5' => ?_)
  · rintro _ _ (_ | ⟨h1, _ | _⟩) (_ | _) s X
    exact ⟨[("rows", _)], BindsTo.of_eq (by rfl), rfl, .cons h1 .nil⟩
  · have hd' : c'.hd = none := e3'.trans hh
    have htl := ht.len
    refine t_cons ?_
    refine t_ret ?_
    with_reducible refine' t_listcomp (cl := ([] : List (Str × Addr))) hc' hd' ?f1 ?f2 ?f3 ?f4 ?f5 ?f6 ?_
    case f1 => exact closureFor_of rfl
    case f2 => decide
    case f3 => rfl
    case f4 => decide
    case f5 => decide
    case f6 => exact fun _ => rfl
    repeat walk_at "w"
    refine iter_list hl ⟨by have := hz.1; simp; rw [htl, sizeLine_eq]; omega, hl, fun k1 hk1 g1 g2 g3 g4 => ?_⟩
    rw [zip_val2 htl]
    refine comp_grow (it := fun z : PV × (Int × List (Nat × List Str)) => z.1) (dd := fun z => rowD z.2) (Hb := H) hk1 rfl (fun H1 hle => hle _ _ hl) _ [] [] H [] (PHeap.Le.refl _) .nil (fun P z Hk hzm hle => ?_) ?_
    · obtain ⟨a, cs, hza, ha, hrow, hne⟩ := ht.zip z hzm
      rw [hza]
      have hcsl := hrow.len
      have hz2 := hz.2 z.2 (List.of_mem_zip hzm).2
      have hk1w : (k1.wp P).Ok := Cx.wp_ok hk1
      have hd1 : (k1.wp P).hd = none := g1.trans hd'
      with_reducible refine' t_listcomp1 (x := "cell") (cl := ([] : List (Str × Addr))) hk1w hd1 ?f1 ?f2 ?f7 ?f3 ?f4 ?f5 ?f6 ?_
      case f1 => exact closureFor_of rfl
      case f2 => exact fun _ => rfl
      case f7 => exact fun _ => rfl
      case f3 => rfl
      case f4 => decide
      case f5 => decide
      case f6 => exact fun _ => rfl
      repeat walk_at "w"
      have hka : Hk a = some (.list cs) := hle _ _ ha
      refine iter_list hka ⟨by have := hz2.1; simp; rw [hcsl, sizeLine_eq]; omega, fun cc hcc => (PHeap.set_ne (ne_none hka hcc)).trans hka, fun k2 cc hk2 j1 j2 j3 j4 hcc => ?_⟩
      rw [zip_val2 hcsl]
      refine comp_growC (it := fun w : PV × (Nat × List Str) => w.1) (dd := fun w => cellD z.2.1 w.2) (Hb := Hk) (cc := cc) hk2 rfl (by rw [j4]; rfl) hcc (fun H1 hle1 => hle1 _ _ hka) _ [] [] _ [] (le_new (PHeap.Le.refl _) hcc) ⟨_, PHeap.set_self⟩ .nil (fun P2 w Hm hwm hle2 hcm => ?_) ?_
      · obtain ⟨b, s, d, ld, li, po, hwb, hb, hsl, hld⟩ := hrow.zip w hwm
        rw [hwb] at hcm
        have hw2 := hz2.2 w.2 (List.of_mem_zip hwm).2
        have L := PHeap.Le.trans hle hle2
        have hk2w : (k2.wp P2).Ok := Cx.wp_ok hk2
        have hd2 : (k2.wp P2).hd = none := j1.trans hd1
        have hcl2 : (k2.wp P2).cl.lookup ("cell" : Str) = some cc := by show k2.cl.lookup _ = _; rw [j4]; rfl
        refine t_list ?_
        repeat walk_at "w"
        refine t_cell (ca := cc) (p := .ref b) hk2w rfl hcl2 hcm ?_
        repeat walk_at "w"
        refine sub_list (L _ _ hb) (by decide) (by decide) rfl ?_
        repeat walk_at "w"
        refine t_cell (ca := cc) (p := .ref b) hk2w rfl hcl2 hcm ?_
        repeat walk_at "w"
        refine sub_list (L _ _ hb) (by decide) (by decide) rfl ?_
        repeat walk_at "w"
        refine t_cell (ca := cc) (p := .ref b) hk2w rfl hcl2 hcm ?_
        repeat walk_at "w"
        refine sub_list (L _ _ hb) (by decide) (by decide) rfl ?_
        repeat walk_at "w"
        with_reducible refine' t_listcomp (cl := ([("cell", cc)] : List (Str × Addr))) hk2w hd2 ?f1 ?f2 ?f3 ?f4 ?f5 ?f6 ?_
        case f1 => exact closureFor_of (by rw [show (k2.wp P2).env.cells = ([("cell", cc)] : List (Str × Addr)) from j4]; rfl)
        case f2 => decide
        case f3 => rfl
        case f4 => decide
        case f5 => decide
        case f6 => exact fun _ => rfl
        repeat walk_at "w"
        refine t_cell (ca := cc) (p := .ref b) hk2w rfl hcl2 hcm ?_
        repeat walk_at "w"
        refine sub_list (L _ _ hb) (by decide) (by decide) rfl ?_
        repeat walk_at "w"
        have j2' : k2.dp = k1.dp := j2
        have hsm : SL Hm s d ld li .none po := ⟨L _ _ hsl.i, L _ _ hsl.f⟩
        have hlm : Hm ld = some (.list (w.2.2.map .str)) := L _ _ hld
        refine k_ownlen hG hF.o_len hsm.i hsm.f ?_
        refine len_sl (xs := w.2.2.map .str) hG hF (Cx.up_ok hk2w) (by show k2.dp + 0 < 800; omega) hsm hlm (by simp; omega) ⟨_, rfl, by omega, by simp; omega, ?_⟩
        rw [List.length_map]
        repeat walk_at "w"
        refine k_range fun rg t1 t2 t3 hrg => ?_
        refine iter_range PHeap.set_self (by omega) (by omega) ⟨by simp; rw [sizeLine_eq]; omega, trivial, fun k3 hk3 i1 i2 i3 i4 => ?_⟩
        rw [show ((w.2.2.length : Int)).toNat = w.2.2.length by omega]
        obtain ⟨Hr, hHr⟩ : ∃ Hr, Hr = Hm.set rg (.raw (rangeObj (w.2.2.length : Int) t1 t2 t3)) := ⟨_, rfl⟩
        rw [← hHr]
        have Nr : PHeap.Le Hm Hr := by rw [hHr]; exact le_new (PHeap.Le.refl _) hrg
        clear hHr
        have Lr := PHeap.Le.trans L Nr
        refine comp_map (it := fun i : Nat => .int (i : Int)) (f := fun i : Nat => .str (w.2.2.getD i "")) (tst := fun _ => true) (Hk := Hr) hk3 rfl trivial (List.range w.2.2.length) [] [] (fun P3 i vs1 hi => ⟨rfl, rfl, fun _ => ?_⟩) ?_
        · have hil : i < w.2.2.length := List.mem_range.mp hi
          have hk3w : (k3.wp P3).Ok := Cx.wp_ok hk3
          refine t_only ?_
          repeat walk_at "w"
          refine t_cell (ca := cc) (p := .ref b) hk3w rfl (by show k3.cl.lookup _ = _; rw [i4]; rfl) (Nr _ _ hcm) ?_
          repeat walk_at "w"
          refine sub_list (Lr _ _ hb) (by decide) (by decide) rfl ?_
          repeat walk_at "w"
          have i2' : k3.dp = k2.dp := i2
          refine sub_own hG hF.o_get hF.fn350 (Lr _ _ hsl.i) (Lr _ _ hsl.f) (get_sl (p := .str (w.2.2.getD i "")) hG hF (Cx.up_ok hk3w) (by show k3.dp + 0 < 800; omega) ⟨Lr _ _ hsl.i, Lr _ _ hsl.f⟩ (Lr _ _ hld) (by simp; omega) (.inl ⟨by omega, ?_, by omega⟩) ⟨rfl, rfl⟩) (fun u hu => by obtain ⟨t, rfl⟩ := hu; rfl)
          rw [show ((i : Int)).toNat = i by omega]
          simp [hil]
        · intro d1 hd1
          rw [List.nil_append, List.filter_eq_self.mpr (fun _ _ => rfl)]
          have hmap : (List.range w.2.2.length).map (fun i : Nat => PV.str (w.2.2.getD i "")) = w.2.2.map PV.str := by
            apply List.ext_getElem
            · simp
            · intro i h1 h2
              simp at h1
              simp [h1]
          rw [hmap]
          have N1 := le_new (o := .list (w.2.2.map .str)) Nr hd1
          repeat walk_at "w"
          refine ⟨by show 4 ≤ _; rw [sizeLine_eq]; decide, fun d2 hd2 => ⟨le_new N1 hd2, ?_⟩⟩
          have nd1 : d1 ≠ cc := fun e => by rw [e, Nr _ _ hcm] at hd1; cases hd1
          have nd2 : d2 ≠ cc := fun e => by rw [e, N1 _ _ hcm] at hd2; cases hd2
          refine .list (del_get nd2 PHeap.set_self) (.cons (.int 0) (.cons (.int _) (.cons (.int _) (.cons (.list (del_get nd1 ((PHeap.set_ne (ne_none PHeap.set_self hd2)).trans PHeap.set_self)) rdStrs) .nil))))
      · intro acc2 H2 q1 q2 d hdn
        rw [List.nil_append, zip_dd hcsl] at q2
        refine ⟨le_new q1 hdn, .list PHeap.set_self (q2.le (PHeap.Le.trans PHeap.del_le (le_new (PHeap.Le.refl _) hdn)) _)⟩
    · intro acc H1 k1' k2' d hdn
      refine ⟨_, PHeap.Le.refl _, h d _ (le_new k1' hdn) (.list PHeap.set_self ?_)⟩
      rw [List.nil_append, zip_dd htl] at k2'
      exact k2'.le (le_new (PHeap.Le.refl _) hdn) _
end
section
variable {G : Gl} {S : Scope} {c : Cx S} {H : PHeap} {vs : Vars} {E : PX → PHeap → Vars → Prop} {Q : PV → PHeap → Vars → Prop}
/-- the first row behind the head -/
def fIdx (head : Int) : List (Int × List (Nat × List Str)) → Nat → Option Nat
  | [], _ => none
  | r :: rs, i => if r.1 > head then some i else fIdx head rs (i + 1)
def partOf (rows : List (Int × List (Nat × List Str))) (head : Int) : Nat := if head = 0 then 0 else (fIdx head rows 0).getD 0
theorem RowP.first {H : PHeap} {first : Int} {ps cs} (h : RowP H first ps cs) (hn : cs ≠ []) : ∃ a s k r, ps = .ref a :: r ∧ H a = some (.list [.int 0, .int (k : Nat), .int first, .ref s]) := by
  cases h with
  | nil => exact absurd rfl hn
  | cons h1 _ _ _ => exact ⟨_, _, _, _, rfl, h1⟩
theorem TabP.get {H : PHeap} {ps rows} (h : TabP H ps rows) : ∀ {i : Nat} {r}, rows[i]? = some r → ∃ a cs, ps[i]? = some (.ref a) ∧ H a = some (.list cs) ∧ RowP H r.1 cs r.2 ∧ r.2 ≠ [] := by
  induction h with
  | nil => intro i r e; simp at e
  | cons h1 h2 h3 _ ih =>
    intro i r e
    cases i with
    | zero => simp at e; subst e; exact ⟨_, _, rfl, h1, h2, h3⟩
    | succ i => simp at e; obtain ⟨a, cs, k1, k2⟩ := ih e; exact ⟨a, cs, by simpa using k1, k2⟩
theorem lsl_to {α : Type} {l : List α} {i : Nat} : lsl l none (some (i : Int)) = l.take i := by
  unfold lsl
  simp only [kms_lo, kms_hi]
  rw [if_neg (by omega), List.drop_zero, Nat.sub_zero]
  by_cases h : i ≤ l.length
  · rw [show min ((i : Int)).toNat l.length = i by omega]
  · rw [show min ((i : Int)).toNat l.length = l.length by omega, List.take_length, List.take_of_length_le (by omega)]
/-- a comprehension over pairs whose elements make nothing -/
theorem comp_map2 {S' : Scope} {c1 : Cx S'} (hc1 : c1.Ok) (hd : c1.hd = none) {Src : PHeap → Prop} {x y : Str} {px py pt : Pos} {n : Nat} {elt : Expr} {K : List PV → PHeap → Prop} {f : Int × Int → PV} {Hk : PHeap} (hx : S'.names.lookup x = some .local) (hy : S'.names.lookup y = some .local) (hsrc : Src Hk)
    (hs : ∀ P (q : Int × Int), T G (c1.wp P) PV.R (eval elt (c1.wp P).env) Hk [(x, .int q.1), (y, .int q.2)] (fun p H3 _ => p = f q ∧ H3 = Hk) noX) (hxy : x ≠ y) :
    ∀ {ps : List PV} {cs : List (Int × Int)}, ColsAt Hk ps cs → ∀ (acc : List PV) (vs1 : Vars), K (acc ++ cs.map f) Hk → CompP G c1 Src (.Tuple [.Name x px, .Name y py] n pt) [] elt K (ps.map .val) acc Hk vs1
  | _, _, .nil, acc, vs1, hK => by
    show K acc Hk
    simpa using hK
  | _, _, .cons (r := r) (a := a) (b := b) h1 h2, acc, vs1, hK => by
    intro P v hpv
    cases hpv
    refine a_unpack2 (Cx.wp_ok hc1) hd h1 hx hy ?_
    refine ⟨fun _ => ?_, fun q => (nomatch q)⟩
    refine t_mono (t_vars (fun z p e => ?_) (hs P (a, b))) (fun p H3 vs3 ⟨k1, k2⟩ => ?_) fun _ _ _ x => x
    · rw [putV_lookup, putV_lookup]
      rw [List.lookup_cons] at e
      cases hq : z == x with
      | true =>
        rw [hq] at e
        cases e
        have hzx : z = x := by simpa using hq
        rw [if_neg (by rw [hzx]; exact hxy), if_pos hzx]
      | false =>
        rw [hq] at e
        rw [List.lookup_cons] at e
        cases hq2 : z == y with
        | true => rw [hq2] at e; cases e; rw [if_pos (by simpa using hq2)]
        | false => rw [hq2] at e; cases e
    · subst k1
      subst k2
      refine ⟨_, PHeap.Le.refl _, hsrc, comp_map2 hc1 hd hx hy hsrc hs hxy h2 _ _ (by simpa using hK)⟩
theorem struct_spec (hG : G.Ok) (hF : GF G) (hc : c.Ok) (hd : c.dp < 500) (hh : c.hd = none) {p dp lc tl : Addr} {fs : Vars} {ccs : List (Int × Int)} {head : Int} {tps : List PV} {rows : List (Int × List (Nat × List Str))} (hp1 : H p = some (.inst 237 dp)) (hp2 : H dp = some (.dict fs)) (hfc : fs.lookup ("columns" : Str) = some (.ref lc)) (hft : fs.lookup ("table" : Str) = some (.ref tl)) (hfh : fs.lookup ("head_body_sep" : Str) = some (.int head))
    (hcc : Cols H lc ccs) (hccl : ccs.length ≤ 60) (htl : H tl = some (.list tps)) (ht : TabP H tps rows) (hz : RowsOk rows)
    (h : ∀ t cs t1 t2 H', PHeap.Le H H' → H' t = some (.tup [.ref cs, .ref t1, .ref t2]) → H' cs = some (.list (ccs.map fun q => .int (q.2 - q.1))) → H' t1 = some (.list (tps.take (partOf rows head))) → H' t2 = some (.list (tps.drop (partOf rows head))) → Q (.ref t) H' vs) :
    CallP G c (.ref 234) [.ref p] [] [] H vs Q E := by
  obtain ⟨t, ho⟩ := hF.d234.at_
  refine CodeP.call (k_def (bs := [("self", .ref p)]) (ns := ["self"]) hG hc ho hF.d234.code (by omega) ?_ rfl (by decide) (by decide) (by decide) (by decide) (by decide) (by decide) fun c' hc' e1' e2' e3' e4' e5' => ?_)
  · rintro _ _ (_ | ⟨h1, _ | _⟩) (_ | _) s X
    exact ⟨[("self", _)], BindsTo.of_eq (by rfl), rfl, .cons h1 .nil⟩
  · have hd' : c'.hd = none := e3'.trans hh
    obtain ⟨ls, hls, hlat⟩ := id hcc
    have htz := ht.len
    have hrz := hz.1
    refine t_cons ?_
    with_reducible refine' t_assigncomp (cl := ([] : List (Str × Addr))) hc' hd' ?f0 ?f9 ?f1 ?f2 ?f3 ?f4 ?f5 ?f6 ?_
    case f0 => k_dflt (exact rfl)
    case f9 => k_dflt (exact rfl)
    case f1 => exact closureFor_of rfl
    case f2 => decide
    case f3 => rfl
    case f4 => decide
    case f5 => decide
    case f6 => exact fun _ => rfl
    repeat walk_at "w"
    refine g_inst hG (hF.a237 "columns" (by decide)).1 hp1 hp2 hfc rfl ?_
    refine iter_list hls ⟨by simp; rw [hlat.len, sizeLine_eq]; omega, hls, fun k1 hk1 g1 g2 g3 g4 => ?_⟩
    refine comp_map2 (f := fun q => .int (q.2 - q.1)) hk1 (g1.trans hd') rfl rfl hls (fun P q => ?_) (by decide) hlat [] [] ?_
    · repeat walk_at "w"
      exact ⟨rfl, rfl⟩
    · intro cs hcs
      rw [List.nil_append]
      obtain ⟨H1, hH1⟩ : ∃ H1, H1 = H.set cs (.list (ccs.map fun q => .int (q.2 - q.1))) := ⟨_, rfl⟩
      rw [← hH1]
      have L1 : PHeap.Le H H1 := by rw [hH1]; exact le_new (PHeap.Le.refl _) hcs
      have c1 : H1 cs = some (.list (ccs.map fun q => .int (q.2 - q.1))) := by rw [hH1]; exact PHeap.set_self
      clear hH1
      have gp : ∀ {Hk}, PHeap.Le H1 Hk → Hk p = some (.inst 237 dp) := fun L => L _ _ (L1 _ _ hp1)
      have gd : ∀ {Hk}, PHeap.Le H1 Hk → Hk dp = some (.dict fs) := fun L => L _ _ (L1 _ _ hp2)
      have fin : ∀ (Hk : PHeap) (vs1 : Vars) (j : Nat), j = partOf rows head → PHeap.Le H1 Hk → Sub ([("self", .ref p), ("colspecs", .ref cs), ("first_body_row", .int (j : Nat))] : Vars) vs1 → T G c' PF.R (execs ((dBody (methAt 13 8)).drop 3) c'.env) Hk vs1 (RetQ Q vs) (fun x H1 _ => E x H1 vs) := by
        intro Hk vs1 j hj L hv
        refine t_vars hv ?_
        have hjl : (j : Int) < 2 ^ 62 := by
          have : j ≤ 100 := by
            rw [hj]
            unfold partOf
            split
            · omega
            · have : ∀ (rs : List (Int × List (Nat × List Str))) (i : Nat), (fIdx head rs i).getD 0 ≤ i + rs.length := by
                intro rs
                induction rs with
                | nil => intro i; simp [fIdx]
                | cons r rs ih =>
                  intro i
                  unfold fIdx
                  split
                  · simp
                  · have := ih (i + 1); simp; omega
              have := this rows 0
              omega
          omega
        refine t_cons ?_
        repeat walk_at "w"
        refine g_inst hG (hF.a237 "table" (by decide)).1 (gp L) (gd L) hft rfl ?_
        repeat walk_at "w"
        refine slc_list (lo := none) (hi := some (j : Int)) (L _ _ (L1 _ _ htl)) rfl rfl (by rw [htz, sizeLine_eq]; omega) fun d1 hd1 => ?_
        rw [lsl_to]
        have L2 := le_new (o := .list (tps.take j)) L hd1
        repeat walk_at "w"
        refine g_inst hG (hF.a237 "table" (by decide)).1 (gp L2) (gd L2) hft rfl ?_
        repeat walk_at "w"
        refine slc_list (lo := some (j : Int)) (hi := none) (L2 _ _ (L1 _ _ htl)) rfl rfl (by rw [htz, sizeLine_eq]; omega) fun d2 hd2 => ?_
        rw [lsl_from]
        have L3 := le_new (o := .list (tps.drop j)) L2 hd2
        repeat walk_at "w"
        refine ⟨by show 3 ≤ _; rw [sizeLine_eq]; decide, fun d3 hd3 => ?_⟩
        have L4 := le_new (o := .tup [.ref cs, .ref d1, .ref d2]) L3 hd3
        subst hj
        refine ⟨_, PHeap.Le.refl _, h d3 cs d1 d2 _ (PHeap.Le.trans L1 L4) PHeap.set_self (L4 _ _ c1) ?_ ?_⟩
        · exact (PHeap.set_ne (ne_none ((PHeap.set_ne (ne_none PHeap.set_self hd2)).trans PHeap.set_self) hd3)).trans ((PHeap.set_ne (ne_none PHeap.set_self hd2)).trans PHeap.set_self)
        · exact (PHeap.set_ne (ne_none PHeap.set_self hd3)).trans PHeap.set_self
      repeat walk_at "w"
      refine g_inst hG (hF.a237 "head_body_sep" (by decide)).1 (gp (PHeap.Le.refl _)) (gd (PHeap.Le.refl _)) hfh rfl ?_
      repeat walk_at "w"
      refine ⟨fun hq => ?_, fun hq => ?_⟩
      · have hh0 : head ≠ 0 := by simpa using hq
        have loop : ∀ (rs : List (Int × List (Nat × List Str))) (i : Nat) (Hk : PHeap) (vs1 : Vars), rows.drop i = rs → partOf rows head = (fIdx head rs i).getD 0 → PHeap.Le H1 Hk → Sub ([("self", .ref p), ("colspecs", .ref cs), ("first_body_row", .int 0)] : Vars) vs1 →
            ForP G c' (fun _ => True) (forT (stm (forB (stm (dBody (methAt 13 8)) 2)) 0)) (forB (stm (forB (stm (dBody (methAt 13 8)) 2)) 0)) (Seq G c' [] (Seq G c' ((dBody (methAt 13 8)).drop 3) (RetQ Q vs) (fun x H1 _ => E x H1 vs)) (fun x H1 _ => E x H1 vs)) (fun x H1 _ => E x H1 vs) ((List.range' i rs.length).map fun (i : Nat) => .val (.int (i : Int))) Hk vs1 := by
          intro rs
          induction rs with
          | nil =>
            intro i Hk vs1 _ hp L hv
            refine seq_next ?_
            refine t_nil ?_
            refine seq_next ?_
            exact fin Hk vs1 0 (by rw [hp]; rfl) L hv
          | cons r rs ih =>
            intro i Hk vs1 hdr hp L hv P v hpv
            have hri : rows[i]? = some r := by
              have := congrArg (fun l => l[0]?) hdr
              simpa [List.getElem?_drop] using this
            have hdr2 : rows.drop (i + 1) = rs := by
              have := congrArg (fun l => l.drop 1) hdr
              simpa [List.drop_drop, Nat.add_comm] using this
            have hil : i < 100 := by have := (List.getElem?_eq_some_iff.mp hri).1; omega
            obtain ⟨a, cl, q1, q2, q3, q4⟩ := ht.get hri
            obtain ⟨b, s, k, rr, rfl, q5⟩ := q3.first q4
            refine a_name (Cx.wp_ok hc') rfl hpv ?_
            refine t_vars (sub_put hv) ?_
            refine t_cons ?_
            repeat walk_at "w"
            refine g_inst hG (hF.a237 "table" (by decide)).1 (gp L) (gd L) hft rfl ?_
            repeat walk_at "w"
            refine sub_list (L _ _ (L1 _ _ htl)) (by omega) (by omega) (by rw [show ((i : Int)).toNat = i by omega]; exact q1) ?_
            repeat walk_at "w"
            refine sub_list (L _ _ (L1 _ _ q2)) (by decide) (by decide) rfl ?_
            repeat walk_at "w"
            refine sub_list (L _ _ (L1 _ _ q5)) (by decide) (by decide) rfl ?_
            repeat walk_at "w"
            refine g_inst hG (hF.a237 "head_body_sep" (by decide)).1 (gp L) (gd L) hfh rfl ?_
            repeat walk_at "w"
            refine ⟨fun hq => ?_, fun hq => ?_⟩
            · have hgt : r.1 > head := of_decide_eq_true hq
              repeat walk_at "w"
              refine forn_brk ?_
              refine seq_next ?_
              refine t_nil ?_
              refine seq_next ?_
              exact fin Hk _ i (by rw [hp, fIdx, if_pos hgt]; rfl) L (sub_cons rfl (sub_cons rfl (sub_cons rfl sub_nil)))
            · have hgt : ¬ r.1 > head := of_decide_eq_false hq
              repeat walk_at "w"
              refine ⟨Hk, PHeap.Le.refl _, trivial, ?_⟩
              exact ih (i + 1) Hk _ hdr2 (by rw [hp, fIdx, if_neg hgt]) L (sub_cons rfl (sub_cons rfl (sub_cons rfl sub_nil)))
        refine t_cons ?_
        with_reducible refine' t_for hc' e4' hd' ?f2 ?_
        case f2 => k_dflt (exact fun _ => rfl)
        repeat walk_at "w"
        refine g_inst hG (hF.a237 "table" (by decide)).1 (gp (PHeap.Le.refl _)) (gd (PHeap.Le.refl _)) hft rfl ?_
        repeat walk_at "w"
        refine k_len (L1 _ _ htl) (by rw [htz, sizeLine_eq]; omega) ?_
        repeat walk_at "w"
        refine k_range fun rg t1 t2 t3 hrg => ?_
        refine iter_range PHeap.set_self (by rw [htz]; omega) (by omega) ⟨trivial, ?_⟩
        rw [htz, show ((rows.length : Int)).toNat = rows.length by omega, List.range_eq_range']
        exact loop rows 0 _ _ rfl (by unfold partOf; rw [if_neg hh0]) (le_new (PHeap.Le.refl _) hrg) (sub_cons rfl (sub_cons rfl (sub_cons rfl sub_nil)))
      · have hh0 : head = 0 := by simpa using hq
        refine t_nil ?_
        refine seq_next ?_
        exact fin H1 _ 0 (by unfold partOf; rw [if_pos hh0]) (PHeap.Le.refl _) (sub_cons rfl (sub_cons rfl (sub_cons rfl sub_nil)))
end
section
variable {G : Gl} {S : Scope} {c : Cx S} {H : PHeap} {vs : Vars} {E : PX → PHeap → Vars → Prop} {Q : PV → PHeap → Vars → Prop}
theorem boot_tme : bootBuiltins ("TableMarkupError" : Str) = none := by kernel_rfl
theorem glob_own (hF : GF G) {x : Str} {a : Addr} (e : gTable.lookup x = some (.ref a)) (hb : ∀ v, bootBuiltins x = some v → v ≠ .ref a) : nsIn G.K mainGlobals x = some (some (.ref a)) := by
  obtain ⟨hg, _⟩ := hF.g x _ e
  rcases hg with ⟨v, e1, hr⟩ | ⟨e1, v, e2, hn, hr⟩
  · cases hr; exact e1
  · cases hr; exact absurd rfl (hb _ e2)
theorem told_spec (hG : G.Ok) (hF : GF G) (hc : c.Ok) (hd : c.dp < 350) (hh : c.hd = none) {p dp lc tl l : Addr} {sp : PV} {fs : Vars} {cinit : List (Int × Int)} {cz m be first : Int} {xs : List Str} {tps : List PV} {span : Option (List (Int × Int) × Int × Int × Int)}
    (hp1 : H p = some (.inst 237 dp)) (hp2 : H dp = some (.dict fs)) (hfc : fs.lookup ("columns" : Str) = some (.ref lc)) (hfb : fs.lookup ("border_end" : Str) = some (.int be)) (hft : fs.lookup ("table" : Str) = some (.ref tl)) (hfm : ∀ q ∈ me237, fs.lookup q.1 = none)
    (hcc : Cols H lc (cinit ++ [(cz, m)])) (hcl : cinit.length ≤ 50) (hbd : Bd (cinit ++ [(cz, m)]))
    (hl : H l = some (.list (xs.map .str))) (hxl : xs.length ≤ 1000) (hx : ∀ x ∈ xs, x.length ≤ 5000)
    (M : List Addr) (hM : ∀ z ∈ M, ∃ o, H z = some o) (htM : tl ∈ M) (htl : H tl = some (.list tps)) (htz : tps.length ≤ 1000) (hne : lc ≠ tl) (ho0 : 0 ≤ first) (ho1 : first < 10000)
    (hsp : (sp = .none ∧ span = none) ∨ ∃ t x off init lb le, sp = .ref t ∧ H t = some (.tup [.str x, .int off]) ∧ x.length ≤ 5000 ∧ 0 ≤ off ∧ off < 100000 ∧ PC x 0 (init ++ [(lb, le)]) ∧ Bd (init ++ [(lb, le)]) ∧ init.length ≤ 50 ∧ span = some (init, lb, le, off))
    (h0 : recF cinit cz m be xs first span = .nothing → ∀ H', PHeap.Le H H' → Q .none H' vs)
    (h1 : ∀ msg off cc, recF cinit cz m be xs first span = .ref msg off cc → ∀ t H', PHeap.Le (H.del lc) H' → Cols H' lc cc → H' t = some (.tup [.str msg, .int off]) → Q (.ref t) H' vs)
    (h2 : ∀ cc cells, recF cinit cz m be xs first span = .row cc cells → ∀ rl ps H', PHeap.Le ((H.del lc).del tl) H' → Cols H' lc cc → H' tl = some (.list (tps ++ [.ref rl])) → H' rl = some (.list ps) → H rl = none → RowP (dM M H') first ps cells → Q .none H' vs) :
    CallP G c (.ref 596) [.ref p, .ref l, .int first, sp] [] [] H vs Q E := by
  obtain ⟨t, ho⟩ := hF.d_told.at_
  refine CodeP.call (k_def (bs := [("parser", .ref p), ("texts", .ref l), ("first", .int first), ("span", sp)]) (ns := ["parser", "texts", "first", "span"]) hG hc ho hF.d_told.code (by omega) ?_ rfl (by decide) (by decide) (by decide) (by decide) (by decide) (by decide) fun c' hc' e1' e2' e3' e4' e5' => ?_)
  · rintro _ _ (_ | ⟨h1, _ | ⟨h2, _ | ⟨h3, _ | ⟨h4, _ | _⟩⟩⟩⟩) (_ | _) s X
    exact ⟨[("parser", _), ("texts", _), ("first", _), ("span", _)], BindsTo.of_eq (by rfl), rfl, .cons h1 (.cons h2 (.cons h3 (.cons h4 .nil)))⟩
  · have hd' : c'.hd = none := e3'.trans hh
    obtain ⟨nm, q, N, bs, bm, hdct, sn, sub, ab, col, dd, k0, k1, k2, k3, k5, hK, hB, hA, hN, hBE⟩ := hF.x149
    obtain ⟨ls, hls, hlat⟩ := id hcc
    refine t_cons ?_
    refine t_try_as hG hc' e4' rfl (glob_own hF rfl (fun v hv => ?_)) rfl rfl hK hBE ?_
    · rw [boot_tme] at hv; cases hv
    refine t_cons ?_
    repeat walk_at "w"
    refine m_inst hG (hF.m237 ("parse_row", 222) (by decide)).1 hp1 hp2 (hfm ("parse_row", 222) (by decide)) ?_
    refine ⟨(hF.m237 ("parse_row", 222) (by decide)).2, ?_⟩
    repeat walk_at "w"
    refine k_list hl (by rw [List.length_map, sizeLine_eq]; omega) fun l2 hl2 => ?_
    have L1 := le_new (o := .list (xs.map .str)) (PHeap.Le.refl H) hl2
    repeat walk_at "w"
    refine new_sl (xs := xs.map .str) (src := .str "t") (its := .none) (par := .none) (po := .none) hG hF hc' (by omega) hd' PHeap.set_self (by simp; omega) (.inl rfl) (.inl ⟨rfl, rfl, rfl, rfl, rfl⟩) fun a0 d0 ld li ys H1 j1 j2 j3 j4 j5 j6 j7 j8 j9 => ?_
    have LH := PHeap.Le.trans L1 j1
    have off : ∀ {z}, H1 z = none → H z = none := fun {z} hz => by
      cases q : H z with
      | none => rfl
      | some o => rw [LH _ _ q] at hz; cases hz
    have hnli : li ≠ lc := by
      rcases j9 with j9 | j9
      · intro e
        rw [e, L1 _ _ hls] at j9; cases j9
      · cases j9
    repeat walk_at "w"
    refine row_spec (xs := xs) (first := first) (tps := tps) (span := span) (be := be) hG hF hc' (by omega) hd' (LH _ _ hp1) (LH _ _ hp2) hfc hfb hft hfm (hcc.le LH) hcl hbd j5 j6 j7 hnli (by rw [j8]; simp) hxl hx M (fun z hz => by obtain ⟨o, ho⟩ := hM z hz; exact ⟨o, LH _ _ ho⟩) htM (LH _ _ htl) htz hne ho0 ho1 ?_ ?_ ?_ ?_
    · rcases hsp with hsp | ⟨t, x, of', init, lb, le, g1, g2, g3⟩
      · exact .inl hsp
      · exact .inr ⟨t, x, of', init, lb, le, g1, LH _ _ g2, g3⟩
    · intro hr
      repeat walk_at "w"
      exact ⟨_, PHeap.Le.refl _, h0 hr H1 LH⟩
    · intro msg of' cc hr d H2 i1 i2 i3
      refine ⟨d, rfl, fun e he => ?_⟩
      have nde : d ≠ e := fun w => by rw [← w, PHeap.set_self] at he; cases he
      have L3 : PHeap.Le H2 ((H2.set d (refus msg of')).set e (.exc 149 (some d) false)) := le_new (le_new (PHeap.Le.refl _) i3) he
      have e3 : ((H2.set d (refus msg of')).set e (.exc 149 (some d) false)) e = some (.exc 149 (some d) false) := PHeap.set_self
      have d3 : ((H2.set d (refus msg of')).set e (.exc 149 (some d) false)) d = some (.dict [("message", .str msg), ("offset", .int of')]) := (PHeap.set_ne nde).trans PHeap.set_self
      show T G (c'.hand e) PF.R (execs _ (c'.hand e).env) _ _ _ _
      generalize (H2.set d (refus msg of')).set e (.exc 149 (some d) false) = H3 at *
      refine t_cons ?_
      refine t_ret ?_
      repeat walk_at "w"
      refine g_exc hG hF.e149 hF.f149.1 e3 d3 rfl rfl ?_
      repeat walk_at "w"
      refine g_exc hG hF.e149 hF.f149.2 e3 d3 rfl rfl ?_
      repeat walk_at "w"
      refine ⟨by show 2 ≤ _; rw [sizeLine_eq]; decide, fun d4 hd4 => ?_⟩
      have L4 := PHeap.Le.trans L3 (le_new (o := .tup [.str msg, .int of']) (PHeap.Le.refl _) hd4)
      exact ⟨_, PHeap.Le.refl _, h1 msg of' cc hr d4 _ (PHeap.Le.trans (PHeap.Le.trans (del_le' LH) i1) L4) (i2.le L4) PHeap.set_self⟩
    · intro cc cells hr rl ps H2 i1 i2 i3 i4 i5 i6
      repeat walk_at "w"
      exact ⟨_, PHeap.Le.refl _, h2 cc cells hr rl ps H2 (PHeap.Le.trans (le_dd LH) i1) i2 i3 i4 (off i5) i6⟩
end
section
variable {G : Gl} {S : Scope} {c : Cx S} {H : PHeap} {vs : Vars} {E : PX → PHeap → Vars → Prop} {Q : PV → PHeap → Vars → Prop}
def cs0 (g w : Int) (t : Bool) : List (Int × Int) := (0, w) :: (w + g, 2 * w + g) :: (if t then [(2 * w + 2 * g, 2 * w + 2 * g + 2)] else [])
def stopF (x : Str) : Nat → Nat → Nat
  | 0, k => k
  | f + 1, k => if k < x.length then (if isDash x k then stopF x f (k + 1) else k) else k
def runsF (x : Str) : Nat → Nat → Option (List (Int × Int))
  | 0, _ => none
  | f + 1, k => if x.length ≤ k then some [] else if isDash x k then (runsF x f (stopF x x.length k)).map (((k : Int), ((stopF x x.length k : Nat) : Int)) :: ·) else runsF x f (k + 1)
def pcF (x : Str) : Nat → Int → Option (List (Int × Int))
  | 0, _ => none
  | f + 1, e =>
    if Txt.find3 x "-" e < 0 then some []
    else (pcF x f (if Txt.find3 x " " (Txt.find3 x "-" e) < 0 then (x.length : Int) else Txt.find3 x " " (Txt.find3 x "-" e))).map ((Txt.find3 x "-" e, (if Txt.find3 x " " (Txt.find3 x "-" e) < 0 then (x.length : Int) else Txt.find3 x " " (Txt.find3 x "-" e))) :: ·)
theorem stopF_is {x : Str} : ∀ (f k : Nat), x.length ≤ k + f → DStop x k (stopF x f k)
  | 0, k, h => .over (by omega)
  | f + 1, k, h => by
    unfold stopF
    split
    · rename_i hk
      split
      · rename_i hd
        exact .on hk hd (stopF_is f (k + 1) (by omega))
      · rename_i hd
        exact .here hk (by simpa using hd)
    · exact .over (by omega)
theorem runsF_is {x : Str} : ∀ (f k : Nat) (rs : List (Int × Int)), runsF x f k = some rs → Runs x k rs
  | 0, _, _, h => by cases h
  | f + 1, k, rs, h => by
    unfold runsF at h
    split at h
    · rename_i hk; cases h; exact .done hk
    · rename_i hk
      split at h
      · rename_i hd
        obtain ⟨r, h1, h2⟩ := Option.map_eq_some_iff.mp h
        subst h2
        exact .run (by omega) hd (stopF_is _ _ (by omega)) (runsF_is f _ _ h1)
      · rename_i hd
        exact .skip (by omega) (by simpa using hd) (runsF_is f _ _ h)
theorem pcF_is {x : Str} : ∀ (f : Nat) (e : Int) (rs : List (Int × Int)), pcF x f e = some rs → PC x e rs
  | 0, _, _, h => by cases h
  | f + 1, e, rs, h => by
    unfold pcF at h
    split at h
    · rename_i hk; cases h; exact .stop hk
    · rename_i hk
      obtain ⟨r, h1, h2⟩ := Option.map_eq_some_iff.mp h
      subst h2
      exact .step rfl (by omega) rfl (pcF_is f _ _ h1)
def bdB (rs : List (Int × Int)) : Bool := rs.all fun q => decide (0 ≤ q.1) && decide (q.1 ≤ 40) && decide (0 ≤ q.2) && decide (q.2 ≤ 40)
def okLine (x : Str) : Bool := match runsF x 60 0 with
  | some a => (pcF x 60 0 == some a) && decide (1 ≤ a.length) && decide (a.length ≤ 50) && bdB a && decide (x.length ≤ 5000)
  | none => false
def okSpan (g w : Int) (t : Bool) (way : Int) : Bool := match lawSpan (cs0 g w t) w (2 * w + g) way with
  | some x => okLine x
  | none => true
def okTop (g w : Int) (t : Bool) : Bool := (runsF (lawLine (cs0 g w t) "-") 60 0 == some (cs0 g w t)) && (pcF (lawLine (cs0 g w t) "-") 60 0 == some (cs0 g w t)) && (Txt.replace (lawLine (cs0 g w t) "=") "=" "-" == lawLine (cs0 g w t) "-") && decide ((lawLine (cs0 g w t) "=").length ≤ 5000) && decide ((lawLine (cs0 g w t) "-").length ≤ 5000) && bdB (cs0 g w t)
theorem okTop_all : ∀ g ∈ ([1, 2] : List Int), ∀ w ∈ ([2, 3] : List Int), ∀ t ∈ [false, true], okTop g w t = true := by decide +kernel
theorem okSpan_all : ∀ g ∈ ([1, 2] : List Int), ∀ w ∈ ([2, 3] : List Int), ∀ t ∈ [false, true], ∀ way ∈ ([0, 1, 2, 3, 4, 5] : List Int), okSpan g w t way = true := by decide +kernel
end
section
variable {G : Gl} {S : Scope} {c : Cx S} {H : PHeap} {vs : Vars} {E : PX → PHeap → Vars → Prop} {Q : PV → PHeap → Vars → Prop}
/-- the rows of the law's own table -/
inductive TabL (H : PHeap) : List PV → List (Int × List (Nat × List Str)) → Prop
  | nil : TabL H [] []
  | cons {a : Addr} {ps rs : List PV} {first : Int} {cells rows} : H a = some (.list ps) → RowL H first ps cells → cells ≠ [] → TabL H rs rows → TabL H (.ref a :: rs) ((first, cells) :: rows)
theorem TabL.le {H H' : PHeap} (hl : H.Le H') : ∀ {ps rows}, TabL H ps rows → TabL H' ps rows
  | _, _, .nil => .nil
  | _, _, .cons h1 h2 h3 r => .cons (hl _ _ h1) (h2.le hl) h3 (r.le hl)
theorem TabL.app {H : PHeap} {ps2 cs2} (h2 : TabL H ps2 cs2) : ∀ {ps cs}, TabL H ps cs → TabL H (ps ++ ps2) (cs ++ cs2)
  | _, _, .nil => h2
  | _, _, .cons a b d r => .cons a b d (TabL.app h2 r)
theorem TabP.app {H : PHeap} {ps2 cs2} (h2 : TabP H ps2 cs2) : ∀ {ps cs}, TabP H ps cs → TabP H (ps ++ ps2) (cs ++ cs2)
  | _, _, .nil => h2
  | _, _, .cons a b d r => .cons a b d (TabP.app h2 r)
theorem TabL.len {H : PHeap} : ∀ {ps rows}, TabL H ps rows → ps.length = rows.length
  | _, _, .nil => rfl
  | _, _, .cons _ _ _ r => by simp [r.len]
theorem RowL.rd {H : PHeap} {first : Int} : ∀ {ps cs}, RowL H first ps cs → RdAll H ps (cs.map (cellD first))
  | _, _, .nil => .nil
  | _, _, .cons h1 h2 r => .cons (.list h1 (.cons (.int 0) (.cons (.int _) (.cons (.int _) (.cons (.list h2 rdStrs) .nil))))) r.rd
theorem TabL.rd {H : PHeap} : ∀ {ps rows}, TabL H ps rows → RdAll H ps (rows.map rowD)
  | _, _, .nil => .nil
  | _, _, .cons h1 h2 _ r => .cons (.list h1 h2.rd) r.rd
theorem TabL.get {H : PHeap} {ps rows} (h : TabL H ps rows) : ∀ {i : Nat} {r}, rows[i]? = some r → ∃ a cs, ps[i]? = some (.ref a) ∧ H a = some (.list cs) ∧ RowL H r.1 cs r.2 ∧ r.2 ≠ [] := by
  induction h with
  | nil => intro i r e; simp at e
  | cons h1 h2 h3 _ ih =>
    intro i r e
    cases i with
    | zero => simp at e; subst e; exact ⟨_, _, rfl, h1, h2, h3⟩
    | succ i => simp at e; obtain ⟨a, cs, k1, k2⟩ := ih e; exact ⟨a, cs, by simpa using k1, k2⟩
theorem RowL.first {H : PHeap} {first : Int} {ps cs} (h : RowL H first ps cs) (hn : cs ≠ []) : ∃ a s k r, ps = .ref a :: r ∧ H a = some (.list [.int 0, .int (k : Nat), .int first, .ref s]) := by
  cases h with
  | nil => exact absurd rfl hn
  | cons h1 _ _ => exact ⟨_, _, _, _, rfl, h1⟩
def colD (q : Int × Int) : PyData := .tuple [.int q.1, .int q.2]
theorem ColsAt.rd {H : PHeap} : ∀ {ps cs}, ColsAt H ps cs → RdAll H ps (cs.map colD)
  | _, _, .nil => .nil
  | _, _, .cons h r => .cons (.tup h (.cons (.int _) (.cons (.int _) .nil))) r.rd
theorem Cols.rd {H : PHeap} {l : Addr} {cs : List (Int × Int)} (h : Cols H l cs) : Rd H (.ref l) (.list (cs.map colD)) := by
  obtain ⟨ps, h1, h2⟩ := h
  exact .list h1 h2.rd
theorem dep_strs : ∀ {l : List Str}, PyData.depthAll (l.map .str) ≤ 1
  | [] => by decide
  | x :: r => by
    have := dep_strs (l := r)
    show max (PyData.str x).depth (PyData.depthAll (r.map .str)) ≤ 1
    have h1 : (PyData.str x).depth ≤ 1 := by unfold PyData.depth; first | omega | decide
    omega
end
section
variable {G : Gl} {S : Scope} {c : Cx S} {H : PHeap} {vs : Vars} {E : PX → PHeap → Vars → Prop} {Q : PV → PHeap → Vars → Prop}
/-! what holds between the records -/
structure LA where
  p : Addr
  dp : Addr
  b2 : Addr
  dn : Addr
  rs : Addr
  cs : Addr
  lc : Addr
  tl : Addr
  lw : Addr
  wl : Addr
  w : Addr
  st : Addr
  sl : Addr
  lcol : Addr
  cst : Addr
  cw : Addr
  ch : Addr
def LA.M5 (A : LA) : List Addr := [A.lc, A.tl, A.lw, A.wl, A.st]
def LA.M (A : LA) : List Addr := [A.dp, A.ch, A.lc, A.tl, A.lw, A.wl, A.st]
structure LawSt (H : PHeap) (A : LA) (be : Int) (c0 : List (Int × Int)) (is : List Int) (ccP : List (Int × Int)) (rowsP : List (Int × List (Nat × List Str))) (ccW : List (Int × Int)) (rowsW : List (Int × List (Nat × List Str))) (pos : Int) : Prop where
  nd : A.M5.Nodup
  p : dM A.M H A.p = some (.inst 237 A.dp)
  d : H A.dp = some (.dict (pfs A.b2 A.tl A.dn A.rs A.cs .none (.ref A.lc) (.int be)))
  w : dM A.M H A.w = some (.list [.ref A.lw, .int be, .ref A.wl])
  cst : dM A.M H A.cst = some (.cell (some (.ref A.st)))
  cw : dM A.M H A.cw = some (.cell (some (.ref A.w)))
  ch : H A.ch = some (.cell none)
  sl : dM A.M H A.sl = some (.list (is.map .int))
  col : Cols (dM A.M H) A.lcol c0
  st : H A.st = some (.list [.ref A.sl, .int pos])
  lc : ∃ ps, H A.lc = some (.list ps) ∧ ColsAt (dM A.M H) ps ccP
  lw : ∃ ps, H A.lw = some (.list ps) ∧ ColsAt (dM A.M H) ps ccW
  tl : ∃ ps, H A.tl = some (.list ps) ∧ TabP (dM A.M H) ps rowsP
  wl : ∃ ps, H A.wl = some (.list ps) ∧ TabL (dM A.M H) ps rowsW
section
variable {H' : PHeap} {A : LA} {be : Int} {c0 : List (Int × Int)} {is : List Int} {ccP ccW : List (Int × Int)} {rowsP rowsW : List (Int × List (Nat × List Str))} {posn : Int}
theorem ne_obj {a b : Addr} {o1 o2 : PO} (h1 : H a = some o1) (h2 : H b = some o2) (hn : o1 ≠ o2) : a ≠ b := fun e => by
  rw [e, h2] at h1
  cases h1
  exact hn rfl
theorem LawSt.lists (S : LawSt H A be c0 is ccP rowsP ccW rowsW posn) : ∀ z ∈ A.M, ∃ o, H z = some o ∧ ∀ xs, o ≠ .tup xs := by
  intro z hz
  simp only [LA.M, List.mem_cons, List.not_mem_nil, or_false] at hz
  obtain ⟨p1, h1, _⟩ := S.lc
  obtain ⟨p2, h2, _⟩ := S.tl
  obtain ⟨p3, h3, _⟩ := S.lw
  obtain ⟨p4, h4, _⟩ := S.wl
  rcases hz with rfl | rfl | rfl | rfl | rfl | rfl | rfl
  · exact ⟨_, S.d, fun _ h => nomatch h⟩
  · exact ⟨_, S.ch, fun _ h => nomatch h⟩
  · exact ⟨_, h1, fun _ h => nomatch h⟩
  · exact ⟨_, h2, fun _ h => nomatch h⟩
  · exact ⟨_, h3, fun _ h => nomatch h⟩
  · exact ⟨_, h4, fun _ h => nomatch h⟩
  · exact ⟨_, S.st, fun _ h => nomatch h⟩
theorem LawSt.alloc (S : LawSt H A be c0 is ccP rowsP ccW rowsW posn) : ∀ z ∈ A.M, ∃ o, H z = some o := fun z hz => by
  obtain ⟨o, h, _⟩ := S.lists z hz
  exact ⟨o, h⟩
theorem ColsAt.dM {M : List Addr} (hm : ∀ z ∈ M, ∃ o, H z = some o ∧ ∀ xs, o ≠ .tup xs) : ∀ {ps cs}, ColsAt H ps cs → ColsAt (Mine.dM M H) ps cs
  | _, _, .nil => .nil
  | _, _, .cons h r => .cons (dM_get (fun hz => by obtain ⟨q, hq, hn⟩ := hm _ hz; rw [hq] at h; cases h; exact hn _ rfl) h) (r.dM hm)
theorem LA.ne (hn : A.M5.Nodup) : A.lc ≠ A.tl ∧ A.lc ≠ A.lw ∧ A.lc ≠ A.wl ∧ A.lc ≠ A.st ∧ A.tl ≠ A.lw ∧ A.tl ≠ A.wl ∧ A.tl ≠ A.st ∧ A.lw ≠ A.wl ∧ A.lw ≠ A.st ∧ A.wl ≠ A.st := by
  unfold LA.M5 at hn
  simp only [List.nodup_cons, List.mem_cons, List.not_mem_nil, or_false, not_or, List.nodup_nil, and_true, not_false_eq_true] at hn
  obtain ⟨⟨a1, a2, a3, a4⟩, ⟨b1, b2, b3⟩, ⟨d1, d2⟩, e1⟩ := hn
  exact ⟨a1, a2, a3, a4, b1, b2, b3, d1, d2, e1⟩
/-- the heap grows -/
theorem LawSt.grow (S : LawSt H A be c0 is ccP rowsP ccW rowsW posn) (L : PHeap.Le H H') : LawSt H' A be c0 is ccP rowsP ccW rowsW posn := by
  have D := dM_le (M := A.M) L
  obtain ⟨p1, h1, k1⟩ := S.lc
  obtain ⟨p2, h2, k2⟩ := S.tl
  obtain ⟨p3, h3, k3⟩ := S.lw
  obtain ⟨p4, h4, k4⟩ := S.wl
  exact ⟨S.nd, D _ _ S.p, L _ _ S.d, D _ _ S.w, D _ _ S.cst, D _ _ S.cw, L _ _ S.ch, D _ _ S.sl, S.col.le D, L _ _ S.st, ⟨p1, L _ _ h1, k1.le D⟩, ⟨p3, L _ _ h3, k3.le D⟩, ⟨p2, L _ _ h2, k2.le D⟩, ⟨p4, L _ _ h4, k4.le D⟩⟩
theorem dM_del {M : List Addr} {a : Addr} {X Y : PHeap} (ha : a ∈ M) (h : PHeap.Le (X.del a) Y) : PHeap.Le (dM M X) (dM M Y) := dM_keep fun z o hz e => h _ _ (del_get (fun q => hz (by rw [q]; exact ha)) e)
theorem dM_del2 {M : List Addr} {a b : Addr} {X Y : PHeap} (ha : a ∈ M) (hb : b ∈ M) (h : PHeap.Le ((X.del a).del b) Y) : PHeap.Le (dM M X) (dM M Y) := dM_keep fun z o hz e => h _ _ (dd_get (fun q => hz (by rw [q]; exact ha)) (fun q => hz (by rw [q]; exact hb)) e)
/-- a number drawn -/
theorem LawSt.next (S : LawSt H A be c0 is ccP rowsP ccW rowsW posn) {posn' : Int} : LawSt (H.set A.st (.list [.ref A.sl, .int posn'])) A be c0 is ccP rowsP ccW rowsW posn' := by
  have L : PHeap.Le (H.del A.st) (H.set A.st (.list [.ref A.sl, .int posn'])) := PHeap.Le.set PHeap.del_le (by unfold PHeap.del; simp)
  have D := dM_del (M := A.M) (by simp [LA.M]) L
  obtain ⟨n1, n2, n3, n4, n5, n6, n7, n8, n9, n10⟩ := LA.ne S.nd
  obtain ⟨p1, h1, k1⟩ := S.lc
  obtain ⟨p2, h2, k2⟩ := S.tl
  obtain ⟨p3, h3, k3⟩ := S.lw
  obtain ⟨p4, h4, k4⟩ := S.wl
  exact ⟨S.nd, D _ _ S.p, (PHeap.set_ne (ne_obj S.d S.st (fun h => nomatch h))).trans S.d, D _ _ S.w, D _ _ S.cst, D _ _ S.cw, (PHeap.set_ne (ne_obj S.ch S.st (fun h => nomatch h))).trans S.ch, D _ _ S.sl, S.col.le D, PHeap.set_self, ⟨p1, (PHeap.set_ne n4).trans h1, k1.le D⟩, ⟨p3, (PHeap.set_ne n9).trans h3, k3.le D⟩, ⟨p2, (PHeap.set_ne n7).trans h2, k2.le D⟩, ⟨p4, (PHeap.set_ne n10).trans h4, k4.le D⟩⟩
/-- the law's own record -/
theorem LawSt.recd (S : LawSt H A be c0 is ccP rowsP ccW rowsW posn) {cc : List (Int × Int)} {rows : List (Int × List (Nat × List Str))} (L : PHeap.Le ((H.del A.lw).del A.wl) H') (hc : Cols H' A.lw cc) (hw : ∃ ps, H' A.wl = some (.list ps) ∧ TabL (dM A.M H') ps rows) : LawSt H' A be c0 is ccP rowsP cc rows posn := by
  have D := dM_del2 (M := A.M) (by simp [LA.M]) (by simp [LA.M]) L
  obtain ⟨n1, n2, n3, n4, n5, n6, n7, n8, n9, n10⟩ := LA.ne S.nd
  obtain ⟨p1, h1, k1⟩ := S.lc
  obtain ⟨p2, h2, k2⟩ := S.tl
  obtain ⟨p3, h3, k3⟩ := hc
  obtain ⟨p4, h4, k4⟩ := hw
  have g1 := L _ _ (dd_get n2 n3 h1)
  have g2 := L _ _ (dd_get n5 n6 h2)
  have g5 := L _ _ (dd_get n9.symm n10.symm S.st)
  obtain ⟨o1, w1, _⟩ := S.lw
  obtain ⟨o2, w2, _⟩ := S.wl
  have gd := L _ _ (dd_get (ne_obj S.d w1 (fun h => nomatch h)) (ne_obj S.d w2 (fun h => nomatch h)) S.d)
  have gc := L _ _ (dd_get (ne_obj S.ch w1 (fun h => nomatch h)) (ne_obj S.ch w2 (fun h => nomatch h)) S.ch)
  have hm : ∀ z ∈ A.M, ∃ o, H' z = some o ∧ ∀ xs, o ≠ .tup xs := by
    intro z hz
    simp only [LA.M, List.mem_cons, List.not_mem_nil, or_false] at hz
    rcases hz with rfl | rfl | rfl | rfl | rfl | rfl | rfl
    · exact ⟨_, gd, fun _ h => nomatch h⟩
    · exact ⟨_, gc, fun _ h => nomatch h⟩
    · exact ⟨_, g1, fun _ h => nomatch h⟩
    · exact ⟨_, g2, fun _ h => nomatch h⟩
    · exact ⟨_, h3, fun _ h => nomatch h⟩
    · exact ⟨_, h4, fun _ h => nomatch h⟩
    · exact ⟨_, g5, fun _ h => nomatch h⟩
  exact ⟨S.nd, D _ _ S.p, gd, D _ _ S.w, D _ _ S.cst, D _ _ S.cw, gc, D _ _ S.sl, S.col.le D, g5, ⟨p1, g1, k1.le D⟩, ⟨p3, h3, k3.dM hm⟩, ⟨p2, g2, k2.le D⟩, ⟨p4, h4, k4⟩⟩
/-- the parser's row -/
theorem LawSt.told (S : LawSt H A be c0 is ccP rowsP ccW rowsW posn) {cc : List (Int × Int)} {rows : List (Int × List (Nat × List Str))} (L : PHeap.Le ((H.del A.lc).del A.tl) H') (hc : Cols H' A.lc cc) (hw : ∃ ps, H' A.tl = some (.list ps) ∧ TabP (dM A.M H') ps rows) : LawSt H' A be c0 is cc rows ccW rowsW posn := by
  have D := dM_del2 (M := A.M) (by simp [LA.M]) (by simp [LA.M]) L
  obtain ⟨n1, n2, n3, n4, n5, n6, n7, n8, n9, n10⟩ := LA.ne S.nd
  obtain ⟨p1, h1, k1⟩ := S.lw
  obtain ⟨p2, h2, k2⟩ := S.wl
  obtain ⟨p3, h3, k3⟩ := hc
  obtain ⟨p4, h4, k4⟩ := hw
  have g1 := L _ _ (dd_get n2.symm n5.symm h1)
  have g2 := L _ _ (dd_get n3.symm n6.symm h2)
  have g5 := L _ _ (dd_get n4.symm n7.symm S.st)
  obtain ⟨o1, w1, _⟩ := S.lc
  obtain ⟨o2, w2, _⟩ := S.tl
  have gd := L _ _ (dd_get (ne_obj S.d w1 (fun h => nomatch h)) (ne_obj S.d w2 (fun h => nomatch h)) S.d)
  have gc := L _ _ (dd_get (ne_obj S.ch w1 (fun h => nomatch h)) (ne_obj S.ch w2 (fun h => nomatch h)) S.ch)
  have hm : ∀ z ∈ A.M, ∃ o, H' z = some o ∧ ∀ xs, o ≠ .tup xs := by
    intro z hz
    simp only [LA.M, List.mem_cons, List.not_mem_nil, or_false] at hz
    rcases hz with rfl | rfl | rfl | rfl | rfl | rfl | rfl
    · exact ⟨_, gd, fun _ h => nomatch h⟩
    · exact ⟨_, gc, fun _ h => nomatch h⟩
    · exact ⟨_, h3, fun _ h => nomatch h⟩
    · exact ⟨_, h4, fun _ h => nomatch h⟩
    · exact ⟨_, g1, fun _ h => nomatch h⟩
    · exact ⟨_, g2, fun _ h => nomatch h⟩
    · exact ⟨_, g5, fun _ h => nomatch h⟩
  exact ⟨S.nd, D _ _ S.p, gd, D _ _ S.w, D _ _ S.cst, D _ _ S.cw, gc, D _ _ S.sl, S.col.le D, g5, ⟨p3, h3, k3.dM hm⟩, ⟨p1, g1, k1.le D⟩, ⟨p4, h4, k4⟩, ⟨p2, g2, k2.le D⟩⟩
end
/-! sizes of the texts -/
theorem digs01 : (digs 0).length ≤ 1 ∧ (digs 1).length ≤ 1 := by decide +kernel
theorem textBase_le {cs : List (Int × Int)} {k : Int} (hk : (digs k).length ≤ 1) (hs : ∀ q ∈ cs, q.1 ≤ 12) : (textBase cs k).length ≤ 12 + 2 * cs.length := by
  have : ∀ (cs' : List (Int × Int)) (text : Str) (n : Nat), (∀ q ∈ cs', q.1 ≤ 12) → text.length ≤ 12 + n → (cs'.foldl (textStep k) text).length ≤ 12 + n + 2 * cs'.length := by
    intro cs'
    induction cs' with
    | nil => intro text n _ h; simpa using h
    | cons q r ih =>
      intro text n hq h
      have h1 : (textStep k text q).length ≤ 12 + (n + 2) := by
        unfold textStep
        rw [len_app, len_app, len_app]
        have h2 := mul1_le (x := " ") (n := q.1 - text.length) rfl
        have h3 := hq q (.head _)
        have h4 : ("p" : Str).length = 1 := rfl
        omega
      have := ih (textStep k text q) (n + 2) (fun z hz => hq z (.tail _ hz)) h1
      rw [List.foldl_cons, List.length_cons]
      omega
  have := this cs "" 0 hs (by show 0 ≤ _; omega)
  exact this
theorem lawText_le {cs : List (Int × Int)} {f z kind k : Int} (hk : (digs k).length ≤ 1) (hs : ∀ q ∈ cs, q.1 ≤ 12) (hn : cs.length ≤ 3) (hf : 0 ≤ f ∧ f ≤ 3) (hz : 0 ≤ z) : ((lawText cs f z kind k).length : Int) ≤ max 40 z + 4 := by
  have hb := textBase_le (cs := cs) hk hs
  unfold lawText
  dsimp only
  generalize textBase cs k = X at hb ⊢
  split
  · have h1 := mul1_le (x := " ") (n := f) rfl
    have h2 := len_ssl X (some f) none
    rw [len_app]
    omega
  · split
    · have h2 := len_ssl X none (some f)
      have h3 := len_ssl X (some (f + 1)) none
      have h4 : ("x" : Str).length = 1 := rfl
      rw [len_app, len_app]
      omega
    · split
      · have h1 := mul1_le (x := " ") (n := z - X.length) rfl
        have h4 : ("zzzz" : Str).length = 4 := rfl
        rw [len_app, len_app]
        omega
      · split
        · have h4 : ("" : Str).length = 0 := rfl
          rw [h4]
          omega
        · omega
theorem ssl_len_from {x : Str} {b : Int} (hb : 0 ≤ b) : ((ssl x (some b) none).length : Int) ≤ max 0 (x.length - b) := by
  show ((List.toArray (lsl x.cps.toList (some b) none)).size : Int) ≤ _
  rw [List.size_toArray]
  have hx : x.length = x.cps.toList.length := by simp [Str.length]
  unfold lsl
  simp only [kms_lo, kms_hi]
  rw [if_neg (by omega), List.length_take, List.length_drop]
  omega
theorem reach_le2 {b m e N : Int} {xs : List Str} (hb : 0 ≤ b ∧ b ≤ N) (hm : 0 ≤ m ∧ m ≤ N) (hx : ∀ x ∈ xs, (x.length : Int) ≤ N) : m ≤ reach m (byd b e xs) ∧ reach m (byd b e xs) ≤ N := by
  refine ⟨reach_ge.1, ?_⟩
  have h1 : ∀ y ∈ byd b e xs, y ≤ N := by
    induction xs with
    | nil => intro y hy; cases hy
    | cons x r ih =>
      intro y hy
      have ih' := ih fun z hz => hx z (.tail _ hz)
      unfold byd at hy
      split at hy
      · exact ih' y hy
      · rcases List.mem_cons.mp hy with e | hy
        · have := hx x (.head _)
          have h2 := len_rstrip (ssl x (some b) none)
          have h3 := ssl_len_from (x := x) (b := b) hb.1
          omega
        · exact ih' y hy
  rcases List.mem_append.mp (reach_mem (l := byd b e xs) (m := m)) with h | h
  · exact h1 _ h
  · rw [List.mem_singleton.mp h]; exact hm.2
theorem cutB_len {xs : List Str} {b e : Int} : (cutB xs b e).length = xs.length := by
  unfold cutB
  split <;> simp
theorem cellsOf_ok {xs : List Str} : ∀ {cs : List (Int × Int)} {ks : List Nat}, ks.length = cs.length → (cellsOf xs cs ks).length = cs.length ∧ ∀ q ∈ cellsOf xs cs ks, q.2.length = xs.length
  | [], [], _ => ⟨rfl, fun _ h => by cases h⟩
  | [], _ :: _, h => by simp at h
  | _ :: _, [], h => by simp at h
  | (b, e) :: r, k :: ks, h => by
    have ih := cellsOf_ok (xs := xs) (cs := r) (ks := ks) (by simpa using h)
    refine ⟨by simp [cellsOf, ih.1], fun q hq => ?_⟩
    rcases List.mem_cons.mp hq with rfl | hq
    · exact cutB_len
    · exact ih.2 q hq
theorem recC_row {cinit ini : List (Int × Int)} {cz m b N first : Int} {xs : List Str} {cc : List (Int × Int)} {cells : List (Nat × List Str)} (h : recC cinit cz m ini b m xs first = .row cc cells) (hb : 0 ≤ b ∧ b ≤ N) (hm : 0 ≤ m ∧ m ≤ N) (hx : ∀ x ∈ xs, (x.length : Int) ≤ N) :
    ∃ m', cc = cinit ++ [(cz, m')] ∧ m ≤ m' ∧ m' ≤ N ∧ cells ≠ [] ∧ cells.length = ini.length + 1 ∧ ∀ q ∈ cells, q.2.length = xs.length := by
  unfold recC at h
  split at h
  · cases h
  · split at h
    · cases h
    · rename_i ks hks
      injection h with h1 h2
      have hr := reach_le2 (b := b) (m := m) (e := m) (N := N) (xs := xs) hb hm hx
      have hl := align_len hks
      have hwl : (wideCs ini b m m xs).length = ini.length + 1 := by unfold wideCs; split <;> simp
      have hc := cellsOf_ok (xs := xs) (cs := wideCs ini b m m xs) (ks := ks) hl
      refine ⟨_, h1.symm, hr.1, hr.2, ?_, ?_, ?_⟩
      · intro e
        rw [← h2] at e
        have := hc.1
        rw [e, hwl] at this
        simp at this
      · rw [← h2, hc.1, hwl]
      · rw [← h2]; exact hc.2
end
section
variable {G : Gl} {S : Scope} {c : Cx S} {H : PHeap} {vs : Vars} {E : PX → PHeap → Vars → Prop} {Q : PV → PHeap → Vars → Prop}
theorem t_bandv {S : Scope} {c : Cx S} {H : PHeap} {vs : Vars} {Q : PV → PHeap → Vars → Prop} {E : PX → PHeap → Vars → Prop} {e1 e2 : Expr} {rest : List Expr} {pos : Pos} (h : T G c PV.R (eval e1 c.env) H vs (fun v H1 vs1 => TruP G c v H1 vs1 (fun b H2 vs2 => (b = true → T G c PV.R (eval (.BoolOp .And (e2 :: rest) pos) c.env) H2 vs2 Q E) ∧ (b = false → Q v H2 vs2)) E) E) :
    T G c PV.R (eval (.BoolOp .And (e1 :: e2 :: rest) pos) c.env) H vs Q E := fun s hs => by
  refine BoolOp_and (wpAny_mono (h s hs) (fun va s1 ⟨a, H1, vs1, ha, hs1, h1⟩ => ?_) fun _ _ x => x)
  refine wpAny_mono (h1 va ha s1 hs1) (fun b s2 ⟨b', H2, vs2, hb, hs2, h2⟩ => ?_) fun _ _ x => x
  cases hb
  cases b with
  | true => exact h2.1 rfl s2 hs2
  | false => exact ⟨a, H2, vs2, ha, hs2, h2.2 rfl⟩
theorem t_band1 {S : Scope} {c : Cx S} {H : PHeap} {vs : Vars} {Q : PV → PHeap → Vars → Prop} {E : PX → PHeap → Vars → Prop} {e : Expr} {pos : Pos} (h : T G c PV.R (eval e c.env) H vs Q E) : T G c PV.R (eval (.BoolOp .And [e] pos) c.env) H vs Q E := fun s hs => BoolOp_one (h s hs)
theorem TabP.take {H : PHeap} : ∀ (n : Nat) {ps rows}, TabP H ps rows → TabP H (ps.take n) (rows.take n)
  | 0, _, _, _ => by simp; exact .nil
  | _ + 1, _, _, .nil => .nil
  | n + 1, _, _, .cons a b d r => .cons a b d (r.take n)
theorem TabP.drop {H : PHeap} : ∀ (n : Nat) {ps rows}, TabP H ps rows → TabP H (ps.drop n) (rows.drop n)
  | 0, _, _, h => h
  | _ + 1, _, _, .nil => .nil
  | n + 1, _, _, .cons _ _ _ r => r.drop n
theorem TabL.take {H : PHeap} : ∀ (n : Nat) {ps rows}, TabL H ps rows → TabL H (ps.take n) (rows.take n)
  | 0, _, _, _ => by simp; exact .nil
  | _ + 1, _, _, .nil => .nil
  | n + 1, _, _, .cons a b d r => .cons a b d (r.take n)
theorem TabL.drop {H : PHeap} : ∀ (n : Nat) {ps rows}, TabL H ps rows → TabL H (ps.drop n) (rows.drop n)
  | 0, _, _, h => h
  | _ + 1, _, _, .nil => .nil
  | n + 1, _, _, .cons _ _ _ r => r.drop n
theorem RowsOk.take {rows : List (Int × List (Nat × List Str))} (h : RowsOk rows) (n : Nat) : RowsOk (rows.take n) := ⟨Nat.le_trans (by simp; omega) h.1, fun r hr => h.2 r (List.mem_of_mem_take hr)⟩
theorem RowsOk.drop {rows : List (Int × List (Nat × List Str))} (h : RowsOk rows) (n : Nat) : RowsOk (rows.drop n) := ⟨Nat.le_trans (by simp) h.1, fun r hr => h.2 r (List.mem_of_mem_drop hr)⟩
theorem depthAll_le {n : Nat} : ∀ {ds : List PyData}, (∀ d ∈ ds, d.depth ≤ n) → PyData.depthAll ds ≤ n
  | [], _ => Nat.zero_le _
  | d :: r, h => by
    have h1 := h d (.head _)
    have h2 := depthAll_le (ds := r) fun z hz => h z (.tail _ hz)
    show max d.depth (PyData.depthAll r) ≤ n
    omega
theorem dep_list {ds : List PyData} : (PyData.list ds).depth ≤ PyData.depthAll ds + 1 := by
  unfold PyData.depth
  omega
theorem dep_cell {first : Int} {q : Nat × List Str} : (cellD first q).depth ≤ 4 := by
  unfold cellD
  have h1 := dep_list (ds := [.int 0, .int (q.1 : Nat), .int first, .list (q.2.map .str)])
  have h2 := dep_strs (l := q.2)
  have h3 := dep_list (ds := q.2.map .str)
  have h4 : PyData.depthAll [.int 0, .int (q.1 : Nat), .int first, .list (q.2.map .str)] ≤ 2 := by
    refine depthAll_le fun d hd => ?_
    simp only [List.mem_cons, List.not_mem_nil, or_false] at hd
    rcases hd with rfl | rfl | rfl | rfl
    · unfold PyData.depth; omega
    · unfold PyData.depth; omega
    · unfold PyData.depth; omega
    · omega
  omega
theorem dep_tab {rows : List (Int × List (Nat × List Str))} : (tabD rows).depth ≤ 6 := by
  unfold tabD
  have h1 := dep_list (ds := rows.map rowD)
  have h2 : PyData.depthAll (rows.map rowD) ≤ 5 := depthAll_le fun d hd => by
    obtain ⟨r, _, rfl⟩ := List.mem_map.mp hd
    unfold rowD
    have h3 := dep_list (ds := r.2.map (cellD r.1))
    have h4 : PyData.depthAll (r.2.map (cellD r.1)) ≤ 4 := depthAll_le fun d hd => by
      obtain ⟨q, _, rfl⟩ := List.mem_map.mp hd
      exact dep_cell
    omega
  omega
theorem dep_cols {cs : List (Int × Int)} : (PyData.list (cs.map colD)).depth ≤ 4 := by
  have h1 := dep_list (ds := cs.map colD)
  have h2 : PyData.depthAll (cs.map colD) ≤ 3 := depthAll_le fun d hd => by
    obtain ⟨q, _, rfl⟩ := List.mem_map.mp hd
    unfold colD PyData.depth PyData.depthAll PyData.depthAll PyData.depthAll PyData.depth
    omega
  omega
theorem dep_ints {is : List Int} : (PyData.list (is.map .int)).depth ≤ 3 := by
  have h1 := dep_list (ds := is.map .int)
  have h2 : PyData.depthAll (is.map .int) ≤ 2 := depthAll_le fun d hd => by
    obtain ⟨q, _, rfl⟩ := List.mem_map.mp hd
    unfold PyData.depth
    omega
  omega
theorem rdInts {H : PHeap} : ∀ {l : List Int}, RdAll H (l.map .int) (l.map .int)
  | [] => .nil
  | x :: r => .cons (.int x) rdInts
/-- which rows are behind the head -/
def behind (rows : List (Int × List (Nat × List Str))) (v : Int) (k : Nat) : Bool := match rows[k]? with
  | some r => decide (r.1 > v)
  | none => false
theorem behind_head {rows : List (Int × List (Nat × List Str))} {v : Int} : ∀ (rs : List (Int × List (Nat × List Str))) (i : Nat), rows.drop i = rs → ((List.range' i rs.length).filter (behind rows v)).head? = fIdx v rs i
  | [], i, _ => rfl
  | r :: rs, i, h => by
    have hri : rows[i]? = some r := by
      have := congrArg (fun l => l[0]?) h
      simpa [List.getElem?_drop] using this
    have hdr2 : rows.drop (i + 1) = rs := by
      have := congrArg (fun l => l.drop 1) h
      simpa [List.drop_drop, Nat.add_comm] using this
    rw [List.length_cons, List.range'_succ, List.filter_cons]
    unfold behind fIdx
    rw [hri]
    by_cases hg : r.1 > v
    · simp [hg]
    · simp only [hg, decide_false, if_false]
      exact behind_head rs (i + 1) hdr2
theorem cLine_big : 9100 ≤ cLine := by decide
end
section
variable {G : Gl} {S : Scope} {c : Cx S} {H : PHeap} {vs : Vars} {E : PX → PHeap → Vars → Prop} {Q : PV → PHeap → Vars → Prop}
def lawStmts : List Stmt := dBody (topAt 27)
theorem law_end (hG : G.Ok) (hF : GF G) {c' : Cx (dScope (topAt 27))} (hc' : c'.Ok) (hd' : c'.hd = none) (ho : c'.own = true) (hdp : c'.dp < 340) (hun : c'.un < 5000) {A : LA} (hcl : c'.cl = ([("head", A.ch), ("world", A.cw), ("state", A.cst)] : List (Str × Addr)))
    {be : Int} {c0 cc : List (Int × Int)} {is : List Int} {rows : List (Int × List (Nat × List Str))} {pos : Int} (S : LawSt H A be c0 is cc rows cc rows pos) (hz : RowsOk rows) (hccl : cc.length ≤ 60) (his : is.length ≤ 100) (hp0 : 0 ≤ pos) (hp1 : pos < 1000) {vs1 : Vars} (hv : Sub ([("parser", .ref A.p)] : Vars) vs1) :
    T G c' PF.R (execs (lawStmts.drop 13) c'.env) H vs1 (fun f _ _ => f = .ret (.bool true)) E := by
  refine t_vars hv ?_
  have hsl : A.sl ≠ A.st := fun e => by
    have := S.sl
    unfold dM at this
    rw [if_pos (by rw [e]; simp [LA.M])] at this
    cases this
  refine t_cons ?_
  with_reducible refine' t_assignc (ca := A.ch) ?a1 ?a2 ?a3 ?a4 ?_
  case a1 => exact hc'
  case a2 => k_dflt (exact rfl)
  case a3 => k_dflt (exact rfl)
  case a4 => rw [hcl]; rfl
  repeat walk_at "w"
  refine t_cell (ca := A.cst) (p := .ref A.st) hc' rfl (by rw [hcl]; rfl) (dM_sub _ _ S.cst) ?_
  repeat walk_at "w"
  refine next_spec (xs := is) hG hF hc' (by omega) S.st (dM_sub _ _ S.sl) hsl hp0 (by omega) his (by decide) fun v v0 v1 => ?_
  have S1 := S.next (posn' := pos + 1)
  generalize H.set A.st (.list [.ref A.sl, .int (pos + 1)]) = H1 at S1 ⊢
  refine ⟨none, S1.ch, ?_⟩
  obtain ⟨H2, hH2⟩ : ∃ H2, H2 = H1.set A.ch (.cell (some (.int v))) := ⟨_, rfl⟩
  rw [← hH2]
  have p2 : H2 A.p = some (.inst 237 A.dp) := by
    rw [hH2]
    refine (PHeap.set_ne (fun e => ?_)).trans (dM_sub _ _ S1.p)
    have := S1.p
    rw [e] at this
    unfold dM at this
    rw [if_pos (by simp [LA.M])] at this
    cases this
  have d2 : H2 A.dp = some (.dict (pfs A.b2 A.tl A.dn A.rs A.cs .none (.ref A.lc) (.int be))) := by
    rw [hH2]
    exact (PHeap.set_ne (ne_obj S1.d S1.ch (fun h => nomatch h))).trans S1.d
  have ch2 : H2 A.ch = some (.cell (some (.int v))) := by rw [hH2]; exact PHeap.set_self
  refine seq_next ?_
  refine t_cons ?_
  with_reducible refine' t_setattr ?sa ?_
  case sa => k_dflt (exact rfl)
  refine t_cell (ca := A.ch) (p := .int v) hc' rfl (by rw [hcl]; rfl) ch2 ?_
  repeat walk_at "w"
  refine s_inst hG (hF.a237 "head_body_sep" (by decide)).2 p2 d2 (by simp [pfs]) ?_
  obtain ⟨H3, hH3⟩ : ∃ H3, H3 = H2.set A.dp (.dict (putV "head_body_sep" (.int v) (pfs A.b2 A.tl A.dn A.rs A.cs .none (.ref A.lc) (.int be)))) := ⟨_, rfl⟩
  rw [← hH3]
  have N3 : ∀ z o, z ≠ A.dp → z ≠ A.ch → H1 z = some o → H3 z = some o := fun z o h1 h2 h => by
    rw [hH3, hH2]
    exact (PHeap.set_ne h1).trans ((PHeap.set_ne h2).trans h)
  have K3 : PHeap.Le (dM A.M H1) H3 := fun z o h => by
    have hz : z ∉ A.M := fun hm => by unfold dM at h; rw [if_pos hm] at h; cases h
    exact N3 z o (fun e => hz (by rw [e]; simp [LA.M])) (fun e => hz (by rw [e]; simp [LA.M])) (dM_sub _ _ h)
  have d3 : H3 A.dp = some (.dict (pfs A.b2 A.tl A.dn A.rs A.cs (.int v) (.ref A.lc) (.int be))) := by rw [hH3]; exact PHeap.set_self
  have ch3 : H3 A.ch = some (.cell (some (.int v))) := by
    rw [hH3]
    exact (PHeap.set_ne (ne_obj ch2 d2 (fun h => nomatch h))).trans ch2
  obtain ⟨lws, w1, w2⟩ := S1.lw
  obtain ⟨lcs, c1, c2⟩ := S1.lc
  obtain ⟨tps, t1, t2⟩ := S1.tl
  obtain ⟨wps, l1, l2⟩ := S1.wl
  have w3 : H3 A.lw = some (.list lws) := N3 _ _ (ne_obj w1 S1.d (fun h => nomatch h)) (ne_obj w1 S1.ch (fun h => nomatch h)) w1
  have c3 : H3 A.lc = some (.list lcs) := N3 _ _ (ne_obj c1 S1.d (fun h => nomatch h)) (ne_obj c1 S1.ch (fun h => nomatch h)) c1
  have t3 : H3 A.tl = some (.list tps) := N3 _ _ (ne_obj t1 S1.d (fun h => nomatch h)) (ne_obj t1 S1.ch (fun h => nomatch h)) t1
  have l3 : H3 A.wl = some (.list wps) := N3 _ _ (ne_obj l1 S1.d (fun h => nomatch h)) (ne_obj l1 S1.ch (fun h => nomatch h)) l1
  have wat := w2.le K3
  have cat := c2.le K3
  have tat := t2.le K3
  have lat := l2.le K3
  have p3 := K3 _ _ S1.p
  have cw3 := K3 _ _ S1.cw
  have ww3 := K3 _ _ S1.w
  have hlatl := lat.len
  have hrl := hz.1
  clear N3 K3 hH3 hH2 ch2 d2 p2
  repeat walk_at "w"
  refine t_cell (ca := A.ch) (p := .int v) hc' rfl (by rw [hcl]; rfl) ch3 ?_
  repeat walk_at "w"
  have rest : ∀ (Hk : PHeap) (ah : Addr) (ks : List Nat) (vs1 : Vars), PHeap.Le H3 Hk → Hk ah = some (.list (ks.map fun k => .int (k : Nat))) → (∀ k ∈ ks, k < 200) → ks.length ≤ 200 → (ks.head?.getD 0) = partOf rows v → Sub ([("parser", .ref A.p), ("ahead", .ref ah)] : Vars) vs1 → T G c' PF.R (execs (lawStmts.drop 16) c'.env) Hk vs1 (fun f _ _ => f = .ret (.bool true)) E := by
    intro Hk ah ks vs1 L hah hks hkl hhd hv
    refine t_vars hv ?_
    generalize hpt : partOf rows v = pt at *
    have hptl : pt ≤ 200 := by
      rw [← hhd]
      cases ks with
      | nil => simp
      | cons a r => have := hks a (.head _); simp; omega
    have last : ∀ (Hm : PHeap), PHeap.Le H3 Hm → T G c' PF.R (exec (stm lawStmts 17) c'.env) Hm (putV "part" (.int (pt : Nat)) [("parser", .ref A.p), ("ahead", .ref ah)]) (Seq G c' (lawStmts.drop 18) (fun f _ _ => f = .ret (.bool true)) E) E := by
      intro Hm Lm
      refine' t_assign hc' ?a2 ?a3 ?_
      case a2 => k_dflt (exact rfl)
      case a3 => k_dflt (exact rfl)
      repeat walk_at "w"
      refine m_inst hG (hF.m237 ("structure_from_cells", 234) (by decide)).1 (Lm _ _ p3) (Lm _ _ d3) rfl ?_
      refine ⟨(hF.m237 ("structure_from_cells", 234) (by decide)).2, ?_⟩
      repeat walk_at "w"
      refine struct_spec (ccs := cc) (head := v) (rows := rows) (tps := tps) hG hF hc' (by omega) hd' (Lm _ _ p3) (Lm _ _ d3) rfl rfl rfl ⟨lcs, Lm _ _ c3, cat.le Lm⟩ hccl (Lm _ _ t3) (tat.le Lm) hz fun t cs t1' t2' H5 L5 k1 k2 k3 k4 => ?_
      have M5 := PHeap.Le.trans Lm L5
      rw [hpt] at k3 k4
      have wat5 := wat.le M5
      refine seq_next ?_
      refine t_cons ?_
      refine t_ret ?_
      refine t_bandv ?_
      repeat walk_at "w"
      refine sub_tup k1 (by decide) (by decide) rfl ?_
      with_reducible refine' t_listcomp (cl := ([] : List (Str × Addr))) hc' hd' ?f1 ?f2 ?f3 ?f4 ?f5 ?f6 ?_
      case f1 => exact closureFor_of rfl
      case f2 => decide
      case f3 => rfl
      case f4 => decide
      case f5 => decide
      case f6 => exact fun _ => rfl
      repeat walk_at "w"
      refine t_cell (ca := A.cw) (p := .ref A.w) hc' rfl (by rw [hcl]; rfl) (M5 _ _ cw3) ?_
      repeat walk_at "w"
      refine sub_list (M5 _ _ ww3) (by decide) (by decide) rfl ?_
      refine iter_list (M5 _ _ w3) ⟨by simp; rw [wat5.len, sizeLine_eq]; omega, M5 _ _ w3, fun kx hkx g1 g2 g3 g4 => ?_⟩
      rw [zip_val wat5.len]
      refine comp_map (it := fun z : PV × (Int × Int) => z.1) (f := fun z => .int (z.2.2 - z.2.1)) (tst := fun _ => true) (Hk := H5) hkx rfl (M5 _ _ w3) _ [] [] (fun P z vs1 hz => ⟨rfl, rfl, fun _ => ?_⟩) ?_
      · obtain ⟨r, hr1, hr2⟩ := wat5.zip z hz
        rw [hr1]
        refine t_only ?_
        repeat walk_at "w"
        refine sub_tup hr2 (by decide) (by decide) rfl ?_
        repeat walk_at "w"
        refine sub_tup hr2 (by decide) (by decide) rfl ?_
        repeat walk_at "w"
        exact ⟨rfl, rfl⟩
      · intro d6 hd6
        rw [List.nil_append, List.filter_eq_self.mpr (fun _ _ => rfl), zip_dd (f := fun q : Int × Int => PV.int (q.2 - q.1)) wat5.len]
        have N6 := le_new (o := .list (cc.map fun q : Int × Int => PV.int (q.2 - q.1))) (PHeap.Le.refl H5) hd6
        have hmp : (cc.map fun q : Int × Int => PV.int (q.2 - q.1)) = (cc.map fun q : Int × Int => q.2 - q.1).map PV.int := by rw [List.map_map]; rfl
        have hc6 : ∀ {a : Addr} {X : PHeap}, X a = some (.list (cc.map fun q : Int × Int => PV.int (q.2 - q.1))) → Rd X (.ref a) (.list ((cc.map fun q : Int × Int => q.2 - q.1).map PyData.int)) := fun h => by
          rw [hmp] at h
          exact .list h rdInts
        have hdi := dep_ints (is := cc.map fun q : Int × Int => q.2 - q.1)
        have hcb := cLine_big
        refine c_same (hc6 (N6 _ _ k2)) (hc6 PHeap.set_self) (by omega) ?_
        repeat walk_at "w"
        refine ⟨fun _ => ?_, fun q => (nomatch q)⟩
        refine t_bandv ?_
        repeat walk_at "w"
        refine sub_tup (N6 _ _ k1) (by decide) (by decide) rfl ?_
        repeat walk_at "w"
        refine seen_spec (rows := rows.take pt) hG hF hc' (by omega) hd' (N6 _ _ k3) ((tat.take pt).le (PHeap.Le.trans M5 N6)) (hz.take pt) fun r7 H7 L7 R7 => ?_
        have M7 := PHeap.Le.trans (PHeap.Le.trans M5 N6) L7
        repeat walk_at "w"
        refine t_cell (ca := A.cw) (p := .ref A.w) hc' rfl (by rw [hcl]; rfl) (M7 _ _ cw3) ?_
        repeat walk_at "w"
        refine sub_list (M7 _ _ ww3) (by decide) (by decide) rfl ?_
        repeat walk_at "w"
        refine slc_list (lo := none) (hi := some (pt : Int)) (M7 _ _ l3) rfl rfl (by rw [hlatl, sizeLine_eq]; omega) fun d8 hd8 => ?_
        rw [lsl_to]
        have N8 := le_new (o := .list (wps.take pt)) (PHeap.Le.refl H7) hd8
        have hdt := dep_tab (rows := rows.take pt)
        refine c_same (R7.le N8 _) (.list PHeap.set_self (((lat.take pt).le (PHeap.Le.trans M7 N8)).rd)) (by omega) ?_
        repeat walk_at "w"
        refine ⟨fun _ => ?_, fun q => (nomatch q)⟩
        refine t_band1 ?_
        have M8 := PHeap.Le.trans M7 N8
        repeat walk_at "w"
        refine sub_tup (N8 _ _ (L7 _ _ (N6 _ _ k1))) (by decide) (by decide) rfl ?_
        repeat walk_at "w"
        refine seen_spec (rows := rows.drop pt) hG hF hc' (by omega) hd' (N8 _ _ (L7 _ _ (N6 _ _ k4))) ((tat.drop pt).le M8) (hz.drop pt) fun r9 H9 L9 R9 => ?_
        have M9 := PHeap.Le.trans M8 L9
        repeat walk_at "w"
        refine t_cell (ca := A.cw) (p := .ref A.w) hc' rfl (by rw [hcl]; rfl) (M9 _ _ cw3) ?_
        repeat walk_at "w"
        refine sub_list (M9 _ _ ww3) (by decide) (by decide) rfl ?_
        repeat walk_at "w"
        refine slc_list (lo := some (pt : Int)) (hi := none) (M9 _ _ l3) rfl rfl (by rw [hlatl, sizeLine_eq]; omega) fun d10 hd10 => ?_
        rw [lsl_from]
        have N10 := le_new (o := .list (wps.drop pt)) (PHeap.Le.refl H9) hd10
        have hdt2 := dep_tab (rows := rows.drop pt)
        refine c_same (R9.le N10 _) (.list PHeap.set_self (((lat.drop pt).le (PHeap.Le.trans M9 N10)).rd)) (by omega) ?_
        repeat walk_at "w"
        rfl
    refine t_cons ?_
    with_reducible refine' t_assign ?a1 ?a2 ?a3 ?_
    case a1 => exact hc'
    case a2 => k_dflt (exact rfl)
    case a3 => k_dflt (exact rfl)
    refine t_ifexp ?_
    repeat walk_at "w"
    refine ⟨Nat.zero_le _, fun d1 hd1 => ?_⟩
    have N1 := le_new (o := .list []) (PHeap.Le.refl Hk) hd1
    refine c_nempty (N1 _ _ hah) PHeap.set_self (by omega) ?_
    repeat walk_at "w"
    cases ks with
    | nil =>
      refine ⟨fun q => (nomatch q), fun _ => ?_⟩
      have hp0' : pt = 0 := by rw [← hhd]; rfl
      refine t_int ?_
      refine seq_next ?_
      refine t_cons ?_
      have := last _ (PHeap.Le.trans L N1)
      rw [hp0'] at this
      exact this
    | cons a r =>
      have ha := hks a (.head _)
      have hpa : pt = a := by rw [← hhd]; rfl
      refine ⟨fun _ => ?_, fun q => (nomatch q)⟩
      repeat walk_at "w"
      refine sub_list (N1 _ _ hah) (by decide) (by decide) rfl ?_
      refine seq_next ?_
      refine t_cons ?_
      have := last _ (PHeap.Le.trans L N1)
      rw [hpa] at this
      exact this
  refine ⟨fun hq => ?_, fun hq => ?_⟩
  · have hv0 : v > 0 := of_decide_eq_true hq
    with_reducible refine' t_listcomp (cl := ([("world", A.cw), ("head", A.ch)] : List (Str × Addr))) hc' hd' ?f1 ?f2 ?f3 ?f4 ?f5 ?f6 ?_
    case f1 => exact closureFor_of (by rw [show c'.env.cells = ([("head", A.ch), ("world", A.cw), ("state", A.cst)] : List (Str × Addr)) from hcl]; rfl)
    case f2 => decide
    case f3 => rfl
    case f4 => decide
    case f5 => decide
    case f6 => exact fun _ => rfl
    repeat walk_at "w"
    refine t_cell (ca := A.cw) (p := .ref A.w) hc' rfl (by rw [hcl]; rfl) cw3 ?_
    repeat walk_at "w"
    refine sub_list ww3 (by decide) (by decide) rfl ?_
    repeat walk_at "w"
    refine k_len l3 (by rw [hlatl, sizeLine_eq]; omega) ?_
    repeat walk_at "w"
    refine k_range fun rg t1' t2' t3' hrg => ?_
    rw [hlatl]
    refine iter_range PHeap.set_self (by omega) (by omega) ⟨by simp; rw [sizeLine_eq]; omega, trivial, fun k1 hk1 g1 g2 g3 g4 => ?_⟩
    rw [show ((rows.length : Int)).toNat = rows.length by omega]
    obtain ⟨H4, hH4⟩ : ∃ H4, H4 = H3.set rg (.raw (rangeObj (rows.length : Int) t1' t2' t3')) := ⟨_, rfl⟩
    rw [← hH4]
    have L4 : PHeap.Le H3 H4 := by rw [hH4]; exact le_new (PHeap.Le.refl _) hrg
    clear hH4
    refine comp_map (it := fun i : Nat => .int (i : Int)) (f := fun i : Nat => .int (i : Int)) (tst := behind rows v) (Hk := H4) hk1 rfl trivial (List.range rows.length) [] [] (fun P i vs1 hi => ?_) ?_
    · have hil : i < rows.length := List.mem_range.mp hi
      obtain ⟨r, hri⟩ : ∃ r, rows[i]? = some r := ⟨rows[i], by simp [hil]⟩
      obtain ⟨a, cl, q1, q2, q3, q4⟩ := lat.get hri
      obtain ⟨b, s, k, rr, rfl, q5⟩ := q3.first q4
      have hk1w : (k1.wp P).Ok := Cx.wp_ok hk1
      refine t_only ?_
      repeat walk_at "w"
      refine t_cell (ca := A.cw) (p := .ref A.w) hk1w rfl (by show k1.cl.lookup _ = _; rw [g4]; rfl) (L4 _ _ cw3) ?_
      repeat walk_at "w"
      refine sub_list (L4 _ _ ww3) (by decide) (by decide) rfl ?_
      repeat walk_at "w"
      refine sub_list (L4 _ _ l3) (by omega) (by omega) (by rw [show ((i : Int)).toNat = i by omega]; exact q1) ?_
      repeat walk_at "w"
      refine sub_list (L4 _ _ q2) (by decide) (by decide) rfl ?_
      repeat walk_at "w"
      refine sub_list (L4 _ _ q5) (by decide) (by decide) rfl ?_
      repeat walk_at "w"
      refine t_cell (ca := A.ch) (p := .int v) hk1w rfl (by show k1.cl.lookup _ = _; rw [g4]; rfl) (L4 _ _ ch3) ?_
      repeat walk_at "w"
      refine ⟨rfl, ?_, fun _ => ?_⟩
      · unfold behind
        rw [hri]
      · repeat walk_at "w"
        exact ⟨rfl, rfl⟩
    · intro ah hah
      rw [List.nil_append]
      have hbh := behind_head (rows := rows) (v := v) rows 0 rfl
      rw [← List.range_eq_range'] at hbh
      refine seq_next ?_
      refine rest _ ah ((List.range rows.length).filter (behind rows v)) _ (le_new L4 hah) PHeap.set_self (fun k hk => ?_) ?_ ?_ (sub_cons rfl (sub_cons rfl sub_nil))
      · have := List.mem_range.mp (List.mem_filter.mp hk).1
        omega
      · have := List.length_filter_le (behind rows v) (List.range rows.length)
        rw [List.length_range] at this
        omega
      · rw [hbh]
        unfold partOf
        rw [if_neg (by omega)]
  · have hv0 : v = 0 := by have := of_decide_eq_false hq; omega
    repeat walk_at "w"
    refine ⟨Nat.zero_le _, fun ah hah => ?_⟩
    refine seq_next ?_
    refine rest _ ah [] _ (le_new (PHeap.Le.refl _) hah) PHeap.set_self (fun _ h => nomatch h) (by simp) ?_ (sub_cons rfl (sub_cons rfl sub_nil))
    unfold partOf
    rw [if_pos hv0]
    rfl
end
section
variable {G : Gl} {S : Scope} {c : Cx S} {H : PHeap} {vs : Vars} {E : PX → PHeap → Vars → Prop} {Q : PV → PHeap → Vars → Prop}
section
variable {H' : PHeap} {A : LA} {be : Int} {c0 : List (Int × Int)} {is : List Int} {ccP ccW : List (Int × Int)} {rowsP rowsW : List (Int × List (Nat × List Str))} {posn : Int}
theorem LawSt.slst (S : LawSt H A be c0 is ccP rowsP ccW rowsW posn) : A.sl ≠ A.st := fun e => by
  have := S.sl
  unfold dM at this
  rw [if_pos (by rw [e]; simp [LA.M])] at this
  cases this
theorem LawSt.cW (S : LawSt H A be c0 is ccP rowsP ccW rowsW posn) : Cols H A.lw ccW := by
  obtain ⟨ps, h, k⟩ := S.lw
  exact ⟨ps, h, k.le dM_sub⟩
theorem LawSt.cP (S : LawSt H A be c0 is ccP rowsP ccW rowsW posn) : Cols H A.lc ccP := by
  obtain ⟨ps, h, k⟩ := S.lc
  exact ⟨ps, h, k.le dM_sub⟩
end
abbrev lawBody : List Stmt := forB (stm lawStmts 12)
theorem law_chk (hG : G.Ok) (hF : GF G) {c' : Cx (dScope (topAt 27))} (hc' : c'.Ok) (hd' : c'.hd = none) (hdp : c'.dp < 340) (hun : c'.un < 5000) {A : LA} (hcl : c'.cl = ([("head", A.ch), ("world", A.cw), ("state", A.cst)] : List (Str × Addr)))
    {be : Int} {c0 cc : List (Int × Int)} {is : List Int} {rows : List (Int × List (Nat × List Str))} {pos : Int} {dv : PV} {QF : PF → PHeap → Vars → Prop} (S : LawSt H A be c0 is cc rows cc rows pos) (hz : RowsOk rows) (hccl : cc.length ≤ 60) {vs1 : Vars} (hv : Sub ([("parser", .ref A.p), ("columns", .ref A.lcol), ("due", dv)] : Vars) vs1)
    (hN : dv = .none → ∀ Hd vs3, LawSt Hd A be c0 is cc rows cc rows pos → Sub ([("parser", .ref A.p), ("columns", .ref A.lcol)] : Vars) vs3 → QF .next Hd vs3) (hR : (∃ t, dv = .ref t) → ∀ Hd vs3, QF (.ret (.bool true)) Hd vs3) (hdv : dv = .none ∨ ∃ t, dv = .ref t) :
    T G c' PF.R (execs (lawBody.drop 6) c'.env) H vs1 QF E := by
  refine t_vars hv ?_
  have hcb := cLine_big
  refine t_cons ?_
  repeat walk_at "w"
  refine g_inst hG (hF.a237 "columns" (by decide)).1 (dM_sub _ _ S.p) S.d rfl rfl ?_
  repeat walk_at "w"
  refine t_cell (ca := A.cw) (p := .ref A.w) hc' rfl (by rw [hcl]; rfl) (dM_sub _ _ S.cw) ?_
  repeat walk_at "w"
  refine sub_list (dM_sub _ _ S.w) (by decide) (by decide) rfl ?_
  have hdc := dep_cols (cs := cc)
  refine c_nsame S.cP.rd S.cW.rd (by omega) ?_
  repeat walk_at "w"
  refine ⟨fun q => (nomatch q), fun _ => ?_⟩
  repeat walk_at "w"
  refine g_inst hG (hF.a237 "table" (by decide)).1 (dM_sub _ _ S.p) S.d rfl rfl ?_
  repeat walk_at "w"
  obtain ⟨tps, t1, t2⟩ := S.tl
  refine seen_spec (rows := rows) hG hF hc' (by omega) hd' t1 (t2.le dM_sub) hz fun r1 H1 L1 R1 => ?_
  have S1 := S.grow L1
  obtain ⟨wps, l1, l2⟩ := S1.wl
  repeat walk_at "w"
  refine t_cell (ca := A.cw) (p := .ref A.w) hc' rfl (by rw [hcl]; rfl) (dM_sub _ _ S1.cw) ?_
  repeat walk_at "w"
  refine sub_list (dM_sub _ _ S1.w) (by decide) (by decide) rfl ?_
  have hdt := dep_tab (rows := rows)
  refine c_nsame R1 (.list l1 (l2.le dM_sub).rd) (by omega) ?_
  repeat walk_at "w"
  refine ⟨fun q => (nomatch q), fun _ => ?_⟩
  repeat walk_at "w"
  refine ⟨fun q => (nomatch q), fun _ => ?_⟩
  repeat walk_at "w"
  rcases hdv with rfl | ⟨t, rfl⟩
  · refine ⟨fun q => (nomatch q), fun _ => ?_⟩
    repeat walk_at "w"
    exact hN rfl H1 _ S1 (sub_cons rfl (sub_cons rfl sub_nil))
  · refine ⟨fun _ => ?_, fun q => (nomatch q)⟩
    repeat walk_at "w"
    exact hR ⟨t, rfl⟩ H1 _

/-- the texts of a record -/
theorem law_texts (hG : G.Ok) (hF : GF G) {c' : Cx (dScope (topAt 27))} (hc' : c'.Ok) (hd' : c'.hd = none) (hdp : c'.dp < 340) {A : LA} (hcl : c'.cl = ([("head", A.ch), ("world", A.cw), ("state", A.cst)] : List (Str × Addr)))
    {be cz m : Int} {c0 cinit : List (Int × Int)} {is : List Int} {rows : List (Int × List (Nat × List Str))} {pos N : Int} {QF : PF → PHeap → Vars → Prop} (S : LawSt H A be c0 is (cinit ++ [(cz, m)]) rows (cinit ++ [(cz, m)]) rows pos) (hbd : Bd (cinit ++ [(cz, m)])) (hst : ∀ q ∈ cinit ++ [(cz, m)], q.1 ≤ 12) (hn : cinit.length ≤ 2) {a0 f : Int} (h0 : (cinit ++ [(cz, m)])[0]? = some (a0, f)) (hf : 0 ≤ f ∧ f ≤ 3) (his : is.length ≤ 100) (hp0 : 0 ≤ pos) (hp1 : pos < 1000) (hN : max 40 m + 4 ≤ N) {k : Nat} {vs1 : Vars} (hv : Sub ([("parser", .ref A.p), ("columns", .ref A.lcol), ("k", .int k)] : Vars) vs1)
    (h : ∀ (xs : List Str) d H' pos' vs2, LawSt H' A be c0 is (cinit ++ [(cz, m)]) rows (cinit ++ [(cz, m)]) rows pos' → pos ≤ pos' → pos' ≤ pos + 3 → xs.length ≤ 2 → (∀ x ∈ xs, (x.length : Int) ≤ N) → H' d = some (.list (xs.map .str)) → d ∉ A.M → Sub ([("parser", .ref A.p), ("columns", .ref A.lcol), ("k", .int k), ("texts", .ref d)] : Vars) vs2 → QF .next H' vs2) :
    T G c' PF.R (exec (stm lawBody 0) c'.env) H vs1 QF E := by
  refine t_vars hv ?_
  refine' t_assigncomp (cl := ([("world", A.cw), ("state", A.cst)] : List (Str × Addr))) hc' hd' ?f0 ?f9 ?f1 ?f2 ?f3 ?f4 ?f5 ?f6 ?_
  case f0 => k_dflt (exact rfl)
  case f9 => k_dflt (exact rfl)
  case f1 => exact closureFor_of (by rw [show c'.env.cells = ([("head", A.ch), ("world", A.cw), ("state", A.cst)] : List (Str × Addr)) from hcl]; rfl)
  case f2 => decide
  case f3 => rfl
  case f4 => decide
  case f5 => decide
  case f6 => exact fun _ => rfl
  repeat walk_at "w"
  refine t_cell (ca := A.cst) (p := .ref A.st) hc' rfl (by rw [hcl]; rfl) (dM_sub _ _ S.cst) ?_
  repeat walk_at "w"
  refine next_spec (xs := is) hG hF hc' (by omega) S.st (dM_sub _ _ S.sl) S.slst hp0 (by omega) his (by decide) fun v v0 v1 => ?_
  have S1 := S.next (posn' := pos + 1)
  generalize H.set A.st (.list [.ref A.sl, .int (pos + 1)]) = H1 at S1 ⊢
  repeat walk_at "w"
  refine k_range fun rg t1' t2' t3' hrg => ?_
  have S2 := S1.grow (le_new (o := .raw (rangeObj v t1' t2' t3')) (PHeap.Le.refl H1) hrg)
  refine iter_range PHeap.set_self (by omega) (by omega) ⟨by simp; rw [sizeLine_eq]; omega, trivial, fun k1 hk1 g1 g2 g3 g4 => ?_⟩
  obtain ⟨n, hvn⟩ : ∃ n : Nat, v.toNat = n := ⟨_, rfl⟩
  have hn2 : n ≤ 2 := by omega
  rw [hvn, List.range_eq_range']
  generalize H1.set rg (.raw (rangeObj v t1' t2' t3')) = H2 at S2 ⊢
  have loop : ∀ K : List PV → PHeap → Prop, (∀ (xs : List Str) Hk pos', LawSt Hk A be c0 is (cinit ++ [(cz, m)]) rows (cinit ++ [(cz, m)]) rows pos' → pos ≤ pos' → pos' ≤ pos + 3 → xs.length ≤ 2 → (∀ x ∈ xs, (x.length : Int) ≤ N) → K (xs.map .str) Hk) →
      ∀ (r i : Nat) (xs : List Str) (Hk : PHeap) (vs2 : Vars) (pos' : Int), i + r = n → xs.length = i → (∀ x ∈ xs, (x.length : Int) ≤ N) → LawSt Hk A be c0 is (cinit ++ [(cz, m)]) rows (cinit ++ [(cz, m)]) rows pos' → pos' = pos + 1 + i →
      CompP G k1 (fun _ => True) (cT (stm lawBody 0)) [] (cE (stm lawBody 0)) K ((List.range' i r).map fun (i : Nat) => .val (.int (i : Int))) (xs.map .str) Hk vs2 := by
    intro K hK r
    induction r with
    | zero =>
      intro i xs Hk vs2 pos' hi hx hxl Sk hp
      exact hK xs Hk pos' Sk (by omega) (by omega) (by omega) hxl
    | succ r ih =>
      intro i xs Hk vs2 pos' hi hx hxl Sk hp P vv hpv
      refine a_name (Cx.wp_ok hk1) rfl hpv ?_
      refine ⟨fun _ => ?_, fun q => (nomatch q)⟩
      refine t_only ?_
      have hk1w : (k1.wp P).Ok := Cx.wp_ok hk1
      have hd1 : (k1.wp P).hd = none := g1.trans hd'
      show T G (k1.wp P) PV.R (eval (Expr.Call _ _ _ _) (k1.wp P).env) _ _ _ _
      repeat walk_at "w"
      refine t_cell (ca := A.cw) (p := .ref A.w) hk1w rfl (by show k1.cl.lookup _ = _; rw [g4]; rfl) (dM_sub _ _ Sk.cw) ?_
      repeat walk_at "w"
      refine sub_list (dM_sub _ _ Sk.w) (by decide) (by decide) rfl ?_
      repeat walk_at "w"
      refine t_cell (ca := A.cst) (p := .ref A.st) hk1w rfl (by show k1.cl.lookup _ = _; rw [g4]; rfl) (dM_sub _ _ Sk.cst) ?_
      repeat walk_at "w"
      refine next_spec (xs := is) hG hF hk1w (by show k1.dp < 900; omega) Sk.st (dM_sub _ _ Sk.sl) Sk.slst (by omega) (by omega) his (by decide) fun kd kd0 kd1 => ?_
      have Sn := Sk.next (posn' := pos' + 1)
      generalize Hk.set A.st (.list [.ref A.sl, .int (pos' + 1)]) = Hn at Sn ⊢
      repeat walk_at "w"
      refine text_spec (cs := cinit ++ [(cz, m)]) (a := a0) (f := f) (az := cz) (z := m) hG hF hk1w (by show k1.dp < 700; omega) hd1 Sn.cW hbd (by simp; omega) h0 (by simp) (by omega) (by omega) ?_
      refine ⟨Hn, PHeap.Le.refl _, trivial, ?_⟩
      have hdg : (digs (i : Int)).length ≤ 1 := by
        have : i = 0 ∨ i = 1 := by omega
        rcases this with rfl | rfl
        · exact digs01.1
        · exact digs01.2
      have hmz := (hbd (cz, m) (by simp)).2.2.1
      have htl := lawText_le (cs := cinit ++ [(cz, m)]) (f := f) (z := m) (kind := kd) (k := (i : Int)) hdg hst (by simp; omega) hf hmz
      rw [show xs.map PV.str ++ [PV.str (lawText (cinit ++ [(cz, m)]) f m kd i)] = (xs ++ [lawText (cinit ++ [(cz, m)]) f m kd i]).map PV.str by simp]
      refine ih (i + 1) (xs ++ [lawText (cinit ++ [(cz, m)]) f m kd i]) Hn _ (pos' + 1) (by omega) (by simp; omega) (fun x hx2 => ?_) Sn (by omega)
      rcases List.mem_append.mp hx2 with hx2 | hx2
      · exact hxl x hx2
      · rw [List.mem_singleton.mp hx2]; omega
  refine loop _ (fun xs Hk pos' Sk q1 q2 q3 q4 d hdn => ?_) n 0 [] _ _ (pos + 1) (by omega) rfl (fun _ h => by cases h) S2 (by omega)
  exact h xs d _ pos' _ (Sk.grow (le_new (PHeap.Le.refl _) hdn)) q1 q2 q3 q4 PHeap.set_self (fun hm => by obtain ⟨o, ho⟩ := Sk.alloc d hm; rw [hdn] at ho; cases ho) (sub_cons rfl (sub_cons rfl (sub_cons rfl (sub_cons rfl sub_nil))))
end
section
variable {G : Gl} {S : Scope} {c : Cx S} {H : PHeap} {vs : Vars} {E : PX → PHeap → Vars → Prop} {Q : PV → PHeap → Vars → Prop}
theorem bdB_is {rs : List (Int × Int)} (h : bdB rs = true) : ∀ q ∈ rs, 0 ≤ q.1 ∧ q.1 ≤ 40 ∧ 0 ≤ q.2 ∧ q.2 ≤ 40 := fun q hq => by
  have := List.all_eq_true.mp h q hq
  simp only [Bool.and_eq_true, decide_eq_true_eq] at this
  exact ⟨this.1.1.1, this.1.1.2, this.1.2, this.2⟩
theorem okLine_is {x : Str} (h : okLine x = true) : ∃ init lb le, Runs x 0 (init ++ [(lb, le)]) ∧ PC x 0 (init ++ [(lb, le)]) ∧ (∀ q ∈ init ++ [(lb, le)], 0 ≤ q.1 ∧ q.1 ≤ 40 ∧ 0 ≤ q.2 ∧ q.2 ≤ 40) ∧ init.length ≤ 49 ∧ x.length ≤ 5000 := by
  unfold okLine at h
  split at h
  · rename_i a ha
    simp only [Bool.and_eq_true, decide_eq_true_eq] at h
    obtain ⟨⟨⟨⟨h1, h2⟩, h3⟩, h4⟩, h5⟩ := h
    have hp : pcF x 60 0 = some a := by simpa using h1
    have hne : a ≠ [] := fun e => by rw [e] at h2; simp at h2
    have hdl := List.dropLast_concat_getLast hne
    refine ⟨a.dropLast, (a.getLast hne).1, (a.getLast hne).2, ?_, ?_, ?_, ?_, h5⟩
    · rw [hdl]; exact runsF_is _ _ _ ha
    · rw [hdl]; exact pcF_is _ _ _ hp
    · rw [hdl]; exact bdB_is h4
    · rw [List.length_dropLast]; omega
  · cases h
def SpOk (H : PHeap) (sp : PV) (span : Option (List (Int × Int) × Int × Int × Int)) : Prop :=
  (sp = .none ∧ span = none) ∨ ∃ t x off init lb le, sp = .ref t ∧ H t = some (.tup [.str x, .int off]) ∧ x.length ≤ 5000 ∧ 0 ≤ off ∧ off < 100000 ∧ Runs x 0 (init ++ [(lb, le)]) ∧ PC x 0 (init ++ [(lb, le)]) ∧ (∀ q ∈ init ++ [(lb, le)], 0 ≤ q.1 ∧ q.1 ≤ 40 ∧ 0 ≤ q.2 ∧ q.2 ≤ 40) ∧ init.length ≤ 49 ∧ span = some (init, lb, le, off)
theorem recF_row {cinit : List (Int × Int)} {cz m be N first : Int} {xs : List Str} {sp : PV} {span : Option (List (Int × Int) × Int × Int × Int)} {cc : List (Int × Int)} {cells : List (Nat × List Str)} (h : recF cinit cz m be xs first span = .row cc cells) (hsp : SpOk H sp span) (hN : 40 ≤ N) (hcz : 0 ≤ cz ∧ cz ≤ N) (hm : 0 ≤ m ∧ m ≤ N) (hx : ∀ x ∈ xs, (x.length : Int) ≤ N) (hci : cinit.length ≤ 49) :
    ∃ m', cc = cinit ++ [(cz, m')] ∧ m ≤ m' ∧ m' ≤ N ∧ cells ≠ [] ∧ cells.length ≤ 50 ∧ ∀ q ∈ cells, q.2.length = xs.length := by
  rcases hsp with ⟨_, rfl⟩ | ⟨t, x, off, init, lb, le, _, _, _, _, _, _, _, hb, hil, rfl⟩
  · unfold recF at h
    dsimp only at h
    split at h
    · cases h
    · obtain ⟨m', a, b, d, e, f, g⟩ := recC_row h hcz hm hx
      exact ⟨m', a, b, d, e, by omega, g⟩
  · unfold recF at h
    dsimp only at h
    split at h
    · have hl := hb (lb, le) (by simp)
      obtain ⟨m', a, b, d, e, f, g⟩ := recC_row h (N := N) ⟨hl.1, by have := hl.2.1; omega⟩ hm hx
      exact ⟨m', a, b, d, e, by omega, g⟩
    · cases h
theorem recC_ref {cinit ini : List (Int × Int)} {cz m b first off : Int} {xs : List Str} {msg : Str} {cc : List (Int × Int)} (h : recC cinit cz m ini b m xs first = .ref msg off cc) : cc.length = cinit.length + 1 := by
  unfold recC at h
  split at h
  · injection h with _ _ h; rw [← h]; simp
  · split at h
    · injection h with _ _ h; rw [← h]; simp [wideCc]
    · cases h
theorem recF_ref {cinit : List (Int × Int)} {cz m be first off : Int} {xs : List Str} {msg : Str} {cc : List (Int × Int)} {span : Option (List (Int × Int) × Int × Int × Int)} (h : recF cinit cz m be xs first span = .ref msg off cc) : cc.length = cinit.length + 1 := by
  cases span with
  | none =>
    unfold recF at h
    dsimp only at h
    split at h
    · cases h
    · exact recC_ref h
  | some q =>
    obtain ⟨init, lb, le, o⟩ := q
    unfold recF at h
    dsimp only at h
    split at h
    · exact recC_ref h
    · injection h with _ _ h; rw [← h]; simp
theorem pfs_none {b2 tl dn rs cs : Addr} {hb co be : PV} : ∀ q ∈ me237, (pfs b2 tl dn rs cs hb co be).lookup q.1 = none := by
  intro q hq
  simp only [me237, List.mem_cons, List.not_mem_nil, or_false] at hq
  rcases hq with rfl | rfl | rfl | rfl | rfl | rfl
  all_goals rfl
theorem law_go (hG : G.Ok) (hF : GF G) {c' : Cx (dScope (topAt 27))} (hc' : c'.Ok) (hd' : c'.hd = none) (hdp : c'.dp < 340) (hun : c'.un < 5000) {A : LA} (hcl : c'.cl = ([("head", A.ch), ("world", A.cw), ("state", A.cst)] : List (Str × Addr)))
    {be cz m first : Int} {c0 cinit : List (Int × Int)} {is : List Int} {rows : List (Int × List (Nat × List Str))} {pos N : Int} {xs : List Str} {d : Addr} {sp : PV} {span : Option (List (Int × Int) × Int × Int × Int)} {QF : PF → PHeap → Vars → Prop} (S : LawSt H A be c0 is (cinit ++ [(cz, m)]) rows (cinit ++ [(cz, m)]) rows pos) (hbd : Bd (cinit ++ [(cz, m)])) (hn : cinit.length ≤ 2) (hz : RowsOk rows) (hz2 : rows.length ≤ 50) (hcz : cz ≤ 40) (hN40 : 40 ≤ N) (hmN : m ≤ N) (hxl : xs.length ≤ 2) (hxN : ∀ x ∈ xs, (x.length : Int) ≤ N) (hN5 : N ≤ 500) (hd : H d = some (.list (xs.map .str))) (hdM : d ∉ A.M) (hf0 : 0 ≤ first) (hf1 : first < 100)
    (hsp : SpOk H sp span) {vs1 : Vars} (hv : Sub ([("parser", .ref A.p), ("columns", .ref A.lcol), ("texts", .ref d), ("first", .int first), ("span", sp)] : Vars) vs1)
    (hR : ∀ H' vs2, QF (.ret (.bool true)) H' vs2)
    (h : ∀ H' m' rows' vs2, LawSt H' A be c0 is (cinit ++ [(cz, m')]) rows' (cinit ++ [(cz, m')]) rows' pos → m ≤ m' → m' ≤ N → (rows' = rows ∨ ∃ cells, rows' = rows ++ [(first, cells)] ∧ cells.length ≤ 50 ∧ ∀ q ∈ cells, q.2.length ≤ 2) → Sub ([("parser", .ref A.p), ("columns", .ref A.lcol)] : Vars) vs2 → QF .next H' vs2) :
    T G c' PF.R (execs (lawBody.drop 4) c'.env) H vs1 QF E := by
  refine t_vars hv ?_
  have hx5 : ∀ x ∈ xs, x.length ≤ 5000 := fun x hx => by have := hxN x hx; omega
  have hmb := hbd (cz, m) (by simp)
  obtain ⟨n1, n2, n3, n4, n5, n6, n7, n8, n9, n10⟩ := LA.ne S.nd
  have hcb := cLine_big
  obtain ⟨wps, wl1, wl2⟩ := S.wl
  have hwl := wl2.len
  have spW : (sp = .none ∧ span = none) ∨ ∃ t x off init lb le, sp = .ref t ∧ H t = some (.tup [.str x, .int off]) ∧ x.length ≤ 5000 ∧ 0 ≤ off ∧ off < 100000 ∧ Runs x 0 (init ++ [(lb, le)]) ∧ Bd (init ++ [(lb, le)]) ∧ init.length ≤ 50 ∧ span = some (init, lb, le, off) := by
    rcases hsp with h | ⟨t, x, off, init, lb, le, a1, a2, a3, a4, a5, a6, a7, a8, a9, a10⟩
    · exact .inl h
    · exact .inr ⟨t, x, off, init, lb, le, a1, a2, a3, a4, a5, a6, fun q hq => by have := a8 q hq; omega, by omega, a10⟩
  have spP : ∀ {H' : PHeap}, PHeap.Le (dM A.M H) H' → (sp = .none ∧ span = none) ∨ ∃ t x off init lb le, sp = .ref t ∧ H' t = some (.tup [.str x, .int off]) ∧ x.length ≤ 5000 ∧ 0 ≤ off ∧ off < 100000 ∧ PC x 0 (init ++ [(lb, le)]) ∧ Bd (init ++ [(lb, le)]) ∧ init.length ≤ 50 ∧ span = some (init, lb, le, off) := by
    intro H' L
    rcases hsp with h | ⟨t, x, off, init, lb, le, a1, a2, a3, a4, a5, a6, a7, a8, a9, a10⟩
    · exact .inl h
    · refine .inr ⟨t, x, off, init, lb, le, a1, L _ _ (dM_get (fun hm => ?_) a2), a3, a4, a5, a7, fun q hq => by have := a8 q hq; omega, by omega, a10⟩
      obtain ⟨o, ho, hno⟩ := S.lists t hm
      rw [a2] at ho
      cases ho
      exact hno _ rfl
  refine t_cons ?_
  repeat walk_at "w"
  refine t_cell (ca := A.cw) (p := .ref A.w) hc' rfl (by rw [hcl]; rfl) (dM_sub _ _ S.cw) ?_
  repeat walk_at "w"
  refine record_spec (cinit := cinit) (cz := cz) (m := m) (be := be) (xs := xs) (span := span) (wps := wps) hG hF hc' (by omega) (by omega) hd' (dM_sub _ _ S.w) S.cW (by omega) hbd hd (by omega) hx5 wl1 (by omega) n8 A.M S.alloc (by simp [LA.M]) hf0 (by omega) spW ?_ ?_ ?_
  · intro hr H' L
    have S1 := S.grow L
    have D1 : PHeap.Le (dM A.M H) H' := PHeap.Le.trans dM_sub L
    obtain ⟨tps, tl1, tl2⟩ := S1.tl
    have htl := tl2.len
    repeat walk_at "w"
    refine told_spec (cinit := cinit) (cz := cz) (m := m) (be := be) (xs := xs) (span := span) (tps := tps) hG hF hc' (by omega) hd' (dM_sub _ _ S1.p) S1.d rfl rfl rfl pfs_none S1.cP (by omega) hbd (D1 _ _ (dM_get hdM hd)) (by omega) hx5 A.M S1.alloc (by simp [LA.M]) tl1 (by omega) n1 hf0 (by omega) (spP D1) ?_ ?_ ?_
    · intro _ H2 L2
      have S2 := S1.grow L2
      repeat walk_at "w"
      refine c_nsame .none .none (by show c'.un + 0 < _; omega) ?_
      repeat walk_at "w"
      refine ⟨fun q => (nomatch q), fun _ => ?_⟩
      refine t_nil ?_
      refine seq_next ?_
      refine law_chk (dv := .none) hG hF hc' hd' hdp hun hcl S2 hz (by simp; omega) (sub_cons rfl (sub_cons rfl (sub_cons rfl sub_nil))) (fun _ Hd vs3 Sd hvd => h Hd m rows vs3 Sd (Int.le_refl _) hmN (.inl rfl) hvd) (fun _ Hd vs3 => hR Hd vs3) (.inl rfl)
    · intro msg off cc hr2
      rw [hr] at hr2; cases hr2
    · intro cc cells hr2
      rw [hr] at hr2; cases hr2
  · intro msg off cc hr t H' L j1 j2 j3
    have hcl60 := recF_ref hr
    have D1 : PHeap.Le (dM A.M H) (dM A.M H') := dM_del (by simp [LA.M]) L
    have S1 := S.recd (PHeap.Le.trans PHeap.del_le L) j1 ⟨wps, L _ _ (del_get n8.symm wl1), wl2.le D1⟩
    have D1' : PHeap.Le (dM A.M H) H' := PHeap.Le.trans D1 dM_sub
    obtain ⟨tps, tl1, tl2⟩ := S1.tl
    have htl := tl2.len
    repeat walk_at "w"
    refine told_spec (cinit := cinit) (cz := cz) (m := m) (be := be) (xs := xs) (span := span) (tps := tps) hG hF hc' (by omega) hd' (dM_sub _ _ S1.p) S1.d rfl rfl rfl pfs_none S1.cP (by omega) hbd (D1' _ _ (dM_get hdM hd)) (by omega) hx5 A.M S1.alloc (by simp [LA.M]) tl1 (by omega) n1 hf0 (by omega) (spP D1') ?_ ?_ ?_
    · intro hr2
      rw [hr] at hr2; cases hr2
    · intro msg' off' cc' hr2 t' H2 L2 i1 i2
      rw [hr] at hr2
      injection hr2 with e1 e2 e3
      subst e1 e2 e3
      have S2 := S1.told (PHeap.Le.trans PHeap.del_le L2) i1 ⟨tps, L2 _ _ (del_get n1.symm tl1), tl2.le (dM_del (by simp [LA.M]) L2)⟩
      obtain ⟨lcs, lc1, _⟩ := S1.lc
      have ht2 := L2 _ _ (del_get (ne_obj j2 lc1 (fun h => nomatch h)) j2)
      repeat walk_at "w"
      refine c_nsame (d := .tuple [.str msg, .int off]) (.tup i2 (.cons (.str _) (.cons (.int _) .nil))) (.tup ht2 (.cons (.str _) (.cons (.int _) .nil))) (by show c'.un + 1 < _; omega) ?_
      repeat walk_at "w"
      refine ⟨fun q => (nomatch q), fun _ => ?_⟩
      refine t_nil ?_
      refine seq_next ?_
      refine law_chk (dv := .ref t) hG hF hc' hd' hdp hun hcl S2 hz (by omega) (sub_cons rfl (sub_cons rfl (sub_cons rfl sub_nil))) (fun q => nomatch q) (fun _ Hd vs3 => hR Hd vs3) (.inr ⟨t, rfl⟩)
    · intro cc' cells hr2
      rw [hr] at hr2; cases hr2
  · intro cc cells hr rl ps H' L j1 j2 j3 j4 j5
    obtain ⟨m', hcc', hmm, hmN', hne, hcl50, hcx⟩ := recF_row hr hsp hN40 ⟨hmb.1, by omega⟩ ⟨hmb.2.2.1, hmN⟩ hxN (by omega)
    have D1 : PHeap.Le (dM A.M H) (dM A.M H') := dM_del2 (by simp [LA.M]) (by simp [LA.M]) L
    have hrlM : rl ∉ A.M := fun hm => by obtain ⟨o, ho⟩ := S.alloc rl hm; rw [j4] at ho; cases ho
    have S1 := S.recd L j1 ⟨wps ++ [.ref rl], j2, TabL.app (.cons (first := first) (dM_get hrlM j3) j5 hne .nil) (wl2.le D1)⟩
    have D1' : PHeap.Le (dM A.M H) H' := PHeap.Le.trans D1 dM_sub
    obtain ⟨tps, tl1, tl2⟩ := S1.tl
    have htl := tl2.len
    repeat walk_at "w"
    refine told_spec (cinit := cinit) (cz := cz) (m := m) (be := be) (xs := xs) (span := span) (tps := tps) hG hF hc' (by omega) hd' (dM_sub _ _ S1.p) S1.d rfl rfl rfl pfs_none S1.cP (by omega) hbd (D1' _ _ (dM_get hdM hd)) (by omega) hx5 A.M S1.alloc (by simp [LA.M]) tl1 (by omega) n1 hf0 (by omega) (spP D1') ?_ ?_ ?_
    · intro hr2
      rw [hr] at hr2; cases hr2
    · intro msg' off' cc' hr2
      rw [hr] at hr2; cases hr2
    · intro cc2 cells2 hr2 rl2 ps2 H2 L2 i1 i2 i3 i4 i5
      rw [hr] at hr2
      injection hr2 with e1 e2
      subst e1 e2
      have hrlM2 : rl2 ∉ A.M := fun hm => by obtain ⟨o, ho⟩ := S1.alloc rl2 hm; rw [i4] at ho; cases ho
      have S2 := S1.told L2 i1 ⟨tps ++ [.ref rl2], i2, TabP.app (.cons (first := first) (dM_get hrlM2 i3) i5 hne .nil) (tl2.le (dM_del2 (by simp [LA.M]) (by simp [LA.M]) L2))⟩
      have hz' : RowsOk (rows ++ [(first, cells)]) := by
        refine ⟨by simp; omega, fun r hr => ?_⟩
        rcases List.mem_append.mp hr with hr | hr
        · exact hz.2 r hr
        · rw [List.mem_singleton.mp hr]
          exact ⟨by show cells.length ≤ 100; omega, fun q hq => by have := hcx q hq; omega⟩
      rw [hcc'] at S2
      repeat walk_at "w"
      refine c_nsame .none .none (by show c'.un + 0 < _; omega) ?_
      repeat walk_at "w"
      refine ⟨fun q => (nomatch q), fun _ => ?_⟩
      refine t_nil ?_
      refine seq_next ?_
      refine law_chk (dv := .none) hG hF hc' hd' hdp hun hcl S2 hz' (by simp; omega) (sub_cons rfl (sub_cons rfl (sub_cons rfl sub_nil))) (fun _ Hd vs3 Sd hvd => h Hd m' _ vs3 Sd hmm hmN' (.inr ⟨cells, rfl, hcl50, fun q hq => by have := hcx q hq; omega⟩) hvd) (fun _ Hd vs3 => hR Hd vs3) (.inl rfl)
end
section
variable {G : Gl} {S : Scope} {c : Cx S} {H : PHeap} {vs : Vars} {E : PX → PHeap → Vars → Prop} {Q : PV → PHeap → Vars → Prop}
/-- what is known of the columns drawn -/
structure C0 (c0 cinit : List (Int × Int)) (cz be a0 f a1 s : Int) : Prop where
  eq : c0 = cinit ++ [(cz, be)]
  n : cinit.length ≤ 2
  z : c0[0]? = some (a0, f)
  o : c0[1]? = some (a1, s)
  bd : ∀ q ∈ c0, 0 ≤ q.1 ∧ q.1 ≤ 12 ∧ 0 ≤ q.2 ∧ q.2 ≤ 12
  fb : 1 ≤ f ∧ f ≤ 3
  sp : ∀ way : Int, 0 ≤ way → way < 6 → ∀ x, lawSpan c0 f s way = some x → okLine x = true
theorem law_turn (hG : G.Ok) (hF : GF G) {c' : Cx (dScope (topAt 27))} (hc' : c'.Ok) (hd' : c'.hd = none) (hdp : c'.dp < 340) (hun : c'.un < 5000) {A : LA} (hcl : c'.cl = ([("head", A.ch), ("world", A.cw), ("state", A.cst)] : List (Str × Addr)))
    {be cz m a0 f a1 s : Int} {c0 cinit : List (Int × Int)} {is : List Int} {rows : List (Int × List (Nat × List Str))} {pos N : Int} {k : Nat} {QF : PF → PHeap → Vars → Prop} (h0 : C0 c0 cinit cz be a0 f a1 s) (S : LawSt H A be c0 is (cinit ++ [(cz, m)]) rows (cinit ++ [(cz, m)]) rows pos) (hz : RowsOk rows) (hz2 : rows.length ≤ 50) (hm0 : 0 ≤ m) (hmN : max 40 m + 4 ≤ N) (hN5 : N ≤ 500) (his : is.length ≤ 100) (hp0 : 0 ≤ pos) (hp1 : pos < 900) (hk : k ≤ 10) {vs1 : Vars} (hv : Sub ([("parser", .ref A.p), ("columns", .ref A.lcol), ("k", .int k)] : Vars) vs1)
    (hR : ∀ H' vs2, QF (.ret (.bool true)) H' vs2)
    (h : ∀ H' m' rows' pos' vs2, LawSt H' A be c0 is (cinit ++ [(cz, m')]) rows' (cinit ++ [(cz, m')]) rows' pos' → m ≤ m' → m' ≤ N → pos ≤ pos' → pos' ≤ pos + 10 → (rows' = rows ∨ ∃ cells first, rows' = rows ++ [(first, cells)] ∧ cells.length ≤ 50 ∧ ∀ q ∈ cells, q.2.length ≤ 2) → Sub ([("parser", .ref A.p), ("columns", .ref A.lcol)] : Vars) vs2 → QF .next H' vs2) :
    T G c' PF.R (execs lawBody c'.env) H vs1 QF E := by
  have hcz := h0.bd (cz, be) (by rw [h0.eq]; simp)
  have hbd : Bd (cinit ++ [(cz, m)]) := fun q hq => by
    rcases List.mem_append.mp hq with hq | hq
    · have := h0.bd q (by rw [h0.eq]; exact List.mem_append_left _ hq); omega
    · rw [List.mem_singleton.mp hq]; exact ⟨hcz.1, by omega, hm0, by omega⟩
  have hst : ∀ q ∈ cinit ++ [(cz, m)], q.1 ≤ 12 := fun q hq => by
    rcases List.mem_append.mp hq with hq | hq
    · exact (h0.bd q (by rw [h0.eq]; exact List.mem_append_left _ hq)).2.1
    · rw [List.mem_singleton.mp hq]; exact hcz.2.1
  have hci : 1 ≤ cinit.length := by
    have := (List.getElem?_eq_some_iff.mp h0.o).1
    rw [h0.eq] at this
    simp at this
    omega
  have h0' : (cinit ++ [(cz, m)])[0]? = some (a0, f) := by
    have := h0.z
    rw [h0.eq, List.getElem?_append_left (by omega)] at this
    rw [List.getElem?_append_left (by omega)]
    exact this
  have hb0 : Bd c0 := fun q hq => by have := h0.bd q hq; omega
  have hl0 : c0.length ≤ 3 := by rw [h0.eq]; simp; have := h0.n; omega
  refine t_cons ?_
  refine law_texts (N := N) (k := k) hG hF hc' hd' hdp hcl S hbd hst h0.n h0' ⟨by have := h0.fb; omega, h0.fb.2⟩ his hp0 (by omega) hmN hv fun xs d H1 pos1 vs2 S1 q1 q2 q3 q4 q5 q6 q7 => ?_
  refine seq_next ?_
  refine t_vars q7 ?_
  refine t_cons ?_
  repeat walk_at "w"
  refine b_mul (by decide) ?_
  repeat walk_at "w"
  refine t_cell (ca := A.cst) (p := .ref A.st) hc' rfl (by rw [hcl]; rfl) (dM_sub _ _ S1.cst) ?_
  repeat walk_at "w"
  refine next_spec (xs := is) hG hF hc' (by omega) S1.st (dM_sub _ _ S1.sl) S1.slst (by omega) (by omega) his (by decide) fun v v0 v1 => ?_
  have S2 := S1.next (posn' := pos1 + 1)
  have D2 : PHeap.Le (dM A.M H1) (dM A.M (H1.set A.st (.list [.ref A.sl, .int (pos1 + 1)]))) := dM_del (a := A.st) (by simp [LA.M]) (PHeap.Le.set PHeap.del_le (by unfold PHeap.del; simp))
  generalize H1.set A.st (.list [.ref A.sl, .int (pos1 + 1)]) = H2 at S2 D2 ⊢
  repeat walk_at "w"
  refine span_spec (cs := c0) (a := a0) (f := f) (a2 := a1) (s := s) hG hF hc' (by omega) hd' (S2.col.le dM_sub) hb0 (by omega) h0.z h0.o h0.fb.1 ?_
  have hd2 : H2 d = some (.list (xs.map .str)) := dM_sub _ _ (D2 _ _ (dM_get q6 q5))
  have hokw := h0.sp v v0 v1
  have go : ∀ (H3 : PHeap) (sp : PV) (span : Option (List (Int × Int) × Int × Int × Int)) (vs3 : Vars), PHeap.Le H2 H3 → SpOk H3 sp span → Sub ([("parser", .ref A.p), ("columns", .ref A.lcol), ("texts", .ref d), ("first", .int (2 * (k : Int) + 1)), ("span", sp)] : Vars) vs3 → T G c' PF.R (execs (lawBody.drop 4) c'.env) H3 vs3 QF E := by
    intro H3 sp span vs3 L3 hsp hv3
    refine law_go (N := N) (xs := xs) (d := d) (first := 2 * (k : Int) + 1) hG hF hc' hd' hdp hun hcl (S2.grow L3) hbd h0.n hz hz2 (by omega) (by omega) (by omega) q3 q4 hN5 (L3 _ _ hd2) q6 (by omega) (by omega) hsp hv3 hR fun H' m' rows' vs4 S4 g1 g2 g3 g4 => ?_
    refine h H' m' rows' (pos1 + 1) vs4 S4 g1 g2 (by omega) (by omega) ?_ g4
    rcases g3 with g3 | ⟨cells, e1, e2, e3⟩
    · exact .inl g3
    · exact .inr ⟨cells, _, e1, e2, e3⟩
  cases hls : lawSpan c0 f s v with
  | none =>
    repeat walk_at "w"
    refine ⟨fun _ => ?_, fun q => (nomatch q)⟩
    refine t_none ?_
    refine seq_next ?_
    exact go H2 .none none _ (PHeap.Le.refl _) (.inl ⟨rfl, rfl⟩) (sub_cons rfl (sub_cons rfl (sub_cons rfl (sub_cons rfl (sub_cons rfl sub_nil)))))
  | some x =>
    repeat walk_at "w"
    refine ⟨fun q => (nomatch q), fun _ => ?_⟩
    repeat walk_at "w"
    refine k_len hd2 (by rw [List.length_map, sizeLine_eq]; omega) ?_
    rw [List.length_map]
    repeat walk_at "w"
    refine ⟨by show 2 ≤ _; rw [sizeLine_eq]; decide, fun t htn => ?_⟩
    refine seq_next ?_
    obtain ⟨init, lb, le, r1, r2, r3, r4, r5⟩ := okLine_is (hokw x hls)
    refine go _ (.ref t) (some (init, lb, le, 2 * (k : Int) + 1 + (xs.length : Nat))) _ (le_new (PHeap.Le.refl _) htn) (.inr ⟨t, x, _, init, lb, le, rfl, PHeap.set_self, r5, by omega, by omega, r1, r2, r3, r4, rfl⟩) (sub_cons rfl (sub_cons rfl (sub_cons rfl (sub_cons rfl (sub_cons rfl sub_nil)))))
end
section
variable {G : Gl} {S : Scope} {c : Cx S} {H : PHeap} {vs : Vars} {E : PX → PHeap → Vars → Prop} {Q : PV → PHeap → Vars → Prop}
theorem law_loop (hG : G.Ok) (hF : GF G) {c' : Cx (dScope (topAt 27))} (hc' : c'.Ok) (hd' : c'.hd = none) (ho : c'.own = true) (hdp : c'.dp < 340) (hun : c'.un < 5000) {A : LA} (hcl : c'.cl = ([("head", A.ch), ("world", A.cw), ("state", A.cst)] : List (Str × Addr)))
    {be cz a0 f a1 s : Int} {c0 cinit : List (Int × Int)} {is : List Int} {pos : Int} (h0 : C0 c0 cinit cz be a0 f a1 s) (S : LawSt H A be c0 is (cinit ++ [(cz, be)]) [] (cinit ++ [(cz, be)]) [] pos) (his : is.length ≤ 100) (hp0 : 0 ≤ pos) (hp1 : pos ≤ 10) {vs1 : Vars} (hv : Sub ([("parser", .ref A.p), ("columns", .ref A.lcol)] : Vars) vs1) :
    T G c' PF.R (execs (lawStmts.drop 12) c'.env) H vs1 (fun f _ _ => f = .ret (.bool true)) E := by
  refine t_vars hv ?_
  have hb := h0.bd (cz, be) (by rw [h0.eq]; simp)
  have hn := h0.n
  refine t_cons ?_
  refine' t_for hc' ho hd' ?f2 ?_
  case f2 => k_dflt (exact fun _ => rfl)
  repeat walk_at "w"
  refine t_cell (ca := A.cst) (p := .ref A.st) hc' rfl (by rw [hcl]; rfl) (dM_sub _ _ S.cst) ?_
  repeat walk_at "w"
  refine next_spec (xs := is) hG hF hc' (by omega) S.st (dM_sub _ _ S.sl) S.slst hp0 (by omega) his (by decide) fun v v0 v1 => ?_
  have S1 := S.next (posn' := pos + 1)
  generalize H.set A.st (.list [.ref A.sl, .int (pos + 1)]) = H1 at S1 ⊢
  repeat walk_at "w"
  refine k_range fun rg t1' t2' t3' hrg => ?_
  have S2 := S1.grow (le_new (o := .raw (rangeObj (1 + v) t1' t2' t3')) (PHeap.Le.refl H1) hrg)
  refine iter_range PHeap.set_self (by omega) (by omega) ⟨trivial, ?_⟩
  obtain ⟨n, hvn⟩ : ∃ n : Nat, (1 + v).toNat = n := ⟨_, rfl⟩
  have hn4 : n ≤ 4 := by omega
  rw [hvn, List.range_eq_range']
  generalize H1.set rg (.raw (rangeObj (1 + v) t1' t2' t3')) = H2 at S2 ⊢
  have loop : ∀ (r k : Nat) (Hk : PHeap) (vs2 : Vars) (m : Int) (rows : List (Int × List (Nat × List Str))) (pos' : Int), k + r = n → LawSt Hk A be c0 is (cinit ++ [(cz, m)]) rows (cinit ++ [(cz, m)]) rows pos' → 0 ≤ m → m ≤ 40 + 4 * k → RowsOk rows → rows.length ≤ k → 0 ≤ pos' → pos' ≤ 20 + 10 * k → Sub ([("parser", .ref A.p), ("columns", .ref A.lcol)] : Vars) vs2 →
      ForP G c' (fun _ => True) (forT (stm lawStmts 12)) (forB (stm lawStmts 12)) (Seq G c' (lawStmts.drop 13) (fun f _ _ => f = .ret (.bool true)) E) E ((List.range' k r).map fun (i : Nat) => .val (.int (i : Int))) Hk vs2 := by
    intro r
    induction r with
    | zero =>
      intro k Hk vs2 m rows pos' hk Sk m0 m1 hz hz2 p0 p1 hv2
      exact law_end hG hF hc' hd' ho hdp hun hcl Sk hz (by simp; omega) his p0 (by omega) (fun y q e => hv2 y q ((sub_cons rfl sub_nil : Sub ([("parser", .ref A.p)] : Vars) [("parser", .ref A.p), ("columns", .ref A.lcol)]) y q e))
    | succ r ih =>
      intro k Hk vs2 m rows pos' hk Sk m0 m1 hz hz2 p0 p1 hv2 P vv hpv
      refine a_name (Cx.wp_ok hc') rfl hpv ?_
      refine law_turn (c' := c'.wp P) (N := 40 + 4 * ((k + 1 : Nat) : Int)) (k := k) hG hF (Cx.wp_ok hc') hd' hdp hun hcl h0 Sk hz (by omega) m0 (by omega) (by omega) his p0 (by omega) (by omega) ?_ (fun _ _ => rfl) fun H' m' rows' pos'' vs3 S3 g1 g2 g3 g4 g5 g6 => ?_
      · intro y q e
        have h1 : Sub ([("parser", .ref A.p), ("columns", .ref A.lcol), ("k", .int (k : Int))] : Vars) (putV "k" (.int (k : Int)) ([("parser", .ref A.p), ("columns", .ref A.lcol)] : Vars)) := sub_cons rfl (sub_cons rfl (sub_cons rfl sub_nil))
        exact sub_put hv2 y q (h1 y q e)
      · refine ⟨H', PHeap.Le.refl _, trivial, ?_⟩
        refine ih (k + 1) H' vs3 m' rows' pos'' (by omega) S3 (by omega) g2 ?_ ?_ (by omega) (by omega) g6
        · rcases g5 with rfl | ⟨cells, first, rfl, e1, e2⟩
          · exact hz
          · refine ⟨by simp; omega, fun r hr => ?_⟩
            rcases List.mem_append.mp hr with hr | hr
            · exact hz.2 r hr
            · rw [List.mem_singleton.mp hr]
              exact ⟨by show cells.length ≤ 100; omega, fun q hq => by have := e2 q hq; omega⟩
        · rcases g5 with rfl | ⟨cells, first, rfl, e1, e2⟩
          · omega
          · simp; omega
  exact loop n 0 H2 _ be [] (pos + 1) (by omega) S2 hb.2.2.1 (by omega) ⟨by simp, fun _ h => by cases h⟩ (by simp) (by omega) (by omega) (sub_cons rfl (sub_cons rfl sub_nil))
end
section
variable {G : Gl} {S : Scope} {c : Cx S} {H : PHeap} {vs : Vars} {E : PX → PHeap → Vars → Prop} {Q : PV → PHeap → Vars → Prop}
theorem law_b (hG : G.Ok) (hF : GF G) {c' : Cx (dScope (topAt 27))} (hc' : c'.Ok) (hd' : c'.hd = none) (ho : c'.own = true) (hdp : c'.dp < 340) (hun : c'.un < 5000) {ch cw cst st sl lcol : Addr} (hcl : c'.cl = ([("head", ch), ("world", cw), ("state", cst)] : List (Str × Addr)))
    {be cz a0 f a1 s : Int} {c0 cinit : List (Int × Int)} {is : List Int} {pos : Int} (h0 : C0 c0 cinit cz be a0 f a1 s) (htop : Txt.replace (lawLine c0 "=") "=" "-" = lawLine c0 "-") (hr0 : Runs (lawLine c0 "-") 0 c0) (hpc0 : PC (lawLine c0 "-") 0 c0) (hl1 : (lawLine c0 "=").length ≤ 5000) (hl2 : (lawLine c0 "-").length ≤ 5000)
    (hst : H st = some (.list [.ref sl, .int pos])) (hsl : H sl = some (.list (is.map .int))) (hcst : H cst = some (.cell (some (.ref st)))) (hcw : H cw = some (.cell none)) (hch : H ch = some (.cell none)) (hcol : Cols H lcol c0) (n1 : st ≠ sl) (n2 : lcol ≠ st) (n3 : cw ≠ ch) (his : is.length ≤ 100) (hp0 : 0 ≤ pos) (hp1 : pos ≤ 10) {vs1 : Vars} (hv : Sub ([("columns", .ref lcol)] : Vars) vs1) :
    T G c' PF.R (execs (lawStmts.drop 5) c'.env) H vs1 (fun f _ _ => f = .ret (.bool true)) E := by
  refine t_vars hv ?_
  have hcb := cLine_big
  have hb0 : Bd c0 := fun q hq => by have := h0.bd q hq; omega
  have hl0 : c0.length ≤ 3 := by rw [h0.eq]; simp; have := h0.n; omega
  obtain ⟨cps, hcps, hcat⟩ := id hcol
  have off : ∀ {X Y : PHeap}, PHeap.Le X Y → ∀ {z}, Y z = none → X z = none := fun {X Y} L {z} hz => by
    cases q : X z with
    | none => rfl
    | some o => rw [L _ _ q] at hz; cases hz
  refine t_cons ?_
  repeat walk_at "w"
  refine line_spec hG hF hc' (by omega) hd' hcol hb0 (by omega) rfl ?_
  repeat walk_at "w"
  refine k_new0 hG hF.new237.1 hF.new237.2 fun p dp hpn hdpn npd => ?_
  have L1 : PHeap.Le H ((H.set dp (.dict [])).set p (.inst 237 dp)) := le_new (le_new (PHeap.Le.refl H) hdpn) (by rw [PHeap.set_ne npd]; exact hpn)
  have p1 : ((H.set dp (.dict [])).set p (.inst 237 dp)) p = some (.inst 237 dp) := PHeap.set_self
  have d1 : ((H.set dp (.dict [])).set p (.inst 237 dp)) dp = some (.dict []) := (PHeap.set_ne npd.symm).trans PHeap.set_self
  generalize (H.set dp (.dict [])).set p (.inst 237 dp) = H1 at L1 p1 d1 ⊢
  generalize hT : lawLine c0 "=" = top at *
  repeat walk_at "w"
  refine m_inst hG (hF.m237 ("setup", 193) (by decide)).1 p1 d1 rfl ?_
  refine ⟨(hF.m237 ("setup", 193) (by decide)).2, ?_⟩
  repeat walk_at "w"
  refine ⟨by show 2 ≤ _; rw [sizeLine_eq]; decide, fun e1 he1 => ?_⟩
  have L2 := le_new (o := .list [.str top, .str top]) (PHeap.Le.refl H1) he1
  repeat walk_at "w"
  refine new_sl (xs := [.str top, .str top]) (src := .str "t") (its := .none) (par := .none) (po := .none) hG hF hc' (by omega) hd' PHeap.set_self (by simp) (.inl rfl) (.inl ⟨rfl, rfl, rfl, rfl, rfl⟩) fun sa sd sld sli ys H2 j1 j2 j3 j4 j5 j6 j7 j8 j9 => ?_
  have L3 := PHeap.Le.trans L2 j1
  repeat walk_at "w"
  refine setup_spec (top := top) hG hF hc' (by omega) hd' (L3 _ _ p1) (L3 _ _ d1) j5 j6 j7 (by rw [j8]; rfl) hl1 (by rw [htop]; exact hl2) fun b2 db ldb lib lc tl dn rs cs H3 L4 d3 s3 l3 lc3 tl3 nct lcn tln => ?_
  rw [htop] at l3
  have LH2 : PHeap.Le H H2 := PHeap.Le.trans L1 L3
  have LH3 : PHeap.Le H H3 := fun z o hz => L4 _ _ (del_get (fun e => by rw [e, hdpn] at hz; cases hz) (LH2 _ _ hz))
  have npd' : p ≠ dp := npd
  have p3 : H3 p = some (.inst 237 dp) := L4 _ _ (del_get npd' (L3 _ _ p1))
  generalize hX : lawLine c0 "-" = x at *
  refine seq_next ?_
  refine t_cons ?_
  with_reducible refine' t_setattr ?sa ?_
  case sa => k_dflt (exact rfl)
  repeat walk_at "w"
  refine m_inst hG (hF.m237 ("parse_columns", 207) (by decide)).1 p3 d3 rfl ?_
  refine ⟨(hF.m237 ("parse_columns", 207) (by decide)).2, ?_⟩
  repeat walk_at "w"
  refine g_inst hG (hF.a237 "block" (by decide)).1 p3 d3 rfl rfl ?_
  repeat walk_at "w"
  refine sub_own hG hF.o_get hF.fn350 s3.i s3.f (get_sl (p := .str x) hG hF (Cx.up_ok hc') (by show c'.dp + 0 < 800; omega) s3 l3 (by simp) (.inl ⟨by decide, rfl, by decide⟩) ?_) (fun u hu => by obtain ⟨t, rfl⟩ := hu; rfl)
  repeat walk_at "w"
  refine pcols_spec (rs := c0) hG hF hc' (by omega) hd' p3 d3 rfl hl2 (by omega) (by decide) (by decide) hpc0 (.inl ⟨lc3, fun r H4 L5 hrn hr4 => ?_⟩)
  repeat walk_at "w"
  refine s_inst hG (hF.a237 "columns" (by decide)).2 (L5 _ _ p3) (L5 _ _ d3) (by simp [pfs]) ?_
  obtain ⟨H5, hH5⟩ : ∃ H5, H5 = H4.set dp (.dict (pfs b2 tl dn rs cs .none (.ref r) .none)) := ⟨_, rfl⟩
  have hH5' : H4.set dp (.dict (putV "columns" (.ref r) (pfs b2 tl dn rs cs .none (.ref lc) .none))) = H5 := hH5.symm
  rw [hH5']
  clear hH5'
  have LH4 := PHeap.Le.trans LH3 L5
  have N5 : ∀ z o, H4 z = some o → z ≠ dp → H5 z = some o := fun z o hz hn => by rw [hH5]; exact (PHeap.set_ne hn).trans hz
  have LH5 : PHeap.Le H H5 := fun z o hz => N5 _ _ (LH4 _ _ hz) (fun e => by rw [e, hdpn] at hz; cases hz)
  have d5 : H5 dp = some (.dict (pfs b2 tl dn rs cs .none (.ref r) .none)) := by rw [hH5]; exact PHeap.set_self
  have p5 := N5 _ _ (L5 _ _ p3) npd'
  have c5 : Cols H5 r c0 := by
    obtain ⟨qs, hq, hqa⟩ := hr4
    refine ⟨qs, N5 _ _ hq (fun e => by rw [e, L5 _ _ d3] at hq; cases hq), ?_⟩
    have : ∀ {ps cs}, ColsAt H4 ps cs → ColsAt H5 ps cs := by
      intro ps cs h
      induction h with
      | nil => exact .nil
      | cons h1 _ ih => exact .cons (N5 _ _ h1 (fun e => by rw [e, L5 _ _ d3] at h1; cases h1)) ih
    exact this hqa
  have ntl : tl ≠ dp := fun e => by rw [e, d3] at tl3; cases tl3
  have tl5 := N5 _ _ (L5 _ _ tl3) ntl
  have nrtl : r ≠ tl := fun e => by rw [e, tl3] at hrn; cases hrn
  have ndpH : H dp = none := hdpn
  have fr : ∀ {z}, H3 z = none → H z = none := fun {z} hz => off LH3 hz
  have nrH : H r = none := fr hrn
  have ntlH : H tl = none := off LH2 tln
  clear hH5 N5 hr4
  refine seq_next ?_
  refine t_cons ?_
  with_reducible refine' t_setattr ?sa ?_
  case sa => k_dflt (exact rfl)
  repeat walk_at "w"
  refine ⟨_, rfl, ?_⟩
  have hlast : c0[c0.length - 1]? = some (cz, be) := by rw [h0.eq]; simp
  obtain ⟨ps', rz, u1, u2, u3, u4⟩ := hcol.get hlast
  rw [hcps] at u1
  cases u1
  have hcl0 : 1 ≤ c0.length := by rw [h0.eq]; simp
  refine sub_neg (LH5 _ _ hcps) (by decide) (by omega) (by decide) (by rw [u4, show ((-1 : Int) + (c0.length : Int)).toNat = c0.length - 1 by omega]; exact u2) ?_
  repeat walk_at "w"
  refine sub_tup (LH5 _ _ u3) (by decide) (by decide) rfl ?_
  repeat walk_at "w"
  refine s_inst hG (hF.a237 "border_end" (by decide)).2 p5 d5 (by simp [pfs]) ?_
  obtain ⟨H6, hH6⟩ : ∃ H6, H6 = H5.set dp (.dict (pfs b2 tl dn rs cs .none (.ref r) (.int be))) := ⟨_, rfl⟩
  have hH6' : H5.set dp (.dict (putV "border_end" (.int be) (pfs b2 tl dn rs cs .none (.ref r) .none))) = H6 := hH6.symm
  rw [hH6']
  clear hH6'
  have N6 : ∀ z o, H5 z = some o → z ≠ dp → H6 z = some o := fun z o hz hn => by rw [hH6]; exact (PHeap.set_ne hn).trans hz
  have LH6 : PHeap.Le H H6 := fun z o hz => N6 _ _ (LH5 _ _ hz) (fun e => by rw [e, hdpn] at hz; cases hz)
  have d6 : H6 dp = some (.dict (pfs b2 tl dn rs cs .none (.ref r) (.int be))) := by rw [hH6]; exact PHeap.set_self
  have p6 := N6 _ _ p5 npd'
  have c6 : Cols H6 r c0 := by
    obtain ⟨qs, hq, hqa⟩ := c5
    refine ⟨qs, N6 _ _ hq (fun e => by rw [e, d5] at hq; cases hq), ?_⟩
    have : ∀ {ps cs}, ColsAt H5 ps cs → ColsAt H6 ps cs := by
      intro ps cs h
      induction h with
      | nil => exact .nil
      | cons h1 _ ih => exact .cons (N6 _ _ h1 (fun e => by rw [e, d5] at h1; cases h1)) ih
    exact this hqa
  have tl6 := N6 _ _ tl5 ntl
  clear hH6 N6 c5
  have hdc := dep_cols (cs := c0)
  repeat walk_at "w"
  refine g_inst hG (hF.a237 "columns" (by decide)).1 p6 d6 rfl rfl ?_
  repeat walk_at "w"
  refine c_nsame c6.rd (hcol.le LH6).rd (by omega) ?_
  repeat walk_at "w"
  refine ⟨fun q => (nomatch q), fun _ => ?_⟩
  repeat walk_at "w"
  refine line_spec hG hF hc' (by omega) hd' (hcol.le LH6) hb0 (by omega) rfl ?_
  repeat walk_at "w"
  rw [hX]
  refine runs_spec hG hF hc' (by omega) hd' hl2 hr0 fun r2 H7 L7 hr2n hr27 => ?_
  have LH7 := PHeap.Le.trans LH6 L7
  repeat walk_at "w"
  refine c_nsame hr27.rd (hcol.le LH7).rd (by omega) ?_
  repeat walk_at "w"
  refine ⟨fun q => (nomatch q), fun _ => ?_⟩
  refine t_or0 ?_
  refine ⟨fun q => (nomatch q), fun _ => ?_⟩
  refine t_nil ?_
  refine seq_next ?_
  refine t_cons ?_
  with_reducible refine' t_assignc (ca := cw) ?a1 ?a2 ?a3 ?a4 ?_
  case a1 => exact hc'
  case a2 => k_dflt (exact rfl)
  case a3 => k_dflt (exact rfl)
  case a4 => rw [hcl]; rfl
  repeat walk_at "w"
  refine k_list (LH7 _ _ hcps) (by have := hcat.len; rw [sizeLine_eq]; omega) fun lw hlw => ?_
  have L8 := le_new (o := .list cps) (PHeap.Le.refl H7) hlw
  repeat walk_at "w"
  refine ⟨_, rfl, ?_⟩
  refine sub_neg (L8 _ _ (LH7 _ _ hcps)) (by decide) (by omega) (by decide) (by rw [u4, show ((-1 : Int) + (c0.length : Int)).toNat = c0.length - 1 by omega]; exact u2) ?_
  repeat walk_at "w"
  refine sub_tup (L8 _ _ (LH7 _ _ u3)) (by decide) (by decide) rfl ?_
  repeat walk_at "w"
  refine ⟨Nat.zero_le _, fun wl hwl => ?_⟩
  have L9 := le_new (o := .list []) L8 hwl
  repeat walk_at "w"
  refine ⟨by show 3 ≤ _; rw [sizeLine_eq]; decide, fun w hw => ?_⟩
  have L10 := le_new (o := .list [.ref lw, .int be, .ref wl]) L9 hw
  have lw10 : (((H7.set lw (.list cps)).set wl (.list [])).set w (.list [.ref lw, .int be, .ref wl])) lw = some (.list cps) := (PHeap.set_ne (ne_none ((PHeap.set_ne (ne_none PHeap.set_self hwl)).trans PHeap.set_self) hw)).trans ((PHeap.set_ne (ne_none PHeap.set_self hwl)).trans PHeap.set_self)
  have wl10 : (((H7.set lw (.list cps)).set wl (.list [])).set w (.list [.ref lw, .int be, .ref wl])) wl = some (.list []) := (PHeap.set_ne (ne_none PHeap.set_self hw)).trans PHeap.set_self
  have w10 : (((H7.set lw (.list cps)).set wl (.list [])).set w (.list [.ref lw, .int be, .ref wl])) w = some (.list [.ref lw, .int be, .ref wl]) := PHeap.set_self
  have nlwwl : lw ≠ wl := ne_none (PHeap.set_self (H := H7) (o := .list cps)) hwl
  have nlww : lw ≠ w := ne_none ((PHeap.set_ne nlwwl).trans (PHeap.set_self (H := H7) (o := .list cps))) hw
  have nwlw : wl ≠ w := ne_none PHeap.set_self hw
  have hwl7 : H7 wl = none := off L8 hwl
  have hw7 : H7 w = none := off L9 hw
  generalize ((H7.set lw (.list cps)).set wl (.list [])).set w (.list [.ref lw, .int be, .ref wl]) = H10 at L10 lw10 wl10 w10 ⊢
  have LHX := PHeap.Le.trans LH7 L10
  refine ⟨none, LHX _ _ hcw, ?_⟩
  obtain ⟨H11, hH11⟩ : ∃ H11, H11 = H10.set cw (.cell (some (.ref w))) := ⟨_, rfl⟩
  rw [← hH11]
  have cw10 := LHX _ _ hcw
  have N11 : ∀ z o, H10 z = some o → o ≠ .cell none → H11 z = some o := fun z o hz hn => by
    rw [hH11]
    refine (PHeap.set_ne (fun e => ?_)).trans hz
    rw [e, cw10] at hz
    cases hz
    exact hn rfl
  have A11 : ∀ {ps cs}, ColsAt H10 ps cs → ColsAt H11 ps cs := fun h => by rw [hH11]; exact h.setC cw10
  have cw11 : H11 cw = some (.cell (some (.ref w))) := by rw [hH11]; exact PHeap.set_self
  have ch11 : H11 ch = some (.cell none) := by rw [hH11]; exact (PHeap.set_ne n3.symm).trans (LHX _ _ hch)
  obtain ⟨qs, hq6, hqa6⟩ := c6
  have hq7 := L7 _ _ hq6
  have L610 := PHeap.Le.trans L7 L10
  have st7 := LH7 _ _ hst
  have sl7 := LH7 _ _ hsl
  have col7 := LH7 _ _ hcps
  have tl7 := L7 _ _ tl6
  have r11 := N11 _ _ (L610 _ _ hq6) (fun h => nomatch h)
  have tl11 := N11 _ _ (L610 _ _ tl6) (fun h => nomatch h)
  have d11 := N11 _ _ (L610 _ _ d6) (fun h => nomatch h)
  have p11 := N11 _ _ (L610 _ _ p6) (fun h => nomatch h)
  have lw11 := N11 _ _ lw10 (fun h => nomatch h)
  have wl11 := N11 _ _ wl10 (fun h => nomatch h)
  have w11 := N11 _ _ w10 (fun h => nomatch h)
  have st11 := N11 _ _ (LHX _ _ hst) (fun h => nomatch h)
  have sl11 := N11 _ _ (LHX _ _ hsl) (fun h => nomatch h)
  have col11 := N11 _ _ (LHX _ _ hcps) (fun h => nomatch h)
  have cst11 := N11 _ _ (LHX _ _ hcst) (fun h => nomatch h)
  have m1 : r ≠ lw := ne_none hq7 hlw
  have m2 : r ≠ wl := ne_none hq7 hwl7
  have m3 : r ≠ w := ne_none hq7 hw7
  have m4 : st ≠ r := ne_none hst nrH
  have m5 : tl ≠ lw := ne_none tl7 hlw
  have m6 : tl ≠ wl := ne_none tl7 hwl7
  have m7 : tl ≠ w := ne_none tl7 hw7
  have m8 : st ≠ tl := ne_none hst ntlH
  have m9 : st ≠ lw := ne_none st7 hlw
  have m10 : st ≠ wl := ne_none st7 hwl7
  have m11 : st ≠ w := ne_none st7 hw7
  have s1 : sl ≠ r := ne_none hsl nrH
  have s2 : sl ≠ tl := ne_none hsl ntlH
  have s3' : sl ≠ lw := ne_none sl7 hlw
  have s4 : sl ≠ wl := ne_none sl7 hwl7
  have q1 : lcol ≠ r := ne_none hcps nrH
  have q2 : lcol ≠ tl := ne_none hcps ntlH
  have q3 : lcol ≠ lw := ne_none col7 hlw
  have q4 : lcol ≠ wl := ne_none col7 hwl7
  obtain ⟨A, hA⟩ : ∃ A : LA, A = { p := p, dp := dp, b2 := b2, dn := dn, rs := rs, cs := cs, lc := r, tl := tl, lw := lw, wl := wl, w := w, st := st, sl := sl, lcol := lcol, cst := cst, cw := cw, ch := ch } := ⟨_, rfl⟩
  have hMe : A.M = [dp, ch, r, tl, lw, wl, st] := by rw [hA]; rfl
  have hm : ∀ z ∈ A.M, ∃ o, H11 z = some o ∧ ∀ xs, o ≠ .tup xs := by
    intro z hz
    rw [hMe] at hz
    simp only [List.mem_cons, List.not_mem_nil, or_false] at hz
    rcases hz with rfl | rfl | rfl | rfl | rfl | rfl | rfl
    · exact ⟨_, d11, fun _ h => nomatch h⟩
    · exact ⟨_, ch11, fun _ h => nomatch h⟩
    · exact ⟨_, r11, fun _ h => nomatch h⟩
    · exact ⟨_, tl11, fun _ h => nomatch h⟩
    · exact ⟨_, lw11, fun _ h => nomatch h⟩
    · exact ⟨_, wl11, fun _ h => nomatch h⟩
    · exact ⟨_, st11, fun _ h => nomatch h⟩
  have nM : ∀ {z o}, H11 z = some o → (∀ fs, o ≠ .dict fs) → z ≠ ch → z ≠ r → z ≠ tl → z ≠ lw → z ≠ wl → z ≠ st → z ∉ A.M := by
    intro z o hz a1 a2 a3 a4 a5 a6 a7 hzm
    rw [hMe] at hzm
    simp only [List.mem_cons, List.not_mem_nil, or_false] at hzm
    rcases hzm with rfl | h | h | h | h | h | h
    · rw [d11] at hz; cases hz; exact a1 _ rfl
    · exact a2 h
    · exact a3 h
    · exact a4 h
    · exact a5 h
    · exact a6 h
    · exact a7 h
  have nL : ∀ {z o}, H11 z = some o → (∀ xs, o ≠ .list xs) → z ≠ r ∧ z ≠ tl ∧ z ≠ lw ∧ z ≠ wl ∧ z ≠ st := fun hz hn =>
    ⟨ne_obj hz r11 (hn _), ne_obj hz tl11 (hn _), ne_obj hz lw11 (hn _), ne_obj hz wl11 (hn _), ne_obj hz st11 (hn _)⟩
  have SS : LawSt H11 A be c0 is c0 [] c0 [] pos := by
    subst hA
    have pn := nL p11 (fun _ h => nomatch h)
    have cwn := nL cw11 (fun _ h => nomatch h)
    have cstn := nL cst11 (fun _ h => nomatch h)
    refine ⟨?_, ?_, d11, ?_, ?_, ?_, ch11, ?_, ?_, st11, ⟨qs, r11, ?_⟩, ⟨cps, lw11, ?_⟩, ⟨[], tl11, .nil⟩, ⟨[], wl11, .nil⟩⟩
    · show [r, tl, lw, wl, st].Nodup
      simp only [List.nodup_cons, List.mem_cons, List.not_mem_nil, or_false, not_or, List.nodup_nil, and_true, not_false_eq_true]
      exact ⟨⟨nrtl, m1, m2, m4.symm⟩, ⟨m5, m6, m8.symm⟩, ⟨nlwwl, m9.symm⟩, m10.symm⟩
    · exact dM_get (nM p11 (fun _ h => nomatch h) (ne_obj p11 ch11 (fun h => nomatch h)) pn.1 pn.2.1 pn.2.2.1 pn.2.2.2.1 pn.2.2.2.2) p11
    · exact dM_get (nM w11 (fun _ h => nomatch h) (ne_obj w11 ch11 (fun h => nomatch h)) m3.symm m7.symm nlww.symm nwlw.symm m11.symm) w11
    · exact dM_get (nM cst11 (fun _ h => nomatch h) (ne_obj cst11 ch11 (fun h => by cases h)) cstn.1 cstn.2.1 cstn.2.2.1 cstn.2.2.2.1 cstn.2.2.2.2) cst11
    · exact dM_get (nM cw11 (fun _ h => nomatch h) n3 cwn.1 cwn.2.1 cwn.2.2.1 cwn.2.2.2.1 cwn.2.2.2.2) cw11
    · exact dM_get (nM sl11 (fun _ h => nomatch h) (ne_obj sl11 ch11 (fun h => nomatch h)) s1 s2 s3' s4 n1.symm) sl11
    · exact ⟨cps, dM_get (nM col11 (fun _ h => nomatch h) (ne_obj col11 ch11 (fun h => nomatch h)) q1 q2 q3 q4 n2) col11, (A11 (hcat.le LHX)).dM hm⟩
    · exact (A11 (hqa6.le L610)).dM hm
    · exact (A11 (hcat.le LHX)).dM hm
  have SS' : LawSt H11 A be c0 is (cinit ++ [(cz, be)]) [] (cinit ++ [(cz, be)]) [] pos := by rw [← h0.eq]; exact SS
  refine seq_next ?_
  refine law_loop hG hF hc' hd' ho hdp hun (by rw [hA]; exact hcl) h0 SS' his hp0 hp1 ?_
  rw [hA]
  exact sub_cons rfl (sub_cons rfl sub_nil)
end
section
variable {G : Gl} {S : Scope} {c : Cx S} {H : PHeap} {vs : Vars} {E : PX → PHeap → Vars → Prop} {Q : PV → PHeap → Vars → Prop}
theorem slc_base {a : Addr} {xs : List PV} {us : List Value} {l u : PV} {lo hi : Option Int} {v : Expr} {el eu : Option Expr} {p' : Pos} (hb : G.base.IsList a us.toArray) (hr : RL xs us) (pl : PartR l lo) (pu : PartR u hi) (hy : xs.length ≤ sizeLine)
    (h : ∀ d, H d = none → Q (.ref d) (H.set d (.list (lsl xs lo hi))) vs) :
    SlcP G c v (.Slice el eu none p') (.ref a) l u H vs Q E := by
  rintro _ vl vu rfl hl hu s ⟨h₀, m, news, S0, V⟩
  have keep : ∀ {h' : Heap}, (∀ b o, h₀.get? b = some o → h'.get? b = some o) → h'.IsList a us.toArray := fun hk => by
    obtain ⟨o, h1, h2⟩ := hb
    exact ⟨o, hk _ _ (S0.B.stays _ _ h1), h2⟩
  have hL : s.heap.IsList a us.toArray := keep S0.F.keep
  have S1 := S0.junk (o := { cls := .type "slice", data := .fields #[vl, vu, .none] })
  have hL1 : (s.heap.push { cls := .type "slice", data := .fields #[vl, vu, .none] }).IsList a us.toArray := keep S1.F.keep
  refine tail_any hL1.typeIs slot_list_getitem.lookup (wpAny_getItem_list_slice (st := none) hL1 ⟨_, Heap.get?_push_size _ rfl, rfl, rfl⟩ (part_is pl hl) (part_is pu hu) .none (by intro z; cases z) ?_ (by rw [List.size_toArray, hr.len]; exact hy)) rfl
  rw [kms_pick_eq]
  have F' := S1.F.push { cls := .type "list", data := .seq (kms_pick us lo hi).toArray }
  have N' := News.push S1.F S1.N { cls := .type "list", data := .seq (kms_pick us lo hi).toArray } rfl
  obtain ⟨S2, hn⟩ := S1.alloc (po := .list (lsl xs lo hi)) (k := s.toks) F' N' (fun q hq => Heap.lt_size (S1.N q hq).1) ⟨_, 0, rfl, hr.lsl lo hi⟩
  exact ⟨.ref _, _, vs, rfl, ⟨h₀, m, _, S2, V⟩, h _ hn⟩

structure LawS0 (H : PHeap) (st sl cst cw ch : Addr) (is : List Int) (pos : Int) : Prop where
  xst : H st = some (.list [.ref sl, .int pos])
  xsl : H sl = some (.list (is.map .int))
  xcst : H cst = some (.cell (some (.ref st)))
  xcw : H cw = some (.cell none)
  xch : H ch = some (.cell none)
  ne : sl ≠ st
theorem LawS0.grow {H H' : PHeap} {st sl cst cw ch : Addr} {is : List Int} {posn : Int} (S : LawS0 H st sl cst cw ch is posn) (L : PHeap.Le H H') : LawS0 H' st sl cst cw ch is posn := ⟨L _ _ S.xst, L _ _ S.xsl, L _ _ S.xcst, L _ _ S.xcw, L _ _ S.xch, S.ne⟩
theorem LawS0.put {H : PHeap} {st sl cst cw ch z : Addr} {is : List Int} {posn : Int} {xs ys : List PV} (S : LawS0 H st sl cst cw ch is posn) (hz : H z = some (.list xs)) (h1 : z ≠ st) (h2 : z ≠ sl) : LawS0 (H.set z (.list ys)) st sl cst cw ch is posn :=
  ⟨(PHeap.set_ne h1.symm).trans S.xst, (PHeap.set_ne h2.symm).trans S.xsl, (PHeap.set_ne (ne_obj S.xcst hz (fun h => nomatch h))).trans S.xcst, (PHeap.set_ne (ne_obj S.xcw hz (fun h => nomatch h))).trans S.xcw, (PHeap.set_ne (ne_obj S.xch hz (fun h => nomatch h))).trans S.xch, S.ne⟩
theorem LawS0.next {H : PHeap} {st sl cst cw ch : Addr} {is : List Int} {posn posn' : Int} (S : LawS0 H st sl cst cw ch is posn) : LawS0 (H.set st (.list [.ref sl, .int posn'])) st sl cst cw ch is posn' :=
  ⟨PHeap.set_self, (PHeap.set_ne S.ne).trans S.xsl, (PHeap.set_ne (ne_obj S.xcst S.xst (fun h => nomatch h))).trans S.xcst, (PHeap.set_ne (ne_obj S.xcw S.xst (fun h => nomatch h))).trans S.xcw, (PHeap.set_ne (ne_obj S.xch S.xst (fun h => nomatch h))).trans S.xch, S.ne⟩

theorem c0_of {g w : Int} (hg : g = 1 ∨ g = 2) (hw : w = 2 ∨ w = 3) (t : Bool) : ∃ cinit cz be, C0 (cs0 g w t) cinit cz be 0 w (w + g) (2 * w + g) := by
  have hsp : ∀ way : Int, 0 ≤ way → way < 6 → ∀ x, lawSpan (cs0 g w t) w (2 * w + g) way = some x → okLine x = true := by
    intro way h0 h1 x hx
    have hway : way ∈ ([0, 1, 2, 3, 4, 5] : List Int) := by
      have : way = 0 ∨ way = 1 ∨ way = 2 ∨ way = 3 ∨ way = 4 ∨ way = 5 := by omega
      simpa using this
    have hgm : g ∈ ([1, 2] : List Int) := by simpa using hg
    have hwm : w ∈ ([2, 3] : List Int) := by simpa using hw
    have htm : t ∈ [false, true] := by cases t <;> simp
    have := okSpan_all g hgm w hwm t htm way hway
    unfold okSpan at this
    rw [hx] at this
    exact this
  cases t with
  | false =>
    refine ⟨[(0, w)], w + g, 2 * w + g, rfl, by simp, rfl, rfl, fun q hq => ?_, by omega, hsp⟩
    simp only [cs0, List.mem_cons, List.not_mem_nil, or_false, Bool.false_eq_true, if_false] at hq
    rcases hq with rfl | rfl
    · simp; omega
    · simp; omega
  | true =>
    refine ⟨[(0, w), (w + g, 2 * w + g)], 2 * w + 2 * g, 2 * w + 2 * g + 2, rfl, by simp, rfl, rfl, fun q hq => ?_, by omega, hsp⟩
    simp only [cs0, List.mem_cons, List.not_mem_nil, or_false, if_true] at hq
    rcases hq with rfl | rfl | rfl
    · simp; omega
    · simp; omega
    · simp; omega
theorem top_of {g w : Int} (hg : g = 1 ∨ g = 2) (hw : w = 2 ∨ w = 3) (t : Bool) : Txt.replace (lawLine (cs0 g w t) "=") "=" "-" = lawLine (cs0 g w t) "-" ∧ Runs (lawLine (cs0 g w t) "-") 0 (cs0 g w t) ∧ PC (lawLine (cs0 g w t) "-") 0 (cs0 g w t) ∧ (lawLine (cs0 g w t) "=").length ≤ 5000 ∧ (lawLine (cs0 g w t) "-").length ≤ 5000 := by
  have hgm : g ∈ ([1, 2] : List Int) := by simpa using hg
  have hwm : w ∈ ([2, 3] : List Int) := by simpa using hw
  have htm : t ∈ [false, true] := by cases t <;> simp
  have h := okTop_all g hgm w hwm t htm
  unfold okTop at h
  simp only [Bool.and_eq_true, decide_eq_true_eq] at h
  obtain ⟨⟨⟨⟨⟨h1, h2⟩, h3⟩, h4⟩, h5⟩, h6⟩ := h
  exact ⟨eq_of_beq h3, runsF_is _ _ _ (by simpa using h1), pcF_is _ _ _ (by simpa using h2), h4, h5⟩
theorem law_a (hG : G.Ok) (hF : GF G) {c' : Cx (dScope (topAt 27))} (hc' : c'.Ok) (hd' : c'.hd = none) (ho : c'.own = true) (hdp : c'.dp < 340) (hun : c'.un < 5000) {ch cw cst sa : Addr} (hcl : c'.cl = ([("head", ch), ("world", cw), ("state", cst)] : List (Str × Addr)))
    {is : List Int} {us : List Value} (hb : G.base.IsList sa us.toArray) (hr : RL (is.map .int) us) (his : is.length ≤ 63) (hcst : H cst = some (.cell none)) (hcw : H cw = some (.cell none)) (hch : H ch = some (.cell none)) (n1 : cst ≠ cw) (n2 : cst ≠ ch) (n3 : cw ≠ ch) :
    T G c' PF.R (execs lawStmts c'.env) H [("script", .ref sa)] (fun f _ _ => f = .ret (.bool true)) E := by
  refine t_cons ?_
  refine' t_assignc (ca := cst) hc' ?a2 ?a3 ?a4 ?_
  case a2 => k_dflt (exact rfl)
  case a3 => k_dflt (exact rfl)
  case a4 => rw [hcl]; rfl
  repeat walk_at "w"
  refine slc_base (lo := none) (hi := some 40) hb hr rfl rfl (by rw [List.length_map, sizeLine_eq]; omega) fun sl hsl => ?_
  rw [show lsl (is.map PV.int) none (some 40) = (is.map PV.int).take 40 from lsl_to (i := 40), ← List.map_take]
  have hisl : (is.take 40).length ≤ 40 := by simp; omega
  generalize is.take 40 = js at hisl ⊢
  have L1 := le_new (o := .list (js.map .int)) (PHeap.Le.refl H) hsl
  repeat walk_at "w"
  refine ⟨by show 2 ≤ _; rw [sizeLine_eq]; decide, fun st hst => ?_⟩
  have L2 := le_new (o := .list [.ref sl, .int 0]) L1 hst
  have nss : sl ≠ st := ne_none PHeap.set_self hst
  have sl2 : ((H.set sl (.list (js.map .int))).set st (.list [.ref sl, .int 0])) sl = some (.list (js.map .int)) := (PHeap.set_ne nss).trans PHeap.set_self
  have st2 : ((H.set sl (.list (js.map .int))).set st (.list [.ref sl, .int 0])) st = some (.list [.ref sl, .int 0]) := PHeap.set_self
  generalize (H.set sl (.list (js.map .int))).set st (.list [.ref sl, .int 0]) = H2 at L2 sl2 st2 ⊢
  refine ⟨none, L2 _ _ hcst, ?_⟩
  have S3 : LawS0 (H2.set cst (.cell (some (.ref st)))) st sl cst cw ch js 0 :=
    ⟨(PHeap.set_ne (ne_obj st2 (L2 _ _ hcst) (fun h => nomatch h))).trans st2, (PHeap.set_ne (ne_obj sl2 (L2 _ _ hcst) (fun h => nomatch h))).trans sl2, PHeap.set_self, (PHeap.set_ne n1.symm).trans (L2 _ _ hcw), (PHeap.set_ne n2.symm).trans (L2 _ _ hch), nss⟩
  generalize H2.set cst (.cell (some (.ref st))) = H3 at S3 ⊢
  repeat walk_at "w"
  refine t_cell (ca := cst) (p := .ref st) hc' rfl (by rw [hcl]; rfl) S3.xcst ?_
  repeat walk_at "w"
  refine next_spec (xs := js) hG hF hc' (by omega) S3.xst S3.xsl S3.ne (by omega) (by omega) (by omega) (by decide) fun v1 v10 v11 => ?_
  have S4 := S3.next (posn' := 0 + 1)
  generalize H3.set st (.list [.ref sl, .int (0 + 1)]) = H4 at S4 ⊢
  repeat walk_at "w"
  have hg : (1 + v1) = 1 ∨ (1 + v1) = 2 := by omega
  generalize 1 + v1 = g at hg ⊢
  refine t_cell (ca := cst) (p := .ref st) hc' rfl (by rw [hcl]; rfl) S4.xcst ?_
  repeat walk_at "w"
  refine next_spec (xs := js) hG hF hc' (by omega) S4.xst S4.xsl S4.ne (by omega) (by omega) (by omega) (by decide) fun v2 v20 v21 => ?_
  have S5 := S4.next (posn' := 0 + 1 + 1)
  generalize H4.set st (.list [.ref sl, .int (0 + 1 + 1)]) = H5 at S5 ⊢
  repeat walk_at "w"
  have hw : (2 + v2) = 2 ∨ (2 + v2) = 3 := by omega
  generalize 2 + v2 = w at hw ⊢
  have rest : ∀ (t : Bool) (Hk : PHeap) (lcol : Addr) (pos : Int) (vs1 : Vars), LawS0 Hk st sl cst cw ch js pos → 0 ≤ pos → pos ≤ 10 → Cols Hk lcol (cs0 g w t) → lcol ≠ st → Sub ([("columns", .ref lcol)] : Vars) vs1 → T G c' PF.R (execs (lawStmts.drop 5) c'.env) Hk vs1 (fun f _ _ => f = .ret (.bool true)) E := by
    intro t Hk lcol pos vs1 Sk p0 p1 hcol hne hv
    obtain ⟨cinit, cz, be, h0⟩ := c0_of hg hw t
    obtain ⟨a1, a2, a3, a4, a5⟩ := top_of hg hw t
    exact law_b hG hF hc' hd' ho hdp hun hcl h0 a1 a2 a3 a4 a5 Sk.xst Sk.xsl Sk.xcst Sk.xcw Sk.xch hcol Sk.ne.symm hne n3 (by omega) p0 p1 hv
  refine ⟨by show 2 ≤ _; rw [sizeLine_eq]; decide, fun d1 hd1 => ?_⟩
  have L6 := le_new (o := .tup [.int 0, .int w]) (PHeap.Le.refl H5) hd1
  repeat walk_at "w"
  refine b_mul (by decide) ?_
  repeat walk_at "w"
  refine ⟨by show 2 ≤ _; rw [sizeLine_eq]; decide, fun d2 hd2 => ?_⟩
  have L7 := le_new (o := .tup [.int (w + g), .int (2 * w + g)]) L6 hd2
  repeat walk_at "w"
  refine ⟨by show 2 ≤ _; rw [sizeLine_eq]; decide, fun lcol hlcol => ?_⟩
  have L8 := le_new (o := .list [.ref d1, .ref d2]) L7 hlcol
  have e1 : (((H5.set d1 (.tup [.int 0, .int w])).set d2 (.tup [.int (w + g), .int (2 * w + g)])).set lcol (.list [.ref d1, .ref d2])) d1 = some (.tup [.int 0, .int w]) := (PHeap.set_ne (ne_none ((PHeap.set_ne (ne_none PHeap.set_self hd2)).trans PHeap.set_self) hlcol)).trans ((PHeap.set_ne (ne_none PHeap.set_self hd2)).trans PHeap.set_self)
  have e2 : (((H5.set d1 (.tup [.int 0, .int w])).set d2 (.tup [.int (w + g), .int (2 * w + g)])).set lcol (.list [.ref d1, .ref d2])) d2 = some (.tup [.int (w + g), .int (2 * w + g)]) := (PHeap.set_ne (ne_none PHeap.set_self hlcol)).trans PHeap.set_self
  have e3 : (((H5.set d1 (.tup [.int 0, .int w])).set d2 (.tup [.int (w + g), .int (2 * w + g)])).set lcol (.list [.ref d1, .ref d2])) lcol = some (.list [.ref d1, .ref d2]) := PHeap.set_self
  have nlst : lcol ≠ st := (ne_none (L7 _ _ S5.xst) hlcol).symm
  have nlsl : lcol ≠ sl := (ne_none (L7 _ _ S5.xsl) hlcol).symm
  have S8 := S5.grow L8
  generalize ((H5.set d1 (.tup [.int 0, .int w])).set d2 (.tup [.int (w + g), .int (2 * w + g)])).set lcol (.list [.ref d1, .ref d2]) = H8 at S8 e1 e2 e3 ⊢
  have hcol8 : Cols H8 lcol (cs0 g w false) := ⟨_, e3, .cons e1 (.cons e2 .nil)⟩
  repeat walk_at "w"
  refine t_cell (ca := cst) (p := .ref st) hc' rfl (by rw [hcl]; rfl) S8.xcst ?_
  repeat walk_at "w"
  refine next_spec (xs := js) hG hF hc' (by omega) S8.xst S8.xsl S8.ne (by omega) (by omega) (by omega) (by decide) fun v3 v30 v31 => ?_
  have S9 := S8.next (posn' := 0 + 1 + 1 + 1)
  have f1 : (H8.set st (.list [.ref sl, .int (0 + 1 + 1 + 1)])) d1 = some (.tup [.int 0, .int w]) := (PHeap.set_ne (ne_obj e1 S8.xst (fun h => nomatch h))).trans e1
  have f2 : (H8.set st (.list [.ref sl, .int (0 + 1 + 1 + 1)])) d2 = some (.tup [.int (w + g), .int (2 * w + g)]) := (PHeap.set_ne (ne_obj e2 S8.xst (fun h => nomatch h))).trans e2
  have f3 : (H8.set st (.list [.ref sl, .int (0 + 1 + 1 + 1)])) lcol = some (.list [.ref d1, .ref d2]) := (PHeap.set_ne nlst).trans e3
  generalize H8.set st (.list [.ref sl, .int (0 + 1 + 1 + 1)]) = H9 at S9 f1 f2 f3 ⊢
  repeat walk_at "w"
  refine ⟨fun hq => ?_, fun hq => ?_⟩
  · repeat walk_at "w"
    refine m_list f3 PySem.F.slot_list_append rfl ?_
    refine ⟨trivial, ?_⟩
    repeat walk_at "w"
    refine b_mul (by decide) ?_
    repeat walk_at "w"
    refine b_mul (by decide) ?_
    repeat walk_at "w"
    refine b_mul (by decide) ?_
    repeat walk_at "w"
    refine b_mul (by decide) ?_
    repeat walk_at "w"
    refine ⟨by show 2 ≤ _; rw [sizeLine_eq]; decide, fun d4 hd4 => ?_⟩
    have N10 := le_new (o := .tup [.int (2 * w + 2 * g), .int (2 * w + 2 * g + 2)]) (PHeap.Le.refl H9) hd4
    have S10 := S9.grow N10
    have g3 := N10 _ _ f3
    repeat walk_at "w"
    refine k_append g3 (by rw [sizeLine_eq]; simp) ?_
    refine seq_next ?_
    refine t_nil ?_
    refine seq_next ?_
    refine rest true _ lcol _ _ (S10.put g3 nlst nlsl) (by omega) (by omega) ⟨_, PHeap.set_self, ?_⟩ nlst (sub_cons rfl sub_nil)
    exact ColsAt.set g3 (.cons (N10 _ _ f1) (.cons (N10 _ _ f2) (.cons PHeap.set_self .nil)))
  · refine t_nil ?_
    refine seq_next ?_
    exact rest false H9 lcol _ _ S9 (by omega) (by omega) ⟨_, f3, .cons f1 (.cons f2 .nil)⟩ nlst (sub_cons rfl sub_nil)
end
end Mine
set_option maxHeartbeats 8000000
namespace Mine
theorem defAt_of {G : Gl} {K : Frag} (hK : G.K = K) {f cd : Addr} {name qual : Str} {d : Stmt} {cl : List (Str × Addr)} {dV ct : Value} {mod : Str} (t : Tok)
    (h : K.lookup f = some ⟨.type "function", none, .func (fnX name qual (dArgs d) (dBody d) (dScope d) cl dV .none .none (.str mod t) none (.ref cd) ct), #[]⟩) (h2 : codeIn K (.ref cd) qual = true) : DefAt G f cd name qual d cl dV ct mod := by
  subst hK
  exact ⟨⟨t, h⟩, h2⟩
theorem gf {G : Gl} {P : Params} (hK : G.K = zhd.heap_39 P) (hP : G.prog = PySem.Challenge.rw_gr5006_01.row.prog) : GF G where
  g := by
    intro x p hx
    have hm := lookup_mem hx
    simp only [gTable, List.mem_cons, List.not_mem_nil, or_false, Prod.mk.injEq] at hm
    rcases hm with ⟨rfl, rfl⟩ | ⟨rfl, rfl⟩ | ⟨rfl, rfl⟩ | ⟨rfl, rfl⟩ | ⟨rfl, rfl⟩ | ⟨rfl, rfl⟩ | ⟨rfl, rfl⟩ | ⟨rfl, rfl⟩ | ⟨rfl, rfl⟩ | ⟨rfl, rfl⟩ | ⟨rfl, rfl⟩ | ⟨rfl, rfl⟩ | ⟨rfl, rfl⟩ | ⟨rfl, rfl⟩ | ⟨rfl, rfl⟩ | ⟨rfl, rfl⟩ | ⟨rfl, rfl⟩ | ⟨rfl, rfl⟩ | ⟨rfl, rfl⟩ | ⟨rfl, rfl⟩ | ⟨rfl, rfl⟩ | ⟨rfl, rfl⟩ | ⟨rfl, rfl⟩
    all_goals first
      | exact ⟨.inl ⟨_, by rw [hK]; rfl, rfl⟩, by show keepIn G.K _ = true; rw [hK]; rfl⟩
      | exact ⟨.inr ⟨by rw [hK]; rfl, _, by kernel_rfl, by decide, rfl⟩, trivial⟩

  d_next := defAt_of hK _ rfl rfl
  d_line := defAt_of hK _ rfl rfl
  d_runs := defAt_of hK _ rfl rfl
  d_span := defAt_of hK _ rfl rfl
  d_text := defAt_of hK _ rfl rfl
  d_lines_cut := defAt_of hK _ rfl rfl
  d_record := defAt_of hK _ rfl rfl
  d_told := defAt_of hK _ rfl rfl
  d_seen := defAt_of hK _ rfl rfl
  d193 := defAt_of hK _ rfl rfl
  d207 := defAt_of hK _ rfl rfl
  d214 := defAt_of hK _ rfl rfl
  d222 := defAt_of hK _ rfl rfl
  d229 := defAt_of hK _ rfl rfl
  d234 := defAt_of hK _ rfl rfl
  d252 := defAt_of hK _ rfl rfl
  d329 := defAt_of hK _ rfl rfl
  d336 := defAt_of hK _ rfl rfl
  d350 := defAt_of hK _ rfl rfl
  d357 := defAt_of hK _ rfl rfl
  d474 := defAt_of hK _ rfl rfl
  d502 := defAt_of hK _ rfl rfl
  d539 := defAt_of hK _ rfl rfl
  d146 := defAt_of hK _ rfl rfl
  a237 := by
    intro n hn
    simp only [at237, List.mem_cons, List.not_mem_nil, or_false] at hn
    rcases hn with rfl | rfl | rfl | rfl | rfl | rfl | rfl | rfl
    all_goals
      refine ⟨⟨?_, ?_, ?_⟩, ⟨?_, ?_, ?_, ?_⟩⟩
      all_goals rw [hK]
      all_goals first
        | rfl
        | exact ⟨_, rfl, rfl⟩
  a542 := by
    intro n hn
    simp only [at542, List.mem_cons, List.not_mem_nil, or_false] at hn
    rcases hn with rfl | rfl | rfl | rfl
    all_goals
      refine ⟨⟨?_, ?_, ?_⟩, ⟨?_, ?_, ?_, ?_⟩⟩
      all_goals rw [hK]
      all_goals first
        | rfl
        | exact ⟨_, rfl, rfl⟩
  m237 := by
    intro n hn
    simp only [me237, List.mem_cons, List.not_mem_nil, or_false] at hn
    rcases hn with rfl | rfl | rfl | rfl | rfl | rfl
    all_goals
      refine ⟨⟨?_, ?_, ?_⟩, ?_⟩
      · rw [hK]; rfl
      · rw [hK]; rfl
      · rw [hK]; rfl
      · show keepIn G.K _ = true
        rw [hK]; rfl
  m542 := by
    intro n hn
    simp only [me542, List.mem_cons, List.not_mem_nil, or_false] at hn
    rcases hn with rfl | rfl | rfl
    all_goals
      refine ⟨⟨?_, ?_, ?_⟩, ?_⟩
      · rw [hK]; rfl
      · rw [hK]; rfl
      · rw [hK]; rfl
      · show keepIn G.K _ = true
        rw [hK]; rfl
  o_len := ⟨by rw [hK]; rfl, by rw [hK]; rfl⟩
  o_bool := ⟨by rw [hK]; rfl, by rw [hK]; rfl⟩
  o_get := ⟨by rw [hK]; rfl, by rw [hK]; rfl⟩
  o_set := ⟨by rw [hK]; rfl, by rw [hK]; rfl⟩
  noSeq542 := by rw [hK]; rfl
  fn350 := by rw [hK]; rfl
  n542 := ⟨by rw [hK]; rfl, by rw [hK]; rfl, by rw [hK]; rfl⟩
  new237 := ⟨by rw [hK]; rfl, by rw [hK]; rfl⟩
  isn484 := by rw [hK]; rfl
  e149 := ⟨by rw [hK]; exact ⟨_, _, _, rfl, rfl, rfl⟩, by rw [hK]; rfl, by rw [hK]; rfl, by rw [hK]; rfl, by rw [hK]; rfl, by rw [hK]; rfl, by rw [hK]; rfl, by rw [hK]; rfl⟩
  s149 := ⟨by rw [hK]; exact ⟨_, _, _, _, _, rfl, rfl, rfl⟩, by rw [hK, hP]; exact ⟨_, _, _, _, rfl, rfl, rfl, rfl⟩, by rw [hK]; exact ⟨_, rfl, rfl⟩, by rw [hP]; rfl, by rw [hK]; rfl, by rw [hK]; rfl, by rw [hK]; rfl, by rw [hK]; rfl, by rw [hK]; exact ⟨_, rfl, rfl⟩⟩
  f149 := ⟨by rw [hK]; rfl, by rw [hK]; rfl⟩
  x149 := by rw [hK]; exact ⟨_, _, _, _, _, _, _, _, _, _, _, _, _, _, _, _, rfl, rfl, rfl, rfl, rfl⟩
  c149 := ⟨by rw [hK]; rfl, by rw [hK]; rfl, by rw [hK]; rfl, by rw [hK]; rfl⟩
  t138 := ⟨_, _, by rw [hK]; rfl⟩
  t215 := ⟨_, by rw [hK]; rfl⟩
  t247 := ⟨_, by rw [hK]; rfl⟩
  t534 := ⟨_, by rw [hK]; rfl⟩
end Mine
namespace Mine
def nilH : PHeap := fun _ => none
theorem ints_rl : ∀ {is : List Int} {us : List Value}, IntsAre us is → RL (is.map .int) us
  | _, _, .nil => .nil
  | _, _, .cons _ t h => .cons ⟨t, rfl⟩ (ints_rl h)
theorem law_top {G : Gl} (hG : G.Ok) (hF : GF G) {fa L : Addr} {cd : Value} {h₁ : Heap} {tk : Nat} {m : Str → Option Value} {o1 o2 o3 : Obj} {v1 v2 v3 : Option Value} {is : List Int} {us : List Value} {sa : Addr} (hL : L = G.base.objs.size)
    (F : Fr G.base L h₁ m) (N : News G.base L h₁ [(L + 1 + 1 + 1, o3), (L + 1 + 1, o2), (L + 1, o1)]) (B : Below callerA G.base [] G.base) (e1 : o1.data = .cell v1) (e2 : o2.data = .cell v2) (e3 : o3.data = .cell v3)
    (hm : m "script" = some (.ref sa)) (hb : G.base.IsList sa us.toArray) (hi : IntsAre us is) (his : is.length ≤ 63) :
    wpAny (model G.prog G.w) (callerA.deeper (envOfC "law" (dScope (topAt 27)) L fa cd)) (execs lawStmts (envOfC "law" (dScope (topAt 27)) L fa cd))
      (fun f s' => f = .ret (.bool true) ∧ (∃ m', Fr G.base L s'.heap m') ∧ s'.gens = G.gens ∧ s'.os = G.os) (fun _ _ => False) { heap := h₁, gens := G.gens, drawn := G.drawn, toks := tk, os := G.os } := by
  let c' : Cx (dScope (topAt 27)) := { A₀ := callerA, outer := [], L := L, qu := ("law" : Str) ++ ".<locals>.", fn := some fa, ccd := cd, cl := cellsFrom (L + 1) (dScope (topAt 27)).names [], Lf := L, own := true, hd := none, dp := callerA.depth + 1, un := callerA.units + 3, gd := some [], P := [], bl := [] }
  have hc' : c'.Ok := ⟨rfl, fun _ => rfl⟩
  have hne : ∀ a b : Nat, a ≠ b → (L + a) ≠ (L + b) := fun a b h e => h (Nat.add_left_cancel e)
  have key := law_a (G := G) (c' := c') (ch := L + 1 + 1 + 1) (cw := L + 1 + 1) (cst := L + 1) (sa := sa) (is := is) (us := us) (E := fun _ _ _ => False)
    (H := ((nilH.set (L + 1) (.cell none)).set (L + 1 + 1) (.cell none)).set (L + 1 + 1 + 1) (.cell none)) hG hF hc' rfl rfl (by show 1 + claimMargin + 1 < 340; decide) (by show 4 + 3 < 5000; decide) rfl hb (ints_rl hi) his
    ((PHeap.set_ne (hne 1 3 (by decide))).trans ((PHeap.set_ne (hne 1 2 (by decide))).trans PHeap.set_self)) ((PHeap.set_ne (hne 2 3 (by decide))).trans PHeap.set_self) PHeap.set_self (hne 1 2 (by decide)) (hne 1 3 (by decide)) (hne 2 3 (by decide))
  have hr : HR (((nilH.set (L + 1) (.cell none)).set (L + 1 + 1) (.cell none)).set (L + 1 + 1 + 1) (.cell none)) [(L + 1 + 1 + 1, o3), (L + 1 + 1, o2), (L + 1, o1)] := by
    have h0 : HR nilH [] := ⟨(fun _ h => nomatch h), (fun _ _ h => nomatch h), List.nodup_nil⟩
    refine ((h0.cons (a := L + 1) (po := .cell none) (mo := o1) (by simp) ⟨v1, e1, trivial⟩).cons (a := L + 1 + 1) (po := .cell none) (mo := o2) ?_ ⟨v2, e2, trivial⟩).cons (a := L + 1 + 1 + 1) (po := .cell none) (mo := o3) ?_ ⟨v3, e3, trivial⟩
    · simp only [List.map_cons, List.map_nil, List.mem_cons, List.not_mem_nil, or_false]
      exact hne 2 1 (by decide)
    · simp only [List.map_cons, List.map_nil, List.mem_cons, List.not_mem_nil, or_false, not_or]
      exact ⟨hne 3 2 (by decide), hne 3 1 (by decide)⟩
  have S0 : Sat0 G c' (((nilH.set (L + 1) (.cell none)).set (L + 1 + 1) (.cell none)).set (L + 1 + 1 + 1) (.cell none)) m G.base [(L + 1 + 1 + 1, o3), (L + 1 + 1, o2), (L + 1, o1)] { heap := h₁, gens := G.gens, drawn := G.drawn, toks := tk, os := G.os } :=
    ⟨F, N, B, ⟨(fun _ h => nomatch h), (fun _ h => nomatch h), (fun _ h => nomatch h), Nat.le_of_eq hL.symm⟩, hr, (fun _ h => nomatch h), rfl, rfl, rfl⟩
  have V : VR [("script", .ref sa)] m := fun x p e => by
    rw [List.lookup_cons] at e
    cases hq : x == ("script" : Str) with
    | true =>
      rw [hq] at e
      cases e
      have : x = "script" := by simpa using hq
      rw [this]
      exact ⟨_, hm, rfl⟩
    | false => rw [hq] at e; cases e
  refine wpAny_mono (key _ ⟨G.base, m, _, S0, V⟩) (fun f s' ⟨r, H', vs', hr', hs', hq⟩ => ?_) fun _ _ ⟨_, _, _, _, hf⟩ => hf.elim
  subst hq
  obtain ⟨v, rfl, hv⟩ := hr'
  cases hv
  obtain ⟨h₂, m2, n2, S2, _⟩ := hs'
  exact ⟨rfl, ⟨m2, S2.F.ns, fun b o e => S2.F.keep _ _ (S2.B.stays _ _ e), Nat.le_of_eq hL.symm⟩, S2.g, S2.o⟩
end Mine
namespace Mine
theorem join : PySem.Challenge.rw_gr5006_01.Holds := zhd (by
  k_go0
  rename_i w s0 s1 mg mb G0 Y fa o pm doc ho hg KX X V GL T B TE TW w12 w11 M w10 w9 hcd is hs hlay0 hL1 hr1 hl2 w7 w6 sa us w3 hL ra wl1 r0 hI hr hc1 hc2 K0 hD h1 tk F o3 o2 o1 l3 l2 l1 N0 X0
  refine wpAny_mono (law_top (G := { prog := PySem.Challenge.rw_gr5006_01.row.prog, w := w, K := zhd.heap_39 w.params, p := _, loose := _, mean := _, mg := mg, mb := mb, base := s1.heap, gens := s1.gens, drawn := s1.drawn, os := s1.os }) ⟨KX, T⟩ (gf rfl rfl) (is := is) (us := us) (sa := sa) (tk := tk) rfl F N0 K0 l1 l2 l3 rfl hL hI (by omega)) (fun f s' ⟨hf, ⟨m', F'⟩, hgs, hos⟩ => ?_) (fun _ _ h => h.elim)
  subst hf
  refine goodW_bool F' (hgs.trans hg) (fun _ => rfl) ?_ hos
  first | kc_post | wrow_post)
end Mine
theorem PySem.Challenge.cw_gr5006_01_holds : PySem.Challenge.rw_gr5006_01.Holds :=
  Mine.join
