import PyProof.Rows.All
import Wide.All
import OpenK.AllK
import Wide.FinOn
import PySem.Challenge.RW_ab5014_01
open PySem PySem.W PyProof.Rows
set_option Elab.async false
set_option linter.unusedVariables false

section
open PySem PySem.W PyProof.Rows PySem.Calls PySem.Spec
namespace Bx

/-! ## The data that a value stands for -/
mutual
inductive Rep (h : Heap) : Value → PyData → Prop
  | none : Rep h .none .none
  | bool (b : Bool) : Rep h (.bool b) (.bool b)
  | int (i : Int) (t : Tok) : Rep h (.int i t) (.int i)
  | str (x : Str) (t : Tok) : Rep h (.str x t) (.str x)
  | list {a : Addr} {o : Obj} {vs : Array Value} {n : Nat} {ds : List PyData} : h.get? a = some o → o.cls = .type "list" → o.data = .seq vs n → RepAll h vs.toList ds → Rep h (.ref a) (.list ds)
  | tuple {a : Addr} {o : Obj} {vs : Array Value} {n : Nat} {ds : List PyData} : h.get? a = some o → o.cls = .type "tuple" → o.data = .seq vs n → o.dict = none → RepAll h vs.toList ds → Rep h (.ref a) (.tuple ds)
inductive RepAll (h : Heap) : List Value → List PyData → Prop
  | nil : RepAll h [] []
  | cons {v : Value} {vs : List Value} {d : PyData} {ds : List PyData} : Rep h v d → RepAll h vs ds → RepAll h (v :: vs) (d :: ds)
end

/-- the objects that bear items are kept -/
def SeqKept (h h' : Heap) : Prop := ∀ b o xs n, h.get? b = some o → o.data = .seq xs n → h'.get? b = some o

mutual
theorem Rep.mono {h h' : Heap} (k : SeqKept h h') : ∀ {v : Value} {d : PyData}, Rep h v d → Rep h' v d
  | _, _, .none => .none
  | _, _, .bool b => .bool b
  | _, _, .int i t => .int i t
  | _, _, .str x t => .str x t
  | _, _, .list h1 h2 h3 r => .list (k _ _ _ _ h1 h3) h2 h3 (RepAll.mono k r)
  | _, _, .tuple h1 h2 h3 h4 r => .tuple (k _ _ _ _ h1 h3) h2 h3 h4 (RepAll.mono k r)
theorem RepAll.mono {h h' : Heap} (k : SeqKept h h') : ∀ {vs : List Value} {ds : List PyData}, RepAll h vs ds → RepAll h' vs ds
  | _, _, .nil => .nil
  | _, _, .cons r rs => .cons (Rep.mono k r) (RepAll.mono k rs)
end
mutual
theorem Rep.reads {h : Heap} : ∀ {v : Value} {d : PyData}, Rep h v d → ∃ as, Reads h v d as
  | _, _, .none => ⟨_, .none⟩
  | _, _, .bool b => ⟨_, .bool b⟩
  | _, _, .int i t => ⟨_, .int i t⟩
  | _, _, .str x t => ⟨_, .str x t⟩
  | _, _, .list h1 h2 h3 r => let ⟨_, q⟩ := RepAll.reads r; ⟨_, .list h1 h2 h3 q⟩
  | _, _, .tuple h1 h2 h3 _ r => let ⟨_, q⟩ := RepAll.reads r; ⟨_, .tuple h1 h2 h3 q⟩
theorem RepAll.reads {h : Heap} : ∀ {vs : List Value} {ds : List PyData}, RepAll h vs ds → ∃ as, ReadsAll h vs ds as
  | _, _, .nil => ⟨_, .nil⟩
  | _, _, .cons r rs => let ⟨_, q⟩ := Rep.reads r; let ⟨_, p⟩ := RepAll.reads rs; ⟨_, .cons q p⟩
end

theorem RepAll.length {h : Heap} : ∀ {vs : List Value} {ds : List PyData}, RepAll h vs ds → vs.length = ds.length
  | _, _, .nil => rfl
  | _, _, .cons _ rs => by rw [List.length_cons, List.length_cons, RepAll.length rs]
theorem RepAll.append {h : Heap} : ∀ {vs ws : List Value} {ds es : List PyData}, RepAll h vs ds → RepAll h ws es → RepAll h (vs ++ ws) (ds ++ es)
  | _, _, _, _, .nil, q => q
  | _, _, _, _, .cons r rs, q => .cons r (RepAll.append rs q)
theorem RepAll.get {h : Heap} : ∀ {vs : List Value} {ds : List PyData}, RepAll h vs ds → ∀ {i : Nat} {d : PyData}, ds[i]? = some d → ∃ v, vs[i]? = some v ∧ Rep h v d
  | _, _, .nil, i, d, e => by simp at e
  | _, _, .cons r rs, 0, d, e => by simp at e; subst e; exact ⟨_, rfl, r⟩
  | _, _, .cons r rs, i + 1, d, e => by simp only [List.getElem?_cons_succ] at e ⊢; exact RepAll.get rs e
theorem RepAll.get' {h : Heap} : ∀ {vs : List Value} {ds : List PyData}, RepAll h vs ds → ∀ {i : Nat} {v : Value}, vs[i]? = some v → ∃ d, ds[i]? = some d ∧ Rep h v d
  | _, _, .nil, i, d, e => by simp at e
  | _, _, .cons r rs, 0, d, e => by simp at e; subst e; exact ⟨_, rfl, r⟩
  | _, _, .cons r rs, i + 1, d, e => by simp only [List.getElem?_cons_succ] at e ⊢; exact RepAll.get' rs e
theorem RepAll.drop {h : Heap} : ∀ {vs : List Value} {ds : List PyData}, RepAll h vs ds → ∀ k : Nat, RepAll h (vs.drop k) (ds.drop k)
  | _, _, r, 0 => r
  | _, _, .nil, _ + 1 => .nil
  | _, _, .cons _ rs, k + 1 => RepAll.drop rs k
theorem RepAll.take {h : Heap} : ∀ {vs : List Value} {ds : List PyData}, RepAll h vs ds → ∀ k : Nat, RepAll h (vs.take k) (ds.take k)
  | _, _, _, 0 => .nil
  | _, _, .nil, _ + 1 => .nil
  | _, _, .cons r rs, k + 1 => .cons r (RepAll.take rs k)
theorem RepAll.reverse {h : Heap} : ∀ {vs : List Value} {ds : List PyData}, RepAll h vs ds → RepAll h vs.reverse ds.reverse
  | _, _, .nil => .nil
  | _, _, .cons r rs => by rw [List.reverse_cons, List.reverse_cons]; exact (RepAll.reverse rs).append (.cons r .nil)
theorem RepAll.ints {h : Heap} : ∀ {vs : List Value} {ns : List Int}, IntsAre vs ns → RepAll h vs (ns.map .int) := by
  intro vs ns e
  induction ns generalizing vs with
  | nil => cases e; exact .nil
  | cons n ns ih =>
    cases e with
    | cons _ _ e => exact .cons (.int _ _) (ih e)

/-! ## The world of the run -/
structure Gl where
  prog : Program
  w : World
  mg : Str → Option Value
  mb : Str → Option Value
  H₀ : Heap
  os₀ : OsState
  c : Addr
  P : Addr
  K : Frag

def Ext (P : Addr) (h h' : Heap) : Prop := ∀ b o, b ≠ P → h.get? b = some o → h'.get? b = some o
theorem Ext.refl (P : Addr) (h : Heap) : Ext P h h := fun _ _ _ e => e
theorem Ext.trans {P : Addr} {h h' h'' : Heap} (a : Ext P h h') (b : Ext P h' h'') : Ext P h h'' := fun x o hx e => b x o hx (a x o hx e)
theorem Ext.of_keep {P : Addr} {h h' : Heap} (k : ∀ b o, h.get? b = some o → h'.get? b = some o) : Ext P h h' := fun b o _ e => k b o e
theorem Ext.hide {P : Addr} {h h' : Heap} (x : Ext P h h') : ∀ b o, (h.hide P).get? b = some o → (h'.hide P).get? b = some o := fun b o e => by
  by_cases hb : b = P
  · subst hb; rw [Heap.hide_self] at e; cases e
  · rw [Heap.hide_ne _ hb] at e ⊢; exact x b o hb e

/-- what is known of the code table that a generator expression may grow -/
def TabSt (G : Gl) (h : Heap) : Prop := ∃ ps, h.IsCode G.c G.P ps ∧ h.TableAt G.c G.P ps
structure Inv (G : Gl) (s : Shared) : Prop where
  bare : AllBare s.gens
  old : OldK G.H₀ s.heap
  os : s.os = G.os₀
  tab : TabSt G s.heap

theorem TabSt.keep {G : Gl} {h h' : Heap} (x : TabSt G h) (k : ∀ b o, h.get? b = some o → h'.get? b = some o) : TabSt G h' :=
  let ⟨ps, a, b⟩ := x; ⟨ps, a.keeps k, b.keeps k⟩
theorem Inv.keeps {G : Gl} {s s' : Shared} (x : Inv G s) (k : Keeps s s') : Inv G s' := by
  obtain ⟨h', tk, rfl, k⟩ := k
  exact ⟨x.bare, x.old.step_keeps k, x.os, x.tab.keep k⟩
theorem keeps_refl (s : Shared) : Keeps s s := ⟨s.heap, s.toks, rfl, fun _ _ e => e⟩
theorem keeps_trans {a b c : Shared} (x : Keeps a b) (y : Keeps b c) : Keeps a c := by
  obtain ⟨h, tk, rfl, k⟩ := x
  obtain ⟨h', tk', rfl, k'⟩ := y
  exact ⟨h', tk', rfl, fun b o e => k' b o (k b o e)⟩
theorem keeps_ext {P : Addr} {s s' : Shared} (x : Keeps s s') : Ext P s.heap s'.heap := by
  obtain ⟨h, tk, rfl, k⟩ := x
  exact .of_keep k
theorem keeps_toks {s : Shared} (tk : Nat) : Keeps s { s with toks := tk } := ⟨s.heap, tk, rfl, fun _ _ e => e⟩
theorem keeps_of {s : Shared} {h : Heap} {tk : Nat} (k : ∀ b o, s.heap.get? b = some o → h.get? b = some o) : Keeps s { s with heap := h, toks := tk } := ⟨h, tk, rfl, k⟩
theorem keeps_push {s : Shared} {o : Obj} {tk : Nat} : Keeps s { s with heap := s.heap.push o, toks := tk }   := keeps_of fun _ _ e => Heap.get?_push_of_some _ e

def Pre (G : Gl) (R : Bool) (s : Shared) : Prop := R = true → Inv G s
def Rel (G : Gl) (R : Bool) (s s' : Shared) : Prop := if R = true then Ext G.P s.heap s'.heap ∧ Inv G s' else Keeps s s'
section
variable {G : Gl} {R : Bool} {s s' s'' : Shared}
theorem Rel.refl (p : Pre G R s) : Rel G R s s := by
  cases R
  · exact keeps_refl s
  · exact ⟨Ext.refl _ _, p rfl⟩
theorem Rel.trans (a : Rel G R s s') (b : Rel G R s' s'') : Rel G R s s'' := by
  cases R
  · exact keeps_trans a b
  · exact ⟨Ext.trans a.1 b.1, b.2⟩
theorem Rel.pre (a : Rel G R s s') : Pre G R s' := by
  cases R
  · intro e; cases e
  · exact fun _ => a.2
theorem Rel.of_keeps (p : Pre G R s) (k : Keeps s s') : Rel G R s s' := by
  cases R
  · exact k
  · exact ⟨keeps_ext k, (p rfl).keeps k⟩
theorem Rel.ext (a : Rel G R s s') : Ext G.P s.heap s'.heap := by
  cases R
  · exact keeps_ext a
  · exact a.1
theorem Rel.full (a : Rel G R s s') (p : Inv G s) : Rel G true s s' := by
  cases R
  · exact ⟨keeps_ext a, p.keeps a⟩
  · exact a
end

/-! ## The text's defs and tables -/
def stm (i : Nat) : Stmt := PySem.Challenge.pw_ab5014_01.main.body.getD i (.Pass default)
def fnName (i : Nat) : Str := match stm i with | .FunctionDef n .. => n | _ => default
def fnParams (i : Nat) : Arguments := match stm i with | .FunctionDef _ a .. => a | _ => { posonlyargs := [], args := [], vararg := none, kwonlyargs := [], kw_defaults := [], kwarg := none, defaults := [] }
def fnBody (i : Nat) : List Stmt := match stm i with | .FunctionDef _ _ b .. => b | _ => []
def fnScope (i : Nat) : Scope := match stm i with | .FunctionDef _ _ _ _ _ _ sc .. => sc | _ => default

structure FnAt (G : Gl) (h : Heap) (i : Nat) (a : Addr) (cd : Value) : Prop where
  name : G.mg (fnName i) = some (.ref a)
  at_ : ∃ o pm doc, h.get? a = some o ∧ o.data = .func (docDef (fnName i) (fnParams i) (fnBody i) (fnScope i) pm cd doc)
  code : h.CodeRec cd (fnName i)

def biTab : List (Str × Value) := [("range", .type "range"), ("ord", .builtin "ord"), ("any", .builtin "any"), ("all", .builtin "all"), ("len", .builtin "len"), ("chr", .builtin "chr"),
  ("sum", .builtin "sum"), ("zip", .type "zip"), ("tuple", .type "tuple"), ("int", .type "int"), ("bytes", .type "bytes")]

def intsD (l : List Int) : List PyData := l.map .int
def cset : Str := "qpzry9x8gf2tvdw0s3jn54khce6mua7l"
def powers : List Int := [1, 2, 4, 8, 16, 9, 18, 13, 26, 29, 19, 15, 30, 21, 3, 6, 12, 24, 25, 27, 31, 23, 7, 14, 28, 17, 11, 22, 5, 10, 20]
def gener : List Int := [9, 27, 30, 13, 9, 6]
def lawOne : List Int := [0, 0, 0, 0, 0, 1]
def lawOther : List Int := [21, 28, 16, 12, 5, 3]
def consts : List (Str × PyData) := [("CHARSET", .str cset), ("BECH32_CONST", .int 1), ("BECH32M_CONST", .int 734539939), ("_law_set", .str cset),
  ("_law_powers", .tuple (intsD powers)), ("_law_generator", .tuple (intsD gener)), ("_law_one", .tuple (intsD lawOne)), ("_law_other", .tuple (intsD lawOther))]
def fnIdx : List Nat := [5, 6, 7, 8, 9, 10, 12, 13, 20, 21, 22, 23, 24, 25]

structure Wd (G : Gl) (h : Heap) : Prop where
  g : h.Ns mainGlobals G.mg
  b : h.Ns builtinsNs G.mb
  lim : h.NoLimit
  fns : ∀ i ∈ fnIdx, ∃ a cd, FnAt G h i a cd
  dec : ∃ a, FnAt G h 10 a (.ref G.c)
  cvt : ∃ a cd o pm doc T oT n, G.mg (fnName 11) = some (.ref a) ∧ h.get? a = some o ∧ o.data = .func { docDef (fnName 11) (fnParams 11) (fnBody 11) (fnScope 11) pm cd doc with defaults := .ref T } ∧
    h.CodeRec cd (fnName 11) ∧ h.get? T = some oT ∧ oT.cls = .type "tuple" ∧ oT.data = .seq #[.bool true] n
  cst : ∀ p ∈ consts, ∃ v, G.mg p.1 = some v ∧ Rep h v p.2
  bi : ∀ p ∈ biTab, G.mg p.1 = none ∧ G.mb p.1 = some p.2
  bm : ∃ bm ob, BMod h mainGlobals G.mg bm ob
  pn : G.P < G.H₀.objs.size ∧ G.c < G.H₀.objs.size
  t0 : (∃ c ps, G.H₀.TableAt c G.P ps) ∧ G.P ≠ cStatics
  kin : G.K.In h
  kfb : findCls G.K (.type "int") (.type "type") (Str.ofString "from_bytes") = some (.get (.builtin "classmethod_descriptor.__get__") (.builtin "int.from_bytes") .none (.type "int"))
  enc : ∃ C, G.mg "Encoding" = some (.ref C) ∧ ∀ (A : Around) (s : Shared) (E Q : Value → Shared → Prop), (∀ b o, h.get? b = some o → s.heap.get? b = some o) →
    ((∀ t tk, Q (.int 1 t) { s with toks := tk }) → wpAny (model G.prog G.w) A (getAttr (.ref C) "BECH32" true) Q E s) ∧ ((∀ t tk, Q (.int 2 t) { s with toks := tk }) → wpAny (model G.prog G.w) A (getAttr (.ref C) "BECH32M" true) Q E s)

theorem FnAt.keeps {G : Gl} {h h' : Heap} {i : Nat} {a : Addr} {cd : Value} (x : FnAt G h i a cd) (k : ∀ b o, h.get? b = some o → h'.get? b = some o) : FnAt G h' i a cd :=
  ⟨x.name, let ⟨o, pm, doc, e, r⟩ := x.at_; ⟨o, pm, doc, k _ _ e, r⟩, x.code.keeps k⟩
theorem Wd.keeps {G : Gl} {h h' : Heap} (x : Wd G h) (k : ∀ b o, h.get? b = some o → h'.get? b = some o) : Wd G h' where
  g := x.g.keeps k
  b := x.b.keeps k
  lim := x.lim.keeps k
  fns := fun i hi => let ⟨a, cd, r⟩ := x.fns i hi; ⟨a, cd, r.keeps k⟩
  dec := let ⟨a, r⟩ := x.dec; ⟨a, r.keeps k⟩
  cvt := let ⟨a, cd, o, pm, doc, T, oT, n, h1, h2, h3, h4, h5, h6⟩ := x.cvt; ⟨a, cd, o, pm, doc, T, oT, n, h1, k _ _ h2, h3, h4.keeps k, k _ _ h5, h6⟩
  cst := fun p hp => let ⟨v, e, r⟩ := x.cst p hp; ⟨v, e, r.mono fun b o _ _ e _ => k b o e⟩
  bi := x.bi
  pn := x.pn
  t0 := x.t0
  kin := x.kin.keeps k
  kfb := x.kfb
  bm := let ⟨bm, ob, B⟩ := x.bm; ⟨bm, ob, ⟨B.ns.keeps k, B.name, B.ne, k _ _ B.obj, B.cls, B.dict, B.data⟩⟩
  enc := let ⟨C, e, r⟩ := x.enc; ⟨C, e, fun A s E Q hk => r A s E Q fun b o e => hk b o (k b o e)⟩

/-! ## Frames -/
abbrev Rho := List (Str × PyData)
/-- the objects that a frame's own stores change -/
def Own (env : Env) : List Addr := env.locals :: env.cells.map (·.2)
structure Wh (G : Gl) (s : Shared) : Prop where
  w0 : Wd G (G.H₀.hide G.P)
  ext : Ext G.P G.H₀ s.heap
  sz : G.H₀.objs.size ≤ s.heap.objs.size
theorem Wh.wd {G : Gl} {s : Shared} (x : Wh G s) : Wd G (s.heap.hide G.P) := x.w0.keeps x.ext.hide
structure FS (G : Gl) (env : Env) (ρ : Rho) (s : Shared) : Prop where
  w0 : Wd G (G.H₀.hide G.P)
  ext : Ext G.P G.H₀ s.heap
  fk : env.scope.kind = .function
  gl : env.globals = mainGlobals
  bl : env.builtins = builtinsNs
  own : ∀ a ∈ Own env, G.H₀.objs.size ≤ a
  nd : (Own env).Nodup
  isc : ∀ q ∈ env.cells, ∃ v, (s.heap.hide G.P).IsCell q.2 v
  ns : ∃ m, (s.heap.hide G.P).Ns env.locals m ∧ ∀ x d, ρ.lookup x = some d → env.kindOf x = some .local → ∃ v, m x = some v ∧ Rep s.heap v d
  cel : ∀ x d, ρ.lookup x = some d → env.kindOf x = some .cell ∨ env.kindOf x = some .free → ∃ c v, env.cells.lookup x = some c ∧ (s.heap.hide G.P).IsCell c (some v) ∧ Rep s.heap v d

structure Room (k : Nat) (A : Around) : Prop where
  hd : A.handled = none
  depth : 0 < k → A.depth + k ≤ 400
  units : 0 < k → A.units + 8 * k ≤ 400
theorem Room.le {k j : Nat} {A : Around} (r : Room k A) (h : j ≤ k) : Room j A := ⟨r.hd, fun hj => by have := r.depth (by omega); omega, fun hj => by have := r.units (by omega); omega⟩
theorem Room.lt {k : Nat} {A : Around} (r : Room k A) (hk : 0 < k) : A.depth < recursionLimit := by have := r.depth hk; show A.depth < 1000; omega
theorem Room.un {k : Nat} {A : Around} (r : Room k A) (hk : 0 < k) : A.units + 64 < cLine := by have := r.units hk; rw [cLine_is]; omega
theorem Room.deeper {k : Nat} {A : Around} {env : Env} (r : Room (k + 1) A) : Room k (A.deeper env) := ⟨r.hd, fun _ => by have := r.depth (Nat.succ_pos _); show A.depth + 1 + k ≤ 400; omega, fun _ => by have := r.units (Nat.succ_pos _); show A.units + 3 + 8 * k ≤ 400; omega⟩
theorem Room.zero {A : Around} (h : A.handled = none) : Room 0 A := ⟨h, fun h => absurd h (Nat.lt_irrefl _), fun h => absurd h (Nat.lt_irrefl _)⟩

theorem FS.wd {G : Gl} {env : Env} {ρ : Rho} {s : Shared} (x : FS G env ρ s) : Wd G (s.heap.hide G.P) := x.w0.keeps x.ext.hide
theorem FS.wh {G : Gl} {env : Env} {ρ : Rho} {s : Shared} (x : FS G env ρ s) : Wh G s := ⟨x.w0, x.ext, by
  obtain ⟨m, ⟨o, es, ep, e, _⟩, _⟩ := x.ns
  exact Nat.le_of_lt (Nat.lt_of_le_of_lt (x.own _ (.head _)) (Heap.lt_size (Heap.of_hide e)))⟩
theorem Rel.seq {G : Gl} {R : Bool} {s s' : Shared} (a : Rel G R s s') (p : Pre G R s) : SeqKept s.heap s'.heap := by
  cases R
  · obtain ⟨h', tk, rfl, k⟩ := (show Keeps s s' from a)
    exact fun b o _ _ e _ => k b o e
  · intro b o xs n e ed
    refine a.1 b o (fun hb => ?_) e
    obtain ⟨ps, _, ⟨_, t⟩⟩ := (p rfl).tab
    subst hb
    rw [t] at e
    cases e
    cases ed
theorem FS.step {G : Gl} {R : Bool} {env : Env} {ρ : Rho} {s s' : Shared} (x : FS G env ρ s) (a : Rel G R s s') (p : Pre G R s) : FS G env ρ s' where
  w0 := x.w0
  ext := x.ext.trans a.ext
  fk := x.fk
  gl := x.gl
  bl := x.bl
  own := x.own
  nd := x.nd
  isc := fun q hq => let ⟨v, o, e, d⟩ := x.isc q hq; ⟨v, o, a.ext.hide _ _ e, d⟩
  ns := let ⟨m, n, r⟩ := x.ns; ⟨m, n.keeps a.ext.hide, fun y d e k => let ⟨v, e', q⟩ := r y d e k; ⟨v, e', q.mono (a.seq p)⟩⟩
  cel := fun y d e k => let ⟨c, v, e1, ⟨o, e2, e3⟩, q⟩ := x.cel y d e k; ⟨c, v, e1, ⟨o, a.ext.hide _ _ e2, e3⟩, q.mono (a.seq p)⟩

/-! ## Judgements -/
def noE : Value → Shared → Prop := fun _ _ => False
/-- a tree that ends in a value that stands for d -/
def Gives (G : Gl) (R : Bool) (A : Around) (t : Sem Value) (d : PyData) (s : Shared) : Prop :=
  wpAny (model G.prog G.w) A t (fun v s' => Rep s'.heap v d ∧ Rel G R s s') noE s
def Ev (G : Gl) (R : Bool) (k : Nat) (env : Env) (ρ : Rho) (e : Expr) (d : PyData) : Prop :=
  ∀ A s, Room k A → FS G env ρ s → Pre G R s → Gives G R A (eval e env) d s
/-- a test -/
def Tr (G : Gl) (R : Bool) (k : Nat) (env : Env) (ρ : Rho) (e : Expr) (b : Bool) : Prop :=
  ∀ A s, Room k A → FS G env ρ s → Pre G R s → wpAny (model G.prog G.w) A (isTrue e env (eval e env)) (fun v s' => v = b ∧ Rel G R s s') noE s
/-- an operation of values -/
def Op1 (G : Gl) (R : Bool) (k : Nat) (t : Value → Sem Value) (d1 d : PyData) : Prop :=
  ∀ A s v1, Room k A → Wh G s → Pre G R s → Rep s.heap v1 d1 → Gives G R A (t v1) d s
def Op2 (G : Gl) (R : Bool) (k : Nat) (t : Value → Value → Sem Value) (d1 d2 d : PyData) : Prop :=
  ∀ A s v1 v2, Room k A → Wh G s → Pre G R s → Rep s.heap v1 d1 → Rep s.heap v2 d2 → Gives G R A (t v1 v2) d s
def OpN (G : Gl) (R : Bool) (k : Nat) (t : List Value → Sem Value) (ds : List PyData) (d : PyData) : Prop :=
  ∀ A s vs, Room k A → Wh G s → Pre G R s → RepAll s.heap vs ds → Gives G R A (t vs) d s

section
variable {G : Gl} {R : Bool} {k : Nat} {env : Env} {ρ : Rho} {A : Around} {s : Shared}

theorem gives_mono {t : Sem Value} {d : PyData} {Q : Value → Shared → Prop} {E : Value → Shared → Prop} (h : Gives G R A t d s) (hQ : ∀ v s', Rep s'.heap v d → Rel G R s s' → Q v s') :
    wpAny (model G.prog G.w) A t Q E s := wpAny_mono h (fun v s' x => hQ v s' x.1 x.2) fun _ _ x => x.elim
/-- run an expression, go on with all the facts carried over -/
theorem Ev.run {e : Expr} {d : PyData} {Q E : Value → Shared → Prop} (h : Ev G R k env ρ e d) (rm : Room k A) (fs : FS G env ρ s) (p : Pre G R s)
    (hQ : ∀ v s', Rep s'.heap v d → Rel G R s s' → FS G env ρ s' → Pre G R s' → SeqKept s.heap s'.heap → Q v s') : wpAny (model G.prog G.w) A (eval e env) Q E s :=
  gives_mono (h A s rm fs p) fun v s' r a => hQ v s' r a (fs.step a p) a.pre (a.seq p)
theorem Tr.run {e : Expr} {b : Bool} {Q : Bool → Shared → Prop} {E : Value → Shared → Prop} (h : Tr G R k env ρ e b) (rm : Room k A) (fs : FS G env ρ s) (p : Pre G R s)
    (hQ : ∀ s', Rel G R s s' → FS G env ρ s' → Pre G R s' → SeqKept s.heap s'.heap → Q b s') : wpAny (model G.prog G.w) A (isTrue e env (eval e env)) Q E s :=
  wpAny_mono (h A s rm fs p) (fun v s' x => by obtain ⟨rfl, a⟩ := x; exact hQ s' a (fs.step a p) a.pre (a.seq p)) fun _ _ x => x.elim

theorem Ev.conv {e : Expr} {d d' : PyData} (h : Ev G R k env ρ e d) (hd : d = d') : Ev G R k env ρ e d' := hd ▸ h
theorem Tr.conv {e : Expr} {b b' : Bool} (h : Tr G R k env ρ e b) (hd : b = b') : Tr G R k env ρ e b' := hd ▸ h
/-- what is pure is so in the full sense too -/
theorem Ev.lift {e : Expr} {d : PyData} (h : Ev G false k env ρ e d) : Ev G R k env ρ e d := fun A s rm fs p =>
  wpAny_mono (h A s rm fs (fun e => by cases e)) (fun _ _ x => ⟨x.1, Rel.of_keeps p x.2⟩) fun _ _ x => x
theorem Tr.lift {e : Expr} {b : Bool} (h : Tr G false k env ρ e b) : Tr G R k env ρ e b := fun A s rm fs p =>
  wpAny_mono (h A s rm fs (fun e => by cases e)) (fun _ _ x => ⟨x.1, Rel.of_keeps p x.2⟩) fun _ _ x => x

/-! ### names -/
theorem ns_real {h : Heap} {P a : Addr} {m : Str → Option Value} (x : (h.hide P).Ns a m) : h.Ns a m := x.keeps fun _ _ e => Heap.of_hide e
theorem cell_real {h : Heap} {P a : Addr} {v : Option Value} (x : (h.hide P).IsCell a v) : h.IsCell a v := let ⟨o, e, d⟩ := x; ⟨o, Heap.of_hide e, d⟩

theorem ev_local {x : Str} {pos : Pos} {d : PyData} (hl : ρ.lookup x = some d) (hk : env.kindOf x = some .local) (hd : (x == ("__debug__" : Str)) = false) : Ev G R k env ρ (.Name x pos) d := by
  intro A s rm fs p
  obtain ⟨m, n, r⟩ := fs.ns
  obtain ⟨v, e, q⟩ := r x d hl hk
  exact wpAny_Name (wpAny_loadName_local fs.fk hk (ns_real n) e ⟨q, Rel.refl p⟩) hd
theorem ev_cell {x : Str} {pos : Pos} {d : PyData} (hl : ρ.lookup x = some d) (hk : env.kindOf x = some .cell) (hd : (x == ("__debug__" : Str)) = false) : Ev G R k env ρ (.Name x pos) d := by
  intro A s rm fs p
  obtain ⟨c, v, e, ic, q⟩ := fs.cel x d hl (.inl hk)
  exact wpAny_Name (wpAny_loadName_cell fs.fk hk e (cell_real ic) ⟨q, Rel.refl p⟩) hd
theorem glob_load {x : Str} {pos : Pos} {v : Value} {Q E : Value → Shared → Prop} (fs : FS G env ρ s) (hv : G.mg x = some v) (hk : env.kindOf x = some .globalImplicit) (hd : (x == ("__debug__" : Str)) = false) (h : Q v s) :
    wpAny (model G.prog G.w) A (eval (.Name x pos) env) Q E s :=
  Name_function_global fs.fk hk (loadGlobal_global (fs.gl ▸ ns_real fs.wd.g) hv h) hd
theorem bi_load {x : Str} {pos : Pos} {v : Value} {Q E : Value → Shared → Prop} (fs : FS G env ρ s) (hv : (x, v) ∈ biTab) (hk : env.kindOf x = some .globalImplicit) (hd : (x == ("__debug__" : Str)) = false) (h : Q v s) :
    wpAny (model G.prog G.w) A (eval (.Name x pos) env) Q E s :=
  Name_function_global fs.fk hk (loadGlobal_builtin (fs.gl ▸ ns_real fs.wd.g) (fs.wd.bi _ hv).1 (fs.bl ▸ ns_real fs.wd.b) (fs.wd.bi _ hv).2 h) hd
theorem ev_const {x : Str} {pos : Pos} {d : PyData} (hm : (x, d) ∈ consts) (hk : env.kindOf x = some .globalImplicit) (hd : (x == ("__debug__" : Str)) = false) : Ev G R k env ρ (.Name x pos) d := by
  intro A s rm fs p
  obtain ⟨v, e, q⟩ := fs.wd.cst _ hm
  exact glob_load fs e hk hd ⟨q.mono (fun b o _ _ e _ => Heap.of_hide e), Rel.refl p⟩
/-! ### literals -/
theorem ev_int {i : Int} {u : Nat} {pos : Pos} : Ev G R k env ρ (.Constant (.int i) u pos) (.int i) := fun _ _ _ _ p => wpAny_Constant_int ⟨.int _ _, Rel.of_keeps p (keeps_toks _)⟩
theorem ev_str {x : Str} {u : Nat} {pos : Pos} : Ev G R k env ρ (.Constant (.str x) u pos) (.str x) := fun _ _ _ _ p => wpAny_Constant_str ⟨.str _ _, Rel.of_keeps p (keeps_toks _)⟩
theorem ev_none {u : Nat} {pos : Pos} : Ev G R k env ρ (.Constant .none u pos) .none := fun _ _ _ _ p => wpAny_Constant_none ⟨.none, Rel.refl p⟩
theorem ev_bool {b : Bool} {u : Nat} {pos : Pos} : Ev G R k env ρ (.Constant (.bool b) u pos) (.bool b) := fun _ _ _ _ p => wpAny_Constant_bool ⟨.bool _, Rel.refl p⟩

/-! ### operators -/
theorem ev_binop {l r : Expr} {op : Operator} {pos : Pos} {d1 d2 d : PyData} (h1 : Ev G R k env ρ l d1) (h2 : Ev G R k env ρ r d2) (h : Op2 G R k (binaryOp op) d1 d2 d) : Ev G R k env ρ (.BinOp l op r pos) d := by
  intro A s rm fs p
  refine wpAny_BinOp (h1.run rm fs p fun v1 s1 r1 a1 f1 p1 _ => h2.run rm f1 p1 fun v2 s2 r2 a2 f2 p2 k2 => ?_)
  exact gives_mono (h A s2 v1 v2 rm f2.wh p2 (r1.mono k2) r2) fun v s3 r3 a3 => ⟨r3, (a1.trans a2).trans a3⟩
theorem ev_unary {x : Expr} {op : UnaryOp} {pos : Pos} {d1 d : PyData} (h1 : Ev G R k env ρ x d1) (h : Op1 G R k (unaryOp op) d1 d) : Ev G R k env ρ (.UnaryOp op x pos) d := by
  intro A s rm fs p
  refine wpAny_UnaryOp (h1.run rm fs p fun v1 s1 r1 a1 f1 p1 _ => ?_)
  exact gives_mono (h A s1 v1 rm f1.wh p1 r1) fun v s3 r3 a3 => ⟨r3, a1.trans a3⟩
theorem ev_cmp {l r : Expr} {op : CmpOp} {pos : Pos} {d1 d2 d : PyData} (h1 : Ev G R k env ρ l d1) (h2 : Ev G R k env ρ r d2) (h : Op2 G R k (compareOp op) d1 d2 d) (hm : behindInMarks op r = false) : Ev G R k env ρ (.Compare l [op] [r] pos) d := by
  intro A s rm fs p
  refine wpAny_Compare1 (h1.run rm fs p fun v1 s1 r1 a1 f1 p1 _ => h2.run rm f1 p1 fun v2 s2 r2 a2 f2 p2 k2 => ?_) hm
  exact gives_mono (h A s2 v1 v2 rm f2.wh p2 (r1.mono k2) r2) fun v s3 r3 a3 => ⟨r3, (a1.trans a2).trans a3⟩
theorem tr_cmp {l r : Expr} {op : CmpOp} {pos : Pos} {d1 d2 : PyData} {b : Bool} (h1 : Ev G R k env ρ l d1) (h2 : Ev G R k env ρ r d2) (h : Op2 G R k (compareOp op) d1 d2 (.bool b)) (hm : behindInMarks op r = false) : Tr G R k env ρ (.Compare l [op] [r] pos) b := by
  intro A s rm fs p
  refine wpAny_isTrue_Compare1 (h1.run rm fs p fun v1 s1 r1 a1 f1 p1 _ => h2.run rm f1 p1 fun v2 s2 r2 a2 f2 p2 k2 => ?_) hm
  refine gives_mono (h A s2 v1 v2 rm f2.wh p2 (r1.mono k2) r2) fun v s3 r3 a3 => ?_
  cases r3
  exact wpAny_truthy_bool ⟨rfl, (a1.trans a2).trans a3⟩
theorem ev_ifexp {t b o : Expr} {pos : Pos} {c : Bool} {d : PyData} (h : Tr G R k env ρ t c) (h1 : c = true → Ev G R k env ρ b d) (h2 : c = false → Ev G R k env ρ o d) : Ev G R k env ρ (.IfExp t b o pos) d := by
  intro A s rm fs p
  refine wpAny_IfExp (h.run rm fs p fun s1 a1 f1 p1 _ => ?_)
  cases c with
  | true => exact (h1 rfl).run rm f1 p1 fun v s2 r2 a2 _ _ _ => ⟨r2, a1.trans a2⟩
  | false => exact (h2 rfl).run rm f1 p1 fun v s2 r2 a2 _ _ _ => ⟨r2, a1.trans a2⟩
theorem tr_not {x : Expr} {pos : Pos} {b : Bool} (h : Tr G R k env ρ x b) : Tr G R k env ρ (.UnaryOp .Not x pos) (!b) := by
  intro A s rm fs p
  exact wpAny_isTrue_Not (h.run rm fs p fun s1 a1 _ _ _ => ⟨rfl, a1⟩)
/-- and, or: the right side only where it is asked -/
theorem tr_or {x y : Expr} {pos : Pos} {a b : Bool} (h1 : Tr G R k env ρ x a) (h2 : a = false → Tr G R k env ρ y b) : Tr G R k env ρ (.BoolOp .Or [x, y] pos) (a || b) := by
  intro A s rm fs p
  refine wpAny_isTrue_BoolOp (wpAny_allTrue_Or_cons (h1.run rm fs p fun s1 a1 f1 p1 _ => ?_))
  cases a with
  | true => exact ⟨rfl, a1⟩
  | false =>
    refine wpAny_allTrue_Or_cons ((h2 rfl).run rm f1 p1 fun s2 a2 f2 p2 _ => ?_)
    cases b with
    | true => exact ⟨rfl, a1.trans a2⟩
    | false => exact wpAny_allTrue_Or_nil ⟨rfl, a1.trans a2⟩
theorem tr_or3 {x y z : Expr} {pos : Pos} {a b c : Bool} (h1 : Tr G R k env ρ x a) (h2 : a = false → Tr G R k env ρ y b) (h3 : a = false → b = false → Tr G R k env ρ z c) : Tr G R k env ρ (.BoolOp .Or [x, y, z] pos) (a || b || c) := by
  intro A s rm fs p
  refine wpAny_isTrue_BoolOp (wpAny_allTrue_Or_cons (h1.run rm fs p fun s1 a1 f1 p1 _ => ?_))
  cases a with
  | true => exact ⟨rfl, a1⟩
  | false =>
    refine wpAny_allTrue_Or_cons ((h2 rfl).run rm f1 p1 fun s2 a2 f2 p2 _ => ?_)
    cases b with
    | true => exact ⟨rfl, a1.trans a2⟩
    | false =>
      refine wpAny_allTrue_Or_cons ((h3 rfl rfl).run rm f2 p2 fun s3 a3 f3 p3 _ => ?_)
      cases c with
      | true => exact ⟨rfl, (a1.trans a2).trans a3⟩
      | false => exact wpAny_allTrue_Or_nil ⟨rfl, (a1.trans a2).trans a3⟩
theorem tr_and {x y : Expr} {pos : Pos} {a b : Bool} (h1 : Tr G R k env ρ x a) (h2 : a = true → Tr G R k env ρ y b) : Tr G R k env ρ (.BoolOp .And [x, y] pos) (a && b) := by
  intro A s rm fs p
  refine wpAny_isTrue_BoolOp (wpAny_allTrue_And_cons (h1.run rm fs p fun s1 a1 f1 p1 _ => ?_))
  cases a with
  | false => exact ⟨rfl, a1⟩
  | true =>
    refine wpAny_allTrue_And_cons ((h2 rfl).run rm f1 p1 fun s2 a2 f2 p2 _ => ?_)
    cases b with
    | false => exact ⟨rfl, a1.trans a2⟩
    | true => exact wpAny_allTrue_And_nil ⟨rfl, a1.trans a2⟩
theorem tr_and3 {x y z : Expr} {pos : Pos} {a b c : Bool} (h1 : Tr G R k env ρ x a) (h2 : a = true → Tr G R k env ρ y b) (h3 : a = true → b = true → Tr G R k env ρ z c) : Tr G R k env ρ (.BoolOp .And [x, y, z] pos) (a && b && c) := by
  intro A s rm fs p
  refine wpAny_isTrue_BoolOp (wpAny_allTrue_And_cons (h1.run rm fs p fun s1 a1 f1 p1 _ => ?_))
  cases a with
  | false => exact ⟨rfl, a1⟩
  | true =>
    refine wpAny_allTrue_And_cons ((h2 rfl).run rm f1 p1 fun s2 a2 f2 p2 _ => ?_)
    cases b with
    | false => exact ⟨rfl, a1.trans a2⟩
    | true =>
      refine wpAny_allTrue_And_cons ((h3 rfl rfl).run rm f2 p2 fun s3 a3 f3 p3 _ => ?_)
      cases c with
      | false => exact ⟨rfl, (a1.trans a2).trans a3⟩
      | true => exact wpAny_allTrue_And_nil ⟨rfl, (a1.trans a2).trans a3⟩
end
end Bx
end

section
open PySem PySem.W PyProof.Rows PySem.Calls PySem.Spec
namespace Bx
section
variable {G : Gl} {R : Bool} {k : Nat}

theorem tokRep {s : Shared} {i : Int} (p : Pre G R s) : Rep { s with toks := s.toks + 1 }.heap (.int i s.toks) (.int i) ∧ Rel G R s { s with toks := s.toks + 1 } := ⟨.int _ _, Rel.of_keeps p (keeps_toks _)⟩
theorem o_add {a b : Int} : Op2 G R k (binaryOp .Add) (.int a) (.int b) (.int (a + b)) := fun A s _ _ _ _ p r1 r2 => by cases r1; cases r2; exact PyProof.Rows.add_int (tokRep p)
theorem o_sub {a b : Int} : Op2 G R k (binaryOp .Sub) (.int a) (.int b) (.int (a - b)) := fun A s _ _ _ _ p r1 r2 => by cases r1; cases r2; exact sub_int (tokRep p)
theorem o_mod {a b : Int} (h : b ≠ 0) : Op2 G R k (binaryOp .Mod) (.int a) (.int b) (.int (a.fmod b)) := fun A s _ _ _ _ p r1 r2 => by cases r1; cases r2; exact mod_int h (tokRep p)
theorem o_fdiv {a b : Int} (h : b ≠ 0) (hb : b.natAbs.log2 < 9000) : Op2 G R k (binaryOp .FloorDiv) (.int a) (.int b) (.int (a.fdiv b)) := fun A s _ _ _ _ p r1 r2 => by cases r1; cases r2; exact floordiv_int h (tokRep p) (.inl (PyProof.noPylong_of_log2 hb))
theorem o_mul {a b : Int} (h : IntMulOk a b) : Op2 G R k (binaryOp .Mult) (.int a) (.int b) (.int (a * b)) := fun A s _ _ _ _ p r1 r2 => by cases r1; cases r2; exact mul_int (tokRep p) h
theorem o_xor {a b : Int} : Op2 G R k (binaryOp .BitXor) (.int a) (.int b) (.int (Builtin.bitXor a b)) := fun A s _ _ _ _ p r1 r2 => by cases r1; cases r2; exact xor_int (tokRep p)
theorem o_and {a b : Int} : Op2 G R k (binaryOp .BitAnd) (.int a) (.int b) (.int (Builtin.bitAnd a b)) := fun A s _ _ _ _ p r1 r2 => by cases r1; cases r2; exact and_int (tokRep p)
theorem o_or {a b : Int} : Op2 G R k (binaryOp .BitOr) (.int a) (.int b) (.int (Builtin.bitOr a b)) := fun A s _ _ _ _ p r1 r2 => by cases r1; cases r2; exact or_int (tokRep p)
theorem o_shr {a n : Int} (h : 0 ≤ n) : Op2 G R k (binaryOp .RShift) (.int a) (.int n) (.int (a.fdiv (2 ^ n.toNat))) := fun A s _ _ _ _ p r1 r2 => by cases r1; cases r2; exact rshift_int h (tokRep p)
theorem o_shl {a n : Int} (h : 0 ≤ n) (hs : (Builtin.Int.intBits a : Int) + n ≤ 2 ^ 27) : Op2 G R k (binaryOp .LShift) (.int a) (.int n) (.int (a * 2 ^ n.toNat)) := fun A s _ _ _ _ p r1 r2 => by cases r1; cases r2; exact lshift_int h hs (tokRep p)
theorem o_pow {a n : Int} (h : 0 ≤ n) (hs : (Builtin.Int.intBits a : Int) * n ≤ 2 ^ 27) : Op2 G R k (binaryOp .Pow) (.int a) (.int n) (.int (a ^ n.toNat)) := fun A s _ _ _ _ p r1 r2 => by cases r1; cases r2; exact pow_int h hs (tokRep p)
theorem o_neg {a : Int} : Op1 G R k (unaryOp .USub) (.int a) (.int (-a)) := fun A s _ _ _ p r1 => by cases r1; exact neg_int (tokRep p)

theorem bRep {s : Shared} {b : Bool} (p : Pre G R s) : Rep s.heap (.bool b) (.bool b) ∧ Rel G R s s := ⟨.bool _, Rel.refl p⟩
theorem c_eq {a b : Int} : Op2 G R k (compareOp .Eq) (.int a) (.int b) (.bool (a == b)) := fun A s _ _ _ _ p r1 r2 => by cases r1; cases r2; exact eq_int (bRep p)
theorem c_ne {a b : Int} : Op2 G R k (compareOp .NotEq) (.int a) (.int b) (.bool (a != b)) := fun A s _ _ _ _ p r1 r2 => by cases r1; cases r2; exact ne_int (bRep p)
theorem c_lt {a b : Int} : Op2 G R k (compareOp .Lt) (.int a) (.int b) (.bool (decide (a < b))) := fun A s _ _ _ _ p r1 r2 => by cases r1; cases r2; exact lt_int (bRep p)
theorem c_gt {a b : Int} : Op2 G R k (compareOp .Gt) (.int a) (.int b) (.bool (decide (b < a))) := fun A s _ _ _ _ p r1 r2 => by cases r1; cases r2; exact gt_int (bRep p)
theorem c_le {a b : Int} : Op2 G R k (compareOp .LtE) (.int a) (.int b) (.bool (decide (a ≤ b))) := fun A s _ _ _ _ p r1 r2 => by cases r1; cases r2; exact le_int (bRep p)
theorem c_ge {a b : Int} : Op2 G R k (compareOp .GtE) (.int a) (.int b) (.bool (decide (b ≤ a))) := fun A s _ _ _ _ p r1 r2 => by cases r1; cases r2; exact ge_int (bRep p)
theorem c_les {a b : Str} : Op2 G R k (compareOp .LtE) (.str a) (.str b) (.bool (!(b.cps.toList < a.cps.toList))) := fun A s _ _ _ _ p r1 r2 => by cases r1; cases r2; exact P.le_str (bRep p)
/-- equality of any data -/
theorem c_eqv (h0k : 0 < k) {a b : PyData} (ha : a.canLay0 = true) (hb : b.canLay0 = true) (hd : min a.depth b.depth ≤ 20) : Op2 G R k (compareOp .Eq) a b (.bool (PyData.eqv a b)) := fun A s v1 v2 rm _ p r1 r2 => by
  obtain ⟨_, q1⟩ := r1.reads
  obtain ⟨_, q2⟩ := r2.reads
  exact SeqAt.compareEq_reads q1 q2 ha hb (by have := rm.un h0k; omega) (bRep p)
theorem c_nev (h0k : 0 < k) {a b : PyData} (ha : a.canLay0 = true) (hb : b.canLay0 = true) (hd : min a.depth b.depth ≤ 20) : Op2 G R k (compareOp .NotEq) a b (.bool (!PyData.eqv a b)) := fun A s v1 v2 rm _ p r1 r2 => by
  obtain ⟨_, q1⟩ := r1.reads
  obtain ⟨_, q2⟩ := r2.reads
  exact SeqAt.compareNe_reads q1 q2 ha hb (by have := rm.un h0k; omega) (bRep p)
theorem c_in (h0k : 0 < k) {xs : List PyData} {d : PyData} (hx : PyData.canLayAll0 xs = true) (hd : d.canLay0 = true) (h0 : d.depth ≤ 20) : Op2 G R k (compareOp .In) d (.list xs) (.bool (xs.any fun y => PyData.eqv y d)) := fun A s v1 v2 rm _ p r1 r2 => by
  obtain ⟨_, q1⟩ := r1.reads
  obtain ⟨_, q2⟩ := r2.reads
  exact SeqAt.in_list_reads q2 q1 hx hd (by have := rm.un h0k; omega) (bRep p)
theorem c_inStr {x y : Str} : Op2 G R k (compareOp .In) (.str y) (.str x) (.bool (Txt.contains x y)) := fun A s _ _ _ _ p r1 r2 => by cases r1; cases r2; exact P.in_str (bRep p)
theorem c_is {a : PyData} (h : a = .none ∨ (∃ i, a = .int i) ∨ ∃ x, a = .list x) : Op2 G R k (compareOp .Is) a .none (.bool (match a with | .none => true | _ => false)) := fun A s _ _ _ _ p r1 r2 => by
  cases r2
  rcases h with rfl | ⟨i, rfl⟩ | ⟨x, rfl⟩
  · cases r1; exact wpAny_is_plain rfl (bRep p)
  · cases r1; exact wpAny_is_plain rfl (bRep p)
  · cases r1; exact wpAny_is_plain rfl (bRep p)

/-! ### lists, tuples -/
theorem RepAll.ofArr {h : Heap} {vs : Array Value} {ds : List PyData} (r : RepAll h vs.toList ds) : vs.size = ds.length := by rw [← r.length, Array.length_toList]
/-- a fresh list or tuple -/
theorem push_list {s : Shared} {vs : List Value} {ds : List PyData} {tk : Nat} (p : Pre G R s) (r : RepAll s.heap vs ds) :
    Rep (s.heap.push { cls := .type "list", data := .seq vs.toArray }) (.ref s.heap.objs.size) (.list ds) ∧ Rel G R s { s with heap := s.heap.push { cls := .type "list", data := .seq vs.toArray }, toks := tk } :=
  ⟨.list (Heap.get?_push_size _ rfl) rfl rfl (r.mono fun _ _ _ _ e _ => Heap.get?_push_of_some _ e), Rel.of_keeps p keeps_push⟩
theorem push_tuple {s : Shared} {vs : List Value} {ds : List PyData} {tk : Nat} (p : Pre G R s) (r : RepAll s.heap vs ds) :
    Rep (s.heap.push { cls := .type "tuple", data := .seq vs.toArray }) (.ref s.heap.objs.size) (.tuple ds) ∧ Rel G R s { s with heap := s.heap.push { cls := .type "tuple", data := .seq vs.toArray }, toks := tk } :=
  ⟨.tuple (Heap.get?_push_size _ rfl) rfl rfl rfl (r.mono fun _ _ _ _ e _ => Heap.get?_push_of_some _ e), Rel.of_keeps p keeps_push⟩
theorem rep_isList {h : Heap} {v : Value} {ds : List PyData} (r : Rep h v (.list ds)) : ∃ a vs, v = .ref a ∧ h.IsList a vs ∧ RepAll h vs.toList ds := by
  cases r with
  | list h1 h2 h3 h4 => exact ⟨_, _, rfl, ⟨_, h1, h2, _, h3⟩, h4⟩
theorem rep_isTuple {h : Heap} {v : Value} {ds : List PyData} (r : Rep h v (.tuple ds)) : ∃ a vs, v = .ref a ∧ h.IsTuple a vs ∧ RepAll h vs.toList ds := by
  cases r with
  | tuple h1 h2 h3 _ h4 => exact ⟨_, _, rfl, ⟨_, h1, h2, _, h3⟩, h4⟩
theorem o_cat {xs ys : List PyData} (hs : xs.length + ys.length ≤ sizeLine) : Op2 G R k (binaryOp .Add) (.list xs) (.list ys) (.list (xs ++ ys)) := fun A s v1 v2 _ _ p r1 r2 => by
  obtain ⟨l, vs, rfl, h1, q1⟩ := rep_isList r1
  obtain ⟨m, ws, rfl, h2, q2⟩ := rep_isList r2
  obtain ⟨⟨c1, d1, t1, sl1⟩, e1, f1, n1, g1⟩ := id h1
  obtain ⟨⟨c2, d2, t2, sl2⟩, e2, f2, n2, g2⟩ := id h2
  simp only at f1 f2 g1 g2
  subst f1 f2 g1 g2
  have hz : vs.size + ws.size ≤ sizeLine := by rw [q1.ofArr, q2.ofArr]; exact hs
  refine wpAny_binaryOp_concat (T := "list") ⟨_, e1, rfl⟩ ⟨_, e2, rfl⟩ noFill_list_add seq_list_add ?_
  refine call_meets F.slot_list_add ⟨_, e1, rfl⟩ F.entry_list_add (F.args_list_add_2 _ _) (list_addW l m vs ws _ _ _ _ _ _ hz) ⟨e1, e2, ?_⟩
  have := push_list (tk := s.toks) p (q1.append q2)
  have e : (vs.toList ++ ws.toList).toArray = vs ++ ws := by simp
  rw [e] at this
  exact this
theorem o_list {vs : List Value} {ds : List PyData} {A : Around} {s : Shared} (p : Pre G R s) (r : RepAll s.heap vs ds) (hs : ds.length ≤ sizeLine) : Gives G R A (newList vs) (.list ds) s :=
  wpAny_newObj_type (push_list p r) (by show vs.toArray.size ≤ sizeLine; rw [List.size_toArray, r.length]; exact hs)
theorem o_tuple {vs : List Value} {ds : List PyData} {A : Around} {s : Shared} (p : Pre G R s) (r : RepAll s.heap vs ds) (hs : ds.length ≤ sizeLine) : Gives G R A (newTuple vs) (.tuple ds) s :=
  wpAny_newObj_type (push_tuple p r) (by show vs.toArray.size ≤ sizeLine; rw [List.size_toArray, r.length]; exact hs)
theorem o_rep {xs : List PyData} {n : Int} (hlo : -(2 ^ 63 : Int) ≤ n) (hhi : n < 2 ^ 63) (hs : xs.length * n.toNat ≤ 2 ^ 24) : Op2 G R k (binaryOp .Mult) (.list xs) (.int n) (.list (List.replicate n.toNat xs).flatten) := fun A s v1 v2 _ _ p r1 r2 => by
  obtain ⟨l, vs, rfl, h1, q1⟩ := rep_isList r1
  cases r2 with
  | int _ u =>
  obtain ⟨⟨c1, d1, t1, sl1⟩, e1, f1, n1, g1⟩ := id h1
  simp only at f1 g1
  subst f1 g1
  have hz : vs.size * n.toNat ≤ 2 ^ 24 := by rw [q1.ofArr]; exact hs
  refine wpAny_binaryOp_repeat_ref (T := "list") (U := "int") (by decide) ⟨_, e1, rfl⟩ (fun s' => typeIs_int s' n u) noFill_list_mul F.fills_int_mul F.slot_int_rmul repeat_list F.slot_int_index.lookup
    (call_meets F.slot_int_rmul (typeIs_int s n u) F.entry_int_rmul (F.args_int_rmul_2 _ _) (lm_int_rmul_list_any n u l vs _ _ _)
      ⟨e1, rfl, ⟨_, e1, rfl⟩, call_meets F.slot_list_mul ⟨_, e1, rfl⟩ F.entry_list_mul (F.args_list_mul_2 _ _)
        (lm_list_mul_any l vs _ _ _ n u (by simp [Builtin.List.listFitsIndex]; omega) (by omega) (by simp [Builtin.List.listTooLong, sizeLine]; omega))
        ⟨e1, ?_⟩⟩)
  have hr : RepAll s.heap (List.replicate n.toNat vs.toList).flatten (List.replicate n.toNat xs).flatten := by
    generalize n.toNat = j
    induction j with
    | zero => exact .nil
    | succ j ih => rw [List.replicate_succ, List.replicate_succ, List.flatten_cons, List.flatten_cons]; exact q1.append ih
  have := push_list (tk := s.toks) p hr
  rw [listMul_foldl_if]
  exact this

/-! ### texts -/
theorem o_cats {x y : Str} (hs : x.length + y.length ≤ sizeLine) : Op2 G R k (binaryOp .Add) (.str x) (.str y) (.str (x ++ y)) := fun A s _ _ _ _ p r1 r2 => by
  cases r1; cases r2
  exact PyProof.Rows.add_str (fun t tk => ⟨.str _ _, Rel.of_keeps p (keeps_toks _)⟩) hs

/-! ### truth -/
def truth : PyData → Bool
  | .none => false
  | .bool b => b
  | .int i => i != 0
  | .list l => !l.isEmpty
  | _ => false
def hasTruth : PyData → Bool
  | .none | .bool _ | .int _ => true
  | .list l => decide (l.length < 2 ^ 62)
  | _ => false
theorem o_truth {d : PyData} {A : Around} {s : Shared} {v : Value} (h : hasTruth d = true) (p : Pre G R s) (r : Rep s.heap v d) : wpAny (model G.prog G.w) A (truthy v) (fun b s' => b = truth d ∧ Rel G R s s') noE s := by
  cases r with
  | none => exact PyProof.Rows.truthy_none ⟨rfl, Rel.refl p⟩
  | bool b => exact wpAny_truthy_bool ⟨rfl, Rel.refl p⟩
  | int i t => exact PyProof.Rows.truthy_int ⟨rfl, Rel.refl p⟩
  | str _ _ => cases h
  | tuple _ _ _ _ _ => cases h
  | @list a o vs n ds h1 h2 h3 h4 =>
    have hz := h4.ofArr
    have hl : ds.length < 2 ^ 62 := of_decide_eq_true h
    refine wpAny_truthy_list ⟨_, h1, h2, _, h3⟩ (by omega) ⟨?_, Rel.of_keeps p (keeps_toks _)⟩
    show (!vs.isEmpty) = !ds.isEmpty
    congr 1
    rw [Array.isEmpty, Bool.eq_iff_iff]
    simp [hz]
theorem tr_val {e : Expr} {env : Env} {ρ : Rho} {d : PyData} (h : Ev G R k env ρ e d) (ht : hasTruth d = true) (he : isTrue e env (eval e env) = (do let v ← eval e env; standAt e.pos; holding [v] (truthy v))) : Tr G R k env ρ e (truth d) := by
  intro A s rm fs p
  refine wpAny_isTrue_value (h.run rm fs p fun v s1 r1 a1 f1 p1 _ => ?_) he
  exact wpAny_mono (o_truth ht p1 r1) (fun b s2 x => ⟨x.1, a1.trans x.2⟩) fun _ _ x => x
end
end Bx
end

section
open PySem PySem.W PyProof.Rows PySem.Calls PySem.Spec
namespace Bx

def EvL (G : Gl) (R : Bool) (k : Nat) (env : Env) (ρ : Rho) (pos : Pos) (es : List Expr) (ds : List PyData) : Prop :=
  ∀ A s, Room k A → FS G env ρ s → Pre G R s → wpAny (model G.prog G.w) A (spliced (backTo pos (starEach es env))) (fun vs s' => RepAll s'.heap vs ds ∧ Rel G R s s') noE s
/-- a part of a slice -/
def EvP (G : Gl) (R : Bool) (k : Nat) (env : Env) (ρ : Rho) : Option Expr → Option Int → Prop
  | none, none => True
  | some e, some i => Ev G R k env ρ e (.int i)
  | _, _ => False

section
variable {G : Gl} {R : Bool} {k : Nat} {env : Env} {ρ : Rho}
theorem evl_nil {pos : Pos} : EvL G R k env ρ pos [] [] := fun _ _ _ _ p => wpAny_items_nil ⟨.nil, Rel.refl p⟩
theorem evl_cons {pos : Pos} {e : Expr} {es : List Expr} {d : PyData} {ds : List PyData} (h1 : Ev G R k env ρ e d) (h2 : EvL G R k env ρ pos es ds) (he : starEach (e :: es) env = (false, eval e env) :: starEach es env) : EvL G R k env ρ pos (e :: es) (d :: ds) := by
  intro A s rm fs p
  refine wpAny_items_cons (h1.run rm fs p fun v s1 r1 a1 f1 p1 _ => ?_) he
  exact wpAny_mono (h2 A s1 rm f1 p1) (fun vs s2 x => ⟨.cons (r1.mono (x.2.seq p1)) x.1, a1.trans x.2⟩) fun _ _ x => x
theorem EvL.run {A : Around} {s : Shared} {pos : Pos} {es : List Expr} {ds : List PyData} {Q : List Value → Shared → Prop} {E : Value → Shared → Prop} (h : EvL G R k env ρ pos es ds) (rm : Room k A) (fs : FS G env ρ s) (p : Pre G R s)
    (hQ : ∀ vs s', RepAll s'.heap vs ds → Rel G R s s' → FS G env ρ s' → Pre G R s' → SeqKept s.heap s'.heap → Q vs s') : wpAny (model G.prog G.w) A (spliced (backTo pos (starEach es env))) Q E s :=
  wpAny_mono (h A s rm fs p) (fun vs s' x => hQ vs s' x.1 x.2 (fs.step x.2 p) x.2.pre (x.2.seq p)) fun _ _ x => x.elim
theorem EvL.lift {pos : Pos} {es : List Expr} {ds : List PyData} (h : EvL G false k env ρ pos es ds) : EvL G R k env ρ pos es ds := fun A s rm fs p =>
  wpAny_mono (h A s rm fs (fun e => by cases e)) (fun _ _ x => ⟨x.1, Rel.of_keeps p x.2⟩) fun _ _ x => x

theorem ev_list {es : List Expr} {ds : List PyData} {pos : Pos} (h : EvL G R k env ρ pos es ds) (hs : ds.length ≤ sizeLine) : Ev G R k env ρ (.List es pos) (.list ds) := by
  intro A s rm fs p
  refine List_ (h.run rm fs p fun vs s1 r1 a1 f1 p1 _ => ?_)
  exact gives_mono (o_list p1 r1 hs) fun v s2 r2 a2 => ⟨r2, a1.trans a2⟩
theorem ev_tuple {es : List Expr} {ds : List PyData} {u : Nat} {pos : Pos} (h : EvL G R k env ρ pos es ds) (hs : ds.length ≤ sizeLine) : Ev G R k env ρ (.Tuple es u pos) (.tuple ds) := by
  intro A s rm fs p
  refine Tuple_ (h.run rm fs p fun vs s1 r1 a1 f1 p1 _ => ?_)
  exact gives_mono (o_tuple p1 r1 hs) fun v s2 r2 a2 => ⟨r2, a1.trans a2⟩

/-! ### places -/
theorem tail_b {prog : Program} {w : World} {A : Around} {E : Value → Shared → Prop} {s : Shared} {value slice : Expr} {o i : Value} {T id : String} {Q : Value → Shared → Prop} (hT : s.TypeIs o T)
    (hl : typeLookup (.type T) "__getitem__" = pure (some (.builtin id))) (h : wpAny (model prog w) A (getItem o i) Q E s)
    (hs : ∃ ops, subscripted slice false o i = operate ops (getItem o i)) : wpAny (model prog w) A (subscriptTail value slice o i) Q E s := by
  unfold subscriptTail
  refine wpAny_bind ?_
  rw [getitemInPython_of_ne hT.not_modules]
  refine wpAny_bind (wpAny_specialOf hT hl ?_)
  have fin : wpAny (model prog w) A (subscripted slice false o i) (fun r s₃ => wpAny (model prog w) A (letTemporaryGo value o r >>= fun _ => pure r) Q E s₃) E s := by
    obtain ⟨ops, hs⟩ := hs
    rw [hs]
    exact wpAny_operating (wpAny_mono h (fun r s₃ h₃ => wpAny_bind (wpAny_letTemporaryGo (wpAny_pure h₃))) fun _ _ x => x)
  first
    | exact wpAny_pure (wpAny_bind fin)
    | exact wpAny_bind (wpAny_pure (wpAny_bind fin))
    | exact wpAny_bind fin
theorem ev_item_list {value slice : Expr} {pos : Pos} {ds : List PyData} {i : Int} {d : PyData} (h1 : Ev G R k env ρ value (.list ds)) (h2 : Ev G R k env ρ slice (.int i)) (hd : (if i < 0 then i + ds.length else i) ≥ 0 ∧ ds[(if i < 0 then i + ds.length else i).toNat]? = some d) (hl : ds.length < 2 ^ 62)
    (hs : ∀ o i, subscripted slice false o i = operate [o, i] (getItem o i)) : Ev G R k env ρ (.Subscript value slice pos) d := by
  intro A s rm fs p
  refine Subscript_ (h1.run rm fs p fun v1 s1 r1 a1 f1 p1 _ => h2.run rm f1 p1 fun v2 s2 r2 a2 f2 p2 k2 => ?_)
  obtain ⟨l, vs, rfl, il, q⟩ := rep_isList (r1.mono k2)
  cases r2 with
  | int _ u =>
  obtain ⟨hd0, hd⟩ := hd
  obtain ⟨v, hv, rv⟩ := q.get hd
  have hz := q.ofArr
  refine tail_b il.typeIs slot_list_getitem.lookup ?_ ⟨_, hs _ _⟩
  have hlt := (List.getElem?_eq_some_iff.mp hd).1
  by_cases hi : i < 0
  · rw [if_pos hi] at hd0 hv hlt
    exact wpAny_getItem_list_neg il hi (by omega) (by omega) (by rw [hz]; rw [← Array.getElem?_toList]; exact hv) ⟨rv, a1.trans a2⟩
  · rw [if_neg hi] at hv hlt
    exact wpAny_getItem_list il (by omega) (by omega) (by rw [← Array.getElem?_toList]; exact hv) ⟨rv, a1.trans a2⟩
theorem ev_item_tuple {value slice : Expr} {pos : Pos} {ds : List PyData} {i : Int} {d : PyData} (h1 : Ev G R k env ρ value (.tuple ds)) (h2 : Ev G R k env ρ slice (.int i)) (h0 : 0 ≤ i) (hd : ds[i.toNat]? = some d) (hl : ds.length < 2 ^ 62)
    (hs : ∀ o i, subscripted slice false o i = operate [o, i] (getItem o i)) : Ev G R k env ρ (.Subscript value slice pos) d := by
  intro A s rm fs p
  refine Subscript_ (h1.run rm fs p fun v1 s1 r1 a1 f1 p1 _ => h2.run rm f1 p1 fun v2 s2 r2 a2 f2 p2 k2 => ?_)
  obtain ⟨l, vs, rfl, il, q⟩ := rep_isTuple (r1.mono k2)
  cases r2 with
  | int _ u =>
  obtain ⟨v, hv, rv⟩ := q.get hd
  have hz := q.ofArr
  have hlt := (List.getElem?_eq_some_iff.mp hd).1
  exact tail_b il.typeIs slot_tuple_getitem.lookup (PyProof.Rows.getItem_tuple il (by omega) (by omega) (StrLaws.seqIndex_nonneg h0 (by rw [hz]; omega)) (by rw [← Array.getElem?_toList]; exact hv) ⟨rv, a1.trans a2⟩) ⟨_, hs _ _⟩
theorem ev_item_str {value slice : Expr} {pos : Pos} {x : Str} {i : Int} (h1 : Ev G R k env ρ value (.str x)) (h2 : Ev G R k env ρ slice (.int i)) (h0 : 0 ≤ i) (hi : i < x.length) (hl : x.length ≤ sizeLine)
    (hs : ∀ o i, subscripted slice false o i = operate [o, i] (getItem o i)) : Ev G R k env ρ (.Subscript value slice pos) (.str (Txt.item x i)) := by
  intro A s rm fs p
  refine Subscript_ (h1.run rm fs p fun v1 s1 r1 a1 f1 p1 _ => h2.run rm f1 p1 fun v2 s2 r2 a2 f2 p2 k2 => ?_)
  cases r1 with
  | str _ t =>
  cases r2 with
  | int _ u =>
  rw [sizeLine_eq] at hl
  refine tail_b (T := "str") (typeIs_str _ _ _) F.slot_str_getitem.lookup (SB.getItem ?_ (PyProof.Rows.charAt_isSome (by omega) hi) ⟨.str _ _, (a1.trans a2).trans (Rel.of_keeps p2 (keeps_toks _))⟩) ⟨_, hs _ _⟩
  simp [fitsSsize]; omega

/-! ### slices -/
def pickD (l : List PyData) (lo hi : Option Int) : List PyData := (l.drop (kms_lo lo l.length)).take (kms_hi hi l.length - kms_lo lo l.length)
theorem pick_rep {h : Heap} {vs : List Value} {ds : List PyData} (r : RepAll h vs ds) (lo hi : Option Int) : RepAll h (kms_pick vs lo hi) (pickD ds lo hi) := by
  unfold kms_pick pickD
  rw [r.length]
  exact (r.drop _).take _
theorem part_run {A : Around} {s : Shared} {e : Option Expr} {i : Option Int} {Q E : Value → Shared → Prop} (h : EvP G R k env ρ e i) (rm : Room k A) (fs : FS G env ρ s) (p : Pre G R s)
    (hQ : ∀ v s', IsPart v i → Rel G R s s' → FS G env ρ s' → Pre G R s' → SeqKept s.heap s'.heap → Q v s') : wpAny (model G.prog G.w) A (evalPart e env) Q E s := by
  cases e with
  | none =>
    cases i with
    | none => exact wpAny_evalPart_none (hQ _ _ .none (Rel.refl p) fs p fun _ _ _ _ e _ => e)
    | some i => exact h.elim
  | some e =>
    cases i with
    | none => exact h.elim
    | some i =>
      exact wpAny_evalPart_some (Ev.run (show Ev G R k env ρ e (.int i) from h) rm fs p fun v s' r a f p' q => by cases r; exact hQ _ _ (.int _ _) a f p' q)
theorem ev_slice_list {value : Expr} {lower upper : Option Expr} {sp pos : Pos} {ds : List PyData} {lo hi : Option Int} (h1 : Ev G R k env ρ value (.list ds)) (h2 : EvP G R k env ρ lower lo) (h3 : EvP G R k env ρ upper hi) (hl : ds.length ≤ sizeLine) :
    Ev G R k env ρ (.Subscript value (.Slice lower upper none sp) pos) (.list (pickD ds lo hi)) := by
  intro A s rm fs p
  refine Subscript_ (h1.run rm fs p fun v1 s1 r1 a1 f1 p1 _ => wpAny_Slice (part_run h2 rm f1 p1 fun v2 s2 i2 a2 f2 p2 k2 => part_run h3 rm f2 p2 fun v3 s3 i3 a3 f3 p3 k3 => ?_))
  refine wpAny_evalPart_none ?_
  obtain ⟨l, vs, rfl, il, q⟩ := rep_isList ((r1.mono k2).mono k3)
  refine tail_b (il.push _).typeIs slot_list_getitem.lookup (wpAny_getItem_list_slice (il.push _) (Heap.IsSliceOf.new ..) i2 i3 .none (by simp) ?_ (by rw [q.ofArr]; exact hl)) ⟨_, rfl⟩
  rw [kms_pick_eq]
  have pr : Rel G R s3 { s3 with heap := s3.heap.push { cls := .type "slice", data := .fields #[v2, v3, .none] } } := Rel.of_keeps p3 keeps_push
  have q' := (pick_rep q lo hi).mono (pr.seq p3)
  have := push_list (tk := s3.toks) pr.pre q'
  exact ⟨this.1, ((a1.trans a2).trans a3).trans (pr.trans this.2)⟩

theorem slice_nat {x : Str} {lo hi : Option Int} : Txt.slice x lo hi = StrLaws.sliceText x lo hi := rfl
theorem ev_slice_str {value : Expr} {lower upper : Option Expr} {sp pos : Pos} {x : Str} {lo hi : Option Int} (h1 : Ev G R k env ρ value (.str x)) (h2 : EvP G R k env ρ lower lo) (h3 : EvP G R k env ρ upper hi) (hl : x.length ≤ sizeLine) :
    Ev G R k env ρ (.Subscript value (.Slice lower upper none sp) pos) (.str (Txt.slice x lo hi)) := by
  intro A s rm fs p
  refine Subscript_ (h1.run rm fs p fun v1 s1 r1 a1 f1 p1 _ => wpAny_Slice (part_run h2 rm f1 p1 fun v2 s2 i2 a2 f2 p2 k2 => part_run h3 rm f2 p2 fun v3 s3 i3 a3 f3 p3 k3 => ?_))
  refine wpAny_evalPart_none ?_
  cases r1 with
  | str _ t =>
  have pr : Rel G R s3 { s3 with heap := s3.heap.push { cls := .type "slice", data := .fields #[v2, v3, .none] } } := Rel.of_keeps p3 keeps_push
  refine tail_b (T := "str") (typeIs_str _ _ _) F.slot_str_getitem.lookup ?_ ⟨_, rfl⟩
  have fin : ∀ (l u : Option (Int × Tok)), v2 = partValue l → v3 = partValue u → l.map (·.1) = lo → u.map (·.1) = hi → wpAny (model G.prog G.w) A (getItem (.str x t) (.ref s3.heap.objs.size)) (fun v s' => Rep s'.heap v (.str (Txt.slice x lo hi)) ∧ Rel G R s s') noE { s3 with heap := s3.heap.push { cls := .type "slice", data := .fields #[v2, v3, .none] } } := by
    rintro l u rfl rfl rfl rfl
    refine wpAny_getItem_str_slice (l := l) (u := u) (st := none) ⟨_, Heap.get?_push_size _ rfl, rfl, rfl⟩ rfl ?_
    refine post_val_or_str ⟨Nat.le_trans (Txt.slice_le x _ _) hl, fun t' tk => ⟨.str _ _, ?_⟩⟩
    exact (((a1.trans a2).trans a3).trans pr).trans (Rel.of_keeps pr.pre (keeps_toks _))
  cases i2 with
  | none =>
    cases i3 with
    | none => exact fin none none rfl rfl rfl rfl
    | int j t2 => exact fin none (some (j, t2)) rfl rfl rfl rfl
  | int i t1 =>
    cases i3 with
    | none => exact fin (some (i, t1)) none rfl rfl rfl rfl
    | int j t2 => exact fin (some (i, t1)) (some (j, t2)) rfl rfl rfl rfl

/-- reversed: v[::-1] -/
theorem ev_rev_list {value st : Expr} {sp pos : Pos} {ds : List PyData} (h1 : Ev G R k env ρ value (.list ds)) (h2 : Ev G R k env ρ st (.int (-1))) (hl : ds.length ≤ sizeLine) : Ev G R k env ρ (.Subscript value (.Slice none none (some st) sp) pos) (.list ds.reverse) := by
  intro A s rm fs p
  refine Subscript_ (h1.run rm fs p fun v1 s1 r1 a1 f1 p1 _ => wpAny_Slice (wpAny_evalPart_none (wpAny_evalPart_none (wpAny_evalPart_some (h2.run rm f1 p1 fun v3 s3 r3 a3 f3 p3 k3 => ?_)))))
  cases r3 with
  | int _ u =>
  obtain ⟨l, vs, rfl, il, q⟩ := rep_isList (r1.mono k3)
  refine tail_b (il.push _).typeIs slot_list_getitem.lookup (wpAny_getItem_list_slice (il.push _) (Heap.IsSliceOf.new ..) .none .none (.int _ _) (by decide) ?_ (by rw [q.ofArr]; exact hl)) ⟨_, rfl⟩
  rw [krv_pick]
  have pr : Rel G R s3 { s3 with heap := s3.heap.push { cls := .type "slice", data := .fields #[.none, .none, .int (-1) u] } } := Rel.of_keeps p3 keeps_push
  have := push_list (tk := s3.toks) pr.pre (q.reverse.mono (pr.seq p3))
  exact ⟨this.1, (a1.trans a3).trans (pr.trans this.2)⟩
theorem ev_rev_str {value st : Expr} {sp pos : Pos} {x : Str} (h1 : Ev G R k env ρ value (.str x)) (h2 : Ev G R k env ρ st (.int (-1))) (hl : x.length ≤ sizeLine) : Ev G R k env ρ (.Subscript value (.Slice none none (some st) sp) pos) (.str ⟨x.cps.toList.reverse.toArray⟩) := by
  intro A s rm fs p
  refine Subscript_ (h1.run rm fs p fun v1 s1 r1 a1 f1 p1 _ => wpAny_Slice (wpAny_evalPart_none (wpAny_evalPart_none (wpAny_evalPart_some (h2.run rm f1 p1 fun v3 s3 r3 a3 f3 p3 k3 => ?_)))))
  cases r3 with
  | int _ u =>
  cases r1 with
  | str _ t =>
  have pr : Rel G R s3 { s3 with heap := s3.heap.push { cls := .type "slice", data := .fields #[.none, .none, .int (-1) u] } } := Rel.of_keeps p3 keeps_push
  refine tail_b (T := "str") (typeIs_str _ _ _) F.slot_str_getitem.lookup (wpAny_getItem_str_slice (l := none) (u := none) (st := some (-1, u)) ⟨_, Heap.get?_push_size _ rfl, rfl, rfl⟩ rfl ?_) ⟨_, rfl⟩
  have e : sliceMade x t none none (some (-1, u)) = .str ⟨x.cps.toList.reverse.toArray⟩ := by
    unfold sliceMade
    rw [if_neg (by simp)]
    congr 2
    have hp : slicePicked x none none (some (-1, u)) = (List.range x.length).reverse := by
      unfold slicePicked Builtin.Str.strSliceIndices
      show sliceRange ((x.length : Int) - 1) (-1) (-1) = _
      rw [krv_sliceRange, krv_range]
    rw [hp, List.filterMap_reverse]
    exact congrArg (fun l => List.toArray (List.reverse l)) (krv_all x.cps)
  rw [e]
  refine ⟨?_, .str _ _, (a1.trans a3).trans (pr.trans (Rel.of_keeps pr.pre (keeps_toks _)))⟩
  show (List.toArray _).size ≤ _
  simp [Str.length] at hl ⊢
  exact hl
end
end Bx
end

section
open PySem PySem.W PyProof.Rows PySem.Calls PySem.Spec
namespace Bx
abbrev callB (id : String) : List Value → Sem Value := fun vs => call (.builtin id) vs
abbrev callT (T : String) : List Value → Sem Value := fun vs => call (.type T) vs
/-- what a def gives back -/
def CallsTo (G : Gl) (R : Bool) (k : Nat) (i : Nat) (ds : List PyData) (d : PyData) : Prop :=
  ∀ A s vs a cd, Room k A → Wh G s → Pre G R s → RepAll s.heap vs ds → FnAt G (s.heap.hide G.P) i a cd → Gives G R A (call (.ref a) vs) d s
structure Meth (T : String) (name : Str) (id : String) : Prop where
  pa : PlainAttrs T
  slot : Slot T name id
  ty : typeOf (.builtin id) = pure (.type "method_descriptor")
section
variable {G : Gl} {R : Bool} {k : Nat} {env : Env} {ρ : Rho}

/-! ### calls by a name -/
theorem ev_call_bi {x : Str} {np pos : Pos} {id : String} {e : Expr} {es : List Expr} {ds : List PyData} {d : PyData} (hv : (x, Value.builtin id) ∈ biTab) (hk : env.kindOf x = some .globalImplicit) (hd : (x == ("__debug__" : Str)) = false)
    (ha : EvL G R k env ρ pos (e :: es) ds) (h : OpN G R k (callB id) ds d) (he : starEach (e :: es) env = (false, eval e env) :: starEach es env) (hp : ((backTo pos (starEach es env)).any fun x => x.fst) = false) : Ev G R k env ρ (.Call (.Name x np) (e :: es) [] pos) d := by
  intro A s rm fs p
  refine wpAny_Call_ofName (bi_load fs hv hk hd (PyProof.Rows.callWith_builtin1 (ha.run rm fs p fun vs s1 r1 a1 f1 p1 _ => ?_) he hp))
  exact gives_mono (h A s1 vs rm f1.wh p1 r1) fun v s2 r2 a2 => ⟨r2, a1.trans a2⟩
theorem ev_call_ty {x : Str} {np pos : Pos} {T : String} {e : Expr} {es : List Expr} {ds : List PyData} {d : PyData} (hv : (x, Value.type T) ∈ biTab) (hk : env.kindOf x = some .globalImplicit) (hd : (x == ("__debug__" : Str)) = false)
    (ha : EvL G R k env ρ pos (e :: es) ds) (h : OpN G R k (callT T) ds d) (he : starEach (e :: es) env = (false, eval e env) :: starEach es env) (hp : ((backTo pos (starEach es env)).any fun x => x.fst) = false) : Ev G R k env ρ (.Call (.Name x np) (e :: es) [] pos) d := by
  intro A s rm fs p
  refine wpAny_Call_ofName (bi_load fs hv hk hd (PyProof.Rows.callWith_type1 (ha.run rm fs p fun vs s1 r1 a1 f1 p1 _ => ?_) he hp))
  exact gives_mono (h A s1 vs rm f1.wh p1 r1) fun v s2 r2 a2 => ⟨r2, a1.trans a2⟩
theorem ev_call_def {i : Nat} {x : Str} {np pos : Pos} {e : Expr} {es : List Expr} {ds : List PyData} {d : PyData} {j : Nat} (hx : fnName i = x) (hi : i ∈ fnIdx) (hk : env.kindOf x = some .globalImplicit) (hd : (x == ("__debug__" : Str)) = false)
    (ha : EvL G R k env ρ pos (e :: es) ds) (h : CallsTo G R j i ds d) (hj : j ≤ k) (he : starEach (e :: es) env = (false, eval e env) :: starEach es env) : Ev G R k env ρ (.Call (.Name x np) (e :: es) [] pos) d := by
  intro A s rm fs p
  subst hx
  obtain ⟨a, cd, fa⟩ := fs.wd.fns i hi
  refine wpAny_Call_ofName (glob_load fs fa.name hk hd ?_)
  obtain ⟨o, pm, doc, ho, hdat⟩ := fa.at_
  refine PyProof.Rows.callWith_def hdat (ha.run rm fs p fun vs s1 r1 a1 f1 p1 _ => ⟨Heap.of_hide (a1.ext.hide _ _ ho), ?_⟩) he
  exact gives_mono (h A s1 vs a cd (rm.le hj) f1.wh p1 r1 (fa.keeps a1.ext.hide)) fun v s2 r2 a2 => ⟨r2, a1.trans a2⟩

/-! ### methods -/
theorem ev_meth_str0 {o : Expr} {name : Str} {id : String} {apos pos : Pos} {x : Str} {d : PyData} (m : Meth "str" name id)
    (ho : Ev G R k env ρ o (.str x)) (h : OpN G R k (callB id) [.str x] d)
    (hbase : attributeBase o name env (eval o env) = eval o env) (hline : (apos.endLine == pos.line) = true) : Ev G R k env ρ (.Call (.Attribute o name apos) [] [] pos) d := by
  intro A s rm fs p
  refine wpAny_Call_method hbase rfl hline m.pa m.slot m.ty (ho.run rm fs p fun v s1 r1 a1 f1 p1 _ => ?_)
  cases r1 with
  | str _ t =>
  refine ⟨typeIs_str _ _ _, (fun a e => by cases e), PyProof.Rows.callWith_method0 ?_⟩
  exact gives_mono (h A s1 _ rm f1.wh p1 (.cons (.str _ _) .nil)) fun v s3 r3 a3 => ⟨r3, a1.trans a3⟩
theorem ev_meth_str1 {o e : Expr} {name : Str} {id : String} {apos pos : Pos} {x : Str} {d1 d : PyData} (m : Meth "str" name id)
    (ho : Ev G R k env ρ o (.str x)) (ha : Ev G R k env ρ e d1) (h : OpN G R k (callB id) [.str x, d1] d)
    (hbase : attributeBase o name env (eval o env) = eval o env) (hline : (apos.endLine == pos.line) = true)
    (he : starEach [e] env = [(false, eval e env)]) : Ev G R k env ρ (.Call (.Attribute o name apos) [e] [] pos) d := by
  intro A s rm fs p
  refine wpAny_Call_method hbase (by rw [he]; rfl) hline m.pa m.slot m.ty (ho.run rm fs p fun v s1 r1 a1 f1 p1 _ => ?_)
  cases r1 with
  | str _ t =>
  refine ⟨typeIs_str _ _ _, (fun a e => by cases e), PyProof.Rows.callWith_method1 ?_ he⟩
  refine (evl_cons ha evl_nil he).run rm f1 p1 fun vs s2 r2 a2 f2 p2 _ => ?_
  exact gives_mono (h A s2 _ rm f2.wh p2 (.cons (.str _ _) r2)) fun v s3 r3 a3 => ⟨r3, (a1.trans a2).trans a3⟩
theorem ev_meth_tup1 {o e : Expr} {name : Str} {id : String} {apos pos : Pos} {xs : List PyData} {d1 d : PyData} (m : Meth "tuple" name id)
    (ho : Ev G R k env ρ o (.tuple xs)) (ha : Ev G R k env ρ e d1) (h : OpN G R k (callB id) [.tuple xs, d1] d)
    (hbase : attributeBase o name env (eval o env) = eval o env) (hline : (apos.endLine == pos.line) = true)
    (he : starEach [e] env = [(false, eval e env)]) : Ev G R k env ρ (.Call (.Attribute o name apos) [e] [] pos) d := by
  intro A s rm fs p
  refine wpAny_Call_method hbase (by rw [he]; rfl) hline m.pa m.slot m.ty (ho.run rm fs p fun v s1 r1 a1 f1 p1 _ => ?_)
  refine ⟨?_, ?_, PyProof.Rows.callWith_method1 ?_ he⟩
  · obtain ⟨l, vs, rfl, il, q⟩ := rep_isTuple r1
    exact il.typeIs
  · intro a e
    subst e
    cases r1 with
    | tuple h1 _ _ h4 _ => exact ⟨_, h1, h4⟩
  · refine (evl_cons ha evl_nil he).run rm f1 p1 fun vs s2 r2 a2 f2 p2 k2 => ?_
    exact gives_mono (h A s2 _ rm f2.wh p2 (.cons (r1.mono k2) r2)) fun v s3 r3 a3 => ⟨r3, (a1.trans a2).trans a3⟩

/-! ### the class's two numbers -/
theorem ev_enc {np pos : Pos} {attr : Str} {n : Int} (ha : (attr = "BECH32" ∧ n = 1) ∨ (attr = "BECH32M" ∧ n = 2)) (hk : env.kindOf "Encoding" = some .globalImplicit) : Ev G R k env ρ (.Attribute (.Name "Encoding" np) attr pos) (.int n) := by
  intro A s rm fs p
  obtain ⟨C, hC, hq⟩ := fs.wd.enc
  show wpAny _ A (do
    let o ← eval (.Name "Encoding" np) env
    standAt pos.atName
    let r ← holding [o] (getAttr o attr true)
    letTemporaryGo (.Name "Encoding" np) o r
    pure r) _ _ s
  refine wpAny_bind (glob_load fs hC hk (by decide) (wpAny_bind (wpAny_standAt (wpAny_bind (wpAny_holding ?_)))))
  have h := hq A s noE (fun r s' => wpAny (model G.prog G.w) A (letTemporaryGo (.Name "Encoding" np) (.ref C) r >>= fun _ => pure r) (fun v s' => Rep s'.heap v (.int n) ∧ Rel G R s s') noE s') fun b o e => Heap.of_hide e
  rcases ha with ⟨rfl, rfl⟩ | ⟨rfl, rfl⟩
  · exact h.1 fun t tk => wpAny_bind (wpAny_letTemporaryGo (wpAny_pure ⟨.int _ _, Rel.of_keeps p (keeps_toks _)⟩))
  · exact h.2 fun t tk => wpAny_bind (wpAny_letTemporaryGo (wpAny_pure ⟨.int _ _, Rel.of_keeps p (keeps_toks _)⟩))
end
end Bx
end

section
open PySem PySem.W PyProof.Rows PySem.Calls PySem.Spec
namespace Bx

/-- what a body's run may change: its own locals and cells (and the table) -/
structure RelB (G : Gl) (R : Bool) (env : Env) (s s' : Shared) : Prop where
  inv : R = true → Inv G s'
  pure_ : R = false → ∃ h' tk, s' = { s with heap := h', toks := tk }
  keep : ∀ b o, b ∉ Own env → (R = true → b ≠ G.P) → s.heap.get? b = some o → s'.heap.get? b = some o
inductive Out where
  | next (ρ : Rho)
  | ret (d : PyData)
def OutIs (G : Gl) (env : Env) : Out → Flow → Shared → Prop
  | .next ρ, f, s => f = .next ∧ FS G env ρ s
  | .ret d, f, s => ∃ v, f = .ret v ∧ Rep s.heap v d ∧ Wh G s
def Ex (G : Gl) (R : Bool) (k : Nat) (env : Env) (ρ : Rho) (ss : List Stmt) (out : Out) : Prop :=
  ∀ A s, Room k A → FS G env ρ s → Pre G R s → wpAny (model G.prog G.w) A (execs ss env) (fun f s' => OutIs G env out f s' ∧ RelB G R env s s') noE s
def Ex1 (G : Gl) (R : Bool) (k : Nat) (env : Env) (ρ : Rho) (st : Stmt) (out : Out) : Prop :=
  ∀ A s, Room k A → FS G env ρ s → Pre G R s → wpAny (model G.prog G.w) A (exec st env) (fun f s' => OutIs G env out f s' ∧ RelB G R env s s') noE s

section
variable {G : Gl} {R : Bool} {k : Nat} {env : Env} {ρ : Rho} {s s' s'' : Shared}
theorem Rel.toB (a : Rel G R s s') : RelB G R env s s' where
  inv := fun e => by subst e; exact a.2
  pure_ := fun e => by subst e; obtain ⟨h, tk, e, _⟩ := (show Keeps s s' from a); exact ⟨h, tk, e⟩
  keep := fun b o _ hP e => by
    cases R
    · obtain ⟨h, tk, rfl, q⟩ := (show Keeps s s' from a); exact q b o e
    · exact a.1 b o (hP rfl) e
theorem RelB.refl (p : Pre G R s) : RelB G R env s s := (Rel.refl p).toB
theorem RelB.trans (a : RelB G R env s s') (b : RelB G R env s' s'') : RelB G R env s s'' where
  inv := b.inv
  pure_ := fun e => by
    obtain ⟨h, tk, rfl⟩ := a.pure_ e
    obtain ⟨h', tk', rfl⟩ := b.pure_ e
    exact ⟨h', tk', rfl⟩
  keep := fun x o hx hP e => b.keep x o hx hP (a.keep x o hx hP e)
theorem RelB.pre (a : RelB G R env s s') : Pre G R s' := a.inv

theorem ex_nil : Ex G R k env ρ [] (.next ρ) := fun A s _ fs p => wpAny_execs_nil ⟨⟨rfl, fs⟩, .refl p⟩
theorem ex_cons {st : Stmt} {rest : List Stmt} {ρ' : Rho} {out : Out} (h1 : Ex1 G R k env ρ st (.next ρ')) (h2 : Ex G R k env ρ' rest out) : Ex G R k env ρ (st :: rest) out := by
  intro A s rm fs p
  refine wpAny_execs_cons (wpAny_mono (h1 A s rm fs p) (fun f s1 x => ?_) fun _ _ x => x)
  obtain ⟨⟨rfl, f1⟩, a1⟩ := x
  exact wpAny_mono (h2 A s1 rm f1 a1.pre) (fun f s2 x => ⟨x.1, a1.trans x.2⟩) fun _ _ x => x
theorem ex_last {st : Stmt} {rest : List Stmt} {d : PyData} (h1 : Ex1 G R k env ρ st (.ret d)) : Ex G R k env ρ (st :: rest) (.ret d) := by
  intro A s rm fs p
  refine wpAny_execs_cons (wpAny_mono (h1 A s rm fs p) (fun f s1 x => ?_) fun _ _ x => x)
  obtain ⟨⟨v, rfl, r⟩, a1⟩ := x
  exact ⟨⟨v, rfl, r⟩, a1⟩
theorem ex_return {e : Expr} {pos : Pos} {d : PyData} (h : Ev G R k env ρ e d) : Ex1 G R k env ρ (.Return (some e) pos) (.ret d) := by
  intro A s rm fs p
  exact wpAny_Return_some (h.run rm fs p fun v s1 r1 a1 f1 p1 _ => ⟨⟨v, rfl, r1, f1.wh⟩, a1.toB⟩)
theorem ex_if {test : Expr} {body orelse : List Stmt} {pos : Pos} {b : Bool} {out : Out} (h : Tr G R k env ρ test b) (h1 : b = true → Ex G R k env ρ body out) (h2 : b = false → Ex G R k env ρ orelse out) : Ex1 G R k env ρ (.If test body orelse pos) out := by
  intro A s rm fs p
  refine wpAny_If (h.run rm fs p fun s1 a1 f1 p1 _ => ?_)
  cases b with
  | true => exact wpAny_mono (h1 rfl A s1 rm f1 p1) (fun f s2 x => ⟨x.1, a1.toB.trans x.2⟩) fun _ _ x => x
  | false => exact wpAny_mono (h2 rfl A s1 rm f1 p1) (fun f s2 x => ⟨x.1, a1.toB.trans x.2⟩) fun _ _ x => x
theorem Ex.conv {ss : List Stmt} {o o' : Out} (h : Ex G R k env ρ ss o) (e : o = o') : Ex G R k env ρ ss o' := e ▸ h

/-- fewer names known -/
def Sub (ρ' ρ : Rho) : Prop := ∀ x d, ρ'.lookup x = some d → ρ.lookup x = some d
theorem FS.sub {ρ' : Rho} (x : FS G env ρ s) (h : Sub ρ' ρ) : FS G env ρ' s :=
  ⟨x.w0, x.ext, x.fk, x.gl, x.bl, x.own, x.nd, x.isc, let ⟨m, n, r⟩ := x.ns; ⟨m, n, fun y d e k => r y d (h y d e) k⟩, fun y d e k => x.cel y d (h y d e) k⟩
theorem Ex.sub {ss : List Stmt} {ρ' : Rho} {o : Out} (h : Ex G R k env ρ' ss o) (hs : Sub ρ' ρ) : Ex G R k env ρ ss o := fun A s rm fs p => h A s rm (fs.sub hs) p
theorem Ex.subOut {ss : List Stmt} {ρ' ρ'' : Rho} (h : Ex G R k env ρ ss (.next ρ')) (hs : Sub ρ'' ρ') : Ex G R k env ρ ss (.next ρ'') := fun A s rm fs p =>
  wpAny_mono (h A s rm fs p) (fun _ _ x => ⟨⟨x.1.1, x.1.2.sub hs⟩, x.2⟩) fun _ _ x => x

/-! ### stores -/
theorem own_seq {b : Addr} {o : Obj} {xs : Array Value} {n : Nat} (fs : FS G env ρ s) (hb : b = env.locals) (e : s.heap.get? b = some o) (hd : o.data = .seq xs n) : False := by
  obtain ⟨m, ⟨o', es, ep, e', hd', _⟩, _⟩ := fs.ns
  subst hb
  have := (Heap.of_hide e').symm.trans e
  cases this
  rw [hd] at hd'; cases hd'
theorem notP (fs : FS G env ρ s) {a : Addr} (ha : a ∈ Own env) : a ≠ G.P := fun e => by
  have h1 := fs.own a ha
  have h2 := fs.w0.pn.1
  rw [e] at h1
  exact Nat.lt_irrefl _ (Nat.lt_of_lt_of_le h2 h1)
theorem inv_same {a : Addr} {h' : Heap} {tk : Nat} (x : Inv G s) (w0 : Wd G (G.H₀.hide G.P)) (ha : G.H₀.objs.size ≤ a) (hs : Heap.SameBut a s.heap h') : Inv G { s with heap := h', toks := tk } := by
  have hP : G.P ≠ a := Nat.ne_of_lt (Nat.lt_of_lt_of_le w0.pn.1 ha)
  have hc : G.c ≠ a := Nat.ne_of_lt (Nat.lt_of_lt_of_le w0.pn.2 ha)
  obtain ⟨ps, t1, t2⟩ := x.tab
  exact ⟨x.bare, x.old.step_same ha hs, x.os, ⟨ps, t1.sameBut hs hc hP, t2.sameBut hs hc hP⟩⟩
/-- heap facts behind a change of one own object -/
theorem hide_same {P a : Addr} {h h' : Heap} (hs : Heap.SameBut a h h') {b : Addr} (hb : b ≠ a) : (h'.hide P).get? b = (h.hide P).get? b := by
  by_cases e : b = P
  · subst e; rw [Heap.hide_self, Heap.hide_self]
  · rw [Heap.hide_ne _ e, Heap.hide_ne _ e]; exact hs.2 b hb

theorem lookup_mem' {α β : Type} [BEq α] [LawfulBEq α] {y : α} {c : β} : ∀ {l : List (α × β)}, l.lookup y = some c → (y, c) ∈ l
  | (a, b) :: l, e => by
    rw [List.lookup_cons] at e
    split at e
    · rename_i h; cases e; rw [beq_iff_eq.mp h]; exact .head _
    · exact .tail _ (lookup_mem' e)
theorem cell_inj {y x : Str} {c : Addr} : ∀ {l : List (Str × Addr)}, (l.map (·.2)).Nodup → (y, c) ∈ l → (x, c) ∈ l → y = x := by
  intro l hn h1 h2
  induction l with
  | nil => cases h1
  | cons a l ih =>
    rw [List.map_cons, List.nodup_cons] at hn
    rcases List.mem_cons.mp h1 with e1 | h1
    · rcases List.mem_cons.mp h2 with e2 | h2
      · have := e1.trans e2.symm; cases this; rfl
      · exact absurd (List.mem_map.mpr ⟨_, h2, by rw [← e1]⟩) hn.1
    · rcases List.mem_cons.mp h2 with e2 | h2
      · exact absurd (List.mem_map.mpr ⟨_, h1, by rw [← e2]⟩) hn.1
      · exact ih hn.2 h1 h2
theorem store_local {A : Around} {x : Str} {v : Value} {d : PyData} (hk : env.kindOf x = some .local) (fs : FS G env ρ s) (p : Pre G R s) (r : Rep s.heap v d) {Q : Unit → Shared → Prop} {E : Value → Shared → Prop} (hQ : ∀ s', FS G env ((x, d) :: ρ) s' → RelB G R env s s' → Q () s') :
    wpAny (model G.prog G.w) A (storeName env x v) Q E s := by
  obtain ⟨m, hn, hm⟩ := fs.ns
  have hL := notP fs (.head _)
  have hcl : ∀ c ∈ env.cells.map (·.2), c ≠ env.locals := fun c hc e => (List.nodup_cons.mp fs.nd).1 (e ▸ hc)
  refine wpAny_storeName_local hk (ns_real hn) (fun h' hn' hs' => ?_) (by rw [fs.fk]; rfl)
  have sk : SeqKept s.heap h' := fun b o xs n e hd => (hs'.2 b fun hb => own_seq fs hb e hd).trans e
  refine hQ _ ⟨fs.w0, fun b o hb e => (hs'.2 b ?_).trans (fs.ext b o hb e), fs.fk, fs.gl, fs.bl, fs.own, fs.nd, ?_, ⟨fun y => if y = x then some v else m y, ?_, ?_⟩, ?_⟩ ⟨fun e => inv_same (p e) fs.w0 (fs.own _ (.head _)) hs', fun _ => ⟨_, _, rfl⟩, fun b o hb _ e => (hs'.2 b fun h => hb (h ▸ .head _)).trans e⟩
  · exact Nat.ne_of_lt (Nat.lt_of_lt_of_le (Heap.lt_size e) (fs.own _ (.head _)))
  · intro q hq
    obtain ⟨v', o, e, d'⟩ := fs.isc q hq
    exact ⟨v', o, (hide_same hs' (hcl _ (List.mem_map.mpr ⟨q, hq, rfl⟩))).trans e, d'⟩
  · obtain ⟨o', es, ep, e', r'⟩ := hn'
    exact ⟨o', es, ep, (Heap.hide_ne _ hL).trans e', r'⟩
  · intro y d' e hky
    dsimp only
    by_cases hy : y = x
    · subst hy
      rw [List.lookup_cons, beq_self_eq_true] at e
      cases e
      exact ⟨v, if_pos rfl, r.mono sk⟩
    · have : (y == x) = false := by simpa using hy
      rw [List.lookup_cons, this] at e
      obtain ⟨v', e', q⟩ := hm y d' e hky
      exact ⟨v', by rw [if_neg hy]; exact e', q.mono sk⟩
  · intro y d' e hky
    by_cases hy : y = x
    · subst hy; rw [hk] at hky; rcases hky with h | h <;> cases h
    · have : (y == x) = false := by simpa using hy
      rw [List.lookup_cons, this] at e
      obtain ⟨c, v', e1, ⟨o, e2, e3⟩, q⟩ := fs.cel y d' e hky
      refine ⟨c, v', e1, ⟨o, (hide_same hs' ?_).trans e2, e3⟩, q.mono sk⟩
      refine hcl c ?_
      exact List.mem_map.mpr ⟨(y, c), lookup_mem' e1, rfl⟩

theorem store_cell {A : Around} {x : Str} {v : Value} {d : PyData} (hk : env.kindOf x = some .cell) (hc : (env.cells.lookup x).isSome = true) (fs : FS G env ρ s) (p : Pre G R s) (r : Rep s.heap v d) {Q : Unit → Shared → Prop} {E : Value → Shared → Prop} (hQ : ∀ s', FS G env ((x, d) :: ρ) s' → RelB G R env s s' → Q () s') :
    wpAny (model G.prog G.w) A (storeName env x v) Q E s := by
  obtain ⟨c, hc⟩ := Option.isSome_iff_exists.mp hc
  obtain ⟨hnl, hnd⟩ := List.nodup_cons.mp fs.nd
  obtain ⟨v₀, hce⟩ := fs.isc (x, c) (lookup_mem' hc)
  have hcl : ∀ c ∈ env.cells.map (·.2), c ≠ env.locals := fun c hc e => hnl (e ▸ hc)
  have hmem : c ∈ Own env := .tail _ (List.mem_map.mpr ⟨(x, c), lookup_mem' hc, rfl⟩)
  have hP := notP fs hmem
  refine wpAny_storeName_cell fs.fk hk hc (cell_real hce) fun h' hv' hs' => ?_
  obtain ⟨o₀, e₀, d₀⟩ := hce
  have sk : SeqKept s.heap h' := fun b o xs n e hd => (hs'.2 b fun hb => by
    subst hb; have := (Heap.of_hide e₀).symm.trans e; cases this; rw [hd] at d₀; cases d₀).trans e
  obtain ⟨m, hn, hm⟩ := fs.ns
  have hcL : env.locals ≠ c := fun e => hcl c (List.mem_map.mpr ⟨(x, c), lookup_mem' hc, rfl⟩) e.symm
  refine hQ _ ⟨fs.w0, fun b o hb e => (hs'.2 b ?_).trans (fs.ext b o hb e), fs.fk, fs.gl, fs.bl, fs.own, fs.nd, ?_, ⟨m, ?_, ?_⟩, ?_⟩ ⟨fun e => inv_same (p e) fs.w0 (fs.own _ hmem) hs', fun _ => ⟨_, _, rfl⟩, fun b o hb _ e => (hs'.2 b fun h => hb (h ▸ hmem)).trans e⟩
  · exact Nat.ne_of_lt (Nat.lt_of_lt_of_le (Heap.lt_size e) (fs.own _ hmem))
  · intro q hq
    by_cases hqc : q.2 = c
    · obtain ⟨o', e', d''⟩ := hv'
      rw [hqc]
      exact ⟨_, o', (Heap.hide_ne _ hP).trans e', d''⟩
    · obtain ⟨v', o, e, d'⟩ := fs.isc q hq
      exact ⟨v', o, (hide_same hs' hqc).trans e, d'⟩
  · obtain ⟨o', es, ep, e', r'⟩ := hn
    exact ⟨o', es, ep, (hide_same hs' hcL).trans e', r'⟩
  · intro y d' e hky
    by_cases hy : y = x
    · subst hy; rw [hk] at hky; cases hky
    · have : (y == x) = false := by simpa using hy
      rw [List.lookup_cons, this] at e
      obtain ⟨v', e', q⟩ := hm y d' e hky
      exact ⟨v', e', q.mono sk⟩
  · intro y d' e hky
    by_cases hy : y = x
    · subst hy
      rw [List.lookup_cons, beq_self_eq_true] at e
      cases e
      obtain ⟨o', e', d''⟩ := hv'
      exact ⟨c, v, hc, ⟨o', (Heap.hide_ne _ hP).trans e', d''⟩, r.mono sk⟩
    · have : (y == x) = false := by simpa using hy
      rw [List.lookup_cons, this] at e
      obtain ⟨c', v', e1, ⟨o, e2, e3⟩, q⟩ := fs.cel y d' e hky
      refine ⟨c', v', e1, ⟨o, (hide_same hs' ?_).trans e2, e3⟩, q.mono sk⟩
      intro hcc
      subst hcc
      exact hy (cell_inj hnd (lookup_mem' e1) (lookup_mem' hc))

/-- x = e, whatever x's kind -/
theorem store_any {A : Around} {x : Str} {v : Value} {d : PyData} (hk : env.kindOf x = some .local ∨ (env.kindOf x = some .cell ∧ (env.cells.lookup x).isSome = true)) (fs : FS G env ρ s) (p : Pre G R s) (r : Rep s.heap v d)
    {Q : Unit → Shared → Prop} {E : Value → Shared → Prop} (hQ : ∀ s', FS G env ((x, d) :: ρ) s' → RelB G R env s s' → Q () s') : wpAny (model G.prog G.w) A (storeName env x v) Q E s := by
  rcases hk with hk | ⟨hk, hc⟩
  · exact store_local hk fs p r hQ
  · exact store_cell hk hc fs p r hQ
theorem ex_assign {x : Str} {px pos : Pos} {e : Expr} {d : PyData} (h : Ev G R k env ρ e d) (hk : env.kindOf x = some .local ∨ (env.kindOf x = some .cell ∧ (env.cells.lookup x).isSome = true))
    (hs : swapsWith e (some (.Name x px)) pos.line env = pure false) : Ex1 G R k env ρ (.Assign [.Name x px] e pos) (.next ((x, d) :: ρ)) := by
  intro A s rm fs p
  refine wpAny_Assign_Name (h.run rm fs p fun v s1 r1 a1 f1 p1 _ => ?_) hs
  exact store_any hk f1 p1 r1 fun s2 f2 a2 => ⟨⟨rfl, f2⟩, a1.toB.trans a2⟩
theorem ev_load {x : Str} {d : PyData} {A : Around} (hl : ρ.lookup x = some d) (hk : env.kindOf x = some .local) (fs : FS G env ρ s) {Q E : Value → Shared → Prop} (hQ : ∀ v, Rep s.heap v d → Q v s) : wpAny (model G.prog G.w) A (loadName env x) Q E s := by
  obtain ⟨m, n, r⟩ := fs.ns
  obtain ⟨v, e, q⟩ := r x d hl hk
  exact wpAny_loadName_local fs.fk hk (ns_real n) e (hQ v q)
/-- x op= e of ints -/
theorem ex_aug {x : Str} {px pos : Pos} {op : Operator} {e : Expr} {d1 d2 d : PyData} (hl : ρ.lookup x = some d1) (hk : env.kindOf x = some .local) (h : Ev G R k env ρ e d2) (ho : Op2 G R k (inplaceOp op) d1 d2 d) : Ex1 G R k env ρ (.AugAssign (.Name x px) op e pos) (.next ((x, d) :: ρ)) := by
  intro A s rm fs p
  refine wpAny_AugAssign_Name (ev_load hl hk fs fun v1 r1 => h.run rm fs p fun v2 s2 r2 a2 f2 p2 k2 => ?_)
  refine gives_mono (ho A s2 v1 v2 rm f2.wh p2 (r1.mono k2) r2) fun v s3 r3 a3 => ?_
  exact store_local hk (f2.step a3 p2) a3.pre r3 fun s4 f4 a4 => ⟨⟨rfl, f4⟩, (a2.trans a3).toB.trans a4⟩
end
end Bx
end

section
open PySem PySem.W PyProof.Rows PySem.Calls PySem.Spec
namespace Bx

def bindR : List (Str × PyData) → Rho → Rho
  | [], ρ => ρ
  | p :: r, ρ => bindR r (p :: ρ)

theorem bind_rep {h : Heap} {kindOf : Str → Option NameKind} : ∀ {names : List Str} {vs : List Value} {ds : List PyData}, RepAll h vs ds → ∀ {m cm : Str → Option Value} {ρ : Rho},
    (∀ n ∈ names, kindOf n = some .local ∨ kindOf n = some .cell) →
    (∀ x d, ρ.lookup x = some d → kindOf x = some .local → ∃ v, m x = some v ∧ Rep h v d) → (∀ x d, ρ.lookup x = some d → kindOf x = some .cell → ∃ v, cm x = some v ∧ Rep h v d) →
    (∀ x d, (bindR (names.zip ds) ρ).lookup x = some d → kindOf x = some .local → ∃ v, bindL kindOf (names.zip vs) m x = some v ∧ Rep h v d) ∧
    (∀ x d, (bindR (names.zip ds) ρ).lookup x = some d → kindOf x = some .cell → ∃ v, bindC kindOf (names.zip vs) cm x = some v ∧ Rep h v d) := by
  intro names
  induction names with
  | nil => intro vs ds _ m cm ρ _ h1 h2; exact ⟨h1, h2⟩
  | cons n names ih =>
    intro vs ds r m cm ρ hk h1 h2
    cases r with
    | nil => exact ⟨h1, h2⟩
    | @cons v vs d ds r rs =>
      simp only [List.zip_cons_cons, bindR, bindL, bindC]
      refine ih rs (fun x hx => hk x (.tail _ hx)) (fun x d' e hx => ?_) (fun x d' e hx => ?_)
      · by_cases hxn : x = n
        · subst hxn
          rw [List.lookup_cons, beq_self_eq_true] at e
          cases e
          rw [if_pos hx]
          exact ⟨v, if_pos rfl, r⟩
        · have : (x == n) = false := by simpa using hxn
          rw [List.lookup_cons, this] at e
          obtain ⟨v', e', q⟩ := h1 x d' e hx
          refine ⟨v', ?_, q⟩
          split
          · exact (if_neg hxn).trans e'
          · exact e'
      · by_cases hxn : x = n
        · subst hxn
          rw [List.lookup_cons, beq_self_eq_true] at e
          cases e
          rw [if_neg (by rw [hx]; decide)]
          exact ⟨v, if_pos rfl, r⟩
        · have : (x == n) = false := by simpa using hxn
          rw [List.lookup_cons, this] at e
          obtain ⟨v', e', q⟩ := h2 x d' e hx
          refine ⟨v', ?_, q⟩
          split
          · exact e'
          · exact (if_neg hxn).trans e'

section
variable {G : Gl} {R : Bool} {k : Nat}
theorem code_dec {h : Heap} {a : Addr} {cd : Value} (w : Wd G h) (f : FnAt G h 10 a cd) : cd = .ref G.c := by
  obtain ⟨a', f'⟩ := w.dec
  obtain ⟨o, pm, doc, e1, e2⟩ := f.at_
  obtain ⟨o', pm', doc', e1', e2'⟩ := f'.at_
  have := f.name.symm.trans f'.name
  cases this
  have := e1.symm.trans e1'
  cases this
  have := e2.symm.trans e2'
  injection this with this
  have := congrArg FuncData.code this
  exact this

abbrev paramsOf (i : Nat) : List Str := (fnParams i).args.map (·.arg)
/-- the first state of a called def's frame -/
theorem frame0 {i : Nat} {ds : List PyData} {s s' : Shared} {vs : List Value} {a : Addr} {cd : Value} (hk : (fnScope i).kind = .function) (hnd : ((cellsFrom 0 (fnScope i).names []).map (·.1)).Nodup)
    (hkind : ∀ n ∈ paramsOf i, (fnScope i).names.lookup n = some .local ∨ (fnScope i).names.lookup n = some .cell)
    (w : Wh G s) (r : RepAll s.heap vs ds)
    (x : InCallC s s.heap.objs.size (bindL (envOfC (fnName i) (fnScope i) s.heap.objs.size a cd).kindOf ((paramsOf i).zip vs) fun _ => none) (envOfC (fnName i) (fnScope i) s.heap.objs.size a cd).cells (bindC (envOfC (fnName i) (fnScope i) s.heap.objs.size a cd).kindOf ((paramsOf i).zip vs) fun _ => none) s') :
    FS G (envOfC (fnName i) (fnScope i) s.heap.objs.size a cd) (bindR ((paramsOf i).zip ds) []) s' := by
  obtain ⟨h', tk, rfl, hkeep⟩ := x.done
  have hP : G.P < s.heap.objs.size := Nat.lt_of_lt_of_le w.w0.pn.1 w.sz
  have hcm : ∀ n c, (n, c) ∈ (envOfC (fnName i) (fnScope i) s.heap.objs.size a cd).cells → (envOfC (fnName i) (fnScope i) s.heap.objs.size a cd).cells.lookup n = some c := fun n c hm =>
    lookup_of_mem_nodup (cellsFrom_names (fnScope i).names 0 (s.heap.objs.size + 1) [] [] rfl ▸ hnd) hm
  have hcP : ∀ n c, (n, c) ∈ (envOfC (fnName i) (fnScope i) s.heap.objs.size a cd).cells → c ≠ G.P := fun n c hm => Nat.ne_of_gt (Nat.lt_trans hP (x.above n c hm))
  have b := bind_rep (kindOf := (envOfC (fnName i) (fnScope i) s.heap.objs.size a cd).kindOf) (m := fun _ => none) (cm := fun _ => none) (ρ := []) (r.mono fun b o _ _ e _ => hkeep b o e) hkind (fun _ _ e => by cases e) (fun _ _ e => by cases e)
  refine ⟨w.w0, w.ext.trans (.of_keep hkeep), hk, rfl, rfl, ?_, ?_, ?_, ⟨_, ?_, b.1⟩, ?_⟩
  · intro c hc
    rcases List.mem_cons.mp hc with rfl | hc
    · exact w.sz
    · obtain ⟨q, hq, rfl⟩ := List.mem_map.mp hc
      exact Nat.le_trans w.sz (Nat.le_of_lt (x.above q.1 q.2 hq))
  · refine List.nodup_cons.mpr ⟨fun hc => ?_, ?_⟩
    · obtain ⟨q, hq, e⟩ := List.mem_map.mp hc
      have := x.above q.1 q.2 hq
      rw [e] at this
      exact Nat.lt_irrefl _ this
    · exact List.pairwise_map.mpr x.apart
  · intro q hq
    obtain ⟨o, e, d⟩ := x.cell q.1 q.2 (hcm _ _ hq)
    exact ⟨_, o, (Heap.hide_ne _ (hcP _ _ hq)).trans e, d⟩
  · obtain ⟨o, es, ep, e, r'⟩ := x.toInCall.ns
    exact ⟨o, es, ep, (Heap.hide_ne _ (Nat.ne_of_gt hP)).trans e, r'⟩
  · intro y d' e hky
    have hky' : (envOfC (fnName i) (fnScope i) s.heap.objs.size a cd).kindOf y = some .cell := by
      rcases hky with h | h
      · exact h
      · exfalso
        have : ∀ (l : List (Str × PyData)), (∀ p ∈ l, (envOfC (fnName i) (fnScope i) s.heap.objs.size a cd).kindOf p.1 ≠ some .free) → ∀ ρ, ρ.lookup y = none → (bindR l ρ).lookup y = none := by
          intro l
          induction l with
          | nil => intro _ ρ h; exact h
          | cons p l ih =>
            intro hp ρ hρ
            refine ih (fun q hq => hp q (.tail _ hq)) _ ?_
            have : (y == p.1) = false := by
              cases hb : y == p.1 with
              | false => rfl
              | true => rw [beq_iff_eq.mp hb] at h; exact absurd h (hp p (.head _))
            rw [show p = (p.1, p.2) from rfl, List.lookup_cons, this]; exact hρ
        have := this ((paramsOf i).zip ds) (fun p hp => by
          have := hkind p.1 (List.of_mem_zip hp).1
          intro hf
          rcases this with h1 | h1
          · have h2 := h1.symm.trans hf; cases h2
          · have h2 := h1.symm.trans hf; cases h2) [] rfl
        rw [this] at e; cases e
    obtain ⟨v, e', q⟩ := b.2 y d' e hky'
    have hcl : ∃ c, (envOfC (fnName i) (fnScope i) s.heap.objs.size a cd).cells.lookup y = some c := Option.isSome_iff_exists.mp (cellsFrom_some (fnScope i).names _ [] (.inl hky'))
    obtain ⟨c, hc⟩ := hcl
    obtain ⟨o, eo, d⟩ := x.cell y c hc
    rw [e'] at d
    exact ⟨c, v, hc, ⟨o, (Heap.hide_ne _ (hcP _ _ (lookup_mem' hc))).trans eo, d⟩, q⟩

theorem inv_call {s s' : Shared} {L : Addr} {m cm : Str → Option Value} {cs : List (Str × Addr)} (i : Inv G s) (x : InCallC s L m cs cm s') : Inv G s' := by
  obtain ⟨h', tk, rfl, k⟩ := x.done
  exact i.keeps (keeps_of k)

theorem calls_of {i : Nat} {ds : List PyData} {d : PyData} (hk : (fnScope i).kind = .function) (hnd : ((cellsFrom 0 (fnScope i).names []).map (·.1)).Nodup)
    (hkind : ∀ n ∈ paramsOf i, (fnScope i).names.lookup n = some .local ∨ (fnScope i).names.lookup n = some .cell)
    (hbind : ∀ pm cd doc vs, vs.length = ds.length → bindArgs (docDef (fnName i) (fnParams i) (fnBody i) (fnScope i) pm cd doc) ⟨vs, []⟩ = pure ((paramsOf i).zip vs))
    (hco : (fnScope i).isCoroutine = false) (hgen : (fnScope i).isGenerator = false)
    (body : ∀ L a cd, (i = 10 → cd = .ref G.c) → Ex G R k (envOfC (fnName i) (fnScope i) L a cd) (bindR ((paramsOf i).zip ds) []) (fnBody i) (.ret d)) : CallsTo G R (k + 1) i ds d := by
  intro A s vs a cd rm w p r fa
  obtain ⟨o, pm, doc, ho, hdat⟩ := fa.at_
  refine wpAny_call (codeAny_call_function (fd := docDef (fnName i) (fnParams i) (fnBody i) (fnScope i) pm cd doc) (rm.lt (Nat.succ_pos _)) (Heap.of_hide ho) hdat hco hgen rfl (fa.code.keeps fun _ _ e => Heap.of_hide e) ?_)
  rw [hbind pm cd doc vs r.length]
  refine wpAny_pure (wpAny_newFunctionEnv_cells hk (fun x hx => ?_) fun env he s' x => ?_)
  · have := hkind x.1 (List.of_mem_zip hx).1
    rcases this with h | h
    · exact .inl h
    · exact .inr ⟨h, cellsFrom_some _ _ _ (.inl h)⟩
  have hs' := x.done
  have he' : env = envOfC (fnName i) (fnScope i) s.heap.objs.size a cd := he
  subst he'
  have fs : FS G (envOfC (fnName i) (fnScope i) s.heap.objs.size a cd) (bindR ((paramsOf i).zip ds) []) s' := frame0 hk hnd hkind w r x
  refine ⟨fs.wd.lim.keeps fun _ _ e => Heap.of_hide e, codeAny_func ?_⟩
  have p' : Pre G R s' := fun e => inv_call (p e) x
  refine wpAny_mono (body _ a cd (fun e => by subst e; exact code_dec w.wd fa) (A.deeper _) s' rm.deeper fs p') (fun f s₂ y => ?_) fun _ _ y => y.elim
  obtain ⟨⟨v, rfl, rv, _⟩, rb⟩ := y
  refine ⟨rv, ?_⟩
  obtain ⟨h', tk, rfl, hkeep⟩ := hs'
  have old : ∀ b o, s.heap.get? b = some o → b ∉ Own (envOfC (fnName i) (fnScope i) s.heap.objs.size a cd) := fun b o e hb => by
    have hlt := Heap.lt_size e
    rcases List.mem_cons.mp hb with h | h
    · exact Nat.ne_of_lt hlt h
    · obtain ⟨q, hq, e'⟩ := List.mem_map.mp h
      have := x.above q.1 q.2 hq
      rw [e'] at this
      exact Nat.lt_irrefl _ (Nat.lt_trans hlt this)
  cases R with
  | false =>
    obtain ⟨h₂, tk₂, rfl⟩ := rb.pure_ rfl
    exact ⟨h₂, tk₂, rfl, fun b o e => rb.keep b o (old b o e) (fun e => by cases e) (hkeep b o e)⟩
  | true => exact ⟨fun b o hb e => rb.keep b o (old b o e) (fun _ => hb) (hkeep b o e), rb.inv rfl⟩
end
end Bx
end

section
open PySem PySem.W PyProof.Rows PySem.Calls PySem.Spec
namespace Bx

/-- an iterator that gives the data of ds, one by one -/
def SrcAt (G : Gl) (fl : Bool) (s₁ s₂ : Shared) (it : Value) (ds : List PyData) : Prop :=
  ∃ I fp wr P St, it = .ref I ∧ Keeps s₁ s₂ ∧ (∀ A' : Around, A'.handled = none → Walks G.prog G.w A' I fp wr ds.length P St) ∧ St 0 s₂.heap ∧ (∀ b ∈ fp, b < s₂.heap.objs.size) ∧
    (∀ b ∈ wr, s₁.heap.get? b = none) ∧ (∀ b ∈ fp, s₁.heap.get? b = none ∨ ∃ o xs n, s₁.heap.get? b = some o ∧ o.data = .seq xs n) ∧
    (∀ i v h', P i v → SeqKept s₁.heap h' → ∃ d, ds[i]? = some d ∧ Rep h' v d) ∧ (fl = true → ∀ i h, St i h → ∀ b ∈ wr, ∀ o xs n, h.get? b = some o → o.data ≠ .seq xs n)
def Src (G : Gl) (R fl : Bool) (k : Nat) (env : Env) (ρ : Rho) (iter : Expr) (ds : List PyData) : Prop :=
  ∀ A s, Room k A → FS G env ρ s → Pre G R s → wpAny (model G.prog G.w) A (eval iter env) (fun xv s₁ => Rel G R s s₁ ∧ wpAny (model G.prog G.w) A (pyIter xv) (fun it s₂ => SrcAt G fl s₁ s₂ it ds) noE s₁) noE s
theorem fresh_at {h : Heap} {b : Addr} (hb : h.objs.size ≤ b) : h.get? b = none := by
  cases e : h.get? b with
  | none => rfl
  | some o => exact absurd (Heap.lt_size e) (Nat.not_lt.mpr hb)

section
variable {G : Gl} {R fl : Bool} {k : Nat} {env : Env} {ρ : Rho}
theorem src_list {iter : Expr} {ds : List PyData} (h : Ev G R k env ρ iter (.list ds)) : Src G R fl k env ρ iter ds := by
  intro A s rm fs p
  refine h.run rm fs p fun v s₁ r1 a1 f1 p1 _ => ⟨a1, ?_⟩
  obtain ⟨l, vs, rfl, il, q⟩ := rep_isList r1
  have hz := q.ofArr
  obtain ⟨o, e, _, n, ed⟩ := id il
  have hne : l ≠ s₁.heap.objs.size := Nat.ne_of_lt (Heap.lt_size e)
  refine wpAny_pyIter_list il ⟨_, _, _, _, _, rfl, keeps_push (tk := s₁.toks), fun A' hA => hz ▸ Walks.list hA _ l hne vs, ⟨⟨_, Heap.get?_push_size _ rfl, rfl, rfl⟩, il.push _⟩, ?_, ?_, ?_, ?_, ?_⟩
  · intro b hb
    simp only [List.mem_cons, List.not_mem_nil, or_false] at hb
    rw [Heap.size_push]
    rcases hb with rfl | rfl
    · exact Nat.lt_succ_self _
    · exact Nat.lt_succ_of_lt (Heap.lt_size e)
  · intro b hb
    simp only [List.mem_cons, List.not_mem_nil, or_false] at hb
    subst hb; exact fresh_at (Nat.le_refl _)
  · intro b hb
    simp only [List.mem_cons, List.not_mem_nil, or_false] at hb
    rcases hb with rfl | rfl
    · exact .inl (fresh_at (Nat.le_refl _))
    · exact .inr ⟨o, vs, n, e, ed⟩
  · intro i v h' hv hk
    obtain ⟨d, hd, rd⟩ := q.get' (i := i) (v := v) (by rw [Array.getElem?_toList]; exact hv)
    exact ⟨d, hd, rd.mono hk⟩
  · rintro _ i h ⟨⟨oi, ei, _, di⟩, _⟩ b hb o xs n e hd
    rw [List.mem_singleton.mp hb, ei] at e
    cases e; rw [di] at hd; cases hd
theorem src_tuple {iter : Expr} {ds : List PyData} (h : Ev G R k env ρ iter (.tuple ds)) : Src G R fl k env ρ iter ds := by
  intro A s rm fs p
  refine h.run rm fs p fun v s₁ r1 a1 f1 p1 _ => ⟨a1, ?_⟩
  obtain ⟨l, vs, rfl, il, q⟩ := rep_isTuple r1
  have hz := q.ofArr
  obtain ⟨o, e, ec, n, ed⟩ := id il
  have hne : l ≠ s₁.heap.objs.size := Nat.ne_of_lt (Heap.lt_size e)
  refine wpAny_pyIter_tuple il ⟨_, _, _, _, _, rfl, keeps_push (tk := s₁.toks), fun A' hA => hz ▸ Walks.tuple hA _ l hne vs, ⟨⟨_, Heap.get?_push_size _ rfl, rfl, rfl⟩, ⟨o, Heap.get?_push_of_some _ e, ec, n, ed⟩⟩, ?_, ?_, ?_, ?_, ?_⟩
  · intro b hb
    simp only [List.mem_cons, List.not_mem_nil, or_false] at hb
    rw [Heap.size_push]
    rcases hb with rfl | rfl
    · exact Nat.lt_succ_self _
    · exact Nat.lt_succ_of_lt (Heap.lt_size e)
  · intro b hb
    simp only [List.mem_cons, List.not_mem_nil, or_false] at hb
    subst hb; exact fresh_at (Nat.le_refl _)
  · intro b hb
    simp only [List.mem_cons, List.not_mem_nil, or_false] at hb
    rcases hb with rfl | rfl
    · exact .inl (fresh_at (Nat.le_refl _))
    · exact .inr ⟨o, vs, n, e, ed⟩
  · intro i v h' hv hk
    obtain ⟨d, hd, rd⟩ := q.get' (i := i) (v := v) (by rw [Array.getElem?_toList]; exact hv)
    exact ⟨d, hd, rd.mono hk⟩
  · rintro _ i h ⟨⟨oi, ei, _, di⟩, _⟩ b hb o xs n e hd
    rw [List.mem_singleton.mp hb, ei] at e
    cases e; rw [di] at hd; cases hd
def chars (x : Str) : List PyData := x.cps.toList.map fun c => .str ⟨#[c]⟩
theorem src_str {iter : Expr} {x : Str} (h : Ev G R k env ρ iter (.str x)) : Src G R false k env ρ iter (chars x) := by
  intro A s rm fs p
  refine h.run rm fs p fun v s₁ r1 a1 f1 p1 _ => ⟨a1, ?_⟩
  cases r1 with
  | str _ t =>
  refine wpAny_pyIter_str fun o St W st => ⟨_, _, _, _, _, rfl, keeps_push (tk := s₁.toks), fun A' hA => by
    have := W A' hA
    rw [show x.cps.size = (chars x).length by simp [chars]] at this
    exact this, st, ?_, ?_, ?_, ?_, fun e => by cases e⟩
  · intro b hb
    simp only [List.mem_cons, List.not_mem_nil, or_false] at hb
    rw [Heap.size_push]; subst hb; exact Nat.lt_succ_self _
  · intro b hb
    simp only [List.mem_cons, List.not_mem_nil, or_false] at hb
    subst hb; exact fresh_at (Nat.le_refl _)
  · intro b hb
    simp only [List.mem_cons, List.not_mem_nil, or_false] at hb
    subst hb; exact .inl (fresh_at (Nat.le_refl _))
  · rintro i v h' ⟨c, u, hc, rfl⟩ _
    exact ⟨_, by simp [chars, hc], .str _ _⟩
def upto (n : Int) : List PyData := (List.range n.toNat).map fun i => PyData.int (Int.ofNat i)
theorem src_range {np pos : Pos} {e : Expr} {n : Int} (hk : env.kindOf "range" = some .globalImplicit) (h : Ev G R k env ρ e (.int n)) (hn : n < 2 ^ 62) (h0 : -(2 ^ 62) ≤ n) (he : starEach [e] env = [(false, eval e env)]) : Src G R fl k env ρ (.Call (.Name "range" np) [e] [] pos) (upto n) := by
  intro A s rm fs p
  refine wpAny_Call_ofName (bi_load fs (v := .type "range") (by simp [biTab]) hk (by decide) (PyProof.Rows.callWith_type1 ((evl_cons h evl_nil he).run rm fs p fun vs s₁ r1 a1 f1 p1 _ => ?_) he))
  cases r1 with
  | cons r rs =>
  cases rs
  cases r with
  | int _ t =>
  refine call_range_1 ⟨a1.trans (Rel.of_keeps p1 keeps_push), ?_⟩
  have hsm := small_one (a := 0) (b := n) (by decide) (by decide) h0 hn
  have hsz : Builtin.Range.rangeSize 0 n 1 = ((upto n).length : Int) := by
    rw [rangeSize_one]; simp only [upto, List.length_map, List.length_range]; split <;> omega
  refine wpAny_pyIter_range (IsRange.new ..) hsm ⟨_, _, _, _, _, rfl, keeps_push (tk := _), fun A' hA => (Walks.range hA _ 0 1 _).bound, ?_, ?_, ?_, ?_, ?_, ?_⟩
  · dsimp only
    rw [hsz]
    exact Heap.get?_push_size _ rfl
  · intro b hb
    simp only [List.mem_cons, List.not_mem_nil, or_false] at hb
    rw [Heap.size_push]; subst hb; exact Nat.lt_succ_self _
  · intro b hb
    simp only [List.mem_cons, List.not_mem_nil, or_false] at hb
    subst hb; exact fresh_at (Nat.le_refl _)
  · intro b hb
    simp only [List.mem_cons, List.not_mem_nil, or_false] at hb
    subst hb; exact .inl (fresh_at (Nat.le_refl _))
  · rintro i v h' ⟨hi, t', rfl⟩ _
    refine ⟨.int (Int.ofNat i), ?_, ?_⟩
    · have hi' : i < n.toNat := by simpa [upto] using hi
      simp [upto, hi']
    · have e : (0 : Int) + i * 1 = Int.ofNat i := by simp
      rw [e]; exact .int _ _
  · intro _ i h st b hb o xs n e hd
    have st' : h.get? _ = some _ := st
    rw [List.mem_singleton.mp hb, st'] at e
    cases e; cases hd
end
end Bx
end

section
open PySem PySem.W PyProof.Rows PySem.Calls PySem.Spec
set_option autoImplicit false
namespace Bx

def imm : PyData → Bool
  | .none | .bool _ | .int _ | .str _ => true
  | _ => false
def datOf : Value → PyData
  | .none => .none
  | .bool b => .bool b
  | .int i _ => .int i
  | .str x _ => .str x
  | _ => .list []
theorem datOf_of {h : Heap} {v : Value} {d : PyData} (r : Rep h v d) (hi : imm d = true) : datOf v = d := by
  cases r <;> first | rfl | cases hi
theorem rep_datOf {h : Heap} {v : Value} (hi : imm (datOf v) = true) : Rep h v (datOf v) := by
  cases v <;> first | cases hi; done | exact .none | exact .bool _ | exact .int _ _ | exact .str _ _

theorem lookup_relabel_mem {scope : Scope} {env : Env} {y : Str} {k : NameKind} (h : (relabel scope env).names.lookup y = some k) :
    ∃ k₀, (y, k₀) ∈ scope.names ∧ (k = k₀ ∨ (k = .cell ∧ k₀ = .free ∧ env.kindOf y = some .cell)) ∧ (k₀ = .free → env.scope.kind = .function → env.kindOf y = some .cell → k = .cell) := by
  have hm := lookup_mem' h
  unfold relabel at hm
  obtain ⟨⟨n, k₀⟩, hq, he⟩ := List.mem_map.mp hm
  by_cases hc : (k₀ == NameKind.free && env.scope.kind == ScopeKind.function && env.kindOf n == some NameKind.cell) = true
  · simp only [hc, if_true] at he
    cases he
    simp only [Bool.and_eq_true, beq_iff_eq] at hc
    exact ⟨k₀, hq, .inr ⟨rfl, hc.1.1, hc.2⟩, fun _ _ _ => rfl⟩
  · have hc' : (k₀ == NameKind.free && env.scope.kind == ScopeKind.function && env.kindOf n == some NameKind.cell) = false := by simpa using hc
    simp only [hc', Bool.false_eq_true, if_false] at he
    obtain ⟨rfl, rfl⟩ := Prod.mk.inj he
    refine ⟨_, hq, .inl rfl, fun h1 h2 h3 => ?_⟩
    subst h1
    simp [h2, h3] at hc

/-- what a comprehension's block sees of the frame around it -/
structure Cap (env : Env) (scope : Scope) (cl : List (Str × Addr)) (xs : List Str) (ρ : Rho) : Prop where
  clos : closureFor scope env = pure cl
  cell : ∀ y ∈ scope.names, y.2 ≠ .cell
  kind : scope.kind = .function
  names : ∀ y ∈ scope.names, y.2 = .local → scope.names.lookup y.1 = some .local
  loc : ∀ y ∈ scope.names, y.2 = .local → y.1 ∈ xs ∨ y.1 = (".0" : Str)
  dot : ρ.lookup (".0" : Str) = none
  free : ∀ y ∈ scope.names, y.2 = .free → env.kindOf y.1 = some .cell ∧ cl.lookup y.1 = env.cells.lookup y.1
  sub : ∀ q ∈ cl, q ∈ env.cells
  nd : (cl.map (·.2)).Nodup

section
variable {G : Gl} {R fl : Bool} {k : Nat} {env : Env} {ρ : Rho} {scope : Scope} {cl : List (Str × Addr)}
/-- the frame of a comprehension's turn; the names that it binds stand in ρx -/
theorem comp_frame {xs : List Str} {s₁ s₃ : Shared} {C : Addr} {m₃ : Str → Option Value} {ρx : Rho} (cap : Cap env scope cl xs ρ) (fs : FS G env ρ s₁) (hC : ∀ b o, s₁.heap.get? b = some o → b < C)
    (hk : ∀ b o, s₁.heap.get? b = some o → s₃.heap.get? b = some o) (hn : s₃.heap.Ns C m₃) (hx : ∀ x d, ρx.lookup x = some d → ∃ v, m₃ x = some v ∧ Rep s₃.heap v d) (hxs : ∀ x ∈ xs, (ρx.lookup x).isSome = true) (hxs' : ∀ x d, ρx.lookup x = some d → x ∈ xs)
    (hxl : ∀ x ∈ xs, scope.names.lookup x = some .local) :
    FS G (compEnvC scope cl C env) (ρx ++ ρ) s₃ := by
  have hNC : G.H₀.objs.size ≤ C := by
    obtain ⟨m, ⟨o, es, ep, e, _⟩, _⟩ := fs.ns
    exact Nat.le_of_lt (Nat.lt_of_le_of_lt (fs.own _ (.head _)) (hC _ _ (Heap.of_hide e)))
  have hCP : C ≠ G.P := Nat.ne_of_gt (Nat.lt_of_lt_of_le fs.w0.pn.1 hNC)
  have hid := (Ext.of_keep (P := G.P) hk).hide
  have sk : SeqKept s₁.heap s₃.heap := fun b o _ _ e _ => hk b o e
  have app : ∀ y d, (ρx ++ ρ).lookup y = some d → ρx.lookup y = some d ∨ (ρx.lookup y = none ∧ ρ.lookup y = some d) := by
    intro y d e
    cases hy : ρx.lookup y with
    | some d' => rw [List.lookup_append, hy] at e; exact .inl e
    | none => rw [List.lookup_append, hy] at e; exact .inr ⟨rfl, e⟩
  refine ⟨fs.w0, fs.ext.trans (.of_keep hk), cap.kind, fs.gl, fs.bl, ?_, ?_, ?_, ⟨m₃, ?_, ?_⟩, ?_⟩
  · intro a ha
    rcases List.mem_cons.mp ha with rfl | ha
    · exact hNC
    · obtain ⟨q, hq, rfl⟩ := List.mem_map.mp ha
      exact fs.own _ (.tail _ (List.mem_map.mpr ⟨q, cap.sub q hq, rfl⟩))
  · refine List.nodup_cons.mpr ⟨fun ha => ?_, cap.nd⟩
    obtain ⟨q, hq, e⟩ := List.mem_map.mp ha
    obtain ⟨v, o, e', _⟩ := fs.isc q (cap.sub q hq)
    have := hC _ _ (Heap.of_hide e')
    rw [e] at this
    exact Nat.lt_irrefl _ this
  · intro q hq
    obtain ⟨v, o, e, d⟩ := fs.isc q (cap.sub q hq)
    exact ⟨v, o, hid _ _ e, d⟩
  · obtain ⟨o, es, ep, e, r⟩ := hn
    exact ⟨o, es, ep, (Heap.hide_ne _ hCP).trans e, r⟩
  · intro y d e hky
    rcases app y d e with h | ⟨h, h'⟩
    · exact hx y d h
    · obtain ⟨k₀, hm, hk0, _⟩ := lookup_relabel_mem (show (relabel scope env).names.lookup y = some .local from hky)
      rcases hk0 with rfl | ⟨h1, _⟩
      · rcases cap.loc _ hm rfl with h2 | h2
        · have := hxs y h2; rw [h] at this; cases this
        · dsimp only at h2; rw [h2, cap.dot] at h'; cases h'
      · cases h1
  · intro y d e hky
    have hfree : (y, NameKind.free) ∈ scope.names := by
      rcases hky with h | h
      · obtain ⟨k₀, hm, hk0, _⟩ := lookup_relabel_mem (show (relabel scope env).names.lookup y = some .cell from h)
        rcases hk0 with rfl | ⟨_, rfl, _⟩
        · exact absurd rfl (cap.cell _ hm)
        · exact hm
      · obtain ⟨k₀, hm, hk0, _⟩ := lookup_relabel_mem (show (relabel scope env).names.lookup y = some .free from h)
        rcases hk0 with rfl | ⟨h1, _⟩
        · exact hm
        · cases h1
    obtain ⟨hc, hl⟩ := cap.free _ hfree rfl
    rcases app y d e with h | ⟨_, h'⟩
    · exfalso
      have := hxl y (hxs' y d h)
      rcases hky with hk' | hk'
      · have := lookup_relabel_local (env := env) this
        have h3 := this.symm.trans hk'; cases h3
      · have := lookup_relabel_local (env := env) this
        have h3 := this.symm.trans hk'; cases h3
    · obtain ⟨c, v, e1, ⟨o, e2, e3⟩, q⟩ := fs.cel y d h' (.inl hc)
      exact ⟨c, v, hl.trans e1, ⟨o, hid _ _ e2, e3⟩, q.mono sk⟩

/-- the tests of a clause -/
def Tests (G : Gl) (k : Nat) (env : Env) (ρ : Rho) : List Expr → Bool → Prop
  | [], b => b = true
  | [c], b => Tr G false k env ρ c b
  | _, _ => False
theorem tests_run {A : Around} {s : Shared} {ifs : List Expr} {b : Bool} {E : Value → Shared → Prop} (h : Tests G k env ρ ifs b) (rm : Room k A) (fs : FS G env ρ s) :
    wpAny (model G.prog G.w) A (forIn ifs true fun c r => if r = true then do let ok ← isTrue c env (eval c env); pure (ForInStep.yield ok) else pure (ForInStep.yield r)) (fun ok s' => ok = b ∧ Keeps s s') E s := by
  match ifs, h with
  | [], h => exact wpAny_tests_nil ⟨h.symm, keeps_refl s⟩
  | [c], h => exact wpAny_tests_one (wpAny_mono (h A s rm fs (fun e => by cases e)) (fun b' s' x => x) fun _ _ x => x.elim)

theorem paired_rep {h' : Heap} {f : PyData → PyData} : ∀ {vs ys : List Value}, Paired (fun v y => datOf y = f (datOf v) ∧ imm (f (datOf v)) = true) vs ys → RepAll h' ys (vs.map fun v => f (datOf v))
  | _, _, .nil => .nil
  | _, _, .cons (a := a) (b := b) h r => .cons (by have : Rep h' b (datOf b) := rep_datOf (by rw [h.1]; exact h.2); rw [h.1] at this; exact this) (paired_rep r)

abbrev cP (t : PyData → Bool) : Value → Bool := fun v => t (datOf v)
abbrev cF (f : PyData → PyData) : Value → Value → Prop := fun v y => datOf y = f (datOf v) ∧ imm (f (datOf v)) = true
theorem comp_pack {A : Around} {s₁ s₂ : Shared} {it : Value} {elt : Expr} {x : Str} {ifs : List Expr} {ds : List PyData} (f : PyData → PyData) (t : PyData → Bool) (cap : Cap env scope cl [x] ρ) (hx : scope.names.lookup x = some .local)
    (rm : Room k A) (f1 : FS G env ρ s₁) (h2 : SrcAt G fl s₁ s₂ it ds) (hi : ∀ d ∈ ds, imm d = true) (hlen : ds.length ≤ sizeLine)
    (ht : ∀ C, ∀ d ∈ ds, Tests G k (compEnvC scope cl C env) ([(x, d)] ++ ρ) ifs (t d))
    (he : ∀ C, ∀ d ∈ ds, t d = true → Ev G false k (compEnvC scope cl C env) ([(x, d)] ++ ρ) elt (f d)) (hf : ∀ d ∈ ds, t d = true → imm (f d) = true) :
    ∃ I fp wr n P St, it = .ref I ∧ Walks G.prog G.w A I fp wr n P St ∧ n ≤ sizeLine ∧ St 0 s₂.heap ∧ (∀ b ∈ fp, b < s₂.heap.objs.size) ∧ QuietOnC G.prog G.w A env scope cl x ifs elt wr P (cP t) (cF f) s₂ ∧
      (∀ b ∈ wr, s₁.heap.get? b = none) ∧ Keeps s₁ s₂ ∧
      (∀ (h' : Heap) (ys vs : List Value), vs.length = n → (∀ j v, vs[j]? = some v → P j v) → Paired (cF f) (vs.filter (cP t)) ys → RepAll h' ys ((ds.filter t).map f)) := by
  obtain ⟨I, fp, wr, P, St, rfl, ks, W, st0, hfp, hwr, _, hrep, _⟩ := h2
  have hd : ∀ i v, P i v → ds[i]? = some (datOf v) := fun i v hP => by
    obtain ⟨d, e, r⟩ := hrep i v s₁.heap hP fun _ _ _ _ e _ => e
    rw [e, datOf_of r (hi d (List.mem_of_getElem? e))]
  have ks' := ks
  obtain ⟨h₂, tk₂, rfl, k₂⟩ := ks
  have fr : ∀ C i v s₃ m₃, h₂.objs.size ≤ C → P i v → s₃.heap.Ns C m₃ → m₃ x = some v → (∀ b o, b ∉ wr → h₂.get? b = some o → s₃.heap.get? b = some o) → FS G (compEnvC scope cl C env) ([(x, datOf v)] ++ ρ) s₃ := by
    intro C i v s₃ m₃ hC hP hn hm hk
    have kk : ∀ b o, s₁.heap.get? b = some o → s₃.heap.get? b = some o := fun b o e => hk b o (fun hb => by rw [hwr b hb] at e; cases e) (k₂ b o e)
    have hsz : ∀ b o, s₁.heap.get? b = some o → b < C := fun b o e => Nat.lt_of_lt_of_le (Heap.lt_size (k₂ b o e)) hC
    obtain ⟨d, hd', rd⟩ := hrep i v s₃.heap hP fun b o _ _ e _ => kk b o e
    have hdd := datOf_of rd (hi d (List.mem_of_getElem? hd'))
    refine comp_frame cap f1 hsz kk hn (fun y d' e => ?_) (fun y hy => ?_) (fun y d' e => ?_) (fun y hy => ?_)
    · by_cases hy : y = x
      · subst hy
        rw [List.lookup_cons, beq_self_eq_true] at e
        cases e
        exact ⟨v, hm, hdd ▸ rd⟩
      · have : (y == x) = false := by simpa using hy
        rw [List.lookup_cons, this] at e; cases e
    · rw [List.mem_singleton.mp hy, List.lookup_cons, beq_self_eq_true]; rfl
    · by_cases hy : y = x
      · exact List.mem_singleton.mpr hy
      · have : (y == x) = false := by simpa using hy
        rw [List.lookup_cons, this] at e; cases e
    · rw [List.mem_singleton.mp hy]; exact hx
  have hmem : ∀ i v, P i v → datOf v ∈ ds := fun i v hP => List.mem_of_getElem? (hd i v hP)
  refine ⟨I, fp, wr, ds.length, P, St, rfl, W A rm.hd, hlen, st0, hfp, ⟨?_, ?_⟩, hwr, ks', ?_⟩
  · intro C i v s₃ m₃ E' hC hP hn hm hk _
    exact tests_run (ht C _ (hmem i v hP)) rm (fr C i v s₃ m₃ hC hP hn hm hk)
  · intro C i v s₃ m₃ E' hC hP hpv hn hm hk _
    refine wpAny_mono (he C _ (hmem i v hP) hpv A s₃ rm (fr C i v s₃ m₃ hC hP hn hm hk) (fun e => by cases e)) (fun y s₄ hy => ?_) fun _ _ x => x.elim
    exact ⟨⟨datOf_of hy.1 (hf _ (hmem i v hP) hpv), hf _ (hmem i v hP) hpv⟩, hy.2⟩
  · intro h' ys vs hlen' hP hF
    have hvs : vs.map datOf = ds := by
      apply List.ext_getElem?
      intro j
      rw [List.getElem?_map]
      cases hj : vs[j]? with
      | some v => rw [hd j v (hP j v hj)]; rfl
      | none =>
        have h1 := List.getElem?_eq_none_iff.mp hj
        exact (List.getElem?_eq_none (by omega)).symm
    have hr := paired_rep (h' := h') hF
    have hm : (vs.filter fun v => t (datOf v)).map (fun v => f (datOf v)) = (ds.filter t).map f := by
      rw [← hvs, List.filter_map, List.map_map]; rfl
    rw [hm] at hr
    exact hr

theorem ev_comp {elt iter : Expr} {x : Str} {px pos : Pos} {ifs : List Expr} {ds : List PyData} (f : PyData → PyData) (t : PyData → Bool) (cap : Cap env scope cl [x] ρ) (hx : scope.names.lookup x = some .local)
    (hsrc : Src G R fl k env ρ iter ds) (hi : ∀ d ∈ ds, imm d = true) (hlen : ds.length ≤ sizeLine)
    (ht : ∀ C, ∀ d ∈ ds, Tests G k (compEnvC scope cl C env) ([(x, d)] ++ ρ) ifs (t d))
    (he : ∀ C, ∀ d ∈ ds, t d = true → Ev G false k (compEnvC scope cl C env) ([(x, d)] ++ ρ) elt (f d)) (hf : ∀ d ∈ ds, t d = true → imm (f d) = true)
    (hs : ∀ v, foldedSetIterable iter env v = pure v) : Ev G R k env ρ (.ListComp elt [⟨.Name x px, iter, ifs, 0⟩] scope pos) (.list ((ds.filter t).map f)) := by
  intro A s rm fs p
  refine wpAny_ListComp_free (p := cP t) (F := cF f) cap.clos cap.cell cap.kind cap.names hx
    (wpAny_mono (hsrc A s rm fs p) (fun xv s₁ h1 => wpAny_mono h1.2 (fun it s₂ h2 => ?_) fun _ _ x => x) fun _ _ x => x) hs
  obtain ⟨I, fp, wr, n, P, St, e, W, hn, st0, hfp, hq, hwr, ks, hr⟩ := comp_pack f t cap hx rm (fs.step h1.1 p) h2 hi hlen ht he hf
  refine ⟨I, fp, wr, n, P, St, e, W, hn, st0, hfp, hq, ?_⟩
  intro D h' tk ys vs hD hl hpl hlen' hP hF hk
  obtain ⟨h₂, tk₂, rfl, k₂⟩ := ks
  have kk : ∀ b o, s₁.heap.get? b = some o → h'.get? b = some o := fun b o e => hk b o (fun hb => by rw [hwr b hb] at e; cases e) (k₂ b o e)
  obtain ⟨o, e1, e2, n, e3⟩ := hl
  exact ⟨.list e1 e2 e3 (hr h' _ vs hlen' hP hF), h1.1.trans (Rel.of_keeps h1.1.pre (keeps_of (tk := tk) kk))⟩

theorem oldk_but {h₀ h h' : Heap} {a : Addr} (K : OldK h₀ h) (ha : h₀.objs.size ≤ a) (hs : ∀ b o, b ≠ a → h.get? b = some o → h'.get? b = some o) : OldK h₀ h' := by
  have ne : ∀ b o, h₀.get? b = some o → b ≠ a := fun b o e => Nat.ne_of_lt (Nat.lt_of_lt_of_le (Heap.lt_size e) ha)
  refine ⟨fun b o e => ?_, fun b o e => let ⟨o', ho'⟩ := K.there b o e; ⟨o', hs b o' (ne b o e) ho'⟩⟩
  rcases K.old b o e with x | ⟨t, hc, vs, more, hv, x⟩ | ⟨rfl, hc, ⟨o', es, n, ho', r⟩, z⟩
  · exact .inl (hs b _ (ne b o e) x)
  · exact .inr (.inl ⟨t, hc, vs, more, hv, hs b _ (ne b o e) x⟩)
  · have hn := ne _ o e
    exact .inr (.inr ⟨rfl, hc, ⟨o', es, n, hs _ _ hn ho', r⟩, fun key => by rw [OldK.staticOf_congr ((hs _ _ hn ho').trans ho'.symm) key]; exact z key⟩)

theorem ex_assign_comp {elt iter : Expr} {x y : Str} {px py pos spos : Pos} {ifs : List Expr} {ds : List PyData} (f : PyData → PyData) (t : PyData → Bool) (cap : Cap env scope cl [x] ρ) (hx : scope.names.lookup x = some .local) (hy : env.kindOf y = some .local)
    (hsrc : Src G R fl k env ρ iter ds) (hi : ∀ d ∈ ds, imm d = true) (hlen : ds.length ≤ sizeLine)
    (ht : ∀ C, ∀ d ∈ ds, Tests G k (compEnvC scope cl C env) ([(x, d)] ++ ρ) ifs (t d))
    (he : ∀ C, ∀ d ∈ ds, t d = true → Ev G false k (compEnvC scope cl C env) ([(x, d)] ++ ρ) elt (f d)) (hf : ∀ d ∈ ds, t d = true → imm (f d) = true)
    (hs : ∀ v, foldedSetIterable iter env v = pure v) (hsw : swapsWith (.ListComp elt [⟨.Name x px, iter, ifs, 0⟩] scope pos) (some (.Name y py)) spos.line env = pure true) :
    Ex1 G R k env ρ (.Assign [.Name y py] (.ListComp elt [⟨.Name x px, iter, ifs, 0⟩] scope pos) spos) (.next ((y, .list ((ds.filter t).map f)) :: ρ)) := by
  intro A s rm fs p
  refine wpAny_Assign_ListComp_free (p := cP t) (F := cF f) hsw cap.clos cap.cell cap.kind cap.names hx hy (by rw [fs.fk]; rfl)
    (wpAny_mono (hsrc A s rm fs p) (fun xv s₁ h1 => wpAny_mono h1.2 (fun it s₂ h2 => ?_) fun _ _ x => x) fun _ _ x => x) hs
  have f1 := fs.step h1.1 p
  obtain ⟨I, fp, wr, n, P, St, e, W, hn, st0, hfp, hq, hwr, ks, hr⟩ := comp_pack f t cap hx rm f1 h2 hi hlen ht he hf
  obtain ⟨m, hm, hml⟩ := f1.ns
  obtain ⟨h₂, tk₂, rfl, k₂⟩ := ks
  have hLw : env.locals ∉ wr := fun hb => by
    obtain ⟨o, es, ep, e, _⟩ := hm
    have := Heap.of_hide e
    rw [hwr _ hb] at this; cases this
  refine ⟨I, fp, wr, n, P, St, m, e, W, hn, st0, hfp, hLw, (ns_real hm).keeps k₂, hq, ?_⟩
  intro D h' tk ys vs hD hl hpl hlen' hP hF hn' hk
  have kk : ∀ b o, b ≠ env.locals → s₁.heap.get? b = some o → h'.get? b = some o := fun b o hb e => hk b o hb (fun hb => by rw [hwr b hb] at e; cases e) (k₂ b o e)
  obtain ⟨o, e1, e2, n, e3⟩ := hl
  have hrep : Rep h' (.ref D) (.list ((ds.filter t).map f)) := .list e1 e2 e3 (hr h' _ vs hlen' hP hF)
  have sk : SeqKept s₁.heap h' := fun b o xs n e hd => kk b o (fun hb => own_seq f1 hb e hd) e
  have hL := notP f1 (.head _)
  have hLc : ∀ q ∈ env.cells, q.2 ≠ env.locals := fun q hq e => (List.nodup_cons.mp f1.nd).1 (List.mem_map.mpr ⟨q, hq, e⟩)
  have hh : ∀ b o, b ≠ env.locals → (s₁.heap.hide G.P).get? b = some o → (h'.hide G.P).get? b = some o := fun b o hb e => by
    by_cases hbP : b = G.P
    · subst hbP; rw [Heap.hide_self] at e; cases e
    · rw [Heap.hide_ne _ hbP] at e ⊢; exact kk b o hb e
  have lt : ∀ b o, G.H₀.get? b = some o → b ≠ env.locals := fun b o e => Nat.ne_of_lt (Nat.lt_of_lt_of_le (Heap.lt_size e) (f1.own _ (.head _)))
  refine ⟨⟨rfl, f1.w0, fun b o hb e => kk b o (lt b o e) (f1.ext b o hb e), f1.fk, f1.gl, f1.bl, f1.own, f1.nd, fun q hq => ?_, ⟨fun z => if z = y then some (.ref D) else m z, ?_, ?_⟩, ?_⟩, (h1.1.toB).trans ⟨?_, fun _ => ⟨_, _, rfl⟩, fun b o hb _ e => kk b o (fun h => hb (h ▸ .head _)) e⟩⟩
  · obtain ⟨v, o, e, d⟩ := f1.isc q hq
    exact ⟨v, o, hh _ _ (hLc q hq) e, d⟩
  · obtain ⟨o', es, ep, e', r'⟩ := hn'
    exact ⟨o', es, ep, (Heap.hide_ne _ hL).trans e', r'⟩
  · intro z d' e hkz
    dsimp only
    by_cases hz : z = y
    · subst hz
      rw [List.lookup_cons, beq_self_eq_true] at e
      cases e
      exact ⟨.ref D, if_pos rfl, hrep⟩
    · have : (z == y) = false := by simpa using hz
      rw [List.lookup_cons, this] at e
      obtain ⟨v', e', q⟩ := hml z d' e hkz
      exact ⟨v', by rw [if_neg hz]; exact e', q.mono sk⟩
  · intro z d' e hkz
    by_cases hz : z = y
    · subst hz; rw [hy] at hkz; rcases hkz with h | h <;> cases h
    · have : (z == y) = false := by simpa using hz
      rw [List.lookup_cons, this] at e
      obtain ⟨c, v', e1, ⟨o, e2, e3⟩, q⟩ := f1.cel z d' e hkz
      exact ⟨c, v', e1, ⟨o, hh _ _ (hLc (z, c) (lookup_mem' e1)) e2, e3⟩, q.mono sk⟩
  · intro hR
    have iv := h1.1.pre hR
    have hP : G.P ≠ env.locals := hL.symm
    have hc : G.c ≠ env.locals := Nat.ne_of_lt (Nat.lt_of_lt_of_le f1.w0.pn.2 (f1.own _ (.head _)))
    obtain ⟨ps, t1, t2⟩ := iv.tab
    exact ⟨iv.bare, oldk_but iv.old (f1.own _ (.head _)) kk, iv.os, ⟨ps, t1.extBut kk hc hP, t2.extBut kk hc hP⟩⟩
end
end Bx
end

section
open PySem PySem.W PyProof.Rows PySem.Calls PySem.Spec
set_option autoImplicit false
namespace Bx
section
variable {G : Gl} {R : Bool} {k : Nat} {env : Env} {ρ : Rho}

theorem FS.grow {s s' : Shared} (x : FS G env ρ s) (hk : ∀ b o, s.heap.get? b = some o → s'.heap.get? b = some o) : FS G env ρ s' where
  w0 := x.w0
  ext := x.ext.trans (.of_keep hk)
  fk := x.fk
  gl := x.gl
  bl := x.bl
  own := x.own
  nd := x.nd
  isc := fun q hq => let ⟨v, o, e, d⟩ := x.isc q hq; ⟨v, o, (Ext.of_keep hk).hide _ _ e, d⟩
  ns := let ⟨m, n, r⟩ := x.ns; ⟨m, n.keeps (Ext.of_keep hk).hide, fun y d e k => let ⟨v, e', q⟩ := r y d e k; ⟨v, e', q.mono fun b o _ _ e _ => hk b o e⟩⟩
  cel := fun y d e k => let ⟨c, v, e1, ⟨o, e2, e3⟩, q⟩ := x.cel y d e k; ⟨c, v, e1, ⟨o, (Ext.of_keep hk).hide _ _ e2, e3⟩, q.mono fun b o _ _ e _ => hk b o e⟩

/-- a for over a source; st i: what is known ahead of turn i -/
theorem ex_for {x : Str} {px pos : Pos} {iter : Expr} {body : List Stmt} {ds : List PyData} (st : Nat → Rho) (hx : env.kindOf x = some .local) (hsrc : Src G false true k env ρ iter ds) (h0 : Sub (st 0) ρ)
    (turn : ∀ i d, ds[i]? = some d → ∃ ρ', Ex G false k env ((x, d) :: st i) body (.next ρ') ∧ Sub (st (i + 1)) ρ')
    (hs : ∀ v, foldedSetIterable iter env v = pure v) : Ex1 G false k env ρ (.For (.Name x px) iter body [] pos) (.next (st ds.length)) := by
  intro A s rm fs p
  refine wpAny_For (wpAny_mono (hsrc A s rm fs p) (fun xv s₁ h1 => wpAny_mono h1.2 (fun it s₂ h2 => ?_) fun _ _ x => x) fun _ _ x => x) hs
  obtain ⟨I, fp, wr, P, St, rfl, ks, W, st0, hfp, hwr, hseq, hrep, hns⟩ := h2
  have f1 := fs.step h1.1 p
  obtain ⟨h₂, tk₂, rfl, k₂⟩ := ks
  have W := W A rm.hd
  have hown : ∀ b ∈ fp, b ∉ Own env := by
    intro b hb hbo
    have : ∃ o, s₁.heap.get? b = some o ∧ ∀ xs n, o.data ≠ .seq xs n := by
      rcases List.mem_cons.mp hbo with rfl | hbo
      · obtain ⟨m, ⟨o, es, ep, e, hd, _⟩, _⟩ := f1.ns
        exact ⟨o, Heap.of_hide e, fun xs n h => by rw [hd] at h; cases h⟩
      · obtain ⟨q, hq, rfl⟩ := List.mem_map.mp hbo
        obtain ⟨v, o, e, hd⟩ := f1.isc q hq
        exact ⟨o, Heap.of_hide e, fun xs n h => by rw [hd] at h; cases h⟩
    obtain ⟨o, e, hn⟩ := this
    rcases hseq b hb with h | ⟨o', xs, n, e', hd⟩
    · rw [h] at e; cases e
    · rw [e'] at e; cases e; exact hn xs n hd
  have hwo : ∀ b ∈ wr, b ∉ Own env := fun b hb => hown b (W.sub b hb)
  refine codeAny_forLoop (fun j s' => ∃ i, i ≤ ds.length ∧ j = ds.length - i ∧ FS G env (st i) s' ∧ St i s'.heap ∧ RelB G false env s₁ s') ?_ (ds.length)
    ⟨0, Nat.zero_le _, rfl, (f1.sub h0).grow k₂, st0, Rel.toB (R := false) (keeps_of (tk := tk₂) k₂)⟩
  rintro j s' ⟨i, hi, rfl, fi, sti, rb⟩
  obtain ⟨h', tk', rfl⟩ := rb.pure_ rfl
  have old₁ : ∀ {hh : Heap}, (∀ b o, b ∉ Own env → s₁.heap.get? b = some o → hh.get? b = some o) → SeqKept s₁.heap hh := fun hk b o xs n e hd => hk b o (fun hb => by
    rcases List.mem_cons.mp hb with h | hb
    · exact own_seq f1 h e hd
    · obtain ⟨q, hq, rfl⟩ := List.mem_map.mp hb
      obtain ⟨v, o', e', hd'⟩ := f1.isc q hq
      have := (Heap.of_hide e').symm.trans e
      cases this
      rw [hd] at hd'; cases hd') e
  -- a step of the iterator
  have upd : ∀ (h₃ : Heap) (tk₃ : Nat), (∀ b o, b ∉ wr → h'.get? b = some o → h₃.get? b = some o) → FS G env (st i) { s₁ with heap := h₃, toks := tk₃ } ∧ RelB G false env s₁ { s₁ with heap := h₃, toks := tk₃ } := by
    intro h₃ tk₃ hk
    have kk : ∀ b o, b ∉ wr → h'.get? b = some o → h₃.get? b = some o := hk
    have hh : ∀ b o, b ∉ wr → (h'.hide G.P).get? b = some o → (h₃.hide G.P).get? b = some o := fun b o hb e => by
      by_cases hbP : b = G.P
      · subst hbP; rw [Heap.hide_self] at e; cases e
      · rw [Heap.hide_ne _ hbP] at e ⊢; exact kk b o hb e
    have wrs : ∀ b ∈ wr, ∀ o xs n, h'.get? b = some o → o.data = .seq xs n → h₃.get? b = some o := by
      intro b hb o xs n e hd
      exact absurd hd (hns rfl i _ sti b hb o xs n e)
    have sk : SeqKept h' h₃ := fun b o xs n e hd => by
      by_cases hb : b ∈ wr
      · exact wrs b hb o xs n e hd
      · exact kk b o hb e
    have base : ∀ b o, b ≠ G.P → G.H₀.get? b = some o → h₃.get? b = some o := fun b o hb e => by
      refine kk b o (fun hw => ?_) (fi.ext b o hb e)
      have := f1.ext b o hb e
      rw [hwr b hw] at this; cases this
    refine ⟨⟨fi.w0, base, fi.fk, fi.gl, fi.bl, fi.own, fi.nd, fun q hq => ?_, ?_, fun y d e hky => ?_⟩, ⟨(fun e => Bool.noConfusion e), (fun _ => ⟨_, _, rfl⟩), fun b o hb hP e => ?_⟩⟩
    · obtain ⟨v, o, e, d⟩ := fi.isc q hq
      exact ⟨v, o, hh _ _ (fun hw => hwo _ hw (.tail _ (List.mem_map.mpr ⟨q, hq, rfl⟩))) e, d⟩
    · obtain ⟨m, ⟨o, es, ep, e, r⟩, hm⟩ := fi.ns
      exact ⟨m, ⟨o, es, ep, hh _ _ (fun hw => hwo _ hw (.head _)) e, r⟩, fun y d e hky => let ⟨v, e', q⟩ := hm y d e hky; ⟨v, e', q.mono sk⟩⟩
    · obtain ⟨c, v, e1, ⟨o, e2, e3⟩, q⟩ := fi.cel y d e hky
      exact ⟨c, v, e1, ⟨o, hh _ _ (fun hw => hwo _ hw (.tail _ (List.mem_map.mpr ⟨(y, c), lookup_mem' e1, rfl⟩))) e2, e3⟩, q.mono sk⟩
    · refine kk b o (fun hw => ?_) (rb.keep b o hb hP e)
      rw [hwr b hw] at e; cases e
  by_cases hlt : i < ds.length
  · refine W.item i _ _ _ hlt sti fun v h₃ tk₃ hP st₃ hk₃ => ?_
    obtain ⟨f3, rb3⟩ := upd h₃ tk₃ hk₃
    obtain ⟨d, hd, rd⟩ := hrep i v h₃ hP (old₁ fun b o hb e => rb3.keep b o hb (fun e => Bool.noConfusion e) e)
    refine wpAny_assign_Name (store_local (R := false) hx f3 (fun e => Bool.noConfusion e) rd fun s₄ f4 rb4 => ?_)
    obtain ⟨ρ', hex, hsub⟩ := turn i d hd
    refine wpAny_mono (hex A s₄ rm f4 (fun e => Bool.noConfusion e)) (fun f s₅ x => ?_) fun _ _ x => x.elim
    obtain ⟨⟨rfl, f5⟩, rb5⟩ := x
    refine ⟨ds.length - (i + 1), by omega, i + 1, hlt, rfl, f5.sub hsub, ?_, (rb3.trans rb4).trans rb5⟩
    exact W.frame _ _ _ st₃ fun b hb o e => rb5.keep b o (hown b hb) (fun e => Bool.noConfusion e) (rb4.keep b o (hown b hb) (fun e => Bool.noConfusion e) e)
  · have hin : i = ds.length := by omega
    subst hin
    refine W.done _ _ _ sti fun h₃ tk₃ hk₃ => ?_
    obtain ⟨f3, rb3⟩ := upd h₃ tk₃ hk₃
    exact wpAny_execs_nil ⟨⟨rfl, f3⟩, (Rel.toB h1.1).trans rb3⟩
end
end Bx
end

section
open PySem PySem.W PyProof.Rows PySem.Calls PySem.Spec
set_option autoImplicit false
namespace Bx
section
variable {G : Gl} {R : Bool} {k : Nat}

theorem RepAll.toInts {h : Heap} : ∀ {vs : List Value} {ns : List Int}, RepAll h vs (intsD ns) → IntsAre vs ns
  | _, [], .nil => .nil
  | _, _ :: _, .cons (.int _ _) r => .cons _ _ (RepAll.toInts r)
def strsD (l : List Str) : List PyData := l.map .str
theorem RepAll.toStrs {h : Heap} : ∀ {vs : List Value} {ss : List Str}, RepAll h vs (strsD ss) → ∃ l : List (Str × Tok), vs = strValues l ∧ l.map (·.1) = ss
  | _, [], .nil => ⟨[], rfl, rfl⟩
  | _, _ :: _, .cons (.str x t) r => let ⟨l, e, m⟩ := RepAll.toStrs r; ⟨(x, t) :: l, by rw [e]; rfl, by rw [← m]; rfl⟩
theorem RepAll.ofStrs {h : Heap} : ∀ (l : List (Str × Tok)), RepAll h (strValues l) (strsD (l.map (·.1)))
  | [] => .nil
  | (x, t) :: l => .cons (.str x t) (RepAll.ofStrs l)

theorem b_ord {c : Nat} : OpN G R k (callB "ord") [.str ⟨#[c]⟩] (.int (c : Int)) := fun A s vs _ _ p r => by
  cases r with
  | cons r rs =>
  cases rs
  cases r with
  | str _ t => exact ord_of_one rfl ⟨.int _ _, Rel.of_keeps p (keeps_toks _)⟩
theorem b_chr {i : Int} (h0 : 0 ≤ i) (h1 : i ≤ 1114111) : OpN G R k (callB "chr") [.int i] (.str ⟨#[i.toNat]⟩) := fun A s vs _ _ p r => by
  cases r with
  | cons r rs =>
  cases rs
  cases r with
  | int _ t => exact chr_of_range h0 h1 ⟨.str _ _, Rel.of_keeps p (keeps_toks _)⟩
theorem b_lenS {x : Str} (h : x.length < 2 ^ 62) : OpN G R k (callB "len") [.str x] (.int (x.length : Int)) := fun A s vs _ _ p r => by
  cases r with
  | cons r rs =>
  cases rs
  cases r with
  | str _ t => exact PyProof.Rows.len_str (by omega) ⟨.int _ _, Rel.of_keeps p (keeps_toks _)⟩
theorem b_len {xs : List PyData} (h : xs.length < 2 ^ 62) : OpN G R k (callB "len") [.list xs] (.int (xs.length : Int)) := fun A s vs _ _ p r => by
  cases r with
  | cons r rs =>
  cases rs
  obtain ⟨l, ws, rfl, il, q⟩ := rep_isList r
  have hz := q.ofArr
  refine PyProof.Rows.len_list il (by omega) ⟨?_, Rel.of_keeps p (keeps_toks _)⟩
  rw [← hz]
  exact .int _ _
theorem b_sum {ns : List Int} : OpN G R k (callB "sum") [.list (intsD ns)] (.int ns.sum) := fun A s vs rm _ p r => by
  cases r with
  | cons r rs =>
  cases rs
  obtain ⟨l, ws, rfl, il, q⟩ := rep_isList r
  have hi := q.toInts
  obtain ⟨xs, hx⟩ := hi.allInts.items
  have hws : ws = intItems xs := by simpa using hx
  subst hws
  refine sum_intListG rm.hd il fun h' tk t' hk => ⟨?_, Rel.of_keeps p (keeps_of hk)⟩
  have e : preSum (numAt xs) xs.size = ns.sum := by
    rw [preSum_eq, List.take_of_length_le (by simp), ← hi.numsOf, nums_intItems]
  rw [e]
  exact .int _ _
theorem t_tuple {xs : List PyData} (hs : xs.length ≤ sizeLine) : OpN G R k (callT "tuple") [.list xs] (.tuple xs) := fun A s vs _ _ p r => by
  cases r with
  | cons r rs =>
  cases rs
  obtain ⟨l, ws, rfl, il, q⟩ := rep_isList r
  refine call_tuple_list il (fun h' hk => ⟨.tuple (Heap.get?_push_size _ rfl) rfl rfl rfl (q.mono fun b o _ _ e _ => Heap.get?_push_of_some _ (hk b o e)), Rel.of_keeps p (keeps_of (tk := s.toks) fun b o e => Heap.get?_push_of_some _ (hk b o e))⟩) (by rw [q.ofArr]; exact hs)

/-! ### texts -/
theorem m_lower {x : Str} (hf : (Txt.lower x).length ≤ 1000000) : OpN G R k (callB "str.lower") [.str x] (.str (Txt.lower x)) := fun A s vs _ _ p r => by
  cases r with
  | cons r rs =>
  cases rs
  cases r with
  | str _ t => exact SC.lower (by simp only [Builtin.Str.tooLong, decide_eq_false_iff_not, sizeLine_eq]; omega) ⟨.str _ _, Rel.of_keeps p (keeps_toks _)⟩
theorem m_upper {x : Str} (hf : (Txt.upper x).length ≤ 1000000) : OpN G R k (callB "str.upper") [.str x] (.str (Txt.upper x)) := fun A s vs _ _ p r => by
  cases r with
  | cons r rs =>
  cases rs
  cases r with
  | str _ t => exact SC.upper (by simp only [Builtin.Str.tooLong, decide_eq_false_iff_not, sizeLine_eq]; omega) ⟨.str _ _, Rel.of_keeps p (keeps_toks _)⟩
theorem m_find {x y : Str} : OpN G R k (callB "str.find") [.str x, .str y] (.int (Txt.find x y)) := fun A s vs _ _ p r => by
  cases r with
  | cons r rs =>
  cases rs with
  | cons r2 rs =>
  cases rs
  cases r with
  | str _ t =>
  cases r2 with
  | str _ t => exact SC.find ⟨.int _ _, Rel.of_keeps p (keeps_toks _)⟩
theorem m_rfind {x y : Str} : OpN G R k (callB "str.rfind") [.str x, .str y] (.int (Txt.rfind x y)) := fun A s vs _ _ p r => by
  cases r with
  | cons r rs =>
  cases rs with
  | cons r2 rs =>
  cases rs
  cases r with
  | str _ t =>
  cases r2 with
  | str _ t => exact SC.rfind ⟨.int _ _, Rel.of_keeps p (keeps_toks _)⟩
theorem strs_of {vs : List Value} {ys : List Str} {h : Heap} (r : RepAll h vs (strsD ys)) : StrsAre vs ys := by
  induction ys generalizing vs with
  | nil => cases r; exact .nil
  | cons y ys ih =>
    cases r with
    | cons r rs => cases r; exact .cons _ _ (ih rs)
theorem m_join {x : Str} {ys : List Str} (hok : (ys.map (·.length)).sum + ys.length * x.length ≤ 16777216) : OpN G R k (callB "str.join") [.str x, .list (strsD ys)] (.str (Txt.join x ys)) := fun A s vs _ _ p r => by
  cases r with
  | cons r rs =>
  cases rs with
  | cons r2 rs =>
  cases rs
  cases r with
  | str _ t =>
  obtain ⟨l, ws, rfl, il, q⟩ := rep_isList r2
  exact PyProof.Rows.join_list il (strs_of q) hok fun t' k => ⟨.str _ _, Rel.of_keeps p (keeps_toks _)⟩
theorem m_split {x y : Str} (hy : (y.length == 0) = false) (hx : x.length ≤ 1000) : OpN G R k (callB "str.split") [.str x, .str y] (.list (strsD (Txt.split x y))) := fun A s vs _ _ p r => by
  cases r with
  | cons r rs =>
  cases rs with
  | cons r2 rs =>
  cases rs
  cases r with
  | str _ t =>
  cases r2 with
  | str _ u =>
  refine SCH.split1 (P := fun h => ∀ b o, s.heap.get? b = some o → h.get? b = some o) (fun h ob hk b o e => Heap.get?_push_of_some _ (hk b o e)) (fun _ _ e => e) hy (fun D l h' k hl hk il => ?_) (by rw [sizeLine_eq]; omega) ?_
  · obtain ⟨o, e1, e2, n, e3⟩ := il
    refine ⟨?_, Rel.of_keeps p (keeps_of hk)⟩
    rw [← hl]
    exact .list e1 e2 e3 (RepAll.ofStrs l)
  · rw [len_partsBetween, sizeLine_eq]
    have := StrLaws.occ_length_le x y 0 x.length (x.length + 1)
    omega
end
end Bx
end

section
open PySem PySem.W PyProof.Rows PySem.Calls PySem.Spec
set_option autoImplicit false
namespace Bx
section
variable {G : Gl} {R : Bool} {k : Nat}
theorem index_run {prog : Program} {w : World} {A : Around} {E : Value → Shared → Prop} {f : Nat → Option PySem.Fin × Unit → Sem (ForInStep (Option PySem.Fin × Unit))} {xs : Array Value} {ns : List Int} {n : Int} {u : Tok} {j : Nat} (hx : IntsAre xs.toList ns) (hj : ns[j]? = some n) (hno : ∀ i m, i < j → ns[i]? = some m → m ≠ n)
    (hf : ∀ (i : Nat) y, xs[i]? = some y → f i (none, ()) = (do
        let r ← eqBool y (.int n u)
        if r = true then do
          let r ← retInt ↑i
          pure (ForInStep.done (some r, ()))
        else pure (ForInStep.yield (none, ())))) :
    ∀ (c i : Nat) (s : Shared) (Q : Option PySem.Fin × Unit → Shared → Prop), c + i = ns.length → i ≤ j → Q (some (.done (.ret (.int j s.toks))), ()) { s with toks := s.toks + 1 } →
    wpAny (model prog w) A (forIn (List.range' i c 1) (none, ()) f) Q E s := by
  intro c
  induction c with
  | zero =>
    intro i s Q hc hi _
    have := (List.getElem?_eq_some_iff.mp hj).1
    omega
  | succ c ih =>
    intro i s Q hc hi hQ
    have hil : i < ns.length := by omega
    obtain ⟨t, ht⟩ := hx.get i ns[i] (List.getElem?_eq_getElem hil)
    have hxi : xs[i]? = some (.int ns[i] t) := by rw [← Array.getElem?_toList]; exact ht
    rw [List.range'_succ, List.forIn_cons]
    rw [hf i _ hxi]
    by_cases he : ns[i] = n
    · have hij : i = j := by
        rcases Nat.lt_or_ge i j with h | h
        · exact absurd he (hno i _ h (List.getElem?_eq_getElem hil))
        · omega
      subst hij
      refine wpAny_bind (wpAny_bind (wpAny_eqBool_int ?_))
      rw [he, beq_self_eq_true]
      exact wpAny_bind (wpAny_bind (wpAny_mkInt (wpAny_pure (wpAny_pure (wpAny_pure hQ)))))
    · refine wpAny_bind (wpAny_bind (wpAny_eqBool_int ?_))
      have hb : (ns[i] == n) = false := by simpa using he
      rw [hb]
      refine wpAny_pure (ih (i + 1) s Q (by omega) ?_ hQ)
      rcases Nat.lt_or_ge i j with h | h
      · omega
      · have hij : i = j := by omega
        subst hij
        rw [List.getElem?_eq_getElem hil] at hj
        cases hj
        exact absurd rfl he
theorem m_index {ns : List Int} {n : Int} {j : Nat} (hj : ns[j]? = some n) (hno : ∀ i m, i < j → ns[i]? = some m → m ≠ n) : OpN G R k (callB "tuple.index") [.tuple (intsD ns), .int n] (.int (j : Int)) := fun A s vs _ _ p r => by
  cases r with
  | cons r rs =>
  cases rs with
  | cons r2 rs =>
  cases rs
  cases r2 with
  | int _ u =>
  obtain ⟨l, xs, rfl, il, q⟩ := rep_isTuple r
  obtain ⟨o, e1, e2, m, e3⟩ := id il
  have hI := q.toInts
  have hz : xs.size = ns.length := by rw [q.ofArr]; simp [intsD]
  refine wpAny_call_entry F.slot_tuple_index il.typeIs F.entry_tuple_index ?_ (F.args_tuple_index_2 _ _)
  unfold Builtin.«tuple.index»
  refine wpAny_bind (wpAny_of_eq (a := (.ref l, [.int n u])) rfl ?_)
  dsimp only
  refine wpAny_bind (wpAny_tupleItemsOf e1 e3 ?_)
  refine wpAny_bind (wpAny_pure (wpAny_bind (wpAny_pure ?_)))
  rw [Std.Legacy.Range.forIn_eq_forIn_range']
  have hr : ([0:min xs.size xs.size] : Std.Legacy.Range).size = ns.length := by simp [Std.Legacy.Range.size, hz]
  rw [hr]
  refine wpAny_bind (index_run (u := u) hI hj hno (fun i y h => by simp only [h]) ns.length 0 s _ (by omega) (Nat.zero_le _) ?_)
  exact wpAny_pure ⟨_, rfl, .int _ _, Rel.of_keeps p (keeps_toks _)⟩
end
end Bx
end

section
open PySem PySem.W PyProof.Rows PySem.Calls PySem.Spec
set_option autoImplicit false
namespace Bx

/-- an iterator of a list or of a tuple -/
inductive SIt (h : Heap) (it l : Addr) (i : Nat) (xs : Array Value) : Prop
  | list : h.IsListIter it l i → h.IsList l xs → it ≠ l → SIt h it l i xs
  | tuple : h.IsTupleIter it l i → h.IsTuple l xs → it ≠ l → SIt h it l i xs
theorem SIt.ext {h h' : Heap} {it l b : Addr} {i : Nat} {xs : Array Value} (x : SIt h it l i xs) (hs : Heap.ExtBut b h h') (h1 : it ≠ b) (h2 : l ≠ b) : SIt h' it l i xs := by
  cases x with
  | list a c d => exact .list (a.extBut hs h1) (c.extBut hs h2) d
  | tuple a c d => exact .tuple (a.extBut hs h1) (c.extBut hs h2) d
theorem SIt.at {h h' : Heap} {it l : Addr} {i : Nat} {xs : Array Value} (x : SIt h it l i xs) (h1 : ∀ o, h.get? it = some o → h'.get? it = some o) (h2 : ∀ o, h.get? l = some o → h'.get? l = some o) : SIt h' it l i xs := by
  cases x with
  | list a c d => exact .list (a.at h1) (c.at h2) d
  | tuple a c d =>
    obtain ⟨o, e, r⟩ := a
    obtain ⟨o', e', r'⟩ := c
    exact .tuple ⟨o, h1 _ e, r⟩ ⟨o', h2 _ e', r'⟩ d
theorem SIt.lt {h : Heap} {it l : Addr} {i : Nat} {xs : Array Value} (x : SIt h it l i xs) : it < h.objs.size ∧ l < h.objs.size := by
  cases x with
  | list a c d => obtain ⟨o, e, _⟩ := a; obtain ⟨o', e', _⟩ := c; exact ⟨Heap.lt_size e, Heap.lt_size e'⟩
  | tuple a c d => obtain ⟨o, e, _⟩ := a; obtain ⟨o', e', _⟩ := c; exact ⟨Heap.lt_size e, Heap.lt_size e'⟩

section
variable {prog : Program} {w : World} {A : Around} {E : Value → Shared → Prop} {s : Shared}
theorem nextOf_tuple_item {it l : Addr} {i : Nat} {items : Array Value} {x : Value} {Q : Value → Shared → Prop} (hit : s.heap.IsTupleIter it l i)
    (hl : s.heap.IsTuple l items) (hx : items[i]? = some x)
    (hQ : ∀ h', h'.IsTupleIter it l (i + 1) → Heap.SameBut it s.heap h' → Q x { s with heap := h' }) :
    wpAny (model prog w) A (Builtin.SmallTypes.nextOf (.ref it)) Q E s := by
  obtain ⟨o, ho, hc, hd⟩ := id hit
  obtain ⟨ol, hol, _, nl, hdl⟩ := hl
  unfold Builtin.SmallTypes.nextOf
  refine wpAny_bind (wpAny_callSpecial?_slot (name := Str.ofString "__next__") hit.typeIs F.slot_tuple_iterator_next
    (wpAny_call_entry F.slot_tuple_iterator_next hit.typeIs F.entry_tuple_iterator_next ?_ (F.args_tuple_iterator_next_1 _)))
  show wpAny _ _ (field (.ref it) 0 >>= _) _ _ s
  refine wpAny_bind (wpAny_field ho hd (x := .ref l) rfl ?_)
  show wpAny _ _ (if (Value.ref l == Value.none) = true then _ else _) _ _ s
  rw [if_neg (show ¬ ((Value.ref l == Value.none) = true) from Bool.false_ne_true)]
  show wpAny _ _ (field (.ref it) 1 >>= _) _ _ s
  refine wpAny_bind (wpAny_field ho hd (x := .int i 0) rfl ?_)
  show wpAny _ _ (seqItems? (.ref l) >>= _) _ _ s
  refine wpAny_bind (wpAny_seqItems hol hdl ?_)
  simp only [Int.toNat_natCast, hx]
  refine wpAny_bind (wpAny_setField ho hd (by simp) (wpAny_pure ⟨x, rfl, wpAny_pure (hQ _ ?_ (Heap.SameBut.update ..))⟩))
  exact ⟨_, Heap.get?_update_self _ ho (Obj.isFreed_of_fields (Obj.data_mapFields hd _)), (Obj.cls_mapFields ..).trans hc, by
    rw [Obj.data_mapFields hd]; simp [rawInt]⟩
theorem nextOf_tuple_end {it l : Addr} {i : Nat} {items : Array Value} {Q : Value → Shared → Prop} (hh : A.handled = none)
    (hit : s.heap.IsTupleIter it l i) (hl : s.heap.IsTuple l items) (hx : items[i]? = none)
    (hE : ∀ h' e, Heap.ExtBut it s.heap h' → (∃ o, h'.get? e = some o ∧ o.cls = .type "StopIteration") → E (.ref e) { s with heap := h' }) :
    wpAny (model prog w) A (Builtin.SmallTypes.nextOf (.ref it)) Q E s := by
  obtain ⟨o, ho, hc, hd⟩ := id hit
  obtain ⟨ol, hol, _, nl, hdl⟩ := hl
  unfold Builtin.SmallTypes.nextOf
  refine wpAny_bind (wpAny_callSpecial?_slot (name := Str.ofString "__next__") hit.typeIs F.slot_tuple_iterator_next
    (wpAny_call_entry F.slot_tuple_iterator_next hit.typeIs F.entry_tuple_iterator_next ?_ (F.args_tuple_iterator_next_1 _)))
  show wpAny _ _ (field (.ref it) 0 >>= _) _ _ s
  refine wpAny_bind (wpAny_field ho hd (x := .ref l) rfl ?_)
  show wpAny _ _ (if (Value.ref l == Value.none) = true then _ else _) _ _ s
  rw [if_neg (show ¬ ((Value.ref l == Value.none) = true) from Bool.false_ne_true)]
  show wpAny _ _ (field (.ref it) 1 >>= _) _ _ s
  refine wpAny_bind (wpAny_field ho hd (x := .int i 0) rfl ?_)
  show wpAny _ _ (seqItems? (.ref l) >>= _) _ _ s
  refine wpAny_bind (wpAny_seqItems hol hdl ?_)
  simp only [Int.toNat_natCast, hx]
  refine wpAny_bind (wpAny_rule (wpAny_bind (wpAny_setField ho hd (by simp) ?_)))
  show wpAny _ _ (newExc (.type "StopIteration") [] >>= _) _ _ _
  refine wpAny_bind ?_
  simp only [newExc, newTuple]
  refine wpAny_bind (wpAny_newObj_type ?_ (by size_fits))
  refine wpAny_bind (m := firstArgMember _ _) (wpAny_of_eq (a := Value.none) (by first | rfl | (simp only [firstArgMember]; rfl)) ?_)
  refine wpAny_newObj_type ?_ (by size_fits)
  simp only [raiseNew]
  refine wpAny_bind (wpAny_handled ?_)
  first | rw [show A.in1.handled = none from hh] | rw [hh]
  refine wpAny_bind (wpAny_pure (wpAny_throw ?_))
  exact hE _ _ (((Heap.SameBut.update ..).extBut.push _).push _) ⟨_, Heap.get?_push_size _ rfl, rfl⟩
theorem SIt.next {it l : Addr} {i : Nat} {items : Array Value} {x : Value} {Q : Value → Shared → Prop} (hit : SIt s.heap it l i items) (hx : items[i]? = some x)
    (hQ : ∀ h', SIt h' it l (i + 1) items → Heap.SameBut it s.heap h' → Q x { s with heap := h' }) : wpAny (model prog w) A (Builtin.SmallTypes.nextOf (.ref it)) Q E s := by
  cases hit with
  | list a c d => exact wpAny_nextOf_list_item a c hx fun h' a' hs => hQ h' (.list a' (c.extBut hs.extBut d.symm) d) hs
  | tuple a c d => exact nextOf_tuple_item a c hx fun h' a' hs => hQ h' (.tuple a' (c.extBut hs.extBut d.symm) d) hs
theorem SIt.stop {it l : Addr} {i : Nat} {items : Array Value} {Q : Value → Shared → Prop} (hh : A.handled = none) (hit : SIt s.heap it l i items) (hx : items[i]? = none)
    (hE : ∀ h' e, Heap.ExtBut it s.heap h' → (∃ o, h'.get? e = some o ∧ o.cls = .type "StopIteration") → E (.ref e) { s with heap := h' }) :
    wpAny (model prog w) A (Builtin.SmallTypes.nextOf (.ref it)) Q E s := by
  cases hit with
  | list a c d => exact wpAny_nextOf_list_end hh a c hx hE
  | tuple a c d => exact nextOf_tuple_end hh a c hx hE

theorem zipS_item {z TI TO i1 i2 l1 l2 : Addr} {k1 k2 : Nat} {xs ys : Array Value} {x y a b : Value} {Q : Value → Shared → Prop} (D : ZipApart z TI TO i1 i2 l1 l2)
    (hz : IsZip s.heap z TI TO .none) (hTI : IsPair s.heap TI (.ref i1) (.ref i2)) (hTO : IsPair s.heap TO a b)
    (h1 : SIt s.heap i1 l1 k1 xs) (h2 : SIt s.heap i2 l2 k2 ys) (hx : xs[k1]? = some x) (hy : ys[k2]? = some y)
    (hQ : ∀ h', IsZip h' z TI TO (rawInt s.heap.objs.size) → IsPair h' TO x y → SIt h' i1 l1 (k1 + 1) xs → SIt h' i2 l2 (k2 + 1) ys → IsPair h' s.heap.objs.size x y →
      (∀ c o, c ≠ z → c ≠ TO → c ≠ i1 → c ≠ i2 → s.heap.get? c = some o → h'.get? c = some o) → Q (.ref s.heap.objs.size) { s with heap := h' }) :
    wpAny (model prog w) A (Builtin.«zip.__next__» ⟨[.ref z], []⟩) (fun fin s' => ∃ v, fin = .done (.ret v) ∧ Q v s') E s := by
  show wpAny _ _ (field (.ref z) 2 >>= _) _ _ _
  refine wpAny_bind (wpAny_field hz rfl (x := .bool false) rfl ?_)
  show wpAny _ _ (field (.ref z) 3 >>= _) _ _ _
  refine wpAny_bind (wpAny_field hz rfl (x := .ref TI) rfl ?_)
  refine wpAny_bind (wpAny_seqItems hTI rfl ?_)
  show wpAny _ _ (Builtin.SmallTypes.ownedTupleIsFree (.ref z) >>= _) _ _ _
  refine wpAny_bind ?_
  unfold Builtin.SmallTypes.ownedTupleIsFree
  refine wpAny_bind (wpAny_field hz rfl (x := .none) rfl (wpAny_pure ?_))
  simp only [if_true]
  refine wpAny_bind (wpAny_rule ?_)
  refine wpAny_bind (wpAny_field hz rfl (x := .ref TO) rfl ?_)
  refine wpAny_bind (wpAny_setField_rec hz (by simp) fun h₁ hz₁ hs₁ => ?_)
  replace hz₁ : IsZip h₁ z TI TO .ellipsis := hz₁
  refine wpAny_bind ?_
  simp only [List.zipIdx_cons, List.zipIdx_nil, List.forIn_cons, List.forIn_nil]
  refine wpAny_bind (wpAny_bind (wpAny_onRaise ?_))
  show wpAny _ _ (Builtin.SmallTypes.nextOf (.ref i1) >>= _) _ _ _
  refine wpAny_bind ((h1.ext hs₁.extBut D.i1z D.l1z).next hx fun h₂ h1₂ hs₂ => wpAny_pure ?_)
  have hTO₂ : IsPair h₂ TO a b := hs₂.extBut _ _ D.TOi1 (hs₁.extBut _ _ D.TOz hTO)
  refine wpAny_bind (wpAny_seqItems hTO₂ rfl ?_)
  refine wpAny_bind (wpAny_updateSeq_pair hTO₂ fun h₃ hTO₃ hs₃ => ?_)
  replace hTO₃ : IsPair h₃ TO x b := hTO₃
  refine wpAny_bind (wpAny_letGo (wpAny_pure ?_))
  refine wpAny_bind (wpAny_bind (wpAny_onRaise ?_))
  show wpAny _ _ (Builtin.SmallTypes.nextOf (.ref i2) >>= _) _ _ _
  refine wpAny_bind ((((h2.ext hs₁.extBut D.i2z D.l2z).ext hs₂.extBut D.i12.symm D.l2i1).ext hs₃.extBut D.TOi2.symm D.l2TO).next hy fun h₄ h2₄ hs₄ => wpAny_pure ?_)
  have hTO₄ : IsPair h₄ TO x b := hs₄.extBut _ _ D.TOi2 hTO₃
  refine wpAny_bind (wpAny_seqItems hTO₄ rfl ?_)
  refine wpAny_bind (wpAny_updateSeq_pair hTO₄ fun h₅ hTO₅ hs₅ => ?_)
  replace hTO₅ : IsPair h₅ TO x y := hTO₅
  refine wpAny_bind (wpAny_letGo (wpAny_pure (wpAny_pure ?_)))
  refine wpAny_bind (wpAny_seqItems hTO₅ rfl ?_)
  refine wpAny_bind (wpAny_newTuple ?_)
  have hsz : h₅.objs.size = s.heap.objs.size := by rw [hs₅.1, hs₄.1, hs₃.1, hs₂.1, hs₁.1]
  have hz₅ : IsZip h₅ z TI TO .ellipsis := hs₅.extBut _ _ D.TOz.symm (hs₄.extBut _ _ D.i2z.symm (hs₃.extBut _ _ D.TOz.symm (hs₂.extBut _ _ D.i1z.symm hz₁)))
  have hk₅ : ∀ c o, c ≠ z → c ≠ TO → c ≠ i1 → c ≠ i2 → s.heap.get? c = some o → h₅.get? c = some o := fun c o c1 c2 c3 c4 e =>
    hs₅.extBut _ _ c2 (hs₄.extBut _ _ c4 (hs₃.extBut _ _ c2 (hs₂.extBut _ _ c3 (hs₁.extBut _ _ c1 e))))
  have h1₅ : SIt h₅ i1 l1 (k1 + 1) xs := ((h1₂.ext hs₃.extBut D.TOi1.symm D.l1TO).ext hs₄.extBut D.i12 D.l1i2).ext hs₅.extBut D.TOi1.symm D.l1TO
  have h2₅ : SIt h₅ i2 l2 (k2 + 1) ys := h2₄.ext hs₅.extBut D.TOi2.symm D.l2TO
  have hzlt : z < h₅.objs.size := Heap.lt_size hz₅
  show wpAny _ _ (Builtin.SmallTypes.ownedTupleHandOut (.ref z) (.ref h₅.objs.size) >>= _) _ _ _
  refine wpAny_bind ?_
  unfold Builtin.SmallTypes.ownedTupleHandOut
  have hz₆ : IsZip (h₅.push { cls := .type "tuple", data := .seq #[x, y] }) z TI TO .ellipsis := Heap.get?_push_of_some _ hz₅
  refine wpAny_bind (wpAny_setField_rec hz₆ (by simp) fun h₇ hz₇ hs₇ => ?_)
  replace hz₇ : IsZip h₇ z TI TO (rawInt h₅.objs.size) := hz₇
  refine wpAny_setField_rec hz₇ (by simp) fun h₈ hz₈ hs₈ => ?_
  replace hz₈ : IsZip h₈ z TI TO (rawInt h₅.objs.size) := hz₈
  have up : ∀ c o, c ≠ z → h₅.get? c = some o → h₈.get? c = some o := fun c o c1 e => hs₈.extBut _ _ c1 (hs₇.extBut _ _ c1 (Heap.get?_push_of_some _ e))
  have hT₈ : IsPair h₈ h₅.objs.size x y := hs₈.extBut _ _ (Nat.ne_of_gt hzlt) (hs₇.extBut _ _ (Nat.ne_of_gt hzlt) (Heap.get?_push_size _ rfl))
  rw [hsz] at hz₈ hT₈
  refine wpAny_pure ⟨_, rfl, ?_⟩
  show Q (.ref h₅.objs.size) _
  rw [hsz]
  exact hQ h₈ hz₈ (up _ _ D.TOz hTO₅) (h1₅.at (fun o e => up _ o D.i1z e) (fun o e => up _ o D.l1z e)) (h2₅.at (fun o e => up _ o D.i2z e) (fun o e => up _ o D.l2z e)) hT₈ fun c o c1 c2 c3 c4 e => up c o c1 (hk₅ c o c1 c2 c3 c4 e)

theorem zipS_end {z TI TO i1 i2 l1 l2 : Addr} {k1 : Nat} {xs : Array Value} {a b : Value} {Q : PySem.Fin → Shared → Prop} (hh : A.handled = none) (D : ZipApart z TI TO i1 i2 l1 l2)
    (hz : IsZip s.heap z TI TO .none) (hTI : IsPair s.heap TI (.ref i1) (.ref i2)) (hTO : IsPair s.heap TO a b)
    (h1 : SIt s.heap i1 l1 k1 xs) (hend : xs[k1]? = none)
    (hE : ∀ h' e, (∀ c o, c ≠ z → c ≠ TO → c ≠ i1 → c ≠ i2 → s.heap.get? c = some o → h'.get? c = some o) → (∃ o, h'.get? e = some o ∧ o.cls = .type "StopIteration") → E (.ref e) { s with heap := h' }) :
    wpAny (model prog w) A (Builtin.«zip.__next__» ⟨[.ref z], []⟩) Q E s := by
  show wpAny _ _ (field (.ref z) 2 >>= _) _ _ _
  refine wpAny_bind (wpAny_field hz rfl (x := .bool false) rfl ?_)
  show wpAny _ _ (field (.ref z) 3 >>= _) _ _ _
  refine wpAny_bind (wpAny_field hz rfl (x := .ref TI) rfl ?_)
  refine wpAny_bind (wpAny_seqItems hTI rfl ?_)
  show wpAny _ _ (Builtin.SmallTypes.ownedTupleIsFree (.ref z) >>= _) _ _ _
  refine wpAny_bind ?_
  unfold Builtin.SmallTypes.ownedTupleIsFree
  refine wpAny_bind (wpAny_field hz rfl (x := .none) rfl (wpAny_pure ?_))
  simp only [if_true]
  refine wpAny_bind (wpAny_rule ?_)
  refine wpAny_bind (wpAny_field hz rfl (x := .ref TO) rfl ?_)
  refine wpAny_bind (wpAny_setField_rec hz (by simp) fun h₁ hz₁ hs₁ => ?_)
  replace hz₁ : IsZip h₁ z TI TO .ellipsis := hz₁
  refine wpAny_bind ?_
  simp only [List.zipIdx_cons, List.zipIdx_nil, List.forIn_cons, List.forIn_nil]
  refine wpAny_bind (wpAny_bind (wpAny_onRaise ?_))
  show wpAny _ _ (Builtin.SmallTypes.nextOf (.ref i1) >>= _) _ _ _
  refine wpAny_bind ((h1.ext hs₁.extBut D.i1z D.l1z).stop hh hend fun h₂ e hs₂ he => ?_)
  obtain ⟨oe, hoe, hce⟩ := he
  have hz₂ : IsZip h₂ z TI TO .ellipsis := hs₂ _ _ D.i1z.symm hz₁
  have hez : e ≠ z := fun x => by subst x; rw [hz₂] at hoe; cases hoe; simp at hce
  refine wpAny_setField_rec hz₂ (by simp) fun h₃ _ hs₃ => hE h₃ e (fun c o c1 _ c3 _ x => hs₃.extBut _ _ c1 (hs₂ _ _ c3 (hs₁.extBut _ _ c1 x))) ⟨oe, hs₃.extBut _ _ hez hoe, hce⟩

theorem WalksT.zipS (hh : A.handled = none) (z TI TO i1 i2 l1 l2 : Addr) (D : ZipApart z TI TO i1 i2 l1 l2) (xs ys : Array Value) (hsz : xs.size ≤ ys.size) :
    WalksT prog w A z [z, TI, TO, i1, i2, l1, l2] [z, TO, i1, i2] xs.size
      (fun i vals => ∃ x y, xs[i]? = some x ∧ ys[i]? = some y ∧ vals = #[x, y])
      (fun i h => IsZip h z TI TO .none ∧ IsPair h TI (.ref i1) (.ref i2) ∧ (∃ a b, IsPair h TO a b) ∧ SIt h i1 l1 i xs ∧ SIt h i2 l2 i ys)
      (fun i T h => IsZip h z TI TO (rawInt T) ∧ IsPair h TI (.ref i1) (.ref i2) ∧ (∃ a b, IsPair h TO a b) ∧ SIt h i1 l1 (i + 1) xs ∧ SIt h i2 l2 (i + 1) ys ∧
        T ≠ z ∧ T ≠ TO ∧ T ≠ i1 ∧ T ≠ i2) where
  sub := fun c hc => by simp at hc ⊢; rcases hc with rfl | rfl | rfl | rfl <;> simp
  frame := fun i h h' hst hk => by
    obtain ⟨hz, hTI, ⟨a, b, hTO⟩, h1, h2⟩ := hst
    exact ⟨hk z (by simp) _ hz, hk TI (by simp) _ hTI, ⟨a, b, hk TO (by simp) _ hTO⟩, h1.at (fun o e => hk i1 (by simp) o e) (fun o e => hk l1 (by simp) o e), h2.at (fun o e => hk i2 (by simp) o e) (fun o e => hk l2 (by simp) o e)⟩
  item := fun i s Q E hi hst hQ => by
    obtain ⟨hz, hTI, ⟨a, b, hTO⟩, h1, h2⟩ := hst
    have hiy : i < ys.size := Nat.lt_of_lt_of_le hi hsz
    have hT : s.TypeIs (.ref z) "zip" := ⟨_, hz, rfl⟩
    have lt : ∀ {c o}, s.heap.get? c = some o → s.heap.objs.size ≠ c := fun e => Nat.ne_of_gt (Heap.lt_size e)
    unfold pyNext
    refine wpAny_bind (wpAny_attempt (wpAny_callSpecial?_slot (name := Str.ofString "__next__") hT F.slot_zip_next
      (wpAny_call_entry F.slot_zip_next hT F.entry_zip_next
        (zipS_item D hz hTI hTO h1 h2 (Array.getElem?_eq_getElem hi) (Array.getElem?_eq_getElem hiy) fun h' a1 a2 a3 a4 a5 hk => wpAny_pure ?_) (F.args_zip_next_1 _))))
    exact hQ s.heap.objs.size #[xs[i], ys[i]] h' s.toks ⟨_, _, Array.getElem?_eq_getElem hi, Array.getElem?_eq_getElem hiy, rfl⟩ (Nat.le_refl _) ⟨_, a5, rfl, _, rfl⟩
      ⟨a1, hk _ _ D.TIz D.TITO D.TIi1 D.TIi2 hTI, ⟨_, _, a2⟩, a3, a4, lt hz, lt hTO, Nat.ne_of_gt h1.lt.1, Nat.ne_of_gt h2.lt.1⟩
      fun c o hc e => hk c o (fun x => hc (by simp [x])) (fun x => hc (by simp [x])) (fun x => hc (by simp [x])) (fun x => hc (by simp [x])) e
  go := fun elts k pos i T s Q E hm hQ => by
    obtain ⟨hz, hTI, ⟨a, b, hTO⟩, h1, h2, _⟩ := hm
    refine wpAny_letOwnedTupleGo_zip hz fun h' hz' hs' => hQ h' ⟨hz', hs'.extBut _ _ D.TIz hTI, ⟨a, b, hs'.extBut _ _ D.TOz hTO⟩, h1.ext hs'.extBut D.i1z D.l1z, h2.ext hs'.extBut D.i2z D.l2z⟩
      fun c o hc e => hs'.extBut _ _ (fun x => hc (by simp [x])) e
  apart := fun i T h hm hT => by
    obtain ⟨_, _, _, _, _, t1, t2, t3, t4⟩ := hm
    simp at hT
    rcases hT with rfl | rfl | rfl | rfl
    · exact t1 rfl
    · exact t2 rfl
    · exact t3 rfl
    · exact t4 rfl
  done := fun s Q E hst hQ => by
    obtain ⟨hz, hTI, ⟨a, b, hTO⟩, h1, h2⟩ := hst
    have hT : s.TypeIs (.ref z) "zip" := ⟨_, hz, rfl⟩
    unfold pyNext
    refine wpAny_bind (wpAny_attempt (wpAny_callSpecial?_slot (name := Str.ofString "__next__") hT F.slot_zip_next
      (wpAny_call_entry F.slot_zip_next hT F.entry_zip_next (zipS_end hh D hz hTI hTO h1 (Array.getElem?_eq_none (Nat.le_refl _)) fun h' e hk he => ?_) (F.args_zip_next_1 _))))
    obtain ⟨o, ho, hc⟩ := he
    refine wpAny_bind (wpAny_isInstance (T := "StopIteration") (b := true) ⟨o, ho, hc⟩ isSubtype_stop ?_)
    exact wpAny_pure (hQ h' s.toks fun c o hc e =>
      hk c o (fun x => hc (by simp [x])) (fun x => hc (by simp [x])) (fun x => hc (by simp [x])) (fun x => hc (by simp [x])) e)
  self := fun i s Q E hst hQ => wpAny_pyIter_zip hst.1 hQ
end
end Bx
end

section
open PySem PySem.W PyProof.Rows PySem.Calls PySem.Spec
set_option autoImplicit false
namespace Bx
def SeqC (b : Bool) (h : Heap) (l : Addr) (xs : Array Value) : Prop := if b = true then h.IsTuple l xs else h.IsList l xs
def itObj (b : Bool) (l : Addr) : Obj := { cls := .type (if b then "tuple_iterator" else "list_iterator"), data := .fields #[.ref l, .int 0 0] }
theorem SeqC.push {b : Bool} {h : Heap} {l : Addr} {xs : Array Value} (x : SeqC b h l xs) (o : Obj) : SeqC b (h.push o) l xs := by
  cases b
  · exact Heap.IsList.push x o
  · exact Heap.IsTuple.push x o
theorem SeqC.lt {b : Bool} {h : Heap} {l : Addr} {xs : Array Value} (x : SeqC b h l xs) : l < h.objs.size := by
  cases b
  · obtain ⟨o, e, _⟩ := (show h.IsList l xs from x); exact Heap.lt_size e
  · obtain ⟨o, e, _⟩ := (show h.IsTuple l xs from x); exact Heap.lt_size e
theorem SeqC.keeps {b : Bool} {h h' : Heap} {l : Addr} {xs : Array Value} (x : SeqC b h l xs) (k : ∀ b o, h.get? b = some o → h'.get? b = some o) : SeqC b h' l xs := by
  cases b
  · obtain ⟨o, e, r⟩ := (show h.IsList l xs from x); exact ⟨o, k _ _ e, r⟩
  · obtain ⟨o, e, r⟩ := (show h.IsTuple l xs from x); exact ⟨o, k _ _ e, r⟩
theorem SIt.mk {b : Bool} {h : Heap} {it l : Addr} {xs : Array Value} (x : SeqC b h l xs) (e : h.get? it = some (itObj b l)) (hne : it ≠ l) : SIt h it l 0 xs := by
  cases b
  · exact .list ⟨_, e, rfl, rfl⟩ x hne
  · exact .tuple ⟨_, e, rfl, rfl⟩ x hne
section
variable {prog : Program} {w : World} {A : Around} {E : Value → Shared → Prop} {s : Shared}
theorem pyIter_seq {b : Bool} {l : Addr} {xs : Array Value} {Q : Value → Shared → Prop} (hl : SeqC b s.heap l xs) (hQ : Q (.ref s.heap.objs.size) { s with heap := s.heap.push (itObj b l) }) : wpAny (model prog w) A (pyIter (.ref l)) Q E s := by
  cases b
  · exact wpAny_pyIter_list hl hQ
  · exact wpAny_pyIter_tuple hl hQ
end
abbrev zH1 (b1 : Bool) (h : Heap) (l1 : Addr) : Heap := h.push (itObj b1 l1)
abbrev zH2 (b1 b2 : Bool) (h : Heap) (l1 l2 : Addr) : Heap := (zH1 b1 h l1).push (itObj b2 l2)
abbrev zH3 (b1 b2 : Bool) (h : Heap) (l1 l2 : Addr) : Heap := (zH2 b1 b2 h l1 l2).push { cls := .type "tuple", data := .seq #[.ref h.objs.size, .ref (zH1 b1 h l1).objs.size] }
abbrev zH4 (b1 b2 : Bool) (h : Heap) (l1 l2 : Addr) : Heap := (zH3 b1 b2 h l1 l2).push { cls := .type "tuple", data := .seq #[.none, .none] }
abbrev zH5 (b1 b2 : Bool) (h : Heap) (l1 l2 : Addr) : Heap := (zH4 b1 b2 h l1 l2).push { cls := .type "zip", data := .fields #[.none, .bool false, .bool false, .ref (zH2 b1 b2 h l1 l2).objs.size, .ref (zH3 b1 b2 h l1 l2).objs.size] }
theorem meets_zipS (b1 b2 : Bool) (l1 l2 : Addr) (xs ys : Array Value) :
    Meets (Builtin.«zip.__new__» ⟨[.type "zip", .ref l1, .ref l2], []⟩) (fun _ R s => SeqC b1 s.heap l1 xs ∧ SeqC b2 s.heap l2 ys ∧
      R (.ok (.ret (.ref (zH4 b1 b2 s.heap l1 l2).objs.size))) { s with heap := zH5 b1 b2 s.heap l1 l2 }) :=
  .of_wp fun prog w A R s h => by
    obtain ⟨hp, g, d, tk, os⟩ := s; obtain ⟨hl1, hl2, h⟩ := h
    have hsub := sub_zip
    have hL1 : SeqC b1 (Shared.heap ⟨hp, g, d, tk, os⟩) l1 xs := hl1
    have hL2 : SeqC b2 (Shared.heap ⟨hp.push (itObj b1 l1), g, d, tk, os⟩) l2 ys := hl2.push _
    wp_walk using pyIter_seq hL1, pyIter_seq hL2
    exact ⟨_, rfl, h⟩
section
variable {prog : Program} {w : World} {A : Around} {E : Value → Shared → Prop} {s : Shared}
theorem call_zipS {b1 b2 : Bool} {l1 l2 : Addr} {xs ys : Array Value} {Q : Value → Shared → Prop} (hl1 : SeqC b1 s.heap l1 xs) (hl2 : SeqC b2 s.heap l2 ys)
    (h : ∀ h', IsZip h' (s.heap.objs.size + 4) (s.heap.objs.size + 2) (s.heap.objs.size + 3) .none → IsPair h' (s.heap.objs.size + 2) (.ref s.heap.objs.size) (.ref (s.heap.objs.size + 1)) →
      IsPair h' (s.heap.objs.size + 3) .none .none → SIt h' s.heap.objs.size l1 0 xs → SIt h' (s.heap.objs.size + 1) l2 0 ys → h'.objs.size = s.heap.objs.size + 5 →
      (∀ c o, s.heap.get? c = some o → h'.get? c = some o) → Q (.ref (s.heap.objs.size + 4)) { s with heap := h' }) :
    wpAny (model prog w) A (call (.type "zip") [.ref l1, .ref l2]) Q E s := by
  refine callType_new F.called_zip (by decide) (F.typeCall_zip_2 _ _) (F.newCall_zip_2 _ _) (fun obj => F.args_object_init_3 obj _ _) F.entry_zip_new
    (meets_zipS b1 b2 l1 l2 xs ys) ⟨hl1, hl2, ?_⟩
  have z1 : (zH1 b1 s.heap l1).objs.size = s.heap.objs.size + 1 := Heap.size_push ..
  have z2 : (zH2 b1 b2 s.heap l1 l2).objs.size = s.heap.objs.size + 2 := by rw [Heap.size_push, z1]
  have z3 : (zH3 b1 b2 s.heap l1 l2).objs.size = s.heap.objs.size + 3 := by rw [Heap.size_push, z2]
  have z4 : (zH4 b1 b2 s.heap l1 l2).objs.size = s.heap.objs.size + 4 := by rw [Heap.size_push, z3]
  have z5 : (zH5 b1 b2 s.heap l1 l2).objs.size = s.heap.objs.size + 5 := by rw [Heap.size_push, z4]
  have g5 : (zH5 b1 b2 s.heap l1 l2).get? (zH4 b1 b2 s.heap l1 l2).objs.size = some _ := Heap.get?_push_size _ rfl
  have g4 : (zH5 b1 b2 s.heap l1 l2).get? (zH3 b1 b2 s.heap l1 l2).objs.size = some _ := Heap.get?_push_of_some _ (Heap.get?_push_size _ rfl)
  have g3 : (zH5 b1 b2 s.heap l1 l2).get? (zH2 b1 b2 s.heap l1 l2).objs.size = some _ := Heap.get?_push_of_some _ (Heap.get?_push_of_some _ (Heap.get?_push_size _ rfl))
  have g2 : (zH5 b1 b2 s.heap l1 l2).get? (zH1 b1 s.heap l1).objs.size = some _ := Heap.get?_push_of_some _ (Heap.get?_push_of_some _ (Heap.get?_push_of_some _ (Heap.get?_push_size _ rfl)))
  have g1 : (zH5 b1 b2 s.heap l1 l2).get? s.heap.objs.size = some _ := Heap.get?_push_of_some _ (Heap.get?_push_of_some _ (Heap.get?_push_of_some _ (Heap.get?_push_of_some _ (Heap.get?_push_size _ rfl))))
  have kk : ∀ c o, s.heap.get? c = some o → (zH5 b1 b2 s.heap l1 l2).get? c = some o := fun c o x => Heap.get?_push_of_some _ (Heap.get?_push_of_some _ (Heap.get?_push_of_some _ (Heap.get?_push_of_some _ (Heap.get?_push_of_some _ x))))
  have w1 := hl1.lt
  have w2 := hl2.lt
  show _ ∧ _
  rw [z2, z3, z4] at g5
  rw [z1, z2] at g3
  rw [z3] at g4
  rw [z1] at g2
  rw [z4]
  exact ⟨⟨_, g5, rfl⟩, h _ g5 g3 g4 (.mk (hl1.keeps kk) g1 (Nat.ne_of_gt w1)) (.mk (hl2.keeps kk) g2 (Nat.ne_of_gt (Nat.lt_succ_of_lt w2))) z5 kk⟩
end
end Bx
end

section
open PySem PySem.W PyProof.Rows PySem.Calls PySem.Spec
set_option autoImplicit false
namespace Bx
section
variable {prog : Program} {w : World} {A : Around} {s : Shared} {R : Result → Shared → Prop}
theorem compLoop2 {elt iter : Expr} {xa xb : Str} {pa pb pt : Pos} {kt : Nat} {scope : Scope} {pos : Pos} {I D : Addr} {fp wr : List Addr} {n : Nat} {Pt : Nat → Array Value → Prop} {St : Nat → Heap → Prop} {Mid : Nat → Addr → Heap → Prop}
    {cenv : Env} {m : Str → Option Value} (hh : A.handled = none) (W : WalksT prog w A I fp wr n Pt St Mid) (h2 : ∀ i vals, Pt i vals → ∃ va vb, vals = #[va, vb]) (hab : xa ≠ xb) (F : Nat → Value → Prop)
    (hxa : cenv.kindOf xa = some .local) (hxb : cenv.kindOf xb = some .local) (hp : (cenv.scope.kind == .class || (cenv.scope.kind == .module && cenv.locals != cenv.globals)) = false)
    (hDC : D ≠ cenv.locals) (hDf : D ∉ fp) (hCf : cenv.locals ∉ fp)
    (hst : St 0 s.heap) (hacc : s.heap.PlainList D #[]) (hn : s.heap.Ns cenv.locals m)
    (helt : ∀ i va vb s₂ m₂, Pt i #[va, vb] → s₂.heap.Ns cenv.locals m₂ → m₂ xa = some va → m₂ xb = some vb → (∀ b o, b ≠ cenv.locals → b ∉ wr → b ≠ D → s.heap.get? b = some o → s₂.heap.get? b = some o) →
      wpAny (model prog w) A (eval elt cenv) (fun y s₃ => F i y ∧ Keeps s₂ s₃) noE s₂)
    (hR : ∀ h' tk m' (ys : Array Value), h'.Ns cenv.locals m' → h'.PlainList D ys → ys.size = n → (∀ i y, ys[i]? = some y → F i y) →
      (∀ b o, b ≠ cenv.locals → b ∉ wr → b ≠ D → s.heap.get? b = some o → h'.get? b = some o) → R (.ok .next) { s with heap := h', toks := tk })
    (hsz : n ≤ sizeLine) :
    codeAny (model prog w) A (.compLoop (.ListComp elt [⟨.Tuple [.Name xa pa, .Name xb pb] kt pt, iter, [], 0⟩] scope pos) 0 (.ref I) (.ref D) cenv) R s := by
  have hCw : cenv.locals ∉ wr := fun h => hCf (W.sub _ h)
  have hDw : D ∉ wr := fun h => hDf (W.sub _ h)
  refine codeAny_loop rfl (fun k s' => ∃ h' tk m', ∃ ys : Array Value, s' = { s with heap := h', toks := tk } ∧ St ys.size h' ∧ h'.PlainList D ys ∧ h'.Ns cenv.locals m' ∧ (∀ i y, ys[i]? = some y → F i y) ∧ ys.size ≤ n ∧ k = n + 1 - ys.size ∧
      (∀ b o, b ≠ cenv.locals → b ∉ wr → b ≠ D → s.heap.get? b = some o → h'.get? b = some o)) (fun k s' hI => ?_) (n + 1)
    ⟨s.heap, s.toks, m, #[], rfl, hst, hacc, hn, by simp, Nat.zero_le _, rfl, fun _ _ _ _ _ e => e⟩
  obtain ⟨H, tk, m', ys, rfl, hst', hacc', hn', hF, hi, rfl, hk⟩ := hI
  show wpAny _ A ((compTurn (.ListComp elt [⟨.Tuple [.Name xa pa, .Name xb pb] kt pt, iter, [], 0⟩] scope pos) 0 (.ref I) (.ref D) cenv).onRaise (fun x => do noteFrame x cenv; theTreesLotGoes x)) _ _ _
  refine wpAny_noted ?_
  rw [compTurn_list]
  by_cases hlt : ys.size < n
  · refine wpAny_bind (wpAny_standAt (wpAny_bind (W.item ys.size _ _ _ hlt hst' fun T vals h₁ tk₁ hPv hTn hT₁ hmid hk₁ => ?_)))
    obtain ⟨va, vb, rfl⟩ := h2 _ vals hPv
    refine wpAny_bind (W.go _ _ _ _ T _ _ _ hmid fun h₁' hst₁ hk₁' => ?_)
    have hT₁' : h₁'.IsTuple T #[va, vb] := let ⟨o, e, r⟩ := hT₁; ⟨o, hk₁' _ o (W.apart _ T _ hmid) e, r⟩
    refine wpAny_bind (PySem.wpAny_assign_Tuple hh hT₁' rfl rfl fun h₁'' hx₁ => ?_)
    replace hx₁ : Heap.ExtBut h₁'.objs.size h₁' h₁'' := hx₁
    have old₁ : ∀ b o, h₁'.get? b = some o → h₁''.get? b = some o := fun b o e => hx₁ b o (Nat.ne_of_lt (Heap.lt_size e)) e
    show wpAny _ _ (do holding [vb] (assign (.Name xa pa) cenv va); do holding [] (assign (.Name xb pb) cenv vb); pure ()) _ _ _
    refine wpAny_bind (wpAny_holding (wpAny_assign_Name (wpAny_storeName_local hxa (hn'.at' fun o e => old₁ _ o (hk₁' _ o hCw (hk₁ _ o hCw e))) (fun h₂a hn₂a hs₂a => ?_) hp)))
    replace hs₂a : Heap.SameBut cenv.locals h₁'' h₂a := hs₂a
    refine wpAny_bind (wpAny_holding (wpAny_assign_Name (wpAny_storeName_local hxb hn₂a (fun h₂ hn₂ hs₂ => wpAny_pure ?_) hp)))
    replace hs₂ : Heap.SameBut cenv.locals h₂a h₂ := hs₂
    have up₂ : ∀ b o, b ≠ cenv.locals → b ∉ wr → H.get? b = some o → h₂.get? b = some o := fun b o hbC hbw e => hs₂.extBut b o hbC (hs₂a.extBut b o hbC (old₁ b o (hk₁' b o hbw (hk₁ b o hbw e))))
    have hst₂ : St (ys.size + 1) h₂ := W.frame _ _ _ hst₁ fun b hb o e => hs₂.extBut b o (fun h => hCf (h ▸ hb)) (hs₂a.extBut b o (fun h => hCf (h ▸ hb)) (old₁ b o e))
    refine wpAny_bind (wpAny_tests_nil ?_)
    simp only [if_true]
    refine wpAny_bind (wpAny_bind (wpAny_mono (helt _ va vb _ _ hPv hn₂ (by simp [hab]) (by simp) fun b o hbC hbw hbD e => up₂ b o hbC hbw (hk b o hbC hbw hbD e)) (fun y s₄ h₄ => ?_) fun _ _ x => x.elim))
    obtain ⟨hFy, h₄, tk₄, rfl, hk₄⟩ := h₄
    refine wpAny_bind (wpAny_list_append_plain (hsz := by omega) ((hacc'.at fun o e => up₂ _ o hDC hDw e).at fun o e => hk₄ _ o e) fun h₅ hl₅ hs₅ => wpAny_pure (wpAny_pure ⟨rfl, n + 1 - (ys.size + 1), by omega, ?_⟩))
    refine ⟨h₅, tk₄, _, ys.push y, rfl, ?_, hl₅, (hn₂.keeps hk₄).sameBut hs₅ (Ne.symm hDC), ?_, by rw [Array.size_push]; exact hlt, by rw [Array.size_push], fun b o hbC hbw hbD e => hs₅.extBut b o hbD (hk₄ b o (up₂ b o hbC hbw (hk b o hbC hbw hbD e)))⟩
    · rw [Array.size_push]
      exact W.frame _ _ h₅ hst₂ fun b hb o e => hs₅.extBut b o (fun h => hDf (h ▸ hb)) (hk₄ b o e)
    · intro i y' e
      rw [Array.getElem?_push] at e
      split at e
      · rename_i hie; cases e; subst hie; exact hFy
      · exact hF i y' e
  · have hin : ys.size = n := by omega
    refine wpAny_bind (wpAny_standAt (wpAny_bind (W.done _ _ _ (hin ▸ hst') fun h₁ tk₁ hk₁ => wpAny_pure ?_)))
    exact hR h₁ tk₁ m' ys (hn'.at' fun o e => hk₁ _ o hCw e) (hacc'.at fun o e => hk₁ _ o hDw e) hin hF fun b o hbC hbf hbD e => hk₁ b o hbf (hk b o hbC hbf hbD e)

theorem compBlock2 {elt iter : Expr} {xa xb : Str} {pa pb pt : Pos} {kt : Nat} {scope : Scope} {cl : List (Str × Addr)} {env : Env} {pos : Pos} {s₂ : Shared} {I : Addr} {fp wr : List Addr} {n : Nat} {Pt : Nat → Array Value → Prop} {St : Nat → Heap → Prop} {Mid : Nat → Addr → Heap → Prop}
    (hh : A.handled = none) (W : WalksT prog w A I fp wr n Pt St Mid) (h2 : ∀ i vals, Pt i vals → ∃ va vb, vals = #[va, vb]) (hab : xa ≠ xb) (hsz : n ≤ sizeLine) (F : Nat → Value → Prop) {RR : Value → Addr → Result → Shared → Prop}
    (hcell : ∀ y ∈ scope.names, y.2 ≠ .cell) (hkind : scope.kind = .function) (hxa : scope.names.lookup xa = some .local) (hxb : scope.names.lookup xb = some .local) (hst : St 0 s₂.heap) (hfp : ∀ b ∈ fp, b < s₂.heap.objs.size)
    (helt : ∀ C i va vb s₃ m₃, s₂.heap.objs.size ≤ C → Pt i #[va, vb] → s₃.heap.Ns C m₃ → m₃ xa = some va → m₃ xb = some vb → (∀ b o, b ∉ wr → s₂.heap.get? b = some o → s₃.heap.get? b = some o) →
      wpAny (model prog w) A (eval elt (compEnvC scope cl C env)) (fun y s₄ => F i y ∧ Keeps s₃ s₄) noE s₃)
    (hRR : ∀ D C h' tk m' (ys : Array Value), s₂.heap.get? D = none → s₂.heap.get? C = none → D ≠ C → h'.Ns C m' → h'.PlainList D ys → ys.size = n → (∀ i y, ys[i]? = some y → F i y) →
      (∀ b o, b ∉ wr → s₂.heap.get? b = some o → h'.get? b = some o) → RR (.ref D) C (.ok .next) { s₂ with heap := h', toks := tk }) {E : Value → Shared → Prop} :
    wpAny (model prog w) A (newList []) (fun acc s₃ => wpAny (model prog w) A (newFunctionEnv scope env.globals cl [] env.qual none .none (some env)) (fun cenv s₄ =>
      codeAny (model prog w) A (.compStart (.ListComp elt [⟨.Tuple [.Name xa pa, .Name xb pb] kt pt, iter, [], 0⟩] scope pos) 0 (.ref I) acc { cenv with scope := relabel scope env }) (RR acc cenv.locals) s₄) E s₃) E s₂ := by
  refine wpAny_newObj_type (wpAny_newFunctionEnv hcell (by intro y hy; simp at hy) (fun h₁ hns₁ hsb₁ => ?_) hkind)
  dsimp only at hns₁ hsb₁ ⊢
  generalize hH2 : s₂.heap.push { cls := .type "list", dict := none, data := .seq ([] : List Value).toArray } = H2 at hns₁ hsb₁ ⊢
  have hC : H2.objs.size = s₂.heap.objs.size + 1 := by rw [← hH2, Heap.size_push]
  have hDC : s₂.heap.objs.size ≠ H2.objs.size := by rw [hC]; exact Nat.ne_of_lt (Nat.lt_succ_self _)
  have hCle : s₂.heap.objs.size ≤ H2.objs.size := by rw [hC]; exact Nat.le_succ _
  have below : ∀ b, b < s₂.heap.objs.size → b ≠ H2.objs.size ∧ b ≠ s₂.heap.objs.size := fun b hb => ⟨by rw [hC]; exact Nat.ne_of_lt (Nat.lt_succ_of_lt hb), Nat.ne_of_lt hb⟩
  have hDf : s₂.heap.objs.size ∉ fp := fun hm => Nat.lt_irrefl _ (hfp _ hm)
  have hCf : H2.objs.size ∉ fp := fun hm => by have := hfp _ hm; rw [hC] at this; exact Nat.lt_irrefl _ (Nat.lt_of_succ_lt this)
  have old : ∀ b o, s₂.heap.get? b = some o → h₁.get? b = some o := fun b o e => hsb₁.extBut b o (below b (Heap.lt_size e)).1 (Heap.get?_push_of_some _ (hH2 ▸ Heap.get?_push_of_some _ e))
  have hacc : h₁.PlainList s₂.heap.objs.size #[] := ⟨_, hsb₁.extBut _ _ hDC (Heap.get?_push_of_some _ (hH2 ▸ Heap.get?_push_size _ rfl))⟩
  have hst₁ : St 0 h₁ := W.frame _ _ _ hst fun b _ o e => old b o e
  have fresh : ∀ a, s₂.heap.objs.size ≤ a → s₂.heap.get? a = none := fun a ha => fresh_at ha
  have loop : ∀ s₃ : Shared, s₃ = { s₂ with heap := h₁, toks := s₂.toks + ([] : List (Str × Value)).length } →
      codeAny (model prog w) A (.compLoop (.ListComp elt [⟨.Tuple [.Name xa pa, .Name xb pb] kt pt, iter, [], 0⟩] scope pos) 0 (.ref I) (.ref s₂.heap.objs.size) (compEnvC scope cl H2.objs.size env))
        (RR (.ref s₂.heap.objs.size) H2.objs.size) s₃ := by
    rintro s₃ rfl
    refine compLoop2 (hsz := hsz) (cenv := compEnvC scope cl H2.objs.size env) hh W h2 hab F (lookup_relabel_local hxa) (lookup_relabel_local hxb) (by simp [compEnvC, relabel, hkind]) hDC hDf hCf hst₁ hacc hns₁
      (fun i va vb s₃ m₃ hv hn hm hm' hk => helt _ i va vb s₃ m₃ hCle hv hn hm hm' (fun b o hbf e => hk b o (below b (Heap.lt_size e)).1 hbf (below b (Heap.lt_size e)).2 (old b o e))) fun h' tk m' ys hn hpl hlen hF hk => ?_
    exact hRR _ _ h' tk m' ys (fresh _ (Nat.le_refl _)) (fresh _ (by rw [hC]; exact Nat.le_succ _)) hDC hn hpl hlen hF fun b o hbf e =>
      hk b o (below b (Heap.lt_size e)).1 hbf (below b (Heap.lt_size e)).2 (old b o e)
  exact codeAny_compStart_list (loop _ rfl) (W.self 0 _ _ _ hst₁ (loop _ rfl))
end
end Bx
end

section
open PySem PySem.W PyProof.Rows PySem.Calls PySem.Spec
set_option autoImplicit false
namespace Bx
inductive SeqD : Bool → PyData → List PyData → Prop
  | list (xs : List PyData) : SeqD false (.list xs) xs
  | tuple (xs : List PyData) : SeqD true (.tuple xs) xs
theorem SeqD.rep {b : Bool} {d : PyData} {xs : List PyData} {h : Heap} {v : Value} (x : SeqD b d xs) (r : Rep h v d) : ∃ l vs, v = .ref l ∧ SeqC b h l vs ∧ RepAll h vs.toList xs := by
  cases x with
  | list => obtain ⟨l, vs, e, i, q⟩ := rep_isList r; exact ⟨l, vs, e, i, q⟩
  | tuple => obtain ⟨l, vs, e, i, q⟩ := rep_isTuple r; exact ⟨l, vs, e, i, q⟩
section
variable {G : Gl} {R : Bool} {k : Nat} {env : Env} {ρ : Rho} {scope : Scope} {cl : List (Str × Addr)} {A : Around} {s : Shared}
theorem repAll_of {h : Heap} : ∀ {vs : List Value} {ds : List PyData}, vs.length = ds.length → (∀ (i : Nat) v d, vs[i]? = some v → ds[i]? = some d → Rep h v d) → RepAll h vs ds
  | [], [], _, _ => .nil
  | v :: vs, d :: ds, hl, h => .cons (h 0 v d rfl rfl) (repAll_of (by simpa using hl) fun i v d e1 e2 => h (i + 1) v d (by simpa using e1) (by simpa using e2))

/-- a store of a local, told by what the heap is behind it -/
theorem FS.put {s₁ : Shared} {h' : Heap} {tk : Nat} {m : Str → Option Value} {y : Str} {v : Value} {d : PyData} (f1 : FS G env ρ s₁) (p : Pre G R s₁) (hy : env.kindOf y = some .local) (hm : ∀ x d, ρ.lookup x = some d → env.kindOf x = some .local → ∃ v, m x = some v ∧ Rep s₁.heap v d)
    (hn' : h'.Ns env.locals (fun z => if z = y then some v else m z)) (kk : ∀ b o, b ≠ env.locals → s₁.heap.get? b = some o → h'.get? b = some o) (hrep : Rep h' v d) :
    FS G env ((y, d) :: ρ) { s₁ with heap := h', toks := tk } ∧ RelB G R env s₁ { s₁ with heap := h', toks := tk } := by
  have sk : SeqKept s₁.heap h' := fun b o xs n e hd => kk b o (fun hb => own_seq f1 hb e hd) e
  have hL := notP f1 (.head _)
  have hLc : ∀ q ∈ env.cells, q.2 ≠ env.locals := fun q hq e => (List.nodup_cons.mp f1.nd).1 (List.mem_map.mpr ⟨q, hq, e⟩)
  have hh : ∀ b o, b ≠ env.locals → (s₁.heap.hide G.P).get? b = some o → (h'.hide G.P).get? b = some o := fun b o hb e => by
    by_cases hbP : b = G.P
    · subst hbP; rw [Heap.hide_self] at e; cases e
    · rw [Heap.hide_ne _ hbP] at e ⊢; exact kk b o hb e
  have lt : ∀ b o, G.H₀.get? b = some o → b ≠ env.locals := fun b o e => Nat.ne_of_lt (Nat.lt_of_lt_of_le (Heap.lt_size e) (f1.own _ (.head _)))
  refine ⟨⟨f1.w0, fun b o hb e => kk b o (lt b o e) (f1.ext b o hb e), f1.fk, f1.gl, f1.bl, f1.own, f1.nd, fun q hq => ?_, ⟨fun z => if z = y then some v else m z, ?_, ?_⟩, ?_⟩, ⟨?_, fun _ => ⟨_, _, rfl⟩, fun b o hb _ e => kk b o (fun h => hb (h ▸ .head _)) e⟩⟩
  · obtain ⟨v, o, e, d⟩ := f1.isc q hq
    exact ⟨v, o, hh _ _ (hLc q hq) e, d⟩
  · obtain ⟨o', es, ep, e', r'⟩ := hn'
    exact ⟨o', es, ep, (Heap.hide_ne _ hL).trans e', r'⟩
  · intro z d' e hkz
    dsimp only
    by_cases hz : z = y
    · subst hz
      rw [List.lookup_cons, beq_self_eq_true] at e
      cases e
      exact ⟨v, if_pos rfl, hrep⟩
    · have : (z == y) = false := by simpa using hz
      rw [List.lookup_cons, this] at e
      obtain ⟨v', e', q⟩ := hm z d' e hkz
      exact ⟨v', by rw [if_neg hz]; exact e', q.mono sk⟩
  · intro z d' e hkz
    by_cases hz : z = y
    · subst hz; rw [hy] at hkz; rcases hkz with h | h <;> cases h
    · have : (z == y) = false := by simpa using hz
      rw [List.lookup_cons, this] at e
      obtain ⟨c, v', e1, ⟨o, e2, e3⟩, q⟩ := f1.cel z d' e hkz
      exact ⟨c, v', e1, ⟨o, hh _ _ (hLc (z, c) (lookup_mem' e1)) e2, e3⟩, q.mono sk⟩
  · intro hR
    have iv := p hR
    have hP : G.P ≠ env.locals := hL.symm
    have hc : G.c ≠ env.locals := Nat.ne_of_lt (Nat.lt_of_lt_of_le f1.w0.pn.2 (f1.own _ (.head _)))
    obtain ⟨ps, t1, t2⟩ := iv.tab
    exact ⟨iv.bare, oldk_but iv.old (f1.own _ (.head _)) kk, iv.os, ⟨ps, t1.extBut kk hc hP, t2.extBut kk hc hP⟩⟩

theorem zip_run {elt e1 e2 : Expr} {xa xb : Str} {pa pb pt np cpos pos : Pos} {kt : Nat} {b1 b2 : Bool} {d1 d2 : PyData} {ns1 ns2 : List Int} (f : Int → Int → Int) (cap : Cap env scope cl [xa, xb] ρ) (hxa : scope.names.lookup xa = some .local) (hxb : scope.names.lookup xb = some .local) (hab : xa ≠ xb)
    (hk : env.kindOf "zip" = some .globalImplicit) (h1 : Ev G R k env ρ e1 d1) (h2 : Ev G R k env ρ e2 d2) (q1 : SeqD b1 d1 (intsD ns1)) (q2 : SeqD b2 d2 (intsD ns2)) (hle : ns1.length ≤ ns2.length) (hlen : ns1.length ≤ sizeLine)
    (he : ∀ C a b, a ∈ ns1 → b ∈ ns2 → Ev G false k (compEnvC scope cl C env) ([(xb, .int b), (xa, .int a)] ++ ρ) elt (.int (f a b)))
    (hs1 : starEach [e1, e2] env = (false, eval e1 env) :: starEach [e2] env) (hs2 : starEach [e2] env = [(false, eval e2 env)])
    (rm : Room k A) (fs : FS G env ρ s) (p : Pre G R s) {RR : Value → Addr → Result → Shared → Prop} {E : Value → Shared → Prop}
    (hRR : ∀ s₁ D C h' tk m' (ys : Array Value), Rel G R s s₁ → s₁.heap.get? D = none → s₁.heap.get? C = none → D ≠ C → h'.Ns C m' → h'.PlainList D ys → (∀ h'', RepAll h'' ys.toList (intsD (List.zipWith f ns1 ns2))) →
      (∀ b o, s₁.heap.get? b = some o → h'.get? b = some o) → RR (.ref D) C (.ok .next) { s₁ with heap := h', toks := tk }) :
    wpAny (model G.prog G.w) A (eval (.Call (.Name "zip" np) [e1, e2] [] cpos) env) (fun x s₁ => wpAny (model G.prog G.w) A (pyIter x) (fun it s₂ =>
      wpAny (model G.prog G.w) A (newList []) (fun acc s₃ => wpAny (model G.prog G.w) A (newFunctionEnv scope env.globals cl [] env.qual none .none (some env)) (fun cenv s₄ =>
      codeAny (model G.prog G.w) A (.compStart (.ListComp elt [⟨.Tuple [.Name xa pa, .Name xb pb] kt pt, .Call (.Name "zip" np) [e1, e2] [] cpos, [], 0⟩] scope pos) 0 it acc { cenv with scope := relabel scope env }) (RR acc cenv.locals) s₄) E s₃) E s₂) E s₁) E s := by
  refine wpAny_Call_ofName (bi_load fs (v := .type "zip") (by simp [biTab]) hk (by decide) (PyProof.Rows.callWith_type1 (EvL.run (evl_cons h1 (evl_cons h2 evl_nil hs2) hs1) rm fs p fun vs s₁ r1 a1 f1 p1 _ => ?_) hs1 (by rw [hs2]; rfl)))
  cases r1 with
  | cons r1 r =>
  cases r with
  | cons r2 r =>
  cases r
  obtain ⟨l1, vs1, rfl, c1, g1⟩ := q1.rep r1
  obtain ⟨l2, vs2, rfl, c2, g2⟩ := q2.rep r2
  have n1 : vs1.size = ns1.length := by rw [g1.ofArr]; simp [intsD]
  have n2 : vs2.size = ns2.length := by rw [g2.ofArr]; simp [intsD]
  refine call_zipS c1 c2 fun h₂ z1 z2 z3 z4 z5 hsz hk₂ => ?_
  have k₁ : ∀ b o, s₁.heap.get? b = some o → b < s₁.heap.objs.size := fun b o e => Heap.lt_size e
  have D : ZipApart (s₁.heap.objs.size + 4) (s₁.heap.objs.size + 2) (s₁.heap.objs.size + 3) s₁.heap.objs.size (s₁.heap.objs.size + 1) l1 l2 := PySem.W.ktu_apart _ _ _ c1.lt c2.lt
  refine wpAny_pyIter_zip z1 ?_
  have W := WalksT.zipS (prog := G.prog) (w := G.w) rm.hd _ _ _ _ _ _ _ D vs1 vs2 (by omega)
  refine compBlock2 rm.hd W (fun i vals ⟨x, y, _, _, e⟩ => ⟨x, y, e⟩) hab (by omega) (fun i y => ∃ a b t, ns1[i]? = some a ∧ ns2[i]? = some b ∧ y = .int (f a b) t) cap.cell cap.kind hxa hxb ⟨z1, z2, ⟨_, _, z3⟩, z4, z5⟩ ?_ ?_ ?_
  · intro b hb
    dsimp only
    rw [hsz]
    have w1 := c1.lt
    have w2 := c2.lt
    simp only [List.mem_cons, List.not_mem_nil, or_false] at hb
    rcases hb with rfl | rfl | rfl | rfl | rfl | rfl | rfl <;> first | exact Nat.lt_add_of_pos_right (by decide) | exact Nat.add_lt_add_left (by decide) _ | exact Nat.lt_of_lt_of_le w1 (Nat.le_add_right _ _) | exact Nat.lt_of_lt_of_le w2 (Nat.le_add_right _ _)
  · rintro C i va vb s₃ m₃ hC ⟨x, y, hx, hy, e⟩ hn hma hmb hk₃
    cases e
    have old : ∀ b o, s₁.heap.get? b = some o → s₃.heap.get? b = some o := fun b o e => hk₃ b o (fun hb => by
      have hlt := k₁ b o e
      simp only [List.mem_cons, List.not_mem_nil, or_false] at hb
      rcases hb with rfl | rfl | rfl | rfl
      · exact absurd hlt (Nat.not_lt.mpr (Nat.le_add_right _ _))
      · exact absurd hlt (Nat.not_lt.mpr (Nat.le_add_right _ _))
      · exact absurd hlt (Nat.lt_irrefl _)
      · exact absurd hlt (Nat.not_lt.mpr (Nat.le_add_right _ _))) (hk₂ b o e)
    obtain ⟨a, ha, ra⟩ := RepAll.get' g1 (i := i) (v := va) (by rw [Array.getElem?_toList]; exact hx)
    obtain ⟨b, hb, rb⟩ := RepAll.get' g2 (i := i) (v := vb) (by rw [Array.getElem?_toList]; exact hy)
    simp only [intsD, List.getElem?_map, Option.map_eq_some_iff] at ha hb
    obtain ⟨a, ha, rfl⟩ := ha
    obtain ⟨b, hb, rfl⟩ := hb
    have hf : FS G (compEnvC scope cl C env) ([(xb, .int b), (xa, .int a)] ++ ρ) s₃ := by
      refine comp_frame cap f1 (fun c o e => Nat.lt_of_lt_of_le (Heap.lt_size (hk₂ c o e)) hC) old hn (fun y d e => ?_) (fun y hy => ?_) (fun y d e => ?_) (fun y hy => ?_)
      · by_cases hyb : y = xb
        · subst hyb
          rw [List.lookup_cons, beq_self_eq_true] at e
          cases e
          cases rb; exact ⟨_, hmb, .int _ _⟩
        · have : (y == xb) = false := by simpa using hyb
          rw [List.lookup_cons, this] at e
          by_cases hya : y = xa
          · subst hya
            dsimp only at e
            rw [List.lookup_cons, beq_self_eq_true] at e
            cases e
            cases ra; exact ⟨_, hma, .int _ _⟩
          · have : (y == xa) = false := by simpa using hya
            dsimp only at e
            rw [List.lookup_cons, this] at e; cases e
      · simp only [List.mem_cons, List.not_mem_nil, or_false] at hy
        rcases hy with rfl | rfl
        · have : (y == xb) = false := by simpa using hab
          rw [List.lookup_cons, this]; dsimp only; rw [List.lookup_cons, beq_self_eq_true]; rfl
        · rw [List.lookup_cons, beq_self_eq_true]; rfl
      · by_cases hyb : y = xb
        · subst hyb; simp
        · have : (y == xb) = false := by simpa using hyb
          rw [List.lookup_cons, this] at e
          by_cases hya : y = xa
          · subst hya; simp
          · have : (y == xa) = false := by simpa using hya
            dsimp only at e
            rw [List.lookup_cons, this] at e; cases e
      · simp only [List.mem_cons, List.not_mem_nil, or_false] at hy
        rcases hy with rfl | rfl
        · exact hxa
        · exact hxb
    refine wpAny_mono (he C a b (List.mem_of_getElem? ha) (List.mem_of_getElem? hb) A s₃ rm hf (fun e => by cases e)) (fun y s₄ hy => ?_) fun _ _ x => x.elim
    obtain ⟨ry, ks⟩ := hy
    cases ry with
    | int _ t => exact ⟨⟨a, b, t, ha, hb, rfl⟩, ks⟩
  · intro D C h' tk m' ys hD hC hDC hn hpl hlen' hF hk'
    have old : ∀ b o, s₁.heap.get? b = some o → h'.get? b = some o := fun b o e => hk' b o (fun hb => by
      have hlt := k₁ b o e
      simp only [List.mem_cons, List.not_mem_nil, or_false] at hb
      rcases hb with rfl | rfl | rfl | rfl
      · exact absurd hlt (Nat.not_lt.mpr (Nat.le_add_right _ _))
      · exact absurd hlt (Nat.not_lt.mpr (Nat.le_add_right _ _))
      · exact absurd hlt (Nat.lt_irrefl _)
      · exact absurd hlt (Nat.not_lt.mpr (Nat.le_add_right _ _))) (hk₂ b o e)
    have fresh : ∀ b, h₂.get? b = none → s₁.heap.get? b = none := fun b hb => by
      cases e : s₁.heap.get? b with
      | none => rfl
      | some o => rw [hk₂ b o e] at hb; cases hb
    refine hRR s₁ D C h' tk m' ys a1 (fresh _ hD) (fresh _ hC) hDC hn hpl (fun h'' => ?_) old
    refine repAll_of (by rw [Array.length_toList, hlen', n1, intsD, List.length_map, List.length_zipWith]; omega) fun i v d hv hd => ?_
    obtain ⟨a, b, t, ha, hb, rfl⟩ := hF i v (by rw [← Array.getElem?_toList]; exact hv)
    simp only [intsD, List.getElem?_map, List.getElem?_zipWith, ha, hb] at hd
    cases hd
    exact .int _ _

theorem ev_zip {elt e1 e2 : Expr} {xa xb : Str} {pa pb pt np cpos pos : Pos} {kt : Nat} {b1 b2 : Bool} {d1 d2 : PyData} {ns1 ns2 : List Int} (f : Int → Int → Int) (cap : Cap env scope cl [xa, xb] ρ) (hxa : scope.names.lookup xa = some .local) (hxb : scope.names.lookup xb = some .local) (hab : xa ≠ xb)
    (hk : env.kindOf "zip" = some .globalImplicit) (h1 : Ev G R k env ρ e1 d1) (h2 : Ev G R k env ρ e2 d2) (q1 : SeqD b1 d1 (intsD ns1)) (q2 : SeqD b2 d2 (intsD ns2)) (hle : ns1.length ≤ ns2.length) (hlen : ns1.length ≤ sizeLine)
    (he : ∀ C a b, a ∈ ns1 → b ∈ ns2 → Ev G false k (compEnvC scope cl C env) ([(xb, .int b), (xa, .int a)] ++ ρ) elt (.int (f a b)))
    (hs1 : starEach [e1, e2] env = (false, eval e1 env) :: starEach [e2] env) (hs2 : starEach [e2] env = [(false, eval e2 env)]) (hs : ∀ v, foldedSetIterable (.Call (.Name "zip" np) [e1, e2] [] cpos) env v = pure v) :
    Ev G R k env ρ (.ListComp elt [⟨.Tuple [.Name xa pa, .Name xb pb] kt pt, .Call (.Name "zip" np) [e1, e2] [] cpos, [], 0⟩] scope pos) (.list (intsD (List.zipWith f ns1 ns2))) := by
  intro A s rm fs p
  show wpAny _ A (eval _ env) _ _ s
  rw [eval_ListComp]
  refine wpAny_comprehension_free (use := none) rfl hs cap.clos cap.kind cap.names (zip_run f cap hxa hxb hab hk h1 h2 q1 q2 hle hlen he hs1 hs2 rm fs p
    (RR := fun acc C => compPost (model G.prog G.w) A noE none (fun v s' => Rep s'.heap v (.list (intsD (List.zipWith f ns1 ns2))) ∧ Rel G R s s') acc C) ?_)
  intro s₁ D C h' tk m' ys a1 hD hC hDC hn hpl hr hk'
  refine ⟨m', hn, fun h'' hs'' => ?_⟩
  have kk : ∀ b o, s₁.heap.get? b = some o → h''.get? b = some o := fun b o e => hs''.extBut b o (by rintro rfl; rw [hC] at e; cases e) (hk' b o e)
  obtain ⟨o, eo, ec, n, ed⟩ := (hpl.extBut hs''.extBut hDC).isList
  exact ⟨.list eo ec ed (hr _), a1.trans (Rel.of_keeps a1.pre (keeps_of (tk := tk) kk))⟩

theorem ex_assign_zip {elt e1 e2 : Expr} {xa xb y : Str} {pa pb pt np cpos pos py spos : Pos} {kt : Nat} {b1 b2 : Bool} {d1 d2 : PyData} {ns1 ns2 : List Int} (f : Int → Int → Int) (cap : Cap env scope cl [xa, xb] ρ) (hxa : scope.names.lookup xa = some .local) (hxb : scope.names.lookup xb = some .local) (hab : xa ≠ xb) (hy : env.kindOf y = some .local)
    (hk : env.kindOf "zip" = some .globalImplicit) (h1 : Ev G R k env ρ e1 d1) (h2 : Ev G R k env ρ e2 d2) (q1 : SeqD b1 d1 (intsD ns1)) (q2 : SeqD b2 d2 (intsD ns2)) (hle : ns1.length ≤ ns2.length) (hlen : ns1.length ≤ sizeLine)
    (he : ∀ C a b, a ∈ ns1 → b ∈ ns2 → Ev G false k (compEnvC scope cl C env) ([(xb, .int b), (xa, .int a)] ++ ρ) elt (.int (f a b)))
    (hs1 : starEach [e1, e2] env = (false, eval e1 env) :: starEach [e2] env) (hs2 : starEach [e2] env = [(false, eval e2 env)]) (hs : ∀ v, foldedSetIterable (.Call (.Name "zip" np) [e1, e2] [] cpos) env v = pure v)
    (hsw : swapsWith (.ListComp elt [⟨.Tuple [.Name xa pa, .Name xb pb] kt pt, .Call (.Name "zip" np) [e1, e2] [] cpos, [], 0⟩] scope pos) (some (.Name y py)) spos.line env = pure true) :
    Ex1 G R k env ρ (.Assign [.Name y py] (.ListComp elt [⟨.Tuple [.Name xa pa, .Name xb pb] kt pt, .Call (.Name "zip" np) [e1, e2] [] cpos, [], 0⟩] scope pos) spos) (.next ((y, .list (intsD (List.zipWith f ns1 ns2))) :: ρ)) := by
  intro A s rm fs p
  rw [exec_Assign_Name_used _ _ _ _ hsw]
  refine wpAny_bind (wpAny_standAt (wpAny_bind ?_))
  show wpAny _ A (do let _ ← comprehension (.ListComp elt [⟨.Tuple [.Name xa pa, .Name xb pb] kt pt, .Call (.Name "zip" np) [e1, e2] [] cpos, [], 0⟩] scope pos) scope env _ (newList []) false (eval (.Call (.Name "zip" np) [e1, e2] [] cpos) env) (some (assign (.Name y py) env))) _ _ s
  refine wpAny_bind (wpAny_mono (wpAny_comprehension_free (use := some (assign (.Name y py) env)) (Q := fun _ s' => FS G env ((y, .list (intsD (List.zipWith f ns1 ns2))) :: ρ) s' ∧ RelB G R env s s') rfl hs cap.clos cap.kind cap.names (zip_run f cap hxa hxb hab hk h1 h2 q1 q2 hle hlen he hs1 hs2 rm fs p
    (RR := fun acc C => compPost (model G.prog G.w) A noE (some (assign (.Name y py) env)) (fun _ s' => FS G env ((y, .list (intsD (List.zipWith f ns1 ns2))) :: ρ) s' ∧ RelB G R env s s') acc C) ?_))
    (fun _ s' hq => wpAny_pure (wpAny_pure ⟨⟨rfl, hq.1⟩, hq.2⟩)) fun _ _ e => e)
  intro s₁ D C h' tk m' ys a1 hD hC hDC hn hpl hr hk'
  have f1 := fs.step a1 p
  obtain ⟨mm, hnm, hmm⟩ := id f1.ns
  have hCL : C ≠ env.locals := by
    rintro rfl
    obtain ⟨o', _, _, e', _⟩ := hnm
    rw [Heap.of_hide e'] at hC; cases hC
  have hDL : D ≠ env.locals := by
    rintro rfl
    obtain ⟨o', _, _, e', _⟩ := hnm
    rw [Heap.of_hide e'] at hD; cases hD
  refine wpAny_assign_Name (wpAny_storeName_local hy ((ns_real hnm).keeps hk') (fun h₂ hn₂ hs₂ => ?_) (by rw [fs.fk]; rfl))
  refine ⟨m', hn.sameBut hs₂ hCL, fun h₃ hs₃ => ?_⟩
  have kk : ∀ b o, b ≠ env.locals → s₁.heap.get? b = some o → h₃.get? b = some o := fun b o hb e => hs₃.extBut b o (by rintro rfl; rw [hC] at e; cases e) (hs₂.extBut b o hb (hk' b o e))
  obtain ⟨o, eo, ec, n, ed⟩ := ((hpl.extBut hs₂.extBut hDL).extBut hs₃.extBut hDC).isList
  have := FS.put (R := R) (tk := tk + 1) f1 a1.pre hy hmm (hn₂.sameBut hs₃ hCL.symm) kk (.list eo ec ed (hr _))
  exact ⟨this.1, a1.toB.trans this.2⟩
end
end Bx
end

section
open PySem PySem.W PyProof.Rows PySem.Calls PySem.Spec
set_option autoImplicit false
namespace Bx
theorem oldk_low {h₀ h h' : Heap} (K : OldK h₀ h) (hs : ∀ b o o₀, h₀.get? b = some o₀ → h.get? b = some o → h'.get? b = some o) : OldK h₀ h' := by
  refine ⟨fun b o e => ?_, fun b o e => let ⟨o', ho'⟩ := K.there b o e; ⟨o', hs b o' o e ho'⟩⟩
  rcases K.old b o e with x | ⟨t, hc, vs, more, hv, x⟩ | ⟨rfl, hc, ⟨o', es, n, ho', r⟩, z⟩
  · exact .inl (hs b _ _ e x)
  · exact .inr (.inl ⟨t, hc, vs, more, hv, hs b _ _ e x⟩)
  · exact .inr (.inr ⟨rfl, hc, ⟨o', es, n, hs _ _ _ e ho', r⟩, fun key => by rw [OldK.staticOf_congr ((hs _ _ _ e ho').trans ho'.symm) key]; exact z key⟩)
theorem tab_low {h h' : Heap} {c P : Addr} {ps : Array Value} (x : h.IsCode c P ps) (y : h.TableAt c P ps) (k : ∀ b o, b = c ∨ b = P → h.get? b = some o → h'.get? b = some o) : h'.IsCode c P ps ∧ h'.TableAt c P ps := by
  obtain ⟨o, vs, file, tf, flags, tg, inF, text, tt, op, ho, hd, h11, h2, h7, h9, h10, hop, hpd, htr, hne⟩ := x
  obtain ⟨⟨o', vs', a, b⟩, t⟩ := y
  exact ⟨⟨o, vs, file, tf, flags, tg, inF, text, tt, op, k _ _ (.inl rfl) ho, hd, h11, h2, h7, h9, h10, k _ _ (.inr rfl) hop, hpd, htr, hne⟩, ⟨⟨o', vs', k _ _ (.inl rfl) a, b⟩, k _ _ (.inr rfl) t⟩⟩

section
variable {G : Gl} {k : Nat} {env : Env} {ρ : Rho} {A : Around} {s : Shared}
/-- a generator over a text's signs, drawn by a builtin -/
theorem gen_run {elt iter : Expr} {v : Str} {px gpos : Pos} {scope : Scope} {x : Str} (t : PyData → Bool) {E : Value → Shared → Prop} {Q : Value → Shared → Prop}
    (hcode : env.code = .ref G.c) (hco : scope.isCoroutine = false) (hclos : closureFor scope env = pure []) (hcell : ∀ y ∈ scope.names, y.2 ≠ .cell) (hfree : ∀ y ∈ scope.names, y.2 ≠ .free) (h0 : scope.names.lookup (".0" : Str) = some NameKind.local)
    (hloc : ∀ y ∈ scope.names, y.2 = .local → y.1 = v ∨ y.1 = (".0" : Str)) (hx : scope.names.lookup v = some .local) (hkind : scope.kind = .function)
    (hi : Ev G true k env ρ iter (.str x)) (hk : 0 < k) (hs : ∀ x, genFold iter env x = pure x)
    (he : ∀ C code, ∀ d ∈ chars x, Ev G false 0 (genEnv scope [] C code builtinsNs env) [(v, d)] elt (.bool (t d)))
    (rm : Room k A) (fs : FS G env ρ s) (p : Pre G true s)
    (hQ : ∀ (a : Addr) (s₅ : Shared) fp wr g St, WalksS G.prog G.w A.in4 a fp wr (GenOnlyQ g) (passing (fun _ => true) (chars x).length 0).length (fun j y => ∃ i, (passing (fun _ => true) (chars x).length 0)[j]? = some i ∧ ∃ d, (chars x)[i]? = some d ∧ y = .bool (t d)) St → St 0 s₅ →
      (∀ s', Moved wr (GenOnlyQ g) s₅ s' → Rel G true s s') → Q (.ref a) s₅) :
    wpAny (model G.prog G.w) A (eval (.GeneratorExp elt [⟨.Name v px, iter, [], 0⟩] scope gpos) env) Q E s := by
  refine wpAny_GeneratorExp_walksQ rm.hd hco hclos hcell h0 hx hkind (rm.lt hk) (wpAny_mono (src_str hi A s rm fs p) (fun xv s₁ h₁ => wpAny_mono h₁.2 (fun it s₂ h₂ => ?_) fun _ _ e => e.elim) fun _ _ e => e.elim) hs
  obtain ⟨I, fp, wr, P, St, rfl, ks, W, st0, hfp, hwr, hsq, hrep, _⟩ := h₂
  have a1 := h₁.1
  have f1 := fs.step a1 p
  have a2 : Rel G true s s₂ := a1.trans (Rel.of_keeps a1.pre ks)
  have f2 := fs.step a2 p
  have iv2 := a2.2
  have hlim : s₂.heap.NoLimit := f2.wd.lim.keeps fun _ _ e => Heap.of_hide e
  have live : ∀ b o, s₁.heap.get? b = some o → b ∉ wr := fun b o e hb => by rw [hwr b hb] at e; cases e
  have iv1 := a1.2
  have hcw : cStatics ∉ wr := by
    obtain ⟨_, ⟨o, _, _, e, _⟩, _⟩ := f1.wd.lim
    exact live _ _ (Heap.of_hide e)
  have hPw : ∃ o ps, s₁.heap.get? G.P = some o ∧ o.data = .fields ps := by
    obtain ⟨ps, _, ⟨_, t⟩⟩ := iv1.tab
    exact ⟨_, _, t, rfl⟩
  have hPf : G.P ∉ fp := fun hb => by
    obtain ⟨o, ps, e, hd⟩ := hPw
    rcases hsq _ hb with h | ⟨o', xs, n, e', hd'⟩
    · rw [e] at h; cases h
    · rw [e] at e'; cases e'; rw [hd] at hd'; cases hd'
  have hcl : ∃ o, s₁.heap.get? G.c = some o := by
    obtain ⟨ps, _, ⟨⟨o, _, e, _⟩, _⟩⟩ := iv1.tab
    exact ⟨_, e⟩
  have k₂ : ∀ b o, s₁.heap.get? b = some o → s₂.heap.get? b = some o := by obtain ⟨h₂, tk₂, rfl, k⟩ := ks; exact k
  obtain ⟨ps, t1, t2⟩ := iv2.tab
  -- the rest, from the code object on
  have rest : ∀ code (s₃ : Shared), Ext G.P s₂.heap s₃.heap → s₂.heap.objs.size ≤ s₃.heap.objs.size → Inv G s₃ → wpAny (model G.prog G.w) A (builtinsFor env.globals env.builtins) (fun bi s₄ =>
        ∃ I' fp wr n₀ P St₀ pz F, Value.ref I = .ref I' ∧ (∀ A' : Around, A'.handled = none → Walks G.prog G.w A' I' fp wr n₀ P St₀) ∧ St₀ 0 s₄.heap ∧ (∀ b ∈ fp, b < s₄.heap.objs.size) ∧ s₄.heap.NoLimit ∧ cStatics ∉ wr ∧
          (∀ href : Heap, (∀ b o, s₄.heap.get? b = some o → href.get? b = some o) →
            QuietGen G.prog G.w (genEnv scope [] s₄.heap.objs.size code bi env) v [] elt (List.range s₄.heap.objs.size) wr P pz F href) ∧
          (∀ a h₅ tk gs, gs.bare = true → s₄.heap.objs.size < a → h₅.objs.size = a + 1 → (∀ b o, s₄.heap.get? b = some o → h₅.get? b = some o) →
            WalksS G.prog G.w A.in4 a (a :: s₄.heap.objs.size :: List.range s₄.heap.objs.size) (s₄.heap.objs.size :: wr) (GenOnlyQ s₄.gens.size) (passing pz n₀ 0).length
              (fun j y => ∃ i, (passing pz n₀ 0)[j]? = some i ∧ F i y) (GenAt G.prog G.w A.in4 a s₄.gens.size s₄.heap.objs.size (List.range s₄.heap.objs.size) wr pz n₀ F) →
            GenAt G.prog G.w A.in4 a s₄.gens.size s₄.heap.objs.size (List.range s₄.heap.objs.size) wr pz n₀ F 0 { s₄ with gens := s₄.gens.push gs, toks := tk, heap := h₅ } →
            Q (.ref a) { s₄ with gens := s₄.gens.push gs, toks := tk, heap := h₅ })) E s₃ := by
    intro code s₃ x₃ hsz iv3
    have x1 : Ext G.P s₁.heap s₃.heap := Ext.trans (Ext.of_keep k₂) x₃
    have hlim₃ : s₃.heap.NoLimit := (f2.wd.keeps x₃.hide).lim.keeps fun _ _ e => Heap.of_hide e
    obtain ⟨bm, ob, B⟩ := f2.wd.bm
    have B := B.keeps x₃.hide
    have hNs := fs.gl ▸ ns_real B.ns
    refine wpAny_builtinsFor hNs B.name B.ne (Heap.of_hide B.obj) B.cls B.dict B.data ?_
    have C0 : G.H₀.objs.size ≤ s₃.heap.objs.size := Nat.le_trans f2.wh.sz hsz
    refine ⟨I, fp, wr, (chars x).length, P, St, fun _ => true, fun i y => ∃ d, (chars x)[i]? = some d ∧ y = .bool (t d), rfl, W, (W A rm.hd).frame _ _ _ st0 fun b hb o e => x₃ b o (fun h => hPf (h ▸ hb)) e,
      fun b hb => Nat.lt_of_lt_of_le (hfp b hb) hsz, hlim₃, hcw, fun href hh => ⟨?_, ?_⟩, ?_⟩
    · intro A' E' i u s' m₂ _ _ _ _ _
      exact wpAny_tests_nil ⟨rfl, keeps_refl _⟩
    · intro A' E' i u s' m₂ hA' hPi _ hn hm hk'
      have kk : ∀ b o, b ∉ wr → s₃.heap.get? b = some o → s'.heap.get? b = some o := fun b o hb e => hk' b (List.mem_range.mpr (Heap.lt_size e)) hb o (hh b o e)
      have x' : Ext G.P s₁.heap s'.heap := fun b o hb e => kk b o (live b o e) (x1 b o hb e)
      have sk : SeqKept s₁.heap s'.heap := fun b o xs n e hd => x' b o (fun hb => by
        obtain ⟨o', ps, e', hd'⟩ := hPw
        subst hb; rw [e'] at e; cases e; rw [hd'] at hd; cases hd) e
      obtain ⟨d, hd, rd⟩ := hrep i u s'.heap hPi sk
      have hf : FS G (genEnv scope [] s₃.heap.objs.size code builtinsNs env) [(v, d)] s' := by
        have hCP : s₃.heap.objs.size ≠ G.P := Nat.ne_of_gt (Nat.lt_of_lt_of_le fs.w0.pn.1 C0)
        refine ⟨fs.w0, f1.ext.trans x', hkind, fs.gl, rfl, ?_, ?_, (fun q hq => by cases hq), ⟨m₂, ?_, ?_⟩, ?_⟩
        · intro a ha
          rw [List.mem_singleton.mp ha]; exact C0
        · exact List.nodup_cons.mpr ⟨fun h => (by cases h), List.Pairwise.nil⟩
        · obtain ⟨o, es, ep, e, r⟩ := hn
          exact ⟨o, es, ep, (Heap.hide_ne _ hCP).trans e, r⟩
        · intro y d' e hky
          by_cases hy : y = v
          · subst hy
            rw [List.lookup_cons, beq_self_eq_true] at e
            cases e
            exact ⟨u, hm, rd⟩
          · have : (y == v) = false := by simpa using hy
            rw [List.lookup_cons, this] at e; cases e
        · intro y d' e hky
          rcases hky with h | h
          · exact absurd rfl (hcell _ (lookup_mem' (show scope.names.lookup y = some .cell from h)))
          · exact absurd rfl (hfree _ (lookup_mem' (show scope.names.lookup y = some .free from h)))
      refine wpAny_mono (he _ code d (List.mem_of_getElem? hd) A' s' (Room.zero hA') hf (fun e => by cases e)) (fun y s'' hy => ?_) fun _ _ x => x.elim
      obtain ⟨ry, kp⟩ := hy
      cases ry
      exact ⟨⟨d, hd, rfl⟩, kp⟩
    · intro a h₅ tk gs hgb hag hsz₅ hk₅ WS hat
      refine hQ a _ _ _ _ _ WS hat fun s' hm => ?_
      have out : ∀ b o, s₁.heap.get? b = some o → b ∉ s₃.heap.objs.size :: wr := fun b o e hb => by
        rcases List.mem_cons.mp hb with h | h
        · have := Heap.lt_size (k₂ b o e)
          rw [h] at this
          exact absurd (Nat.lt_of_lt_of_le this hsz) (Nat.lt_irrefl _)
        · exact live b o e h
      have x' : ∀ b o o₁, s₁.heap.get? b = some o₁ → s₃.heap.get? b = some o → s'.heap.get? b = some o := fun b o o₁ e₁ e => hm.heap b o (out b o₁ e₁) (hk₅ b o e)
      refine ⟨Ext.trans a1.1 fun b o hb e => x' b o o e (x1 b o hb e), ⟨(iv3.bare.push hgb).movedS hm, ?_, hm.os.trans iv3.os, ?_⟩⟩
      · exact oldk_low iv3.old fun b o o₀ e₀ e => by
          obtain ⟨o₁, e₁⟩ := iv1.old.there b o₀ e₀
          exact x' b o o₁ e₁ e
      · obtain ⟨ps, t1, t2⟩ := iv3.tab
        obtain ⟨r1, r2⟩ := tab_low t1 t2 (h' := s'.heap) fun b o hb e => by
          rcases hb with rfl | rfl
          · obtain ⟨o₁, e₁⟩ := hcl; exact x' _ o o₁ e₁ e
          · obtain ⟨o₁, _, e₁, _⟩ := hPw; exact x' _ o o₁ e₁ e
        exact ⟨ps, r1, r2⟩
  refine ⟨hlim, ?_⟩
  cases hnf : codeAmong gpos ps.toList with
  | some c' => exact wpAny_genexprCode_hit hcode t1 hnf (rest c' s₂ (Ext.refl _ _) (Nat.le_refl _) iv2)
  | none =>
    refine wpAny_genexprCodeX hcode t1 t2 hnf fun c' h₃ tk₃ hx₃ hge hlt hcode₃ _ htab₃ _ => ?_
    refine rest _ { s₂ with heap := h₃, toks := tk₃ } hx₃ (Nat.le_trans hge (Nat.le_of_lt hlt)) ⟨iv2.bare, ?_, iv2.os, ⟨_, hcode₃, htab₃⟩⟩
    obtain ⟨⟨c₀, ps₀, t0⟩, hne⟩ := fs.w0.t0
    exact iv2.old.step_table t0 t2 htab₃ hx₃ hne

theorem passing_all (n j : Nat) : (passing (fun _ => true) n 0)[j]? = if j < n then some j else none := by
  have h : ∀ l : List Nat, l.filter (fun _ => true) = l := fun l => List.filter_eq_self.mpr fun _ _ => rfl
  rw [passing, h, List.drop_zero]
  by_cases hj : j < n
  · rw [if_pos hj, List.getElem?_range hj]
  · rw [if_neg hj, List.getElem?_eq_none (by simpa using hj)]
theorem passing_len (n : Nat) : (passing (fun _ => true) n 0).length = n := by
  have h : ∀ l : List Nat, l.filter (fun _ => true) = l := fun l => List.filter_eq_self.mpr fun _ _ => rfl
  rw [passing, h, List.drop_zero, List.length_range]
theorem range_any {l : List PyData} (t : PyData → Bool) : (List.range l.length).any (fun j => match l[j]? with | some d => t d | none => false) = l.any t := by
  rw [Bool.eq_iff_iff, List.any_eq_true, List.any_eq_true]
  constructor
  · rintro ⟨j, hj, h⟩
    have hj := List.mem_range.mp hj
    rw [List.getElem?_eq_getElem hj] at h
    exact ⟨l[j], List.getElem_mem hj, h⟩
  · rintro ⟨d, hd, h⟩
    obtain ⟨j, hj, rfl⟩ := List.mem_iff_getElem.mp hd
    exact ⟨j, List.mem_range.mpr hj, by rw [List.getElem?_eq_getElem hj]; exact h⟩
theorem range_all {l : List PyData} (t : PyData → Bool) : (List.range l.length).all (fun j => match l[j]? with | some d => t d | none => false) = l.all t := by
  rw [Bool.eq_iff_iff, List.all_eq_true, List.all_eq_true]
  constructor
  · intro h d hd
    obtain ⟨j, hj, rfl⟩ := List.mem_iff_getElem.mp hd
    have := h j (List.mem_range.mpr hj)
    rwa [List.getElem?_eq_getElem hj] at this
  · intro h j hj
    have hj := List.mem_range.mp hj
    rw [List.getElem?_eq_getElem hj]
    exact h _ (List.getElem_mem hj)
theorem truth_gen {A : Around} {x : Str} (t : PyData → Bool) : TruthOf G.prog G.w A (fun j y => ∃ i, (passing (fun _ => true) (chars x).length 0)[j]? = some i ∧ ∃ d, (chars x)[i]? = some d ∧ y = .bool (t d)) (fun j => match (chars x)[j]? with | some d => t d | none => false) := by
  rintro j y s Q E ⟨i, hi, d, hd, rfl⟩ hQ
  rw [passing_all] at hi
  split at hi
  · cases hi
    dsimp only at hQ
    rw [hd] at hQ
    exact wpAny_truthy_bool hQ
  · cases hi

theorem ev_any {np px gpos pos : Pos} {elt iter : Expr} {v : Str} {scope : Scope} {x : Str} (t : PyData → Bool) (hk : env.kindOf "any" = some .globalImplicit)
    (hcode : env.code = .ref G.c) (hco : scope.isCoroutine = false) (hclos : closureFor scope env = pure []) (hcell : ∀ y ∈ scope.names, y.2 ≠ .cell) (hfree : ∀ y ∈ scope.names, y.2 ≠ .free) (h0 : scope.names.lookup (".0" : Str) = some NameKind.local)
    (hloc : ∀ y ∈ scope.names, y.2 = .local → y.1 = v ∨ y.1 = (".0" : Str)) (hx : scope.names.lookup v = some .local) (hkind : scope.kind = .function)
    (hi : Ev G true k env ρ iter (.str x)) (h0k : 0 < k) (hs : ∀ x, genFold iter env x = pure x)
    (he : ∀ C code, ∀ d ∈ chars x, Ev G false 0 (genEnv scope [] C code builtinsNs env) [(v, d)] elt (.bool (t d)))
    (hst : starEach [.GeneratorExp elt [⟨.Name v px, iter, [], 0⟩] scope gpos] env = [(false, eval (.GeneratorExp elt [⟨.Name v px, iter, [], 0⟩] scope gpos) env)]) :
    Ev G true k env ρ (.Call (.Name "any" np) [.GeneratorExp elt [⟨.Name v px, iter, [], 0⟩] scope gpos] [] pos) (.bool ((chars x).any t)) := by
  intro A s rm fs p
  refine wpAny_Call_ofName (bi_load fs (v := .builtin "any") (by simp [biTab]) hk (by decide) (PyProof.Rows.callWith_builtin1 (wpAny_items_cons (gen_run t hcode hco hclos hcell hfree h0 hloc hx hkind hi h0k hs he rm fs p fun a s₅ fp wr g St W st hm => ?_) hst) hst))
  refine wpAny_items_nil ?_
  have W := W.in4_1
  refine call_any_walkS (W.self 0 _ _ _ st ⟨a, _, _, _, _, _, _, _, rfl, W, st, truth_gen t, fun s' hmv => ?_⟩)
  rw [passing_len, range_any]
  exact ⟨.bool _, hm s' hmv⟩
theorem ev_all {np px gpos pos : Pos} {elt iter : Expr} {v : Str} {scope : Scope} {x : Str} (t : PyData → Bool) (hk : env.kindOf "all" = some .globalImplicit)
    (hcode : env.code = .ref G.c) (hco : scope.isCoroutine = false) (hclos : closureFor scope env = pure []) (hcell : ∀ y ∈ scope.names, y.2 ≠ .cell) (hfree : ∀ y ∈ scope.names, y.2 ≠ .free) (h0 : scope.names.lookup (".0" : Str) = some NameKind.local)
    (hloc : ∀ y ∈ scope.names, y.2 = .local → y.1 = v ∨ y.1 = (".0" : Str)) (hx : scope.names.lookup v = some .local) (hkind : scope.kind = .function)
    (hi : Ev G true k env ρ iter (.str x)) (h0k : 0 < k) (hs : ∀ x, genFold iter env x = pure x)
    (he : ∀ C code, ∀ d ∈ chars x, Ev G false 0 (genEnv scope [] C code builtinsNs env) [(v, d)] elt (.bool (t d)))
    (hst : starEach [.GeneratorExp elt [⟨.Name v px, iter, [], 0⟩] scope gpos] env = [(false, eval (.GeneratorExp elt [⟨.Name v px, iter, [], 0⟩] scope gpos) env)]) :
    Ev G true k env ρ (.Call (.Name "all" np) [.GeneratorExp elt [⟨.Name v px, iter, [], 0⟩] scope gpos] [] pos) (.bool ((chars x).all t)) := by
  intro A s rm fs p
  refine wpAny_Call_ofName (bi_load fs (v := .builtin "all") (by simp [biTab]) hk (by decide) (PyProof.Rows.callWith_builtin1 (wpAny_items_cons (gen_run t hcode hco hclos hcell hfree h0 hloc hx hkind hi h0k hs he rm fs p fun a s₅ fp wr g St W st hm => ?_) hst) hst))
  refine wpAny_items_nil ?_
  have W := W.in4_1
  refine call_all_walkS (W.self 0 _ _ _ st ⟨a, _, _, _, _, _, _, _, rfl, W, st, truth_gen t, fun s' hmv => ?_⟩)
  rw [passing_len, range_all]
  exact ⟨.bool _, hm s' hmv⟩
end
end Bx
end

section
open PySem PySem.W PyProof.Rows PySem.Calls PySem.Spec
set_option autoImplicit false
namespace Bx
section
variable {G : Gl} {R : Bool} {k : Nat} {env : Env} {ρ : Rho} {A : Around} {s : Shared}

theorem ev_or {x y : Expr} {pos : Pos} {d1 d2 : PyData} (h1 : Ev G R k env ρ x d1) (ht : hasTruth d1 = true) (h2 : truth d1 = false → Ev G R k env ρ y d2) : Ev G R k env ρ (.BoolOp .Or [x, y] pos) (if truth d1 = true then d1 else d2) := by
  intro A s rm fs p
  refine wpAny_Or2 (h1.run rm fs p fun v1 s1 r1 a1 f1 p1 _ => wpAny_mono (o_truth ht p1 r1) (fun b s2 x => ?_) fun _ _ x => x.elim)
  obtain ⟨rfl, a2⟩ := x
  have f2 := f1.step a2 p1
  cases htr : truth d1 with
  | true => exact ⟨r1.mono (a2.seq p1), a1.trans a2⟩
  | false =>
    simp only [Bool.false_eq_true, if_false]
    exact (h2 htr).run rm f2 a2.pre fun v3 s3 r3 a3 _ _ _ => ⟨r3, (a1.trans a2).trans a3⟩

theorem tr_chain {l m r : Expr} {op1 op2 : CmpOp} {pos : Pos} {d1 d2 d3 : PyData} {b1 b2 : Bool} (h1 : Ev G R k env ρ l d1) (h2 : Ev G R k env ρ m d2) (h3 : Ev G R k env ρ r d3)
    (o1 : Op2 G R k (compareOp op1) d1 d2 (.bool b1)) (o2 : Op2 G R k (compareOp op2) d2 d3 (.bool b2)) (hm : lastMarks [op1, op2] [m, r] = false) (hev : evalEach [] env = []) : Tr G R k env ρ (.Compare l [op1, op2] [m, r] pos) (b1 && b2) := by
  intro A s rm fs p
  refine isTrue_chain (h1.run rm fs p fun v1 s1 r1 a1 f1 p1 _ => ?_) hm
  refine test_link (h2.run rm f1 p1 fun v2 s2 r2 a2 f2 p2 k2 => ?_)
  refine gives_mono (o1 A s2 v1 v2 rm f2.wh p2 (r1.mono k2) r2) fun v s3 rv a3 => ?_
  cases rv
  refine wpAny_truthy_bool ?_
  have f3 := f2.step a3 p2
  have r2' := r2.mono (a3.seq p2)
  cases b1 with
  | false => exact ⟨rfl, (a1.trans a2).trans a3⟩
  | true =>
    simp only [if_true]
    rw [hev]
    refine test_last (h3.run rm f3 a3.pre fun v4 s4 r4 a4 f4 p4 k4 => ?_)
    refine gives_mono (o2 A s4 v2 v4 rm f4.wh p4 (r2'.mono k4) r4) fun v s5 rv a5 => ?_
    cases rv
    exact wpAny_truthy_bool ⟨rfl, (((a1.trans a2).trans a3).trans a4).trans a5⟩

/-! ### in place -/
theorem i_add {a b : Int} : Op2 G R k (inplaceOp .Add) (.int a) (.int b) (.int (a + b)) := fun A s _ _ _ _ p r1 r2 => by cases r1; cases r2; exact PyProof.Rows.iadd_int (tokRep p)
theorem i_sub {a b : Int} : Op2 G R k (inplaceOp .Sub) (.int a) (.int b) (.int (a - b)) := fun A s _ _ _ _ p r1 r2 => by cases r1; cases r2; exact PyProof.Rows.isub_int (tokRep p)
theorem i_xor {a b : Int} : Op2 G R k (inplaceOp .BitXor) (.int a) (.int b) (.int (Builtin.bitXor a b)) := fun A s _ _ _ _ p r1 r2 => by cases r1; cases r2; exact PyProof.Rows.ixor_int (tokRep p)

/-! ### a, b, c = e -/
theorem ex_unpack3 {a b c : Str} {pa pb pc pt pos : Pos} {kt : Nat} {e : Expr} {d1 d2 d3 : PyData} (h : Ev G R k env ρ e (.tuple [d1, d2, d3])) (ha : env.kindOf a = some .local) (hb : env.kindOf b = some .local) (hc : env.kindOf c = some .local)
    (hs : swapsWithSole [.Tuple [.Name a pa, .Name b pb, .Name c pc] kt pt] e pos.line env = pure false) (hw : swappedStores [.Tuple [.Name a pa, .Name b pb, .Name c pc] kt pt] e env = pure none) :
    Ex1 G R k env ρ (.Assign [.Tuple [.Name a pa, .Name b pb, .Name c pc] kt pt] e pos) (.next ((c, d3) :: (b, d2) :: (a, d1) :: ρ)) := by
  intro A s rm fs p
  refine Assign_Tuple (h.run rm fs p fun v s1 r1 a1 f1 p1 _ => ?_) hs hw
  obtain ⟨l, vs, rfl, il, q⟩ := rep_isTuple r1
  have hz := q.ofArr
  obtain ⟨v1, v2, v3, hvs⟩ : ∃ v1 v2 v3, vs.toList = [v1, v2, v3] := by
    have hl : vs.toList.length = 3 := by rw [Array.length_toList, hz]; rfl
    match hv : vs.toList, hl with
    | [x, y, z], _ => exact ⟨x, y, z, rfl⟩
  refine PySem.wpAny_assign_Tuple rm.hd il (by rw [show vs.size = 3 from hz]; rfl) rfl fun h' hx => ?_
  have kk : ∀ b o, s1.heap.get? b = some o → h'.get? b = some o := fun b o e => hx b o (Nat.ne_of_lt (Heap.lt_size e)) e
  have a2 : Rel G R s1 { s1 with heap := h' } := Rel.of_keeps p1 (keeps_of (tk := s1.toks) kk)
  have f2 := f1.step a2 p1
  rw [hvs] at q ⊢
  have q := q.mono (a2.seq p1)
  cases q with
  | cons q1 q => cases q with
    | cons q2 q => cases q with
      | cons q3 q =>
  show wpAny _ _ (do holding [v2, v3] (assign (.Name a pa) env v1); holding [v3] (assign (.Name b pb) env v2); holding [] (assign (.Name c pc) env v3); pure ()) _ _ _
  have sq : ∀ {x : Shared} {y : Shared}, FS G env ρ x → RelB G R env x y → True := fun _ _ => trivial
  refine wpAny_bind (wpAny_holding (wpAny_assign_Name (store_local ha f2 a2.pre q1 fun s3 f3 b3 => ?_)))
  have t3 : SeqKept h' s3.heap := fun b o xs n e hd => b3.keep b o (fun hb => by
      rcases List.mem_cons.mp hb with h | hb
      · exact own_seq f2 h e hd
      · obtain ⟨q, hq, rfl⟩ := List.mem_map.mp hb
        obtain ⟨v, o', e', hd'⟩ := f2.isc q hq
        have := (Heap.of_hide e').symm.trans e
        cases this
        rw [hd] at hd'; cases hd') (fun hR hb => by
      obtain ⟨ps, _, ⟨_, t⟩⟩ := (a2.pre hR).tab
      subst hb
      have := t.symm.trans e
      cases this; cases hd) e
  refine wpAny_bind (wpAny_holding (wpAny_assign_Name (store_local hb f3 b3.pre (q2.mono t3) fun s4 f4 b4 => ?_)))
  have t4 : SeqKept s3.heap s4.heap := fun b o xs n e hd => b4.keep b o (fun hb => by
      rcases List.mem_cons.mp hb with h | hb
      · exact own_seq f3 h e hd
      · obtain ⟨q, hq, rfl⟩ := List.mem_map.mp hb
        obtain ⟨v, o', e', hd'⟩ := f3.isc q hq
        have := (Heap.of_hide e').symm.trans e
        cases this
        rw [hd] at hd'; cases hd') (fun hR hb => by
      obtain ⟨ps, _, ⟨_, t⟩⟩ := (b3.pre hR).tab
      subst hb
      have := t.symm.trans e
      cases this; cases hd) e
  refine wpAny_bind (wpAny_holding (wpAny_assign_Name (store_local hc f4 b4.pre ((q3.mono t3).mono t4) fun s5 f5 b5 => wpAny_pure ?_)))
  exact ⟨⟨rfl, f5⟩, (((a1.toB.trans a2.toB).trans b3).trans b4).trans b5⟩

/-- what a pure contract says, said in full -/
theorem CallsTo.lift {i : Nat} {ds : List PyData} {d : PyData} (h : CallsTo G false k i ds d) : CallsTo G R k i ds d := fun A s vs a cd rm w p r fa =>
  wpAny_mono (h A s vs a cd rm w (fun e => by cases e) r fa) (fun _ _ x => ⟨x.1, Rel.of_keeps p x.2⟩) fun _ _ x => x
theorem CallsTo.le {i j : Nat} {ds : List PyData} {d : PyData} (h : CallsTo G R j i ds d) (hj : j ≤ k) : CallsTo G R k i ds d := fun A s vs a cd rm => h A s vs a cd (rm.le hj)
end
end Bx
end

section
open PySem PySem.W PyProof.Rows PySem.Calls PySem.Spec
set_option autoImplicit false
namespace Bx
section
variable {G : Gl} {R fl : Bool} {k : Nat} {env : Env} {ρ : Rho} {scope : Scope} {cl : List (Str × Addr)}

theorem cap0 {xs : List Str} (h1 : closureFor scope env = pure []) (h2 : ∀ y ∈ scope.names, y.2 ≠ .cell) (h2' : ∀ y ∈ scope.names, y.2 ≠ .free) (h3 : scope.kind = .function) (h4 : ∀ y ∈ scope.names, y.2 = .local → scope.names.lookup y.1 = some .local)
    (h5 : ∀ y ∈ scope.names, y.2 = .local → y.1 ∈ xs ∨ y.1 = (".0" : Str)) (h6 : ρ.lookup (".0" : Str) = none) : Cap env scope [] xs ρ :=
  ⟨h1, h2, h3, h4, h5, h6, (fun y hy h => absurd h (h2' y hy)), (fun q h => absurd h List.not_mem_nil), List.Pairwise.nil⟩

def fS (g : Nat → PyData) : PyData → PyData
  | .str y => g (y.cps.getD 0 0)
  | _ => .none
def tS (t : Nat → Bool) : PyData → Bool
  | .str y => t (y.cps.getD 0 0)
  | _ => false
def fI (g : Int → PyData) : PyData → PyData
  | .int n => g n
  | _ => .none
theorem chars_map {x : Str} (g : Nat → PyData) (t : Nat → Bool) : ((chars x).filter (tS t)).map (fS g) = (x.cps.toList.filter t).map g := by
  unfold chars
  rw [List.filter_map, List.map_map]
  rfl
theorem ints_map {ns : List Int} (g : Int → PyData) : ((intsD ns).filter fun _ => true).map (fI g) = ns.map g := by
  unfold intsD
  rw [List.filter_eq_self.mpr fun _ _ => rfl, List.map_map]
  rfl
theorem chars_len {x : Str} : (chars x).length = x.length := by simp [chars, Str.length]
theorem mem_chars {x : Str} {d : PyData} (h : d ∈ chars x) : ∃ c ∈ x.cps.toList, d = .str ⟨#[c]⟩ := by
  obtain ⟨c, hc, e⟩ := List.mem_map.mp h
  exact ⟨c, hc, e.symm⟩
theorem mem_intsD {ns : List Int} {d : PyData} (h : d ∈ intsD ns) : ∃ n ∈ ns, d = .int n := by
  obtain ⟨c, hc, e⟩ := List.mem_map.mp h
  exact ⟨c, hc, e.symm⟩

/-- [g for v in text] -/
theorem ev_compS {elt iter : Expr} {v : Str} {px pos : Pos} {x : Str} (g : Nat → PyData) (cap : Cap env scope cl [v] ρ) (hx : scope.names.lookup v = some .local) (h : Ev G R k env ρ iter (.str x)) (hlen : x.length ≤ sizeLine)
    (he : ∀ C c, c ∈ x.cps.toList → Ev G false k (compEnvC scope cl C env) ([(v, .str ⟨#[c]⟩)] ++ ρ) elt (g c)) (hf : ∀ c ∈ x.cps.toList, imm (g c) = true) (hs : ∀ v, foldedSetIterable iter env v = pure v) :
    Ev G R k env ρ (.ListComp elt [⟨.Name v px, iter, [], 0⟩] scope pos) (.list (x.cps.toList.map g)) := by
  refine Ev.conv (ev_comp (fl := false) (fS g) (tS fun _ => true) cap hx (src_str h) (fun d hd => ?_) (by rw [chars_len]; exact hlen) (fun C d hd => ?_) (fun C d hd _ => ?_) (fun d hd _ => ?_) hs) (by rw [chars_map, List.filter_eq_self.mpr fun _ _ => rfl])
  · obtain ⟨c, hc, rfl⟩ := mem_chars hd; rfl
  · obtain ⟨c, hc, rfl⟩ := mem_chars hd; rfl
  · obtain ⟨c, hc, rfl⟩ := mem_chars hd; exact he C c hc
  · obtain ⟨c, hc, rfl⟩ := mem_chars hd; exact hf c hc
/-- [g for v in text if t] -/
theorem ev_compSt {elt iter test : Expr} {v : Str} {px pos : Pos} {x : Str} (g : Nat → PyData) (t : Nat → Bool) (cap : Cap env scope cl [v] ρ) (hx : scope.names.lookup v = some .local) (h : Ev G R k env ρ iter (.str x)) (hlen : x.length ≤ sizeLine)
    (ht : ∀ C c, c ∈ x.cps.toList → Tr G false k (compEnvC scope cl C env) ([(v, .str ⟨#[c]⟩)] ++ ρ) test (t c))
    (he : ∀ C c, c ∈ x.cps.toList → Ev G false k (compEnvC scope cl C env) ([(v, .str ⟨#[c]⟩)] ++ ρ) elt (g c)) (hf : ∀ c ∈ x.cps.toList, imm (g c) = true) (hs : ∀ v, foldedSetIterable iter env v = pure v) :
    Ev G R k env ρ (.ListComp elt [⟨.Name v px, iter, [test], 0⟩] scope pos) (.list ((x.cps.toList.filter t).map g)) := by
  refine Ev.conv (ev_comp (fl := false) (fS g) (tS t) cap hx (src_str h) (fun d hd => ?_) (by rw [chars_len]; exact hlen) (fun C d hd => ?_) (fun C d hd _ => ?_) (fun d hd _ => ?_) hs) (by rw [chars_map])
  · obtain ⟨c, hc, rfl⟩ := mem_chars hd; rfl
  · obtain ⟨c, hc, rfl⟩ := mem_chars hd; exact ht C c hc
  · obtain ⟨c, hc, rfl⟩ := mem_chars hd; exact he C c hc
  · obtain ⟨c, hc, rfl⟩ := mem_chars hd; exact hf c hc
/-- [g for v in numbers] -/
theorem ev_compI {elt iter : Expr} {v : Str} {px pos : Pos} {ns : List Int} (g : Int → PyData) (cap : Cap env scope cl [v] ρ) (hx : scope.names.lookup v = some .local) (h : Src G R false k env ρ iter (intsD ns)) (hlen : ns.length ≤ sizeLine)
    (he : ∀ C n, n ∈ ns → Ev G false k (compEnvC scope cl C env) ([(v, .int n)] ++ ρ) elt (g n)) (hf : ∀ n ∈ ns, imm (g n) = true) (hs : ∀ v, foldedSetIterable iter env v = pure v) :
    Ev G R k env ρ (.ListComp elt [⟨.Name v px, iter, [], 0⟩] scope pos) (.list (ns.map g)) := by
  refine Ev.conv (ev_comp (fI g) (fun _ => true) cap hx h (fun d hd => ?_) (by simpa [intsD] using hlen) (fun C d hd => rfl) (fun C d hd _ => ?_) (fun d hd _ => ?_) hs) (by rw [ints_map])
  · obtain ⟨c, hc, rfl⟩ := mem_intsD hd; rfl
  · obtain ⟨c, hc, rfl⟩ := mem_intsD hd; exact he C c hc
  · obtain ⟨c, hc, rfl⟩ := mem_intsD hd; exact hf c hc
theorem ex_assign_compI {elt iter : Expr} {v y : Str} {px py pos spos : Pos} {ns : List Int} (g : Int → PyData) (cap : Cap env scope cl [v] ρ) (hx : scope.names.lookup v = some .local) (hy : env.kindOf y = some .local) (h : Src G R false k env ρ iter (intsD ns)) (hlen : ns.length ≤ sizeLine)
    (he : ∀ C n, n ∈ ns → Ev G false k (compEnvC scope cl C env) ([(v, .int n)] ++ ρ) elt (g n)) (hf : ∀ n ∈ ns, imm (g n) = true) (hs : ∀ v, foldedSetIterable iter env v = pure v)
    (hsw : swapsWith (.ListComp elt [⟨.Name v px, iter, [], 0⟩] scope pos) (some (.Name y py)) spos.line env = pure true) :
    Ex1 G R k env ρ (.Assign [.Name y py] (.ListComp elt [⟨.Name v px, iter, [], 0⟩] scope pos) spos) (.next ((y, .list (ns.map g)) :: ρ)) := by
  have := ex_assign_comp (G := G) (R := R) (k := k) (py := py) (spos := spos) (ifs := []) (fI g) (fun _ => true) cap hx hy h (fun d hd => ?_) (by simpa [intsD] using hlen) (fun C d hd => rfl) (fun C d hd _ => ?_) (fun d hd _ => ?_) hs hsw
  · rw [ints_map] at this; exact this
  · obtain ⟨c, hc, rfl⟩ := mem_intsD hd; rfl
  · obtain ⟨c, hc, rfl⟩ := mem_intsD hd; exact he C c hc
  · obtain ⟨c, hc, rfl⟩ := mem_intsD hd; exact hf c hc
theorem ex_assign_compS {elt iter : Expr} {v y : Str} {px py pos spos : Pos} {x : Str} (g : Nat → PyData) (cap : Cap env scope cl [v] ρ) (hx : scope.names.lookup v = some .local) (hy : env.kindOf y = some .local) (h : Ev G R k env ρ iter (.str x)) (hlen : x.length ≤ sizeLine)
    (he : ∀ C c, c ∈ x.cps.toList → Ev G false k (compEnvC scope cl C env) ([(v, .str ⟨#[c]⟩)] ++ ρ) elt (g c)) (hf : ∀ c ∈ x.cps.toList, imm (g c) = true) (hs : ∀ v, foldedSetIterable iter env v = pure v)
    (hsw : swapsWith (.ListComp elt [⟨.Name v px, iter, [], 0⟩] scope pos) (some (.Name y py)) spos.line env = pure true) :
    Ex1 G R k env ρ (.Assign [.Name y py] (.ListComp elt [⟨.Name v px, iter, [], 0⟩] scope pos) spos) (.next ((y, .list (x.cps.toList.map g)) :: ρ)) := by
  have := ex_assign_comp (fl := false) (G := G) (R := R) (k := k) (py := py) (spos := spos) (fS g) (tS fun _ => true) cap hx hy (src_str h) (fun d hd => ?_) (by rw [chars_len]; exact hlen) (fun C d hd => ?_) (fun C d hd _ => ?_) (fun d hd _ => ?_) hs hsw
  · rw [chars_map, List.filter_eq_self.mpr fun _ _ => rfl] at this; exact this
  · obtain ⟨c, hc, rfl⟩ := mem_chars hd; rfl
  · obtain ⟨c, hc, rfl⟩ := mem_chars hd; rfl
  · obtain ⟨c, hc, rfl⟩ := mem_chars hd; exact he C c hc
  · obtain ⟨c, hc, rfl⟩ := mem_chars hd; exact hf c hc
theorem upto_ints (n : Int) : upto n = intsD (List.map (fun i : Nat => (i : Int)) (List.range n.toNat)) := by
  simp [upto, intsD]
theorem src_rangeI {np pos : Pos} {e : Expr} {n : Int} (hk : env.kindOf "range" = some .globalImplicit) (h : Ev G R k env ρ e (.int n)) (hn : n < 2 ^ 62) (h0 : -(2 ^ 62) ≤ n) (he : starEach [e] env = [(false, eval e env)]) : Src G R fl k env ρ (.Call (.Name "range" np) [e] [] pos) (intsD (List.map (fun i : Nat => (i : Int)) (List.range n.toNat))) :=
  upto_ints n ▸ src_range hk h hn h0 he
end
end Bx
end

section
open PySem PySem.W PyProof.Rows PySem.Calls PySem.Spec
set_option autoImplicit false
namespace Bx
section
variable {G : Gl} {R fl : Bool} {k : Nat} {env : Env} {ρ : Rho}
theorem e_ord {np pos : Pos} {e : Expr} {c : Nat} (h : Ev G R k env ρ e (.str ⟨#[c]⟩)) (hk : env.kindOf "ord" = some .globalImplicit := by rfl) (he : starEach [e] env = [(false, eval e env)] := by rfl) : Ev G R k env ρ (.Call (.Name "ord" np) [e] [] pos) (.int (c : Int)) :=
  ev_call_bi (id := "ord") (by simp [biTab]) hk (by decide) (evl_cons h evl_nil he) b_ord he rfl
theorem e_chr {np pos : Pos} {e : Expr} {i : Int} (h : Ev G R k env ρ e (.int i)) (h0 : 0 ≤ i) (h1 : i ≤ 1114111) (hk : env.kindOf "chr" = some .globalImplicit := by rfl) (he : starEach [e] env = [(false, eval e env)] := by rfl) : Ev G R k env ρ (.Call (.Name "chr" np) [e] [] pos) (.str ⟨#[i.toNat]⟩) :=
  ev_call_bi (id := "chr") (by simp [biTab]) hk (by decide) (evl_cons h evl_nil he) (b_chr h0 h1) he rfl
theorem e_lenS {np pos : Pos} {e : Expr} {x : Str} (h : Ev G R k env ρ e (.str x)) (hl : x.length < 2 ^ 62) (hk : env.kindOf "len" = some .globalImplicit := by rfl) (he : starEach [e] env = [(false, eval e env)] := by rfl) : Ev G R k env ρ (.Call (.Name "len" np) [e] [] pos) (.int (x.length : Int)) :=
  ev_call_bi (id := "len") (by simp [biTab]) hk (by decide) (evl_cons h evl_nil he) (b_lenS hl) he rfl
theorem e_len {np pos : Pos} {e : Expr} {xs : List PyData} (h : Ev G R k env ρ e (.list xs)) (hl : xs.length < 2 ^ 62) (hk : env.kindOf "len" = some .globalImplicit := by rfl) (he : starEach [e] env = [(false, eval e env)] := by rfl) : Ev G R k env ρ (.Call (.Name "len" np) [e] [] pos) (.int (xs.length : Int)) :=
  ev_call_bi (id := "len") (by simp [biTab]) hk (by decide) (evl_cons h evl_nil he) (b_len hl) he rfl
theorem e_sum {np pos : Pos} {e : Expr} {ns : List Int} (h : Ev G R k env ρ e (.list (intsD ns))) (hk : env.kindOf "sum" = some .globalImplicit := by rfl) (he : starEach [e] env = [(false, eval e env)] := by rfl) : Ev G R k env ρ (.Call (.Name "sum" np) [e] [] pos) (.int ns.sum) :=
  ev_call_bi (id := "sum") (by simp [biTab]) hk (by decide) (evl_cons h evl_nil he) b_sum he rfl
theorem e_tuple {np pos : Pos} {e : Expr} {xs : List PyData} (h : Ev G R k env ρ e (.list xs)) (hl : xs.length ≤ sizeLine) (hk : env.kindOf "tuple" = some .globalImplicit := by rfl) (he : starEach [e] env = [(false, eval e env)] := by rfl) : Ev G R k env ρ (.Call (.Name "tuple" np) [e] [] pos) (.tuple xs) :=
  ev_call_ty (T := "tuple") (by simp [biTab]) hk (by decide) (evl_cons h evl_nil he) (t_tuple hl) he rfl

theorem m_is (id : String) {n : Str} (h : Slot "str" n id) (ty : typeOf (.builtin id) = pure (.type "method_descriptor")) : Meth "str" n id := ⟨F.plainAttrs_str, h, ty⟩
theorem meth_lower : Meth "str" "lower" "str.lower" := ⟨F.plainAttrs_str, F.slot_str_lower, by show builtinType _ = _; rw [builtinType_eq_fast]; kernel_rfl⟩
theorem meth_upper : Meth "str" "upper" "str.upper" := ⟨F.plainAttrs_str, F.slot_str_upper, by show builtinType _ = _; rw [builtinType_eq_fast]; kernel_rfl⟩
theorem meth_find : Meth "str" "find" "str.find" := ⟨F.plainAttrs_str, F.slot_str_find, by show builtinType _ = _; rw [builtinType_eq_fast]; kernel_rfl⟩
theorem meth_rfind : Meth "str" "rfind" "str.rfind" := ⟨F.plainAttrs_str, F.slot_str_rfind, by show builtinType _ = _; rw [builtinType_eq_fast]; kernel_rfl⟩
theorem meth_join : Meth "str" "join" "str.join" := ⟨F.plainAttrs_str, F.slot_str_join, by show builtinType _ = _; rw [builtinType_eq_fast]; kernel_rfl⟩
theorem meth_split : Meth "str" "split" "str.split" := ⟨F.plainAttrs_str, F.slot_str_split, by show builtinType _ = _; rw [builtinType_eq_fast]; kernel_rfl⟩
theorem meth_index : Meth "tuple" "index" "tuple.index" := ⟨F.plainAttrs_tuple, F.slot_tuple_index, by show builtinType _ = _; rw [builtinType_eq_fast]; kernel_rfl⟩

theorem e_lower {o : Expr} {apos pos : Pos} {x : Str} (h : Ev G R k env ρ o (.str x)) (hf : (Txt.lower x).length ≤ 1000000) (hb : attributeBase o "lower" env (eval o env) = eval o env := by rfl) (hl : (apos.endLine == pos.line) = true := by rfl) :
    Ev G R k env ρ (.Call (.Attribute o "lower" apos) [] [] pos) (.str (Txt.lower x)) := ev_meth_str0 meth_lower h (m_lower hf) hb hl
theorem e_upper {o : Expr} {apos pos : Pos} {x : Str} (h : Ev G R k env ρ o (.str x)) (hf : (Txt.upper x).length ≤ 1000000) (hb : attributeBase o "upper" env (eval o env) = eval o env := by rfl) (hl : (apos.endLine == pos.line) = true := by rfl) :
    Ev G R k env ρ (.Call (.Attribute o "upper" apos) [] [] pos) (.str (Txt.upper x)) := ev_meth_str0 meth_upper h (m_upper hf) hb hl
theorem e_find {o e : Expr} {apos pos : Pos} {x y : Str} (h : Ev G R k env ρ o (.str x)) (h2 : Ev G R k env ρ e (.str y)) (hb : attributeBase o "find" env (eval o env) = eval o env := by rfl) (hl : (apos.endLine == pos.line) = true := by rfl) (he : starEach [e] env = [(false, eval e env)] := by rfl) :
    Ev G R k env ρ (.Call (.Attribute o "find" apos) [e] [] pos) (.int (Txt.find x y)) := ev_meth_str1 meth_find h h2 m_find hb hl he
theorem e_rfind {o e : Expr} {apos pos : Pos} {x y : Str} (h : Ev G R k env ρ o (.str x)) (h2 : Ev G R k env ρ e (.str y)) (hb : attributeBase o "rfind" env (eval o env) = eval o env := by rfl) (hl : (apos.endLine == pos.line) = true := by rfl) (he : starEach [e] env = [(false, eval e env)] := by rfl) :
    Ev G R k env ρ (.Call (.Attribute o "rfind" apos) [e] [] pos) (.int (Txt.rfind x y)) := ev_meth_str1 meth_rfind h h2 m_rfind hb hl he
theorem e_join {o e : Expr} {apos pos : Pos} {x : Str} {ys : List Str} (h : Ev G R k env ρ o (.str x)) (h2 : Ev G R k env ρ e (.list (strsD ys))) (hok : (ys.map (·.length)).sum + ys.length * x.length ≤ 16777216) (hb : attributeBase o "join" env (eval o env) = eval o env := by rfl) (hl : (apos.endLine == pos.line) = true := by rfl) (he : starEach [e] env = [(false, eval e env)] := by rfl) :
    Ev G R k env ρ (.Call (.Attribute o "join" apos) [e] [] pos) (.str (Txt.join x ys)) := ev_meth_str1 meth_join h h2 (m_join hok) hb hl he
theorem e_split {o e : Expr} {apos pos : Pos} {x y : Str} (h : Ev G R k env ρ o (.str x)) (h2 : Ev G R k env ρ e (.str y)) (hy : (y.length == 0) = false) (hx : x.length ≤ 1000) (hb : attributeBase o "split" env (eval o env) = eval o env := by rfl) (hl : (apos.endLine == pos.line) = true := by rfl) (he : starEach [e] env = [(false, eval e env)] := by rfl) :
    Ev G R k env ρ (.Call (.Attribute o "split" apos) [e] [] pos) (.list (strsD (Txt.split x y))) := ev_meth_str1 meth_split h h2 (m_split hy hx) hb hl he
theorem e_index {o e : Expr} {apos pos : Pos} {ns : List Int} {n : Int} {j : Nat} (h : Ev G R k env ρ o (.tuple (intsD ns))) (h2 : Ev G R k env ρ e (.int n)) (hj : ns[j]? = some n) (hno : ∀ i m, i < j → ns[i]? = some m → m ≠ n) (hb : attributeBase o "index" env (eval o env) = eval o env := by rfl) (hl : (apos.endLine == pos.line) = true := by rfl) (he : starEach [e] env = [(false, eval e env)] := by rfl) :
    Ev G R k env ρ (.Call (.Attribute o "index" apos) [e] [] pos) (.int (j : Int)) := ev_meth_tup1 meth_index h h2 (m_index hj hno) hb hl he

theorem e_call1 (i : Nat) {np pos : Pos} {e : Expr} {d1 d : PyData} {j : Nat} (h1 : Ev G R k env ρ e d1) (h : CallsTo G R j i [d1] d) (hj : j ≤ k) (hi : i ∈ fnIdx := by decide) (hk : env.kindOf (fnName i) = some .globalImplicit := by rfl) (hd : (fnName i == ("__debug__" : Str)) = false := by decide) (he : starEach [e] env = [(false, eval e env)] := by rfl) :
    Ev G R k env ρ (.Call (.Name (fnName i) np) [e] [] pos) d := ev_call_def rfl hi hk hd (evl_cons h1 evl_nil he) h hj he
theorem e_call2 (i : Nat) {np pos : Pos} {e1 e2 : Expr} {d1 d2 d : PyData} {j : Nat} (h1 : Ev G R k env ρ e1 d1) (h2 : Ev G R k env ρ e2 d2) (h : CallsTo G R j i [d1, d2] d) (hj : j ≤ k) (hi : i ∈ fnIdx := by decide) (hk : env.kindOf (fnName i) = some .globalImplicit := by rfl) (hd : (fnName i == ("__debug__" : Str)) = false := by decide)
    (he : starEach [e1, e2] env = (false, eval e1 env) :: starEach [e2] env := by rfl) (he2 : starEach [e2] env = [(false, eval e2 env)] := by rfl) :
    Ev G R k env ρ (.Call (.Name (fnName i) np) [e1, e2] [] pos) d := ev_call_def rfl hi hk hd (evl_cons h1 (evl_cons h2 evl_nil he2) he) h hj he
theorem e_call3 (i : Nat) {np pos : Pos} {e1 e2 e3 : Expr} {d1 d2 d3 d : PyData} {j : Nat} (h1 : Ev G R k env ρ e1 d1) (h2 : Ev G R k env ρ e2 d2) (h3 : Ev G R k env ρ e3 d3) (h : CallsTo G R j i [d1, d2, d3] d) (hj : j ≤ k) (hi : i ∈ fnIdx := by decide) (hk : env.kindOf (fnName i) = some .globalImplicit := by rfl) (hd : (fnName i == ("__debug__" : Str)) = false := by decide)
    (he : starEach [e1, e2, e3] env = (false, eval e1 env) :: starEach [e2, e3] env := by rfl) (he2 : starEach [e2, e3] env = (false, eval e2 env) :: starEach [e3] env := by rfl) (he3 : starEach [e3] env = [(false, eval e3 env)] := by rfl) :
    Ev G R k env ρ (.Call (.Name (fnName i) np) [e1, e2, e3] [] pos) d := ev_call_def rfl hi hk hd (evl_cons h1 (evl_cons h2 (evl_cons h3 evl_nil he3) he2) he) h hj he
theorem e_call4 (i : Nat) {np pos : Pos} {e1 e2 e3 e4 : Expr} {d1 d2 d3 d4 d : PyData} {j : Nat} (h1 : Ev G R k env ρ e1 d1) (h2 : Ev G R k env ρ e2 d2) (h3 : Ev G R k env ρ e3 d3) (h4 : Ev G R k env ρ e4 d4) (h : CallsTo G R j i [d1, d2, d3, d4] d) (hj : j ≤ k) (hi : i ∈ fnIdx := by decide) (hk : env.kindOf (fnName i) = some .globalImplicit := by rfl) (hd : (fnName i == ("__debug__" : Str)) = false := by decide)
    (he : starEach [e1, e2, e3, e4] env = (false, eval e1 env) :: starEach [e2, e3, e4] env := by rfl) (he2 : starEach [e2, e3, e4] env = (false, eval e2 env) :: starEach [e3, e4] env := by rfl) (he3 : starEach [e3, e4] env = (false, eval e3 env) :: starEach [e4] env := by rfl) (he4 : starEach [e4] env = [(false, eval e4 env)] := by rfl) :
    Ev G R k env ρ (.Call (.Name (fnName i) np) [e1, e2, e3, e4] [] pos) d := ev_call_def rfl hi hk hd (evl_cons h1 (evl_cons h2 (evl_cons h3 (evl_cons h4 evl_nil he4) he3) he2) he) h hj he

/-! ### bits of numbers that are not negative -/
theorem bn (n : Nat) : Builtin.bitNot (n : Int) = -((n : Int) + 1) := by simp [Builtin.bitNot]; omega
theorem andN (a b : Nat) : Builtin.bitAnd (a : Int) (b : Int) = ((a &&& b : Nat) : Int) := by simp [Builtin.bitAnd]
end
end Bx
end

section
open PySem PySem.W PyProof.Rows PySem.Calls PySem.Spec
set_option autoImplicit false
namespace Bx
theorem xor_add_and : ∀ (a b : Nat), (a ^^^ b) + 2 * (a &&& b) = a + b := by
  intro a
  induction a using Nat.strongRecOn with
  | ind a ih =>
    intro b
    by_cases ha : a = 0
    · subst ha; simp
    · have h := ih (a / 2) (by omega) (b / 2)
      rw [← Nat.xor_div_two, ← Nat.and_div_two] at h
      have t : ∀ n : Nat, n % 2 = if n.testBit 0 = true then 1 else 0 := fun n => by
        rw [Nat.testBit_zero]; rcases Nat.mod_two_eq_zero_or_one n with h | h <;> simp [h]
      have e1 := t (a ^^^ b)
      have e2 := t (a &&& b)
      have e3 := t a
      have e4 := t b
      rw [Nat.testBit_xor] at e1
      rw [Nat.testBit_and] at e2
      cases h1 : a.testBit 0 <;> cases h2 : b.testBit 0 <;> rw [h1] at e1 e2 e3 <;> rw [h2] at e1 e2 e4 <;> simp only [Bool.xor_false, Bool.xor_true, Bool.false_xor, Bool.true_xor, Bool.not_true, Bool.not_false, Bool.and_true, Bool.and_false, Bool.false_and, Bool.true_and, if_true, if_false, Bool.false_eq_true, reduceIte] at e1 e2 e3 e4 <;> omega
theorem orN (a b : Nat) : Builtin.bitOr (a : Int) (b : Int) = ((a ||| b : Nat) : Int) := by
  have e : ∀ n : Nat, Builtin.bitNot (n : Int) = -(n : Int) - 1 := fun n => rfl
  have d : ∀ n : Nat, decide (0 ≤ Builtin.bitNot (n : Int)) = false := fun n => by rw [e]; exact decide_eq_false (by omega)
  have dd : ∀ x : Int, Builtin.bitNot (Builtin.bitNot x) = x := fun x => by show -(-x - 1) - 1 = x; omega
  unfold Builtin.bitOr Builtin.bitAnd
  rw [d, d]
  simp [dd]
theorem xorN (a b : Nat) : Builtin.bitXor (a : Int) (b : Int) = ((a ^^^ b : Nat) : Int) := by
  have h := xor_add_and a b
  have h2 : (a ||| b) = (a ^^^ b) + (a &&& b) := by
    have h3 := xor_add_and (a ^^^ b) (a &&& b)
    have e1 : (a ^^^ b) ^^^ (a &&& b) = a ||| b := by
      apply Nat.eq_of_testBit_eq; intro i
      simp only [Nat.testBit_xor, Nat.testBit_and, Nat.testBit_or]
      cases a.testBit i <;> cases b.testBit i <;> rfl
    have e2 : (a ^^^ b) &&& (a &&& b) = 0 := by
      apply Nat.eq_of_testBit_eq; intro i
      simp only [Nat.testBit_xor, Nat.testBit_and, Nat.zero_testBit]
      cases a.testBit i <;> cases b.testBit i <;> rfl
    rw [e1, e2] at h3
    omega
  show Builtin.bitOr a b - Builtin.bitAnd a b = _
  rw [orN, andN, h2]
  omega
theorem shrN (a n : Nat) : ((a : Int)).fdiv (2 ^ n) = ((a / 2 ^ n : Nat) : Int) := by
  rw [Int.fdiv_eq_ediv_of_nonneg _ (by have : (0 : Int) < 2 ^ n := Int.pow_pos (by decide); omega)]
  norm_cast
theorem fdivN (a b : Nat) : ((a : Int)).fdiv (b : Int) = ((a / b : Nat) : Int) := by
  rw [Int.fdiv_eq_ediv_of_nonneg _ (by omega)]; norm_cast
theorem fmodN (a b : Nat) : ((a : Int)).fmod (b : Int) = ((a % b : Nat) : Int) := by
  rw [Int.fmod_eq_emod_of_nonneg _ (by omega)]; norm_cast
end Bx
end

section
open PySem PySem.W PyProof.Rows PySem.Calls PySem.Spec
set_option autoImplicit false
namespace Bx
def NI (l : List Nat) : List Int := l.map Int.ofNat
def expandN (x : Str) : List Nat := (x.cps.toList.map fun c => c / 32) ++ [0] ++ (x.cps.toList.map fun c => c % 32)
def gens : List Nat := [996825010, 642813549, 513874426, 1027748829, 705979059]
def pin (top c : Nat) : Nat → Nat
  | 0 => c
  | i + 1 => pin top c i ^^^ (if (top / 2 ^ i) &&& 1 = 0 then 0 else gens.getD i 0)
def pstep (c v : Nat) : Nat := pin (c / 2 ^ 25) (((c &&& 33554431) * 32) ^^^ v) 5
def polyN (vs : List Nat) : Nat := vs.foldl pstep 1
theorem len_expand (x : Str) : (expandN x).length = 2 * x.length + 1 := by simp [expandN, Str.length]; omega
theorem NI_len (l : List Nat) : (NI l).length = l.length := by simp [NI]
theorem NI_app (a b : List Nat) : NI (a ++ b) = NI a ++ NI b := by simp [NI]
theorem intsD_app (a b : List Int) : intsD (a ++ b) = intsD a ++ intsD b := by simp [intsD]
theorem intsD_len (l : List Int) : (intsD l).length = l.length := by simp [intsD]

section
variable {G : Gl} {R : Bool} {k : Nat} {env : Env} {ρ : Rho}
theorem lv {x : Str} {pos : Pos} {d : PyData} (hl : ρ.lookup x = some d := by rfl) (hk : env.kindOf x = some .local := by rfl) (hd : (x == ("__debug__" : Str)) = false := by decide) : Ev G R k env ρ (.Name x pos) d := ev_local hl hk hd
theorem cv {x : Str} {pos : Pos} {d : PyData} (hl : ρ.lookup x = some d := by rfl) (hk : env.kindOf x = some .cell := by rfl) (hd : (x == ("__debug__" : Str)) = false := by decide) : Ev G R k env ρ (.Name x pos) d := ev_cell hl hk hd
theorem kv {x : Str} {pos : Pos} {d : PyData} (hm : (x, d) ∈ consts := by simp [consts]) (hk : env.kindOf x = some .globalImplicit := by rfl) (hd : (x == ("__debug__" : Str)) = false := by decide) : Ev G R k env ρ (.Name x pos) d := ev_const hm hk hd
theorem k_CHARSET {pos : Pos} (hk : env.kindOf "CHARSET" = some .globalImplicit := by rfl) : Ev G R k env ρ (.Name "CHARSET" pos) (.str cset) := ev_const (.head _) hk (by decide)
theorem k_BECH32_CONST {pos : Pos} (hk : env.kindOf "BECH32_CONST" = some .globalImplicit := by rfl) : Ev G R k env ρ (.Name "BECH32_CONST" pos) (.int 1) := ev_const (.tail _ (.head _)) hk (by decide)
theorem k_BECH32M_CONST {pos : Pos} (hk : env.kindOf "BECH32M_CONST" = some .globalImplicit := by rfl) : Ev G R k env ρ (.Name "BECH32M_CONST" pos) (.int 734539939) := ev_const (.tail _ (.tail _ (.head _))) hk (by decide)
theorem k_law_set {pos : Pos} (hk : env.kindOf "_law_set" = some .globalImplicit := by rfl) : Ev G R k env ρ (.Name "_law_set" pos) (.str cset) := ev_const (.tail _ (.tail _ (.tail _ (.head _)))) hk (by decide)
theorem k_law_powers {pos : Pos} (hk : env.kindOf "_law_powers" = some .globalImplicit := by rfl) : Ev G R k env ρ (.Name "_law_powers" pos) (.tuple (intsD powers)) := ev_const (.tail _ (.tail _ (.tail _ (.tail _ (.head _))))) hk (by decide)
theorem k_law_generator {pos : Pos} (hk : env.kindOf "_law_generator" = some .globalImplicit := by rfl) : Ev G R k env ρ (.Name "_law_generator" pos) (.tuple (intsD gener)) := ev_const (.tail _ (.tail _ (.tail _ (.tail _ (.tail _ (.head _)))))) hk (by decide)
theorem k_law_one {pos : Pos} (hk : env.kindOf "_law_one" = some .globalImplicit := by rfl) : Ev G R k env ρ (.Name "_law_one" pos) (.tuple (intsD lawOne)) := ev_const (.tail _ (.tail _ (.tail _ (.tail _ (.tail _ (.tail _ (.head _))))))) hk (by decide)
theorem k_law_other {pos : Pos} (hk : env.kindOf "_law_other" = some .globalImplicit := by rfl) : Ev G R k env ρ (.Name "_law_other" pos) (.tuple (intsD lawOther)) := ev_const (.tail _ (.tail _ (.tail _ (.tail _ (.tail _ (.tail _ (.tail _ (.head _)))))))) hk (by decide)
theorem bo {l r : Expr} {op : Operator} {pos : Pos} {d1 d2 d : PyData} (h1 : Ev G R k env ρ l d1) (h2 : Ev G R k env ρ r d2) (h : Op2 G R k (binaryOp op) d1 d2 d) : Ev G R k env ρ (.BinOp l op r pos) d := ev_binop h1 h2 h

theorem Op2.conv {t : Value → Value → Sem Value} {d1 d2 d d' : PyData} (h : Op2 G R k t d1 d2 d) (e : d = d') : Op2 G R k t d1 d2 d' := e ▸ h
theorem c_hrpExpand {x : Str} (hx : x.length ≤ 1000) : CallsTo G false (k + 1) 6 [.str x] (.list (intsD (NI (expandN x)))) := by
  refine calls_of (by rfl) (by decide) (by decide) (fun pm cd doc vs hl => ?_) (by rfl) (by rfl) (fun L a cd _ => ?_)
  · match vs, hl with
    | [v], _ => rfl
  · have hsz : x.length ≤ sizeLine := by rw [sizeLine_eq]; omega
    refine ex_last (ex_return (Ev.conv (bo (bo
      (ev_compS (x := x) (fun c => .int ((c / 32 : Nat) : Int)) (cap0 (by rfl) (by decide) (by decide) (by rfl) (by decide) (by decide) (by rfl)) (by rfl) lv hsz
        (fun C c hc => (bo (e_ord lv) ev_int (o_shr (by decide))).conv (congrArg PyData.int (shrN c 5))) (fun c hc => rfl) (fun v => by rfl))
      (ev_list (evl_cons ev_int evl_nil (by rfl)) (by decide)) (o_cat ?_))
      (ev_compS (x := x) (fun c => .int ((c % 32 : Nat) : Int)) (cap0 (by rfl) (by decide) (by decide) (by rfl) (by decide) (by decide) (by rfl)) (by rfl) lv hsz
        (fun C c hc => (bo (e_ord lv) ev_int o_and).conv ?_) (fun c hc => rfl) (fun v => by rfl)) (o_cat ?_)) ?_))
    · simp [sizeLine_eq, Str.length] at hsz ⊢; simp [Str.length] at hx; omega
    · refine congrArg PyData.int ((andN c 31).trans ?_)
      rw [show (31 : Nat) = 2 ^ 5 - 1 from rfl, Nat.and_two_pow_sub_one_eq_mod]
    · simp [sizeLine_eq, Str.length] at hsz ⊢; simp [Str.length] at hx; omega
    · simp only [expandN, NI, intsD, List.map_append, List.map_map]; rfl

def freeOk (env : Env) (cl : List (Str × Addr)) : List (Str × NameKind) → Prop
  | [] => True
  | y :: r => (y.2 = .free → env.kindOf y.1 = some .cell ∧ cl.lookup y.1 = env.cells.lookup y.1) ∧ freeOk env cl r
theorem freeOk_all {cl : List (Str × Addr)} : ∀ {l : List (Str × NameKind)}, freeOk env cl l → ∀ y ∈ l, y.2 = .free → env.kindOf y.1 = some .cell ∧ cl.lookup y.1 = env.cells.lookup y.1
  | _ :: _, h, _, .head _, e => h.1 e
  | _ :: _, h, y, .tail _ m, e => freeOk_all h.2 y m e
theorem capF {scope : Scope} {cl : List (Str × Addr)} {xs : List Str} (h1 : closureFor scope env = pure cl) (h2 : ∀ y ∈ scope.names, y.2 ≠ .cell) (h3 : scope.kind = .function) (h4 : ∀ y ∈ scope.names, y.2 = .local → scope.names.lookup y.1 = some .local)
    (h5 : ∀ y ∈ scope.names, y.2 = .local → y.1 ∈ xs ∨ y.1 = (".0" : Str)) (h6 : ρ.lookup (".0" : Str) = none) (h7 : freeOk env cl scope.names) (h8 : ∀ q ∈ cl, q ∈ env.cells) (h9 : (cl.map (·.2)).Nodup) : Cap env scope cl xs ρ :=
  ⟨h1, h2, h3, h4, h5, h6, freeOk_all h7, h8, h9⟩

theorem sub_nil : Sub [] ρ := fun _ _ h => by cases h
theorem sub_cons {x : Str} {d : PyData} {r : Rho} (h : ρ.lookup x = some d := by rfl) (hr : Sub r ρ) : Sub ((x, d) :: r) ρ := fun y d' e => by
  by_cases hy : y = x
  · subst hy; rw [List.lookup_cons, beq_self_eq_true] at e; cases e; exact h
  · have : (y == x) = false := by simpa using hy
    rw [List.lookup_cons, this] at e; exact hr y d' e
/-- a for over a source -/
theorem ex_for2 {x : Str} {px pos : Pos} {iter : Expr} {body : List Stmt} {ds : List PyData} (st : Nat → Rho) (hx : env.kindOf x = some .local) (hsrc : Src G false true k env ρ iter ds) (h0 : Sub (st 0) ρ)
    (turn : ∀ i d, ds[i]? = some d → Ex G false k env ((x, d) :: st i) body (.next (st (i + 1)))) (hs : ∀ v, foldedSetIterable iter env v = pure v) : Ex1 G false k env ρ (.For (.Name x px) iter body [] pos) (.next (st ds.length)) :=
  ex_for st hx hsrc h0 (fun i d h => ⟨_, turn i d h, fun _ _ e => e⟩) hs
theorem get_NI {vs : List Nat} {i : Nat} {d : PyData} (hd : (intsD (NI vs))[i]? = some d) : ∃ v : Nat, vs[i]? = some v ∧ d = .int (v : Int) := by
  simp only [intsD, NI, List.getElem?_map, Option.map_eq_some_iff] at hd
  obtain ⟨_, ⟨v, hv, rfl⟩, rfl⟩ := hd
  exact ⟨v, hv, rfl⟩
theorem take_fold {α β : Type} {f : β → α → β} {b : β} {l : List α} {i : Nat} {v : α} (h : l[i]? = some v) : (l.take (i + 1)).foldl f b = f ((l.take i).foldl f b) v := by
  rw [List.take_add_one, h, List.foldl_append]; rfl

theorem ex_last' {st : Stmt} {ρ' : Rho} (h1 : Ex1 G R k env ρ st (.next ρ')) : Ex G R k env ρ [st] (.next ρ') := ex_cons h1 ex_nil
theorem get_upto {n : Int} {i : Nat} {d : PyData} (hd : (upto n)[i]? = some d) : i < n.toNat ∧ d = .int (i : Int) := by
  simp only [upto, List.getElem?_map, Option.map_eq_some_iff, List.getElem?_range'] at hd
  obtain ⟨j, hj, rfl⟩ := hd
  have := (List.getElem?_eq_some_iff.mp hj)
  obtain ⟨h1, h2⟩ := this
  simp at h1 h2
  subst h2
  exact ⟨by omega, rfl⟩
theorem andOne (n : Nat) : truth (.int ((n &&& 1 : Nat) : Int)) = !decide ((n &&& 1) = 0) := by
  show (((n &&& 1 : Nat) : Int) != 0) = _
  by_cases h : (n &&& 1) = 0
  · rw [h]; rfl
  · simp only [h, decide_false, Bool.not_false, bne_iff_ne, ne_eq]; omega
theorem bits_lt {n m : Nat} (h : n < 2 ^ m) : Builtin.Int.intBits (n : Int) ≤ m := by
  unfold Builtin.Int.intBits
  split
  · omega
  · have h0 : n ≠ 0 := by rintro rfl; simp at *
    have := (Nat.log2_lt h0).mpr h
    simp only [Int.natAbs_natCast]; omega

theorem c_polymod {vs : List Nat} : CallsTo G false (k + 1) 5 [.list (intsD (NI vs))] (.int (polyN vs : Nat)) := by
  refine calls_of (by rfl) (by decide) (by decide) (fun pm cd doc vs hl => ?_) (by rfl) (by rfl) (fun L a cd _ => ?_)
  · match vs, hl with
    | [v], _ => rfl
  · refine ex_cons (ex_assign (d := .list (intsD (NI gens))) (ev_list (evl_cons ev_int (evl_cons ev_int (evl_cons ev_int (evl_cons ev_int (evl_cons ev_int evl_nil (by rfl)) (by rfl)) (by rfl)) (by rfl)) (by rfl)) (by decide)) (.inl (by rfl)) (by rfl)) ?_
    refine ex_cons (ex_assign (d := .int ((1 : Nat) : Int)) ev_int (.inl (by rfl)) (by rfl)) ?_
    refine ex_cons (ex_for2 (fun i => [("chk", .int (((vs.take i).foldl pstep 1 : Nat) : Int)), ("generator", .list (intsD (NI gens)))]) (by rfl) (src_list (ds := intsD (NI vs)) lv) (sub_cons (by rfl) (sub_cons (by rfl) sub_nil)) (fun i d hd => ?_) (fun v => by rfl)) ?_
    · obtain ⟨v, hv, rfl⟩ := get_NI hd
      rw [take_fold hv]
      generalize hc : (vs.take i).foldl pstep 1 = c
      refine ex_cons (ex_assign (d := .int ((c / 2 ^ 25 : Nat) : Int)) ((bo lv ev_int (o_shr (by decide))).conv (congrArg PyData.int (shrN c 25))) (.inl (by rfl)) (by rfl)) ?_
      have h25 : c &&& 33554431 < 2 ^ 25 := by rw [show 33554431 = 2 ^ 25 - 1 from rfl, Nat.and_two_pow_sub_one_eq_mod]; exact Nat.mod_lt _ (by decide)
      have hb := bits_lt h25
      refine ex_cons (ex_assign (d := .int ((((c &&& 33554431) * 32) ^^^ v : Nat) : Int)) (bo (bo ((bo lv ev_int o_and).conv (congrArg PyData.int (andN c 33554431))) ev_int (o_shl (by decide) (by omega))) lv (Op2.conv o_xor ?_)) (.inl (by rfl)) (by rfl)) ?_
      · have e : ((c &&& 33554431 : Nat) : Int) * 2 ^ (5 : Int).toNat = (((c &&& 33554431) * 32 : Nat) : Int) := by
          rw [show (5 : Int).toNat = 5 from rfl]; norm_cast
        rw [e, xorN]
      show Ex G false k _ _ _ (.next [("chk", .int ((pin (c / 2 ^ 25) (((c &&& 33554431) * 32) ^^^ v) 5 : Nat) : Int)), ("generator", .list (intsD (NI gens)))])
      generalize ((c &&& 33554431) * 32) ^^^ v = c1
      refine Ex.subOut (ex_last' (ex_for2 (fun i => [("chk", .int ((pin (c / 2 ^ 25) c1 i : Nat) : Int)), ("top", .int ((c / 2 ^ 25 : Nat) : Int)), ("generator", .list (intsD (NI gens)))]) (by rfl) (src_range (by rfl) ev_int (by decide) (by decide) (by rfl)) (sub_cons (by rfl) (sub_cons (by rfl) (sub_cons (by rfl) sub_nil))) (fun i d hd => ?_) (fun v => by rfl))) (sub_cons (by rfl) (sub_cons (by rfl) sub_nil))
      obtain ⟨hi, rfl⟩ : i < 5 ∧ d = .int (i : Int) := get_upto hd
      generalize c / 2 ^ 25 = t
      refine Ex.subOut (ex_last' (ex_aug (d1 := .int ((pin t c1 i : Nat) : Int)) (d2 := .int ((if (t / 2 ^ i) &&& 1 = 0 then 0 else gens.getD i 0 : Nat) : Int)) (d := .int ((pin t c1 (i + 1) : Nat) : Int)) (by rfl) (by rfl) ?_ (i_xor.conv (congrArg PyData.int (xorN _ _))))) (sub_cons (by rfl) (sub_cons (by rfl) (sub_cons (by rfl) sub_nil)))
      refine ev_ifexp (c := !decide ((t / 2 ^ i) &&& 1 = 0)) (Tr.conv (tr_val (d := .int (((t / 2 ^ i) &&& 1 : Nat) : Int)) ((bo ((bo lv lv (o_shr (Int.natCast_nonneg i))).conv (congrArg PyData.int (shrN t i))) ev_int o_and).conv (congrArg PyData.int (andN _ 1))) (by rfl) (by rfl)) (andOne _)) (fun h => ?_) (fun h => ?_)
      · have h' : ¬ (t / 2 ^ i &&& 1 = 0) := by simpa using h
        rw [if_neg h']
        have e0 : ¬ ((i : Int) < 0) := by omega
        refine ev_item_list (i := (i : Int)) lv lv ⟨by rw [if_neg e0]; omega, ?_⟩ (by decide) (fun _ _ => by rfl)
        rw [if_neg e0, Int.toNat_natCast]
        have : i = 0 ∨ i = 1 ∨ i = 2 ∨ i = 3 ∨ i = 4 := by omega
        rcases this with rfl | rfl | rfl | rfl | rfl <;> rfl
      · have h' : (t / 2 ^ i &&& 1 = 0) := by simpa using h
        rw [if_pos h']
        exact ev_int
    · refine ex_last (ex_return (Ev.conv lv ?_))
      rw [intsD_len, NI_len, List.take_of_length_le (Nat.le_refl _)]; rfl
end
end Bx
end

section
open PySem PySem.W PyProof.Rows PySem.Calls PySem.Spec
set_option autoImplicit false
set_option maxRecDepth 20000
namespace Bx
def encOf (p : Nat) : PyData := if p = 1 then .int 1 else if p = 734539939 then .int 2 else .none
def verN (x : Str) (ds : List Nat) : PyData := encOf (polyN (expandN x ++ ds))
def six : List Nat := [0, 0, 0, 0, 0, 0]
def createN (m : Bool) (x : Str) (ds : List Nat) : List Nat := (List.range 6).map fun i => ((polyN (expandN x ++ ds ++ six) ^^^ (if m then 734539939 else 1)) / 2 ^ (5 * (5 - i))) % 32
def csetN (d : Nat) : Nat := cset.cps.getD d 0
def textOf (l : List Nat) : Str := ⟨(l.map csetN).toArray⟩
theorem item_cset : ∀ d < 32, Txt.item cset ((d : Nat) : Int) = ⟨#[csetN d]⟩ := by decide +kernel
theorem cset_len : cset.length = 32 := by decide +kernel
section
variable {G : Gl} {R : Bool} {k : Nat} {env : Env} {ρ : Rho}
theorem one_len : (Str.ofString "1").length = 1 := rfl
theorem c_verify {x : Str} {ds : List Nat} (hx : x.length ≤ 1000) (hd : ds.length ≤ 5000) : CallsTo G false (k + 2) 7 [.str x, .list (intsD (NI ds))] (verN x ds) := by
  refine calls_of (by rfl) (by decide) (by decide) (fun pm cd doc vs hl => ?_) (by rfl) (by rfl) (fun L a cd _ => ?_)
  · match vs, hl with
    | [v, w], _ => rfl
  · have hz : (intsD (NI (expandN x))).length + (intsD (NI ds)).length ≤ sizeLine := by rw [intsD_len, intsD_len, NI_len, NI_len, len_expand, sizeLine_eq]; omega
    refine ex_cons (ex_assign (d := .int (polyN (expandN x ++ ds) : Nat)) (e_call1 5 (bo (e_call1 6 lv (c_hrpExpand (k := 0) hx) (by omega)) lv ((o_cat hz).conv (by rw [NI_app, intsD_app]))) (c_polymod (k := 0)) (by omega)) (.inl (by rfl)) (by rfl)) ?_
    unfold verN
    generalize polyN (expandN x ++ ds) = p
    have e1 : ((p : Int) == 1) = decide (p = 1) := by
      rw [Bool.eq_iff_iff]; simp; omega
    have e2 : ((p : Int) == 734539939) = decide (p = 734539939) := by
      rw [Bool.eq_iff_iff]; simp; omega
    refine ex_last (ex_if (b := decide (p = 1)) (Tr.conv (tr_cmp lv k_BECH32_CONST c_eq (by rfl)) e1) (fun h => ?_) (fun h => ?_))
    · rw [encOf, if_pos (by simpa using h)]
      exact ex_last (ex_return (ev_enc (.inl ⟨rfl, rfl⟩) (by rfl)))
    · have h1 : ¬ p = 1 := by simpa using h
      rw [encOf, if_neg h1]
      refine ex_last (ex_if (b := decide (p = 734539939)) (Tr.conv (tr_cmp lv k_BECH32M_CONST c_eq (by rfl)) e2) (fun h => ?_) (fun h => ?_))
      · rw [if_pos (by simpa using h)]
        exact ex_last (ex_return (ev_enc (.inr ⟨rfl, rfl⟩) (by rfl)))
      · rw [if_neg (by simpa using h)]
        exact ex_last (ex_return ev_none)
def encI (m : Bool) : PyData := .int (if m then 2 else 1)
theorem c_create {m : Bool} {x : Str} {ds : List Nat} (hx : x.length ≤ 1000) (hd : ds.length ≤ 5000) : CallsTo G false (k + 2) 8 [encI m, .str x, .list (intsD (NI ds))] (.list (intsD (NI (createN m x ds)))) := by
  refine calls_of (by rfl) (by decide) (by decide) (fun pm cd doc vs hl => ?_) (by rfl) (by rfl) (fun L a cd _ => ?_)
  · match vs, hl with
    | [u, v, w], _ => rfl
  · have hz : (intsD (NI (expandN x))).length + (intsD (NI ds)).length ≤ sizeLine := by rw [intsD_len, intsD_len, NI_len, NI_len, len_expand, sizeLine_eq]; omega
    refine ex_cons (ex_assign (d := .list (intsD (NI (expandN x ++ ds)))) (bo (e_call1 6 lv (c_hrpExpand (k := 0) hx) (by omega)) lv ((o_cat hz).conv (by rw [NI_app, intsD_app]))) (.inl (by rfl)) (by rfl)) ?_
    refine ex_cons (ex_assign (d := .int ((if m then 734539939 else 1 : Nat) : Int)) (ev_ifexp (c := m) (Tr.conv (tr_cmp (d2 := .int 2) lv (ev_enc (.inr ⟨rfl, rfl⟩) (by rfl)) c_eq (by rfl)) (by cases m <;> rfl)) (fun h => by subst h; exact k_BECH32M_CONST) (fun h => by subst h; exact k_BECH32_CONST)) (.inl (by rfl)) (by rfl)) ?_
    have hz2 : (intsD (NI (expandN x ++ ds))).length + (intsD (NI six)).length ≤ sizeLine := by rw [intsD_len, intsD_len, NI_len, NI_len, List.length_append, len_expand, sizeLine_eq]; simp [six]; omega
    refine ex_cons (ex_assign (d := .int ((polyN (expandN x ++ ds ++ six) ^^^ (if m then 734539939 else 1) : Nat) : Int)) (bo (e_call1 5 (bo lv (ev_list (ds := intsD (NI six)) (evl_cons ev_int (evl_cons ev_int (evl_cons ev_int (evl_cons ev_int (evl_cons ev_int (evl_cons ev_int evl_nil (by rfl)) (by rfl)) (by rfl)) (by rfl)) (by rfl)) (by rfl)) (by decide)) ((o_cat hz2).conv (by rw [NI_app (expandN x ++ ds), intsD_app]))) (c_polymod (k := 0)) (by omega)) lv (o_xor.conv (by rw [xorN]))) (.inr ⟨by rfl, by rfl⟩) (by rfl)) ?_
    unfold createN
    generalize (polyN (expandN x ++ ds ++ six) ^^^ (if m then 734539939 else 1)) = p
    refine ex_last (ex_return (Ev.conv (ev_compI (ns := List.map (fun i : Nat => (i : Int)) (List.range 6)) (fun i => .int ((p / 2 ^ (5 * (5 - i.toNat)) % 32 : Nat) : Int)) (capF (by rfl) (by decide) (by rfl) (by decide) (by decide) (by rfl) ?_ ?_ ?_) (by rfl) (src_rangeI (by rfl) ev_int (by decide) (by decide) (by rfl)) (by decide) (fun C n hn => ?_) (fun n hn => rfl) (fun v => by rfl)) ?_))
    · exact ⟨fun h => (by cases h), fun h => (by cases h), fun _ => ⟨rfl, rfl⟩, trivial⟩
    · exact fun q hq => hq
    · exact List.nodup_cons.mpr ⟨fun h => (by cases h), .nil⟩
    · obtain ⟨j, hj, rfl⟩ := List.mem_map.mp hn
      have hj := List.mem_range.mp hj
      refine Ev.conv (bo (bo cv (bo ev_int (bo ev_int lv o_sub) (o_mul (IntMulOk.of_left (by decide)))) (o_shr (by omega))) ev_int o_and) ?_
      have e : (5 * (5 - (j : Int))).toNat = 5 * (5 - j) := by omega
      rw [e, shrN]
      refine congrArg PyData.int ((andN _ 31).trans ?_)
      rw [show (31 : Nat) = 2 ^ 5 - 1 from rfl, Nat.and_two_pow_sub_one_eq_mod]
      rfl
    · rw [List.map_map]; simp only [NI, intsD, List.map_map]; rfl
theorem createN_len (m : Bool) (x : Str) (ds : List Nat) : (createN m x ds).length = 6 := by simp [createN]
theorem createN_lt {m : Bool} {x : Str} {ds : List Nat} : ∀ n ∈ createN m x ds, n < 32 := by
  intro n hn
  obtain ⟨i, _, rfl⟩ := List.mem_map.mp hn
  exact Nat.mod_lt _ (by decide)
def encodeN (m : Bool) (x : Str) (ds : List Nat) : Str := x ++ "1" ++ textOf (ds ++ createN m x ds)
theorem ones_sum (l : List Nat) : (List.map (fun _ => 1) l).sum = l.length := by
  induction l with
  | nil => rfl
  | cons a l ih => rw [List.map_cons, List.sum_cons, ih, List.length_cons]; omega
theorem join_fold : ∀ (l : List Str) (acc : Array Nat), l.foldl (fun acc p => acc ++ (Str.ofString "").cps ++ p.cps) acc = acc ++ (l.flatMap fun p => p.cps.toList).toArray
  | [], acc => by simp
  | x :: l, acc => by
    rw [List.foldl_cons, join_fold l, List.flatMap_cons]
    have : (Str.ofString "").cps = #[] := rfl
    rw [this]
    apply Array.toList_inj.mp; simp
theorem join_nil (l : List Str) : Txt.join ("" : Str) l = ⟨(l.flatMap fun p => p.cps.toList).toArray⟩ := by
  cases l with
  | nil => rfl
  | cons x l =>
    show (⟨l.foldl _ x.cps⟩ : Str) = _
    rw [join_fold, List.flatMap_cons]
    congr 1
    apply Array.toList_inj.mp; simp
theorem join_ones (l : List Nat) : Txt.join ("" : Str) (l.map fun d => (⟨#[csetN d]⟩ : Str)) = textOf l := by
  rw [join_nil, List.flatMap_map]
  congr 2
  induction l with
  | nil => rfl
  | cons x l ih => rw [List.flatMap_cons, ih]; rfl
/-- ''.join([SET[d] for d in ..]) -/
theorem c_encode {m : Bool} {x : Str} {ds : List Nat} (hx : x.length ≤ 1000) (hd : ds.length ≤ 2000) (h32 : ∀ n ∈ ds, n < 32) : CallsTo G false (k + 3) 9 [encI m, .str x, .list (intsD (NI ds))] (.str (encodeN m x ds)) := by
  refine calls_of (by rfl) (by decide) (by decide) (fun pm cd doc vs hl => ?_) (by rfl) (by rfl) (fun L a cd _ => ?_)
  · match vs, hl with
    | [u, v, w], _ => rfl
  · have hz : (intsD (NI ds)).length + (intsD (NI (createN m x ds))).length ≤ sizeLine := by rw [intsD_len, intsD_len, NI_len, NI_len, createN_len, sizeLine_eq]; omega
    have hlt : ∀ n ∈ ds ++ createN m x ds, n < 32 := fun n hn => (List.mem_append.mp hn).elim (h32 n) (createN_lt n)
    have hlen : (ds ++ createN m x ds).length ≤ 2006 := by rw [List.length_append, createN_len]; omega
    refine ex_cons (ex_assign (d := .list (intsD (NI (ds ++ createN m x ds)))) (bo lv (e_call3 8 lv lv lv (c_create (k := 0) (m := m) hx (by omega)) (by omega)) ((o_cat hz).conv (by rw [NI_app, intsD_app]))) (.inl (by rfl)) (by rfl)) ?_
    unfold encodeN
    generalize ds ++ createN m x ds = cs at *
    have hw : (textOf cs).length = cs.length := by simp [textOf, Str.length]
    have hz1 : x.length + (Str.ofString "1").length ≤ sizeLine := by rw [sizeLine_eq, one_len]; omega
    refine ex_last (ex_return (bo (d1 := .str (x ++ "1")) (bo lv ev_str (o_cats (x := x) (y := Str.ofString "1") hz1)) (Ev.conv (e_join (ys := cs.map fun d => (⟨#[csetN d]⟩ : Str)) ev_str (Ev.conv (ev_compI (ns := NI cs) (fun i => .str ⟨#[csetN i.toNat]⟩) (cap0 (by rfl) (by decide) (by decide) (by rfl) (by decide) (by decide) (by rfl)) (by rfl) (src_list lv) (by rw [NI_len, sizeLine_eq]; omega) (fun C n hn => ?_) (fun n hn => rfl) (fun v => by rfl)) ?_) ?_) (congrArg PyData.str (join_ones cs))) (o_cats ?_)))
    · obtain ⟨j, hj, rfl⟩ := List.mem_map.mp hn
      have hj32 := hlt j hj
      have := item_cset j hj32
      refine Ev.conv (ev_item_str k_CHARSET lv (by exact Int.natCast_nonneg j) (by show ((j : Nat) : Int) < _; rw [cset_len]; omega) (by rw [cset_len, sizeLine_eq]; omega) (fun _ _ => by rfl)) ?_
      exact congrArg PyData.str this
    · simp only [NI, strsD, List.map_map]; rfl
    · rw [List.map_map, show (Str.ofString "").length = 0 from rfl]
      have : ((fun x => x.length) ∘ fun d => ({ cps := #[csetN d] } : Str)) = fun _ => 1 := by funext d; rfl
      rw [this, ones_sum]; omega
    · rw [hw, sizeLine_eq]
      rw [Str.length_append, one_len]; omega
end
end Bx
end

section
open PySem PySem.W PyProof.Rows PySem.Calls PySem.Spec
set_option autoImplicit false
set_option maxRecDepth 20000
namespace Bx
def powersN : List Nat := [1, 2, 4, 8, 16, 9, 18, 13, 26, 29, 19, 15, 30, 21, 3, 6, 12, 24, 25, 27, 31, 23, 7, 14, 28, 17, 11, 22, 5, 10, 20]
def genN : List Nat := [9, 27, 30, 13, 9, 6]
def pw (i : Nat) : Nat := powersN.getD (i % 31) 0
def lg (t : Nat) : Nat := powersN.idxOf t
def rstep (s : List Nat) (v : Nat) : List Nat :=
  let s' := s.tail ++ [v]
  if s.headD 0 = 0 then s' else List.zipWith (fun r k => r ^^^ pw (lg (s.headD 0) + k)) s' genN
def rest0 : List Nat := [0, 0, 0, 0, 0, 1]
def restN (x : Str) (ds : List Nat) : List Nat := (expandN x ++ ds).foldl rstep rest0
theorem pw_lt (i : Nat) : pw i < 32 := by
  have h : ∀ j < 31, powersN.getD j 0 < 32 := by decide
  exact h _ (Nat.mod_lt _ (by decide))
theorem lg_ok : ∀ t < 32, 0 < t → powersN[lg t]? = some t ∧ lg t < 31 ∧ ∀ i < lg t, ∀ m, powersN[i]? = some m → m ≠ t := by
  intro t ht h0
  have : ∀ t < 32, 0 < t → (powersN[lg t]? = some t ∧ lg t < 31 ∧ ∀ i < lg t, powersN[i]? ≠ some t) := by decide +kernel
  obtain ⟨a, b, c⟩ := this t ht h0
  exact ⟨a, b, fun i hi m hm e => c i hi (e ▸ hm)⟩
theorem xor32 {a b : Nat} (ha : a < 32) (hb : b < 32) : a ^^^ b < 32 := Nat.xor_lt_two_pow (n := 5) ha hb
def Six (s : List Nat) : Prop := s.length = 6 ∧ ∀ n ∈ s, n < 32
theorem rstep_six {s : List Nat} {v : Nat} (h : Six s) (hv : v < 32) : Six (rstep s v) := by
  have h1 : Six (s.tail ++ [v]) := ⟨by simp [h.1], fun n hn => by
    rcases List.mem_append.mp hn with h' | h'
    · exact h.2 n (List.mem_of_mem_tail h')
    · rw [List.mem_singleton.mp h']; exact hv⟩
  unfold rstep
  dsimp only
  split
  · exact h1
  · refine ⟨by rw [List.length_zipWith, h1.1]; rfl, fun n hn => ?_⟩
    obtain ⟨i, hi, rfl⟩ := List.mem_iff_getElem.mp hn
    rw [List.getElem_zipWith]
    exact xor32 (h1.2 _ (List.getElem_mem _)) (pw_lt _)
theorem fold_six : ∀ {l : List Nat} {s : List Nat}, Six s → (∀ v ∈ l, v < 32) → Six (l.foldl rstep s)
  | [], _, h, _ => h
  | v :: l, _, h, hl => fold_six (l := l) (rstep_six h (hl v (.head _))) fun w hw => hl w (.tail _ hw)
theorem six0 : Six rest0 := ⟨rfl, by decide⟩
theorem expand_lt {x : Str} (h : ∀ c ∈ x.cps.toList, c < 1024) : ∀ n ∈ expandN x, n < 32 := by
  intro n hn
  unfold expandN at hn
  rcases List.mem_append.mp hn with hn | hn
  · rcases List.mem_append.mp hn with hn | hn
    · obtain ⟨c, hc, rfl⟩ := List.mem_map.mp hn
      have := h c hc
      show c / 32 < 32
      omega
    · rw [List.mem_singleton.mp hn]; decide
  · obtain ⟨c, hc, rfl⟩ := List.mem_map.mp hn
    exact Nat.mod_lt _ (by decide)
theorem restN_six {x : Str} {ds : List Nat} (h : ∀ c ∈ x.cps.toList, c < 1024) (hd : ∀ n ∈ ds, n < 32) : Six (restN x ds) := fold_six six0 fun v hv => (List.mem_append.mp hv).elim (expand_lt h v) (hd v)

section
variable {G : Gl} {R : Bool} {k : Nat} {env : Env} {ρ : Rho}
theorem pick_from (l : List PyData) {a : Nat} (h : a ≤ l.length) : pickD l (some (a : Int)) none = l.drop a := by
  have e : kms_lo (some (a : Int)) l.length = a := by
    show (if (a : Int) < 0 then l.length - (-(a : Int)).toNat else min (a : Int).toNat l.length) = a
    rw [if_neg (by omega), Int.toNat_natCast, Nat.min_eq_left h]
  show (l.drop (kms_lo (some (a : Int)) l.length)).take (l.length - kms_lo (some (a : Int)) l.length) = _
  rw [e, List.take_of_length_le (by rw [List.length_drop]; exact Nat.le_refl _)]
theorem pick_to (l : List PyData) (a : Nat) : pickD l none (some (a : Int)) = l.take a := by
  have e : kms_hi (some (a : Int)) l.length = min a l.length := by
    show (if (a : Int) < 0 then l.length - (-(a : Int)).toNat else min (a : Int).toNat l.length) = _
    rw [if_neg (by omega), Int.toNat_natCast]
  show (l.drop 0).take (kms_hi (some (a : Int)) l.length - 0) = _
  rw [e, List.drop_zero, Nat.sub_zero]
  by_cases h : a ≤ l.length
  · rw [Nat.min_eq_left h]
  · rw [Nat.min_eq_right (by omega), List.take_length, List.take_of_length_le (by omega)]
theorem pick_negto (l : List PyData) {a : Nat} (h : 0 < a) : pickD l none (some (-(a : Int))) = l.take (l.length - a) := by
  have e : kms_hi (some (-(a : Int))) l.length = l.length - a := by
    show (if -(a : Int) < 0 then l.length - (- -(a : Int)).toNat else min (-(a : Int)).toNat l.length) = _
    rw [if_pos (by omega)]; omega
  show (l.drop 0).take (kms_hi (some (-(a : Int))) l.length - 0) = _
  rw [e, List.drop_zero, Nat.sub_zero]
theorem pick_negfrom (l : List PyData) {a : Nat} (h : 0 < a) : pickD l (some (-(a : Int))) none = l.drop (l.length - a) := by
  have e : kms_lo (some (-(a : Int))) l.length = l.length - a := by
    show (if -(a : Int) < 0 then l.length - (- -(a : Int)).toNat else min (-(a : Int)).toNat l.length) = _
    rw [if_pos (by omega)]; omega
  show (l.drop (kms_lo (some (-(a : Int))) l.length)).take (l.length - kms_lo (some (-(a : Int))) l.length) = _
  rw [e, List.take_of_length_le (by rw [List.length_drop]; exact Nat.le_refl _)]
theorem powers_eq : powers = NI powersN := rfl
theorem gener_eq : gener = NI genN := rfl
theorem zip_NI (f : Nat → Nat → Nat) : ∀ (a b : List Nat), List.zipWith (fun r k : Int => ((f r.toNat k.toNat : Nat) : Int)) (NI a) (NI b) = NI (List.zipWith f a b)
  | [], _ => rfl
  | _ :: _, [] => rfl
  | x :: a, y :: b => by
    show _ :: List.zipWith _ (NI a) (NI b) = _ :: NI _
    rw [zip_NI f a b]; rfl
theorem mem_NI {l : List Nat} {a : Int} (h : a ∈ NI l) : ∃ n ∈ l, a = (n : Int) := by
  obtain ⟨n, hn, e⟩ := List.mem_map.mp h
  exact ⟨n, hn, e.symm⟩
theorem c_rest {x : Str} {ds : List Nat} (hx : x.length ≤ 1000) (hd : ds.length ≤ 5000) (hc : ∀ c ∈ x.cps.toList, c < 1024) (h32 : ∀ n ∈ ds, n < 32) : CallsTo G false (k + 1) 20 [.str x, .list (intsD (NI ds))] (.tuple (intsD (NI (restN x ds)))) := by
  refine calls_of (by rfl) (by decide) (by decide) (fun pm cd doc vs hl => ?_) (by rfl) (by rfl) (fun L a cd _ => ?_)
  · match vs, hl with
    | [v, w], _ => rfl
  · have hsz : x.length ≤ sizeLine := by rw [sizeLine_eq]; omega
    have hz : (intsD (NI (expandN x))).length + (intsD (NI ds)).length ≤ sizeLine := by rw [intsD_len, intsD_len, NI_len, NI_len, len_expand, sizeLine_eq]; omega
    have hz0 : (List.map (fun c => PyData.int ((c / 32 : Nat) : Int)) x.cps.toList).length + [PyData.int 0].length ≤ sizeLine := by
      rw [List.length_map, sizeLine_eq]; simp [Str.length] at hx ⊢; omega
    have hz1 : (List.map (fun c => PyData.int ((c / 32 : Nat) : Int)) x.cps.toList ++ [PyData.int 0]).length + (List.map (fun c => PyData.int ((c % 32 : Nat) : Int)) x.cps.toList).length ≤ sizeLine := by
      rw [List.length_append, List.length_map, List.length_map, sizeLine_eq]; simp [Str.length] at hx ⊢; omega
    refine ex_cons (ex_assign (d := .list (intsD (NI rest0))) (ev_list (evl_cons ev_int (evl_cons ev_int (evl_cons ev_int (evl_cons ev_int (evl_cons ev_int (evl_cons ev_int evl_nil (by rfl)) (by rfl)) (by rfl)) (by rfl)) (by rfl)) (by rfl)) (by decide)) (.inl (by rfl)) (by rfl)) ?_
    refine ex_cons (ex_for2 (fun i => [("rest", .list (intsD (NI (((expandN x ++ ds).take i).foldl rstep rest0))))]) (by rfl) (src_list (ds := intsD (NI (expandN x ++ ds))) (Ev.conv (bo (d1 := .list (intsD (NI (expandN x)))) (Ev.conv (bo (bo
      (ev_compS (x := x) (fun c => .int ((c / 32 : Nat) : Int)) (cap0 (by rfl) (by decide) (by decide) (by rfl) (by decide) (by decide) (by rfl)) (by rfl) lv hsz
        (fun C c hc => (bo (e_ord lv) ev_int (o_fdiv (by decide) (by decide))).conv (congrArg PyData.int (fdivN c 32))) (fun c hc => rfl) (fun v => by rfl))
      (ev_list (evl_cons ev_int evl_nil (by rfl)) (by decide)) (o_cat hz0))
      (ev_compS (x := x) (fun c => .int ((c % 32 : Nat) : Int)) (cap0 (by rfl) (by decide) (by decide) (by rfl) (by decide) (by decide) (by rfl)) (by rfl) lv hsz
        (fun C c hc => (bo (e_ord lv) ev_int (o_mod (by decide))).conv (congrArg PyData.int (fmodN c 32))) (fun c hc => rfl) (fun v => by rfl)) (o_cat hz1)) ?_) lv (o_cat hz)) ?_)) (sub_cons (by rfl) sub_nil) (fun i d hd => ?_) (fun v => by rfl)) ?_
    · simp only [expandN, NI, intsD, List.map_append, List.map_map]; rfl
    · rw [NI_app, intsD_app]
    · obtain ⟨v, hv, rfl⟩ := get_NI hd
      rw [take_fold hv]
      have hv32 : v < 32 := (List.mem_append.mp (List.mem_of_getElem? hv)).elim (expand_lt hc v) (h32 v)
      have h6 : Six (((expandN x ++ ds).take i).foldl rstep rest0) := fold_six six0 fun u hu => (List.mem_append.mp (List.mem_of_mem_take hu)).elim (expand_lt hc u) (h32 u)
      generalize ((expandN x ++ ds).take i).foldl rstep rest0 = s at h6
      obtain ⟨t, s', rfl⟩ : ∃ t s', s = t :: s' := by
        cases s with
        | nil => cases h6.1
        | cons t s' => exact ⟨t, s', rfl⟩
      have hl5 : s'.length = 5 := by have := h6.1; simpa using this
      have ht : t < 32 := h6.2 t (.head _)
      refine ex_cons (ex_assign (d := .int (t : Int)) (ev_item_list (i := 0) lv ev_int ⟨by rw [if_neg (by decide)]; decide, rfl⟩ (by rw [intsD_len, NI_len, h6.1]; decide) (fun _ _ => by rfl)) (.inl (by rfl)) (by rfl)) ?_
      refine ex_cons (ex_assign (d := .list (intsD (NI (s' ++ [v])))) (bo (d1 := .list (intsD (NI s'))) (Ev.conv (ev_slice_list (lo := some 1) (hi := none) lv ev_int trivial (by rw [intsD_len, NI_len, h6.1]; decide)) ?_) (ev_list (ds := intsD (NI [v])) (evl_cons lv evl_nil (by rfl)) (by show 1 ≤ sizeLine; decide)) (Op2.conv (o_cat (by rw [intsD_len, intsD_len, NI_len, NI_len, hl5]; show 5 + 1 ≤ sizeLine; decide)) (by rw [NI_app, intsD_app]))) (.inl (by rfl)) (by rfl)) ?_
      · refine congrArg PyData.list ?_
        show pickD (intsD (NI (t :: s'))) (some ((1 : Nat) : Int)) none = _
        rw [pick_from _ (by rw [intsD_len, NI_len, h6.1]; decide)]; rfl
      have hs' : Six (s' ++ [v]) := ⟨by simp [hl5], fun n hn => (List.mem_append.mp hn).elim (fun h => h6.2 n (.tail _ h)) fun h => by rw [List.mem_singleton.mp h]; exact hv32⟩
      have hgt : decide ((0 : Int) < (t : Int)) = decide (0 < t) := by rw [Bool.eq_iff_iff]; simp
      refine Ex.subOut (ρ' := [("rest", .list (intsD (NI (rstep (t :: s') v))))]) (ex_last' (ex_if (b := decide (0 < t)) (Tr.conv (tr_cmp lv ev_int c_gt (by rfl)) hgt) (fun h => ?_) (fun h => ?_))) (fun _ _ e => e)
      · have h0 : 0 < t := of_decide_eq_true h
        obtain ⟨hj, hj31, hjm⟩ := lg_ok t ht h0
        have hr : rstep (t :: s') v = List.zipWith (fun r k => r ^^^ pw (lg t + k)) (s' ++ [v]) genN := by
          show (if t = 0 then _ else _) = _
          rw [if_neg (by omega)]; rfl
        rw [hr]
        generalize lg t = j at *
        refine ex_cons (ex_assign (d := .int (j : Int)) (e_index (ns := powers) k_law_powers lv ?_ ?_) (.inr ⟨by rfl, by rfl⟩) (by rfl)) ?_
        · rw [powers_eq, NI, List.getElem?_map, hj]; rfl
        · intro i m hi hm
          rw [powers_eq, NI, List.getElem?_map, Option.map_eq_some_iff] at hm
          obtain ⟨m', hm', rfl⟩ := hm
          intro e
          exact hjm i hi m' hm' (by have : (m' : Int) = (t : Int) := e; omega)
        refine Ex.subOut (ex_last' (ex_assign_zip (b1 := false) (b2 := true) (ns1 := NI (s' ++ [v])) (ns2 := gener) (fun r k => ((r.toNat ^^^ pw (j + k.toNat) : Nat) : Int)) (capF (by rfl) (by decide) (by rfl) (by decide) (by decide) (by rfl) ?_ (fun q hq => hq) ?_) (by rfl) (by rfl) (by decide) (by rfl) (by rfl) lv k_law_generator (.list _) (.tuple _) (by rw [NI_len, hs'.1]; decide) (by rw [NI_len, hs'.1]; decide) (fun C r k hr hk => ?_) (by rfl) (by rfl) (fun v => by rfl) (by rfl))) ?_
        · exact ⟨fun h => (by cases h), fun h => (by cases h), fun h => (by cases h), fun h => (by cases h), fun _ => ⟨rfl, rfl⟩, trivial⟩
        · exact List.nodup_cons.mpr ⟨fun h => (by cases h), .nil⟩
        · obtain ⟨rn, hrn, rfl⟩ := mem_NI hr
          obtain ⟨kn, hkn, rfl⟩ := mem_NI (l := genN) hk
          refine Ev.conv (bo lv (ev_item_tuple (d := .int ((pw (j + kn) : Nat) : Int)) k_law_powers (Ev.conv (d' := .int (((j + kn) % 31 : Nat) : Int)) (bo (bo cv lv o_add) ev_int (o_mod (by decide))) ?_) (Int.natCast_nonneg _) ?_ (by decide) (fun _ _ => by rfl)) o_xor) ?_
          · refine congrArg PyData.int ?_
            rw [show (j : Int) + (kn : Int) = ((j + kn : Nat) : Int) from by omega]
            exact fmodN _ 31
          · rw [Int.toNat_natCast, powers_eq]
            have : powersN[(j + kn) % 31]? = some (pw (j + kn)) := by
              have hlt : (j + kn) % 31 < powersN.length := Nat.mod_lt _ (by decide)
              rw [pw, List.getD_eq_getElem?_getD, List.getElem?_eq_getElem hlt]; rfl
            simp only [intsD, NI, List.getElem?_map, this]; rfl
          · exact congrArg PyData.int (xorN _ _)
        · rw [gener_eq, zip_NI (fun r k => r ^^^ pw (j + k))]
          exact sub_cons (by rfl) sub_nil
      · have h0 : t = 0 := by have := of_decide_eq_false h; omega
        have hr : rstep (t :: s') v = s' ++ [v] := by
          show (if t = 0 then _ else _) = _
          rw [if_pos h0]; rfl
        rw [hr]
        exact Ex.subOut ex_nil (sub_cons (by rfl) sub_nil)
    · refine ex_last (ex_return (Ev.conv (e_tuple lv ?_) ?_))
      · rw [intsD_len, NI_len, intsD_len, NI_len, List.take_of_length_le (Nat.le_refl _)]
        have := restN_six (ds := ds) hc h32
        unfold restN at this
        rw [this.1]; decide
      · rw [intsD_len, NI_len, List.take_of_length_le (Nat.le_refl _)]; rfl
end
end Bx
end

section
open PySem PySem.W PyProof.Rows PySem.Calls PySem.Spec
set_option autoImplicit false
set_option maxRecDepth 20000
namespace Bx
def pack (s : List Nat) : Nat := s.foldl (fun a v => a * 32 + v) 0
theorem xor_shift {x y u w : Nat} (hu : u < 32) (hw : w < 32) : (x * 32 + u) ^^^ (y * 32 + w) = (x ^^^ y) * 32 + (u ^^^ w) := by
  have h32 : u ^^^ w < 2 ^ 5 := Nat.xor_lt_two_pow hu hw
  apply Nat.eq_of_testBit_eq
  intro i
  rw [Nat.testBit_xor, Nat.mul_comm x, Nat.mul_comm y, Nat.mul_comm (x ^^^ y), show (32 : Nat) = 2 ^ 5 from rfl, Nat.testBit_two_pow_mul_add _ hu, Nat.testBit_two_pow_mul_add _ hw, Nat.testBit_two_pow_mul_add _ h32]
  split
  · rw [Nat.testBit_xor]
  · rw [Nat.testBit_xor]
theorem pin_xor (t c : Nat) : ∀ i, pin t c i = c ^^^ pin t 0 i
  | 0 => by simp [pin]
  | i + 1 => by
    show pin t c i ^^^ _ = c ^^^ (pin t 0 i ^^^ _)
    rw [pin_xor t c i, Nat.xor_assoc]
def Gx (t : Nat) : Nat := pin t 0 5
theorem pstep_eq (c v : Nat) : pstep c v = ((c % 2 ^ 25) * 32 ^^^ v) ^^^ Gx (c / 2 ^ 25) := by
  unfold pstep
  rw [pin_xor, show (33554431 : Nat) = 2 ^ 25 - 1 from rfl, Nat.and_two_pow_sub_one_eq_mod]; rfl
theorem xor_low {x v : Nat} (hv : v < 32) : x * 32 ^^^ v = x * 32 + v := by
  have := xor_shift (x := x) (y := 0) (u := 0) (w := v) (by decide) hv
  simpa using this
theorem gx_ok : ∀ t < 32, 0 < t → Gx t = pack (genN.map fun k => pw (lg t + k)) := by decide +kernel
theorem zip_map (a : List Nat) (f : Nat → Nat) : ∀ (b : List Nat), List.zipWith (fun r k => r ^^^ f k) a b = List.zipWith (fun r g => r ^^^ g) a (b.map f) := by
  induction a with
  | nil => intro b; rfl
  | cons x a ih =>
    intro b
    cases b with
    | nil => rfl
    | cons y b => show _ :: _ = _ :: _; rw [ih b]
theorem pack6 (a b c d e f : Nat) : pack [a, b, c, d, e, f] = ((((a * 32 + b) * 32 + c) * 32 + d) * 32 + e) * 32 + f := by
  simp [pack]
theorem pack_zip {s t : List Nat} (hs : Six s) (ht : Six t) : pack (List.zipWith (fun r g => r ^^^ g) s t) = pack s ^^^ pack t := by
  obtain ⟨hl, hs⟩ := hs
  obtain ⟨hl', ht⟩ := ht
  match s, hl, t, hl' with
  | [a, b, c, d, e, f], _, [a', b', c', d', e', f'], _ =>
    simp only [List.mem_cons, List.not_mem_nil, or_false, forall_eq_or_imp, forall_eq] at hs ht
    obtain ⟨h1, h2, h3, h4, h5, h6⟩ := hs
    obtain ⟨g1, g2, g3, g4, g5, g6⟩ := ht
    simp only [List.zipWith_cons_cons, List.zipWith_nil_right]
    rw [pack6, pack6, pack6, xor_shift h6 g6, xor_shift h5 g5, xor_shift h4 g4, xor_shift h3 g3, xor_shift h2 g2]
theorem step_pack {s : List Nat} {v : Nat} (h : Six s) (hv : v < 32) : pstep (pack s) v = pack (rstep s v) := by
  obtain ⟨hl, hs⟩ := h
  match s, hl with
  | [a, b, c, d, e, f], _ =>
    simp only [List.mem_cons, List.not_mem_nil, or_false, forall_eq_or_imp, forall_eq] at hs
    obtain ⟨h1, h2, h3, h4, h5, h6⟩ := hs
    have e1 : pack [a, b, c, d, e, f] / 2 ^ 25 = a := by rw [pack6]; omega
    have e2 : pack [a, b, c, d, e, f] % 2 ^ 25 * 32 + v = pack [b, c, d, e, f, v] := by rw [pack6, pack6]; omega
    rw [pstep_eq, xor_low hv, e1, e2]
    have hs' : Six [b, c, d, e, f, v] := ⟨rfl, by simp only [List.mem_cons, List.not_mem_nil, or_false, forall_eq_or_imp, forall_eq]; exact ⟨h2, h3, h4, h5, h6, hv⟩⟩
    show _ = pack (if a = 0 then [b, c, d, e, f, v] else List.zipWith (fun r k => r ^^^ pw (lg a + k)) [b, c, d, e, f, v] genN)
    by_cases ha : a = 0
    · rw [if_pos ha, ha, show Gx 0 = 0 from by decide, Nat.xor_zero]
    · rw [if_neg ha, zip_map, pack_zip hs' ⟨rfl, ?_⟩, gx_ok a h1 (by omega)]
      intro n hn
      obtain ⟨k, _, rfl⟩ := List.mem_map.mp hn
      exact pw_lt _
/-! ### the step is linear -/
theorem gx_lin : ∀ a b : Nat, Gx (a ^^^ b) = Gx a ^^^ Gx b := by
  have h : ∀ i g a b : Nat, (if ((a ^^^ b) / 2 ^ i) &&& 1 = 0 then 0 else g) = (if (a / 2 ^ i) &&& 1 = 0 then 0 else g) ^^^ (if (b / 2 ^ i) &&& 1 = 0 then 0 else g) := by
    intro i g a b
    have t : ∀ n : Nat, ((n / 2 ^ i) &&& 1 = 0) ↔ n.testBit i = false := fun n => by
      rw [Nat.testBit_eq_decide_div_mod_eq, Nat.and_one_is_mod]
      have := Nat.mod_two_eq_zero_or_one (n / 2 ^ i)
      rcases this with h | h <;> simp [h]
    simp only [t, Nat.testBit_xor]
    cases a.testBit i <;> cases b.testBit i <;> simp
  have hp : ∀ i a b, pin (a ^^^ b) 0 i = pin a 0 i ^^^ pin b 0 i := by
    intro i
    induction i with
    | zero => intro a b; simp [pin]
    | succ i ih =>
      intro a b
      show pin (a ^^^ b) 0 i ^^^ _ = (pin a 0 i ^^^ _) ^^^ (pin b 0 i ^^^ _)
      rw [ih, h]
      ac_rfl
  exact hp 5
def Tp (c : Nat) : Nat := pstep c 0
theorem mod_xor (a b n : Nat) : (a ^^^ b) % 2 ^ n = (a % 2 ^ n) ^^^ (b % 2 ^ n) := Nat.xor_mod_two_pow
theorem div_xor (a b n : Nat) : (a ^^^ b) / 2 ^ n = (a / 2 ^ n) ^^^ (b / 2 ^ n) := by
  rw [← Nat.shiftRight_eq_div_pow, ← Nat.shiftRight_eq_div_pow, ← Nat.shiftRight_eq_div_pow, Nat.shiftRight_xor_distrib]
theorem mul_xor (a b : Nat) : (a ^^^ b) * 32 = (a * 32) ^^^ (b * 32) := by
  have := xor_shift (x := a) (y := b) (u := 0) (w := 0) (by decide) (by decide)
  simpa using this.symm
theorem Tp_lin (a b : Nat) : Tp (a ^^^ b) = Tp a ^^^ Tp b := by
  unfold Tp
  rw [pstep_eq, pstep_eq, pstep_eq, mod_xor, div_xor, mul_xor, gx_lin]
  simp only [Nat.xor_zero]
  ac_rfl
theorem pstep_T (c v : Nat) : pstep c v = Tp c ^^^ v := by
  unfold Tp
  rw [pstep_eq, pstep_eq, Nat.xor_zero]
  ac_rfl
theorem fold_lin : ∀ (a b : List Nat) (s t : Nat), a.length = b.length → (List.zipWith (fun r g => r ^^^ g) a b).foldl pstep (s ^^^ t) = a.foldl pstep s ^^^ b.foldl pstep t
  | [], [], _, _, _ => rfl
  | x :: a, y :: b, s, t, h => by
    show (List.zipWith _ a b).foldl pstep (pstep (s ^^^ t) (x ^^^ y)) = a.foldl pstep (pstep s x) ^^^ b.foldl pstep (pstep t y)
    have e : pstep (s ^^^ t) (x ^^^ y) = pstep s x ^^^ pstep t y := by
      rw [pstep_T, pstep_T, pstep_T, Tp_lin]; ac_rfl
    rw [e, fold_lin a b _ _ (by simpa using h)]
end Bx
end

section
open PySem PySem.W PyProof.Rows PySem.Calls PySem.Spec
open PySem.Builtin.Str
set_option autoImplicit false
set_option maxRecDepth 20000
namespace Bx
abbrev S (l : List Nat) : Str := ⟨l.toArray⟩
theorem S_list (x : Str) : x = S x.cps.toList := by cases x; simp [S]
theorem S_len (l : List Nat) : (S l).length = l.length := by simp [S, Str.length]
theorem S_toList (l : List Nat) : (S l).cps.toList = l := by simp [S]
theorem S_app (a b : List Nat) : S a ++ S b = S (a ++ b) := Str.ext' (by rw [Str.cps_append]; simp [S])
theorem S_inj {a b : List Nat} (h : S a = S b) : a = b := by
  have := congrArg (fun x : Str => x.cps.toList) h
  simpa [S] using this

def csetL : List Nat := cset.cps.toList
def idx (c : Nat) : Nat := csetL.idxOf c
theorem csetL_lt : ∀ c ∈ csetL, c < 128 := by decide +kernel
theorem find_in : ∀ c ∈ csetL, Txt.find cset ⟨#[c]⟩ = (idx c : Int) ∧ idx c < 32 := by decide +kernel
theorem contains_cset (c : Nat) : Txt.contains cset ⟨#[c]⟩ = decide (c ∈ csetL) := StrLaws.found_one cset c
theorem find_out {c : Nat} (h : c ∉ csetL) : Txt.find cset ⟨#[c]⟩ = -1 := by
  have := contains_cset c
  rw [decide_eq_false h] at this
  unfold Txt.contains at this
  unfold Txt.find
  cases e : occurrences cset ⟨#[c]⟩ 0 cset.length 1 with
  | nil => rfl
  | cons a r => rw [e] at this; cases this

/-! ### the last '1' -/
def cut : List Nat → Option (List Nat × List Nat)
  | [] => none
  | c :: r => match cut r with
    | some (h, d) => some (c :: h, d)
    | none => if c = 49 then some ([], r) else none
theorem cut_none : ∀ {l : List Nat}, cut l = none → 49 ∉ l
  | [], _, h => by cases h
  | c :: r, e, h => by
    unfold cut at e
    cases hr : cut r with
    | some p => rw [hr] at e; cases e
    | none =>
      rw [hr] at e
      dsimp only at e
      rcases List.mem_cons.mp h with h | h
      · rw [if_pos h.symm] at e; cases e
      · exact cut_none hr h
theorem cut_some : ∀ {l h d : List Nat}, cut l = some (h, d) → l = h ++ 49 :: d ∧ 49 ∉ d
  | [], _, _, e => by cases e
  | c :: r, h, d, e => by
    unfold cut at e
    cases hr : cut r with
    | some p =>
      obtain ⟨h', d'⟩ := p
      rw [hr] at e
      cases e
      obtain ⟨e1, e2⟩ := cut_some hr
      exact ⟨by rw [e1]; rfl, e2⟩
    | none =>
      rw [hr] at e
      dsimp only at e
      split at e
      · rename_i hc; cases e; subst hc; exact ⟨rfl, cut_none hr⟩
      · cases e
theorem cut_eq {h d : List Nat} (hd : 49 ∉ d) : cut (h ++ 49 :: d) = some (h, d) := by
  have hn : cut d = none := by
    cases e : cut d with
    | none => rfl
    | some p => obtain ⟨a, b⟩ := p; have := (cut_some e).1; rw [this] at hd; simp at hd
  induction h with
  | nil => show cut (49 :: d) = _; unfold cut; rw [hn]; rfl
  | cons c h ih => show cut (c :: (h ++ 49 :: d)) = _; unfold cut; rw [ih]
theorem cut_no {l : List Nat} (h : 49 ∉ l) : cut l = none := by
  cases e : cut l with
  | none => rfl
  | some p => obtain ⟨a, b⟩ := p; have := (cut_some e).1; rw [this] at h; simp at h

abbrev one : Str := Str.ofString "1"
theorem one_is : one = ⟨#[49]⟩ := rfl
def posM : Option (List Nat × List Nat) → Int
  | some (h, _) => (h.length : Int)
  | none => -1
theorem rfind_cut (l : List Nat) : Txt.rfind (S l) one = posM (cut l) := by
  have at_iff : ∀ i, StrLaws.At (S l) one (S l).length i ↔ l[i]? = some 49 := fun i => by
    have := StrLaws.subAt_one (S l) 49 i
    rw [S_toList] at this
    exact this
  unfold Txt.rfind
  rcases StrLaws.last_spec (S l) one with ⟨e, hn⟩ | ⟨i, e, ha, hk⟩
  · rw [e]
    have : 49 ∉ l := fun hm => by
      obtain ⟨i, hi, he⟩ := List.mem_iff_getElem.mp hm
      exact hn i ((at_iff i).mpr (by rw [List.getElem?_eq_getElem hi, he]))
    rw [cut_no this]; try rfl
  · rw [e]
    have hi := (at_iff i).mp ha
    have hlt := (List.getElem?_eq_some_iff.mp hi).1
    have hs : l = l.take i ++ 49 :: l.drop (i + 1) := by
      conv => lhs; rw [← List.take_append_drop i l]
      rw [List.drop_eq_getElem_cons hlt]
      rw [(List.getElem?_eq_some_iff.mp hi).2]
    have hd : 49 ∉ l.drop (i + 1) := fun hm => by
      obtain ⟨j, hj, he⟩ := List.mem_iff_getElem.mp hm
      refine hk (i + 1 + j) (by omega) ((at_iff _).mpr ?_)
      have hj' : i + 1 + j < l.length := by rw [List.length_drop] at hj; omega
      rw [List.getElem_drop] at he
      rw [List.getElem?_eq_getElem hj', he]
    have := cut_eq (h := l.take i) hd
    rw [← hs] at this
    rw [this]
    show ((i : Nat) : Int) = ((l.take i).length : Nat)
    rw [List.length_take, Nat.min_eq_left (Nat.le_of_lt hlt)]

theorem join_snoc (a : Str) : ∀ (l : List Str), l ≠ [] → Str.join one (l ++ [a]) = Str.join one l ++ one ++ a
  | [], h => absurd rfl h
  | [x], _ => rfl
  | x :: y :: r, _ => by
    have ih := join_snoc a (y :: r) (by simp)
    show x ++ one ++ Str.join one ((y :: r) ++ [a]) = x ++ one ++ Str.join one (y :: r) ++ one ++ a
    rw [ih]
    simp only [Str.append_assoc]
/-- split and join, read by the last '1' -/
theorem split_cut (l : List Nat) : ∃ ps p, Txt.split (S l) one = ps ++ [p] ∧ (match cut l with | some (h, d) => ps ≠ [] ∧ Txt.join one ps = S h ∧ p = S d | none => ps = [] ∧ p = S l) := by
  have hj := StrLaws.join_split (S l) one
  have hf := StrLaws.split_free (S l) 49
  have hne : Txt.split (S l) one ≠ [] := fun e => by have := split_pos (S l) one; rw [e] at this; cases this
  obtain ⟨ps, p, hp⟩ : ∃ ps p, Txt.split (S l) one = ps ++ [p] := ⟨_, _, (List.dropLast_concat_getLast hne).symm⟩
  refine ⟨ps, p, hp, ?_⟩
  have hpf : 49 ∉ p.cps.toList := hf p (by rw [← one_is, hp]; simp)
  rw [hp] at hj
  cases hps : ps with
  | nil =>
    subst hps
    have e : p = S l := hj
    have : 49 ∉ l := by rw [e, S_toList] at hpf; exact hpf
    rw [cut_no this]; try rfl
    exact ⟨rfl, e⟩
  | cons q r =>
    rw [← hps]
    have hne' : ps ≠ [] := by rw [hps]; simp
    rw [join_snoc p ps hne'] at hj
    have e : l = (Str.join one ps).cps.toList ++ 49 :: p.cps.toList := by
      have := congrArg (fun x : Str => x.cps.toList) hj
      simp only [Str.cps_append, Array.toList_append, S_toList] at this
      rw [← this]
      simp [one_is]
    rw [e, cut_eq hpf]
    refine ⟨hne', ?_, S_list p⟩
    rw [← S_list]
    exact StrLaws.glued_eq_join one ps

/-! ### the answer of both readers -/
def okC (c : Nat) : Bool := decide (33 ≤ c) && decide (c ≤ 126)
def isLow (c : Nat) : Bool := decide (97 ≤ c) && decide (c ≤ 122)
def isUp (c : Nat) : Bool := decide (65 ≤ c) && decide (c ≤ 90)
def nothing : PyData := .tuple [.none, .none, .none]
def found (p : Nat) (h : List Nat) (ds : List Nat) : PyData :=
  match encOf p with
  | .none => nothing
  | e => .tuple [e, .str (S h), .list (intsD (NI (ds.take (ds.length - 6))))]
def bechC (h d : List Nat) : PyData :=
  if h = [] ∨ d.length < 6 ∨ ¬ (∀ c ∈ d, c ∈ csetL) then nothing else found (polyN (expandN (S h) ++ d.map idx)) h (d.map idx)
def bechM : Option (List Nat × List Nat) → PyData
  | none => nothing
  | some (h, d) => bechC h d
def bechN (l : List Nat) : PyData :=
  if 90 < l.length ∨ l.all okC = false ∨ (l.any isLow = true ∧ l.any isUp = true) then nothing else
  bechM (cut (l.map lo1))
theorem slice_to {l : List Nat} {p : Nat} (h : p ≤ l.length) : Txt.slice (S l) none (some (p : Int)) = S (l.take p) := by
  rw [slice_nat, StrLaws.sliceText_to ⟨by omega, by rw [S_toList]; omega⟩]
  simp [S]
theorem slice_from {l : List Nat} {p : Nat} (h : p ≤ l.length) : Txt.slice (S l) (some (p : Int)) none = S (l.drop p) := by
  rw [slice_nat, StrLaws.sliceText_from ⟨by omega, by rw [S_toList]; omega⟩]
  rw [S_toList, Int.toNat_natCast, List.take_of_length_le]
  rw [List.length_drop]; omega
theorem lower_S {l : List Nat} (h : ∀ c ∈ l, c < 128) : Txt.lower (S l) = S (l.map lo1) := by
  rw [lower_ascii (by rw [S_toList]; exact h)]; simp [S]
theorem upper_S {l : List Nat} (h : ∀ c ∈ l, c < 128) : Txt.upper (S l) = S (l.map up1) := by
  rw [upper_ascii (by rw [S_toList]; exact h)]; simp [S]
theorem ok_lt {l : List Nat} (h : l.all okC = true) : ∀ c ∈ l, c < 128 := fun c hc => by
  have := List.all_eq_true.mp h c hc
  simp [okC] at this
  omega
theorem low_ne {l : List Nat} : (l.map lo1 ≠ l) ↔ l.any isUp = true := by
  constructor
  · intro h
    cases e : l.any isUp with
    | true => rfl
    | false =>
      exfalso; apply h
      rw [List.any_eq_false] at e
      conv => rhs; rw [← List.map_id l]
      refine List.map_congr_left fun c hc => ?_
      have := e c hc
      simp [isUp] at this
      show lo1 c = c
      unfold lo1
      rw [if_neg (by omega)]
  · intro h e
    obtain ⟨c, hc, hu⟩ := List.any_eq_true.mp h
    obtain ⟨i, hi, rfl⟩ := List.mem_iff_getElem.mp hc
    have h1 : (l.map lo1)[i]? = l[i]? := by rw [e]
    rw [List.getElem?_map, List.getElem?_eq_getElem hi] at h1
    simp [isUp] at hu
    simp [lo1, hu] at h1
theorem up_ne {l : List Nat} : (l.map up1 ≠ l) ↔ l.any isLow = true := by
  constructor
  · intro h
    cases e : l.any isLow with
    | true => rfl
    | false =>
      exfalso; apply h
      rw [List.any_eq_false] at e
      conv => rhs; rw [← List.map_id l]
      refine List.map_congr_left fun c hc => ?_
      have := e c hc
      simp [isLow] at this
      show up1 c = c
      unfold up1
      rw [if_neg (by omega)]
  · intro h e
    obtain ⟨c, hc, hu⟩ := List.any_eq_true.mp h
    obtain ⟨i, hi, rfl⟩ := List.mem_iff_getElem.mp hc
    have h1 : (l.map up1)[i]? = l[i]? := by rw [e]
    rw [List.getElem?_map, List.getElem?_eq_getElem hi] at h1
    simp [isLow] at hu
    simp [up1, hu] at h1
    omega
end Bx
end

section
open PySem PySem.W PyProof.Rows PySem.Calls PySem.Spec
set_option autoImplicit false
set_option maxRecDepth 20000
set_option maxHeartbeats 4000000
namespace Bx
section
variable {G : Gl} {R : Bool} {k : Nat} {env : Env} {ρ : Rho}
theorem chars_any {l : List Nat} (t : Nat → Bool) : (chars (S l)).any (tS t) = l.any t := by
  unfold chars; rw [S_toList, List.any_map]; rfl
theorem chars_all {l : List Nat} (t : Nat → Bool) : (chars (S l)).all (tS t) = l.all t := by
  unfold chars; rw [S_toList, List.all_map]; rfl
theorem c_eqs {a b : Str} : Op2 G R k (compareOp .Eq) (.str a) (.str b) (.bool (a == b)) := fun A s _ _ _ _ p r1 r2 => by cases r1; cases r2; exact PyProof.Rows.eq_str (bRep p)
theorem c_nes {a b : Str} : Op2 G R k (compareOp .NotEq) (.str a) (.str b) (.bool (a != b)) := fun A s _ _ _ _ p r1 r2 => by cases r1; cases r2; exact PyProof.Rows.ne_str (bRep p)
/-- if t: return ..; the rest -/
theorem ex_ifret {test : Expr} {body rest : List Stmt} {pos : Pos} {b : Bool} {d : PyData} (h : Tr G R k env ρ test b) (h1 : b = true → Ex G R k env ρ body (.ret d)) (h2 : b = false → Ex G R k env ρ rest (.ret d)) : Ex G R k env ρ (.If test body [] pos :: rest) (.ret d) := by
  cases b with
  | true => exact ex_last (ex_if h h1 (fun e => by cases e))
  | false => exact ex_cons (ex_if h (fun e => by cases e) (fun _ => ex_nil)) (h2 rfl)
theorem ev_nothing {pos p1 p2 p3 : Pos} {u u1 u2 u3 : Nat} (hs : ∀ e ∈ [Expr.Constant .none u1 p1], True) (h1 : starEach [.Constant .none u1 p1, .Constant .none u2 p2, .Constant .none u3 p3] env = (false, eval (.Constant .none u1 p1) env) :: starEach [.Constant .none u2 p2, .Constant .none u3 p3] env := by rfl) (h2 : starEach [.Constant .none u2 p2, .Constant .none u3 p3] env = (false, eval (.Constant .none u2 p2) env) :: starEach [.Constant .none u3 p3] env := by rfl) (h3 : starEach [.Constant .none u3 p3] env = (false, eval (.Constant .none u3 p3) env) :: starEach [] env := by rfl) :
    Ev G R k env ρ (.Tuple [.Constant .none u1 p1, .Constant .none u2 p2, .Constant .none u3 p3] u pos) nothing := ev_tuple (ds := [.none, .none, .none]) (evl_cons ev_none (evl_cons ev_none (evl_cons ev_none evl_nil h3) h2) h1) (by show 3 ≤ sizeLine; decide)

theorem Ex1.retag {st : Stmt} {ρ' : Rho} {y : Str} {d d' : PyData} (h : Ex1 G R k env ρ st (.next ((y, d) :: ρ'))) (e : d = d') : Ex1 G R k env ρ st (.next ((y, d') :: ρ')) := e ▸ h
theorem Ex1.conv {st : Stmt} {ρ' ρ'' : Rho} (h : Ex1 G R k env ρ st (.next ρ')) (e : ρ' = ρ'') : Ex1 G R k env ρ st (.next ρ'') := e ▸ h
theorem any_notok (l : List Nat) : (l.any fun c => decide ((c : Int) < 33) || decide ((126 : Int) < (c : Int))) = !(l.all okC) := by
  rw [List.not_all_eq_any_not]
  congr 1
  funext c
  rw [Bool.eq_iff_iff]
  simp [okC]
  omega
theorem neS {a b : List Nat} : (S a != S b) = decide (a ≠ b) := by
  rw [Bool.eq_iff_iff]
  simp
theorem c_bdecode {l : List Nat} (hl : l.length ≤ 1000) : CallsTo G true (k + 3) 10 [.str (S l)] (bechN l) := by
  refine calls_of (by rfl) (by decide) (by decide) (fun pm cd doc vs hl => ?_) (by rfl) (by rfl) (fun L a cd hcd => ?_)
  · match vs, hl with
    | [v], _ => rfl
  · obtain rfl := hcd rfl
    have hlow : (Txt.lower (S l)).length ≤ 1000000 := Nat.le_trans (len_lower _) (by rw [S_len]; omega)
    have hupp : (Txt.upper (S l)).length ≤ 1000000 := Nat.le_trans (len_upper _) (by rw [S_len]; omega)
    refine ex_ifret (b := !(l.all okC) || (l.any isUp && l.any isLow)) (tr_or (a := !(l.all okC)) (Tr.conv (tr_val (ev_any (x := S l) (tS fun c => decide ((c : Int) < 33) || decide ((126 : Int) < (c : Int))) (by rfl) (by rfl) (by rfl) (by rfl) (by decide) (by decide) (by rfl) (by decide) (by rfl) (by rfl) lv (Nat.succ_pos _) (fun v => by rfl) (fun C code d hd => ?_) (by rfl)) (by rfl) (by rfl)) ?_) (fun hok => tr_and (a := l.any isUp) (b := l.any isLow) (Tr.conv (tr_cmp (e_lower lv hlow) lv c_nes (by rfl)) ?_) (fun _ => Tr.conv (tr_cmp (e_upper lv hupp) lv c_nes (by rfl)) ?_))) (fun h => ?_) (fun h => ?_)
    · obtain ⟨c, _, rfl⟩ := mem_chars hd
      refine Ev.conv (ev_or (ev_cmp (e_ord lv) ev_int c_lt (by rfl)) (by rfl) (fun _ => ev_cmp (e_ord lv) ev_int c_gt (by rfl))) ?_
      show (if decide ((c : Int) < 33) = true then PyData.bool (decide ((c : Int) < 33)) else .bool (decide ((126 : Int) < (c : Int)))) = .bool (decide ((c : Int) < 33) || decide ((126 : Int) < (c : Int)))
      cases decide ((c : Int) < 33) <;> rfl
    · show ((chars (S l)).any _) = _
      rw [chars_any, any_notok]
    · have hok' : l.all okC = true := by simpa using hok
      rw [lower_S (ok_lt hok'), neS, Bool.eq_iff_iff, decide_eq_true_iff, low_ne]
    · have hok' : l.all okC = true := by simpa using hok
      rw [upper_S (ok_lt hok'), neS, Bool.eq_iff_iff, decide_eq_true_iff, up_ne]
    · have e : bechN l = nothing := by
        unfold bechN
        rw [if_pos]
        simp only [Bool.or_eq_true, Bool.not_eq_true', Bool.and_eq_true] at h
        rcases h with h | h
        · exact .inr (.inl h)
        · exact .inr (.inr ⟨h.2, h.1⟩)
      rw [e]
      exact ex_last (ex_return (ev_nothing (fun _ _ => trivial)))
    · have hok' : l.all okC = true := by cases e : l.all okC <;> rw [e] at h <;> simp at h ⊢
      have hmix : ¬ (l.any isLow = true ∧ l.any isUp = true) := by
        intro hm; rw [hm.1, hm.2] at h; simp at h
      refine ex_cons (ex_assign (d := .str (S (l.map lo1))) (Ev.conv (e_lower lv hlow) (by rw [lower_S (ok_lt hok')])) (.inl (by rfl)) (by rfl)) ?_
      have hN : bechN l = if 90 < l.length then nothing else bechM (cut (l.map lo1)) := by
        unfold bechN
        by_cases h90 : 90 < l.length
        · rw [if_pos (.inl h90), if_pos h90]
        · rw [if_neg (by rintro (h | h | h); exact h90 h; rw [hok'] at h; cases h; exact hmix h), if_neg h90]
      rw [hN]
      have hlen : (l.map lo1).length = l.length := by simp
      rw [← hlen]
      have hl' : (l.map lo1).length ≤ 1000 := by omega
      clear hN hmix h hlow hupp
      have hlt : ∀ c ∈ l.map lo1, c < 128 := by
        intro c hc
        obtain ⟨c', hc', rfl⟩ := List.mem_map.mp hc
        have := List.all_eq_true.mp hok' c' hc'
        simp [okC] at this
        unfold lo1; split <;> omega
      clear hok'
      generalize l.map lo1 = m at *
      refine ex_cons (ex_assign (d := .int (posM (cut m))) (Ev.conv (e_rfind lv ev_str) (congrArg PyData.int (rfind_cut m))) (.inl (by rfl)) (by rfl)) ?_
      have ts : ∀ ρ' : Rho, True := fun _ => trivial
      have hcs : ∀ {ρ : Rho}, True := trivial
      cases hc : cut m with
      | none =>
        have e : (if 90 < m.length then nothing else bechM none) = nothing := by split <;> rfl
        rw [e]
        refine ex_ifret (b := true) (Tr.conv (tr_or3 (a := true) (b := true) (c := true) (Tr.conv (tr_cmp lv ev_int c_lt (by rfl)) (by rfl)) (fun h => by cases h) (fun h => by cases h)) (by rfl)) (fun _ => ?_) (fun h => by cases h)
        exact ex_last (ex_return (ev_nothing (fun _ _ => trivial)))
      | some p =>
        obtain ⟨h, d⟩ := p
        obtain ⟨hm, hd⟩ := cut_some hc
        have hml : m.length = h.length + 1 + d.length := by rw [hm]; simp; omega
        have hml62 : (S m).length < 2 ^ 62 := by rw [S_len]; omega
        refine ex_ifret (b := decide ((h.length : Int) < 1) || decide ((m.length : Int) < (h.length : Int) + 7) || decide ((90 : Int) < (m.length : Int))) (tr_or3 (tr_cmp lv ev_int c_lt (by rfl)) (fun _ => tr_cmp (bo lv ev_int o_add) ((e_lenS lv hml62).conv (by rw [S_len])) c_gt (by rfl)) (fun _ _ => tr_cmp ((e_lenS lv hml62).conv (by rw [S_len])) ev_int c_gt (by rfl))) (fun hb => ?_) (fun hb => ?_)
        · have e : (if 90 < m.length then nothing else bechM (some (h, d))) = nothing := by
            by_cases h90 : 90 < m.length
            · rw [if_pos h90]
            · rw [if_neg h90]
              show bechC h d = nothing
              unfold bechC
              rw [if_pos]
              simp only [Bool.or_eq_true, decide_eq_true_iff] at hb
              rcases hb with (hb | hb) | hb
              · left; exact List.eq_nil_of_length_eq_zero (by omega)
              · right; left; omega
              · omega
          rw [e]
          exact ex_last (ex_return (ev_nothing (fun _ _ => trivial)))
        · simp only [Bool.or_eq_false_iff, decide_eq_false_iff_not] at hb
          obtain ⟨⟨hb1, hb2⟩, hb3⟩ := hb
          have h90 : ¬ 90 < m.length := by omega
          rw [if_neg h90]
          show Ex G true (k + 2) _ _ _ (.ret (bechC h d))
          have hdrop : m.drop (h.length + 1) = d := by rw [hm]; simp
          have htake : m.take h.length = h := by rw [hm]; simp
          have hsl : (S m).length ≤ sizeLine := by rw [S_len, sizeLine_eq]; omega
          have dslice : ∀ {k : Nat} {ρ : Rho} {vp sp p1 p2 p3 p4 pos : Pos} {u : Nat} (hp : ρ.lookup (Str.ofString "pos") = some (PyData.int (h.length : Int))) (hq : ρ.lookup (Str.ofString "bech") = some (PyData.str (S m))),
              Ev G true k (envOfC (fnName 10) (fnScope 10) L a (Value.ref G.c)) ρ (.Subscript (.Name "bech" vp) (.Slice (some (.BinOp (.Name "pos" p1) .Add (.Constant (.int 1) u p2) p3)) none none sp) pos) (.str (S d)) := by
            intro k ρ vp sp p1 p2 p3 p4 pos u hp hq
            refine Ev.conv (ev_slice_str (lo := some ((h.length : Int) + 1)) (hi := none) (lv (hl := hq)) (bo (lv (hl := hp)) ev_int o_add) trivial hsl) ?_
            have := slice_from (l := m) (p := h.length + 1) (by omega)
            rw [hdrop] at this
            rw [← this]; rfl
          refine ex_ifret (b := !(d.all fun c => decide (c ∈ csetL))) (tr_not (Tr.conv (tr_val (ev_all (x := S d) (tS fun c => decide (c ∈ csetL)) (by rfl) (by rfl) (by rfl) (by rfl) (by decide) (by decide) (by rfl) (by decide) (by rfl) (by rfl) (dslice (p4 := default) (by rfl) (by rfl)) (Nat.succ_pos _) (fun v => by rfl) (fun C code e he => ?_) (by rfl)) (by rfl) (by rfl)) ?_)) (fun hb => ?_) (fun hb => ?_)
          · obtain ⟨c, _, rfl⟩ := mem_chars he
            exact Ev.conv (ev_cmp lv k_CHARSET c_inStr (by rfl)) (congrArg PyData.bool (contains_cset c))
          · show ((chars (S d)).all _) = _
            rw [chars_all]
          · have e : bechC h d = nothing := by
              unfold bechC
              rw [if_pos]
              right; right
              intro hall
              rw [Bool.not_eq_true', List.all_eq_false] at hb
              obtain ⟨c, hc, hn⟩ := hb
              exact hn (by simpa using hall c hc)
            rw [e]
            exact ex_last (ex_return (ev_nothing (fun _ _ => trivial)))
          · have hall : ∀ c ∈ d, c ∈ csetL := by
              intro c hc
              rw [Bool.not_eq_false', List.all_eq_true] at hb
              simpa using hb c hc
            have hbe : bechC h d = found (polyN (expandN (S h) ++ d.map idx)) h (d.map idx) := by
              unfold bechC
              rw [if_neg]
              rintro (h1 | h1 | h1)
              · rw [h1] at hb1; simp at hb1
              · omega
              · exact h1 hall
            rw [hbe]
            refine ex_cons (ex_assign (d := .str (S h)) (Ev.conv (ev_slice_str (lo := none) (hi := some (h.length : Int)) lv trivial lv hsl) ?_) (.inl (by rfl)) (by rfl)) ?_
            · have := slice_to (l := m) (p := h.length) (by omega)
              rw [htake] at this
              rw [this]
            have hdl : (S d).length ≤ sizeLine := by rw [S_len, sizeLine_eq]; omega
            refine ex_cons (Ex1.retag (d' := .list (intsD (NI (d.map idx)))) (ex_assign_compS (x := S d) (fun c => .int (idx c : Int)) (cap0 (by rfl) (by decide) (by decide) (by rfl) (by decide) (by decide) (by rfl)) (by rfl) (by rfl) (dslice (p4 := default) (by rfl) (by rfl)) hdl (fun C c hcm => Ev.conv (e_find k_CHARSET lv) ?_) (fun c hcm => rfl) (fun v => by rfl) (by rfl)) ?_) ?_
            · rw [S_toList] at hcm
              rw [(find_in c (hall c hcm)).1]
            · rw [S_toList]
              simp only [NI, intsD, List.map_map]; rfl
            have hver := (c_verify (G := G) (k := k) (x := S h) (ds := d.map idx) (by rw [S_len]; omega) (by rw [List.length_map]; omega)).lift (R := true)
            refine ex_cons (ex_assign (d := verN (S h) (d.map idx)) (e_call2 7 lv lv hver (Nat.le_refl _)) (.inl (by rfl)) (by rfl)) ?_
            unfold verN found
            generalize polyN (expandN (S h) ++ d.map idx) = p
            have hlen6 : 6 ≤ (d.map idx).length := by rw [List.length_map]; omega
            have hdsl : (d.map idx).length ≤ 1000 := by rw [List.length_map]; omega
            generalize d.map idx = ds at *
            have ret : ∀ {k : Nat} {n : Int} {ρ : Rho} {p1 p2 p3 p4 p5 p6 p7 pos : Pos} {u u1 : Nat} (he : ρ.lookup (Str.ofString "encoding") = some (PyData.int n)) (hh : ρ.lookup (Str.ofString "hrp") = some (PyData.str (S h))) (hd : ρ.lookup (Str.ofString "data") = some (PyData.list (intsD (NI ds)))),
                Ev G true k (envOfC (fnName 10) (fnScope 10) L a (Value.ref G.c)) ρ (.Tuple [.Name "encoding" p1, .Name "hrp" p2, .Subscript (.Name "data" p3) (.Slice none (some (.UnaryOp .USub (.Constant (.int 6) u p4) p5)) none p6) p7] u1 pos) (.tuple [.int n, .str (S h), .list (intsD (NI (ds.take (ds.length - 6))))]) := by
              intro k n ρ p1 p2 p3 p4 p5 p6 p7 pos u u1 he hh hd'
              refine ev_tuple (evl_cons (lv (hl := he)) (evl_cons (lv (hl := hh)) (evl_cons (Ev.conv (ev_slice_list (lo := none) (hi := some (-6)) (lv (hl := hd')) trivial (ev_unary ev_int o_neg) ?_) ?_) evl_nil (by rfl)) (by rfl)) (by rfl)) (by show 3 ≤ sizeLine; decide)
              · rw [intsD_len, NI_len, sizeLine_eq]; omega
              · have := pick_negto (intsD (NI ds)) (a := 6) (by decide)
                refine congrArg PyData.list ?_
                show pickD (intsD (NI ds)) none (some (-((6 : Nat) : Int))) = _
                rw [this, intsD_len, NI_len]
                simp only [NI, intsD, List.map_take]
            by_cases h1 : p = 1
            · rw [show encOf p = .int 1 from by rw [encOf, if_pos h1]]
              refine ex_ifret (b := false) (tr_cmp lv ev_none (c_is (.inr (.inl ⟨_, rfl⟩))) (by rfl)) (fun e => by cases e) (fun _ => ?_)
              exact ex_last (ex_return (ret (by rfl) (by rfl) (by rfl)))
            · by_cases h2 : p = 734539939
              · rw [show encOf p = .int 2 from by rw [encOf, if_neg h1, if_pos h2]]
                refine ex_ifret (b := false) (tr_cmp lv ev_none (c_is (.inr (.inl ⟨_, rfl⟩))) (by rfl)) (fun e => by cases e) (fun _ => ?_)
                exact ex_last (ex_return (ret (by rfl) (by rfl) (by rfl)))
              · rw [show encOf p = .none from by rw [encOf, if_neg h1, if_neg h2]]
                refine ex_ifret (b := true) (tr_cmp lv ev_none (c_is (.inl rfl)) (by rfl)) (fun _ => ?_) (fun e => by cases e)
                exact ex_last (ex_return (ev_nothing (fun _ _ => trivial)))
end
end Bx
end

section
open PySem PySem.W PyProof.Rows PySem.Calls PySem.Spec
set_option autoImplicit false
set_option maxRecDepth 20000
namespace Bx
def oneN : List Nat := [0, 0, 0, 0, 0, 1]
def otherN : List Nat := [21, 28, 16, 12, 5, 3]
theorem fold_pack : ∀ {l : List Nat} {s : List Nat}, Six s → (∀ v ∈ l, v < 32) → l.foldl pstep (pack s) = pack (l.foldl rstep s)
  | [], _, _, _ => rfl
  | v :: l, s, h, hl => by
    rw [List.foldl_cons, List.foldl_cons, step_pack h (hl v (.head _))]
    exact fold_pack (rstep_six h (hl v (.head _))) fun w hw => hl w (.tail _ hw)
theorem poly_rest {x : Str} {ds : List Nat} (h : ∀ c ∈ x.cps.toList, c < 1024) (hd : ∀ n ∈ ds, n < 32) : polyN (expandN x ++ ds) = pack (restN x ds) :=
  fold_pack (s := rest0) six0 fun v hv => (List.mem_append.mp hv).elim (expand_lt h v) (hd v)
theorem pack_inj {s t : List Nat} (hs : Six s) (ht : Six t) (h : pack s = pack t) : s = t := by
  obtain ⟨hl, hs⟩ := hs
  obtain ⟨hl', ht⟩ := ht
  match s, hl, t, hl' with
  | [a, b, c, d, e, f], _, [a', b', c', d', e', f'], _ =>
    simp only [pack, List.foldl_cons, List.foldl_nil] at h
    simp only [List.mem_cons, List.not_mem_nil, or_false, forall_eq_or_imp, forall_eq] at hs ht
    obtain ⟨h1, h2, h3, h4, h5, h6⟩ := hs
    obtain ⟨g1, g2, g3, g4, g5, g6⟩ := ht
    have e1 : a = a' := by omega
    have e2 : b = b' := by omega
    have e3 : c = c' := by omega
    have e4 : d = d' := by omega
    have e5 : e = e' := by omega
    have e6 : f = f' := by omega
    rw [e1, e2, e3, e4, e5, e6]
theorem rest_one {x : Str} {ds : List Nat} (h : ∀ c ∈ x.cps.toList, c < 1024) (hd : ∀ n ∈ ds, n < 32) : restN x ds = oneN ↔ polyN (expandN x ++ ds) = 1 := by
  rw [poly_rest h hd]
  exact ⟨fun e => by rw [e]; rfl, fun e => pack_inj (restN_six h hd) ⟨rfl, by decide⟩ (e.trans rfl)⟩
theorem rest_other {x : Str} {ds : List Nat} (h : ∀ c ∈ x.cps.toList, c < 1024) (hd : ∀ n ∈ ds, n < 32) : restN x ds = otherN ↔ polyN (expandN x ++ ds) = 734539939 := by
  rw [poly_rest h hd]
  exact ⟨fun e => by rw [e]; rfl, fun e => pack_inj (restN_six h hd) ⟨rfl, by decide⟩ (e.trans rfl)⟩
end Bx
end

section
open PySem PySem.W PyProof.Rows PySem.Calls PySem.Spec
set_option autoImplicit false
set_option maxRecDepth 20000
set_option maxHeartbeats 600000
namespace Bx
section
variable {G : Gl} {R : Bool} {k : Nat} {env : Env} {ρ : Rho}
theorem les_lo (a c : Nat) : (!(decide ((⟨#[c]⟩ : Str).cps.toList < (⟨#[a]⟩ : Str).cps.toList))) = decide (a ≤ c) := by
  show (!(decide ([c] < [a]))) = _
  rw [StrLaws.lt_cons_cons, StrLaws.lt_nil_nil]
  rw [Bool.eq_iff_iff]; simp
theorem lay_i (a : Int) : (PyData.int a).canLay0 = true := by simp [PyData.canLay0]
theorem lay_ints (l : List Int) : PyData.canLayAll0 (intsD l) = true := by
  unfold intsD
  induction l with
  | nil => simp [PyData.canLayAll0]
  | cons a l ih => simp [PyData.canLayAll0, PyData.canLay0, ih]
theorem depth_ints (l : List Int) : PyData.depthAll (intsD l) = 0 := by
  unfold intsD
  induction l with
  | nil => simp [PyData.depthAll]
  | cons a l ih => simp [PyData.depthAll, PyData.depth, ih]
theorem lay_t (l : List Int) : (PyData.tuple (intsD l)).canLay0 = true := by simp [PyData.canLay0, lay_ints]
theorem c_eqT (h0k : 0 < k) {a b : List Nat} : Op2 G R k (compareOp .Eq) (.tuple (intsD (NI a))) (.tuple (intsD (NI b))) (.bool (decide (a = b))) :=
  (c_eqv h0k (lay_t _) (lay_t _) (by simp [PyData.depth, depth_ints])).conv (by
    congr 1
    rw [PyData.eqv]
    refine (PySem.W.ked_eqvAll _ _).trans ?_
    rw [Bool.eq_iff_iff, decide_eq_true_iff, decide_eq_true_iff]
    exact ⟨fun h => (List.map_inj_right (fun x y e => by exact Int.ofNat.inj e)).mp h, fun h => by rw [h]⟩)
theorem oneN_eq : lawOne = NI oneN := rfl
theorem otherN_eq : lawOther = NI otherN := rfl

theorem c_reader {l : List Nat} (hl : l.length ≤ 1000) : CallsTo G false (k + 3) 22 [.str (S l)] (bechN l) := by
  refine calls_of (by rfl) (by decide) (by decide) (fun pm cd doc vs hl => ?_) (by rfl) (by rfl) (fun L a cd hcd => ?_)
  · match vs, hl with
    | [v], _ => rfl
  · clear hcd
    have hsl : (S l).length ≤ sizeLine := by rw [S_len, sizeLine_eq]; omega
    have hlow : (Txt.lower (S l)).length ≤ 1000000 := Nat.le_trans (len_lower _) (by rw [S_len]; omega)
    have hflen : ∀ t : Nat → Bool, (List.map (fun c => PyData.str ⟨#[c]⟩) ((S l).cps.toList.filter t)).length < 2 ^ 62 := fun t => by
      rw [List.length_map, S_toList]
      exact Nat.lt_of_le_of_lt (List.length_filter_le _ _) (by omega)
    have hfl : ∀ t : Nat → Bool, decide ((0 : Int) < ((List.map (fun c => PyData.str ⟨#[c]⟩) ((S l).cps.toList.filter t)).length : Int)) = l.any t := fun t => by
      rw [List.length_map, S_toList, Bool.eq_iff_iff, decide_eq_true_iff]
      constructor
      · intro h
        have : (l.filter t) ≠ [] := fun e => by rw [e] at h; simp at h
        obtain ⟨c, hc⟩ := List.exists_mem_of_ne_nil _ this
        have := List.mem_filter.mp hc
        exact List.any_eq_true.mpr ⟨c, this.1, this.2⟩
      · intro h
        obtain ⟨c, hc, ht⟩ := List.any_eq_true.mp h
        have := List.length_pos_of_mem (List.mem_filter.mpr ⟨hc, ht⟩)
        omega
    refine ex_cons (ex_assign (d := nothing) (ev_nothing (fun _ _ => trivial)) (.inl (by rfl)) (by rfl)) ?_
    refine ex_ifret (b := decide ((90 : Int) < (l.length : Int)) || l.any fun c => !(decide ((33 : Int) ≤ c) && decide ((c : Int) ≤ 126))) (tr_or (tr_cmp ((e_lenS lv (by rw [S_len]; omega)).conv (by rw [S_len])) ev_int c_gt (by rfl)) (fun _ => Tr.conv (tr_cmp (e_len (ev_compSt (x := S l) (fun c => .str ⟨#[c]⟩) (fun c => !(decide ((33 : Int) ≤ c) && decide ((c : Int) ≤ 126))) (cap0 (by rfl) (by decide) (by decide) (by rfl) (by decide) (by decide) (by rfl)) (by rfl) lv hsl (fun C c hc => tr_not (tr_chain ev_int (e_ord lv) ev_int c_le c_le (by rfl) (by rfl))) (fun C c hc => lv) (fun c hc => rfl) (fun v => by rfl)) (hflen _)) ev_int c_gt (by rfl)) (hfl _))) (fun hb => ?_) (fun hb => ?_)
    · have e : bechN l = nothing := by
        unfold bechN
        rw [if_pos]
        simp only [Bool.or_eq_true, decide_eq_true_iff] at hb
        rcases hb with hb | hb
        · left; omega
        · right; left
          obtain ⟨c, hc, h⟩ := List.any_eq_true.mp hb
          rw [List.all_eq_false]
          refine ⟨c, hc, ?_⟩
          simp [okC] at h ⊢
          omega
      rw [e]
      exact ex_last (ex_return lv)
    · simp only [Bool.or_eq_false_iff, decide_eq_false_iff_not] at hb
      obtain ⟨hb1, hb2⟩ := hb
      have h90 : ¬ 90 < l.length := by omega
      have hok : l.all okC = true := by
        rw [List.all_eq_true]
        intro c hc
        have := List.any_eq_false.mp hb2 c hc
        simp [okC] at this ⊢
        omega
      refine ex_ifret (b := l.any isLow && l.any isUp) (tr_and (a := l.any isLow) (b := l.any isUp)
        (Tr.conv (tr_cmp (e_len (ev_compSt (x := S l) (fun c => .str ⟨#[c]⟩) isLow (cap0 (by rfl) (by decide) (by decide) (by rfl) (by decide) (by decide) (by rfl)) (by rfl) lv hsl (fun C c hc => Tr.conv (tr_chain ev_str lv ev_str c_les c_les (by rfl) (by rfl)) ?_) (fun C c hc => lv) (fun c hc => rfl) (fun v => by rfl)) (hflen _)) ev_int c_gt (by rfl)) (hfl _))
        (fun _ => Tr.conv (tr_cmp (e_len (ev_compSt (x := S l) (fun c => .str ⟨#[c]⟩) isUp (cap0 (by rfl) (by decide) (by decide) (by rfl) (by decide) (by decide) (by rfl)) (by rfl) lv hsl (fun C c hc => Tr.conv (tr_chain ev_str lv ev_str c_les c_les (by rfl) (by rfl)) ?_) (fun C c hc => lv) (fun c hc => rfl) (fun v => by rfl)) (hflen _)) ev_int c_gt (by rfl)) (hfl _))) (fun hm => ?_) (fun hm => ?_)
      · exact congr (congrArg _ (les_lo 97 c)) (les_lo c 122)
      · exact congr (congrArg _ (les_lo 65 c)) (les_lo c 90)
      · have e : bechN l = nothing := by
          unfold bechN
          rw [if_pos]
          simp only [Bool.and_eq_true] at hm
          exact .inr (.inr hm)
        rw [e]
        exact ex_last (ex_return lv)
      · have hN : bechN l = bechM (cut (l.map lo1)) := by
          unfold bechN
          rw [if_neg]
          rintro (h | h | h)
          · exact h90 h
          · rw [hok] at h; cases h
          · rw [h.1, h.2] at hm; cases hm
        rw [hN]
        have hlt : ∀ c ∈ l.map lo1, c < 128 := by
          intro c hc
          obtain ⟨c', hc', rfl⟩ := List.mem_map.mp hc
          have := List.all_eq_true.mp hok c' hc'
          simp [okC] at this
          unfold lo1; split <;> omega
        obtain ⟨ps, q, hsp, hcut⟩ := split_cut (l.map lo1)
        have hmlen : (l.map lo1).length ≤ 90 := by rw [List.length_map]; omega
        have hpl : (strsD (ps ++ [q])).length ≤ 92 := by
          have h1 := split_le (S (l.map lo1)) one
          rw [hsp, S_len] at h1
          rw [strsD, List.length_map]; omega
        refine ex_cons (ex_assign (d := .list (strsD (ps ++ [q]))) (Ev.conv (e_split (x := S (l.map lo1)) (Ev.conv (e_lower lv hlow) (by rw [lower_S (ok_lt hok)])) ev_str (by rfl) (by rw [S_len]; omega)) (by rw [← hsp])) (.inl (by rfl)) (by rfl)) ?_
        have hpre : pickD (strsD (ps ++ [q])) none (some (-1)) = strsD ps := by
          have := pick_negto (strsD (ps ++ [q])) (a := 1) (by decide)
          refine (show _ = _ from this).trans ?_
          simp [strsD]
        have hjl : (ps.map (·.length)).sum + ps.length * one.length ≤ 16777216 := by
          have h1 := split_weight (S (l.map lo1)) one (by decide)
          rw [hsp, S_len] at h1
          simp only [List.map_append, List.sum_append, List.length_append] at h1
          rw [show one.length = 1 from rfl]; omega
        refine ex_cons (ex_assign (d := .str (Txt.join one ps)) (e_join (ys := ps) ev_str (Ev.conv (ev_slice_list (lo := none) (hi := some (-1)) lv trivial (ev_unary ev_int o_neg) (by rw [sizeLine_eq]; omega)) (by rw [hpre])) hjl) (.inl (by rfl)) (by rfl)) ?_
        have hqlt : (strsD (ps ++ [q]))[ps.length]? = some (.str q) := by simp [strsD]
        have hqS : ∃ d, q = S d ∧ d.length ≤ 90 ∧ (∀ c ∈ d, c < 128) ∧ (match cut (l.map lo1) with | some (h, d') => ps ≠ [] ∧ Txt.join one ps = S h ∧ d = d' ∧ h ++ 49 :: d' = l.map lo1 | none => ps = []) := by
          cases hc : cut (l.map lo1) with
          | none =>
            rw [hc] at hcut
            exact ⟨l.map lo1, hcut.2, hmlen, hlt, hcut.1⟩
          | some p =>
            obtain ⟨h, d'⟩ := p
            rw [hc] at hcut
            obtain ⟨e, _⟩ := cut_some hc
            refine ⟨d', hcut.2.2, ?_, ?_, hcut.1, hcut.2.1, rfl, e.symm⟩
            · rw [e] at hmlen; simp at hmlen; omega
            · intro c hc'
              exact hlt c (by rw [e]; simp [hc'])
        obtain ⟨d, rfl, hd90, hd128, hcase⟩ := hqS
        clear hcut hN
        have hds : (S d).length ≤ sizeLine := by rw [S_len, sizeLine_eq]; omega
        refine ex_cons (ex_assign_compS (x := S d) (fun c => .int (Txt.find cset ⟨#[c]⟩)) (cap0 (by rfl) (by decide) (by decide) (by rfl) (by decide) (by decide) (by rfl)) (by rfl) (by rfl) (ev_item_list (i := -1) lv (ev_unary ev_int o_neg) ⟨?_, ?_⟩ (by omega) (fun _ _ => by rfl)) hds (fun C c hcm => e_find k_law_set lv) (fun c hcm => rfl) (fun v => by rfl) (by rfl)) ?_
        · rw [if_pos (by decide)]; simp [strsD]; try omega
        · rw [if_pos (by decide)]
          have : ((-1 : Int) + ((strsD (ps ++ [S d])).length : Int)).toNat = ps.length := by simp [strsD]; omega
          rw [this]; exact hqlt
        rw [S_toList]
        have hsyl : (List.map (fun c => PyData.int (Txt.find cset ⟨#[c]⟩)) d).length < 2 ^ 62 := by rw [List.length_map]; omega
        have hints : List.map (fun c => PyData.int (Txt.find cset ⟨#[c]⟩)) d = intsD (d.map fun c => Txt.find cset ⟨#[c]⟩) := by simp [intsD]
        have hin : (List.any (List.map (fun c => PyData.int (Txt.find cset ⟨#[c]⟩)) d) fun y => PyData.eqv y (.int (-1))) = !(d.all fun c => decide (c ∈ csetL)) := by
          rw [List.any_map, List.not_all_eq_any_not]
          congr 1
          funext c
          show PyData.eqv (.int (Txt.find cset ⟨#[c]⟩)) (.int (-1)) = !decide (c ∈ csetL)
          rw [PyData.eqv]
          by_cases hc : c ∈ csetL
          · rw [(find_in c hc).1]; simp [hc]
          · rw [find_out hc]; simp [hc]
        refine ex_ifret (b := (Txt.join one ps == Str.ofString "") || decide ((d.length : Int) < 6) || !(d.all fun c => decide (c ∈ csetL))) (tr_or3 (tr_cmp lv ev_str c_eqs (by rfl)) (fun _ => (tr_cmp (e_len lv hsyl) ev_int c_lt (by rfl)).conv (by rw [List.length_map])) (fun _ _ => (tr_cmp (ev_unary ev_int o_neg) lv (c_in (Nat.succ_pos _) (by rw [hints]; exact lay_ints _) (lay_i _) (by simp [PyData.depth])) (by rfl)).conv hin)) (fun hb => ?_) (fun hb => ?_)
        · have e : bechM (cut (l.map lo1)) = nothing := by
            cases hc : cut (l.map lo1) with
            | none => rfl
            | some p =>
              obtain ⟨h, d'⟩ := p
              rw [hc] at hcase
              obtain ⟨_, hj, rfl, _⟩ := hcase
              rw [hj] at hb
              show bechC h d = nothing
              unfold bechC
              rw [if_pos]
              simp only [Bool.or_eq_true, decide_eq_true_iff] at hb
              rcases hb with (hb | hb) | hb
              · left
                have : S h = S [] := (beq_iff_eq.mp hb).trans rfl
                exact S_inj this
              · right; left; omega
              · right; right
                intro hall
                rw [Bool.not_eq_true', List.all_eq_false] at hb
                obtain ⟨c, hc, hn⟩ := hb
                exact hn (by simpa using hall c hc)
          rw [e]
          exact ex_last (ex_return lv)
        · simp only [Bool.or_eq_false_iff, decide_eq_false_iff_not] at hb
          obtain ⟨⟨hb1, hb2⟩, hb3⟩ := hb
          have hall : ∀ c ∈ d, c ∈ csetL := by
            intro c hc
            rw [Bool.not_eq_false', List.all_eq_true] at hb3
            simpa using hb3 c hc
          have hmapN : List.map (fun c => PyData.int (Txt.find cset ⟨#[c]⟩)) d = intsD (NI (d.map idx)) := by
            rw [hints]
            refine congrArg intsD ?_
            rw [NI, List.map_map]
            exact List.map_congr_left fun c hc => (find_in c (hall c hc)).1
          have h32 : ∀ n ∈ d.map idx, n < 32 := by
            intro n hn
            obtain ⟨c, hc, rfl⟩ := List.mem_map.mp hn
            exact (find_in c (hall c hc)).2
          cases hc : cut (l.map lo1) with
          | none =>
            rw [hc] at hcase
            have : ps = [] := hcase
            rw [this] at hb1
            exact absurd hb1 (by decide)
          | some p =>
            obtain ⟨h, d'⟩ := p
            rw [hc] at hcase
            obtain ⟨_, hj, rfl, hm⟩ := hcase
            rw [hj] at hb1 ⊢
            have hhl : h.length ≤ 90 := by rw [← hm] at hmlen; simp at hmlen; omega
            have hh128 : ∀ c ∈ (S h).cps.toList, c < 1024 := by
              rw [S_toList]; intro c hc'
              have := hlt c (by rw [← hm]; simp [hc'])
              omega
            have hbe : bechM (some (h, d)) = found (polyN (expandN (S h) ++ d.map idx)) h (d.map idx) := by
              show bechC h d = _
              unfold bechC
              rw [if_neg]
              rintro (h1 | h1 | h1)
              · rw [h1] at hb1; exact absurd hb1 (by decide)
              · omega
              · exact h1 hall
            rw [hbe, hmapN]
            have hdl : (d.map idx).length ≤ 90 := by rw [List.length_map]; exact hd90
            have r1 := rest_one (x := S h) hh128 h32
            have r2 := rest_other (x := S h) hh128 h32
            have hrest := c_rest (G := G) (k := k) (x := S h) (ds := d.map idx) (by rw [S_len]; omega) (by omega) hh128 h32
            have hlen6 : 6 ≤ (d.map idx).length := by rw [List.length_map]; omega
            refine ex_cons (ex_assign (d := .tuple (intsD (NI (restN (S h) (d.map idx))))) (e_call2 20 lv lv hrest (by omega)) (.inl (by rfl)) (by rfl)) ?_
            unfold found
            generalize polyN (expandN (S h) ++ d.map idx) = p at *
            generalize restN (S h) (d.map idx) = rr at *
            generalize d.map idx = ds at *
            have ret : ∀ {k : Nat} {n : Int} {ρ : Rho} {e : Expr} {p2 p3 p4 p5 p6 p7 pos : Pos} {u u1 : Nat} (he : Ev G false k (envOfC (fnName 22) (fnScope 22) L a cd) ρ e (.int n)) (hs1 : starEach [e, .Name "hrp" p2, .Subscript (.Name "symbols" p3) (.Slice none (some (.UnaryOp .USub (.Constant (.int 6) u p4) p5)) none p6) p7] (envOfC (fnName 22) (fnScope 22) L a cd) = (false, eval e (envOfC (fnName 22) (fnScope 22) L a cd)) :: starEach [.Name "hrp" p2, .Subscript (.Name "symbols" p3) (.Slice none (some (.UnaryOp .USub (.Constant (.int 6) u p4) p5)) none p6) p7] (envOfC (fnName 22) (fnScope 22) L a cd)) (hh : ρ.lookup (Str.ofString "hrp") = some (PyData.str (S h))) (hd : ρ.lookup (Str.ofString "symbols") = some (PyData.list (intsD (NI ds)))),
                Ev G false k (envOfC (fnName 22) (fnScope 22) L a cd) ρ (.Tuple [e, .Name "hrp" p2, .Subscript (.Name "symbols" p3) (.Slice none (some (.UnaryOp .USub (.Constant (.int 6) u p4) p5)) none p6) p7] u1 pos) (.tuple [.int n, .str (S h), .list (intsD (NI (ds.take (ds.length - 6))))]) := by
              intro k n ρ e p2 p3 p4 p5 p6 p7 pos u u1 he hs1 hh hd'
              refine ev_tuple (evl_cons he (evl_cons (lv (hl := hh)) (evl_cons (Ev.conv (ev_slice_list (lo := none) (hi := some (-6)) (lv (hl := hd')) trivial (ev_unary ev_int o_neg) ?_) ?_) evl_nil (by rfl)) (by rfl)) hs1) (by show 3 ≤ sizeLine; decide)
              · rw [intsD_len, NI_len, sizeLine_eq]; omega
              · have := pick_negto (intsD (NI ds)) (a := 6) (by decide)
                refine congrArg PyData.list ?_
                show pickD (intsD (NI ds)) none (some (-((6 : Nat) : Int))) = _
                rw [this, intsD_len, NI_len]
                simp only [NI, intsD, List.map_take]
            by_cases h1 : p = 1
            · rw [show encOf p = .int 1 from by rw [encOf, if_pos h1]]
              refine ex_ifret (b := true) (Tr.conv (tr_cmp (d2 := .tuple (intsD (NI oneN))) lv k_law_one (c_eqT (Nat.succ_pos _)) (by rfl)) (by rw [decide_eq_true (r1.mpr h1)])) (fun _ => ?_) (fun e => by cases e)
              exact ex_last (ex_return (ret (ev_enc (.inl ⟨rfl, rfl⟩) (by rfl)) (by rfl) (by rfl) (by rfl)))
            · refine ex_ifret (b := false) (Tr.conv (tr_cmp (d2 := .tuple (intsD (NI oneN))) lv k_law_one (c_eqT (Nat.succ_pos _)) (by rfl)) (by rw [decide_eq_false (fun e => h1 (r1.mp e))])) (fun e => by cases e) (fun _ => ?_)
              by_cases h2 : p = 734539939
              · rw [show encOf p = .int 2 from by rw [encOf, if_neg h1, if_pos h2]]
                refine ex_ifret (b := true) (Tr.conv (tr_cmp (d2 := .tuple (intsD (NI otherN))) lv k_law_other (c_eqT (Nat.succ_pos _)) (by rfl)) (by rw [decide_eq_true (r2.mpr h2)])) (fun _ => ?_) (fun e => by cases e)
                exact ex_last (ex_return (ret (ev_enc (.inr ⟨rfl, rfl⟩) (by rfl)) (by rfl) (by rfl) (by rfl)))
              · rw [show encOf p = .none from by rw [encOf, if_neg h1, if_neg h2]]
                refine ex_ifret (b := false) (Tr.conv (tr_cmp (d2 := .tuple (intsD (NI otherN))) lv k_law_other (c_eqT (Nat.succ_pos _)) (by rfl)) (by rw [decide_eq_false (fun e => h2 (r2.mp e))])) (fun e => by cases e) (fun _ => ?_)
                exact ex_last (ex_return lv)
end
end Bx
end

section
open PySem PySem.W PyProof.Rows PySem.Calls PySem.Spec
set_option autoImplicit false
set_option maxRecDepth 20000
set_option maxHeartbeats 600000
namespace Bx
def goalN (m : Bool) : List Nat := if m then otherN else oneN
def checkN (m : Bool) (x : Str) (ds : List Nat) : List Nat := List.zipWith (fun r g => r ^^^ g) (restN x (ds ++ six)) (goalN m)
def writtenN (m : Bool) (x : Str) (ds : List Nat) : Str := x ++ one ++ textOf (ds ++ checkN m x ds)
theorem goal_len (m : Bool) : (goalN m).length = 6 := by cases m <;> rfl
theorem goal_lt (m : Bool) : ∀ n ∈ goalN m, n < 32 := by cases m <;> decide
theorem six_lt : ∀ n ∈ six, n < 32 := by decide
theorem zipx_lt {a b : List Nat} (ha : ∀ n ∈ a, n < 32) (hb : ∀ n ∈ b, n < 32) : ∀ n ∈ List.zipWith (fun r g => r ^^^ g) a b, n < 32 := by
  intro n hn
  obtain ⟨i, hi, rfl⟩ := List.mem_iff_getElem.mp hn
  rw [List.getElem_zipWith]
  exact xor32 (ha _ (List.getElem_mem _)) (hb _ (List.getElem_mem _))
theorem checkN_six {m : Bool} {x : Str} {ds : List Nat} (h : ∀ c ∈ x.cps.toList, c < 1024) (hd : ∀ n ∈ ds, n < 32) : Six (checkN m x ds) := by
  have h6 := restN_six (x := x) (ds := ds ++ six) h (fun n hn => (List.mem_append.mp hn).elim (hd n) (six_lt n))
  exact ⟨by rw [checkN, List.length_zipWith, h6.1, goal_len]; rfl, zipx_lt h6.2 (goal_lt m)⟩
theorem textOf_len (l : List Nat) : (textOf l).length = l.length := by simp [textOf, Str.length]
theorem zip_NI' : ∀ (a b : List Nat), List.zipWith (fun r g : Int => Builtin.bitXor r g) (NI a) (NI b) = NI (List.zipWith (fun r g => r ^^^ g) a b)
  | [], _ => rfl
  | _ :: _, [] => rfl
  | x :: a, y :: b => by
    show _ :: List.zipWith _ (NI a) (NI b) = _ :: NI _
    rw [zip_NI' a b]
    exact congrArg (fun z => z :: NI (List.zipWith (fun r g => r ^^^ g) a b)) (xorN x y)
section
variable {G : Gl} {R : Bool} {k : Nat} {env : Env} {ρ : Rho}
theorem c_written {m : Bool} {x : Str} {ds : List Nat} (hx : x.length ≤ 1000) (hc : ∀ c ∈ x.cps.toList, c < 1024) (hd : ds.length ≤ 2000) (h32 : ∀ n ∈ ds, n < 32) : CallsTo G false (k + 2) 21 [encI m, .str x, .list (intsD (NI ds))] (.str (writtenN m x ds)) := by
  refine calls_of (by rfl) (by decide) (by decide) (fun pm cd doc vs hl => ?_) (by rfl) (by rfl) (fun L a cd _ => ?_)
  · match vs, hl with
    | [u, v, w], _ => rfl
  · have h32' : ∀ n ∈ ds ++ six, n < 32 := fun n hn => (List.mem_append.mp hn).elim (h32 n) (six_lt n)
    have h6 := restN_six (x := x) (ds := ds ++ six) hc h32'
    have hck := checkN_six (m := m) (x := x) hc h32
    have hz : (intsD (NI ds)).length + (intsD (NI six)).length ≤ sizeLine := by rw [intsD_len, intsD_len, NI_len, NI_len, sizeLine_eq]; simp [six]; omega
    have hz2 : (intsD (NI ds)).length + (intsD (NI (checkN m x ds))).length ≤ sizeLine := by rw [intsD_len, intsD_len, NI_len, NI_len, sizeLine_eq, hck.1]; omega
    refine ex_cons (ex_assign (d := .tuple (intsD (NI (goalN m)))) (ev_ifexp (c := !m) (Tr.conv (tr_cmp (d2 := .int 1) lv (ev_enc (.inl ⟨rfl, rfl⟩) (by rfl)) c_eq (by rfl)) (by cases m <;> rfl)) (fun h => by cases m; exact k_law_one; cases h) (fun h => by cases m; cases h; exact k_law_other)) (.inl (by rfl)) (by rfl)) ?_
    have hrest := c_rest (G := G) (k := 0) (x := x) (ds := ds ++ six) hx (by rw [List.length_append]; simp [six]; omega) hc h32'
    refine ex_cons (ex_assign (d := .tuple (intsD (NI (restN x (ds ++ six))))) (e_call2 20 lv (bo lv (ev_list (ds := intsD (NI six)) (evl_cons ev_int (evl_cons ev_int (evl_cons ev_int (evl_cons ev_int (evl_cons ev_int (evl_cons ev_int evl_nil (by rfl)) (by rfl)) (by rfl)) (by rfl)) (by rfl)) (by rfl)) (by decide)) ((o_cat hz).conv (by rw [NI_app ds, intsD_app]))) hrest (by omega)) (.inl (by rfl)) (by rfl)) ?_
    have hlt : ∀ n ∈ ds ++ checkN m x ds, n < 32 := fun n hn => (List.mem_append.mp hn).elim (h32 n) (hck.2 n)
    have hlen : (ds ++ checkN m x ds).length ≤ 2006 := by rw [List.length_append, hck.1]; omega
    have hz1 : x.length + one.length ≤ sizeLine := by rw [sizeLine_eq, show one.length = 1 from rfl]; omega
    unfold writtenN
    have hcomb : ∀ {k : Nat} {ρ : Rho} {p1 p2 p3 p4 p5 p6 p7 p8 p9 pos : Pos} {u : Nat} (hv : ρ.lookup (Str.ofString "values") = some (PyData.list (intsD (NI ds)))) (hr : ρ.lookup (Str.ofString "rest") = some (PyData.tuple (intsD (NI (restN x (ds ++ six)))))) (hg : ρ.lookup (Str.ofString "goal") = some (PyData.tuple (intsD (NI (goalN m))))) (hdot : ρ.lookup (".0" : Str) = none), True := fun _ _ _ _ => trivial
    refine ex_last (ex_return (bo (d1 := .str (x ++ one)) (bo lv ev_str (o_cats (x := x) (y := one) hz1)) (Ev.conv (e_join (ys := (ds ++ checkN m x ds).map fun d => (⟨#[csetN d]⟩ : Str)) ev_str (Ev.conv (ev_compI (ns := NI (ds ++ checkN m x ds)) (fun i => .str ⟨#[csetN i.toNat]⟩) (cap0 (by rfl) (by decide) (by decide) (by rfl) (by decide) (by decide) (by rfl)) (by rfl)
      (src_list (bo (d2 := .list (intsD (NI (checkN m x ds)))) lv (Ev.conv (ev_zip (b1 := true) (b2 := true) (ns1 := NI (restN x (ds ++ six))) (ns2 := NI (goalN m)) (fun r g => Builtin.bitXor r g) (cap0 (by rfl) (by decide) (by decide) (by rfl) (by decide) (by decide) (by rfl)) (by rfl) (by rfl) (by decide) (by rfl) lv lv (.tuple _) (.tuple _) (by rw [NI_len, NI_len, h6.1, goal_len]; decide) (by rw [NI_len, h6.1]; decide) (fun C r g _ _ => bo lv lv o_xor) (by rfl) (by rfl) (fun v => by rfl)) ?_) ((o_cat hz2).conv (by rw [NI_app, intsD_app])))) (by rw [NI_len, sizeLine_eq]; omega) (fun C n hn => ?_) (fun n hn => rfl) (fun v => by rfl)) ?_) ?_) (congrArg PyData.str (join_ones (ds ++ checkN m x ds)))) (o_cats ?_)))
    · rw [zip_NI']; rfl
    · obtain ⟨j, hj, rfl⟩ := List.mem_map.mp hn
      have hj32 := hlt j hj
      have := item_cset j hj32
      refine Ev.conv (ev_item_str k_law_set lv (by exact Int.natCast_nonneg j) (by show ((j : Nat) : Int) < _; rw [cset_len]; omega) (by rw [cset_len, sizeLine_eq]; omega) (fun _ _ => by rfl)) ?_
      exact congrArg PyData.str this
    · simp only [NI, strsD, List.map_map]; rfl
    · rw [List.map_map, show (Str.ofString "").length = 0 from rfl]
      have : ((fun x => x.length) ∘ fun d => ({ cps := #[csetN d] } : Str)) = fun _ => 1 := by funext d; rfl
      rw [this, ones_sum]; omega
    · rw [textOf_len, sizeLine_eq, Str.length_append, show one.length = 1 from rfl]; omega

/-! ### slips -/
def slip1 (st : Nat) (l : List Nat) (n : Int) : List Nat :=
  let p := st + (n.fmod ((l.length - st : Nat) : Int)).toNat
  l.take p ++ [csetN ((n.fdiv 97).fmod 32).toNat] ++ l.drop (p + 1)
def slipN (st : Nat) (l : List Nat) (ns : List Int) : List Nat := ns.foldl (slip1 st) l
theorem slip_pos {st : Nat} {l : List Nat} {n : Int} (h : st < l.length) : st ≤ st + (n.fmod ((l.length - st : Nat) : Int)).toNat ∧ st + (n.fmod ((l.length - st : Nat) : Int)).toNat < l.length := by
  have h0 : (0 : Int) < ((l.length - st : Nat) : Int) := by omega
  have h1 := Int.fmod_lt_of_pos n h0
  have h2 := Int.fmod_nonneg_of_pos n h0
  omega
theorem slip1_len {st : Nat} {l : List Nat} {n : Int} (h : st < l.length) : (slip1 st l n).length = l.length := by
  have := slip_pos (n := n) h
  unfold slip1
  simp only [List.length_append, List.length_take, List.length_drop, List.length_singleton]
  omega
theorem slip_len {st : Nat} : ∀ {ns : List Int} {l : List Nat}, st < l.length → (slipN st l ns).length = l.length
  | [], _, _ => rfl
  | n :: ns, l, h => by
    show (slipN st (slip1 st l n) ns).length = _
    rw [slip_len (by rw [slip1_len h]; exact h), slip1_len h]
theorem c_slipped {st : Nat} {l : List Nat} {ns : List Int} (hl : l.length ≤ 1000) (hst : st < l.length) : CallsTo G false (k + 1) 23 [.str (S l), .int (st : Int), .list (intsD ns)] (.str (S (slipN st l ns))) := by
  refine calls_of (by rfl) (by decide) (by decide) (fun pm cd doc vs hl => ?_) (by rfl) (by rfl) (fun L a cd _ => ?_)
  · match vs, hl with
    | [u, v, w], _ => rfl
  · refine ex_cons (ex_for2 (fun i => [("text", .str (S (slipN st l (ns.take i)))), ("start", .int (st : Int))]) (by rfl) (src_list (ds := intsD ns) lv) (sub_cons (by rfl) (sub_cons (by rfl) sub_nil)) (fun i d hd => ?_) (fun v => by rfl)) ?_
    · obtain ⟨n, hn, rfl⟩ : ∃ n, ns[i]? = some n ∧ d = .int n := by
        simp only [intsD, List.getElem?_map, Option.map_eq_some_iff] at hd
        obtain ⟨n, hn, rfl⟩ := hd
        exact ⟨n, hn, rfl⟩
      have hstep : slipN st l (ns.take (i + 1)) = slip1 st (slipN st l (ns.take i)) n := by
        unfold slipN
        rw [List.take_add_one, hn, List.foldl_append]; rfl
      rw [hstep]
      have hml : (slipN st l (ns.take i)).length = l.length := slip_len hst
      generalize slipN st l (ns.take i) = m at *
      have hst' : st < m.length := by omega
      have hp := slip_pos (n := n) hst'
      have hb : (m.length : Int) - (st : Int) = ((m.length - st : Nat) : Int) := by omega
      have hml62 : (S m).length < 2 ^ 62 := by rw [S_len]; omega
      have hne : (m.length : Int) - (st : Int) ≠ 0 := by omega
      have hf2 := Int.fmod_nonneg_of_pos n (b := ((m.length - st : Nat) : Int)) (by omega)
      have hsl : (S m).length ≤ sizeLine := by rw [S_len, sizeLine_eq]; omega
      refine ex_cons (ex_assign (d := .int ((st + (n.fmod ((m.length - st : Nat) : Int)).toNat : Nat) : Int)) (Ev.conv (bo lv (bo lv (bo ((e_lenS lv hml62).conv (by rw [S_len])) lv o_sub) (o_mod hne)) o_add) ?_) (.inl (by rfl)) (by rfl)) ?_
      · rw [hb]; refine congrArg PyData.int ?_; omega
      unfold slip1
      dsimp only
      generalize st + (n.fmod ((m.length - st : Nat) : Int)).toNat = q at *
      have hc0 : 0 ≤ (n.fdiv 97).fmod 32 := Int.fmod_nonneg_of_pos _ (by decide)
      have hc1 : (n.fdiv 97).fmod 32 < 32 := Int.fmod_lt_of_pos _ (by decide)
      refine Ex.subOut (ex_last' (ex_assign (d := .str (S (m.take q ++ [csetN ((n.fdiv 97).fmod 32).toNat] ++ m.drop (q + 1)))) (bo (d1 := .str (S (m.take q ++ [csetN ((n.fdiv 97).fmod 32).toNat]))) (bo (d1 := .str (S (m.take q))) (Ev.conv (ev_slice_str (lo := none) (hi := some (q : Int)) lv trivial lv hsl) ?_) (Ev.conv (ev_item_str k_law_set (bo (bo lv ev_int (o_fdiv (by decide) (by decide))) ev_int (o_mod (by decide))) hc0 (by rw [cset_len]; exact hc1) (by rw [cset_len, sizeLine_eq]; omega) (fun _ _ => by rfl)) ?_) (Op2.conv (o_cats (x := S (m.take q)) (y := ⟨#[csetN ((n.fdiv 97).fmod 32).toNat]⟩) ?_) ?_)) (Ev.conv (ev_slice_str (lo := some ((q : Int) + 1)) (hi := none) lv (bo lv ev_int o_add) trivial hsl) ?_) (Op2.conv (o_cats (x := S (m.take q ++ [csetN ((n.fdiv 97).fmod 32).toNat])) (y := S (m.drop (q + 1))) ?_) ?_)) (.inl (by rfl)) (by rfl))) (sub_cons (by rfl) (sub_cons (by rfl) sub_nil))
      · rw [slice_to (by omega)]
      · have := item_cset ((n.fdiv 97).fmod 32).toNat (by omega)
        rw [Int.toNat_of_nonneg hc0] at this
        rw [this]
      · show (S _).length + 1 ≤ _
        rw [S_len, List.length_take, sizeLine_eq]; omega
      · exact congrArg PyData.str (S_app (m.take q) [csetN ((n.fdiv 97).fmod 32).toNat])
      · have := slice_from (l := m) (p := q + 1) (by omega)
        rw [← this]; rfl
      · rw [S_len, S_len, List.length_append, List.length_take, List.length_drop, sizeLine_eq]; simp; omega
      · exact congrArg PyData.str (S_app (m.take q ++ [csetN ((n.fdiv 97).fmod 32).toNat]) (m.drop (q + 1)))
    · refine ex_last (ex_return (Ev.conv lv ?_))
      rw [intsD_len, List.take_of_length_le (Nat.le_refl _)]
end
end Bx
end

section
open PySem PySem.W PyProof.Rows PySem.Calls PySem.Spec
set_option autoImplicit false
set_option maxRecDepth 20000
namespace Bx
/-- a frame with one growing list of numbers, named ret -/
structure FM (G : Gl) (env : Env) (ρ : Rho) (l : Addr) (out : List Int) (s : Shared) : Prop where
  fs : FS G env ρ { s with heap := s.heap.hide l }
  lst : ∃ vs, s.heap.PlainList l vs ∧ IntsAre vs.toList out
  own : l ∉ Own env
  lo : G.H₀.objs.size ≤ l
  var : ∀ m, s.heap.Ns env.locals m → m "ret" = some (.ref l)
structure MB (env : Env) (l : Addr) (s s' : Shared) : Prop where
  eq : ∃ h' tk, s' = { s with heap := h', toks := tk }
  keep : ∀ b o, b ∉ Own env → b ≠ l → s.heap.get? b = some o → s'.heap.get? b = some o
section
variable {G : Gl} {k : Nat} {env : Env} {ρ : Rho} {l : Addr} {out : List Int} {s s' s'' : Shared} {A : Around}
theorem MB.refl : MB env l s s := ⟨⟨_, _, rfl⟩, fun _ _ _ _ e => e⟩
theorem MB.trans (a : MB env l s s') (b : MB env l s' s'') : MB env l s s'' := by
  obtain ⟨h, tk, rfl⟩ := a.eq
  obtain ⟨h', tk', rfl⟩ := b.eq
  exact ⟨⟨h', tk', rfl⟩, fun x o h1 h2 e => b.keep x o h1 h2 (a.keep x o h1 h2 e)⟩
theorem MB.of_keeps (a : Keeps s s') : MB env l s s' := by
  obtain ⟨h, tk, rfl, k⟩ := a
  exact ⟨⟨h, tk, rfl⟩, fun b o _ _ e => k b o e⟩
theorem FM.toFS (x : FM G env ρ l out s) : FS G env ρ s := x.fs.grow (s' := s) fun _ _ e => Heap.of_hide e
theorem hide_keep {h h' : Heap} {l : Addr} (k : ∀ b o, b ≠ l → h.get? b = some o → h'.get? b = some o) : ∀ b o, (h.hide l).get? b = some o → (h'.hide l).get? b = some o := fun b o e => by
  by_cases hb : b = l
  · subst hb; rw [Heap.hide_self] at e; cases e
  · rw [Heap.hide_ne _ hb] at e ⊢; exact k b o hb e
theorem FM.locals (x : FM G env ρ l out s) : env.locals ≠ l := fun e => x.own (e ▸ .head _)
theorem FM.step (x : FM G env ρ l out s) (a : Keeps s s') : FM G env ρ l out s' := by
  obtain ⟨h, tk, rfl, k⟩ := a
  refine ⟨x.fs.grow (s' := { s with heap := h.hide l, toks := tk }) (hide_keep fun b o _ e => k b o e), ?_, x.own, x.lo, fun m hm => ?_⟩
  · obtain ⟨vs, p, i⟩ := x.lst
    exact ⟨vs, p.at fun o e => k _ o e, i⟩
  · obtain ⟨m', hm', _⟩ := x.toFS.ns
    have h1 := x.var m' (ns_real hm')
    have h2 := ((ns_real hm').keeps k).agree hm "ret"
    exact h2 ▸ h1
theorem FM.sub {ρ' : Rho} (x : FM G env ρ l out s) (h : Sub ρ' ρ) : FM G env ρ' l out s := ⟨x.fs.sub h, x.lst, x.own, x.lo, x.var⟩
theorem FM.run {e : Expr} {d : PyData} {Q E : Value → Shared → Prop} (h : Ev G false k env ρ e d) (rm : Room k A) (x : FM G env ρ l out s)
    (hQ : ∀ v s', Rep s'.heap v d → FM G env ρ l out s' → MB env l s s' → Q v s') : wpAny (model G.prog G.w) A (eval e env) Q E s :=
  h.run rm x.toFS (fun e => by cases e) fun v s' r a _ _ _ => hQ v s' r (x.step a) (.of_keeps a)
theorem FM.test {e : Expr} {b : Bool} {Q : Bool → Shared → Prop} {E : Value → Shared → Prop} (h : Tr G false k env ρ e b) (rm : Room k A) (x : FM G env ρ l out s)
    (hQ : ∀ s', FM G env ρ l out s' → MB env l s s' → Q b s') : wpAny (model G.prog G.w) A (isTrue e env (eval e env)) Q E s :=
  h.run rm x.toFS (fun e => by cases e) fun s' a _ _ _ => hQ s' (x.step a) (.of_keeps a)
theorem FM.store {x : Str} {v : Value} {n : Int} {Q : Unit → Shared → Prop} {E : Value → Shared → Prop} (hk : env.kindOf x = some .local) (hx : x ≠ "ret") (f : FM G env ρ l out s) (r : Rep s.heap v (.int n))
    (hQ : ∀ s', FM G env ((x, .int n) :: ρ) l out s' → MB env l s s' → Q () s') : wpAny (model G.prog G.w) A (storeName env x v) Q E s := by
  obtain ⟨m, hn, hm⟩ := f.fs.ns
  have hn1 : (s.heap.hide l).Ns env.locals m := ns_real hn
  have hn2 : s.heap.Ns env.locals m := hn1.keeps fun _ _ e => Heap.of_hide e
  refine wpAny_storeName_local hk hn2 (fun h' hn' hs' => ?_) (by rw [f.fs.fk]; rfl)
  refine hQ _ ⟨?_, ?_, f.own, f.lo, fun m' hm' => ?_⟩ ⟨⟨_, _, rfl⟩, fun b o hb _ e => (hs'.2 b fun h => hb (h ▸ .head _)).trans e⟩
  · have rh : Rep (h'.hide l) v (.int n) := by cases r; exact .int _ _
    refine (FS.put (R := false) (tk := s.toks + 1) (h' := h'.hide l) f.fs (fun e => by cases e) hk hm ?_ ?_ rh).1
    · obtain ⟨o, es, ep, e, r⟩ := hn'
      exact ⟨o, es, ep, (Heap.hide_ne _ f.locals).trans e, r⟩
    · intro b o hb e
      have hbl : b ≠ l := fun h => by subst h; dsimp only at e; rw [Heap.hide_self] at e; cases e
      dsimp only at e
      rw [Heap.hide_ne _ hbl] at e ⊢
      exact (hs'.2 b hb).trans e
  · obtain ⟨vs, p, i⟩ := f.lst
    exact ⟨vs, p.at fun o e => (hs'.2 l f.locals.symm).trans e, i⟩
  · have h1 := hn'.agree hm' "ret"
    rw [← h1]
    rw [if_neg (Ne.symm hx)]
    exact f.var m hn2

def ExM (G : Gl) (k : Nat) (env : Env) (ρ : Rho) (out : List Int) (ss : List Stmt) (ρ' : Rho) (out' : List Int) : Prop :=
  ∀ A s l, Room k A → FM G env ρ l out s → wpAny (model G.prog G.w) A (execs ss env) (fun f s' => f = .next ∧ FM G env ρ' l out' s' ∧ MB env l s s') noE s
def ExM1 (G : Gl) (k : Nat) (env : Env) (ρ : Rho) (out : List Int) (st : Stmt) (ρ' : Rho) (out' : List Int) : Prop :=
  ∀ A s l, Room k A → FM G env ρ l out s → wpAny (model G.prog G.w) A (exec st env) (fun f s' => f = .next ∧ FM G env ρ' l out' s' ∧ MB env l s s') noE s
/-- statements that end in a return -/
def ExR (G : Gl) (k : Nat) (env : Env) (ρ : Rho) (out : List Int) (ss : List Stmt) (d : PyData) : Prop :=
  ∀ A s l, Room k A → FM G env ρ l out s → wpAny (model G.prog G.w) A (execs ss env) (fun f s' => ∃ v, f = .ret v ∧ Rep s'.heap v d ∧ Wh G s' ∧ MB env l s s') noE s

theorem exM_nil : ExM G k env ρ out [] ρ out := fun A s l _ f => wpAny_execs_nil ⟨rfl, f, .refl⟩
theorem exM_cons {st : Stmt} {rest : List Stmt} {ρ' ρ'' : Rho} {o' o'' : List Int} (h1 : ExM1 G k env ρ out st ρ' o') (h2 : ExM G k env ρ' o' rest ρ'' o'') : ExM G k env ρ out (st :: rest) ρ'' o'' := by
  intro A s l rm f
  refine wpAny_execs_cons (wpAny_mono (h1 A s l rm f) (fun g s1 x => ?_) fun _ _ x => x)
  obtain ⟨rfl, f1, b1⟩ := x
  exact wpAny_mono (h2 A s1 l rm f1) (fun g s2 x => ⟨x.1, x.2.1, b1.trans x.2.2⟩) fun _ _ x => x
theorem exM_sub {ss : List Stmt} {ρ' ρ'' : Rho} {o' : List Int} (h : ExM G k env ρ out ss ρ' o') (hs : Sub ρ'' ρ') : ExM G k env ρ out ss ρ'' o' := fun A s l rm f =>
  wpAny_mono (h A s l rm f) (fun _ _ x => ⟨x.1, x.2.1.sub hs, x.2.2⟩) fun _ _ x => x
theorem exR_cons {st : Stmt} {rest : List Stmt} {ρ' : Rho} {o' : List Int} {d : PyData} (h1 : ExM1 G k env ρ out st ρ' o') (h2 : ExR G k env ρ' o' rest d) : ExR G k env ρ out (st :: rest) d := by
  intro A s l rm f
  refine wpAny_execs_cons (wpAny_mono (h1 A s l rm f) (fun g s1 x => ?_) fun _ _ x => x)
  obtain ⟨rfl, f1, b1⟩ := x
  exact wpAny_mono (h2 A s1 l rm f1) (fun g s2 ⟨v, e, r, w, b⟩ => ⟨v, e, r, w, b1.trans b⟩) fun _ _ x => x
theorem exM_assign {x : Str} {px pos : Pos} {e : Expr} {n : Int} (h : Ev G false k env ρ e (.int n)) (hk : env.kindOf x = some .local) (hx : x ≠ "ret") (hs : swapsWith e (some (.Name x px)) pos.line env = pure false) :
    ExM1 G k env ρ out (.Assign [.Name x px] e pos) ((x, .int n) :: ρ) out := by
  intro A s l rm f
  refine wpAny_Assign_Name (FM.run h rm f fun v s1 r1 f1 b1 => ?_) hs
  exact FM.store hk hx f1 r1 fun s2 f2 b2 => ⟨rfl, f2, b1.trans b2⟩
theorem exM_aug {x : Str} {px pos : Pos} {op : Operator} {e : Expr} {n1 n2 n : Int} (hl : ρ.lookup x = some (.int n1)) (hk : env.kindOf x = some .local) (hx : x ≠ "ret") (h : Ev G false k env ρ e (.int n2)) (ho : Op2 G false k (inplaceOp op) (.int n1) (.int n2) (.int n)) :
    ExM1 G k env ρ out (.AugAssign (.Name x px) op e pos) ((x, .int n) :: ρ) out := by
  intro A s l rm f
  refine wpAny_AugAssign_Name (ev_load hl hk f.toFS fun v1 r1 => FM.run h rm f fun v2 s2 r2 f2 b2 => ?_)
  have r1' : Rep s2.heap v1 (.int n1) := by cases r1; exact .int _ _
  refine gives_mono (ho A s2 v1 v2 rm f2.toFS.wh (fun e => by cases e) r1' r2) fun v s3 r3 a3 => ?_
  exact FM.store hk hx (f2.step a3) r3 fun s4 f4 b4 => ⟨rfl, f4, (b2.trans (.of_keeps a3)).trans b4⟩
theorem exM_if {test : Expr} {body orelse : List Stmt} {pos : Pos} {b : Bool} {ρ' : Rho} {o' : List Int} (h : Tr G false k env ρ test b) (h1 : b = true → ExM G k env ρ out body ρ' o') (h2 : b = false → ExM G k env ρ out orelse ρ' o') : ExM1 G k env ρ out (.If test body orelse pos) ρ' o' := by
  intro A s l rm f
  refine wpAny_If (FM.test h rm f fun s1 f1 b1 => ?_)
  cases b with
  | true => exact wpAny_mono (h1 rfl A s1 l rm f1) (fun g s2 x => ⟨x.1, x.2.1, b1.trans x.2.2⟩) fun _ _ x => x
  | false => exact wpAny_mono (h2 rfl A s1 l rm f1) (fun g s2 x => ⟨x.1, x.2.1, b1.trans x.2.2⟩) fun _ _ x => x
theorem exR_if {test : Expr} {body orelse rest : List Stmt} {pos : Pos} {b : Bool} {d : PyData} (h : Tr G false k env ρ test b) (h1 : b = true → ExR G k env ρ out body d) (h2 : b = false → ExR G k env ρ out orelse d) : ExR G k env ρ out (.If test body orelse pos :: rest) d := by
  intro A s l rm f
  refine wpAny_execs_cons (wpAny_If (FM.test h rm f fun s1 f1 b1 => ?_))
  have go : ∀ ss, ExR G k env ρ out ss d → wpAny (model G.prog G.w) A (execs ss env) (fun f s₁ => match f with | .next => wpAny (model G.prog G.w) A (execs rest env) (fun f s' => ∃ v, f = .ret v ∧ Rep s'.heap v d ∧ Wh G s' ∧ MB env l s s') noE s₁ | f => ∃ v, f = .ret v ∧ Rep s₁.heap v d ∧ Wh G s₁ ∧ MB env l s s₁) noE s1 := fun ss hss =>
    wpAny_mono (hss A s1 l rm f1) (fun g s2 ⟨v, e, r, w, b⟩ => by subst e; exact ⟨v, rfl, r, w, b1.trans b⟩) fun _ _ x => x
  cases b with
  | true => exact go _ (h1 rfl)
  | false => exact go _ (h2 rfl)
theorem exR_return {e : Expr} {pos : Pos} {rest : List Stmt} {d : PyData} (h : Ev G false k env ρ e d) : ExR G k env ρ out (.Return (some e) pos :: rest) d := by
  intro A s l rm f
  refine wpAny_execs_cons (wpAny_Return_some (FM.run h rm f fun v s1 r1 f1 b1 => ⟨v, rfl, r1, f1.toFS.wh, b1⟩))
theorem FM.rep (f : FM G env ρ l out s) : Rep s.heap (.ref l) (.list (intsD out)) := by
  obtain ⟨vs, p, i⟩ := f.lst
  obtain ⟨o, e1, e2, n, e3⟩ := p.isList
  exact .list e1 e2 e3 (RepAll.ints i)
theorem FM.load {Q E : Value → Shared → Prop} (hk : env.kindOf "ret" = some .local) (f : FM G env ρ l out s) (hQ : Q (.ref l) s) : wpAny (model G.prog G.w) A (loadName env "ret") Q E s := by
  obtain ⟨m, hn, _⟩ := f.toFS.ns
  exact wpAny_loadName_local f.fs.fk hk (ns_real hn) (f.var m (ns_real hn)) hQ
theorem exR_ret {np pos : Pos} {rest : List Stmt} (hk : env.kindOf "ret" = some .local) : ExR G k env ρ out (.Return (some (.Name "ret" np)) pos :: rest) (.list (intsD out)) := by
  intro A s l rm f
  exact wpAny_execs_cons (wpAny_Return_some (wpAny_Name (f.load hk ⟨_, rfl, f.rep, f.toFS.wh, .refl⟩) (by decide)))
theorem exM_append {np apos cpos pos : Pos} {e : Expr} {n : Int} (hk : env.kindOf "ret" = some .local) (h : Ev G false k env ρ e (.int n)) (hsz : out.length ≤ sizeLine)
    (hbase : attributeBase (.Name "ret" np) "append" env (eval (.Name "ret" np) env) = eval (.Name "ret" np) env) (hline : (apos.endLine == cpos.line) = true) (he : starEach [e] env = [(false, eval e env)]) (hi : interactive env = false) (hsw : swapsWith (.Call (.Attribute (.Name "ret" np) "append" apos) [e] [] cpos) none pos.line env = pure false) :
    ExM1 G k env ρ out (.Expr (.Call (.Attribute (.Name "ret" np) "append" apos) [e] [] cpos) pos) ρ (out ++ [n]) := by
  intro A s l rm f
  refine wpAny_Expr (wpAny_Call_method hbase (by rw [he]; rfl) hline F.plainAttrs_list F.slot_list_append F.type_list_append (wpAny_Name (f.load hk ?_) (by decide))) hi hsw
  obtain ⟨vs, p, i⟩ := f.lst
  refine ⟨p.isList.typeIs, fun a ea => ?_, PyProof.Rows.callWith_method1 ?_ he⟩
  · cases ea
    obtain ⟨n, e⟩ := p
    exact ⟨_, e, rfl⟩
  · refine wpAny_items_cons (FM.run h rm f fun v s1 r1 f1 b1 => wpAny_items_nil ?_) he
    cases r1 with
    | int _ t =>
    obtain ⟨vs, p, i⟩ := f1.lst
    have hz : vs.size ≤ sizeLine := by
      have := (RepAll.ints (h := s.heap) i).length
      rw [Array.length_toList, List.length_map] at this
      omega
    refine wpAny_list_append_plain (hsz := hz) p fun h₅ hl₅ hs₅ => ?_
    have kk : ∀ b o, b ≠ l → s1.heap.get? b = some o → h₅.get? b = some o := fun b o hb e => (hs₅.2 b hb).trans e
    refine ⟨rfl, ⟨f1.fs.grow (s' := { s1 with heap := h₅.hide l }) (hide_keep kk), ⟨_, hl₅, ?_⟩, f1.own, f1.lo, fun m hm => ?_⟩, b1.trans ⟨⟨h₅, s1.toks, rfl⟩, fun b o _ hb e => kk b o hb e⟩⟩
    · rw [Array.toList_push]
      have : ∀ {vs : List Value} {ns : List Int}, IntsAre vs ns → IntsAre (vs ++ [.int n t]) (ns ++ [n]) := by
        intro vs ns h
        induction h with
        | nil => exact .cons _ _ .nil
        | cons i t _ ih => exact .cons _ _ ih
      exact this i
    · obtain ⟨m', hm', _⟩ := f1.toFS.ns
      have h1 := f1.var m' (ns_real hm')
      have h2 := ((ns_real hm').sameBut hs₅ f1.locals).agree hm "ret"
      exact h2 ▸ h1

theorem FS.other {b : Addr} {h' : Heap} {tk : Nat} (f : FS G env ρ s) (hb : b ∉ Own env) (hbH : G.H₀.objs.size ≤ b) (hns : ∀ o xs n, s.heap.get? b = some o → o.data ≠ .seq xs n) (hk : ∀ c o, c ≠ b → s.heap.get? c = some o → h'.get? c = some o) : FS G env ρ { s with heap := h', toks := tk } := by
  have hh : ∀ c o, c ≠ b → (s.heap.hide G.P).get? c = some o → (h'.hide G.P).get? c = some o := fun c o hc e => by
    by_cases hcP : c = G.P
    · subst hcP; rw [Heap.hide_self] at e; cases e
    · rw [Heap.hide_ne _ hcP] at e ⊢; exact hk c o hc e
  have sk : SeqKept s.heap h' := fun c o xs n e hd => hk c o (fun hc => by subst hc; exact hns o xs n e hd) e
  refine ⟨f.w0, fun c o hc e => hk c o ?_ (f.ext c o hc e), f.fk, f.gl, f.bl, f.own, f.nd, fun q hq => ?_, ?_, fun y d e hky => ?_⟩
  · exact Nat.ne_of_lt (Nat.lt_of_lt_of_le (Heap.lt_size e) hbH)
  · obtain ⟨v, o, e, d⟩ := f.isc q hq
    exact ⟨v, o, hh _ _ (fun h => hb (h ▸ .tail _ (List.mem_map.mpr ⟨q, hq, rfl⟩))) e, d⟩
  · obtain ⟨m, ⟨o, es, ep, e, r⟩, hm⟩ := f.ns
    exact ⟨m, ⟨o, es, ep, hh _ _ (fun h => hb (h ▸ .head _)) e, r⟩, fun y d e hky => let ⟨v, e', q⟩ := hm y d e hky; ⟨v, e', q.mono sk⟩⟩
  · obtain ⟨c, v, e1, ⟨o, e2, e3⟩, q⟩ := f.cel y d e hky
    exact ⟨c, v, e1, ⟨o, hh _ _ (fun h => hb (h ▸ .tail _ (List.mem_map.mpr ⟨(y, c), lookup_mem' e1, rfl⟩))) e2, e3⟩, q.mono sk⟩
theorem FM.other {b : Addr} {h' : Heap} {tk : Nat} (f : FM G env ρ l out s) (hb : b ∉ Own env) (hbl : b ≠ l) (hbH : G.H₀.objs.size ≤ b) (hns : ∀ o xs n, s.heap.get? b = some o → o.data ≠ .seq xs n) (hk : ∀ c o, c ≠ b → s.heap.get? c = some o → h'.get? c = some o) : FM G env ρ l out { s with heap := h', toks := tk } := by
  refine ⟨FS.other (s := { s with heap := s.heap.hide l }) (tk := tk) (h' := h'.hide l) f.fs hb hbH (fun o xs n e => hns o xs n (Heap.of_hide e)) (fun c o hc e => ?_), ?_, f.own, f.lo, fun m hm => ?_⟩
  · have hcl : c ≠ l := fun h => by subst h; dsimp only at e; rw [Heap.hide_self] at e; cases e
    dsimp only at e
    rw [Heap.hide_ne _ hcl] at e ⊢
    exact hk c o hc e
  · obtain ⟨vs, p, i⟩ := f.lst
    exact ⟨vs, p.at fun o e => hk _ o (Ne.symm hbl) e, i⟩
  · obtain ⟨m', hm', _⟩ := f.toFS.ns
    have h1 := f.var m' (ns_real hm')
    have h2 := ((ns_real hm').at (h' := h') fun o e => hk _ o (fun h => hb (h ▸ .head _)) e).agree hm "ret"
    exact h2 ▸ h1

theorem exM_while {test : Expr} {body : List Stmt} {pos : Pos} (N : Nat) (st : Nat → Rho) (os : Nat → List Int) (ht : ∀ i, i < N → Tr G false k env (st i) test true) (hN : Tr G false k env (st N) test false)
    (hb : ∀ i, i < N → ExM G k env (st i) (os i) body (st (i + 1)) (os (i + 1))) : ExM1 G k env (st 0) (os 0) (.While test body [] pos) (st N) (os N) := by
  intro A s l rm f
  refine wpAny_While (codeAny_whileLoop (fun n s' => ∃ i, i ≤ N ∧ n = N - i ∧ FM G env (st i) l (os i) s' ∧ MB env l s s') ?_ N ⟨0, Nat.zero_le _, rfl, f, .refl⟩)
  rintro n s' ⟨i, hi, rfl, fi, bi⟩
  by_cases hlt : i < N
  · refine FM.test (ht i hlt) rm fi fun s1 f1 b1 => ?_
    simp only [if_true]
    refine wpAny_mono (hb i hlt A s1 l rm f1) (fun g s2 x => ?_) fun _ _ x => x.elim
    obtain ⟨rfl, f2, b2⟩ := x
    exact ⟨N - (i + 1), by omega, i + 1, hlt, rfl, f2, (bi.trans b1).trans b2⟩
  · have : i = N := by omega
    subst this
    refine FM.test hN rm fi fun s1 f1 b1 => ?_
    simp only [Bool.false_eq_true, if_false]
    exact wpAny_execs_nil ⟨rfl, f1, bi.trans b1⟩

theorem exM_for {x y : Str} {px np pos : Pos} {body : List Stmt} {ns : List Int} (st : Nat → Rho) (os : Nat → List Int) (hx : env.kindOf x = some .local) (hxr : x ≠ "ret") (hy : env.kindOf y = some .local) (hyd : (y == ("__debug__" : Str)) = false) (hl : ρ.lookup y = some (.list (intsD ns))) (h0 : Sub (st 0) ρ) (ho : os 0 = out)
    (turn : ∀ i n, ns[i]? = some n → ExM G k env ((x, .int n) :: st i) (os i) body (st (i + 1)) (os (i + 1))) (hs : ∀ v, foldedSetIterable (.Name y np) env v = pure v) : ExM1 G k env ρ out (.For (.Name x px) (.Name y np) body [] pos) (st ns.length) (os ns.length) := by
  intro A s l rm f
  subst ho
  obtain ⟨m, hm, hmr⟩ := f.fs.ns
  obtain ⟨v, hv, rv⟩ := hmr y _ hl hy
  have hn2 : s.heap.Ns env.locals m := (ns_real hm).keeps fun _ _ e => Heap.of_hide e
  obtain ⟨a, items, rfl, il', q⟩ := rep_isList rv
  have hal : a ≠ l := fun h => by
    obtain ⟨o, e, _⟩ := il'
    subst h; dsimp only at e; rw [Heap.hide_self] at e; cases e
  have il : s.heap.IsList a items := let ⟨o, e, r⟩ := il'; ⟨o, Heap.of_hide e, r⟩
  have hints := q.toInts
  have hz : items.size = ns.length := by rw [q.ofArr, intsD_len]
  refine wpAny_For (wpAny_Name (wpAny_loadName_local f.fs.fk hy hn2 hv (wpAny_pyIter_list il ?_)) hyd) hs
  have hItl : s.heap.objs.size ≠ l := fun h => by
    obtain ⟨vs, ⟨n, e⟩, _⟩ := f.lst
    exact absurd (Heap.lt_size e) (by rw [← h]; exact Nat.lt_irrefl _)
  have hIo : s.heap.objs.size ∉ Own env := fun h => by
    rcases List.mem_cons.mp h with h | h
    · have := Heap.Ns.lt hn2
      rw [← h] at this; exact Nat.lt_irrefl _ this
    · obtain ⟨q, hq, e⟩ := List.mem_map.mp h
      obtain ⟨v, o, e', _⟩ := f.toFS.isc q hq
      have := Heap.lt_size (Heap.of_hide e')
      rw [e] at this; exact Nat.lt_irrefl _ this
  have hIH : G.H₀.objs.size ≤ s.heap.objs.size := f.toFS.wh.sz
  have hae : a ≠ s.heap.objs.size := by obtain ⟨o, e, _⟩ := il; exact Nat.ne_of_lt (Heap.lt_size e)
  have f1 := (f.sub h0).step (s' := { s with heap := s.heap.push { cls := .type "list_iterator", data := .fields #[.ref a, .int 0 0] } }) keeps_push
  have it1 : (s.heap.push { cls := .type "list_iterator", data := .fields #[.ref a, .int 0 0] }).IsListIter s.heap.objs.size a 0 := ⟨_, Heap.get?_push_size _ rfl, rfl, rfl⟩
  refine codeAny_forLoop (fun j s' => ∃ i, i ≤ ns.length ∧ j = ns.length - i ∧ FM G env (st i) l (os i) s' ∧ s'.heap.IsListIter s.heap.objs.size a i ∧ s'.heap.IsList a items ∧ MB env l s s') ?_ ns.length
    ⟨0, Nat.zero_le _, rfl, f1, it1, il.push _, .of_keeps keeps_push⟩
  rintro j s' ⟨i, hi, rfl, fi, iti, ili, bi⟩
  have hnsI : ∀ o xs n, s'.heap.get? s.heap.objs.size = some o → o.data ≠ .seq xs n := fun o xs n e hd => by
    obtain ⟨o', e', _, d'⟩ := iti
    rw [e'] at e; cases e; rw [d'] at hd; cases hd
  have mb : ∀ (h₃ : Heap) (tk : Nat), (∀ c o, c ≠ s.heap.objs.size → s'.heap.get? c = some o → h₃.get? c = some o) → MB env l s { s' with heap := h₃, toks := tk } := fun h₃ tk hk => by
    have hk2 := bi.keep
    obtain ⟨h', tk', rfl⟩ := bi.eq
    exact ⟨⟨h₃, tk, rfl⟩, fun c o hc hcl e => hk c o (Nat.ne_of_lt (Heap.lt_size e)) (hk2 c o hc hcl e)⟩
  by_cases hlt : i < ns.length
  · have hi' : i < items.size := by omega
    refine wpAny_pyNext_list_item iti ili (Array.getElem?_eq_getElem hi') fun h₃ it₃ hs₃ => ?_
    have k3 : ∀ c o, c ≠ s.heap.objs.size → s'.heap.get? c = some o → h₃.get? c = some o := fun c o hc e => (hs₃.2 c hc).trans e
    have f3 := fi.other (tk := s'.toks) hIo hItl hIH hnsI k3
    have b3 := mb h₃ s'.toks k3
    have l3 : h₃.IsList a items := ili.extBut hs₃.extBut hae
    obtain ⟨n, hn⟩ : ∃ n, ns[i]? = some n := ⟨_, List.getElem?_eq_getElem hlt⟩
    obtain ⟨t, ht⟩ := hints.get i n hn
    have hit : items[i] = .int n t := by
      rw [Array.getElem?_toList, Array.getElem?_eq_getElem hi'] at ht
      exact Option.some.inj ht
    rw [hit]
    refine wpAny_assign_Name (FM.store (n := n) hx hxr f3 (.int _ _) fun s4 f4 b4 => ?_)
    refine wpAny_mono (turn i n hn A s4 l rm f4) (fun g s5 x => ?_) fun _ _ x => x.elim
    obtain ⟨rfl, f5, b5⟩ := x
    have k45 : ∀ c, c ∉ Own env → c ≠ l → ∀ o, h₃.get? c = some o → s5.heap.get? c = some o := fun c hc hcl o e => b5.keep c o hc hcl (b4.keep c o hc hcl e)
    have hao : a ∉ Own env := fun h => by
      rcases List.mem_cons.mp h with h | h
      · obtain ⟨o, e, _, n', hd⟩ := il
        exact own_seq f.toFS h e hd
      · obtain ⟨q, hq, e⟩ := List.mem_map.mp h
        obtain ⟨v, o, e', hd'⟩ := f.toFS.isc q hq
        obtain ⟨o', e2, _, n', hd⟩ := il
        rw [e] at e'
        have := (Heap.of_hide e').symm.trans e2
        cases this
        rw [hd] at hd'; cases hd'
    exact ⟨ns.length - (i + 1), by omega, i + 1, hlt, rfl, f5, it₃.at fun o e => k45 _ hIo hItl o e, l3.at fun o e => k45 _ hao hal o e, (b3.trans b4).trans b5⟩
  · have hin : i = ns.length := by omega
    subst hin
    refine wpAny_pyNext_list_end rm.hd iti ili (Array.getElem?_eq_none (by omega)) fun h₃ he₃ => ?_
    have f3 := fi.other (tk := s'.toks) hIo hItl hIH hnsI he₃
    exact wpAny_execs_nil ⟨rfl, f3, mb h₃ s'.toks he₃⟩

theorem FS.put0 {h' : Heap} {tk : Nat} {m : Str → Option Value} {y : Str} {v : Value} (f1 : FS G env ρ s) (hρ : ρ.lookup y = none) (hm : ∀ x d, ρ.lookup x = some d → env.kindOf x = some .local → ∃ v, m x = some v ∧ Rep s.heap v d)
    (hn' : h'.Ns env.locals (fun z => if z = y then some v else m z)) (kk : ∀ b o, b ≠ env.locals → s.heap.get? b = some o → h'.get? b = some o) : FS G env ρ { s with heap := h', toks := tk } := by
  have sk : SeqKept s.heap h' := fun b o xs n e hd => kk b o (fun hb => own_seq f1 hb e hd) e
  have hL := notP f1 (.head _)
  have hLc : ∀ q ∈ env.cells, q.2 ≠ env.locals := fun q hq e => (List.nodup_cons.mp f1.nd).1 (List.mem_map.mpr ⟨q, hq, e⟩)
  have hh : ∀ b o, b ≠ env.locals → (s.heap.hide G.P).get? b = some o → (h'.hide G.P).get? b = some o := fun b o hb e => by
    by_cases hbP : b = G.P
    · subst hbP; rw [Heap.hide_self] at e; cases e
    · rw [Heap.hide_ne _ hbP] at e ⊢; exact kk b o hb e
  have lt : ∀ b o, G.H₀.get? b = some o → b ≠ env.locals := fun b o e => Nat.ne_of_lt (Nat.lt_of_lt_of_le (Heap.lt_size e) (f1.own _ (.head _)))
  refine ⟨f1.w0, fun b o hb e => kk b o (lt b o e) (f1.ext b o hb e), f1.fk, f1.gl, f1.bl, f1.own, f1.nd, fun q hq => ?_, ⟨fun z => if z = y then some v else m z, ?_, ?_⟩, ?_⟩
  · obtain ⟨v, o, e, d⟩ := f1.isc q hq
    exact ⟨v, o, hh _ _ (hLc q hq) e, d⟩
  · obtain ⟨o', es, ep, e', r'⟩ := hn'
    exact ⟨o', es, ep, (Heap.hide_ne _ hL).trans e', r'⟩
  · intro z d' e hkz
    have hz : z ≠ y := fun h => by subst h; rw [hρ] at e; cases e
    obtain ⟨v', e', q⟩ := hm z d' e hkz
    exact ⟨v', by dsimp only; rw [if_neg hz]; exact e', q.mono sk⟩
  · intro z d' e hkz
    obtain ⟨c, v', e1, ⟨o, e2, e3⟩, q⟩ := f1.cel z d' e hkz
    exact ⟨c, v', e1, ⟨o, hh _ _ (hLc (z, c) (lookup_mem' e1)) e2, e3⟩, q.mono sk⟩

/-- ret = []: from here on the list is watched -/
theorem ex_toM {np pos lp : Pos} {rest : List Stmt} {d : PyData} (hk : env.kindOf "ret" = some .local) (hs : swapsWith (.List [] lp) (some (.Name "ret" np)) pos.line env = pure false)
    (h : ExR G k env ρ [] rest d) (hρ : ρ.lookup (Str.ofString "ret") = none) : Ex G false k env ρ (.Assign [.Name "ret" np] (.List [] lp) pos :: rest) (.ret d) := by
  intro A s rm fs p
  refine wpAny_execs_cons (wpAny_Assign_Name (List_ (wpAny_items_nil (wpAny_newObj_type ?_))) hs)
  have kp : Keeps s { s with heap := s.heap.push { cls := .type "list", data := .seq ([] : List Value).toArray } } := keeps_push
  have f1 := fs.step (R := false) (show Rel G false s _ from kp) p
  obtain ⟨m, hm, hmr⟩ := fs.ns
  have hL := notP fs (.head _)
  have hn1 : (s.heap.push { cls := .type "list", data := .seq ([] : List Value).toArray }).Ns env.locals m := (ns_real hm).push _
  refine wpAny_storeName_local hk hn1 (fun h' hn' hs' => ?_) (by rw [fs.fk]; rfl)
  have hlL : s.heap.objs.size ≠ env.locals := fun h => by have := (ns_real hm).lt; rw [← h] at this; exact Nat.lt_irrefl _ this
  have hlo : s.heap.objs.size ∉ Own env := fun h => by
    rcases List.mem_cons.mp h with h | h
    · exact hlL h
    · obtain ⟨q, hq, e⟩ := List.mem_map.mp h
      obtain ⟨v, o, e', _⟩ := fs.isc q hq
      have := Heap.lt_size (Heap.of_hide e')
      rw [e] at this; exact Nat.lt_irrefl _ this
  have kk : ∀ b o, b ≠ env.locals → s.heap.get? b = some o → h'.get? b = some o := fun b o hb e => (hs'.2 b hb).trans (Heap.get?_push_of_some _ e)
  have hgl : h'.get? s.heap.objs.size = some { cls := .type "list", data := .seq ([] : List Value).toArray } := (hs'.2 _ hlL).trans (Heap.get?_push_size _ rfl)
  have fm : FM G env ρ s.heap.objs.size [] { s with heap := h', toks := s.toks + 1 } := by
    refine ⟨?_, ⟨#[], ⟨_, hgl⟩, .nil⟩, hlo, fs.wh.sz, fun m' hm' => ?_⟩
    · refine FS.put0 (s := s) (y := "ret") (m := m) (v := .ref s.heap.objs.size) (tk := s.toks + 1) (h' := h'.hide s.heap.objs.size) fs hρ hmr ?_ fun b o hb e => ?_
      · obtain ⟨o, es, ep, e, r⟩ := hn'
        exact ⟨o, es, ep, (Heap.hide_ne _ hlL.symm).trans e, r⟩
      · rw [Heap.hide_ne _ (Nat.ne_of_lt (Heap.lt_size e))]
        exact kk b o hb e
    · have := hn'.agree hm' "ret"
      rw [← this]; simp
  refine wpAny_mono (h A _ _ rm fm) (fun f s2 ⟨v, e, r, w, b⟩ => ?_) fun _ _ x => x
  subst e
  refine ⟨⟨v, rfl, r, w⟩, ⟨(fun e => by cases e), fun _ => ?_, fun c o hc _ e => ?_⟩⟩
  · obtain ⟨h2, tk2, e2⟩ := b.eq
    exact ⟨h2, tk2, e2⟩
  · exact b.keep c o hc (Nat.ne_of_lt (Heap.lt_size e)) (kk c o (fun h => hc (h ▸ .head _)) e)
end
end Bx
end

section
open PySem PySem.W PyProof.Rows PySem.Calls PySem.Spec
set_option autoImplicit false
set_option maxRecDepth 20000
namespace Bx
def CallsCv (G : Gl) (k : Nat) (ds : List PyData) (d : PyData) : Prop :=
  ∀ A s vs a, Room k A → Wh G s → RepAll s.heap vs ds → G.mg (fnName 11) = some (.ref a) → Gives G false A (call (.ref a) vs) d s
abbrev fdCv (pm cd doc : Value) (T : Addr) : FuncData := { docDef (fnName 11) (fnParams 11) (fnBody 11) (fnScope 11) pm cd doc with defaults := .ref T }
section
variable {G : Gl} {R : Bool} {k : Nat} {env : Env} {ρ : Rho}
theorem calls_cvt {ds : List PyData} {ex : List Value} {exd : List PyData} {d : PyData} (hex : ∀ h, RepAll h ex exd) (hkind : ∀ n ∈ paramsOf 11, (fnScope 11).names.lookup n = some .local ∨ (fnScope 11).names.lookup n = some .cell)
    (hk : (fnScope 11).kind = .function) (hnd : ((cellsFrom 0 (fnScope 11).names []).map (·.1)).Nodup)
    (hbind : ∀ pm cd doc T vs, vs.length = ds.length → ∃ k : Option (Array Value) → Sem (List (Str × Value)), bindArgs (fdCv pm cd doc T) ⟨vs, []⟩ = seqItems? (fdCv pm cd doc T).defaults >>= k ∧ k (some #[.bool true]) = pure ((paramsOf 11).zip (vs ++ ex)))
    (hco : (fnScope 11).isCoroutine = false) (hgen : (fnScope 11).isGenerator = false)
    (body : ∀ L a cd, Ex G false k (envOfC (fnName 11) (fnScope 11) L a cd) (bindR ((paramsOf 11).zip (ds ++ exd)) []) (fnBody 11) (.ret d)) : CallsCv G (k + 1) ds d := by
  intro A s vs a rm w r ha
  obtain ⟨a', cd, o, pm, doc, T, oT, n, h1, ho, hdat, hcode, hT, hTc, hTd⟩ := w.wd.cvt
  have := ha.symm.trans h1
  cases this
  refine wpAny_call (codeAny_call_function (fd := fdCv pm cd doc T) (rm.lt (Nat.succ_pos _)) (Heap.of_hide ho) hdat hco hgen rfl (hcode.keeps fun _ _ e => Heap.of_hide e) ?_)
  obtain ⟨kk, b1, b2⟩ := hbind pm cd doc T vs r.length
  refine BindsTo.of_defaults rfl (Heap.of_hide hT) hTd b1 b2 _ _ _ _ ?_
  refine wpAny_newFunctionEnv_cells hk (fun x hx => ?_) fun env he s' x => ?_
  · have := hkind x.1 (List.of_mem_zip hx).1
    rcases this with h | h
    · exact .inl h
    · exact .inr ⟨h, cellsFrom_some _ _ _ (.inl h)⟩
  have hs' := x.done
  have he' : env = envOfC (fnName 11) (fnScope 11) s.heap.objs.size a cd := he
  subst he'
  have fs : FS G (envOfC (fnName 11) (fnScope 11) s.heap.objs.size a cd) (bindR ((paramsOf 11).zip (ds ++ exd)) []) s' := frame0 hk hnd hkind w (r.append (hex _)) x
  refine ⟨fs.wd.lim.keeps fun _ _ e => Heap.of_hide e, codeAny_func ?_⟩
  refine wpAny_mono (body _ a cd (A.deeper _) s' rm.deeper fs (fun e => by cases e)) (fun f s₂ y => ?_) fun _ _ y => y.elim
  obtain ⟨⟨v, rfl, rv, _⟩, rb⟩ := y
  refine ⟨rv, ?_⟩
  obtain ⟨h', tk, rfl, hkeep⟩ := hs'
  have old : ∀ b o, s.heap.get? b = some o → b ∉ Own (envOfC (fnName 11) (fnScope 11) s.heap.objs.size a cd) := fun b o e hb => by
    have hlt := Heap.lt_size e
    rcases List.mem_cons.mp hb with h | h
    · exact Nat.ne_of_lt hlt h
    · obtain ⟨q, hq, e'⟩ := List.mem_map.mp h
      have := x.above q.1 q.2 hq
      rw [e'] at this
      exact Nat.lt_irrefl _ (Nat.lt_trans hlt this)
  obtain ⟨h₂, tk₂, rfl⟩ := rb.pure_ rfl
  exact ⟨h₂, tk₂, rfl, fun b o e => rb.keep b o (old b o e) (fun e => by cases e) (hkeep b o e)⟩
theorem e_cvt {np pos : Pos} {e : Expr} {es : List Expr} {ds : List PyData} {d : PyData} {j : Nat} (ha : EvL G R k env ρ pos (e :: es) ds) (h : CallsCv G j ds d) (hj : j ≤ k) (hk : env.kindOf (fnName 11) = some .globalImplicit) (he : starEach (e :: es) env = (false, eval e env) :: starEach es env) :
    Ev G R k env ρ (.Call (.Name (fnName 11) np) (e :: es) [] pos) d := by
  intro A s rm fs p
  obtain ⟨a, cd, o, pm, doc, T, oT, n, h1, ho, hdat, hcode, hT, hTc, hTd⟩ := fs.wd.cvt
  refine wpAny_Call_ofName (glob_load fs h1 hk (by decide) ?_)
  refine PyProof.Rows.callWith_def hdat (ha.run rm fs p fun vs s1 r1 a1 f1 p1 _ => ⟨Heap.of_hide (a1.ext.hide _ _ ho), ?_⟩) he
  refine wpAny_mono (h A s1 vs a (rm.le hj) f1.wh r1 h1) (fun v s2 x => ?_) fun _ _ x => x
  exact ⟨x.1, a1.trans (Rel.of_keeps p1 x.2)⟩
theorem bind_cvt4 : ∀ pm cd doc T vs, vs.length = 4 → ∃ k : Option (Array Value) → Sem (List (Str × Value)), bindArgs (fdCv pm cd doc T) ⟨vs, []⟩ = seqItems? (fdCv pm cd doc T).defaults >>= k ∧ k (some #[.bool true]) = pure ((paramsOf 11).zip (vs ++ [])) := by
  intro pm cd doc T vs hl
  match vs, hl with
  | [a, b, c, d], _ => exact ⟨_, rfl, rfl⟩
theorem bind_cvt3 : ∀ pm cd doc T vs, vs.length = 3 → ∃ k : Option (Array Value) → Sem (List (Str × Value)), bindArgs (fdCv pm cd doc T) ⟨vs, []⟩ = seqItems? (fdCv pm cd doc T).defaults >>= k ∧ k (some #[.bool true]) = pure ((paramsOf 11).zip (vs ++ [.bool true])) := by
  intro pm cd doc T vs hl
  match vs, hl with
  | [a, b, c], _ => exact ⟨_, rfl, rfl⟩

/-! ### what convertbits computes -/
def whileN (t acc : Nat) : Nat → Nat → List Nat → Nat × List Nat
  | 0, bits, out => (bits, out)
  | n + 1, bits, out => if t ≤ bits then whileN t acc n (bits - t) (out ++ [(acc / 2 ^ (bits - t)) % 2 ^ t]) else (bits, out)
structure Cb where
  acc : Nat
  bits : Nat
  out : List Nat
def cbNext (f t : Nat) (s : Cb) (v : Nat) : Cb :=
  let acc := ((s.acc * 2 ^ f) ||| v) % 2 ^ (f + t - 1)
  let n := (s.bits + f) / t
  ⟨acc, (s.bits + f) - n * t, s.out ++ (List.range n).map fun i => (acc / 2 ^ (s.bits + f - (i + 1) * t)) % 2 ^ t⟩
def cbRun (f t : Nat) (vs : List Nat) : Cb := vs.foldl (cbNext f t) ⟨0, 0, []⟩
def cbTail (t : Nat) (s : Cb) : Nat := (s.acc * 2 ^ (t - s.bits)) % 2 ^ t
def cbOut (f t : Nat) (pad : Bool) (s : Cb) : PyData :=
  if pad = true then .list (intsD (NI (s.out ++ if s.bits = 0 then [] else [cbTail t s])))
  else if s.bits ≥ f ∨ cbTail t s ≠ 0 then .none else .list (intsD (NI s.out))
theorem cb_bits {f t : Nat} {s : Cb} {v : Nat} (ht : 0 < t) : (cbNext f t s v).bits < t := by
  show (s.bits + f) - (s.bits + f) / t * t < t
  have := Nat.mod_lt (s.bits + f) ht
  have e := Nat.mod_add_div (s.bits + f) t
  rw [Nat.mul_comm] at e
  omega
theorem cb_inv {f t : Nat} (ht : 0 < t) : ∀ {vs : List Nat} {s : Cb}, s.bits < t → (vs.foldl (cbNext f t) s).bits < t
  | [], _, h => h
  | v :: vs, s, _ => cb_inv ht (vs := vs) (cb_bits ht)
end
end Bx
end

section
open PySem PySem.W PyProof.Rows PySem.Calls PySem.Spec
set_option autoImplicit false
set_option maxRecDepth 20000
set_option maxHeartbeats 800000
namespace Bx
theorem and_mask (a n : Nat) : a &&& (2 ^ n - 1) = a % 2 ^ n := Nat.and_two_pow_sub_one_eq_mod a n
theorem cb_acc {f t : Nat} : ∀ {vs : List Nat} {s : Cb}, s.acc < 2 ^ (f + t - 1) → (vs.foldl (cbNext f t) s).acc < 2 ^ (f + t - 1)
  | [], _, h => h
  | v :: vs, s, _ => cb_acc (vs := vs) (Nat.mod_lt _ (Nat.two_pow_pos _))
theorem cb_outlen {f t : Nat} (hf : f ≤ 8) (ht : 0 < t) : ∀ {vs : List Nat} {s : Cb}, s.bits < t → (vs.foldl (cbNext f t) s).out.length ≤ s.out.length + 16 * vs.length
  | [], _, _ => by simp
  | v :: vs, s, h => by
    have h1 := cb_outlen hf ht (vs := vs) (s := cbNext f t s v) (cb_bits ht)
    have h2 : (cbNext f t s v).out.length ≤ s.out.length + 16 := by
      show (s.out ++ (List.range ((s.bits + f) / t)).map _).length ≤ _
      rw [List.length_append, List.length_map, List.length_range]
      have : (s.bits + f) / t ≤ 16 := by
        have : (s.bits + f) / t ≤ (t + 8) / t := Nat.div_le_div_right (by omega)
        have h3 : (t + 8) / t = 1 + 8 / t := by rw [Nat.add_div_left _ ht]; omega
        have : 8 / t ≤ 8 := Nat.div_le_self 8 t
        omega
      omega
    show ((v :: vs).foldl (cbNext f t) s).out.length ≤ _
    rw [List.foldl_cons, List.length_cons]
    omega
section
variable {G : Gl} {k : Nat} {env : Env} {ρ : Rho}
theorem exM_while' {test : Expr} {body : List Stmt} {pos : Pos} {out : List Int} (N : Nat) (st : Nat → Rho) (os : Nat → List Int) (h0 : Sub (st 0) ρ) (ho : os 0 = out) (ht : ∀ i, i < N → Tr G false k env (st i) test true) (hN : Tr G false k env (st N) test false)
    (hb : ∀ i, i < N → ExM G k env (st i) (os i) body (st (i + 1)) (os (i + 1))) : ExM1 G k env ρ out (.While test body [] pos) (st N) (os N) := fun A s l rm f => by
  subst ho
  exact exM_while N st os ht hN hb A s l rm (f.sub h0)
theorem shlN (a n : Nat) : (a : Int) * 2 ^ (n : Int).toNat = ((a * 2 ^ n : Nat) : Int) := by
  rw [Int.toNat_natCast]; norm_cast
theorem small_bits {a m : Nat} (h : a < 2 ^ m) (n : Nat) (hm : m + n ≤ 2 ^ 27) : (Builtin.Int.intBits (a : Int) : Int) + (n : Int) ≤ 2 ^ 27 := by
  have := bits_lt h
  have h3 : ((2 : Int) ^ 27) = ((2 ^ 27 : Nat) : Int) := by norm_cast
  rw [h3]; omega
theorem c_cvt_body {f t : Nat} {pad : Bool} {vs : List Nat} (hf : 1 ≤ f ∧ f ≤ 8) (ht : 1 ≤ t ∧ t ≤ 8) (hv : ∀ v ∈ vs, v < 2 ^ f) (hl : vs.length ≤ 1000) (L a : Addr) (cd : Value) :
    Ex G false k (envOfC (fnName 11) (fnScope 11) L a cd) (bindR ((paramsOf 11).zip [.list (intsD (NI vs)), .int (f : Int), .int (t : Int), .bool pad]) []) (fnBody 11) (.ret (cbOut f t pad (cbRun f t vs))) := by
  have p1 : ∀ n, 1 ≤ 2 ^ n := fun n => Nat.one_le_two_pow
  have hft : f + t - 1 ≤ 15 := by omega
  refine ex_cons (ex_assign (d := .int ((0 : Nat) : Int)) ev_int (.inl (by rfl)) (by rfl)) ?_
  refine ex_cons (ex_assign (d := .int ((0 : Nat) : Int)) ev_int (.inl (by rfl)) (by rfl)) ?_
  refine ex_toM (by rfl) (by rfl) ?_ (by rfl)
  have one27 : ∀ n : Nat, n ≤ 1000 → (Builtin.Int.intBits (1 : Int) : Int) + (n : Int) ≤ 2 ^ 27 := fun n hn => small_bits (a := 1) (m := 1) (by decide) n (by omega)
  have one27' : ∀ i : Int, 0 ≤ i → i ≤ 1000 → (Builtin.Int.intBits (1 : Int) : Int) + i ≤ 2 ^ 27 := fun i h0 hi => by
    obtain ⟨n, rfl⟩ := Int.eq_ofNat_of_zero_le h0
    exact one27 n (by omega)
  have e1 : ∀ n : Nat, (1 : Int) * 2 ^ (n : Int).toNat - 1 = ((2 ^ n - 1 : Nat) : Int) := fun n => by
    have := shlN 1 n
    have h1 := p1 n
    rw [show ((1 : Nat) : Int) = (1 : Int) from rfl] at this
    rw [this]; omega
  refine exR_cons (exM_assign (n := ((2 ^ t - 1 : Nat) : Int)) (Ev.conv (bo (bo ev_int lv (o_shl (Int.natCast_nonneg t) (one27 t (by omega)))) ev_int o_sub) (congrArg PyData.int (e1 t))) (by rfl) (by decide) (by rfl)) ?_
  refine exR_cons (exM_assign (n := ((2 ^ (f + t - 1) - 1 : Nat) : Int)) (Ev.conv (bo (bo ev_int (bo (bo lv lv o_add) ev_int o_sub) (o_shl (by omega) (one27' _ (by omega) (by omega)))) ev_int o_sub) (congrArg PyData.int (by rw [show ((f : Int) + (t : Int) - 1) = ((f + t - 1 : Nat) : Int) from by omega]; exact e1 _))) (by rfl) (by decide) (by rfl)) ?_
  let sv : Nat → Cb := fun i => (vs.take i).foldl (cbNext f t) ⟨0, 0, []⟩
  have hsb : ∀ i, (sv i).bits < t := fun i => cb_inv (by omega) (by show 0 < t; omega)
  have hsa : ∀ i, (sv i).acc < 2 ^ (f + t - 1) := fun i => cb_acc (by show 0 < _; exact Nat.two_pow_pos _)
  have hso : ∀ i, (sv i).out.length ≤ 16000 := fun i => by
    have := cb_outlen (f := f) (t := t) hf.2 (by omega) (vs := vs.take i) (s := ⟨0, 0, []⟩) (by show 0 < t; omega)
    have h2 : (vs.take i).length ≤ vs.length := by rw [List.length_take]; omega
    simp only [List.length_nil] at this
    show ((vs.take i).foldl (cbNext f t) ⟨0, 0, []⟩).out.length ≤ _
    omega
  refine exR_cons (exM_for (ns := NI vs) (fun i => [("acc", .int ((sv i).acc : Int)), ("bits", .int ((sv i).bits : Int)), ("maxv", .int ((2 ^ t - 1 : Nat) : Int)), ("max_acc", .int ((2 ^ (f + t - 1) - 1 : Nat) : Int)), ("frombits", .int (f : Int)), ("tobits", .int (t : Int)), ("pad", .bool pad)]) (fun i => NI (sv i).out) (by rfl) (by decide) (by rfl) (by decide) (by rfl)
    (sub_cons (by rfl) (sub_cons (by rfl) (sub_cons (by rfl) (sub_cons (by rfl) (sub_cons (by rfl) (sub_cons (by rfl) (sub_cons (by rfl) sub_nil))))))) (by rfl) (fun i n hn => ?_) (fun v => by rfl)) ?_
  · obtain ⟨v, hv', rfl⟩ : ∃ v, vs[i]? = some v ∧ n = (v : Int) := by
      simp only [NI, List.getElem?_map, Option.map_eq_some_iff] at hn
      obtain ⟨v, h, e⟩ := hn
      exact ⟨v, h, e.symm⟩
    have hvf := hv v (List.mem_of_getElem? hv')
    have hstep : sv (i + 1) = cbNext f t (sv i) v := take_fold hv'
    have hb := hsb i
    have ha := hsa i
    have hob := hso (i + 1)
    rw [hstep] at hob ⊢
    generalize sv i = s at *
    refine exM_cons (exM_if (b := false) (Tr.conv (tr_or (a := false) (b := false) (Tr.conv (tr_cmp lv ev_int c_lt (by rfl)) (decide_eq_false (by omega))) (fun _ => Tr.conv (tr_val ((bo lv lv (o_shr (Int.natCast_nonneg f))).conv (congrArg PyData.int ((congrArg (fun z => (v : Int).fdiv (2 ^ z)) (Int.toNat_natCast f)).trans (shrN v f)))) (by rfl) (by rfl)) (by rw [Nat.div_eq_of_lt hvf]; rfl))) (by rfl)) (fun e => by cases e) (fun _ => exM_nil)) ?_
    refine exM_cons (exM_assign (n := (((s.acc * 2 ^ f) ||| v) % 2 ^ (f + t - 1) : Nat)) (Ev.conv (bo (bo (Ev.conv (bo lv lv (o_shl (Int.natCast_nonneg f) (small_bits ha f (by omega)))) (congrArg PyData.int (shlN s.acc f))) lv (o_or.conv (congrArg PyData.int (orN _ _)))) lv (o_and.conv (congrArg PyData.int (andN _ _)))) (by rw [and_mask])) (by rfl) (by decide) (by rfl)) ?_
    refine exM_cons (exM_aug (n1 := (s.bits : Int)) (n2 := (f : Int)) (n := ((s.bits + f : Nat) : Int)) (by rfl) (by rfl) (by decide) lv (i_add.conv (congrArg PyData.int (by omega)))) ?_
    have hnext : cbNext f t s v = ⟨((s.acc * 2 ^ f) ||| v) % 2 ^ (f + t - 1), (s.bits + f) - (s.bits + f) / t * t, s.out ++ (List.range ((s.bits + f) / t)).map fun i => ((((s.acc * 2 ^ f) ||| v) % 2 ^ (f + t - 1)) / 2 ^ (s.bits + f - (i + 1) * t)) % 2 ^ t⟩ := rfl
    rw [hnext] at hob ⊢
    generalize ((s.acc * 2 ^ f) ||| v) % 2 ^ (f + t - 1) = ac at *
    generalize hB : s.bits + f = B at *
    dsimp only at hob ⊢
    rw [List.length_append, List.length_map, List.length_range] at hob
    have hdm := Nat.div_mul_le_self B t
    refine exM_sub (exM_cons (exM_while' (B / t) (fun j => [("bits", .int ((B - j * t : Nat) : Int)), ("acc", .int (ac : Int)), ("maxv", .int ((2 ^ t - 1 : Nat) : Int)), ("max_acc", .int ((2 ^ (f + t - 1) - 1 : Nat) : Int)), ("frombits", .int (f : Int)), ("tobits", .int (t : Int)), ("pad", .bool pad)]) (fun j => NI (s.out ++ (List.range j).map fun i => (ac / 2 ^ (B - (i + 1) * t)) % 2 ^ t)) (sub_cons (by rw [Nat.zero_mul, Nat.sub_zero]; rfl) (sub_cons (by rfl) (sub_cons (by rfl) (sub_cons (by rfl) (sub_cons (by rfl) (sub_cons (by rfl) (sub_cons (by rfl) sub_nil))))))) (by simp) (fun j hj => ?_) ?_ (fun j hj => ?_)) exM_nil) ?_
    · have hj' : (j + 1) * t ≤ B := Nat.le_trans (Nat.mul_le_mul_right t hj) hdm
      rw [Nat.succ_mul] at hj'
      exact Tr.conv (tr_cmp lv lv c_ge (by rfl)) (decide_eq_true (by omega))
    · have hm := Nat.mod_lt B (show 0 < t by omega)
      have e := Nat.mod_add_div B t
      rw [Nat.mul_comm] at e
      exact Tr.conv (tr_cmp lv lv c_ge (by rfl)) (decide_eq_false (by omega))
    · have hj' : (j + 1) * t ≤ B := Nat.le_trans (Nat.mul_le_mul_right t hj) hdm
      have hj2 : j * t + t ≤ B := by rw [← Nat.succ_mul]; exact hj'
      have hsz : (NI (s.out ++ (List.range j).map fun i => (ac / 2 ^ (B - (i + 1) * t)) % 2 ^ t)).length ≤ sizeLine := by
        rw [NI_len, List.length_append, List.length_map, List.length_range, sizeLine_eq]; omega
      refine exM_cons (exM_aug (n1 := ((B - j * t : Nat) : Int)) (n2 := (t : Int)) (n := ((B - (j + 1) * t : Nat) : Int)) (by rfl) (by rfl) (by decide) lv (i_sub.conv (congrArg PyData.int (by rw [Nat.succ_mul]; omega)))) ?_
      have ho : NI (s.out ++ (List.range (j + 1)).map fun i => (ac / 2 ^ (B - (i + 1) * t)) % 2 ^ t) = NI (s.out ++ (List.range j).map fun i => (ac / 2 ^ (B - (i + 1) * t)) % 2 ^ t) ++ [(((ac / 2 ^ (B - (j + 1) * t)) % 2 ^ t : Nat) : Int)] := by
        rw [List.range_succ, List.map_append, ← List.append_assoc, NI_app]; rfl
      rw [ho]
      refine exM_sub (exM_cons (exM_append (by rfl) (Ev.conv (bo (Ev.conv (bo lv lv (o_shr (Int.natCast_nonneg _))) (congrArg PyData.int ((congrArg (fun z => (ac : Int).fdiv (2 ^ z)) (Int.toNat_natCast (B - (j + 1) * t))).trans (shrN ac _)))) lv (o_and.conv (congrArg PyData.int (andN _ _)))) (by rw [and_mask])) hsz (by rfl) (by rfl) (by rfl) (by rfl) (by rfl)) exM_nil) (sub_cons (by rfl) (sub_cons (by rfl) (sub_cons (by rfl) (sub_cons (by rfl) (sub_cons (by rfl) (sub_cons (by rfl) (sub_cons (by rfl) sub_nil)))))))
    · exact sub_cons (by rfl) (sub_cons (by rfl) (sub_cons (by rfl) (sub_cons (by rfl) (sub_cons (by rfl) (sub_cons (by rfl) (sub_cons (by rfl) sub_nil))))))
  · rw [NI_len]
    have hfin : sv vs.length = cbRun f t vs := by show ((vs.take vs.length).foldl _ _) = _; rw [List.take_length]; rfl
    have hb := hsb vs.length
    have ha := hsa vs.length
    have hob := hso vs.length
    rw [hfin] at hb ha hob ⊢
    generalize cbRun f t vs = s at *
    have hsz : (NI s.out).length ≤ sizeLine := by rw [NI_len, sizeLine_eq]; omega
    have htb : ((t : Int) - (s.bits : Int)) = ((t - s.bits : Nat) : Int) := by omega
    have htail : ∀ {ρ : Rho} {p1 p2 p3 p4 p5 p6 p7 : Pos} (h1 : ρ.lookup (Str.ofString "acc") = some (PyData.int (s.acc : Int))) (h2 : ρ.lookup (Str.ofString "bits") = some (PyData.int (s.bits : Int))) (h3 : ρ.lookup (Str.ofString "tobits") = some (PyData.int (t : Int))) (h4 : ρ.lookup (Str.ofString "maxv") = some (PyData.int ((2 ^ t - 1 : Nat) : Int))),
        Ev G false k (envOfC (fnName 11) (fnScope 11) L a cd) ρ (.BinOp (.BinOp (.Name "acc" p1) .LShift (.BinOp (.Name "tobits" p2) .Sub (.Name "bits" p3) p4) p5) .BitAnd (.Name "maxv" p6) p7) (.int (cbTail t s : Int)) := by
      intro ρ p1 p2 p3 p4 p5 p6 p7 h1 h2 h3 h4
      refine Ev.conv (bo (Ev.conv (bo (lv (hl := h1)) (Ev.conv (bo (lv (hl := h3)) (lv (hl := h2)) o_sub) (congrArg PyData.int htb)) (o_shl (Int.natCast_nonneg _) (small_bits ha _ (by omega)))) (congrArg PyData.int (shlN s.acc (t - s.bits)))) (lv (hl := h4)) (o_and.conv (congrArg PyData.int (andN _ _)))) ?_
      rw [and_mask]; rfl
    unfold cbOut
    cases pad with
    | true =>
      rw [if_pos rfl]
      refine exR_cons (exM_if (b := true) (ρ' := [("acc", .int (s.acc : Int))]) (o' := NI (s.out ++ if s.bits = 0 then [] else [cbTail t s])) (Tr.conv (tr_val lv (by rfl) (by rfl)) (by rfl)) (fun _ => ?_) (fun e => by cases e)) (exR_ret (by rfl))
      refine exM_sub (ρ' := [("acc", .int (s.acc : Int))]) (exM_cons (exM_if (b := !decide (s.bits = 0)) (Tr.conv (tr_val lv (by rfl) (by rfl)) ?_) (fun h => ?_) (fun h => ?_)) exM_nil) (fun _ _ e => e)
      · show (((s.bits : Nat) : Int) != 0) = _
        rw [Bool.eq_iff_iff]; simp
      · have h0 : ¬ s.bits = 0 := by simpa using h
        rw [if_neg h0, NI_app]
        exact exM_sub (exM_cons (exM_append (by rfl) (htail (by rfl) (by rfl) (by rfl) (by rfl)) hsz (by rfl) (by rfl) (by rfl) (by rfl) (by rfl)) exM_nil) (sub_cons (by rfl) sub_nil)
      · have h0 : s.bits = 0 := by simpa using h
        rw [if_pos h0, List.append_nil]
        exact exM_sub exM_nil (sub_cons (by rfl) sub_nil)
    | false =>
      rw [if_neg (by decide)]
      have hcond : ∀ {ρ : Rho} {p1 p2 p3 : Pos}, True := fun {_ _ _ _} => trivial
      by_cases hbad : s.bits ≥ f ∨ cbTail t s ≠ 0
      · rw [if_pos hbad]
        refine exR_if (b := false) (Tr.conv (tr_val lv (by rfl) (by rfl)) (by rfl)) (fun e => by cases e) (fun _ => ?_)
        refine exR_if (b := true) (Tr.conv (tr_or (a := decide (f ≤ s.bits)) (b := !decide (cbTail t s = 0)) (Tr.conv (tr_cmp lv lv c_ge (by rfl)) ?_) (fun _ => Tr.conv (tr_val (htail (by rfl) (by rfl) (by rfl) (by rfl)) (by rfl) (by rfl)) ?_)) ?_) (fun _ => exR_return ev_none) (fun e => by cases e)
        · rw [Bool.eq_iff_iff]; simp
        · show (((cbTail t s : Nat) : Int) != 0) = _
          rw [Bool.eq_iff_iff]; simp
        · rw [Bool.or_eq_true]
          rcases hbad with h | h
          · exact .inl (decide_eq_true h)
          · exact .inr (by simp [h])
      · rw [if_neg hbad]
        have hb1 : ¬ f ≤ s.bits := fun h => hbad (.inl h)
        have hb2 : cbTail t s = 0 := by
          by_cases h : cbTail t s = 0
          · exact h
          · exact absurd (.inr h) hbad
        refine exR_cons (exM_if (b := false) (ρ' := [("acc", .int (s.acc : Int))]) (o' := NI s.out) (Tr.conv (tr_val lv (by rfl) (by rfl)) (by rfl)) (fun e => by cases e) (fun _ => ?_)) (exR_ret (by rfl))
        refine exM_sub (exM_cons (exM_if (b := false) (Tr.conv (tr_or (a := false) (b := false) (Tr.conv (tr_cmp lv lv c_ge (by rfl)) (decide_eq_false (by omega))) (fun _ => Tr.conv (tr_val (htail (by rfl) (by rfl) (by rfl) (by rfl)) (by rfl) (by rfl)) (by rw [hb2]; rfl))) (by rfl)) (fun e => by cases e) (fun _ => exM_nil)) exM_nil) (sub_cons (by rfl) sub_nil)
theorem c_cvt4 {f t : Nat} {pad : Bool} {vs : List Nat} (hf : 1 ≤ f ∧ f ≤ 8) (ht : 1 ≤ t ∧ t ≤ 8) (hv : ∀ v ∈ vs, v < 2 ^ f) (hl : vs.length ≤ 1000) : CallsCv G (k + 1) [.list (intsD (NI vs)), .int (f : Int), .int (t : Int), .bool pad] (cbOut f t pad (cbRun f t vs)) :=
  calls_cvt (exd := []) (fun _ => .nil) (by decide) (by rfl) (by decide) bind_cvt4 (by rfl) (by rfl) fun L a cd => c_cvt_body hf ht hv hl L a cd
theorem c_cvt3 {f t : Nat} {vs : List Nat} (hf : 1 ≤ f ∧ f ≤ 8) (ht : 1 ≤ t ∧ t ≤ 8) (hv : ∀ v ∈ vs, v < 2 ^ f) (hl : vs.length ≤ 1000) : CallsCv G (k + 1) [.list (intsD (NI vs)), .int (f : Int), .int (t : Int)] (cbOut f t true (cbRun f t vs)) :=
  calls_cvt (exd := [.bool true]) (fun _ => .cons (.bool _) .nil) (by decide) (by rfl) (by decide) bind_cvt3 (by rfl) (by rfl) fun L a cd => c_cvt_body hf ht hv hl L a cd
end
end Bx
end

section
open PySem PySem.W PyProof.Rows PySem.Calls PySem.Spec
set_option autoImplicit false
set_option maxRecDepth 20000
set_option maxHeartbeats 800000
namespace Bx
def nothing2 : PyData := .tuple [.none, .none]
def cbBad (vs : List Nat) : Bool := decide ((cbRun 5 8 vs).bits ≥ 5) || decide (cbTail 8 (cbRun 5 8 vs) ≠ 0)
def decodeV (e : Int) (ds : List Nat) : PyData :=
  let o := (cbRun 5 8 (ds.drop 1)).out
  if cbBad (ds.drop 1) = true ∨ o.length < 2 ∨ 40 < o.length ∨ 16 < ds.headD 0 ∨ (ds.headD 0 = 0 ∧ o.length ≠ 20 ∧ o.length ≠ 32) ∨ (ds.headD 0 = 0 ∧ e ≠ 1) ∨ (ds.headD 0 ≠ 0 ∧ e ≠ 2) then nothing2
  else .tuple [.int (ds.headD 0 : Nat), .list (intsD (NI o))]
section
variable {G : Gl} {R : Bool} {k : Nat} {env : Env} {ρ : Rho}
theorem c_neNS {b : Str} : Op2 G R k (compareOp .NotEq) .none (.str b) (.bool true) := fun A s _ _ _ _ p r1 r2 => by cases r1; cases r2; exact PySem.EqNone.ne_none_str (bRep p)
theorem ev_nothing2 {pos p1 p2 : Pos} {u u1 u2 : Nat} (h1 : starEach [.Constant .none u1 p1, .Constant .none u2 p2] env = (false, eval (.Constant .none u1 p1) env) :: starEach [.Constant .none u2 p2] env := by rfl) (h2 : starEach [.Constant .none u2 p2] env = (false, eval (.Constant .none u2 p2) env) :: starEach [] env := by rfl) :
    Ev G R k env ρ (.Tuple [.Constant .none u1 p1, .Constant .none u2 p2] u pos) nothing2 := ev_tuple (ds := [.none, .none]) (evl_cons ev_none (evl_cons ev_none evl_nil h2) h1) (by show 2 ≤ sizeLine; decide)

theorem c_decode0 {x : Str} {l : List Nat} (hl : l.length ≤ 1000) (hb : bechN l = nothing) : CallsTo G true (k + 4) 12 [.str x, .str (S l)] nothing2 := by
  refine calls_of (by rfl) (by decide) (by decide) (fun pm cd doc vs hl => ?_) (by rfl) (by rfl) (fun L a cd hcd => ?_)
  · match vs, hl with
    | [u, v], _ => rfl
  · clear hcd
    have hd := c_bdecode (G := G) (k := k) hl
    rw [hb] at hd
    refine ex_cons (ex_unpack3 (d1 := .none) (d2 := .none) (d3 := .none) (e_call1 10 lv hd (Nat.le_refl _)) (by rfl) (by rfl) (by rfl) (by rfl) (by rfl)) ?_
    exact ex_ifret (b := true) (tr_cmp lv lv c_neNS (by rfl)) (fun _ => ex_last (ex_return ev_nothing2)) (fun e => by cases e)
theorem decide_or3 {a b c : Prop} [Decidable a] [Decidable b] [Decidable c] : (decide a || decide b || decide c) = decide (a ∨ b ∨ c) := by
  rw [Bool.eq_iff_iff]; simp [or_assoc]
theorem c_decode {x : List Nat} {h : List Nat} {l : List Nat} {e : Int} {ds : List Nat} (hl : l.length ≤ 1000) (hb : bechN l = .tuple [.int e, .str (S h), .list (intsD (NI ds))]) (h32 : ∀ n ∈ ds, n < 32) (hdl : ds.length ≤ 1000) :
    CallsTo G true (k + 4) 12 [.str (S x), .str (S l)] (if h = x then decodeV e ds else nothing2) := by
  refine calls_of (by rfl) (by decide) (by decide) (fun pm cd doc vs hl => ?_) (by rfl) (by rfl) (fun L a cd hcd => ?_)
  · match vs, hl with
    | [u, v], _ => rfl
  · clear hcd
    have hd := c_bdecode (G := G) (k := k) hl
    rw [hb] at hd
    refine ex_cons (ex_unpack3 (d1 := .int e) (d2 := .str (S h)) (d3 := .list (intsD (NI ds))) (e_call1 10 lv hd (Nat.le_refl _)) (by rfl) (by rfl) (by rfl) (by rfl) (by rfl)) ?_
    refine ex_ifret (b := decide (h ≠ x)) (Tr.conv (tr_cmp lv lv c_nes (by rfl)) neS) (fun hx => ?_) (fun hx => ?_)
    · rw [if_neg (by simpa using hx)]
      exact ex_last (ex_return ev_nothing2)
    · rw [if_pos (by simpa using hx)]
      have hdl' : (ds.drop 1).length ≤ 1000 := by rw [List.length_drop]; omega
      have h32' : ∀ n ∈ ds.drop 1, n < 2 ^ 5 := fun n hn => h32 n (List.mem_of_mem_drop hn)
      have hcv := c_cvt4 (G := G) (k := k) (f := 5) (t := 8) (pad := false) (vs := ds.drop 1) (by decide) (by decide) h32' hdl'
      have hsl : (intsD (NI ds)).length ≤ sizeLine := by rw [intsD_len, NI_len, sizeLine_eq]; omega
      refine ex_cons (ex_assign (d := cbOut 5 8 false (cbRun 5 8 (ds.drop 1))) (e_cvt (evl_cons (d := .list (intsD (NI (ds.drop 1)))) (Ev.conv (ev_slice_list (lo := some 1) (hi := none) lv ev_int trivial hsl) ?_) (evl_cons ev_int (evl_cons ev_int (evl_cons ev_bool evl_nil (by rfl)) (by rfl)) (by rfl)) (by rfl)) hcv (by omega) (by rfl) (by rfl)) (.inl (by rfl)) (by rfl)) ?_
      · by_cases h0 : ds = []
        · subst h0; rfl
        · have := pick_from (intsD (NI ds)) (a := 1) (by rw [intsD_len, NI_len]; cases ds with | nil => exact absurd rfl h0 | cons _ _ => simp)
          refine congrArg PyData.list ((show _ = _ from this).trans ?_)
          simp only [intsD, NI, List.map_drop]
      unfold decodeV cbOut
      rw [if_neg (by decide)]
      dsimp only
      have hbadc : (cbRun 5 8 (ds.drop 1)).bits ≥ 5 ∨ cbTail 8 (cbRun 5 8 (ds.drop 1)) ≠ 0 ↔ cbBad (ds.drop 1) = true := by simp [cbBad]
      have hol := cb_outlen (f := 5) (t := 8) (by decide) (by decide) (vs := ds.drop 1) (s := ⟨0, 0, []⟩) (by decide)
      have hol' : (cbRun 5 8 (ds.drop 1)).out.length ≤ 16000 := by
        simp only [List.length_nil] at hol
        exact Nat.le_trans hol (by omega)
      by_cases hbad : cbBad (ds.drop 1) = true
      · rw [if_pos (hbadc.mpr hbad), if_pos (.inl hbad)]
        exact ex_ifret (b := true) (Tr.conv (tr_or3 (a := true) (b := true) (c := true) (tr_cmp lv ev_none (c_is (.inl rfl)) (by rfl)) (fun e => by cases e) (fun e => by cases e)) (by rfl)) (fun _ => ex_last (ex_return ev_nothing2)) (fun e => by cases e)
      · rw [if_neg (fun h => hbad (hbadc.mp h))]
        have ho1 : ds = [] → (cbRun 5 8 (ds.drop 1)).out.length < 2 := fun h => by subst h; decide
        generalize (cbRun 5 8 (ds.drop 1)).out = o at *
        have hlo : (intsD (NI o)).length < 2 ^ 62 := by rw [intsD_len, NI_len]; omega
        have hlc : ((intsD (NI o)).length : Int) = (o.length : Int) := by rw [intsD_len, NI_len]
        refine ex_ifret (b := false || decide (o.length < 2) || decide (40 < o.length)) (tr_or3 (a := false) (tr_cmp lv ev_none (c_is (.inr (.inr ⟨_, rfl⟩))) (by rfl)) (fun _ => Tr.conv (tr_cmp (e_len lv hlo) ev_int c_lt (by rfl)) (by rw [hlc, Bool.eq_iff_iff]; simp; omega)) (fun _ _ => Tr.conv (tr_cmp (e_len lv hlo) ev_int c_gt (by rfl)) (by rw [hlc, Bool.eq_iff_iff]; simp; omega))) (fun hc => ?_) (fun hc => ?_)
        · rw [if_pos]
          · exact ex_last (ex_return ev_nothing2)
          · simp only [Bool.false_or, Bool.or_eq_true, decide_eq_true_iff] at hc
            rcases hc with h | h
            · exact .inr (.inl h)
            · exact .inr (.inr (.inl h))
        · simp only [Bool.false_or, Bool.or_eq_false_iff, decide_eq_false_iff_not] at hc
          obtain ⟨hc1, hc2⟩ := hc
          obtain ⟨v, ds', rfl⟩ : ∃ v ds', ds = v :: ds' := by
            cases ds with
            | nil => exact absurd (ho1 rfl) hc1
            | cons v ds' => exact ⟨v, ds', rfl⟩
          have hv : ∀ {ρ : Rho} {p1 p2 p3 : Pos} {u : Nat} (h1 : ρ.lookup (Str.ofString "data") = some (PyData.list (intsD (NI (v :: ds'))))), Ev G true (k + 3) (envOfC (fnName 12) (fnScope 12) L a cd) ρ (.Subscript (.Name "data" p1) (.Constant (.int 0) u p2) p3) (.int (v : Int)) := by
            intro ρ p1 p2 p3 u h1
            exact ev_item_list (i := 0) (lv (hl := h1)) ev_int ⟨by rw [if_neg (by decide)]; decide, rfl⟩ (by rw [intsD_len, NI_len]; omega) (fun _ _ => by rfl)
          show Ex G true (k + 3) _ _ _ (.ret (if cbBad ((v :: ds').drop 1) = true ∨ o.length < 2 ∨ 40 < o.length ∨ 16 < v ∨ (v = 0 ∧ o.length ≠ 20 ∧ o.length ≠ 32) ∨ (v = 0 ∧ e ≠ 1) ∨ (v ≠ 0 ∧ e ≠ 2) then nothing2 else .tuple [.int (v : Int), .list (intsD (NI o))]))
          refine ex_ifret (b := decide (16 < v)) (Tr.conv (tr_cmp (hv (by rfl)) ev_int c_gt (by rfl)) (by rw [Bool.eq_iff_iff]; simp; omega)) (fun h16 => ?_) (fun h16 => ?_)
          · rw [if_pos (.inr (.inr (.inr (.inl (of_decide_eq_true h16)))))]
            exact ex_last (ex_return ev_nothing2)
          · have hv0 : ((v : Int) == 0) = decide (v = 0) := by rw [Bool.eq_iff_iff]; simp
            have hvn : ((v : Int) != 0) = decide (v ≠ 0) := by rw [Bool.eq_iff_iff]; simp
            refine ex_ifret (b := decide (v = 0) && decide (o.length ≠ 20) && decide (o.length ≠ 32)) (tr_and3 (Tr.conv (tr_cmp (hv (by rfl)) ev_int c_eq (by rfl)) hv0) (fun _ => Tr.conv (tr_cmp (e_len lv hlo) ev_int c_ne (by rfl)) (by rw [hlc, Bool.eq_iff_iff]; simp; omega)) (fun _ _ => Tr.conv (tr_cmp (e_len lv hlo) ev_int c_ne (by rfl)) (by rw [hlc, Bool.eq_iff_iff]; simp; omega))) (fun h5 => ?_) (fun h5 => ?_)
            · simp only [Bool.and_eq_true, decide_eq_true_iff] at h5
              rw [if_pos (.inr (.inr (.inr (.inr (.inl ⟨h5.1.1, h5.1.2, h5.2⟩)))))]
              exact ex_last (ex_return ev_nothing2)
            · refine ex_ifret (b := (decide (v = 0) && decide (e ≠ 1)) || (decide (v ≠ 0) && decide (e ≠ 2))) (tr_or (tr_and (Tr.conv (tr_cmp (hv (by rfl)) ev_int c_eq (by rfl)) hv0) (fun _ => Tr.conv (tr_cmp (d2 := .int 1) lv (ev_enc (.inl ⟨rfl, rfl⟩) (by rfl)) c_ne (by rfl)) (by rw [Bool.eq_iff_iff]; simp))) (fun _ => tr_and (Tr.conv (tr_cmp (hv (by rfl)) ev_int c_ne (by rfl)) hvn) (fun _ => Tr.conv (tr_cmp (d2 := .int 2) lv (ev_enc (.inr ⟨rfl, rfl⟩) (by rfl)) c_ne (by rfl)) (by rw [Bool.eq_iff_iff]; simp)))) (fun h6 => ?_) (fun h6 => ?_)
              · simp only [Bool.or_eq_true, Bool.and_eq_true, decide_eq_true_iff] at h6
                rw [if_pos (.inr (.inr (.inr (.inr (.inr h6)))))]
                exact ex_last (ex_return ev_nothing2)
              · rw [if_neg]
                · exact ex_last (ex_return (ev_tuple (evl_cons (hv (by rfl)) (evl_cons lv evl_nil (by rfl)) (by rfl)) (by show 2 ≤ sizeLine; decide)))
                · have h16' := of_decide_eq_false h16
                  rintro (h | h | h | h | h | h)
                  · exact hbad h
                  · exact hc1 h
                  · exact hc2 h
                  · exact h16' h
                  · rw [decide_eq_true h.1, decide_eq_true h.2.1, decide_eq_true h.2.2] at h5; cases h5
                  · simp only [Bool.or_eq_false_iff, Bool.and_eq_false_iff, decide_eq_false_iff_not] at h6
                    rcases h with h | h
                    · rcases h6.1 with h7 | h7
                      · exact h7 h.1
                      · exact h7 h.2
                    · rcases h6.2 with h7 | h7
                      · exact h7 h.1
                      · exact h7 h.2
end
end Bx
end

section
open PySem PySem.W PyProof.Rows PySem.Calls PySem.Spec
set_option autoImplicit false
set_option maxRecDepth 100000
namespace Bx
section
variable {prog : Program} {w : World} {M : Model} {A : Around} {E : Value → Shared → Prop} {s : Shared} {K : Frag}
theorem fb_getm {pl : Sem Bool} {Q : Value × List Value → Shared → Prop} (X : K.In s.heap)
    (e : findCls K (.type "int") (.type "type") (Str.ofString "from_bytes") = some (.get (.builtin "classmethod_descriptor.__get__") (.builtin "int.from_bytes") .none (.type "int")))
    (h : Q (.ref s.heap.objs.size, []) { s with heap := s.heap.push KFB.bound, toks := s.toks + 1 }) :
    wpAny (model prog w) A (getMethod (.type "int") (Str.ofString "from_bytes") pl) Q E s := by
  have hstub : opaqueClassAbove (.type "int") = pure none := by unfold opaqueClassAbove; dsimp only; rw [show Manifest.isStub "int" = false by decide +kernel]; rfl
  have ht : typeOf (.type "int") = pure (.type "type") := by first | rfl | kernel_rfl
  have L0 : Looks (model prog w) s.heap (typeOf (.type "int")) (.type "type") := Looks.of_pure ht
  have hg : findIn K (.type "type") "__getattribute__" = some (some (.builtin "type.__getattribute__")) := type_tga
  unfold getMethod specialOf
  refine wpAny_bind (wpAny_bind (L0.here ((looks_findIn X hg).here ?_)))
  dsimp only
  rw [if_pos canon_tga]
  refine wpAny_bind (wpAny_mono (Q := fun v => Q (v, [])) (E := E) ?_ (fun _ _ z => wpAny_pure z) fun _ _ z => z)
  have LO : Looks (model prog w) s.heap (opaqueClassAbove (.type "int")) none := Looks.of_pure hstub
  refine cls_open X LO L0 hg (looks_hook X (r := none) (by rfl)) (by show subIn K _ _ = _; rfl) e ?_
  show wpAny _ _ (holding [.builtin "int.from_bytes"] (call (.builtin "classmethod_descriptor.__get__") [.builtin "int.from_bytes", .none, .type "int"]) >>= fun v => ret v) _ _ _
  exact wpAny_bind (wpAny_holding (wpAny_call_entry KFB.slot_get KFB.type_fb KFB.entry_get (KFB.run_get ⟨_, rfl, wpAny_pure (wpAny_pure h)⟩) (KFB.args_get _ _ _)))
theorem fb_grown {n : Nat} {Q : Value → Shared → Prop} (hn : n < 2 ^ 200) (h : Q (.int (n : Int) s.toks) { s with toks := s.toks + 1 }) : wpAny M A (mkIntGrown (n : Int)) Q E s := by
  unfold mkIntGrown
  have hl : ¬ ((n : Int).natAbs.log2 ≥ bitsLine) := by
    rw [Int.natAbs_natCast]
    have hb : bitsLine = 134217728 := by first | rfl | decide
    by_cases hz : n = 0
    · subst hz
      rw [hb]
      decide
    · have h1 := (Nat.log2_lt hz).mpr hn
      omega
  rw [if_neg hl]
  exact wpAny_mkInt h
theorem fb_tree {b : Array UInt8} {t u : Tok} {P : PySem.Fin → Shared → Prop} (hl : b.size ≤ 20) (h : P (.done (.ret (.int (KFB.value (KBw.bInts b)) s.toks))) { s with toks := s.toks + 1 }) :
    wpAny M A (Builtin.«int.from_bytes» ⟨[.type "int", .bytes b t, .str (Str.ofString "big") u], []⟩) P E s := by
  have hv : ((b.toList.foldl (fun (acc : Nat) (b : UInt8) => acc * 256 + b.toNat) 0 : Nat) : Int) = KFB.value (KBw.bInts b) := KFB.fold_cast b.toList 0
  have hn : b.toList.foldl (fun (acc : Nat) (b : UInt8) => acc * 256 + b.toNat) 0 < 2 ^ 200 := by
    have h1 := KFB.fold_lt b.toList 0
    rw [Nat.zero_add, Nat.one_mul, Array.length_toList] at h1
    have h2 : 256 ^ b.size ≤ 256 ^ 20 := Nat.pow_le_pow_right (by decide) hl
    have h3 : 256 ^ 20 < 2 ^ 200 := by decide
    omega
  unfold Builtin.«int.from_bytes»
  refine wpAny_bind (wpAny_of_eq (a := true) KFB.type_int ?_)
  refine KFB.if_not rfl ?_
  refine wpAny_bind (wpAny_of_eq (a := true) F.conv_sub_int ?_)
  refine KFB.if_not rfl ?_
  refine wpAny_bind (wpAny_of_eq (a := [some (.bytes b t), some (.str (Str.ofString "big") u), none]) (by kernel_rfl) ?_)
  refine wpAny_bind (wpAny_of_eq (a := Str.ofString "big") (by kernel_rfl) ?_)
  refine wpAny_bind (wpAny_of_eq (a := false) rfl ?_)
  refine wpAny_bind (wpAny_of_eq (a := false) (by kernel_rfl) ?_)
  refine wpAny_bind (wpAny_of_eq (a := b) rfl ?_)
  show wpAny _ _ (mkIntGrown (b.toList.foldl (fun (acc : Int) (b : UInt8) => acc * 256 + (b.toNat : Int)) ((0 : Nat) : Int)) >>= fun v => _) _ _ _
  rw [KFB.foldI_eq]
  refine wpAny_bind (fb_grown hn ?_)
  rw [hv]
  refine KFB.if_so (by decide +kernel) ?_
  exact wpAny_bind (wpAny_pure (wpAny_pure h))
end
def valN (ns : List Nat) : Nat := ns.foldl (fun a k => a * 256 + k) 0
section
variable {G : Gl} {R : Bool} {k : Nat} {env : Env} {ρ : Rho}
theorem val_cast : ∀ (ns : List Nat) (a : Nat), (NI ns).foldl (fun a k => a * 256 + k) (a : Int) = ((ns.foldl (fun a k => a * 256 + k) a : Nat) : Int)
  | [], _ => rfl
  | n :: ns, a => by
    show (NI ns).foldl _ ((a : Int) * 256 + (n : Int)) = _
    rw [show (a : Int) * 256 + (n : Int) = ((a * 256 + n : Nat) : Int) from by omega, val_cast ns]; rfl
theorem bytes_ints {ns : List Nat} (h : ∀ n ∈ ns, n < 256) : KBw.bInts (byteArr (NI ns)) = NI ns ∧ (byteArr (NI ns)).size = ns.length := by
  refine ⟨?_, by rw [byteArr_size, NI_len]⟩
  unfold KBw.bInts byteArr NI
  rw [List.map_map, List.map_map]
  refine List.map_congr_left fun n hn => ?_
  show (((Int.ofNat n).toNat.toUInt8).toNat : Int) = Int.ofNat n
  have := h n hn
  rw [show (Int.ofNat n).toNat = n from rfl]
  simp only [Nat.toUInt8, UInt8.toNat_ofNat']
  rw [Nat.mod_eq_of_lt (by omega)]
  rfl
theorem e_fb {np apos bnp bpos cp pos : Pos} {u : Nat} {e : Expr} {ns : List Nat} (h : Ev G R k env ρ e (.list (intsD (NI ns)))) (hr : ∀ n ∈ ns, n < 256) (hl : ns.length ≤ 20)
    (hk : env.kindOf "int" = some .globalImplicit) (hkb : env.kindOf "bytes" = some .globalImplicit) (hbase : attributeBase (.Name "int" np) "from_bytes" env (eval (.Name "int" np) env) = eval (.Name "int" np) env) (hline : (apos.endLine == pos.line) = true)
    (he : starEach [e] env = [(false, eval e env)])
    (he1 : starEach [.Call (.Name "bytes" bnp) [e] [] bpos, .Constant (.str "big") u cp] env = (false, eval (.Call (.Name "bytes" bnp) [e] [] bpos) env) :: starEach [.Constant (.str "big") u cp] env)
    (he2 : starEach [.Constant (.str "big") u cp] env = [(false, eval (.Constant (.str "big") u cp) env)]) :
    Ev G R k env ρ (.Call (.Attribute (.Name "int" np) "from_bytes" apos) [.Call (.Name "bytes" bnp) [e] [] bpos, .Constant (.str "big") u cp] [] pos) (.int (valN ns : Nat)) := by
  intro A s rm fs p
  show wpAny _ A (eval _ env) _ _ s
  rw [arm_eval_Call, hbase]
  refine wpAny_bind (bi_load fs (v := .type "int") (by simp [biTab]) hk (by decide) (wpAny_bind (wpAny_standAt ?_)))
  have hfew : ((backTo pos (starEach [.Call (.Name "bytes" bnp) [e] [] bpos, .Constant (.str "big") u cp] env)).all (fun x => !x.1) && (backToKw pos (keywordEach [] env)).all (fun x => x.1.isSome)
      && decide (([.Call (.Name "bytes" bnp) [e] [] bpos, .Constant (.str "big") u cp] : List Expr).length + ([] : List Keyword).length + (if ([] : List Keyword).isEmpty then 0 else 1) < 30)) = true := by
    rw [he1, he2]; rfl
  have hform : methodCallForm (([.Call (.Name "bytes" bnp) [e] [] bpos, .Constant (.str "big") u cp] : List Expr).length + ([] : List Keyword).length) (backTo pos (starEach [.Call (.Name "bytes" bnp) [e] [] bpos, .Constant (.str "big") u cp] env)) (backToKw pos (keywordEach [] env)) = true := hfew
  have hpos : methodCallPos true (.Name "int" np) env apos pos = pure pos := by unfold methodCallPos; simp [hline]
  unfold methodCall
  rw [hform]
  have hK : G.K.In s.heap := fun a o e => Heap.of_hide (fs.wd.kin a o e)
  refine wpAny_bind (wpAny_holding (fb_getm hK fs.wd.kfb (wpAny_bind (wpAny_of_eq hpos ?_))))
  have a1 : Rel G R s { s with heap := s.heap.push KFB.bound, toks := s.toks + 1 } := Rel.of_keeps p keeps_push
  have f1 := fs.step a1 p
  have hx : KFB.StandsAt s.heap.objs.size (s.heap.push KFB.bound) := Heap.get?_push_size _ rfl
  suffices hs : wpAny (model G.prog G.w) A (spliced (backTo pos (starEach [.Call (.Name "bytes" bnp) [e] [] bpos, .Constant (.str "big") u cp] env))) (fun vs s₁ => KFB.StandsAt s.heap.objs.size s₁.heap ∧ wpAny (model G.prog G.w) A (call (.ref s.heap.objs.size) ([] ++ vs)) (fun v s' => Rep s'.heap v (.int (valN ns : Nat)) ∧ Rel G R s s') noE s₁) noE { s with heap := s.heap.push KFB.bound, toks := s.toks + 1 } by
    rw [he1] at hs ⊢
    exact KFB.callWith_fields (by rw [he2]; rfl) (evalArgs_plain hs)
  refine wpAny_items_cons (wpAny_Call_ofName (bi_load f1 (v := .type "bytes") (by simp [biTab]) hkb (by decide) (PyProof.Rows.callWith_type1 ((evl_cons h evl_nil he).run rm f1 a1.pre fun vs s2 r2 a2 f2 p2 k2 => ?_) he (by rfl)))) he1
  cases r2 with
  | cons r rs =>
  cases rs
  obtain ⟨l, xs, rfl, il, q⟩ := rep_isList r
  have hi := q.toInts
  obtain ⟨hbi, hbs⟩ := bytes_ints hr
  refine call_bytes_ints (vs := xs.toList) (ns := NI ns) (by simpa using il) hi (fun n hn => ?_) (by have := q.length; rw [intsD_len, NI_len] at this; rw [this, sizeLine_eq]; omega) rm.hd fun h' t tk hk' => ?_
  · obtain ⟨m, hm, rfl⟩ := mem_NI hn
    have := hr m hm
    omega
  · have a3 : Rel G R s2 { s2 with heap := h', toks := tk } := Rel.of_keeps p2 (keeps_of hk')
    refine wpAny_items_cons (wpAny_Constant_str (wpAny_items_nil ?_)) he2
    have hx' : KFB.StandsAt s.heap.objs.size h' := hk' _ _ (a2.ext _ _ (fun e => by
      have h1 := fs.w0.pn.1
      have h2 := fs.wh.sz
      rw [← e] at h1; exact absurd (Nat.lt_of_lt_of_le h1 h2) (Nat.lt_irrefl _)) hx)
    refine ⟨hx', ?_⟩
    refine KFB.call_of hx' (fun z => fb_tree (by rw [hbs]; exact hl) z) ?_
    rw [hbi]
    have : KFB.value (NI ns) = ((valN ns : Nat) : Int) := val_cast ns 0
    rw [this]
    exact ⟨.int _ _, ((a1.trans a2).trans a3).trans (Rel.of_keeps a3.pre (keeps_toks _))⟩
end
end Bx
end

section
open PySem PySem.W PyProof.Rows PySem.Calls PySem.Spec
set_option autoImplicit false
set_option maxRecDepth 20000
set_option maxHeartbeats 800000
namespace Bx
theorem eqv_vn (v : Int) (ds : List PyData) : PyData.eqv (.tuple [.int v, .list ds]) nothing2 = false := by
  simp [nothing2, PyData.eqv, PyData.eqvAll]
theorem lay_vl (v : Int) (ns : List Int) : (PyData.tuple [.int v, .list (intsD ns)]).canLay0 = true := by
  simp [PyData.canLay0, PyData.canLayAll0, lay_ints]
theorem lay_n2 : nothing2.canLay0 = true := by simp [nothing2, PyData.canLay0, PyData.canLayAll0]
theorem dep_n2 : nothing2.depth = 1 := by simp [nothing2, PyData.depth, PyData.depthAll]
section
variable {G : Gl} {R : Bool} {k : Nat} {env : Env} {ρ : Rho}
/-- encode, where the decode of its text gives an answer -/
theorem c_enc {h : List Nat} {v : Nat} {pr ds : List Nat} (hh : h.length ≤ 10) (hv : v < 32) (hpr : ∀ n ∈ pr, n < 256) (hpl : pr.length ≤ 40) (hcv : cbOut 8 5 true (cbRun 8 5 pr) = .list (intsD (NI ds))) (h32 : ∀ n ∈ ds, n < 32) (hdl : ds.length ≤ 100)
    (hdec : CallsTo G true (k + 4) 12 [.str (S h), .str (encodeN (decide (v ≠ 0)) (S h) (v :: ds))] (.tuple [.int (v : Int), .list (intsD (NI pr))])) :
    CallsTo G true (k + 5) 13 [.str (S h), .int (v : Int), .list (intsD (NI pr))] (.str (encodeN (decide (v ≠ 0)) (S h) (v :: ds))) := by
  refine calls_of (by rfl) (by decide) (by decide) (fun pm cd doc vs hl => ?_) (by rfl) (by rfl) (fun L a cd hcd => ?_)
  · match vs, hl with
    | [x, y, z], _ => rfl
  · clear hcd
    have hv0 : ((v : Int) == 0) = decide (v = 0) := by rw [Bool.eq_iff_iff]; simp
    refine ex_cons (ex_assign (d := encI (decide (v ≠ 0))) (ev_ifexp (c := decide (v = 0)) (Tr.conv (tr_cmp lv ev_int c_eq (by rfl)) hv0) (fun hc => (ev_enc (n := 1) (.inl ⟨rfl, rfl⟩) (by rfl)).conv (by rw [decide_eq_false (by simpa using hc)]; rfl)) (fun hc => (ev_enc (n := 2) (.inr ⟨rfl, rfl⟩) (by rfl)).conv (by rw [decide_eq_true (by simpa using hc)]; rfl))) (.inl (by rfl)) (by rfl)) ?_
    have c3 := c_cvt3 (G := G) (k := k) (f := 8) (t := 5) (vs := pr) (by decide) (by decide) hpr (by omega)
    rw [hcv] at c3
    have hz : ([PyData.int (v : Int)]).length + (intsD (NI ds)).length ≤ sizeLine := by rw [intsD_len, NI_len, sizeLine_eq]; show 1 + _ ≤ _; omega
    have ce := (c_encode (G := G) (k := 0) (m := decide (v ≠ 0)) (x := S h) (ds := v :: ds) (by rw [S_len]; omega) (by rw [List.length_cons]; omega) (fun n hn => by
      rcases List.mem_cons.mp hn with rfl | hn
      · exact hv
      · exact h32 n hn)).lift (R := true)
    refine ex_cons (ex_assign (d := .str (encodeN (decide (v ≠ 0)) (S h) (v :: ds))) (e_call3 9 lv lv (Ev.conv (bo (ev_list (ds := [.int (v : Int)]) (evl_cons lv evl_nil (by rfl)) (by show 1 ≤ sizeLine; decide)) (e_cvt (evl_cons lv (evl_cons ev_int (evl_cons ev_int evl_nil (by rfl)) (by rfl)) (by rfl)) c3 (by omega) (by rfl) (by rfl)) (o_cat hz)) (by rfl)) ce (by omega)) (.inl (by rfl)) (by rfl)) ?_
    refine ex_ifret (b := false) (Tr.conv (tr_cmp (d2 := nothing2) (e_call2 12 lv lv hdec (Nat.le_refl _)) ev_nothing2 (c_eqv (Nat.succ_pos _) (lay_vl _ _) lay_n2 (by rw [dep_n2]; omega)) (by rfl)) (eqv_vn _ _)) (fun e => by cases e) (fun _ => ?_)
    exact ex_last (ex_return lv)
end
end Bx
end

section
open PySem PySem.W PyProof.Rows PySem.Calls PySem.Spec
set_option autoImplicit false
set_option maxRecDepth 20000
namespace Bx
/-! ## any four changed symbols among the last 38 are seen -/
def al (y : Nat) : Nat := ((y &&& 519552495) <<< 1) ^^^ ((((y >>> 4) &&& 34636833) <<< 3) ^^^ ((y >>> 4) &&& 34636833))
def aln : Nat → Nat → Nat
  | 0, y => y
  | n + 1, y => aln n (al y)
def Tn : Nat → Nat → Nat
  | 0, y => y
  | n + 1, y => Tn n (Tp y)
def xT : List Nat := [1, 32, 1024, 32768, 1048576, 33554432, 996825010, 534243686, 69525304, 583756141, 135469217, 482479578, 502406922, 1005602058, 211140198, 709253975, 118769179, 1068636863, 579782315, 10936417, 349965344, 9648560, 308753920, 181314671, 1008714664, 744469497, 420710916, 26372775, 843928800, 630627036, 1050130270, 104561291, 441813183, 305687157, 19213007, 614816224, 418369758, 1041838567]
def redT : List (Nat × Nat) := [(0, 0), (1, 32), (2, 1024), (3, 32768), (4, 1048576), (5, 33554432), (5, 60538917), (5, 44078288), (5, 35159820), (5, 41028693), (5, 44750186), (5, 63544364), (5, 39440946), (5, 49295935), (5, 58186081), (5, 66325882), (5, 50314985), (5, 55226241), (5, 64161634), (4, 2026884), (5, 64860288), (4, 1696916), (5, 54301312), (5, 62876419), (5, 62732455), (5, 36601735), (5, 64566136), (4, 1269104), (5, 40611328), (5, 65107705), (5, 46393198), (5, 35301790), (5, 58574581), (5, 64627002), (4, 1522409), (5, 48717088), (5, 47713942), (5, 50092260)]
def mulc (s z : Nat) : Nat := (if s.testBit 0 then aln 0 z else 0) ^^^ ((if s.testBit 1 then aln 1 z else 0) ^^^ ((if s.testBit 2 then aln 2 z else 0) ^^^ ((if s.testBit 3 then aln 3 z else 0) ^^^ (if s.testBit 4 then aln 4 z else 0))))
def redq (q z y : Nat) : Nat := (y ^^^ mulc ((y >>> (5 * q)) &&& 31) z) >>> 5
def red (i y : Nat) : Nat := redq (redT.getD i (0, 0)).1 (redT.getD i (0, 0)).2 y
abbrev Lin (f : Nat → Nat) : Prop := ∀ a b, f (a ^^^ b) = f a ^^^ f b
theorem Lin.zero {f : Nat → Nat} (h : Lin f) : f 0 = 0 := by
  have := h 0 0
  rw [Nat.xor_self, Nat.xor_self] at this
  exact this
theorem lin_ext {f g : Nat → Nat} (hf : Lin f) (hg : Lin g) : ∀ n, (∀ b < n, f (2 ^ b) = g (2 ^ b)) → ∀ y < 2 ^ n, f y = g y
  | 0, _, y, hy => by
    have : y = 0 := by simpa using hy
    rw [this, hf.zero, hg.zero]
  | n + 1, h, y, hy => by
    by_cases hlt : y < 2 ^ n
    · exact lin_ext hf hg n (fun b hb => h b (by omega)) y hlt
    · have hr : y - 2 ^ n < 2 ^ n := by rw [Nat.pow_succ] at hy; omega
      have e : y = 2 ^ n ^^^ (y - 2 ^ n) := by
        apply Nat.eq_of_testBit_eq
        intro i
        have e1 : y = 2 ^ n * 1 + (y - 2 ^ n) := by omega
        conv => lhs; rw [e1]
        rw [Nat.testBit_two_pow_mul_add _ hr, Nat.testBit_xor, Nat.testBit_two_pow]
        split
        · rename_i hi
          have : decide (n = i) = false := decide_eq_false (by omega)
          rw [this, Bool.false_xor]
        · rename_i hi
          have hz : (y - 2 ^ n).testBit i = false := Nat.testBit_lt_two_pow (Nat.lt_of_lt_of_le hr (Nat.pow_le_pow_right (by decide) (by omega)))
          rw [hz, Bool.xor_false, Bool.eq_iff_iff, Nat.testBit_one_eq_true_iff_self_eq_zero, decide_eq_true_iff]; omega
      rw [e, hf, hg, h n (by omega), lin_ext hf hg n (fun b hb => h b (by omega)) _ hr]
theorem Lin.xor {f g : Nat → Nat} (hf : Lin f) (hg : Lin g) : Lin fun y => f y ^^^ g y := fun a b => by
  show f (a ^^^ b) ^^^ g (a ^^^ b) = (f a ^^^ g a) ^^^ (f b ^^^ g b)
  rw [hf, hg]; ac_rfl
theorem Lin.comp {f g : Nat → Nat} (hf : Lin f) (hg : Lin g) : Lin fun y => f (g y) := fun a b => by
  show f (g (a ^^^ b)) = f (g a) ^^^ f (g b)
  rw [hg, hf]
theorem lin_and (m : Nat) : Lin fun y => y &&& m := fun a b => Nat.and_xor_distrib_right
theorem lin_shr (n : Nat) : Lin fun y => y >>> n := fun a b => Nat.shiftRight_xor_distrib
theorem lin_shl (n : Nat) : Lin fun y => y <<< n := fun a b => Nat.shiftLeft_xor_distrib
theorem lin_id : Lin fun y => y := fun _ _ => rfl
theorem al_lin : Lin al := (((lin_shl 1).comp (lin_and 519552495))).xor (((lin_shl 3).comp ((lin_and 34636833).comp (lin_shr 4))).xor ((lin_and 34636833).comp (lin_shr 4)))
theorem aln_lin : ∀ n, Lin (aln n)
  | 0 => lin_id
  | n + 1 => (aln_lin n).comp al_lin
theorem Tn_lin : ∀ n, Lin (Tn n)
  | 0 => lin_id
  | n + 1 => (Tn_lin n).comp Tp_lin
theorem lin_bit (b c : Nat) : Lin fun s => if s.testBit b then c else 0 := fun x y => by
  show (if (x ^^^ y).testBit b = true then c else 0) = (if x.testBit b = true then c else 0) ^^^ (if y.testBit b = true then c else 0)
  rw [Nat.testBit_xor]
  cases x.testBit b <;> cases y.testBit b <;> simp
theorem mulc_lin (z : Nat) : Lin fun s => mulc s z := (lin_bit 0 _).xor ((lin_bit 1 _).xor ((lin_bit 2 _).xor ((lin_bit 3 _).xor (lin_bit 4 _))))
theorem redq_lin (q z : Nat) : Lin (redq q z) := (lin_shr 5).comp (lin_id.xor ((mulc_lin z).comp ((lin_and 31).comp (lin_shr (5 * q)))))
theorem red_lin (i : Nat) : Lin (red i) := redq_lin _ _
theorem gx_lt (t : Nat) : ∀ i ≤ 5, pin t 0 i < 2 ^ 30 := by
  intro i
  induction i with
  | zero => intro _; show (0 : Nat) < 2 ^ 30; decide
  | succ i ih =>
    intro hi
    refine Nat.xor_lt_two_pow (ih (by omega)) ?_
    split
    · decide
    · have : ∀ j < 5, gens.getD j 0 < 2 ^ 30 := by decide
      exact this i (by omega)
theorem Tp_lt (c : Nat) : Tp c < 2 ^ 30 := by
  unfold Tp
  rw [pstep_eq, Nat.xor_zero]
  refine Nat.xor_lt_two_pow ?_ (gx_lt _ 5 (Nat.le_refl _))
  have := Nat.mod_lt c (show 0 < 2 ^ 25 by decide)
  omega
theorem al_lt (y : Nat) : al y < 2 ^ 30 := by
  unfold al
  have h1 : y &&& 519552495 ≤ 519552495 := Nat.and_le_right
  have h2 : (y >>> 4) &&& 34636833 ≤ 34636833 := Nat.and_le_right
  refine Nat.xor_lt_two_pow ?_ (Nat.xor_lt_two_pow ?_ ?_)
  · rw [Nat.shiftLeft_eq]; omega
  · rw [Nat.shiftLeft_eq]; omega
  · omega
theorem aln_lt : ∀ n y, y < 2 ^ 30 → aln n y < 2 ^ 30
  | 0, _, h => h
  | n + 1, y, _ => aln_lt n _ (al_lt y)
theorem Tn_lt : ∀ n y, y < 2 ^ 30 → Tn n y < 2 ^ 30
  | 0, _, h => h
  | n + 1, y, _ => Tn_lt n _ (Tp_lt y)
theorem T_al : ∀ y < 2 ^ 30, Tp (al y) = al (Tp y) := lin_ext (Lin.comp Tp_lin al_lin) (Lin.comp al_lin Tp_lin) 30 (by decide +kernel)
theorem al31 : ∀ y < 2 ^ 30, aln 31 y = y := lin_ext (aln_lin 31) lin_id 30 (by decide +kernel)
theorem red_al : ∀ i < 38, 0 < i → ∀ y < 2 ^ 30, red i (al y) = al (red i y) := by
  intro i hi h0
  have : ∀ i < 38, 0 < i → ∀ b < 30, red i (al (2 ^ b)) = al (red i (2 ^ b)) := by decide +kernel
  exact lin_ext (Lin.comp (red_lin i) al_lin) (Lin.comp al_lin (red_lin i)) 30 (this i hi h0)
theorem red_lt {i y : Nat} (h : y < 2 ^ 30) (hi : i < 38) : red i y < 2 ^ 30 := by
  have hz : ∀ i < 38, (redT.getD i (0, 0)).2 < 2 ^ 30 := by decide
  have hm : ∀ s z, z < 2 ^ 30 → mulc s z < 2 ^ 30 := fun s z hz => by
    have hb : ∀ b n, (if s.testBit b = true then aln n z else 0) < 2 ^ 30 := fun b n => by
      split
      · exact aln_lt n z hz
      · decide
    exact Nat.xor_lt_two_pow (hb 0 0) (Nat.xor_lt_two_pow (hb 1 1) (Nat.xor_lt_two_pow (hb 2 2) (Nat.xor_lt_two_pow (hb 3 3) (hb 4 4))))
  show (y ^^^ mulc _ _) >>> 5 < _
  rw [Nat.shiftRight_eq_div_pow]
  have := Nat.xor_lt_two_pow h (hm ((y >>> (5 * (redT.getD i (0, 0)).1)) &&& 31) _ (hz i hi))
  exact Nat.lt_of_le_of_lt (Nat.div_le_self _ _) this
theorem T_aln : ∀ k y, y < 2 ^ 30 → Tp (aln k y) = aln k (Tp y)
  | 0, _, _ => rfl
  | k + 1, y, h => by
    show Tp (aln k (al y)) = aln k (al (Tp y))
    rw [T_aln k _ (al_lt y), T_al y h]
theorem Tn_aln : ∀ n k y, y < 2 ^ 30 → Tn n (aln k y) = aln k (Tn n y)
  | 0, _, _, _ => rfl
  | n + 1, k, y, h => by
    show Tn n (Tp (aln k y)) = aln k (Tn n (Tp y))
    rw [T_aln k y h, Tn_aln n k _ (Tp_lt y)]
theorem red_aln {i : Nat} (hi : i < 38) (h0 : 0 < i) : ∀ k y, y < 2 ^ 30 → red i (aln k y) = aln k (red i y)
  | 0, _, _ => rfl
  | k + 1, y, h => by
    show red i (aln k (al y)) = aln k (al (red i y))
    rw [red_aln hi h0 k _ (al_lt y), red_al i hi h0 y h]
theorem aln_add : ∀ a b y, aln (a + b) y = aln a (aln b y)
  | a, 0, _ => rfl
  | a, b + 1, y => aln_add a b (al y)
theorem aln_mul31 : ∀ m y, y < 2 ^ 30 → aln (31 * m) y = y
  | 0, _, _ => rfl
  | m + 1, y, h => by rw [Nat.mul_succ, aln_add, al31 y h, aln_mul31 m y h]
theorem aln_mod (n y : Nat) (h : y < 2 ^ 30) : aln n y = aln (n % 31) y := by
  conv => lhs; rw [← Nat.mod_add_div n 31, aln_add, aln_mul31 _ _ h]
theorem sym_al : ∀ c < 32, 0 < c → aln (lg c) 1 = c := by decide +kernel
theorem xT_ok : ∀ n < 38, Tn n 1 = xT.getD n 0 := by decide +kernel
theorem red_one : ∀ i < 38, 0 < i → red i 1 = 0 ∧ red i (xT.getD i 0) = 0 := by decide +kernel
theorem Tp_zero : ∀ y < 2 ^ 30, Tp y = 0 → y = 0 := by
  intro y hy h
  unfold Tp at h
  rw [pstep_eq, Nat.xor_zero] at h
  have ht : y / 2 ^ 25 < 32 := by omega
  have hlow : ∀ t < 32, 0 < t → Gx t % 32 ≠ 0 := by decide +kernel
  have h0 : y / 2 ^ 25 = 0 := by
    by_cases h0 : y / 2 ^ 25 = 0
    · exact h0
    · exfalso
      have e := congrArg (fun n => n % 2 ^ 5) h
      rw [mod_xor] at e
      have e1 : (y % 2 ^ 25 * 32) % 2 ^ 5 = 0 := by omega
      rw [e1, Nat.zero_xor] at e
      exact hlow _ ht (by omega) e
  rw [h0, show Gx 0 = 0 from by decide, Nat.xor_zero] at h
  omega
theorem Tn_zero : ∀ n y, y < 2 ^ 30 → Tn n y = 0 → y = 0
  | 0, _, _, h => h
  | n + 1, y, hy, h => Tp_zero y hy (Tn_zero n _ (Tp_lt y) h)
def lo2 (a b : Nat) : Nat := bif Nat.ble a b then a else b
theorem lo2_l (a b : Nat) : lo2 a b ≤ a := by
  unfold lo2
  cases h : Nat.ble a b
  · have : ¬ a ≤ b := fun hc => by rw [Nat.ble_eq_true_of_le hc] at h; cases h
    show b ≤ a; omega
  · exact Nat.le_refl _
theorem lo2_r (a b : Nat) : lo2 a b ≤ b := by
  unfold lo2
  cases h : Nat.ble a b
  · exact Nat.le_refl _
  · exact Nat.le_of_ble_eq_true h
theorem lo2_or (a b : Nat) : lo2 a b = a ∨ lo2 a b = b := by
  unfold lo2
  cases Nat.ble a b
  · exact .inr rfl
  · exact .inl rfl
/-- the least of b and the next n of u -/
def mn : Nat → Nat → Nat → Nat
  | 0, b, _ => b
  | n + 1, b, u => mn n (lo2 b u) (al u)
theorem mn_le : ∀ n b u, mn n b u ≤ b ∧ ∀ m, m < n → mn n b u ≤ aln m u
  | 0, b, u => ⟨Nat.le_refl _, fun m h => absurd h (Nat.not_lt_zero _)⟩
  | n + 1, b, u => by
    obtain ⟨h1, h2⟩ := mn_le n (lo2 b u) (al u)
    refine ⟨Nat.le_trans h1 (lo2_l _ _), fun m h => ?_⟩
    cases m with
    | zero => exact Nat.le_trans h1 (lo2_r _ _)
    | succ m => exact h2 m (by omega)
theorem mn_mem : ∀ n b u, mn n b u = b ∨ ∃ m, m < n ∧ mn n b u = aln m u
  | 0, b, u => .inl rfl
  | n + 1, b, u => by
    rcases mn_mem n (lo2 b u) (al u) with h | ⟨m, hm, h⟩
    · rcases lo2_or b u with e | e
      · exact .inl (h.trans e)
      · exact .inr ⟨0, by omega, h.trans e⟩
    · exact .inr ⟨m + 1, by omega, h⟩
/-- the least of u's orbit -/
def om (u : Nat) : Nat := mn 30 u (al u)
theorem om_le (u m : Nat) (h : m < 31) : om u ≤ aln m u := by
  cases m with
  | zero => exact (mn_le 30 u (al u)).1
  | succ m => exact (mn_le 30 u (al u)).2 m (by omega)
theorem om_mem (u : Nat) : ∃ m, m < 31 ∧ om u = aln m u := by
  rcases mn_mem 30 u (al u) with h | ⟨m, hm, h⟩
  · exact ⟨0, by omega, h⟩
  · exact ⟨m + 1, by omega, h⟩
theorem om_of {u v m : Nat} (hm : m < 31) (e : aln m v = om u) : om v ≤ om u := by
  have := om_le v m hm
  rw [e] at this; exact this
theorem om_aln {n u : Nat} (h : u < 2 ^ 30) : om (aln n u) = om u := by
  apply Nat.le_antisymm
  · obtain ⟨m, hm, e⟩ := om_mem u
    refine om_of (m := (30 * n + m) % 31) (Nat.mod_lt _ (by decide)) ?_
    have e1 := aln_mod (30 * n + m) (aln n u) (aln_lt n u h)
    have e2 := aln_add (30 * n + m) n u
    have e3 := aln_mod (30 * n + m + n) u h
    have e4 : (30 * n + m + n) % 31 = m := by omega
    rw [e4] at e3
    exact e1.symm.trans (e2.symm.trans (e3.trans e.symm))
  · obtain ⟨m, hm, e⟩ := om_mem (aln n u)
    refine om_of (m := (m + n) % 31) (Nat.mod_lt _ (by decide)) ?_
    exact (aln_mod (m + n) u h).symm.trans ((aln_add m n u).trans e.symm)
def dif : List Nat → Bool
  | [] => true
  | u :: r => !(Nat.beq u 0) && r.all (fun w => !(Nat.beq u w)) && dif r
theorem chk_ok : ∀ i < 38, dif ((xT.drop (i + 1)).map fun x => om (red i x)) = true := by decide +kernel
end Bx
end

section
open PySem PySem.W PyProof.Rows PySem.Calls PySem.Spec
set_option autoImplicit false
set_option maxRecDepth 20000
namespace Bx
theorem dif_get : ∀ (L : List Nat), dif L = true → (∀ (i : Nat) u, L[i]? = some u → u ≠ 0) ∧ ∀ (i j : Nat) u w, i < j → L[i]? = some u → L[j]? = some w → u ≠ w
  | [], _ => ⟨fun i u h => by simp at h, fun i j u w _ h => by simp at h⟩
  | x :: r, h => by
    simp only [dif, Bool.and_eq_true, Bool.not_eq_true', List.all_eq_true] at h
    obtain ⟨⟨h1, h2⟩, h3⟩ := h
    obtain ⟨a, b⟩ := dif_get r h3
    refine ⟨fun i u e => ?_, fun i j u w hij e1 e2 => ?_⟩
    · cases i with
      | zero => simp at e; subst e; intro e; subst e; exact absurd h1 (by decide)
      | succ i => exact a i u (by simpa using e)
    · cases j with
      | zero => omega
      | succ j =>
        cases i with
        | zero =>
          simp at e1; subst e1
          have := h2 w (List.mem_of_getElem? (by simpa using e2))
          intro e
          rw [e, Nat.beq_refl] at this
          cases this
        | succ i => exact b i j u w (by omega) (by simpa using e1) (by simpa using e2)
theorem aln_0 : ∀ n, aln n 0 = 0 := fun n => (aln_lin n).zero
theorem le_z {a b : Nat} (h : a ≤ b) (hb : b = 0) : a = 0 := by omega
theorem om_0 : om 0 = 0 := le_z (om_le 0 0 (by decide)) (aln_0 0)
theorem map_two (f g : Nat → Nat) (L : List Nat) : (L.map fun x => g (f x)) = (L.map f).map g := by rw [List.map_map]; rfl
theorem chk_get {i : Nat} (hi : i < 38) : (∀ (j : Nat) u, u < 2 ^ 30 → ((xT.drop (i + 1)).map (red i))[j]? = some u → u ≠ 0) ∧ ∀ (j l : Nat) u w, u < 2 ^ 30 → j < l → ((xT.drop (i + 1)).map (red i))[j]? = some u → ((xT.drop (i + 1)).map (red i))[l]? = some w → ∀ n < 31, aln n u ≠ w := by
  have h := chk_ok i hi
  generalize xT.drop (i + 1) = L at *
  have e : (L.map fun x => om (red i x)) = (L.map (red i)).map om := map_two (red i) om L
  rw [e] at h
  generalize L.map (red i) = L at *
  obtain ⟨a, b⟩ := dif_get _ h
  have g : ∀ (j : Nat) u, L[j]? = some u → (L.map om)[j]? = some (om u) := fun j u h => by rw [List.getElem?_map, h]; rfl
  refine ⟨fun j u hu h0 hz => ?_, fun j l u w hu hjl h1 h2 n hn hz => ?_⟩
  · exact a j _ (g j u h0) ((congrArg om hz).trans om_0)
  · exact b j l _ _ hjl (g j u h1) (g l w h2) ((om_aln (n := n) hu).symm.trans (congrArg om hz))
theorem X_get {j : Nat} (hj : j < 38) : xT[j]? = some (Tn j 1) := by
  rw [xT_ok j hj, List.getD_eq_getElem?_getD]
  have : j < xT.length := hj
  rw [List.getElem?_eq_getElem this]; rfl
theorem red_get {i j : Nat} (hij : i < j) (hj : j < 38) : ((xT.drop (i + 1)).map (red i))[j - (i + 1)]? = some (red i (Tn j 1)) := by
  rw [List.getElem?_map, List.getElem?_drop, show i + 1 + (j - (i + 1)) = j from by omega, X_get hj]; rfl
theorem Tn1_lt (j : Nat) : Tn j 1 < 2 ^ 30 := Tn_lt j 1 (by decide)
theorem aln_cancel {a b u w : Nat} (hu : u < 2 ^ 30) (hw : w < 2 ^ 30) (h : aln a u = aln b w) : ∃ n < 31, aln n u = w := by
  refine ⟨(30 * b + a) % 31, Nat.mod_lt _ (by decide), ?_⟩
  rw [← aln_mod _ _ hu, aln_add, h, ← aln_add, show 30 * b + b = 31 * b from by omega, aln_mul31 _ _ hw]
theorem xor_eq {a b : Nat} (h : a ^^^ b = 0) : a = b := by
  have : a ^^^ b ^^^ b = b := by rw [h, Nat.zero_xor]
  rwa [Nat.xor_assoc, Nat.xor_self, Nat.xor_zero] at this
theorem aln_zero : ∀ n y, y < 2 ^ 30 → aln n y = 0 → y = 0 := fun n y hy h => by
  have := congrArg (aln (30 * n)) h
  rw [← aln_add, show 30 * n + n = 31 * n from by omega, aln_mul31 _ _ hy, (aln_lin _).zero] at this
  exact this
/-- c on the place n -/
theorem term_eq {n c : Nat} (hc : c < 32) (h0 : 0 < c) : Tn n c = aln (lg c) (Tn n 1) := by
  conv => lhs; rw [← sym_al c hc h0]
  rw [Tn_aln n _ 1 (by decide)]
structure Sy (c : Nat) : Prop where
  lt : c < 32
  pos : 0 < c
theorem Sy.b {c : Nat} (h : Sy c) : c < 2 ^ 30 := by have := h.lt; omega
theorem ind1 {n c : Nat} (h : Sy c) : Tn n c ≠ 0 := fun e => by
  have := Tn_zero n c h.b e
  have := h.pos; omega
theorem one_b : (1 : Nat) < 2 ^ 30 := by decide
/-- red i of a term -/
theorem red_term {i j c : Nat} (hi : i < 38) (h0 : 0 < i) (h : Sy c) : red i (Tn j c) = aln (lg c) (red i (Tn j 1)) := by
  rw [term_eq h.lt h.pos, red_aln hi h0 _ _ (Tn1_lt j)]
theorem red_c {i c : Nat} (hi : i < 38) (h0 : 0 < i) (h : Sy c) : red i c = 0 := by
  have := red_term (j := 0) hi h0 h
  rw [show Tn 0 c = c from rfl, show Tn 0 1 = 1 from rfl, (red_one i hi h0).1, (aln_lin _).zero] at this
  exact this
theorem red_self {i c : Nat} (hi : i < 38) (h0 : 0 < i) (h : Sy c) : red i (Tn i c) = 0 := by
  rw [red_term hi h0 h, xT_ok i hi, (red_one i hi h0).2, (aln_lin _).zero]
theorem in2 {i c2 c1 : Nat} (hi : i < 38) (h0 : 0 < i) (h2 : Sy c2) (h1 : Sy c1) : Tn i c2 ^^^ c1 ≠ 0 := fun e => by
  have e := xor_eq e
  rw [term_eq h2.lt h2.pos, xT_ok i hi] at e
  have : ∀ i < 38, 0 < i → ∀ k < 31, 32 ≤ aln k (xT.getD i 0) := by decide +kernel
  have hk : ∀ c < 32, 0 < c → lg c < 31 := by decide +kernel
  have := this i hi h0 (lg c2) (hk c2 h2.lt h2.pos)
  have := h1.lt
  omega
theorem in3 {i j c3 c2 c1 : Nat} (hij : i < j) (hj : j < 38) (h0 : 0 < i) (h3 : Sy c3) (h2 : Sy c2) (h1 : Sy c1) : Tn j c3 ^^^ (Tn i c2 ^^^ c1) ≠ 0 := fun e => by
  have hi : i < 38 := by omega
  have e := congrArg (red i) e
  rw [red_lin, red_lin, red_self hi h0 h2, red_c hi h0 h1, (red_lin i).zero, Nat.xor_self, Nat.xor_zero, red_term hi h0 h3] at e
  have := aln_zero _ _ (red_lt (Tn1_lt j) hi) e
  exact (chk_get hi).1 _ _ (red_lt (Tn1_lt j) hi) (red_get hij hj) this
theorem in4 {i j l c4 c3 c2 c1 : Nat} (hij : i < j) (hjl : j < l) (hl : l < 38) (h0 : 0 < i) (h4 : Sy c4) (h3 : Sy c3) (h2 : Sy c2) (h1 : Sy c1) : Tn l c4 ^^^ (Tn j c3 ^^^ (Tn i c2 ^^^ c1)) ≠ 0 := fun e => by
  have hi : i < 38 := by omega
  have e := congrArg (red i) e
  rw [red_lin, red_lin, red_lin, red_self hi h0 h2, red_c hi h0 h1, (red_lin i).zero, Nat.xor_self, Nat.xor_zero, red_term hi h0 h3, red_term hi h0 h4] at e
  have e := xor_eq e
  obtain ⟨n, hn, h⟩ := aln_cancel (red_lt (Tn1_lt j) hi) (red_lt (Tn1_lt l) hi) e.symm
  exact (chk_get hi).2 _ _ _ _ (red_lt (Tn1_lt j) hi) (by omega) (red_get hij (by omega)) (red_get (by omega) hl) n hn h
theorem Tn_add : ∀ a b y, Tn (a + b) y = Tn b (Tn a y)
  | 0, b, y => by rw [Nat.zero_add]; rfl
  | a + 1, b, y => by rw [show a + 1 + b = (a + b) + 1 from by omega]; exact Tn_add a b (Tp y)
/-! ### the terms of a word -/
def syn (d : List Nat) : Nat := d.foldl pstep 0
theorem fold_zeros : ∀ n s, (List.replicate n 0).foldl pstep s = Tn n s
  | 0, _ => rfl
  | n + 1, s => by rw [List.replicate_succ, List.foldl_cons]; exact fold_zeros n (Tp s)
theorem zip_zeros : ∀ d : List Nat, List.zipWith (fun r g => r ^^^ g) (List.replicate d.length 0) d = d
  | [] => rfl
  | x :: d => by
    show (0 ^^^ x) :: _ = _
    rw [Nat.zero_xor]; exact congrArg _ (zip_zeros d)
theorem syn_cons (c : Nat) (d : List Nat) : syn (c :: d) = Tn d.length c ^^^ syn d := by
  show d.foldl pstep (pstep 0 c) = _
  have e0 : pstep 0 c = c := by rw [pstep_T, Lin.zero Tp_lin, Nat.zero_xor]
  have := fold_lin (List.replicate d.length 0) d c 0 (by simp)
  rw [zip_zeros, Nat.xor_zero, fold_zeros] at this
  rw [e0, this]; rfl
def wt (d : List Nat) : Nat := (d.filter fun x => x != 0).length
def terms : List Nat → List (Nat × Nat)
  | [] => []
  | c :: d => if c = 0 then terms d else (d.length, c) :: terms d
def sumT : List (Nat × Nat) → Nat
  | [] => 0
  | (n, c) :: r => Tn n c ^^^ sumT r
theorem syn_terms : ∀ d, syn d = sumT (terms d)
  | [] => rfl
  | c :: d => by
    rw [syn_cons, syn_terms d]
    show _ = sumT (if c = 0 then terms d else (d.length, c) :: terms d)
    by_cases h : c = 0
    · rw [if_pos h, h, (Tn_lin _).zero, Nat.zero_xor]
    · rw [if_neg h]; rfl
theorem terms_len : ∀ d, (terms d).length = wt d
  | [] => rfl
  | c :: d => by
    show (if c = 0 then terms d else (d.length, c) :: terms d).length = ((c :: d).filter fun x => x != 0).length
    by_cases h : c = 0
    · rw [if_pos h, h, terms_len d]; rfl
    · rw [if_neg h, List.length_cons, terms_len d, List.filter_cons_of_pos (by simpa using h)]; rfl
theorem terms_ok : ∀ d : List Nat, (∀ n ∈ d, n < 32) → ∀ p ∈ terms d, p.1 < d.length ∧ Sy p.2
  | [], _, p, hp => by cases hp
  | c :: d, hd, p, hp => by
    have ih := terms_ok d (fun n hn => hd n (.tail _ hn))
    have hp' : p ∈ (if c = 0 then terms d else (d.length, c) :: terms d) := hp
    by_cases h : c = 0
    · rw [if_pos h] at hp'
      have := ih p hp'
      exact ⟨by rw [List.length_cons]; omega, this.2⟩
    · rw [if_neg h] at hp'
      rcases List.mem_cons.mp hp' with rfl | hp'
      · exact ⟨by rw [List.length_cons]; exact Nat.lt_succ_self _, hd c (.head _), by omega⟩
      · have := ih p hp'
        exact ⟨by rw [List.length_cons]; omega, this.2⟩
theorem terms_sorted : ∀ d : List Nat, (∀ n ∈ d, n < 32) → (terms d).Pairwise fun p q => q.1 < p.1
  | [], _ => .nil
  | c :: d, hd => by
    have ih := terms_sorted d (fun n hn => hd n (.tail _ hn))
    show (if c = 0 then terms d else (d.length, c) :: terms d).Pairwise _
    split
    · exact ih
    · exact .cons (fun q hq => (terms_ok d (fun n hn => hd n (.tail _ hn)) q hq).1) ih
/-- at most four symbols among 38 places: never a word of the code, but the empty one -/
theorem dist {d : List Nat} (hd : ∀ n ∈ d, n < 32) (hl : d.length ≤ 38) (hw : wt d ≤ 4) (hs : syn d = 0) : wt d = 0 := by
  have ho := terms_ok d hd
  have hp := terms_sorted d hd
  rw [syn_terms] at hs
  rw [← terms_len] at hw ⊢
  generalize terms d = t at *
  match t, hw with
  | [], _ => rfl
  | [(n1, c1)], _ =>
    exfalso
    have h1 := ho _ (.head _)
    simp only [sumT, Nat.xor_zero] at hs
    exact ind1 h1.2 hs
  | [(n2, c2), (n1, c1)], _ =>
    exfalso
    have h2 := ho _ (.head _)
    have h1 := ho _ (.tail _ (.head _))
    simp only [List.pairwise_cons, List.mem_cons, List.not_mem_nil, or_false, forall_eq] at hp
    simp only [sumT, Nat.xor_zero] at hs
    dsimp only at h1 h2 hp
    have e2 : Tn n2 c2 = Tn n1 (Tn (n2 - n1) c2) := by rw [← Tn_add]; congr 1; omega
    rw [e2, ← Tn_lin] at hs
    exact in2 (by omega) (by omega) h2.2 h1.2 (Tn_zero n1 _ (Nat.xor_lt_two_pow (Tn_lt _ _ h2.2.b) h1.2.b) hs)
  | [(n3, c3), (n2, c2), (n1, c1)], _ =>
    exfalso
    have h3 := ho _ (.head _)
    have h2 := ho _ (.tail _ (.head _))
    have h1 := ho _ (.tail _ (.tail _ (.head _)))
    simp only [List.pairwise_cons, List.mem_cons, List.not_mem_nil, or_false, forall_eq, forall_eq_or_imp] at hp
    simp only [sumT, Nat.xor_zero] at hs
    dsimp only at h1 h2 h3 hp
    have e2 : Tn n2 c2 = Tn n1 (Tn (n2 - n1) c2) := by rw [← Tn_add]; congr 1; omega
    have e3 : Tn n3 c3 = Tn n1 (Tn (n3 - n1) c3) := by rw [← Tn_add]; congr 1; omega
    rw [e2, e3, ← Tn_lin, ← Tn_lin] at hs
    exact in3 (by omega) (by omega) (by omega) h3.2 h2.2 h1.2 (Tn_zero n1 _ (Nat.xor_lt_two_pow (Tn_lt _ _ h3.2.b) (Nat.xor_lt_two_pow (Tn_lt _ _ h2.2.b) h1.2.b)) hs)
  | [(n4, c4), (n3, c3), (n2, c2), (n1, c1)], _ =>
    exfalso
    have h4 := ho _ (.head _)
    have h3 := ho _ (.tail _ (.head _))
    have h2 := ho _ (.tail _ (.tail _ (.head _)))
    have h1 := ho _ (.tail _ (.tail _ (.tail _ (.head _))))
    simp only [List.pairwise_cons, List.mem_cons, List.not_mem_nil, or_false, forall_eq, forall_eq_or_imp] at hp
    simp only [sumT, Nat.xor_zero] at hs
    dsimp only at h1 h2 h3 h4 hp
    have e2 : Tn n2 c2 = Tn n1 (Tn (n2 - n1) c2) := by rw [← Tn_add]; congr 1; omega
    have e3 : Tn n3 c3 = Tn n1 (Tn (n3 - n1) c3) := by rw [← Tn_add]; congr 1; omega
    have e4 : Tn n4 c4 = Tn n1 (Tn (n4 - n1) c4) := by rw [← Tn_add]; congr 1; omega
    rw [e2, e3, e4, ← Tn_lin, ← Tn_lin, ← Tn_lin] at hs
    exact in4 (by omega) (by omega) (by omega) (by omega) h4.2 h3.2 h2.2 h1.2 (Tn_zero n1 _ (Nat.xor_lt_two_pow (Tn_lt _ _ h4.2.b) (Nat.xor_lt_two_pow (Tn_lt _ _ h3.2.b) (Nat.xor_lt_two_pow (Tn_lt _ _ h2.2.b) h1.2.b))) hs)
end Bx
end

section
open PySem PySem.W PyProof.Rows PySem.Calls PySem.Spec
set_option autoImplicit false
set_option maxRecDepth 20000
namespace Bx
def valB (f : Nat) (vs : List Nat) : Nat := vs.foldl (fun a v => a * 2 ^ f + v) 0
theorem mod_le {x y a b : Nat} (hab : a ≤ b) (h : x % 2 ^ b = y % 2 ^ b) : x % 2 ^ a = y % 2 ^ a := by
  have hd : 2 ^ a ∣ 2 ^ b := Nat.pow_dvd_pow 2 hab
  rw [← Nat.mod_mod_of_dvd x hd, h, Nat.mod_mod_of_dvd y hd]
theorem div_mod_eq {x y E t B : Nat} (hB : E + t ≤ B) (h : x % 2 ^ B = y % 2 ^ B) : x / 2 ^ E % 2 ^ t = y / 2 ^ E % 2 ^ t := by
  have h' := mod_le hB h
  rw [Nat.pow_add] at h'
  rw [← Nat.mod_mul_right_div_self, ← Nat.mod_mul_right_div_self, h']
theorem or_add {a v f : Nat} (h : v < 2 ^ f) : a * 2 ^ f ||| v = a * 2 ^ f + v := by
  rw [Nat.mul_comm, Nat.two_pow_add_eq_or_of_lt h]
structure CbIs (f t i V : Nat) (s : Cb) : Prop where
  bits : s.bits = (i * f) % t
  out : s.out = (List.range ((i * f) / t)).map fun j => V / 2 ^ (i * f - (j + 1) * t) % 2 ^ t
  acc : s.acc % 2 ^ s.bits = V % 2 ^ s.bits
theorem cb_step {f t i V v : Nat} {s : Cb} (hf : 0 < f) (ht : 0 < t) (hv : v < 2 ^ f) (h : CbIs f t i V s) : CbIs f t (i + 1) (V * 2 ^ f + v) (cbNext f t s v) := by
  obtain ⟨hb, ho, ha⟩ := h
  have hbt : s.bits < t := by rw [hb]; exact Nat.mod_lt _ ht
  have hdm := Nat.mod_add_div (i * f) t
  rw [← hb, Nat.mul_comm] at hdm
  have hi1 : (i + 1) * f = s.bits + f + (i * f) / t * t := by rw [Nat.succ_mul]; omega
  have hk : ((i + 1) * f) / t = (i * f) / t + (s.bits + f) / t := by
    rw [hi1, Nat.add_mul_div_right _ _ ht, Nat.add_comm]
  have hB := Nat.mod_add_div (s.bits + f) t
  rw [Nat.mul_comm] at hB
  have hbn : (cbNext f t s v).bits = (s.bits + f) % t := by
    show (s.bits + f) - (s.bits + f) / t * t = _
    omega
  have haccB : (((s.acc * 2 ^ f) ||| v) % 2 ^ (f + t - 1)) % 2 ^ (s.bits + f) = (V * 2 ^ f + v) % 2 ^ (s.bits + f) := by
    rw [Nat.mod_mod_of_dvd _ (Nat.pow_dvd_pow 2 (by omega)), or_add hv]
    have e : ∀ x : Nat, (x * 2 ^ f + v) % 2 ^ (s.bits + f) = ((x % 2 ^ s.bits) * 2 ^ f + v) % 2 ^ (s.bits + f) := fun x => by
      rw [← Nat.mod_add_mod (x * 2 ^ f), Nat.pow_add, Nat.mul_mod_mul_right]
    rw [e, ha, ← e]
  refine ⟨?_, ?_, ?_⟩
  · rw [hbn, hi1, Nat.add_mul_mod_self_right]
  · show s.out ++ (List.range ((s.bits + f) / t)).map _ = _
    rw [hk, List.range_add, List.map_append, List.map_map, ho]
    congr 1
    · refine List.map_congr_left fun j hj => ?_
      have hj := List.mem_range.mp hj
      have hle : (j + 1) * t ≤ i * f := Nat.le_trans (Nat.mul_le_mul_right t hj) (Nat.div_mul_le_self _ _)
      have e : (i + 1) * f - (j + 1) * t = f + (i * f - (j + 1) * t) := by rw [Nat.succ_mul i]; omega
      rw [e, Nat.pow_add, ← Nat.div_div_eq_div_mul]
      have e2 : (V * 2 ^ f + v) / 2 ^ f = V := by
        rw [Nat.mul_comm, Nat.mul_add_div (Nat.two_pow_pos f), Nat.div_eq_of_lt hv, Nat.add_zero]
      rw [e2]
    · refine List.map_congr_left fun j hj => ?_
      have hj := List.mem_range.mp hj
      have hle : (j + 1) * t ≤ s.bits + f := Nat.le_trans (Nat.mul_le_mul_right t hj) (Nat.div_mul_le_self _ _)
      have e : (i + 1) * f - ((i * f) / t + j + 1) * t = s.bits + f - (j + 1) * t := by
        rw [hi1, show (i * f) / t + j + 1 = (i * f) / t + (j + 1) from rfl, Nat.add_mul]; omega
      show _ = (V * 2 ^ f + v) / 2 ^ ((i + 1) * f - ((i * f) / t + j + 1) * t) % 2 ^ t
      rw [e]
      refine div_mod_eq ?_ haccB
      rw [Nat.succ_mul] at hle ⊢
      omega
  · rw [hbn]
    exact mod_le (by have := Nat.mod_le (s.bits + f) t; exact this) haccB
theorem cb_run {f t : Nat} (hf : 0 < f) (ht : 0 < t) {vs : List Nat} (hv : ∀ v ∈ vs, v < 2 ^ f) : CbIs f t vs.length (valB f vs) (cbRun f t vs) := by
  have key : ∀ i ≤ vs.length, CbIs f t i (valB f (vs.take i)) ((vs.take i).foldl (cbNext f t) ⟨0, 0, []⟩) := by
    intro i
    induction i with
    | zero =>
      intro _
      refine ⟨by simp, by simp, rfl⟩
    | succ i ih =>
      intro hi
      have hlt : i < vs.length := hi
      have e : vs[i]? = some vs[i] := List.getElem?_eq_getElem hlt
      unfold valB
      rw [take_fold e, take_fold e]
      exact cb_step hf ht (hv _ (List.getElem_mem hlt)) (ih (by omega))
  have := key vs.length (Nat.le_refl _)
  rw [List.take_length] at this
  exact this
theorem valB_lt {f : Nat} : ∀ (vs : List Nat) (a : Nat), (∀ v ∈ vs, v < 2 ^ f) → vs.foldl (fun a v => a * 2 ^ f + v) a < (a + 1) * 2 ^ (f * vs.length)
  | [], a, _ => by simp
  | v :: vs, a, h => by
    rw [List.foldl_cons, List.length_cons, Nat.mul_succ, Nat.pow_add]
    have h1 := valB_lt vs (a * 2 ^ f + v) (fun w hw => h w (.tail _ hw))
    have hv := h v (.head _)
    have h2 : a * 2 ^ f + v + 1 ≤ (a + 1) * 2 ^ f := by rw [Nat.succ_mul]; omega
    calc _ < (a * 2 ^ f + v + 1) * 2 ^ (f * vs.length) := h1
      _ ≤ ((a + 1) * 2 ^ f) * 2 ^ (f * vs.length) := Nat.mul_le_mul_right _ h2
      _ = _ := by rw [Nat.mul_assoc, Nat.mul_comm (2 ^ f)]
/-- the digits of a number, told by its value -/
theorem digit_of {f : Nat} : ∀ (vs : List Nat) (a : Nat), (∀ v ∈ vs, v < 2 ^ f) → ∀ i, i < vs.length → vs.getD i 0 = (vs.foldl (fun a v => a * 2 ^ f + v) a) / 2 ^ (f * (vs.length - 1 - i)) % 2 ^ f
  | [], _, _, i, hi => by simp at hi
  | v :: vs, a, h, 0, _ => by
    have hv := h v (.head _)
    have key : ∀ (vs : List Nat) (x : Nat), (∀ v ∈ vs, v < 2 ^ f) → (vs.foldl (fun a v => a * 2 ^ f + v) x) / 2 ^ (f * vs.length) = x := by
      intro vs
      induction vs with
      | nil => intro x _; simp
      | cons w ws ih =>
        intro x hw
        rw [List.foldl_cons, List.length_cons, Nat.mul_succ, Nat.pow_add, ← Nat.div_div_eq_div_mul, ih _ (fun u hu => hw u (.tail _ hu))]
        rw [Nat.mul_comm, Nat.mul_add_div (Nat.two_pow_pos f), Nat.div_eq_of_lt (hw w (.head _)), Nat.add_zero]
    show v = _
    rw [List.foldl_cons, List.length_cons, Nat.sub_zero, Nat.add_sub_cancel, key vs _ (fun u hu => h u (.tail _ hu)), Nat.add_comm, Nat.add_mul_mod_self_right, Nat.mod_eq_of_lt hv]
  | v :: vs, a, h, i + 1, hi => by
    have := digit_of vs (a * 2 ^ f + v) (fun u hu => h u (.tail _ hu)) i (by simpa using hi)
    show vs.getD i 0 = _
    rw [this, List.foldl_cons, List.length_cons, show vs.length + 1 - 1 - (i + 1) = vs.length - 1 - i from by omega]
end Bx
end

section
open PySem PySem.W PyProof.Rows PySem.Calls PySem.Spec
set_option autoImplicit false
set_option maxRecDepth 20000
namespace Bx
def textL (m : Bool) (h ds : List Nat) : List Nat := h ++ 49 :: ((ds ++ checkN m (S h) ds).map csetN)
theorem written_S (m : Bool) (h ds : List Nat) : writtenN m (S h) ds = S (textL m h ds) := by
  show S h ++ S [49] ++ S ((ds ++ checkN m (S h) ds).map csetN) = _
  rw [S_app, S_app, List.append_assoc]; rfl
structure HrpOk (h : List Nat) : Prop where
  len : 1 ≤ h.length ∧ h.length ≤ 4
  ch : ∀ c ∈ h, 33 ≤ c ∧ c ≤ 126 ∧ ¬ (65 ≤ c ∧ c ≤ 90)
theorem HrpOk.lt {h : List Nat} (x : HrpOk h) : ∀ c ∈ (S h).cps.toList, c < 1024 := by
  rw [S_toList]; intro c hc; have := (x.ch c hc).2.1; omega
theorem text_len (m : Bool) {h ds : List Nat} (ho : HrpOk h) (hd : ∀ n ∈ ds, n < 32) : (textL m h ds).length = h.length + 1 + (ds.length + 6) := by
  unfold textL
  rw [List.length_append, List.length_cons, List.length_map, List.length_append, (checkN_six (m := m) ho.lt hd).1]; omega
theorem fold_zero {c : List Nat} (h : Six c) : c.foldl pstep 0 = pack c := by
  have h6 : Six six := ⟨rfl, by decide⟩
  have := fold_pack h6 h.2
  rw [show pack six = 0 from rfl] at this
  rw [this]
  obtain ⟨hl, _⟩ := h
  match c, hl with
  | [a, b, c, d, e, f], _ => rfl
theorem zip_six {c : List Nat} (h : Six c) : List.zipWith (fun r g => r ^^^ g) six c = c := by
  obtain ⟨hl, _⟩ := h
  match c, hl with
  | [a, b, c, d, e, f], _ => simp [six]
def cstN (m : Bool) : Nat := if m then 734539939 else 1
theorem goal_pack (m : Bool) : pack (goalN m) = cstN m := by cases m <;> rfl
theorem goal_six (m : Bool) : Six (goalN m) := ⟨goal_len m, goal_lt m⟩
theorem check_pack {m : Bool} {x : Str} {ds : List Nat} (h : ∀ c ∈ x.cps.toList, c < 1024) (hd : ∀ n ∈ ds, n < 32) : pack (checkN m x ds) = polyN (expandN x ++ ds ++ six) ^^^ cstN m := by
  have hd' : ∀ n ∈ ds ++ six, n < 32 := fun n hn => (List.mem_append.mp hn).elim (hd n) (six_lt n)
  unfold checkN
  rw [pack_zip (restN_six h hd') (goal_six m), ← poly_rest h hd', goal_pack, List.append_assoc]
theorem poly_check {m : Bool} {x : Str} {ds : List Nat} (h : ∀ c ∈ x.cps.toList, c < 1024) (hd : ∀ n ∈ ds, n < 32) : polyN (expandN x ++ (ds ++ checkN m x ds)) = cstN m := by
  have h6 := checkN_six (m := m) h hd
  have e1 := fold_lin six (checkN m x ds) (polyN (expandN x ++ ds)) 0 (by rw [h6.1]; rfl)
  rw [zip_six h6, fold_zero h6, Nat.xor_zero] at e1
  have e2 : polyN (expandN x ++ (ds ++ checkN m x ds)) = (checkN m x ds).foldl pstep (polyN (expandN x ++ ds)) := by
    unfold polyN; rw [← List.append_assoc, List.foldl_append]
  have e3 : six.foldl pstep (polyN (expandN x ++ ds)) = polyN (expandN x ++ ds ++ six) := by
    unfold polyN; rw [← List.foldl_append]
  rw [e2, e1, e3, check_pack h hd, ← Nat.xor_assoc, Nat.xor_self, Nat.zero_xor]
theorem digits6 {s : List Nat} (h : Six s) : ((List.range 6).map fun i => (pack s / 2 ^ (5 * (5 - i))) % 32) = s := by
  obtain ⟨hl, hs⟩ := h
  match s, hl with
  | [a, b, c, d, e, f], _ =>
    simp only [List.mem_cons, List.not_mem_nil, or_false, forall_eq_or_imp, forall_eq] at hs
    obtain ⟨h1, h2, h3, h4, h5, h6⟩ := hs
    rw [pack6]
    show [_ / 2 ^ 25 % 32, _ / 2 ^ 20 % 32, _ / 2 ^ 15 % 32, _ / 2 ^ 10 % 32, _ / 2 ^ 5 % 32, _ / 2 ^ 0 % 32] = _
    have e1 : (((((a * 32 + b) * 32 + c) * 32 + d) * 32 + e) * 32 + f) / 2 ^ 25 % 32 = a := by omega
    have e2 : (((((a * 32 + b) * 32 + c) * 32 + d) * 32 + e) * 32 + f) / 2 ^ 20 % 32 = b := by omega
    have e3 : (((((a * 32 + b) * 32 + c) * 32 + d) * 32 + e) * 32 + f) / 2 ^ 15 % 32 = c := by omega
    have e4 : (((((a * 32 + b) * 32 + c) * 32 + d) * 32 + e) * 32 + f) / 2 ^ 10 % 32 = d := by omega
    have e5 : (((((a * 32 + b) * 32 + c) * 32 + d) * 32 + e) * 32 + f) / 2 ^ 5 % 32 = e := by omega
    have e6 : (((((a * 32 + b) * 32 + c) * 32 + d) * 32 + e) * 32 + f) / 2 ^ 0 % 32 = f := by omega
    rw [e1, e2, e3, e4, e5, e6]
theorem create_check {m : Bool} {x : Str} {ds : List Nat} (h : ∀ c ∈ x.cps.toList, c < 1024) (hd : ∀ n ∈ ds, n < 32) : createN m x ds = checkN m x ds := by
  have := digits6 (checkN_six (m := m) h hd)
  rw [check_pack h hd] at this
  exact this
theorem encode_written {m : Bool} {h ds : List Nat} (ho : HrpOk h) (hd : ∀ n ∈ ds, n < 32) : encodeN m (S h) ds = writtenN m (S h) ds := by
  unfold encodeN writtenN
  rw [create_check ho.lt hd]
theorem cset_facts : ∀ d < 32, csetN d ∈ csetL ∧ idx (csetN d) = d ∧ 33 ≤ csetN d ∧ csetN d ≤ 126 ∧ ¬ (65 ≤ csetN d ∧ csetN d ≤ 90) ∧ csetN d ≠ 49 := by decide +kernel
def plainT (h e : List Nat) : List Nat := h ++ 49 :: e.map csetN
theorem plain_ch {h e : List Nat} (ho : HrpOk h) (he : ∀ n ∈ e, n < 32) : ∀ c ∈ plainT h e, 33 ≤ c ∧ c ≤ 126 ∧ ¬ (65 ≤ c ∧ c ≤ 90) := by
  intro c hc
  rcases List.mem_append.mp hc with hc | hc
  · exact ho.ch c hc
  · rcases List.mem_cons.mp hc with rfl | hc
    · decide
    · obtain ⟨d, hd, rfl⟩ := List.mem_map.mp hc
      obtain ⟨_, _, h1, h2, h3, _⟩ := cset_facts d (he d hd)
      exact ⟨h1, h2, h3⟩
theorem plain_cut {h e : List Nat} (he : ∀ n ∈ e, n < 32) : cut (plainT h e) = some (h, e.map csetN) := cut_eq fun hm => by
  obtain ⟨d, hd, e'⟩ := List.mem_map.mp hm
  exact (cset_facts d (he d hd)).2.2.2.2.2 e'
theorem plain_len (h e : List Nat) : (plainT h e).length = h.length + 1 + e.length := by simp [plainT]; omega
theorem bech_core {h e : List Nat} {t : List Nat} (ho : HrpOk h) (he : ∀ n ∈ e, n < 32) (h6 : 6 ≤ e.length) (hl : e.length ≤ 80) (ht : t.map lo1 = plainT h e) (hok : t.all okC = true) (hmix : ¬ (t.any isLow = true ∧ t.any isUp = true)) : bechN t = found (polyN (expandN (S h) ++ e)) h e := by
  have htl : t.length = h.length + 1 + e.length := by rw [← plain_len, ← ht, List.length_map]
  have hh := ho.len
  unfold bechN
  rw [if_neg (by
    rintro (x | x | x)
    · omega
    · rw [hok] at x; cases x
    · exact hmix x), ht, plain_cut he]
  show bechC h (e.map csetN) = _
  have hidx : (e.map csetN).map idx = e := by
    rw [List.map_map]
    conv => rhs; rw [← List.map_id e]
    exact List.map_congr_left fun d hd => (cset_facts d (he d hd)).2.1
  unfold bechC
  rw [if_neg, hidx]
  rintro (x | x | x)
  · rw [x] at hh; simp at hh
  · rw [List.length_map] at x; omega
  · refine x fun c hc => ?_
    obtain ⟨d, hd, rfl⟩ := List.mem_map.mp hc
    exact (cset_facts d (he d hd)).1
theorem bech_plain {h e : List Nat} (ho : HrpOk h) (he : ∀ n ∈ e, n < 32) (h6 : 6 ≤ e.length) (hl : e.length ≤ 80) : bechN (plainT h e) = found (polyN (expandN (S h) ++ e)) h e := by
  have hc := plain_ch ho he
  refine bech_core ho he h6 hl ?_ ?_ ?_
  · conv => rhs; rw [← List.map_id (plainT h e)]
    refine List.map_congr_left fun c hm => ?_
    have := hc c hm
    show lo1 c = c
    unfold lo1; rw [if_neg (by omega)]
  · rw [List.all_eq_true]; intro c hm; have := hc c hm; simp [okC]; omega
  · rintro ⟨_, hu⟩
    obtain ⟨c, hm, hu⟩ := List.any_eq_true.mp hu
    have := hc c hm
    simp [isUp] at hu
    omega
theorem found_good {m : Bool} {h ds : List Nat} (ho : HrpOk h) (hd : ∀ n ∈ ds, n < 32) : found (polyN (expandN (S h) ++ (ds ++ checkN m (S h) ds))) h (ds ++ checkN m (S h) ds) = .tuple [encI m, .str (S h), .list (intsD (NI ds))] := by
  rw [poly_check ho.lt hd]
  have h6 := (checkN_six (m := m) ho.lt hd).1
  have ht : (ds ++ checkN m (S h) ds).take ((ds ++ checkN m (S h) ds).length - 6) = ds := by
    rw [List.length_append, h6, Nat.add_sub_cancel, List.take_left]
  unfold found
  rw [ht]
  cases m <;> rfl
theorem bech_text {m : Bool} {h ds : List Nat} (ho : HrpOk h) (hd : ∀ n ∈ ds, n < 32) (hl : ds.length ≤ 40) : bechN (textL m h ds) = .tuple [encI m, .str (S h), .list (intsD (NI ds))] := by
  have h6 := checkN_six (m := m) ho.lt hd
  rw [← found_good ho hd]
  exact bech_plain ho (fun n hn => (List.mem_append.mp hn).elim (hd n) (h6.2 n)) (by rw [List.length_append, h6.1]; omega) (by rw [List.length_append, h6.1]; omega)
theorem bech_upper {m : Bool} {h ds : List Nat} (ho : HrpOk h) (hd : ∀ n ∈ ds, n < 32) (hl : ds.length ≤ 40) : bechN ((textL m h ds).map up1) = .tuple [encI m, .str (S h), .list (intsD (NI ds))] := by
  have h6 := checkN_six (m := m) ho.lt hd
  have he : ∀ n ∈ ds ++ checkN m (S h) ds, n < 32 := fun n hn => (List.mem_append.mp hn).elim (hd n) (h6.2 n)
  have hc := plain_ch ho he
  rw [← found_good ho hd]
  refine bech_core ho he (by rw [List.length_append, h6.1]; omega) (by rw [List.length_append, h6.1]; omega) ?_ ?_ ?_
  · rw [List.map_map]
    conv => rhs; rw [← List.map_id (plainT h (ds ++ checkN m (S h) ds))]
    refine List.map_congr_left fun c hm => ?_
    have := hc c hm
    show lo1 (up1 c) = c
    unfold lo1 up1
    split <;> split <;> omega
  · rw [List.all_eq_true]; intro c hm
    obtain ⟨c', hm', rfl⟩ := List.mem_map.mp hm
    have := hc c' hm'
    simp only [okC, up1]
    split <;> simp <;> omega
  · rintro ⟨hlw, _⟩
    obtain ⟨c, hm, hu⟩ := List.any_eq_true.mp hlw
    obtain ⟨c', hm', rfl⟩ := List.mem_map.mp hm
    have := hc c' hm'
    simp only [isLow, up1] at hu
    split at hu <;> simp at hu <;> omega
abbrev zx (a b : List Nat) : List Nat := List.zipWith (fun r g => r ^^^ g) a b
theorem wt_set : ∀ (l : List Nat) (q v : Nat), wt (l.set q v) ≤ wt l + 1
  | [], _, _ => by simp [wt]
  | x :: l, 0, v => by
    show ((v :: l).filter fun x => x != 0).length ≤ ((x :: l).filter fun x => x != 0).length + 1
    rw [List.filter_cons, List.filter_cons]
    split <;> split <;> simp <;> omega
  | x :: l, q + 1, v => by
    have ih := wt_set l q v
    show ((x :: l.set q v).filter fun x => x != 0).length ≤ ((x :: l).filter fun x => x != 0).length + 1
    unfold wt at ih
    simp only [List.filter_cons]
    split <;> (try simp only [List.length_cons]) <;> omega
theorem zx_set : ∀ (a b : List Nat) (q v : Nat), zx a (b.set q v) = (zx a b).set q (a.getD q 0 ^^^ v)
  | [], _, _, _ => by simp [zx]
  | x :: a, [], _, _ => by simp [zx]
  | x :: a, y :: b, 0, v => rfl
  | x :: a, y :: b, q + 1, v => by
    show _ :: zx a (b.set q v) = _ :: (zx a b).set q _
    rw [zx_set a b q v]; rfl
theorem zx_self : ∀ a : List Nat, wt (zx a a) = 0
  | [] => rfl
  | x :: a => by
    show (((x ^^^ x) :: zx a a).filter fun x => x != 0).length = 0
    rw [Nat.xor_self]
    exact zx_self a
theorem zx_eq : ∀ {a b : List Nat}, a.length = b.length → wt (zx a b) = 0 → a = b
  | [], [], _, _ => rfl
  | x :: a, y :: b, h, hw => by
    have hw' : (((x ^^^ y) :: zx a b).filter fun x => x != 0).length = 0 := hw
    rw [List.filter_cons] at hw'
    split at hw'
    · simp at hw'
    · rename_i h0
      have h0' : x ^^^ y = 0 := by simpa using h0
      rw [xor_eq h0', zx_eq (a := a) (b := b) (by simpa using h) hw']
theorem slip_set {h e : List Nat} {st : Nat} {n : Int} (hst : h.length + 1 ≤ st) (hlt : st < (plainT h e).length) : ∃ q v, v < 32 ∧ st - (h.length + 1) ≤ q ∧ q < e.length ∧ slip1 st (plainT h e) n = plainT h (e.set q v) := by
  have hp := slip_pos (n := n) hlt
  rw [plain_len] at hp
  have hv0 : 0 ≤ (n.fdiv 97).fmod 32 := Int.fmod_nonneg_of_pos _ (by decide)
  have hv1 : (n.fdiv 97).fmod 32 < 32 := Int.fmod_lt_of_pos _ (by decide)
  unfold slip1
  rw [plain_len]
  dsimp only
  generalize st + (n.fmod ((h.length + 1 + e.length - st : Nat) : Int)).toNat = p at *
  refine ⟨p - (h.length + 1), ((n.fdiv 97).fmod 32).toNat, by omega, by omega, by omega, ?_⟩
  obtain ⟨q, rfl⟩ : ∃ q, p = h.length + 1 + q := ⟨p - (h.length + 1), by omega⟩
  have hq : q < e.length := by omega
  rw [Nat.add_sub_cancel_left]
  generalize ((n.fdiv 97).fmod 32).toNat = v
  have e1 : plainT h e = (h ++ [49]) ++ e.map csetN := by simp [plainT]
  have e2 : plainT h (e.set q v) = (h ++ [49]) ++ (e.map csetN).set q (csetN v) := by simp [plainT, List.map_set]
  have hl1 : (h ++ [49]).length = h.length + 1 := by simp
  rw [e1, e2, ← hl1, List.take_length_add_append, List.append_assoc, Nat.add_assoc, List.drop_length_add_append, List.set_eq_take_append_cons_drop, if_pos (by rw [List.length_map]; exact hq)]
  simp
theorem slip_many {h : List Nat} {st : Nat} (hst : h.length + 1 ≤ st) (e0 : List Nat) : ∀ (ns : List Int) (e : List Nat), st < (plainT h e).length → (∀ n ∈ e, n < 32) → ∃ e1, slipN st (plainT h e) ns = plainT h e1 ∧ e1.length = e.length ∧ (∀ n ∈ e1, n < 32) ∧ wt (zx e0 e1) ≤ wt (zx e0 e) + ns.length ∧ (h.length + 1 < st → e1.headD 0 = e.headD 0)
  | [], e, _, he => ⟨e, rfl, rfl, he, by simp, fun _ => rfl⟩
  | n :: ns, e, hlt, he => by
    obtain ⟨q, v, hv, hq, hql, hs⟩ := slip_set (n := n) hst hlt
    have hle : (plainT h (e.set q v)).length = (plainT h e).length := by rw [plain_len, plain_len, List.length_set]
    have he' : ∀ n ∈ e.set q v, n < 32 := fun n hn => (List.mem_or_eq_of_mem_set hn).elim (he n) (fun h => h ▸ hv)
    obtain ⟨e1, h1, h2, h3, h4, h5⟩ := slip_many hst e0 ns (e.set q v) (by rw [hle]; exact hlt) he'
    refine ⟨e1, ?_, by rw [h2, List.length_set], h3, ?_, fun hh => ?_⟩
    · show slipN st (slip1 st (plainT h e) n) ns = _
      rw [hs, h1]
    · rw [zx_set] at h4
      have := wt_set (zx e0 e) q (e0.getD q 0 ^^^ v)
      rw [List.length_cons]; omega
    · rw [h5 hh]
      cases e with
      | nil => rfl
      | cons x e => cases q with
        | zero => omega
        | succ q => rfl
theorem zx_lt {a b : List Nat} (ha : ∀ n ∈ a, n < 32) (hb : ∀ n ∈ b, n < 32) : ∀ n ∈ zx a b, n < 32 := zipx_lt ha hb
theorem encOf_cases (p : Nat) : encOf p = .none ∨ (p = 1 ∧ encOf p = .int 1) ∨ (p = 734539939 ∧ encOf p = .int 2) := by
  unfold encOf
  by_cases h1 : p = 1
  · exact .inr (.inl ⟨h1, if_pos h1⟩)
  · by_cases h2 : p = 734539939
    · exact .inr (.inr ⟨h2, by rw [if_neg h1, if_pos h2]⟩)
    · exact .inl (by rw [if_neg h1, if_neg h2])
theorem slip_ans {m : Bool} {h ds : List Nat} {ns : List Int} {st : Nat} (ho : HrpOk h) (hd : ∀ n ∈ ds, n < 32) (hl : ds.length ≤ 33) (hn : ns.length ≤ 4) (hst : (st = h.length + 1 ∧ ds.length ≤ 32) ∨ (st = h.length + 2 ∧ ds ≠ [])) :
    slipN st (textL m h ds) ns = textL m h ds ∨ bechN (slipN st (textL m h ds) ns) = nothing ∨ ∃ e ds', bechN (slipN st (textL m h ds) ns) = .tuple [.int e, .str (S h), .list (intsD (NI ds'))] ∧ PyData.int e ≠ encI m ∧ (e = 1 ∨ e = 2) ∧ (∀ n ∈ ds', n < 32) ∧ ds'.length ≤ 40 ∧ (st = h.length + 2 → ds'.headD 0 = ds.headD 0) := by
  have h6 := checkN_six (m := m) ho.lt hd
  have he0 : ∀ n ∈ ds ++ checkN m (S h) ds, n < 32 := fun n hn => (List.mem_append.mp hn).elim (hd n) (h6.2 n)
  have hl0 : (ds ++ checkN m (S h) ds).length = ds.length + 6 := by rw [List.length_append, h6.1]
  have hpc := poly_check (m := m) (x := S h) ho.lt hd
  have hst1 : h.length + 1 ≤ st := by omega
  have hlt : st < (plainT h (ds ++ checkN m (S h) ds)).length := by rw [plain_len, hl0]; omega
  obtain ⟨e1, h1, h2, h3, h4, h5⟩ := slip_many hst1 (ds ++ checkN m (S h) ds) ns _ hlt he0
  rw [show textL m h ds = plainT h (ds ++ checkN m (S h) ds) from rfl, h1]
  rw [zx_self, Nat.zero_add] at h4
  have hhd0 : ds ≠ [] → (ds ++ checkN m (S h) ds).headD 0 = ds.headD 0 := fun hne => by
    cases ds with
    | nil => exact absurd rfl hne
    | cons x r => rfl
  generalize ds ++ checkN m (S h) ds = e0 at *
  by_cases hw : wt (zx e0 e1) = 0
  · left; rw [zx_eq h2.symm hw]
  · right
    rw [bech_plain ho h3 (by omega) (by omega)]
    have hsyn : syn (zx e0 e1) ≠ 0 := fun hs => hw (by
      rcases hst with ⟨rfl, hl32⟩ | ⟨rfl, hne⟩
      · exact dist (zx_lt he0 h3) (by rw [List.length_zipWith]; omega) (by omega) hs
      · have hh := h5 (by omega)
        match e0, e1, h2 with
        | [], _, _ => rfl
        | x :: a, y :: b, h2 =>
          have hxy : y = x := hh
          subst hxy
          have e : zx (y :: a) (y :: b) = 0 :: zx a b := by show (y ^^^ y) :: _ = _; rw [Nat.xor_self]
          rw [e] at hs h4 ⊢
          rw [syn_cons, (Tn_lin _).zero, Nat.zero_xor] at hs
          have hwe : wt (0 :: zx a b) = wt (zx a b) := rfl
          rw [hwe] at h4 ⊢
          exact dist (zx_lt (fun n hn => he0 n (.tail _ hn)) (fun n hn => h3 n (.tail _ hn))) (by rw [List.length_zipWith]; simp at hl0; omega) (by omega) hs)
    have hp : polyN (expandN (S h) ++ e1) ≠ cstN m := fun hp => hsyn (by
      have := fold_lin e0 e1 (polyN (expandN (S h))) (polyN (expandN (S h))) h2.symm
      rw [Nat.xor_self] at this
      have q1 : e0.foldl pstep (polyN (expandN (S h))) = polyN (expandN (S h) ++ e0) := by unfold polyN; rw [List.foldl_append]
      have q2 : e1.foldl pstep (polyN (expandN (S h))) = polyN (expandN (S h) ++ e1) := by unfold polyN; rw [List.foldl_append]
      rw [q1, q2, hpc, hp, Nat.xor_self] at this
      exact this)
    have hhd1 : st = h.length + 2 → (e1.take (e1.length - 6)).headD 0 = ds.headD 0 := fun hs => by
      have hne : ds ≠ [] := by
        rcases hst with h | h
        · omega
        · exact h.2
      rw [← hhd0 hne, ← h5 (by omega)]
      cases e1 with
      | nil => rfl
      | cons x r =>
        have : 0 < ds.length := by cases ds with | nil => exact absurd rfl hne | cons _ _ => simp
        rw [show (x :: r).length - 6 = ((x :: r).length - 7) + 1 from by rw [h2, hl0]; omega]; rfl
    have h3' : ∀ n ∈ e1.take (e1.length - 6), n < 32 := fun n hn => h3 n (List.mem_of_mem_take hn)
    have hl' : (e1.take (e1.length - 6)).length ≤ 40 := by rw [List.length_take]; omega
    rcases encOf_cases (polyN (expandN (S h) ++ e1)) with he | ⟨hp1, he⟩ | ⟨hp1, he⟩
    · left; unfold found; rw [he]
    · right
      refine ⟨1, _, by unfold found; rw [he], fun hc => hp ?_, .inl rfl, h3', hl', hhd1⟩
      rw [hp1]; cases m
      · rfl
      · simp [encI] at hc
    · right
      refine ⟨2, _, by unfold found; rw [he], fun hc => hp ?_, .inr rfl, h3', hl', hhd1⟩
      rw [hp1]; cases m
      · simp [encI] at hc
      · rfl
/-- the digits of an address -/
def digs (pr : List Nat) : List Nat :=
  let pad := ((-8 * (pr.length : Int)).fmod 5).toNat
  ((List.range ((8 * pr.length + pad) / 5)).map fun i => (2 ^ pad * valN pr) / 32 ^ i % 32).reverse
theorem digs_lt (pr : List Nat) : ∀ n ∈ digs pr, n < 32 := by
  intro n hn
  unfold digs at hn
  dsimp only at hn
  rw [List.mem_reverse] at hn
  obtain ⟨i, _, rfl⟩ := List.mem_map.mp hn
  exact Nat.mod_lt _ (by decide)
theorem digs_len {pr : List Nat} (hl : pr.length ≤ 20) : (digs pr).length ≤ 32 := by
  unfold digs
  dsimp only
  rw [List.length_reverse, List.length_map, List.length_range]
  have h1 : ((-8 * (pr.length : Int)).fmod 5).toNat ≤ 4 := by
    have := Int.fmod_lt_of_pos (-8 * (pr.length : Int)) (show (0 : Int) < 5 by decide)
    omega
  omega
theorem pad_is (n : Nat) : ((-8 * (n : Int)).fmod 5).toNat = (5 - (n * 8) % 5) % 5 := by
  rw [Int.fmod_eq_emod_of_nonneg _ (by decide)]; omega
theorem digs_get {pr : List Nat} {j : Nat} (hj : j < (digs pr).length) : (digs pr)[j] = (2 ^ ((5 - (pr.length * 8) % 5) % 5) * valN pr) / 32 ^ ((digs pr).length - 1 - j) % 32 := by
  have hl : (digs pr).length = (8 * pr.length + (5 - (pr.length * 8) % 5) % 5) / 5 := by
    unfold digs; dsimp only; rw [pad_is, List.length_reverse, List.length_map, List.length_range]
  rw [← pad_is]
  unfold digs at hj ⊢
  dsimp only at hj ⊢
  rw [List.getElem_reverse, List.getElem_map, List.getElem_range, List.length_reverse]
theorem digs_len' (pr : List Nat) : (digs pr).length = (8 * pr.length + (5 - (pr.length * 8) % 5) % 5) / 5 := by
  unfold digs; dsimp only; rw [pad_is, List.length_reverse, List.length_map, List.length_range]
theorem p32 (n : Nat) : 32 ^ n = 2 ^ (5 * n) := by rw [Nat.pow_mul]
theorem valN_B (pr : List Nat) : valN pr = valB 8 pr := rfl
theorem conv_85 {pr : List Nat} (h : ∀ n ∈ pr, n < 256) (hl : pr.length ≤ 20) : cbOut 8 5 true (cbRun 8 5 pr) = .list (intsD (NI (digs pr))) := by
  obtain ⟨hb, ho, ha⟩ := cb_run (f := 8) (t := 5) (by decide) (by decide) h
  unfold cbOut
  rw [if_pos rfl]
  refine congrArg (fun l => PyData.list (intsD (NI l))) ?_
  generalize hs : cbRun 8 5 pr = s at *
  have hdl := digs_len' pr
  have hV : valB 8 pr = valN pr := rfl
  rw [hV] at ho ha
  generalize hVV : valN pr = V at *
  generalize hn : pr.length = n at *
  have hb5 : s.bits < 5 := by rw [hb]; exact Nat.mod_lt _ (by decide)
  have hol : s.out.length = n * 8 / 5 := by rw [ho, List.length_map, List.length_range]
  have hget : ∀ j, (hj : j < s.out.length) → s.out[j] = V / 2 ^ (n * 8 - (j + 1) * 5) % 2 ^ 5 := fun j hj => by
    simp only [ho, List.getElem_map, List.getElem_range]
  apply List.ext_getElem
  · rw [List.length_append, hol, hdl]
    by_cases h0 : s.bits = 0
    · rw [if_pos h0, List.length_nil]; omega
    · rw [if_neg h0, List.length_singleton]; omega
  · intro j hj hj2
    have e := digs_get (pr := pr) hj2
    rw [hn] at e
    rw [hVV] at e
    rw [e, hdl, p32]
    by_cases hjk : j < s.out.length
    · rw [List.getElem_append_left hjk, hget j hjk]
      rw [hol] at hjk
      have e2 : 5 * ((8 * n + (5 - n * 8 % 5) % 5) / 5 - 1 - j) = (5 - n * 8 % 5) % 5 + (n * 8 - (j + 1) * 5) := by omega
      rw [e2, Nat.pow_add, ← Nat.div_div_eq_div_mul, Nat.mul_div_cancel_left _ (Nat.two_pow_pos _)]
    · have h0 : ¬ s.bits = 0 := fun h0 => by
        rw [if_pos h0] at hj; simp at hj; omega
      have hlast : j = s.out.length := by
        rw [if_neg h0, List.length_append, List.length_singleton] at hj; omega
      subst hlast
      have e2 : 5 * ((8 * n + (5 - n * 8 % 5) % 5) / 5 - 1 - s.out.length) = 0 := by rw [hol]; omega
      have e3 : (5 - n * 8 % 5) % 5 = 5 - s.bits := by omega
      rw [e2, Nat.pow_zero, Nat.div_one, e3]
      simp only [if_neg h0]
      rw [List.getElem_append_right (Nat.le_refl _)]
      simp only [Nat.sub_self, List.getElem_cons_zero]
      show (s.acc * 2 ^ (5 - s.bits)) % 2 ^ 5 = _
      have e4 : (2 : Nat) ^ 5 = 2 ^ s.bits * 2 ^ (5 - s.bits) := by rw [← Nat.pow_add]; congr 1; omega
      rw [show (32 : Nat) = 2 ^ 5 from rfl, e4, Nat.mul_mod_mul_right, ha, Nat.mul_comm _ V, Nat.mul_mod_mul_right]
theorem valB_digits {D : List Nat} {W : Nat} (hW : W < 2 ^ (5 * D.length)) (hD : ∀ j, (hj : j < D.length) → D[j] = W / 32 ^ (D.length - 1 - j) % 32) : valB 5 D = W := by
  have key : ∀ i ≤ D.length, valB 5 (D.take i) = W / 2 ^ (5 * (D.length - i)) := by
    intro i
    induction i with
    | zero => intro _; rw [Nat.sub_zero, Nat.div_eq_of_lt hW]; rfl
    | succ i ih =>
      intro hi
      have hlt : i < D.length := hi
      have e : D[i]? = some D[i] := List.getElem?_eq_getElem hlt
      have e1 : valB 5 (D.take (i + 1)) = valB 5 (D.take i) * 2 ^ 5 + D[i] := by unfold valB; rw [take_fold e]
      rw [e1, ih (by omega), hD i hlt, p32]
      have e2 : 5 * (D.length - i) = 5 * (D.length - 1 - i) + 5 := by omega
      have e3 : D.length - (i + 1) = D.length - 1 - i := by omega
      rw [e2, e3, Nat.pow_add, ← Nat.div_div_eq_div_mul, Nat.mul_comm]
      exact Nat.div_add_mod _ 32
  have := key D.length (Nat.le_refl _)
  rw [List.take_length, Nat.sub_self, Nat.mul_zero, Nat.pow_zero, Nat.div_one] at this
  exact this
theorem conv_58 {pr : List Nat} (h : ∀ n ∈ pr, n < 256) (hl : pr.length ≤ 20) : cbBad (digs pr) = false ∧ (cbRun 5 8 (digs pr)).out = pr := by
  obtain ⟨hb, ho, ha⟩ := cb_run (f := 5) (t := 8) (by decide) (by decide) (digs_lt pr)
  have hdl := digs_len' pr
  have hpd : (5 - (pr.length * 8) % 5) % 5 ≤ 4 := by omega
  have hVlt : valN pr < 2 ^ (8 * pr.length) := by
    have := valB_lt (f := 8) pr 0 h
    rw [Nat.zero_add, Nat.one_mul] at this
    exact this
  have h5m : 5 * (digs pr).length = 8 * pr.length + (5 - (pr.length * 8) % 5) % 5 := by rw [hdl]; omega
  have hW : valB 5 (digs pr) = 2 ^ ((5 - (pr.length * 8) % 5) % 5) * valN pr := by
    refine valB_digits ?_ fun j hj => digs_get hj
    rw [h5m, Nat.pow_add, Nat.mul_comm]
    exact Nat.mul_lt_mul_of_pos_right hVlt (Nat.two_pow_pos _)
  have hdig : ∀ j, j < pr.length → pr.getD j 0 = valN pr / 2 ^ (8 * (pr.length - 1 - j)) % 2 ^ 8 := fun j hj => digit_of (f := 8) pr 0 h j hj
  rw [hW] at ho ha
  unfold cbBad cbTail
  generalize cbRun 5 8 (digs pr) = s at *
  generalize (digs pr).length = m at *
  generalize valN pr = V at *
  generalize hn : pr.length = n at *
  generalize (5 - n * 8 % 5) % 5 = pad at *
  have hbp : s.bits = pad := by rw [hb]; omega
  constructor
  · have ht : (s.acc * 2 ^ (8 - s.bits)) % 2 ^ 8 = 0 := by
      have e4 : (2 : Nat) ^ 8 = 2 ^ s.bits * 2 ^ (8 - s.bits) := by rw [← Nat.pow_add]; congr 1; omega
      rw [e4, Nat.mul_mod_mul_right, ha, hbp, Nat.mul_mod_right, Nat.zero_mul]
    rw [ht]
    simp; omega
  · rw [ho]
    have hmn : m * 5 / 8 = n := by omega
    rw [hmn]
    apply List.ext_getElem
    · rw [List.length_map, List.length_range, hn]
    · intro j hj hj2
      rw [List.getElem_map, List.getElem_range]
      have hj' : j < n := by simpa using hj
      have e := hdig j hj'
      rw [List.getD_eq_getElem?_getD, List.getElem?_eq_getElem hj2, Option.getD_some] at e
      rw [e]
      have e2 : m * 5 - (j + 1) * 8 = pad + 8 * (n - 1 - j) := by omega
      rw [e2, Nat.pow_add, ← Nat.div_div_eq_div_mul, Nat.mul_div_cancel_left _ (Nat.two_pow_pos _)]
end Bx
end

section
open PySem PySem.W PyProof.Rows PySem.Calls PySem.Spec
set_option autoImplicit false
set_option maxRecDepth 20000
set_option maxHeartbeats 800000
namespace Bx
theorem csetN_lt : ∀ d < 32, csetN d < 128 := by decide +kernel
theorem text_128 {m : Bool} {h ds : List Nat} (ho : HrpOk h) (hd : ∀ n ∈ ds, n < 32) : ∀ c ∈ textL m h ds, c < 128 := by
  intro c hc
  unfold textL at hc
  rcases List.mem_append.mp hc with hc | hc
  · have := (ho.ch c hc).2.1; omega
  · rcases List.mem_cons.mp hc with rfl | hc
    · decide
    · obtain ⟨d, hd', rfl⟩ := List.mem_map.mp hc
      exact csetN_lt d ((List.mem_append.mp hd').elim (hd d) ((checkN_six (m := m) ho.lt hd).2 d))
theorem eqv_pair {v w : Nat} {a b : List Nat} : PyData.eqv (.tuple [.int (v : Int), .list (intsD (NI a))]) (.tuple [.int (w : Int), .list (intsD (NI b))]) = decide (v = w ∧ a = b) := by
  simp only [PyData.eqv, PyData.eqvAll, Bool.and_true]
  rw [show PyData.eqvAll (intsD (NI a)) (intsD (NI b)) = decide (NI a = NI b) from PySem.W.ked_eqvAll _ _]
  rw [Bool.eq_iff_iff]
  simp only [Bool.and_eq_true, beq_iff_eq, decide_eq_true_iff]
  constructor
  · rintro ⟨h1, h2⟩
    exact ⟨by omega, (List.map_inj_right (fun x y e => by exact Int.ofNat.inj e)).mp h2⟩
  · rintro ⟨h1, h2⟩
    exact ⟨by omega, by rw [h2]⟩
theorem eqv_n2 : PyData.eqv nothing2 nothing2 = true := by simp [nothing2, PyData.eqv, PyData.eqvAll]
section
variable {G : Gl} {R : Bool} {k : Nat} {env : Env} {ρ : Rho}
theorem pow2ok (n : Nat) (h : n ≤ 1000) : (Builtin.Int.intBits (2 : Int) : Int) * (n : Int) ≤ 2 ^ 27 := by
  have e : Builtin.Int.intBits (2 : Int) = 2 := by decide
  have h3 : ((2 : Int) ^ 27) = 134217728 := by decide
  rw [e, h3]; omega
theorem pow32ok (n : Nat) (h : n ≤ 1000) : (Builtin.Int.intBits (32 : Int) : Int) * (n : Int) ≤ 2 ^ 27 := by
  have e : Builtin.Int.intBits (32 : Int) = 6 := by decide
  have h3 : ((2 : Int) ^ 27) = 134217728 := by decide
  rw [e, h3]; omega
theorem pow32e (i : Nat) : (32 : Int) ^ (i : Int).toNat = ((32 ^ i : Nat) : Int) := by rw [Int.toNat_natCast]; norm_cast
theorem pow32log {i : Nat} (h : i ≤ 100) : ((32 ^ i : Nat) : Int).natAbs.log2 < 9000 := by
  rw [Int.natAbs_natCast, show 32 ^ i = 2 ^ (5 * i) from by rw [Nat.pow_mul], Nat.log2_two_pow]; omega
def progN (seed : List Int) (tq size : Nat) : List Nat := (List.range size).map fun i => ((seed.getD (i % seed.length) 0 + (i : Int) * (tq : Int)).fmod 256).toNat
theorem progN_lt (seed : List Int) (tq size : Nat) : ∀ n ∈ progN seed tq size, n < 256 := by
  intro n hn
  obtain ⟨i, _, rfl⟩ := List.mem_map.mp hn
  have := Int.fmod_lt_of_pos (seed.getD (i % seed.length) 0 + (i : Int) * (tq : Int)) (show (0 : Int) < 256 by decide)
  omega
theorem c_address {h : List Nat} {seed : List Int} {turn : Nat} {ns : List Int} (ho : HrpOk h) (hs : 1 ≤ seed.length ∧ seed.length ≤ 100) (ht : turn < 1000000) (hn : ns.length ≤ 4) :
    CallsTo G true (k + 7) 25 [.str (S h), .list (intsD seed), .int (turn : Int), .list (intsD ns)] (.bool true) := by
  refine calls_of (by rfl) (by decide) (by decide) (fun pm cd doc vs hl => ?_) (by rfl) (by rfl) (fun L a cd hcd => ?_)
  · match vs, hl with
    | [x, y, z, w], _ => rfl
  · clear hcd
    let v : Nat := turn / 3 % 17
    have hv : v ≤ 16 := by have := Nat.mod_lt (turn / 3) (show 0 < 17 by decide); show turn / 3 % 17 ≤ 16; omega
    refine ex_cons (ex_assign (d := .int (v : Int)) ((bo (Ev.conv (bo cv ev_int (o_fdiv (by decide) (by decide))) (congrArg PyData.int (fdivN turn 3))) ev_int (o_mod (by decide))).conv (congrArg PyData.int (fmodN (turn / 3) 17))) (.inl (by rfl)) (by rfl)) ?_
    let size : Nat := if v = 0 then 20 else 2 + turn / 51 % 19
    have hsz : 2 ≤ size ∧ size ≤ 20 := by
      show 2 ≤ (if v = 0 then 20 else 2 + turn / 51 % 19) ∧ (if v = 0 then 20 else 2 + turn / 51 % 19) ≤ 20
      have := Nat.mod_lt (turn / 51) (show 0 < 19 by decide)
      split <;> omega
    have hv0 : ((v : Int) == 0) = decide (v = 0) := by rw [Bool.eq_iff_iff]; simp
    refine ex_cons (ex_assign (d := .int (size : Int)) (ev_ifexp (c := decide (v = 0)) (Tr.conv (tr_cmp lv ev_int c_eq (by rfl)) hv0) (fun hc => ev_int.conv (by show _ = PyData.int ((if v = 0 then 20 else 2 + turn / 51 % 19 : Nat) : Int); rw [if_pos (of_decide_eq_true hc)]; rfl)) (fun hc => (bo ev_int (Ev.conv (bo (Ev.conv (bo cv ev_int (o_fdiv (by decide) (by decide))) (congrArg PyData.int (fdivN turn 51))) ev_int (o_mod (by decide))) (congrArg PyData.int (fmodN (turn / 51) 19))) o_add).conv (by show _ = PyData.int ((if v = 0 then 20 else 2 + turn / 51 % 19 : Nat) : Int); rw [if_neg (of_decide_eq_false hc)]; rfl))) (.inl (by rfl)) (by rfl)) ?_
    have hvsz : v = 0 → size = 20 := fun e => by show (if v = 0 then 20 else 2 + turn / 51 % 19) = 20; rw [if_pos e]
    clear_value size
    clear_value v
    have hseedl : (intsD seed).length < 2 ^ 62 := by rw [intsD_len]; omega
    refine ex_cons (Ex1.retag (d' := .list (intsD (NI (progN seed (turn / 5) size)))) (ex_assign_compI (ns := List.map (fun i : Nat => (i : Int)) (List.range size)) (fun i => .int ((seed.getD (i.toNat % seed.length) 0 + i * ((turn / 5 : Nat) : Int)).fmod 256)) (capF (by rfl) (by decide) (by rfl) (by decide) (by decide) (by rfl) ?_ ?_ ?_) (by rfl) (by rfl) (src_rangeI (n := (size : Int)) (by rfl) lv (by omega) (by omega) (by rfl)) (by simp [sizeLine_eq]; omega) (fun C n hn => ?_) (fun n hn => rfl) (fun v => by rfl) (by rfl)) ?_) ?_
    · exact ⟨fun h => (by cases h), fun h => (by cases h), fun h => (by cases h), fun _ => ⟨rfl, rfl⟩, fun _ => ⟨rfl, rfl⟩, trivial⟩
    · intro q hq
      rcases List.mem_cons.mp hq with e | hq
      · subst e; first | exact .head _ | exact .tail _ (.head _) | exact .tail _ (.tail _ (.head _))
      · rcases List.mem_cons.mp hq with e | hq
        · subst e; first | exact .head _ | exact .tail _ (.head _) | exact .tail _ (.tail _ (.head _))
        · cases hq
    · exact List.nodup_cons.mpr ⟨fun h => absurd (List.mem_singleton.mp h) (Nat.succ_ne_self _), List.nodup_cons.mpr ⟨fun h => (by cases h), .nil⟩⟩
    · obtain ⟨i, hi, rfl⟩ := List.mem_map.mp hn
      have hi := List.mem_range.mp hi
      have hlen0 : ((intsD seed).length : Int) ≠ 0 := by rw [intsD_len]; omega
      have him : i % seed.length < seed.length := Nat.mod_lt _ (by omega)
      have hmod : ((i : Int)).fmod ((intsD seed).length : Int) = ((i % seed.length : Nat) : Int) := by rw [intsD_len]; exact fmodN i seed.length
      have e0 : ¬ (((i % seed.length : Nat) : Int) < 0) := by omega
      refine bo (bo (ev_item_list (d := .int (seed.getD (i % seed.length) 0)) (i := ((i % seed.length : Nat) : Int)) cv (Ev.conv (bo lv (e_len cv hseedl) (o_mod hlen0)) (congrArg PyData.int hmod)) ⟨by rw [if_neg e0]; omega, ?_⟩ hseedl (fun _ _ => by rfl)) (bo lv (Ev.conv (bo cv ev_int (o_fdiv (by decide) (by decide))) (congrArg PyData.int (fdivN turn 5))) (o_mul (IntMulOk.of_left (Nat.le_trans (bits_lt (m := 5) (by omega)) (by decide))))) o_add) ev_int (o_mod (by decide))
      rw [if_neg e0, Int.toNat_natCast]
      simp only [intsD, List.getElem?_map, List.getElem?_eq_getElem him, Option.map_some, List.getD_eq_getElem?_getD, Option.getD_some]
    · rw [List.map_map]
      simp only [progN, NI, intsD, List.map_map]
      refine congrArg PyData.list (List.map_congr_left fun i hi => ?_)
      have h0 := Int.fmod_nonneg_of_pos (seed.getD (i % seed.length) 0 + (i : Int) * ((turn / 5 : Nat) : Int)) (show (0 : Int) < 256 by decide)
      show PyData.int ((seed.getD (i % seed.length) 0 + (i : Int) * ((turn / 5 : Nat) : Int)).fmod 256) = PyData.int (Int.ofNat _)
      congr 1
      exact (Int.toNat_of_nonneg h0).symm
    have hprl : (progN seed (turn / 5) size).length = size := by simp [progN]
    have hpr := progN_lt seed (turn / 5) size
    generalize progN seed (turn / 5) size = pr at *
    let pad : Nat := ((-8 * (size : Int)).fmod 5).toNat
    have hpad : pad ≤ 4 := by
      have := Int.fmod_lt_of_pos (-8 * (size : Int)) (show (0 : Int) < 5 by decide)
      show ((-8 * (size : Int)).fmod 5).toNat ≤ 4
      omega
    have hpadI : (-8 * (size : Int)).fmod 5 = (pad : Int) := (Int.toNat_of_nonneg (Int.fmod_nonneg_of_pos _ (by decide))).symm
    refine ex_cons (ex_assign (d := .int (pad : Int)) (Ev.conv (bo (bo (ev_unary ev_int o_neg) lv (o_mul (IntMulOk.of_left (by decide)))) ev_int (o_mod (by decide))) (congrArg PyData.int hpadI)) (.inl (by rfl)) (by rfl)) ?_
    have hdg : digs pr = ((List.range ((8 * size + pad) / 5)).map fun i => (2 ^ pad * valN pr) / 32 ^ i % 32).reverse := by
      unfold digs; rw [hprl]
    clear_value pad
    have hp2 : (2 : Int) ^ (pad : Int).toNat = ((2 ^ pad : Nat) : Int) := by rw [Int.toNat_natCast]; norm_cast
    have hp5 : 2 ^ pad < 2 ^ 5 := Nat.pow_lt_pow_right (by decide) (by omega)
    refine ex_cons (ex_assign (d := .int ((2 ^ pad * valN pr : Nat) : Int)) (Ev.conv (bo (Ev.conv (bo ev_int lv (o_pow (Int.natCast_nonneg pad) (pow2ok pad (by omega)))) (congrArg PyData.int hp2)) (e_fb lv hpr (by omega) (by rfl) (by rfl) (by rfl) (by rfl) (by rfl) (by rfl) (by rfl)) (o_mul (IntMulOk.of_left (Nat.le_trans (bits_lt hp5) (by decide))))) (by congr 1)) (.inr ⟨by rfl, by rfl⟩) (by rfl)) ?_
    generalize 2 ^ pad * valN pr = tot at *
    have hcnt : (8 * size + pad) / 5 ≤ 32 := by omega
    have hcI : ((8 : Int) * (size : Int) + (pad : Int)).fdiv 5 = (((8 * size + pad) / 5 : Nat) : Int) := by
      rw [show (8 : Int) * (size : Int) + (pad : Int) = ((8 * size + pad : Nat) : Int) from by omega]; exact fdivN _ 5
    have hdl := digs_len (pr := pr) (by omega)
    have h32 := digs_lt pr
    refine ex_cons (ex_assign (d := .list (intsD (NI (v :: digs pr)))) (Ev.conv (bo (ev_list (ds := [.int (v : Int)]) (evl_cons lv evl_nil (by rfl)) (by show 1 ≤ sizeLine; decide)) (ev_rev_list (ds := intsD (NI ((List.range ((8 * size + pad) / 5)).map fun i => tot / 32 ^ i % 32))) (Ev.conv (ev_compI (ns := List.map (fun i : Nat => (i : Int)) (List.range ((8 * size + pad) / 5))) (fun i => .int ((tot / 32 ^ i.toNat % 32 : Nat) : Int)) (capF (by rfl) (by decide) (by rfl) (by decide) (by decide) (by rfl) ?_ ?_ ?_) (by rfl) (src_rangeI (n := (((8 * size + pad) / 5 : Nat) : Int)) (by rfl) (Ev.conv (bo (bo (bo ev_int lv (o_mul (IntMulOk.of_left (by decide)))) lv o_add) ev_int (o_fdiv (by decide) (by decide))) (congrArg PyData.int hcI)) (by omega) (by omega) (by rfl)) (by simp [sizeLine_eq]; omega) (fun C n hn => ?_) (fun n hn => rfl) (fun v => by rfl)) ?_) (ev_unary ev_int o_neg) (by rw [intsD_len, NI_len, List.length_map, List.length_range, sizeLine_eq]; omega)) (o_cat (by show 1 + _ ≤ _; rw [List.length_reverse, intsD_len, NI_len, List.length_map, List.length_range, sizeLine_eq]; omega))) ?_) (.inl (by rfl)) (by rfl)) ?_
    · exact ⟨fun h => (by cases h), fun h => (by cases h), fun _ => ⟨rfl, rfl⟩, trivial⟩
    · intro q hq
      rcases List.mem_cons.mp hq with e | hq
      · subst e; first | exact .head _ | exact .tail _ (.head _) | exact .tail _ (.tail _ (.head _))
      · cases hq
    · exact List.nodup_cons.mpr ⟨fun h => (by cases h), .nil⟩
    · obtain ⟨i, hi, rfl⟩ := List.mem_map.mp hn
      have hi := List.mem_range.mp hi
      have h0 : ((32 ^ i : Nat) : Int) ≠ 0 := by have := Nat.pow_pos (n := i) (show 0 < 32 by decide); omega
      exact Ev.conv (bo (Ev.conv (bo cv (Ev.conv (bo ev_int lv (o_pow (Int.natCast_nonneg i) (pow32ok i (by omega)))) (congrArg PyData.int (pow32e i))) (o_fdiv h0 (pow32log (by omega)))) (congrArg PyData.int (fdivN tot (32 ^ i)))) ev_int (o_mod (by decide))) (congrArg PyData.int (fmodN _ 32))
    · rw [List.map_map]; simp only [NI, intsD, List.map_map]; rfl
    · rw [hdg]
      simp only [NI, intsD, List.map_cons, List.map_reverse]; rfl
    clear hdg hpadI hp2 hp5 hcnt hcI hpad
    obtain ⟨hb58, ho58⟩ := conv_58 (pr := pr) hpr (by omega)
    have h85 := conv_85 (pr := pr) hpr (by omega)
    generalize digs pr = dg at *
    have h32v : ∀ n ∈ v :: dg, n < 32 := fun n hn => by
      rcases List.mem_cons.mp hn with rfl | hn
      · omega
      · exact h32 n hn
    have hok := ho.lt
    have hm : ∀ (e : Int), PyData.int e = encI (decide (v ≠ 0)) ↔ e = (if v = 0 then 1 else 2) := fun e => by
      unfold encI
      by_cases h0 : v = 0
      · simp [h0]
      · simp [h0]
    have hdV : ∀ (e : Int) (ds' : List Nat), (e = 1 ∨ e = 2) → ds'.headD 0 = v → PyData.int e ≠ encI (decide (v ≠ 0)) → decodeV e ds' = nothing2 := fun e ds' he hh hne => by
      unfold decodeV
      rw [if_pos]
      rw [hh]
      have := mt (hm e).mpr hne
      by_cases h0 : v = 0
      · rw [if_pos h0] at this
        exact .inr (.inr (.inr (.inr (.inr (.inl ⟨h0, this⟩)))))
      · rw [if_neg h0] at this
        exact .inr (.inr (.inr (.inr (.inr (.inr ⟨h0, this⟩)))))
    have hgood : ∀ (e : Int), PyData.int e = encI (decide (v ≠ 0)) → decodeV e (v :: dg) = .tuple [.int (v : Int), .list (intsD (NI pr))] := fun e he => by
      have he := (hm e).mp he
      unfold decodeV
      simp only [List.drop_succ_cons, List.drop_zero, List.headD_cons, ho58]
      rw [if_neg]
      rintro (h | h | h | h | h | h | h)
      · rw [hb58] at h; cases h
      · omega
      · omega
      · omega
      · have := hvsz h.1; omega
      · rw [if_pos h.1] at he; exact h.2 he
      · rw [if_neg h.1] at he; exact h.2 he
    have hwr := (c_written (G := G) (k := k) (m := decide (v ≠ 0)) (x := S h) (ds := v :: dg) (by rw [S_len]; have := ho.len; omega) hok (by rw [List.length_cons]; omega) h32v).lift (R := true)
    rw [written_S] at hwr
    have htl := text_len (decide (v ≠ 0)) ho h32v
    rw [List.length_cons] at htl
    have hbt := bech_text (m := decide (v ≠ 0)) ho h32v (by rw [List.length_cons]; omega)
    have hbu := bech_upper (m := decide (v ≠ 0)) ho h32v (by rw [List.length_cons]; omega)
    have ht128 := text_128 (m := decide (v ≠ 0)) ho h32v
    have hencw := encode_written (m := decide (v ≠ 0)) ho h32v
    rw [written_S] at hencw
    have hslip := @slip_ans (decide (v ≠ 0)) h (v :: dg) ns (h.length + 2) ho h32v (by rw [List.length_cons]; omega) hn (.inr ⟨rfl, by simp⟩)
    have hsll := slip_len (st := h.length + 2) (ns := ns) (l := textL (decide (v ≠ 0)) h (v :: dg)) (by omega)
    have hlen4 := ho.len
    generalize hT : textL (decide (v ≠ 0)) h (v :: dg) = T at *
    obtain ⟨em, hem⟩ : ∃ em : Int, encI (decide (v ≠ 0)) = .int em := ⟨_, rfl⟩
    rw [hem] at hbt hbu
    have hg := hgood em hem.symm
    have dec1 : ∀ l : List Nat, l.length ≤ 1000 → bechN l = .tuple [.int em, .str (S h), .list (intsD (NI (v :: dg)))] → CallsTo G true (k + 4) 12 [.str (S h), .str (S l)] (.tuple [.int (v : Int), .list (intsD (NI pr))]) := fun l hl hb => by
      have := c_decode (G := G) (k := k) (x := h) hl hb h32v (by rw [List.length_cons]; omega)
      rw [if_pos rfl, hg] at this
      exact this
    refine ex_cons (ex_assign (d := .str (S T)) (e_call3 21 (ev_ifexp (c := decide (v = 0)) (Tr.conv (tr_cmp lv ev_int c_eq (by rfl)) hv0) (fun hc => (ev_enc (n := 1) (.inl ⟨rfl, rfl⟩) (by rfl)).conv (by rw [decide_eq_false (by simpa using hc)]; rfl)) (fun hc => (ev_enc (n := 2) (.inr ⟨rfl, rfl⟩) (by rfl)).conv (by rw [decide_eq_true (by simpa using hc)]; rfl))) lv lv hwr (by omega)) (.inl (by rfl)) (by rfl)) ?_
    have hup : (Txt.upper (S T)).length ≤ 1000000 := Nat.le_trans (len_upper _) (by rw [S_len]; omega)
    have hcond : ((turn / 7 % 2 : Nat) : Int) = 1 ↔ turn / 7 % 2 = 1 := by omega
    refine ex_cons (ex_assign (d := .str (S (if turn / 7 % 2 = 1 then T.map up1 else T))) (ev_ifexp (c := decide (turn / 7 % 2 = 1)) (Tr.conv (tr_cmp ((bo (Ev.conv (bo cv ev_int (o_fdiv (by decide) (by decide))) (congrArg PyData.int (fdivN turn 7))) ev_int (o_mod (by decide))).conv (congrArg PyData.int (fmodN (turn / 7) 2))) ev_int c_eq (by rfl)) (by rw [Bool.eq_iff_iff]; simp; omega)) (fun hc => (e_upper lv hup).conv (by rw [upper_S ht128, if_pos (of_decide_eq_true hc)])) (fun hc => Ev.conv lv (by rw [if_neg (of_decide_eq_false hc)]))) (.inl (by rfl)) (by rfl)) ?_
    have hshown : bechN (if turn / 7 % 2 = 1 then T.map up1 else T) = .tuple [.int em, .str (S h), .list (intsD (NI (v :: dg)))] := by split; exact hbu; exact hbt
    have hshl : (if turn / 7 % 2 = 1 then T.map up1 else T).length ≤ 1000 := by split; rw [List.length_map]; omega; omega
    generalize (if turn / 7 % 2 = 1 then T.map up1 else T) = sh at *
    have hec := c_enc (G := G) (k := k) (h := h) (v := v) (pr := pr) (ds := dg) (by omega) (by omega) hpr (by omega) h85 h32 (by omega) (by rw [hencw]; exact dec1 T (by omega) hbt)
    rw [hencw] at hec
    have hds := dec1 sh hshl hshown
    have hpair : ∀ {k : Nat} {ρ : Rho} {p1 p2 pos : Pos} {u : Nat} (h1 : ρ.lookup (Str.ofString "version") = some (PyData.int (v : Int))) (h2 : ρ.lookup (Str.ofString "program") = some (PyData.list (intsD (NI pr)))), Ev G true k (envOfC (fnName 25) (fnScope 25) L a cd) ρ (.Tuple [.Name "version" p1, .Name "program" p2] u pos) (.tuple [.int (v : Int), .list (intsD (NI pr))]) := by
      intro k ρ p1 p2 pos u h1 h2
      exact ev_tuple (evl_cons (lv (hl := h1)) (evl_cons (lv (hl := h2)) evl_nil (by rfl)) (by rfl)) (by show 2 ≤ sizeLine; decide)
    have hdep : (PyData.tuple [.int (v : Int), .list (intsD (NI pr))]).depth ≤ 3 := by simp [PyData.depth, PyData.depthAll, depth_ints]
    refine ex_ifret (b := false) (tr_or (a := false) (b := false) (Tr.conv (tr_cmp (e_call3 13 lv lv lv hec (by omega)) lv c_nes (by rfl)) (by simp)) (fun _ => Tr.conv (tr_cmp (e_call2 12 lv lv hds (by omega)) (hpair (by rfl) (by rfl)) (c_nev (Nat.succ_pos _) (lay_vl _ _) (lay_vl _ _) (by omega)) (by rfl)) (by rw [eqv_pair]; simp))) (fun e => by cases e) (fun _ => ?_)
    have hsc := (c_slipped (G := G) (k := k) (st := h.length + 2) (l := T) (ns := ns) (by omega) (by omega)).lift (R := true)
    have hlS : (S h).length < 2 ^ 62 := by rw [S_len]; omega
    refine ex_cons (ex_assign (d := .str (S (slipN (h.length + 2) T ns))) (e_call3 23 lv (Ev.conv (bo ((e_lenS lv hlS).conv (by rw [S_len])) ev_int o_add) (by congr 1)) lv hsc (by omega)) (.inl (by rfl)) (by rfl)) ?_
    have heq : (S (slipN (h.length + 2) T ns) == S T) = decide (slipN (h.length + 2) T ns = T) := by rw [Bool.eq_iff_iff]; simp
    rcases hslip with hb | hb | ⟨e, ds', hb, hne, he, h32', hdl', hhd⟩
    · refine ex_last (ex_return (Ev.conv (ev_cmp (e_call2 12 lv lv (dec1 _ (by omega) (by rw [hb]; exact hbt)) (by omega)) (ev_ifexp (c := true) (Tr.conv (tr_cmp lv lv c_eqs (by rfl)) (by rw [heq, decide_eq_true hb])) (fun _ => hpair (by rfl) (by rfl)) (fun e => by cases e)) (c_eqv (Nat.succ_pos _) (lay_vl _ _) (lay_vl _ _) (by omega)) (by rfl)) (by rw [eqv_pair]; simp)))
    · have hnb : slipN (h.length + 2) T ns ≠ T := fun e => by rw [e, hbt] at hb; simp [nothing] at hb
      refine ex_last (ex_return (Ev.conv (ev_cmp (e_call2 12 lv lv (c_decode0 (k := k) (by omega) hb) (by omega)) (ev_ifexp (c := false) (Tr.conv (tr_cmp lv lv c_eqs (by rfl)) (by rw [heq, decide_eq_false hnb])) (fun e => by cases e) (fun _ => ev_nothing2)) (c_eqv (Nat.succ_pos _) lay_n2 lay_n2 (by rw [dep_n2]; omega)) (by rfl)) (by rw [eqv_n2])))
    · have hnb : slipN (h.length + 2) T ns ≠ T := fun e' => by
        rw [e', hbt] at hb
        injection hb with hb
        injection hb with hb1 hb2
        exact hne (hb1.symm.trans hem.symm)
      have hdc := c_decode (G := G) (k := k) (x := h) (l := slipN (h.length + 2) T ns) (by omega) hb h32' (by omega)
      rw [if_pos rfl, hdV e ds' he (hhd rfl) hne] at hdc
      refine ex_last (ex_return (Ev.conv (ev_cmp (e_call2 12 lv lv hdc (by omega)) (ev_ifexp (c := false) (Tr.conv (tr_cmp lv lv c_eqs (by rfl)) (by rw [heq, decide_eq_false hnb])) (fun e => by cases e) (fun _ => ev_nothing2)) (c_eqv (Nat.succ_pos _) lay_n2 lay_n2 (by rw [dep_n2]; omega)) (by rfl)) (by rw [eqv_n2])))
end
end Bx
end

section
open PySem PySem.W PyProof.Rows PySem.Calls PySem.Spec
set_option autoImplicit false
set_option maxRecDepth 20000
set_option maxHeartbeats 800000
namespace Bx
section
variable {G : Gl} {R : Bool} {k : Nat} {env : Env} {ρ : Rho}
theorem sl_len (x : Str) (l u : Option Int) {n : Nat} (h : x.length ≤ n) : (Txt.slice x l u).length ≤ n := Nat.le_trans (Txt.slice_le x l u) h
theorem up_len {x : Str} {n : Nat} (h : x.length ≤ n) : (Txt.upper x).length ≤ 3 * n := Nat.le_trans (len_upper x) (Nat.mul_le_mul_left 3 h)
theorem app_len {x y : Str} {n m : Nat} (h : x.length ≤ n) (h2 : y.length ≤ m) : (x ++ y).length ≤ n + m := by rw [Str.length_append]; omega
theorem rev_len (x : Str) : (⟨x.cps.toList.reverse.toArray⟩ : Str).length = x.length := by simp [Str.length]
theorem cat_ok {x y : Str} {n m : Nat} (h : x.length ≤ n) (h2 : y.length ≤ m) (hn : n + m ≤ 100000) : x.length + y.length ≤ sizeLine := by rw [sizeLine_eq]; omega
theorem c_wild {T h : List Nat} {turn : Nat} (ho : HrpOk h) (hT : 1 ≤ T.length ∧ T.length ≤ 100) : ∃ y : List Nat, y.length ≤ 600 ∧ CallsTo G false (k + 3) 24 [.str (S T), .str (S h), .int (turn : Int)] (.str (S y)) := by
  suffices hs : ∃ y : Str, y.length ≤ 600 ∧ ∀ L a cd, Ex G false (k + 2) (envOfC (fnName 24) (fnScope 24) L a cd) (bindR ((paramsOf 24).zip [.str (S T), .str (S h), .int (turn : Int)]) []) (fnBody 24) (.ret (.str y)) by
    obtain ⟨y, hy, hb⟩ := hs
    refine ⟨y.cps.toList, by simpa [Str.length] using hy, ?_⟩
    rw [← S_list y]
    refine calls_of (by rfl) (by decide) (by decide) (fun pm cd doc vs hl => ?_) (by rfl) (by rfl) (fun L a cd _ => hb L a cd)
    match vs, hl with
    | [u, v, w], _ => rfl
  have hxl : (S T).length ≤ 100 := by rw [S_len]; exact hT.2
  have hsl : (S T).length ≤ sizeLine := by rw [sizeLine_eq]; omega
  have h62 : (S T).length < 2 ^ 62 := by omega
  have hhl : (S h).length < 2 ^ 62 := by rw [S_len]; have := ho.len; omega
  have hlen0 : ((S T).length : Int) ≠ 0 := by rw [S_len]; omega
  have s1 : ∀ L a cd d, (∀ (ρ : Rho), ρ = ([("place", .int ((turn / 11 % T.length : Nat) : Int)), ("way", .int ((turn / 48 % 8 : Nat) : Int)), ("turn", .int (turn : Int)), ("hrp", .str (S h)), ("text", .str (S T))] : List (Str × PyData)) → Ex G false (k + 2) (envOfC (fnName 24) (fnScope 24) L a cd) ρ ((fnBody 24).drop 2) (.ret d)) → Ex G false (k + 2) (envOfC (fnName 24) (fnScope 24) L a cd) (bindR ((paramsOf 24).zip [.str (S T), .str (S h), .int (turn : Int)]) []) (fnBody 24) (.ret d) := fun L a cd d hr => by
    refine ex_cons (ex_assign (d := .int ((turn / 48 % 8 : Nat) : Int)) ((bo (Ev.conv (bo lv ev_int (o_fdiv (by decide) (by decide))) (congrArg PyData.int (fdivN turn 48))) ev_int (o_mod (by decide))).conv (congrArg PyData.int (fmodN (turn / 48) 8))) (.inl (by rfl)) (by rfl)) ?_
    refine ex_cons (ex_assign (d := .int ((turn / 11 % T.length : Nat) : Int)) ((bo (Ev.conv (bo lv ev_int (o_fdiv (by decide) (by decide))) (congrArg PyData.int (fdivN turn 11))) (e_lenS lv h62) (o_mod hlen0)).conv (by rw [S_len]; exact congrArg PyData.int (fmodN (turn / 11) T.length))) (.inl (by rfl)) (by rfl)) ?_
    exact hr _ rfl
  have hp : turn / 11 % T.length < T.length := Nat.mod_lt _ hT.1
  have hw8 : turn / 48 % 8 < 8 := Nat.mod_lt _ (by decide)
  generalize turn / 11 % T.length = pl at *
  obtain ⟨wy, hw⟩ : ∃ wy, turn / 48 % 8 = wy := ⟨_, rfl⟩
  rw [hw] at s1 hw8
  have hcases : wy = 0 ∨ wy = 1 ∨ wy = 2 ∨ wy = 3 ∨ wy = 4 ∨ wy = 5 ∨ wy = 6 ∨ wy = 7 := by omega
  rcases hcases with rfl | rfl | rfl | rfl | rfl | rfl | rfl | rfl
  · refine ⟨Txt.slice (S T) none (some (pl : Int)) ++ Txt.slice (S T) (some ((pl : Int) + 1)) none, Nat.le_trans (app_len (sl_len _ _ _ hxl) (sl_len _ _ _ hxl)) (by decide), fun L a cd => s1 L a cd _ fun ρ hρ => ?_⟩
    · subst hρ
      
      exact ex_ifret (b := true) (tr_cmp lv ev_int c_eq (by rfl)) (fun _ => ex_last (ex_return (bo (ev_slice_str (lo := none) (hi := some (pl : Int)) lv trivial lv hsl) (ev_slice_str (lo := some ((pl : Int) + 1)) (hi := none) lv (bo lv ev_int o_add) trivial hsl) (o_cats (cat_ok (sl_len _ _ _ hxl) (sl_len _ _ _ hxl) (by decide)))))) (fun e => by cases e)
  · refine ⟨Txt.slice (S T) none (some (pl : Int)) ++ Txt.upper (Txt.slice (S T) (some (pl : Int)) (some ((pl : Int) + 1))) ++ Txt.slice (S T) (some ((pl : Int) + 1)) none, Nat.le_trans (app_len (app_len (sl_len _ _ _ hxl) (up_len (sl_len _ _ _ hxl))) (sl_len _ _ _ hxl)) (by decide), fun L a cd => s1 L a cd _ fun ρ hρ => ?_⟩
    · subst hρ
      refine ex_ifret (b := false) (tr_cmp lv ev_int c_eq (by rfl)) (fun e => by cases e) (fun _ => ?_)
      exact ex_ifret (b := true) (tr_cmp lv ev_int c_eq (by rfl)) (fun _ => ex_last (ex_return (bo (bo (ev_slice_str (lo := none) (hi := some (pl : Int)) lv trivial lv hsl) (e_upper (ev_slice_str (lo := some (pl : Int)) (hi := some ((pl : Int) + 1)) lv lv (bo lv ev_int o_add) hsl) (Nat.le_trans (up_len (sl_len _ _ _ hxl)) (by decide))) (o_cats (cat_ok (sl_len _ _ _ hxl) (up_len (sl_len _ _ _ hxl)) (by decide)))) (ev_slice_str (lo := some ((pl : Int) + 1)) (hi := none) lv (bo lv ev_int o_add) trivial hsl) (o_cats (cat_ok (app_len (sl_len _ _ _ hxl) (up_len (sl_len _ _ _ hxl))) (sl_len _ _ _ hxl) (by decide)))))) (fun e => by cases e)
  · refine ⟨Txt.slice (S T) none (some (pl : Int)) ++ (⟨#[((turn % 140 : Nat) : Int).toNat]⟩ : Str) ++ Txt.slice (S T) (some (pl : Int)) none, Nat.le_trans (app_len (app_len (m := 1) (sl_len _ _ _ hxl) (by show 1 ≤ 1; decide)) (sl_len _ _ _ hxl)) (by decide), fun L a cd => s1 L a cd _ fun ρ hρ => ?_⟩
    · subst hρ
      refine ex_ifret (b := false) (tr_cmp lv ev_int c_eq (by rfl)) (fun e => by cases e) (fun _ => ?_)
      refine ex_ifret (b := false) (tr_cmp lv ev_int c_eq (by rfl)) (fun e => by cases e) (fun _ => ?_)
      exact ex_ifret (b := true) (tr_cmp lv ev_int c_eq (by rfl)) (fun _ => ex_last (ex_return (bo (bo (ev_slice_str (lo := none) (hi := some (pl : Int)) lv trivial lv hsl) (e_chr (i := ((turn % 140 : Nat) : Int)) ((bo lv ev_int (o_mod (by decide))).conv (congrArg PyData.int (fmodN turn 140))) (by omega) (by omega)) (o_cats (cat_ok (m := 1) (sl_len _ _ _ hxl) (by show 1 ≤ 1; decide) (by decide)))) (ev_slice_str (lo := some (pl : Int)) (hi := none) lv lv trivial hsl) (o_cats (cat_ok (app_len (m := 1) (sl_len _ _ _ hxl) (by show 1 ≤ 1; decide)) (sl_len _ _ _ hxl) (by decide)))))) (fun e => by cases e)
  · refine ⟨Txt.slice (S T) none (some (pl : Int)) ++ Str.ofString "1" ++ Txt.slice (S T) (some ((pl : Int) + 1)) none, Nat.le_trans (app_len (app_len (m := 1) (sl_len _ _ _ hxl) (by show 1 ≤ 1; decide)) (sl_len _ _ _ hxl)) (by decide), fun L a cd => s1 L a cd _ fun ρ hρ => ?_⟩
    · subst hρ
      refine ex_ifret (b := false) (tr_cmp lv ev_int c_eq (by rfl)) (fun e => by cases e) (fun _ => ?_)
      refine ex_ifret (b := false) (tr_cmp lv ev_int c_eq (by rfl)) (fun e => by cases e) (fun _ => ?_)
      refine ex_ifret (b := false) (tr_cmp lv ev_int c_eq (by rfl)) (fun e => by cases e) (fun _ => ?_)
      exact ex_ifret (b := true) (tr_cmp lv ev_int c_eq (by rfl)) (fun _ => ex_last (ex_return (bo (bo (ev_slice_str (lo := none) (hi := some (pl : Int)) lv trivial lv hsl) ev_str (o_cats (cat_ok (m := 1) (sl_len _ _ _ hxl) (by show 1 ≤ 1; decide) (by decide)))) (ev_slice_str (lo := some ((pl : Int) + 1)) (hi := none) lv (bo lv ev_int o_add) trivial hsl) (o_cats (cat_ok (app_len (m := 1) (sl_len _ _ _ hxl) (by show 1 ≤ 1; decide)) (sl_len _ _ _ hxl) (by decide)))))) (fun e => by cases e)
  · have h5 : turn / 5 % 2 < 2 := Nat.mod_lt _ (by decide)
    have h7 : turn / 7 % 32 < 32 := Nat.mod_lt _ (by decide)
    have hh := ho.len
    refine ⟨writtenN true (S h) (List.replicate (83 - h.length + turn / 5 % 2) (turn / 7 % 32)), ?_, fun L a cd => s1 L a cd _ fun ρ hρ => ?_⟩
    · have h32 : ∀ n ∈ List.replicate (83 - h.length + turn / 5 % 2) (turn / 7 % 32), n < 32 := fun n hn => by rw [List.eq_of_mem_replicate hn]; exact h7
      rw [written_S, S_len, text_len true ho h32, List.length_replicate]; omega
    subst hρ
    refine ex_ifret (b := false) (tr_cmp lv ev_int c_eq (by rfl)) (fun e => by cases e) (fun _ => ?_)
    refine ex_ifret (b := false) (tr_cmp lv ev_int c_eq (by rfl)) (fun e => by cases e) (fun _ => ?_)
    refine ex_ifret (b := false) (tr_cmp lv ev_int c_eq (by rfl)) (fun e => by cases e) (fun _ => ?_)
    refine ex_ifret (b := false) (tr_cmp lv ev_int c_eq (by rfl)) (fun e => by cases e) (fun _ => ?_)
    have h32 : ∀ n ∈ List.replicate (83 - h.length + turn / 5 % 2) (turn / 7 % 32), n < 32 := fun n hn => by rw [List.eq_of_mem_replicate hn]; exact h7
    have hwr := c_written (G := G) (k := k) (m := true) (x := S h) (ds := List.replicate (83 - h.length + turn / 5 % 2) (turn / 7 % 32)) (by rw [S_len]; omega) ho.lt (by rw [List.length_replicate]; omega) h32
    have hcnt : (83 : Int) - (h.length : Int) + ((turn / 5 % 2 : Nat) : Int) = ((83 - h.length + turn / 5 % 2 : Nat) : Int) := by omega
    refine ex_ifret (b := true) (tr_cmp lv ev_int c_eq (by rfl)) (fun _ => ex_last (ex_return (e_call3 21 ((ev_enc (n := 2) (.inr ⟨rfl, rfl⟩) (by rfl)).conv rfl) lv (Ev.conv (bo (ev_list (ds := [.int ((turn / 7 % 32 : Nat) : Int)]) (evl_cons ((bo (Ev.conv (bo lv ev_int (o_fdiv (by decide) (by decide))) (congrArg PyData.int (fdivN turn 7))) ev_int (o_mod (by decide))).conv (congrArg PyData.int (fmodN (turn / 7) 32))) evl_nil (by rfl)) (by show 1 ≤ sizeLine; decide)) (Ev.conv (bo (bo ev_int ((e_lenS lv hhl).conv (by rw [S_len])) o_sub) ((bo (Ev.conv (bo lv ev_int (o_fdiv (by decide) (by decide))) (congrArg PyData.int (fdivN turn 5))) ev_int (o_mod (by decide))).conv (congrArg PyData.int (fmodN (turn / 5) 2))) o_add) (congrArg PyData.int hcnt)) (o_rep (by omega) (by omega) (by show 1 * _ ≤ _; omega))) ?_) hwr (by omega)))) (fun e => by cases e)
    rw [Int.toNat_natCast]
    refine congrArg PyData.list ?_
    generalize 83 - h.length + turn / 5 % 2 = n
    generalize turn / 7 % 32 = q
    induction n with
    | zero => rfl
    | succ n ih =>
      have e : (List.replicate (n + 1) [PyData.int (q : Int)]).flatten = PyData.int (q : Int) :: (List.replicate n [PyData.int (q : Int)]).flatten := by rw [List.replicate_succ, List.flatten_cons]; rfl
      have e2 : intsD (NI (List.replicate (n + 1) q)) = PyData.int (q : Int) :: intsD (NI (List.replicate n q)) := by rw [List.replicate_succ]; rfl
      rw [e, e2, ih]
  · refine ⟨Str.ofString "x" ++ Txt.slice (S T) (some 1) none, Nat.le_trans (app_len (n := 1) (by show 1 ≤ 1; decide) (sl_len _ _ _ hxl)) (by decide), fun L a cd => s1 L a cd _ fun ρ hρ => ?_⟩
    · subst hρ
      refine ex_ifret (b := false) (tr_cmp lv ev_int c_eq (by rfl)) (fun e => by cases e) (fun _ => ?_)
      refine ex_ifret (b := false) (tr_cmp lv ev_int c_eq (by rfl)) (fun e => by cases e) (fun _ => ?_)
      refine ex_ifret (b := false) (tr_cmp lv ev_int c_eq (by rfl)) (fun e => by cases e) (fun _ => ?_)
      refine ex_ifret (b := false) (tr_cmp lv ev_int c_eq (by rfl)) (fun e => by cases e) (fun _ => ?_)
      refine ex_ifret (b := false) (tr_cmp lv ev_int c_eq (by rfl)) (fun e => by cases e) (fun _ => ?_)
      exact ex_ifret (b := true) (tr_cmp lv ev_int c_eq (by rfl)) (fun _ => ex_last (ex_return (bo ev_str (ev_slice_str (lo := some 1) (hi := none) lv ev_int trivial hsl) (o_cats (cat_ok (n := 1) (by show 1 ≤ 1; decide) (sl_len _ _ _ hxl) (by decide)))))) (fun e => by cases e)
  · refine ⟨Txt.slice (S T) none (some (pl : Int)) ++ (⟨(Txt.slice (S T) (some (pl : Int)) (some ((pl : Int) + 2))).cps.toList.reverse.toArray⟩ : Str) ++ Txt.slice (S T) (some ((pl : Int) + 2)) none, Nat.le_trans (app_len (app_len (sl_len _ _ _ hxl) (by rw [rev_len]; exact (sl_len _ _ _ hxl))) (sl_len _ _ _ hxl)) (by decide), fun L a cd => s1 L a cd _ fun ρ hρ => ?_⟩
    · subst hρ
      refine ex_ifret (b := false) (tr_cmp lv ev_int c_eq (by rfl)) (fun e => by cases e) (fun _ => ?_)
      refine ex_ifret (b := false) (tr_cmp lv ev_int c_eq (by rfl)) (fun e => by cases e) (fun _ => ?_)
      refine ex_ifret (b := false) (tr_cmp lv ev_int c_eq (by rfl)) (fun e => by cases e) (fun _ => ?_)
      refine ex_ifret (b := false) (tr_cmp lv ev_int c_eq (by rfl)) (fun e => by cases e) (fun _ => ?_)
      refine ex_ifret (b := false) (tr_cmp lv ev_int c_eq (by rfl)) (fun e => by cases e) (fun _ => ?_)
      refine ex_ifret (b := false) (tr_cmp lv ev_int c_eq (by rfl)) (fun e => by cases e) (fun _ => ?_)
      exact ex_ifret (b := true) (tr_cmp lv ev_int c_eq (by rfl)) (fun _ => ex_last (ex_return (bo (bo (ev_slice_str (lo := none) (hi := some (pl : Int)) lv trivial lv hsl) (ev_rev_str (ev_slice_str (lo := some (pl : Int)) (hi := some ((pl : Int) + 2)) lv lv (bo lv ev_int o_add) hsl) (ev_unary ev_int o_neg) (Nat.le_trans (sl_len _ _ _ hxl) (by decide))) (o_cats (cat_ok (sl_len _ _ _ hxl) (by rw [rev_len]; exact (sl_len _ _ _ hxl)) (by decide)))) (ev_slice_str (lo := some ((pl : Int) + 2)) (hi := none) lv (bo lv ev_int o_add) trivial hsl) (o_cats (cat_ok (app_len (sl_len _ _ _ hxl) (by rw [rev_len]; exact (sl_len _ _ _ hxl))) (sl_len _ _ _ hxl) (by decide)))))) (fun e => by cases e)
  · refine ⟨S h ++ Txt.slice (S T) (some ((h.length : Int) + 1)) none, Nat.le_trans (app_len (n := 4) (by rw [S_len]; exact ho.len.2) (sl_len _ _ _ hxl)) (by decide), fun L a cd => s1 L a cd _ fun ρ hρ => ?_⟩
    · subst hρ
      refine ex_ifret (b := false) (tr_cmp lv ev_int c_eq (by rfl)) (fun e => by cases e) (fun _ => ?_)
      refine ex_ifret (b := false) (tr_cmp lv ev_int c_eq (by rfl)) (fun e => by cases e) (fun _ => ?_)
      refine ex_ifret (b := false) (tr_cmp lv ev_int c_eq (by rfl)) (fun e => by cases e) (fun _ => ?_)
      refine ex_ifret (b := false) (tr_cmp lv ev_int c_eq (by rfl)) (fun e => by cases e) (fun _ => ?_)
      refine ex_ifret (b := false) (tr_cmp lv ev_int c_eq (by rfl)) (fun e => by cases e) (fun _ => ?_)
      refine ex_ifret (b := false) (tr_cmp lv ev_int c_eq (by rfl)) (fun e => by cases e) (fun _ => ?_)
      refine ex_ifret (b := false) (tr_cmp lv ev_int c_eq (by rfl)) (fun e => by cases e) (fun _ => ?_)
      exact ex_last (ex_return (bo lv (ev_slice_str (lo := some ((h.length : Int) + 1)) (hi := none) lv (bo ((e_lenS lv hhl).conv (by rw [S_len])) ev_int o_add) trivial hsl) (o_cats (cat_ok (n := 4) (by rw [S_len]; exact ho.len.2) (sl_len _ _ _ hxl) (by decide)))))
end
end Bx
end

section
open PySem PySem.W PyProof.Rows PySem.Calls PySem.Spec
namespace Bx
def CallsC (G : Gl) (R : Bool) (k : Nat) (i : Nat) (ds : List PyData) (d : PyData) : Prop :=
  ∀ A s vs a cd, Room k A → Wh G s → Pre G R s → RepAll s.heap vs ds → FnAt G (s.heap.hide G.P) i a cd → codeAny (model G.prog G.w) A (.call (.ref a) ⟨vs, []⟩) (fun r s' => ∃ v, r = .ok (.ret v) ∧ Rep s'.heap v d ∧ Rel G R s s') s
section
variable {G : Gl} {R : Bool} {k : Nat}
theorem calls_code {i : Nat} {ds : List PyData} {d : PyData} (hk : (fnScope i).kind = .function) (hnd : ((cellsFrom 0 (fnScope i).names []).map (·.1)).Nodup)
    (hkind : ∀ n ∈ paramsOf i, (fnScope i).names.lookup n = some .local ∨ (fnScope i).names.lookup n = some .cell)
    (hbind : ∀ pm cd doc vs, vs.length = ds.length → bindArgs (docDef (fnName i) (fnParams i) (fnBody i) (fnScope i) pm cd doc) ⟨vs, []⟩ = pure ((paramsOf i).zip vs))
    (hco : (fnScope i).isCoroutine = false) (hgen : (fnScope i).isGenerator = false)
    (body : ∀ L a cd, (i = 10 → cd = .ref G.c) → Ex G R k (envOfC (fnName i) (fnScope i) L a cd) (bindR ((paramsOf i).zip ds) []) (fnBody i) (.ret d)) : CallsC G R (k + 1) i ds d := by
  intro A s vs a cd rm w p r fa
  obtain ⟨o, pm, doc, ho, hdat⟩ := fa.at_
  refine codeAny_call_function (fd := docDef (fnName i) (fnParams i) (fnBody i) (fnScope i) pm cd doc) (rm.lt (Nat.succ_pos _)) (Heap.of_hide ho) hdat hco hgen rfl (fa.code.keeps fun _ _ e => Heap.of_hide e) ?_
  rw [hbind pm cd doc vs r.length]
  refine wpAny_pure (wpAny_newFunctionEnv_cells hk (fun x hx => ?_) fun env he s' x => ?_)
  · have := hkind x.1 (List.of_mem_zip hx).1
    rcases this with h | h
    · exact .inl h
    · exact .inr ⟨h, cellsFrom_some _ _ _ (.inl h)⟩
  have hs' := x.done
  have he' : env = envOfC (fnName i) (fnScope i) s.heap.objs.size a cd := he
  subst he'
  have fs : FS G (envOfC (fnName i) (fnScope i) s.heap.objs.size a cd) (bindR ((paramsOf i).zip ds) []) s' := frame0 hk hnd hkind w r x
  refine ⟨fs.wd.lim.keeps fun _ _ e => Heap.of_hide e, codeAny_func ?_⟩
  have p' : Pre G R s' := fun e => inv_call (p e) x
  refine wpAny_mono (body _ a cd (fun e => by subst e; exact code_dec w.wd fa) (A.deeper _) s' rm.deeper fs p') (fun f s₂ y => ?_) fun _ _ y => y.elim
  obtain ⟨⟨v, rfl, rv, _⟩, rb⟩ := y
  refine ⟨v, rfl, rv, ?_⟩
  obtain ⟨h', tk, rfl, hkeep⟩ := hs'
  have old : ∀ b o, s.heap.get? b = some o → b ∉ Own (envOfC (fnName i) (fnScope i) s.heap.objs.size a cd) := fun b o e hb => by
    have hlt := Heap.lt_size e
    rcases List.mem_cons.mp hb with h | h
    · exact Nat.ne_of_lt hlt h
    · obtain ⟨q, hq, e'⟩ := List.mem_map.mp h
      have := x.above q.1 q.2 hq
      rw [e'] at this
      exact Nat.lt_irrefl _ (Nat.lt_trans hlt this)
  cases R with
  | false =>
    obtain ⟨h₂, tk₂, rfl⟩ := rb.pure_ rfl
    exact ⟨h₂, tk₂, rfl, fun b o e => rb.keep b o (old b o e) (fun e => by cases e) (hkeep b o e)⟩
  | true => exact ⟨fun b o hb e => rb.keep b o (old b o e) (fun _ => hb) (hkeep b o e), rb.inv rfl⟩
end
end Bx
end

section
open PySem PySem.W PyProof.Rows PySem.Calls PySem.Spec
set_option autoImplicit false
set_option maxRecDepth 20000
set_option maxHeartbeats 800000
namespace Bx
theorem bechC_cases (h d : List Nat) (hlt : ∀ c ∈ h, c < 128) : bechC h d = nothing ∨ ∃ e h' ds', bechC h d = .tuple [.int e, .str (S h'), .list (intsD (NI ds'))] ∧ ∀ c ∈ h', c < 128 := by
  by_cases hc : h = [] ∨ d.length < 6 ∨ ¬ (∀ c ∈ d, c ∈ csetL)
  · exact .inl (by unfold bechC; rw [if_pos hc])
  · by_cases h1 : polyN (expandN (S h) ++ d.map idx) = 1
    · exact .inr ⟨1, h, _, by unfold bechC found; rw [if_neg hc, show encOf _ = .int 1 from by rw [encOf, if_pos h1]], hlt⟩
    · by_cases h2 : polyN (expandN (S h) ++ d.map idx) = 734539939
      · exact .inr ⟨2, h, _, by unfold bechC found; rw [if_neg hc, show encOf _ = .int 2 from by rw [encOf, if_neg h1, if_pos h2]], hlt⟩
      · exact .inl (by unfold bechC found; rw [if_neg hc, show encOf _ = .none from by rw [encOf, if_neg h1, if_neg h2]])
theorem bech_cases (l : List Nat) : bechN l = nothing ∨ ∃ e h' ds', bechN l = .tuple [.int e, .str (S h'), .list (intsD (NI ds'))] ∧ ∀ c ∈ h', c < 128 := by
  unfold bechN
  split
  · exact .inl rfl
  · rename_i hc
    have hok : l.all okC = true := by
      cases e : l.all okC
      · exact absurd (.inr (.inl e)) hc
      · rfl
    cases hcut : cut (l.map lo1) with
    | none => exact .inl rfl
    | some p =>
      obtain ⟨h, d⟩ := p
      have hlt : ∀ c ∈ h, c < 128 := by
        intro c hc'
        have hm : c ∈ l.map lo1 := by rw [(cut_some hcut).1]; simp [hc']
        obtain ⟨c', hc'', rfl⟩ := List.mem_map.mp hm
        have := List.all_eq_true.mp hok c' hc''
        simp [okC] at this
        unfold lo1; split <;> omega
      exact bechC_cases h d hlt
theorem strOk_S {h : List Nat} (hh : ∀ c ∈ h, c < 128) : PyData.strOk (S h) = true := by
  show Array.all h.toArray _ = true
  rw [List.all_toArray, List.all_eq_true]
  intro c hc
  have := hh c hc
  simp; omega
theorem lay_tri {e : Int} {h ds : List Nat} (hh : ∀ c ∈ h, c < 128) : (PyData.tuple [.int e, .str (S h), .list (intsD (NI ds))]).canLay0 = true := by
  simp only [PyData.canLay0, PyData.canLayAll0, lay_ints, strOk_S hh, Bool.and_true]
theorem lay_n3 : nothing.canLay0 = true := by simp [nothing, PyData.canLay0, PyData.canLayAll0]
theorem lay_bech (l : List Nat) : (bechN l).canLay0 = true := by
  rcases bech_cases l with h | ⟨e, h', ds', h, hh⟩ <;> rw [h]
  · exact lay_n3
  · exact lay_tri hh
theorem dep_bech (l : List Nat) : (bechN l).depth ≤ 3 := by
  rcases bech_cases l with h | ⟨e, h', ds', h, hh⟩ <;> rw [h]
  · simp [nothing, PyData.depth, PyData.depthAll]
  · simp [PyData.depth, PyData.depthAll, depth_ints]
theorem eqv_ints (a : List Int) : PyData.eqvAll (intsD a) (intsD a) = true := (PySem.W.ked_eqvAll a a).trans (by simp)
theorem eqv_bech (l : List Nat) : PyData.eqv (bechN l) (bechN l) = true := by
  rcases bech_cases l with h | ⟨e, h', ds', h, hh⟩ <;> rw [h]
  · simp [nothing, PyData.eqv, PyData.eqvAll]
  · simp [PyData.eqv, PyData.eqvAll, eqv_ints]
theorem eqv_tri (e : Int) (h ds : List Nat) : PyData.eqv (.tuple [.int e, .str (S h), .list (intsD (NI ds))]) (.tuple [.int e, .str (S h), .list (intsD (NI ds))]) = true := by
  simp [PyData.eqv, PyData.eqvAll, eqv_ints]

def seedL (script : List Int) : List Int := if script.take 26 = [] then [11, 7, 500] else script.take 26
theorem seed_len (script : List Int) : 1 ≤ (seedL script).length ∧ (seedL script).length ≤ 26 := by
  unfold seedL
  split
  · decide
  · rename_i h
    constructor
    · cases e : script.take 26 with
      | nil => exact absurd e h
      | cons _ _ => simp
    · rw [List.length_take]; omega
def hrpC (seed : List Int) (turn i : Nat) : Nat := (33 + ((seed.getD (i % seed.length) 0).fdiv 7 + (i : Int) * (turn : Int)).fmod 94).toNat
theorem hrpC_ok (seed : List Int) (turn i : Nat) : 33 ≤ hrpC seed turn i ∧ hrpC seed turn i ≤ 126 := by
  have h1 := Int.fmod_lt_of_pos ((seed.getD (i % seed.length) 0).fdiv 7 + (i : Int) * (turn : Int)) (show (0 : Int) < 94 by decide)
  have h2 := Int.fmod_nonneg_of_pos ((seed.getD (i % seed.length) 0).fdiv 7 + (i : Int) * (turn : Int)) (show (0 : Int) < 94 by decide)
  unfold hrpC; omega
def hrpL0 (seed : List Int) (turn : Nat) : List Nat := (List.range (1 + turn % 4)).map (hrpC seed turn)
def hrpL (seed : List Int) (turn : Nat) : List Nat := (hrpL0 seed turn).map lo1
theorem hrp_ok (seed : List Int) (turn : Nat) : HrpOk (hrpL seed turn) := by
  constructor
  · have : turn % 4 < 4 := Nat.mod_lt _ (by decide)
    simp [hrpL, hrpL0]; omega
  · intro c hc
    obtain ⟨c', hc', rfl⟩ := List.mem_map.mp hc
    obtain ⟨i, _, rfl⟩ := List.mem_map.mp hc'
    have := hrpC_ok seed turn i
    unfold lo1
    split <;> omega
theorem join_chars (l : List Nat) : Txt.join ("" : Str) (l.map fun c => (⟨#[c]⟩ : Str)) = S l := by
  rw [join_nil, List.flatMap_map]
  congr 2
  induction l with
  | nil => rfl
  | cons x l ih => rw [List.flatMap_cons, ih]; rfl
section
variable {G : Gl} {R : Bool} {k : Nat} {env : Env} {ρ : Rho}
theorem c_law {script : List Int} (hl : script.length ≤ 63) : CallsC G true (k + 8) 26 [.list (intsD script)] (.bool true) := by
  refine calls_code (by rfl) (by decide) (by decide) (fun pm cd doc vs hl => ?_) (by rfl) (by rfl) (fun L a cd hcd => ?_)
  · match vs, hl with
    | [x], _ => rfl
  · clear hcd
    have hsl := seed_len script
    have hsz0 : (intsD script).length ≤ sizeLine := by rw [intsD_len, sizeLine_eq]; omega
    have hpick : pickD (intsD script) none (some 26) = intsD (script.take 26) := by
      have := pick_to (intsD script) 26
      refine (show _ = _ from this).trans ?_
      simp only [intsD, List.map_take]
    refine ex_cons (ex_assign (d := .list (intsD (seedL script))) (Ev.conv (ev_or (d2 := .list (intsD [11, 7, 500])) (Ev.conv (ev_slice_list (lo := none) (hi := some 26) lv trivial ev_int hsz0) (by rw [hpick])) (by show decide ((intsD (script.take 26)).length < 2 ^ 62) = true; rw [intsD_len, List.length_take]; exact decide_eq_true (by omega)) (fun _ => ev_list (evl_cons ev_int (evl_cons ev_int (evl_cons ev_int evl_nil (by rfl)) (by rfl)) (by rfl)) (by decide))) ?_) (.inr ⟨by rfl, by rfl⟩) (by rfl)) ?_
    · unfold seedL
      cases e : script.take 26 with
      | nil => rfl
      | cons x r => rw [if_pos (show truth (PyData.list (intsD (x :: r))) = true from rfl), if_neg (by simp)]
    generalize seedL script = seed at *
    obtain ⟨turn, hturn, htl⟩ : ∃ turn : Nat, script.sum.fmod 999983 = (turn : Int) ∧ turn < 1000000 := by
      have h1 := Int.fmod_lt_of_pos script.sum (show (0 : Int) < 999983 by decide)
      have h2 := Int.fmod_nonneg_of_pos script.sum (show (0 : Int) < 999983 by decide)
      exact ⟨(script.sum.fmod 999983).toNat, by omega, by omega⟩
    refine ex_cons (ex_assign (d := .int (turn : Int)) (Ev.conv (bo (e_sum lv) ev_int (o_mod (by decide))) (congrArg PyData.int hturn)) (.inr ⟨by rfl, by rfl⟩) (by rfl)) ?_
    clear hturn hpick hsz0
    have ho := hrp_ok seed turn
    have hsl62 : (intsD seed).length < 2 ^ 62 := by rw [intsD_len]; omega
    have ht4 : turn % 4 < 4 := Nat.mod_lt _ (by decide)
    have h0lt : ∀ c ∈ hrpL0 seed turn, c < 128 := fun c hc => by
      obtain ⟨i, _, rfl⟩ := List.mem_map.mp hc
      have := (hrpC_ok seed turn i).2; omega
    have h0len : (hrpL0 seed turn).length ≤ 4 := by simp [hrpL0]; omega
    refine ex_cons (ex_assign (d := .str (S (hrpL seed turn))) (Ev.conv (e_lower (x := S (hrpL0 seed turn)) (Ev.conv (e_join (ys := (hrpL0 seed turn).map fun c => (⟨#[c]⟩ : Str)) ev_str (Ev.conv (ev_compI (ns := List.map (fun i : Nat => (i : Int)) (List.range (1 + turn % 4))) (fun i => .str ⟨#[hrpC seed turn i.toNat]⟩) (capF (by rfl) (by decide) (by rfl) (by decide) (by decide) (by rfl) ?_ ?_ ?_) (by rfl) (src_rangeI (n := ((1 + turn % 4 : Nat) : Int)) (by rfl) (Ev.conv (bo ev_int (Ev.conv (bo cv ev_int (o_mod (by decide))) (congrArg PyData.int (fmodN turn 4))) o_add) (by congr 1)) (by omega) (by omega) (by rfl)) (by simp [sizeLine_eq]; omega) (fun C n hn => ?_) (fun n hn => rfl) (fun v => by rfl)) ?_) ?_) (congrArg PyData.str (join_chars _))) ?_) ?_) (.inl (by rfl)) (by rfl)) ?_
    · exact ⟨fun h => (by cases h), fun h => (by cases h), fun h => (by cases h), fun h => (by cases h), fun _ => ⟨rfl, rfl⟩, fun _ => ⟨rfl, rfl⟩, trivial⟩
    · intro q hq
      rcases List.mem_cons.mp hq with e | hq
      · subst e; first | exact .head _ | exact .tail _ (.head _)
      · rcases List.mem_cons.mp hq with e | hq
        · subst e; first | exact .head _ | exact .tail _ (.head _)
        · cases hq
    · exact List.nodup_cons.mpr ⟨fun h => absurd (List.mem_singleton.mp h) (Nat.succ_ne_self _), List.nodup_cons.mpr ⟨fun h => (by cases h), .nil⟩⟩
    · obtain ⟨i, hi, rfl⟩ := List.mem_map.mp hn
      have hi := List.mem_range.mp hi
      have hlen0 : ((intsD seed).length : Int) ≠ 0 := by rw [intsD_len]; omega
      have him : i % seed.length < seed.length := Nat.mod_lt _ (by omega)
      have hmod : ((i : Int)).fmod ((intsD seed).length : Int) = ((i % seed.length : Nat) : Int) := by rw [intsD_len]; exact fmodN i seed.length
      have e0 : ¬ (((i % seed.length : Nat) : Int) < 0) := by omega
      have h1 := Int.fmod_lt_of_pos ((seed.getD (i % seed.length) 0).fdiv 7 + (i : Int) * (turn : Int)) (show (0 : Int) < 94 by decide)
      have h2 := Int.fmod_nonneg_of_pos ((seed.getD (i % seed.length) 0).fdiv 7 + (i : Int) * (turn : Int)) (show (0 : Int) < 94 by decide)
      refine Ev.conv (e_chr (i := 33 + ((seed.getD (i % seed.length) 0).fdiv 7 + (i : Int) * (turn : Int)).fmod 94) (bo ev_int (bo (bo (bo (ev_item_list (d := .int (seed.getD (i % seed.length) 0)) (i := ((i % seed.length : Nat) : Int)) cv (Ev.conv (bo lv (e_len cv hsl62) (o_mod hlen0)) (congrArg PyData.int hmod)) ⟨by rw [if_neg e0]; omega, ?_⟩ hsl62 (fun _ _ => by rfl)) ev_int (o_fdiv (by decide) (by decide))) (bo lv cv (o_mul (IntMulOk.of_left (Nat.le_trans (bits_lt (m := 5) (by omega)) (by decide))))) o_add) ev_int (o_mod (by decide))) o_add) (by omega) (by omega)) rfl
      rw [if_neg e0, Int.toNat_natCast]
      simp only [intsD, List.getElem?_map, List.getElem?_eq_getElem him, Option.map_some, List.getD_eq_getElem?_getD, Option.getD_some]
    · rw [List.map_map]; simp only [hrpL0, strsD, List.map_map]; rfl
    · rw [List.map_map, List.length_map, show (Str.ofString "").length = 0 from rfl]
      have : ((fun x => x.length) ∘ fun c => ({ cps := #[c] } : Str)) = fun _ => 1 := by funext d; rfl
      rw [this, ones_sum]; omega
    · exact Nat.le_trans (len_lower _) (by rw [S_len]; omega)
    · rw [lower_S h0lt]; rfl
    have hml : (hrpL seed turn).length ≤ 4 := ho.len.2
    generalize hrpL seed turn = h at *
    clear h0lt h0len
    have hq4 : turn / 4 % 4 < 4 := Nat.mod_lt _ (by decide)
    have hneg : (-1 : Int) - ((turn / 4 % 4 : Nat) : Int) = -(((1 + turn / 4 % 4 : Nat)) : Int) := by omega
    have hsz : (intsD seed).length ≤ sizeLine := by rw [intsD_len, sizeLine_eq]; omega
    refine ex_cons (Ex1.retag (d' := .list (intsD ((seed.drop (seed.length - (1 + turn / 4 % 4))).map fun n => n.fdiv 64))) (ex_assign_compI (ns := seed.drop (seed.length - (1 + turn / 4 % 4))) (fun n => .int (n.fdiv 64)) (cap0 (by rfl) (by decide) (by decide) (by rfl) (by decide) (by decide) (by rfl)) (by rfl) (by rfl) (src_list (Ev.conv (ev_slice_list (lo := some (-(((1 + turn / 4 % 4 : Nat)) : Int))) (hi := none) cv (Ev.conv (bo (ev_unary ev_int o_neg) (Ev.conv (bo (Ev.conv (bo cv ev_int (o_fdiv (by decide) (by decide))) (congrArg PyData.int (fdivN turn 4))) ev_int (o_mod (by decide))) (congrArg PyData.int (fmodN (turn / 4) 4))) o_sub) (congrArg PyData.int hneg)) trivial hsz) ?_)) (by rw [List.length_drop, sizeLine_eq]; omega) (fun C n hn => bo lv ev_int (o_fdiv (by decide) (by decide))) (fun n hn => rfl) (fun v => by rfl) (by rfl)) ?_) ?_
    · rw [pick_negfrom _ (by omega)]
      simp only [intsD, List.map_drop, List.length_map]
    · simp only [intsD, List.map_map]; rfl
    have hnl : ((seed.drop (seed.length - (1 + turn / 4 % 4))).map fun n => n.fdiv 64).length ≤ 4 := by rw [List.length_map, List.length_drop]; omega
    generalize (seed.drop (seed.length - (1 + turn / 4 % 4))).map (fun n => n.fdiv 64) = ns at *
    refine ex_ifret (b := decide (turn % 3 = 0)) (Tr.conv (tr_cmp (Ev.conv (bo cv ev_int (o_mod (by decide))) (congrArg PyData.int (fmodN turn 3))) ev_int c_eq (by rfl)) (by rw [Bool.eq_iff_iff]; simp; omega)) (fun _ => ?_) (fun _ => ?_)
    · exact ex_last (ex_return (e_call4 25 lv cv cv lv (c_address (G := G) (k := k) ho (by omega) htl hnl) (by omega)))
    · have hfm : ∀ n : Int, 0 ≤ n.fmod 32 ∧ n.fmod 32 < 32 := fun n => ⟨Int.fmod_nonneg_of_pos _ (by decide), Int.fmod_lt_of_pos _ (by decide)⟩
      let vs : List Nat := seed.map fun n => (n.fmod 32).toNat
      have hvl : vs.length = seed.length := by simp [vs]
      have h32 : ∀ n ∈ vs, n < 32 := fun n hn => by
        obtain ⟨m, _, rfl⟩ := List.mem_map.mp hn
        have := hfm m; omega
      refine ex_cons (Ex1.retag (d' := .list (intsD (NI vs))) (ex_assign_compI (ns := seed) (fun n => .int (n.fmod 32)) (cap0 (by rfl) (by decide) (by decide) (by rfl) (by decide) (by decide) (by rfl)) (by rfl) (by rfl) (src_list cv) (by rw [sizeLine_eq]; omega) (fun C n hn => bo lv ev_int (o_mod (by decide))) (fun n hn => rfl) (fun v => by rfl) (by rfl)) ?_) ?_
      · show _ = PyData.list (List.map PyData.int (List.map Int.ofNat (List.map _ seed)))
        rw [List.map_map, List.map_map]
        refine congrArg PyData.list (List.map_congr_left fun n hn => ?_)
        show PyData.int (n.fmod 32) = PyData.int (Int.ofNat (n.fmod 32).toNat)
        congr 1
        exact (Int.toNat_of_nonneg (hfm n).1).symm
      clear_value vs
      refine ex_cons (ex_assign (d := encI (decide (turn % 2 ≠ 0))) (ev_ifexp (c := decide (turn % 2 = 0)) (Tr.conv (tr_cmp (Ev.conv (bo cv ev_int (o_mod (by decide))) (congrArg PyData.int (fmodN turn 2))) ev_int c_eq (by rfl)) (by rw [Bool.eq_iff_iff]; simp; omega)) (fun hc => (ev_enc (n := 1) (.inl ⟨rfl, rfl⟩) (by rfl)).conv (by rw [decide_eq_false (by simpa using hc)]; rfl)) (fun hc => (ev_enc (n := 2) (.inr ⟨rfl, rfl⟩) (by rfl)).conv (by rw [decide_eq_true (by simpa using hc)]; rfl))) (.inl (by rfl)) (by rfl)) ?_
      generalize decide (turn % 2 ≠ 0) = m
      have hwr := (c_written (G := G) (k := k) (m := m) (x := S h) (ds := vs) (by rw [S_len]; omega) ho.lt (by omega) h32).lift (R := true)
      rw [written_S] at hwr
      have htl2 := text_len m ho h32
      have hbt := bech_text (m := m) ho h32 (by omega)
      have hbu := bech_upper (m := m) ho h32 (by omega)
      have ht128 := text_128 (m := m) ho h32
      have hencw := encode_written (m := m) ho h32
      rw [written_S] at hencw
      have hslip := @slip_ans m h vs ns (h.length + 1) ho h32 (by omega) hnl (.inl ⟨rfl, by omega⟩)
      have hsll := slip_len (st := h.length + 1) (ns := ns) (l := textL m h vs) (by omega)
      have hce := (c_encode (G := G) (k := k) (m := m) (x := S h) (ds := vs) (by rw [S_len]; omega) (by omega) h32).lift (R := true)
      rw [hencw] at hce
      generalize hT : textL m h vs = T at *
      refine ex_cons (ex_assign (d := .str (S T)) (e_call3 21 lv lv lv hwr (by omega)) (.inl (by rfl)) (by rfl)) ?_
      have hup : (Txt.upper (S T)).length ≤ 1000000 := Nat.le_trans (len_upper _) (by rw [S_len]; omega)
      refine ex_cons (ex_assign (d := .str (S (if turn / 16 % 2 = 1 then T.map up1 else T))) (ev_ifexp (c := decide (turn / 16 % 2 = 1)) (Tr.conv (tr_cmp ((bo (Ev.conv (bo cv ev_int (o_fdiv (by decide) (by decide))) (congrArg PyData.int (fdivN turn 16))) ev_int (o_mod (by decide))).conv (congrArg PyData.int (fmodN (turn / 16) 2))) ev_int c_eq (by rfl)) (by rw [Bool.eq_iff_iff]; simp; omega)) (fun hc => (e_upper lv hup).conv (by rw [upper_S ht128, if_pos (of_decide_eq_true hc)])) (fun hc => Ev.conv lv (by rw [if_neg (of_decide_eq_false hc)]))) (.inl (by rfl)) (by rfl)) ?_
      have hshown : bechN (if turn / 16 % 2 = 1 then T.map up1 else T) = .tuple [encI m, .str (S h), .list (intsD (NI vs))] := by split; exact hbu; exact hbt
      have hshl : (if turn / 16 % 2 = 1 then T.map up1 else T).length ≤ 1000 := by split; rw [List.length_map]; omega; omega
      generalize (if turn / 16 % 2 = 1 then T.map up1 else T) = sh at *
      have hds := c_bdecode (G := G) (k := k) hshl
      rw [hshown] at hds
      have hl128 : ∀ c ∈ h, c < 128 := fun c hc => by have := (ho.ch c hc).2.1; omega
      obtain ⟨em, hem⟩ : ∃ em : Int, encI m = .int em := ⟨_, rfl⟩
      rw [hem] at hds hbt hslip hce ⊢
      refine ex_ifret (b := false) (tr_or (a := false) (b := false) (Tr.conv (tr_cmp (e_call3 9 lv lv lv hce (by omega)) lv c_nes (by rfl)) (by simp)) (fun _ => Tr.conv (tr_cmp (e_call1 10 lv hds (by omega)) (ev_tuple (evl_cons lv (evl_cons lv (evl_cons lv evl_nil (by rfl)) (by rfl)) (by rfl)) (by show 3 ≤ sizeLine; decide)) (c_nev (Nat.succ_pos _) (lay_tri hl128) (lay_tri hl128) (by simp [PyData.depth, PyData.depthAll, depth_ints])) (by rfl)) (by rw [eqv_tri]; rfl))) (fun e => by cases e) (fun _ => ?_)
      have hsc := (c_slipped (G := G) (k := k) (st := h.length + 1) (l := T) (ns := ns) (by omega) (by omega)).lift (R := true)
      have hlS : (S h).length < 2 ^ 62 := by rw [S_len]; omega
      refine ex_cons (ex_assign (d := .str (S (slipN (h.length + 1) T ns))) (e_call3 23 lv (Ev.conv (bo ((e_lenS lv hlS).conv (by rw [S_len])) ev_int o_add) (by congr 1)) lv hsc (by omega)) (.inl (by rfl)) (by rfl)) ?_
      have hdb := c_bdecode (G := G) (k := k) (l := slipN (h.length + 1) T ns) (by omega)
      have hrb := (c_reader (G := G) (k := k) (l := slipN (h.length + 1) T ns) (by omega)).lift (R := true)
      refine ex_cons (ex_assign (d := bechN (slipN (h.length + 1) T ns)) (e_call1 10 lv hdb (by omega)) (.inl (by rfl)) (by rfl)) ?_
      have hneS : (S (slipN (h.length + 1) T ns) != S T) = decide (slipN (h.length + 1) T ns ≠ T) := neS
      have hgot : ∀ {ρ : Rho} {p1 p2 p3 : Pos} {u : Nat} (h1 : ρ.lookup (Str.ofString "got") = some (bechN (slipN (h.length + 1) T ns))), ∃ d0 : PyData, Ev G true (k + 7) (envOfC (fnName 26) (fnScope 26) L a cd) ρ (.Subscript (.Name "got" p1) (.Constant (.int 0) u p2) p3) d0 ∧ d0.canLay0 = true ∧ (slipN (h.length + 1) T ns ≠ T → PyData.eqv d0 (.int em) = false) := by
        intro ρ p1 p2 p3 u h1
        rcases hslip with hb | hb | ⟨e, ds', hb, hne, he, h32', hdl', _⟩
        · rw [hb, hbt] at h1
          exact ⟨.int em, ev_item_tuple (i := 0) (ds := [.int em, .str (S h), .list (intsD (NI vs))]) (lv (hl := h1)) ev_int (by decide) rfl (by show 3 < 2 ^ 62; decide) (fun _ _ => by rfl), lay_i _, fun hn => absurd hb hn⟩
        · rw [hb] at h1
          exact ⟨.none, ev_item_tuple (i := 0) (ds := [.none, .none, .none]) (lv (hl := h1)) ev_int (by decide) rfl (by show 3 < 2 ^ 62; decide) (fun _ _ => by rfl), by simp [PyData.canLay0], fun _ => by simp [PyData.eqv]⟩
        · rw [hb] at h1
          exact ⟨.int e, ev_item_tuple (i := 0) (ds := [.int e, .str (S h), .list (intsD (NI ds'))]) (lv (hl := h1)) ev_int (by decide) rfl (by show 3 < 2 ^ 62; decide) (fun _ _ => by rfl), lay_i _, fun _ => by
            rw [PyData.eqv]
            have : e ≠ em := fun h => hne (by rw [h])
            simpa using this⟩
      have hgotT : ∀ {ρ : Rho} {p1 p2 p3 p4 p5 : Pos} {u : Nat} (h1 : ρ.lookup (Str.ofString "got") = some (bechN (slipN (h.length + 1) T ns))) (h2 : ρ.lookup (Str.ofString "kind") = some (PyData.int em)) (hb : slipN (h.length + 1) T ns ≠ T), Tr G true (k + 7) (envOfC (fnName 26) (fnScope 26) L a cd) ρ (.Compare (.Subscript (.Name "got" p1) (.Constant (.int 0) u p2) p3) [.Eq] [.Name "kind" p4] p5) false := by
        intro ρ p1 p2 p3 p4 p5 u h1 h2 hb
        obtain ⟨d0, he0, hl0, hne0⟩ := hgot (p1 := p1) (p2 := p2) (p3 := p3) (u := u) h1
        exact Tr.conv (tr_cmp he0 (lv (hl := h2)) (c_eqv (Nat.succ_pos _) hl0 (lay_i _) (by simp [PyData.depth])) (by rfl)) (hne0 hb)
      refine ex_ifret (b := false) (tr_or (a := false) (b := false) (Tr.conv (tr_cmp lv (e_call1 22 lv hrb (by omega)) (c_nev (Nat.succ_pos _) (lay_bech _) (lay_bech _) (by have := dep_bech (slipN (h.length + 1) T ns); omega)) (by rfl)) (by rw [eqv_bech]; rfl)) (fun _ => ?_)) (fun e => by cases e) (fun _ => ?_)
      · by_cases hbT : slipN (h.length + 1) T ns = T
        · exact Tr.conv (tr_and (a := false) (b := true) (Tr.conv (tr_cmp lv lv c_nes (by rfl)) (by rw [hneS]; simp [hbT])) (fun e => by cases e)) (by rfl)
        · exact Tr.conv (tr_and (a := true) (b := false) (Tr.conv (tr_cmp lv lv c_nes (by rfl)) (by rw [hneS]; exact decide_eq_true hbT)) (fun _ => hgotT (by rfl) (by rfl) hbT)) (by rfl)
      obtain ⟨wy, hwy, hwc⟩ := c_wild (G := G) (k := k) (T := T) (h := h) (turn := turn) ho (by omega)
      refine ex_cons (ex_assign (d := .str (S wy)) (e_call3 24 lv lv cv (hwc.lift (R := true)) (by omega)) (.inl (by rfl)) (by rfl)) ?_
      refine ex_last (ex_return (Ev.conv (ev_cmp (e_call1 10 lv (c_bdecode (G := G) (k := k) (l := wy) (by omega)) (by omega)) (e_call1 22 lv ((c_reader (G := G) (k := k) (l := wy) (by omega)).lift (R := true)) (by omega)) (c_eqv (Nat.succ_pos _) (lay_bech _) (lay_bech _) (by have := dep_bech wy; omega)) (by rfl)) (by rw [eqv_bech])))
end
end Bx
end

namespace Bx
set_option maxRecDepth 100000 in
set_option maxHeartbeats 8000000 in
open_top hd for PySem.Challenge.rw_ab5014_01
end Bx

section
open PySem PySem.W PyProof.Rows PySem.Calls PySem.Spec
set_option autoImplicit false
set_option maxRecDepth 100000
set_option maxHeartbeats 4000000
namespace Bx
/-! ## The start of the run -/
theorem ns_some_of {K : Frag} {h : Heap} {N : Addr} {mg : Str → Option Value} {n : Str} {v : Value} (X : K.In h) (G : h.Ns N mg) (e : nsIn K N n = some (some v)) : mg n = some v := by
  obtain ⟨o, es, ep, ho, hd, _, hf⟩ := G
  unfold nsIn at e
  split at e
  · rename_i c d es' n' sl q
    have := X _ _ q
    rw [ho] at this
    cases this
    cases hd
    split at e
    · rename_i x he
      cases e
      rw [← hf]
      unfold nsFind findBy
      rw [← Array.find?_toList, he]
      rfl
    · split at e <;> cases e
  · cases e
noncomputable abbrev KQ (q : Params) : Frag := hd.heap_39 q
def fnAddr : List (Nat × Addr × Addr) := [(5, 35, 34), (6, 40, 39), (7, 47, 46), (8, 52, 51), (9, 57, 56), (10, 62, 61), (12, 77, 76), (13, 84, 83), (20, 93, 92), (21, 98, 97), (22, 103, 102), (23, 110, 109), (24, 117, 116), (25, 122, 121), (26, 127, 126)]
/-- what the fragment says of a def -/
structure FnK (q : Params) (i : Nat) (a c : Addr) : Prop where
  name : nsIn (KQ q) mainGlobals (fnName i) = some (some (.ref a))
  fn : ∃ o pm doc, (KQ q).lookup a = some o ∧ o.data = .func (docDef (fnName i) (fnParams i) (fnBody i) (fnScope i) pm (.ref c) doc)
  code : ∃ o vs t, (KQ q).lookup c = some o ∧ o.data = .fields vs ∧ vs[1]? = some (.str (fnName i) t)
theorem fn5 (q : Params) : FnK q 5 35 34 := ⟨by kernel_rfl, ⟨_, _, _, rfl, rfl⟩, ⟨_, _, _, rfl, rfl, rfl⟩⟩
theorem fn6 (q : Params) : FnK q 6 40 39 := ⟨by kernel_rfl, ⟨_, _, _, rfl, rfl⟩, ⟨_, _, _, rfl, rfl, rfl⟩⟩
theorem fn7 (q : Params) : FnK q 7 47 46 := ⟨by kernel_rfl, ⟨_, _, _, rfl, rfl⟩, ⟨_, _, _, rfl, rfl, rfl⟩⟩
theorem fn8 (q : Params) : FnK q 8 52 51 := ⟨by kernel_rfl, ⟨_, _, _, rfl, rfl⟩, ⟨_, _, _, rfl, rfl, rfl⟩⟩
theorem fn9 (q : Params) : FnK q 9 57 56 := ⟨by kernel_rfl, ⟨_, _, _, rfl, rfl⟩, ⟨_, _, _, rfl, rfl, rfl⟩⟩
theorem fn10 (q : Params) : FnK q 10 62 61 := ⟨by kernel_rfl, ⟨_, _, _, rfl, rfl⟩, ⟨_, _, _, rfl, rfl, rfl⟩⟩
theorem fn12 (q : Params) : FnK q 12 77 76 := ⟨by kernel_rfl, ⟨_, _, _, rfl, rfl⟩, ⟨_, _, _, rfl, rfl, rfl⟩⟩
theorem fn13 (q : Params) : FnK q 13 84 83 := ⟨by kernel_rfl, ⟨_, _, _, rfl, rfl⟩, ⟨_, _, _, rfl, rfl, rfl⟩⟩
theorem fn20 (q : Params) : FnK q 20 93 92 := ⟨by kernel_rfl, ⟨_, _, _, rfl, rfl⟩, ⟨_, _, _, rfl, rfl, rfl⟩⟩
theorem fn21 (q : Params) : FnK q 21 98 97 := ⟨by kernel_rfl, ⟨_, _, _, rfl, rfl⟩, ⟨_, _, _, rfl, rfl, rfl⟩⟩
theorem fn22 (q : Params) : FnK q 22 103 102 := ⟨by kernel_rfl, ⟨_, _, _, rfl, rfl⟩, ⟨_, _, _, rfl, rfl, rfl⟩⟩
theorem fn23 (q : Params) : FnK q 23 110 109 := ⟨by kernel_rfl, ⟨_, _, _, rfl, rfl⟩, ⟨_, _, _, rfl, rfl, rfl⟩⟩
theorem fn24 (q : Params) : FnK q 24 117 116 := ⟨by kernel_rfl, ⟨_, _, _, rfl, rfl⟩, ⟨_, _, _, rfl, rfl, rfl⟩⟩
theorem fn25 (q : Params) : FnK q 25 122 121 := ⟨by kernel_rfl, ⟨_, _, _, rfl, rfl⟩, ⟨_, _, _, rfl, rfl, rfl⟩⟩
theorem fn26 (q : Params) : FnK q 26 127 126 := ⟨by kernel_rfl, ⟨_, _, _, rfl, rfl⟩, ⟨_, _, _, rfl, rfl, rfl⟩⟩
theorem fnAll (q : Params) : ∀ i ∈ fnIdx, ∃ a c, FnK q i a c ∧ a ≠ 59 ∧ c ≠ 59 := by
  intro i hi
  simp only [fnIdx, List.mem_cons, List.not_mem_nil, or_false] at hi
  rcases hi with rfl | rfl | rfl | rfl | rfl | rfl | rfl | rfl | rfl | rfl | rfl | rfl | rfl | rfl
  · exact ⟨35, 34, fn5 q, by decide, by decide⟩
  · exact ⟨40, 39, fn6 q, by decide, by decide⟩
  · exact ⟨47, 46, fn7 q, by decide, by decide⟩
  · exact ⟨52, 51, fn8 q, by decide, by decide⟩
  · exact ⟨57, 56, fn9 q, by decide, by decide⟩
  · exact ⟨62, 61, fn10 q, by decide, by decide⟩
  · exact ⟨77, 76, fn12 q, by decide, by decide⟩
  · exact ⟨84, 83, fn13 q, by decide, by decide⟩
  · exact ⟨93, 92, fn20 q, by decide, by decide⟩
  · exact ⟨98, 97, fn21 q, by decide, by decide⟩
  · exact ⟨103, 102, fn22 q, by decide, by decide⟩
  · exact ⟨110, 109, fn23 q, by decide, by decide⟩
  · exact ⟨117, 116, fn24 q, by decide, by decide⟩
  · exact ⟨122, 121, fn25 q, by decide, by decide⟩
theorem cvtK (q : Params) : nsIn (KQ q) mainGlobals (fnName 11) = some (some (.ref 70)) ∧ (∃ o pm doc, (KQ q).lookup 70 = some o ∧ o.data = .func { docDef (fnName 11) (fnParams 11) (fnBody 11) (fnScope 11) pm (.ref 69) doc with defaults := .ref 63 }) ∧
    (∃ o vs t, (KQ q).lookup 69 = some o ∧ o.data = .fields vs ∧ vs[1]? = some (.str (fnName 11) t)) ∧ (∃ o n, (KQ q).lookup 63 = some o ∧ o.cls = .type "tuple" ∧ o.data = .seq #[.bool true] n) :=
  ⟨by kernel_rfl, ⟨_, _, _, rfl, rfl⟩, ⟨_, _, _, rfl, rfl, rfl⟩, ⟨_, _, rfl, rfl, rfl⟩⟩
theorem decK (q : Params) : ∃ o vs, (KQ q).lookup 61 = some o ∧ o.data = .fields vs ∧ vs.getD 11 .none = .ref 59 := ⟨_, _, rfl, rfl, rfl⟩
theorem biK (q : Params) : ∀ p ∈ biTab, nsIn (KQ q) mainGlobals p.1 = some none ∧ bootBuiltins p.1 = some p.2 ∧ p.1 ≠ "__name__" := by
  intro p hp
  simp only [biTab, List.mem_cons, List.not_mem_nil, or_false] at hp
  rcases hp with rfl | rfl | rfl | rfl | rfl | rfl | rfl | rfl | rfl | rfl | rfl <;> exact ⟨by kernel_rfl, by kernel_rfl, by decide⟩
theorem encK (q : Params) : nsIn (KQ q) mainGlobals "Encoding" = some (some (.ref 24)) ∧ readsIn (KQ q) 24 (.type "type") = true ∧ (∃ t, findCls (KQ q) (.ref 24) (.type "type") "BECH32" = some (.val (.int 1 t))) ∧ ∃ t, findCls (KQ q) (.ref 24) (.type "type") "BECH32M" = some (.val (.int 2 t)) :=
  ⟨by kernel_rfl, by kernel_rfl, ⟨_, rfl⟩, ⟨_, rfl⟩⟩
theorem kfbK (q : Params) : findCls (KQ q) (.type "int") (.type "type") (Str.ofString "from_bytes") = some (.get (.builtin "classmethod_descriptor.__get__") (.builtin "int.from_bytes") .none (.type "int")) := by kernel_rfl
theorem no59 (q : Params) : (KQ q).lookup 59 = none := by kernel_rfl
structure CstK (q : Params) (x : Str) (d : PyData) : Prop where
  c : ∃ v, nsIn (KQ q) mainGlobals x = some (some v) ∧ ∀ h : Heap, (KQ q).In h → Rep h v d
theorem cst_tuple {q : Params} {x : Str} {a : Addr} {o : Obj} {vs : Array Value} {n : Nat} {ns : List Int} (e : nsIn (KQ q) mainGlobals x = some (some (.ref a))) (e1 : (KQ q).lookup a = some o) (e2 : o.cls = .type "tuple") (e3 : o.data = .seq vs n) (e4 : o.dict = none) (e5 : IntsAre vs.toList ns) : CstK q x (.tuple (intsD ns)) :=
  ⟨⟨_, e, fun h X => .tuple (X _ _ e1) e2 e3 e4 (RepAll.ints e5)⟩⟩
theorem cstAll (q : Params) : ∀ p ∈ consts, CstK q p.1 p.2 := by
  intro p hp
  simp only [consts, List.mem_cons, List.not_mem_nil, or_false] at hp
  rcases hp with rfl | rfl | rfl | rfl | rfl | rfl | rfl | rfl
  · exact ⟨⟨.str cset 189, by kernel_rfl, fun _ _ => .str _ _⟩⟩
  · exact ⟨⟨.int 1 191, by kernel_rfl, fun _ _ => .int _ _⟩⟩
  · exact ⟨⟨.int 734539939 193, by kernel_rfl, fun _ _ => .int _ _⟩⟩
  · exact ⟨⟨.str cset 305, by kernel_rfl, fun _ _ => .str _ _⟩⟩
  · exact cst_tuple (a := 85) (by kernel_rfl) rfl rfl rfl rfl (by repeat (first | exact IntsAre.nil | apply IntsAre.cons))
  · exact cst_tuple (a := 86) (by kernel_rfl) rfl rfl rfl rfl (by repeat (first | exact IntsAre.nil | apply IntsAre.cons))
  · exact cst_tuple (a := 87) (by kernel_rfl) rfl rfl rfl rfl (by repeat (first | exact IntsAre.nil | apply IntsAre.cons))
  · exact cst_tuple (a := 88) (by kernel_rfl) rfl rfl rfl rfl (by repeat (first | exact IntsAre.nil | apply IntsAre.cons))

abbrev gl (prog : Program) (w : World) (mg mb : Str → Option Value) (h : Heap) (os : OsState) (K : Frag) : Gl := ⟨prog, w, mg, mb, h, os, 61, 59, K⟩
theorem fnat_of {prog : Program} {w : World} {mg mb : Str → Option Value} {h : Heap} {os : OsState} {q : Params} (X : (KQ q).In h) (g : h.Ns mainGlobals mg) {i : Nat} {a c : Addr} (f : FnK q i a c) (ha : a ≠ 59) (hc : c ≠ 59) : FnAt (gl prog w mg mb h os (KQ q)) (h.hide 59) i a (.ref c) := by
  obtain ⟨o, pm, doc, e1, e2⟩ := f.fn
  obtain ⟨o', vs, t, e3, e4, e5⟩ := f.code
  exact ⟨ns_some_of X g f.name, ⟨o, pm, doc, (Heap.hide_ne _ ha).trans (X _ _ e1), e2⟩, ⟨_, o', vs, t, rfl, (Heap.hide_ne _ hc).trans (X _ _ e3), e4, e5⟩⟩
theorem wd_of {prog : Program} {w : World} {mg mb : Str → Option Value} {h : Heap} {os : OsState} {q : Params} (X : (KQ q).In h) (g : h.Ns mainGlobals mg) (b : h.Ns builtinsNs mb) (lim : h.NoLimit) (bu : ∀ x : Str, x ≠ "__name__" → mb x = bootBuiltins x)
    (bm : ∃ bm ob, BMod h mainGlobals mg bm ob) (tab : h.TableAt 61 59 #[]) : Wd (gl prog w mg mb h os (KQ q)) (h.hide 59) := by
  have hk : ∀ b o, b ≠ 59 → h.get? b = some o → (h.hide 59).get? b = some o := fun b o hb e => (Heap.hide_ne _ hb).trans e
  have hns : ∀ {a : Addr} {m : Str → Option Value}, a ≠ 59 → h.Ns a m → (h.hide 59).Ns a m := fun ha n => n.at fun o e => hk _ o ha e
  have XH : (KQ q).In (h.hide 59) := fun a o e => hk a o (fun ha => by subst ha; rw [no59] at e; cases e) (X a o e)
  have hG := hns (a := mainGlobals) (by decide) g
  have fnat : ∀ {i a c}, FnK q i a c → a ≠ 59 → c ≠ 59 → FnAt (gl prog w mg mb h os (KQ q)) (h.hide 59) i a (.ref c) := fun f ha hc => by
    obtain ⟨o, pm, doc, e1, e2⟩ := f.fn
    obtain ⟨o', vs, t, e3, e4, e5⟩ := f.code
    exact ⟨ns_some_of X g f.name, ⟨o, pm, doc, XH _ _ e1, e2⟩, ⟨_, o', vs, t, rfl, XH _ _ e3, e4, e5⟩⟩
  obtain ⟨k1, ⟨o, pm, doc, k2, k3⟩, ⟨o', vs, t, k4, k5, k6⟩, ⟨oT, n, k7, k8, k9⟩⟩ := cvtK q
  obtain ⟨ke1, ke2, ⟨t1, ke3⟩, ⟨t2, ke4⟩⟩ := encK q
  have c61 : 61 < h.objs.size := by obtain ⟨⟨o, vs, e, _⟩, _⟩ := tab; exact Heap.lt_size e
  refine ⟨hG, hns (by decide) b, ?_, fun i hi => ?_, ⟨62, fnat (fn10 q) (by decide) (show (61 : Addr) ≠ 59 by decide)⟩, ⟨70, .ref 69, o, pm, doc, 63, oT, n, ns_some_of X g k1, XH _ _ k2, k3, ⟨_, o', vs, t, rfl, XH _ _ k4, k5, k6⟩, XH _ _ k7, k8, k9⟩, fun p hp => ?_, fun p hp => ?_, ?_, ⟨Heap.lt_size tab.2, c61⟩, ⟨⟨61, #[], tab⟩, show (59 : Addr) ≠ cStatics by decide⟩, XH, kfbK q, ⟨24, ns_some_of X g ke1, fun A s E Q hs => ⟨fun hq => ?_, fun hq => ?_⟩⟩⟩
  · obtain ⟨m, hm, r⟩ := lim
    exact ⟨m, hns (by decide) hm, r⟩
  · obtain ⟨a, c, f, ha, hc⟩ := fnAll q i hi
    exact ⟨a, _, fnat f ha hc⟩
  · obtain ⟨v, e, r⟩ := (cstAll q p hp).c
    exact ⟨v, ns_some_of X g e, r _ XH⟩
  · obtain ⟨e1, e2, e3⟩ := biK q p hp
    exact ⟨ns_none_of X g e1, (bu _ e3).trans e2⟩
  · obtain ⟨bm, ob, B⟩ := bm
    exact ⟨bm, ob, ⟨hG, B.name, B.ne, hk _ _ (fun hb => by have := B.obj; rw [hb, tab.2] at this; cases this; have := B.data; cases this) B.obj, B.cls, B.dict, B.data⟩⟩
  · exact cls_value (K := KQ q) (fun a o e => hs a o (XH a o e)) ke2 ke3 rfl (hq _ _)
  · exact cls_value (K := KQ q) (fun a o e => hs a o (XH a o e)) ke2 ke4 rfl (hq _ _)
end Bx
end

section
open PySem PySem.W PyProof.Rows PySem.Calls PySem.Spec
set_option maxRecDepth 100000
set_option maxHeartbeats 8000000
namespace Bx
theorem recK : ((recsOf hd.view_39).any fun d => d.name == Str.ofString "bech32_decode") = true := by kernel_rfl
theorem start_tab {q : Params} {mg : Str → Option Value} {h : Heap} (X : (KQ q).In h) (g : h.Ns mainGlobals mg) (tab : ∀ d ∈ recsOf hd.view_39, ∃ a o fd c P, mg d.name = some (.ref a) ∧ h.get? a = some o ∧ o.data = .func fd ∧ fd.code = .ref c ∧ h.IsCode c P #[] ∧ h.TableAt c P #[]) :
    h.IsCode 61 59 #[] ∧ h.TableAt 61 59 #[] := by
  obtain ⟨d, hd', hn⟩ := List.any_eq_true.mp recK
  obtain ⟨a, o, fd, c, P, e1, e2, e3, e4, e5, e6⟩ := tab d hd'
  rw [beq_iff_eq.mp hn] at e1
  have f := fn10 q
  have e1' := ns_some_of X g f.name
  have hnm : fnName 10 = Str.ofString "bech32_decode" := by rfl
  rw [hnm, e1] at e1'
  cases e1'
  obtain ⟨o', pm, doc, k1, k2⟩ := f.fn
  have := e2.symm.trans (X _ _ k1)
  cases this
  have := e3.symm.trans k2
  injection this with this
  have hc : fd.code = .ref 61 := congrArg FuncData.code this
  rw [e4] at hc
  cases hc
  obtain ⟨o2, vs, k3, k4, k5⟩ := decK q
  obtain ⟨oc, vs', file, tf, flags, tg, inF, text, tt, op, ho, hdd, h11, r⟩ := id e5
  have := ho.symm.trans (X _ _ k3)
  cases this
  have := hdd.symm.trans k4
  cases this
  have := h11.symm.trans k5
  cases this
  exact ⟨e5, e6⟩
theorem start {prog : Program} {w : World} {mg mb : Str → Option Value} {s : Shared} {q : Params} {fa L : Addr} {vs : List Value} {ns : List Int} (X : (KQ q).In s.heap) (g : s.heap.Ns mainGlobals mg) (b : s.heap.Ns builtinsNs mb) (lim : s.heap.NoLimit) (bu : ∀ x : Str, x ≠ "__name__" → mb x = bootBuiltins x)
    (bm : ∃ bm ob, BMod s.heap mainGlobals mg bm ob) (tab : s.heap.IsCode 61 59 #[] ∧ s.heap.TableAt 61 59 #[]) (hmg : mg (fnName 26) = some (.ref fa)) (hg : s.gens = #[]) (hL : s.heap.IsList L vs.toArray) (hI : IntsAre vs ns) (hn : ns.length ≤ 63) :
    codeAny (model prog w) callerA (.call (.ref fa) ⟨[.ref L], []⟩) (fun r s' => ∃ v, r = .ok (.ret v) ∧ Rep s'.heap v (.bool true) ∧ Ext 59 s.heap s'.heap ∧ Inv (gl prog w mg mb s.heap s.os (KQ q)) s') s := by
  have w0 := wd_of (prog := prog) (w := w) (os := s.os) X g b lim bu bm tab.2
  have hfa := hmg.symm.trans (ns_some_of X g (fn26 q).name)
  cases hfa
  have law := c_law (G := gl prog w mg mb s.heap s.os (KQ q)) (k := 0) (script := ns) hn
  obtain ⟨o, e1, e2, n, e3⟩ := hL
  refine codeAny_mono (law callerA s [.ref L] 127 (.ref 126) ⟨rfl, fun _ => by decide, fun _ => by decide⟩ ⟨w0, Ext.refl _ _, Nat.le_refl _⟩ (fun _ => ⟨.of_eq hg, OldK.refl _, rfl, ⟨#[], tab⟩⟩) (.cons (.list e1 e2 e3 (by have := RepAll.ints (h := s.heap) hI; simpa [intsD] using this)) .nil) (fnat_of X g (fn26 q) (by decide) (by decide))) fun r s' h => ?_
  obtain ⟨v, e, rv, x, i⟩ := h
  exact ⟨v, e, rv, x, i⟩
theorem post_ok (args : List WData) : PySem.Challenge.rw_ab5014_01.row.toRowW.claim.post args (.bool true) args = true := by
  refine postW_of (X := true) ?_ ?_ rfl
  · show WShape.has _ (WData.bool true) _ = true
    first | rfl | decide | simp [WShape.has]
  · show WTm.value _ _ _ = _
    rw [show PySem.Challenge.rw_ab5014_01.row.post = (.eq .res (.lit (.bool true)) : WTm) from rfl]
    refine (w_eq (d := .bool true) (d' := .bool true) ?_ ?_).trans ?_
    · simp [WTm.value]
    · simp [WTm.value]
    · simp [PySem.W.same]
theorem holds : PySem.Challenge.rw_ab5014_01.Holds := hd (by
  intro w s₀ s₁ mg mb Gd Y fa o pm cd doc dV kV ho hd' hcd hD hmg hg args vals as hpre hlay hrd hwl hlo
  have KX := kIn_of Y
  refine Ground.open Gd ?_
  intro T B D TE TW
  wrow_args hpre hlay hrd hwl hlo
  refine enter_call ?_
  rename_i ns hs hlay0 hL1 hr1 hl2 as1 as2 L vs as3 hL ra w1 r0 hI hr hcond1 hcond2
  have tab := start_tab KX T.g T.tab
  refine codeAny_mono (start (q := w.params) (ns := ns) KX T.g T.b T.nolimit T.builtins (bmod_of_top T) tab hmg hg hL hI (by omega)) fun r s' h => ?_
  obtain ⟨v, rfl, rv, x, i⟩ := h
  cases rv
  exact ⟨.inl ⟨.bool true, .bool true, [], rfl, fun _ => rfl, .bool _, post_ok _, fun _ => ⟨.nil, fun _ h => by cases h⟩⟩, i.old, i.os, i.bare⟩)
end Bx
end

theorem PySem.Challenge.cw_ab5014_01_holds : PySem.Challenge.rw_ab5014_01.Holds :=
  Bx.holds
