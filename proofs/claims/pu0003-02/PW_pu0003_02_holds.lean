import PyProof.Rows.All
import Wide.All
import OpenK.AllK
import Wide.FinOn
import PySem.Challenge.RW_pu0003_02

section
open PySem PySem.Calls PySem.W PyProof.Rows
set_option Elab.async false
namespace Mine

/-! the tactics behind the binders that fill themselves -/
def sn (k : Lean.Name) (a : Array Lean.Syntax) : Lean.Syntax := Lean.Syntax.node Lean.SourceInfo.none k a
def sTac (a : Array Lean.Syntax) : Lean.Syntax := sn `Lean.Parser.Tactic.tacticSeq #[sn `Lean.Parser.Tactic.tacticSeq1Indented #[sn `null a]]
def sRfl : Lean.Syntax := sn `Lean.Parser.Tactic.tacticRfl #[Lean.mkAtom "rfl"]
def sUnf : Lean.Syntax := sn `Lean.Parser.Tactic.withUnfoldingAll #[Lean.mkAtom "with_unfolding_all", sn `Lean.Parser.Tactic.tacticSeq #[sn `Lean.Parser.Tactic.tacticSeq1Indented #[sn `null #[sRfl]]]]
def sHole : Lean.Syntax := sn `Lean.Parser.Term.hole #[Lean.mkAtom "_"]
def sIntro (k : Array Lean.Syntax) : Lean.Syntax := sn `Lean.Parser.Tactic.intro #[Lean.mkAtom "intro", sn `null k]
def tacRfl : Lean.Syntax := sTac #[sRfl]
def tacUnf : Lean.Syntax := sTac #[sUnf]
def tacIntroRfl : Lean.Syntax := sTac #[sIntro #[sHole], Lean.mkAtom ";", sRfl]
def tacIntroUnf : Lean.Syntax := sTac #[sIntro #[sHole, sHole], Lean.mkAtom ";", sUnf]
def sNil : Lean.Syntax := sn `null #[]
def sConf : Lean.Syntax := sn `Lean.Parser.Tactic.optConfig #[sNil]
def tacDecide : Lean.Syntax := sTac #[sn `Lean.Parser.Tactic.decide #[Lean.mkAtom "decide", sConf]]
def tacSimp : Lean.Syntax := sTac #[sn `Lean.Parser.Tactic.simp #[Lean.mkAtom "simp", sConf, sNil, sNil, sNil, sNil]]
def tacPairUnf : Lean.Syntax := sTac #[sIntro #[sHole, sHole], Lean.mkAtom ";", sn `Lean.Parser.Tactic.exact #[Lean.mkAtom "exact", sn `Lean.Parser.Term.anonymousCtor #[Lean.mkAtom "⟨", sn `null #[sHole, Lean.mkAtom ",", sn `Lean.Parser.Term.byTactic #[Lean.mkAtom "by", sTac #[sUnf]]], Lean.mkAtom "⟩"]]]

/-- plain data as the program sees it; an object stands by its address -/
inductive D where
  | none
  | bool (b : Bool)
  | int (i : Int)
  | str (s : Str)
  | list (ds : List D)
  | tuple (ds : List D)
  | obj (a : Addr)
  | ty (T : String)
  | dict0 (a : Addr)

noncomputable abbrev Ext (h h' : Heap) : Prop := ∀ b o, h.get? b = some o → h'.get? b = some o
noncomputable abbrev ExtB (W : List Addr) (h h' : Heap) : Prop := ∀ b o, b ∉ W → h.get? b = some o → h'.get? b = some o

/-- a step of the run that may write the addresses of W only -/
structure Stp0 (W : List Addr) (s s' : Shared) : Prop where
  gens : s'.gens = s.gens
  os : s'.os = s.os
  ext : ExtB W s.heap s'.heap
structure Stp (W : List Addr) (s s' : Shared) : Prop extends Stp0 W s s' where
  toks : s.toks ≤ s'.toks
theorem Stp0.of {s s' : Shared} (g : s'.gens = s.gens) (o : s'.os = s.os) (e : Ext s.heap s'.heap) : Stp0 [] s s' := ⟨g, o, fun b o _ x => e b o x⟩
theorem Stp0.heap {s : Shared} {h' : Heap} {tk : Nat} (e : Ext s.heap h') : Stp0 [] s { s with heap := h', toks := tk } := .of rfl rfl e

mutual
inductive Rep (V : List Addr) (h : Heap) : Value → D → Prop
  | none : Rep V h .none .none
  | bool (b) : Rep V h (.bool b) (.bool b)
  | int (i t) : Rep V h (.int i t) (.int i)
  | str (x t) : Rep V h (.str x t) (.str x)
  | list {a vs ds} : a ∉ V → h.PlainList a vs → RepL V h vs.toList ds → Rep V h (.ref a) (.list ds)
  | tuple {a vs ds} : a ∉ V → h.IsTuple a vs → RepL V h vs.toList ds → Rep V h (.ref a) (.tuple ds)
  | obj (a) : Rep V h (.ref a) (.obj a)
  | ty (T) : Rep V h (.type T) (.ty T)
  | dict0 {a} : a ∉ V → (a == sysModules) = false → h.get? a = some { cls := .type "dict", data := .dict #[] } → Rep V h (.ref a) (.dict0 a)
inductive RepL (V : List Addr) (h : Heap) : List Value → List D → Prop
  | nil : RepL V h [] []
  | cons {v vs d ds} : Rep V h v d → RepL V h vs ds → RepL V h (v :: vs) (d :: ds)
end

theorem Rep.toInt {V : List Addr} {h : Heap} {v : Value} {i : Int} (r : Rep V h v (.int i)) : ∃ t, v = .int i t := by cases r; exact ⟨_, rfl⟩
theorem Rep.toStr {V : List Addr} {h : Heap} {v : Value} {x : Str} (r : Rep V h v (.str x)) : ∃ t, v = .str x t := by cases r; exact ⟨_, rfl⟩
theorem Rep.toBool {V : List Addr} {h : Heap} {v : Value} {b : Bool} (r : Rep V h v (.bool b)) : v = .bool b := by cases r; rfl
theorem Rep.toNone {V : List Addr} {h : Heap} {v : Value} (r : Rep V h v .none) : v = .none := by cases r; rfl
theorem Rep.toObj {V : List Addr} {h : Heap} {v : Value} {a : Addr} (r : Rep V h v (.obj a)) : v = .ref a := by cases r; rfl
theorem Rep.toTy {V : List Addr} {h : Heap} {v : Value} {T : String} (r : Rep V h v (.ty T)) : v = .type T := by cases r; rfl
theorem Rep.toList {V : List Addr} {h : Heap} {v : Value} {ds : List D} (r : Rep V h v (.list ds)) : ∃ a vs, a ∉ V ∧ h.PlainList a vs ∧ RepL V h vs.toList ds ∧ v = .ref a := by
  cases r with | list h1 h2 h3 => exact ⟨_, _, h1, h2, h3, rfl⟩
theorem Rep.toTuple {V : List Addr} {h : Heap} {v : Value} {ds : List D} (r : Rep V h v (.tuple ds)) : ∃ a vs, a ∉ V ∧ h.IsTuple a vs ∧ RepL V h vs.toList ds ∧ v = .ref a := by
  cases r with | tuple h1 h2 h3 => exact ⟨_, _, h1, h2, h3, rfl⟩
theorem RepL.toCons {V : List Addr} {h : Heap} {vs : List Value} {d : D} {ds : List D} (r : RepL V h vs (d :: ds)) : ∃ v us, Rep V h v d ∧ RepL V h us ds ∧ vs = v :: us := by
  cases r with | cons h1 h2 => exact ⟨_, _, h1, h2, rfl⟩
theorem RepL.toNil {V : List Addr} {h : Heap} {vs : List Value} (r : RepL V h vs []) : vs = [] := by cases r; rfl
theorem vals0 {vs : List Value} (h : vs.length = 0) : vs = [] := List.eq_nil_of_length_eq_zero h
theorem valsS {vs : List Value} {k : Nat} (h : vs.length = k + 1) : ∃ a t, t.length = k ∧ vs = a :: t := by
  cases vs with
  | nil => cases h
  | cons a t => exact ⟨a, t, Nat.succ.inj h, rfl⟩
theorem vals1 {vs : List Value} (h : vs.length = 1) : ∃ a, vs = [a] := by obtain ⟨a, t, h', rfl⟩ := valsS h; obtain rfl := vals0 h'; exact ⟨a, rfl⟩
theorem vals2 {vs : List Value} (h : vs.length = 2) : ∃ a b, vs = [a, b] := by obtain ⟨a, t, h', rfl⟩ := valsS h; obtain ⟨b, rfl⟩ := vals1 h'; exact ⟨a, b, rfl⟩
theorem vals3 {vs : List Value} (h : vs.length = 3) : ∃ a b c, vs = [a, b, c] := by obtain ⟨a, t, h', rfl⟩ := valsS h; obtain ⟨b, c, rfl⟩ := vals2 h'; exact ⟨a, b, c, rfl⟩
theorem vals4 {vs : List Value} (h : vs.length = 4) : ∃ a b c d, vs = [a, b, c, d] := by obtain ⟨a, t, h', rfl⟩ := valsS h; obtain ⟨b, c, d, rfl⟩ := vals3 h'; exact ⟨a, b, c, d, rfl⟩
theorem vals5 {vs : List Value} (h : vs.length = 5) : ∃ a b c d e, vs = [a, b, c, d, e] := by obtain ⟨a, t, h', rfl⟩ := valsS h; obtain ⟨b, c, d, e, rfl⟩ := vals4 h'; exact ⟨a, b, c, d, e, rfl⟩
mutual
theorem Rep.ext {V W : List Addr} {h h' : Heap} (hV : ∀ a, a ∈ W → a ∈ V) (hx : ExtB W h h') : ∀ {v d}, Rep V h v d → Rep V h' v d
  | _, _, .none => .none
  | _, _, .bool b => .bool b
  | _, _, .int i t => .int i t
  | _, _, .str x t => .str x t
  | _, _, .list ha ⟨o, ho⟩ hl => .list ha ⟨o, hx _ _ (fun q => ha (hV _ q)) ho⟩ (hl.ext hV hx)
  | _, _, .tuple ha ⟨o, ho, r⟩ hl => .tuple ha ⟨o, hx _ o (fun q => ha (hV _ q)) ho, r⟩ (hl.ext hV hx)
  | _, _, .obj a => .obj a
  | _, _, .ty a => .ty a
  | _, _, .dict0 ha hm ho => .dict0 ha hm (hx _ _ (fun q => ha (hV _ q)) ho)
theorem RepL.ext {V W : List Addr} {h h' : Heap} (hV : ∀ a, a ∈ W → a ∈ V) (hx : ExtB W h h') : ∀ {v d}, RepL V h v d → RepL V h' v d
  | _, _, .nil => .nil
  | _, _, .cons hv hl => .cons (hv.ext hV hx) (hl.ext hV hx)
end

mutual
/-- another list of shunned addresses: those that stand in the heap and are new in it must not be met -/
theorem Rep.shun {V V' : List Addr} {h : Heap} (hV : ∀ a o, a ∉ V → h.get? a = some o → a ∉ V') : ∀ {v d}, Rep V h v d → Rep V' h v d
  | _, _, .none => .none
  | _, _, .bool b => .bool b
  | _, _, .int i t => .int i t
  | _, _, .str x t => .str x t
  | _, _, .list ha ⟨o, ho⟩ hl => .list (hV _ _ ha ho) ⟨o, ho⟩ (hl.shun hV)
  | _, _, .tuple ha ⟨o, ho, r⟩ hl => .tuple (hV _ o ha ho) ⟨o, ho, r⟩ (hl.shun hV)
  | _, _, .obj a => .obj a
  | _, _, .ty a => .ty a
  | _, _, .dict0 ha hm ho => .dict0 (hV _ _ ha ho) hm ho
theorem RepL.shun {V V' : List Addr} {h : Heap} (hV : ∀ a o, a ∉ V → h.get? a = some o → a ∉ V') : ∀ {v d}, RepL V h v d → RepL V' h v d
  | _, _, .nil => .nil
  | _, _, .cons hv hl => .cons (hv.shun hV) (hl.shun hV)
end

theorem Stp.refl {W : List Addr} (s : Shared) : Stp W s s := ⟨⟨rfl, rfl, fun _ _ _ e => e⟩, Nat.le_refl _⟩
theorem Stp.trans {W : List Addr} {s s' s'' : Shared} (x : Stp W s s') (y : Stp W s' s'') : Stp W s s'' :=
  ⟨⟨y.gens.trans x.gens, y.os.trans x.os, fun b o hb e => y.ext b o hb (x.ext b o hb e)⟩, Nat.le_trans x.toks y.toks⟩
theorem Stp.mono {W W' : List Addr} {s s' : Shared} (hw : ∀ a, a ∈ W → a ∈ W') (x : Stp W s s') : Stp W' s s' :=
  ⟨⟨x.gens, x.os, fun b o hb e => x.ext b o (fun q => hb (hw _ q)) e⟩, x.toks⟩
theorem Stp0.keep {s s' : Shared} (x : Stp0 [] s s') : Ext s.heap s'.heap := fun b o e => x.ext b o List.not_mem_nil e
theorem Stp.keep {s s' : Shared} (x : Stp [] s s') : Ext s.heap s'.heap := x.toStp0.keep
theorem Stp.nil {W : List Addr} {s s' : Shared} (x : Stp [] s s') : Stp W s s' := x.mono fun _ h => absurd h List.not_mem_nil
theorem Stp0.toks (s : Shared) (t : Nat) : Stp0 [] s { s with toks := t } := .heap fun _ _ e => e
theorem Stp0.push (s : Shared) (o : Obj) : Stp0 [] s { s with heap := s.heap.push o } := .of rfl rfl fun _ _ e => Heap.get?_push_of_some _ e
theorem Stp0.refl (s : Shared) : Stp0 [] s s := .of rfl rfl fun _ _ e => e
theorem fresh_none (h : Heap) : h.get? h.objs.size = none := by
  cases e : h.get? h.objs.size with
  | none => rfl
  | some o => exact absurd (Heap.lt_size e) (Nat.lt_irrefl _)
/-- the tokens rise by themselves -/
theorem wp_stp {α : Type} {M : Model} {A : Around} {t : Sem α} {W : List Addr} {s : Shared} {E : Value → Shared → Prop} {Q R : α → Shared → Prop}
    (h : ∀ (E' : Value → Shared → Prop) (Q' : α → Shared → Prop), (∀ a s', Stp0 W s s' → R a s' → Q' a s') → wpAny M A t Q' E' s)
    (q : ∀ a s', Stp W s s' → R a s' → Q a s') : wpAny M A t Q E s :=
  wpAny_with_toks (Nat.le_refl _) (h _ _ fun a s' st r ht => q a s' ⟨st, ht⟩ r)
theorem Rep.stp0 {V : List Addr} {s s' : Shared} {v d} (x : Stp0 [] s s') (r : Rep V s.heap v d) : Rep V s'.heap v d := r.ext (fun _ h => absurd h List.not_mem_nil) x.ext
theorem RepL.stp0 {V : List Addr} {s s' : Shared} {v d} (x : Stp0 [] s s') (r : RepL V s.heap v d) : RepL V s'.heap v d := r.ext (fun _ h => absurd h List.not_mem_nil) x.ext

theorem RepL.length {V : List Addr} {h : Heap} : ∀ {vs ds}, RepL V h vs ds → vs.length = ds.length
  | _, _, .nil => rfl
  | _, _, .cons _ t => by simp [t.length]
theorem RepL.get {V : List Addr} {h : Heap} : ∀ {vs ds}, RepL V h vs ds → ∀ {i : Nat} {d : D}, ds[i]? = some d → ∃ v, vs[i]? = some v ∧ Rep V h v d
  | _, _, .nil, i, d, e => by simp at e
  | _, _, .cons hv t, 0, d, e => by simp at e; subst e; exact ⟨_, rfl, hv⟩
  | _, _, .cons hv t, i + 1, d, e => by simp at e; exact t.get e
theorem RepL.append {V : List Addr} {h : Heap} : ∀ {vs ds us es}, RepL V h vs ds → RepL V h us es → RepL V h (vs ++ us) (ds ++ es)
  | _, _, _, _, .nil, y => y
  | _, _, _, _, .cons hv t, y => .cons hv (t.append y)

/-- the room around a call -/
structure AOk (n : Nat) (A : Around) : Prop where
  handled : A.handled = none
  depth : A.depth + n < 1000
  units : A.units + 5 * n < 9000
theorem AOk.mono {n m : Nat} {A : Around} (h : m ≤ n) (x : AOk n A) : AOk m A := ⟨x.handled, by have := x.depth; omega, by have := x.units; omega⟩
theorem AOk.deeper {n : Nat} {A : Around} {env : Env} (x : AOk (n + 1) A) : AOk n (A.deeper env) :=
  ⟨x.handled, by have := x.depth; show A.depth + 1 + n < 1000; omega, by have := x.units; show A.units + 3 + 5 * n < 9000; omega⟩
theorem AOk.room {n : Nat} {A : Around} (x : AOk n A) : A.depth < recursionLimit := by have := x.depth; show A.depth < 1000; omega
theorem AOk.cRoom {n : Nat} {A : Around} (x : AOk n A) : A.units + 800 < cLine := by have := x.units; show A.units + 800 < 9900; omega
theorem AOk.mark {n : Nat} {A : Around} (x : AOk n A) : A.mark none = A := by
  obtain ⟨h, d, f, g, u⟩ := A; rfl

/-- the value of a name of the frame -/
inductive NameAt (env : Env) (h : Heap) (x : Str) (v : Value) : Prop
  | loc {m} : env.kindOf x = some .local → h.Ns env.locals m → m x = some v → NameAt env h x v
  | cell {c} : env.kindOf x = some .cell → env.cells.lookup x = some c → h.IsCell c (some v) → NameAt env h x v
  | free {c} : env.kindOf x = some .free → env.cells.lookup x = some c → h.IsCell c (some v) → NameAt env h x v

theorem NameAt.ext {env : Env} {h h' : Heap} {x : Str} {v : Value} (e : Ext h h') : NameAt env h x v → NameAt env h' x v
  | .loc a b c => .loc a (b.keeps e) c
  | .cell a b c => .cell a b (c.keeps e)
  | .free a b c => .free a b (c.keeps e)

/-- a frame's shape, that no run turns -/
structure EnvOk (env : Env) : Prop where
  kind : env.scope.kind = .function
  apart : ∀ x y c, env.cells.lookup x = some c → env.cells.lookup y = some c → x = y
  away : ∀ x c, env.cells.lookup x = some c → c ≠ env.locals
  globals : env.globals = mainGlobals
  builtins : env.builtins = builtinsNs

/-- what is known of a frame: its names' data -/
structure Fm (env : Env) (V : List Addr) (ρ : List (Str × D)) (h : Heap) : Prop where
  names : ∀ x d, ρ.lookup x = some d → ∃ v, NameAt env h x v ∧ Rep V h v d
  ns : ∃ m, h.Ns env.locals m
  cells : ∀ x c, env.cells.lookup x = some c → ∃ v, h.IsCell c v
  vloc : env.locals ∈ V
  vcell : ∀ x c, env.cells.lookup x = some c → c ∈ V
  old : ∀ a ∈ V, ∃ o, h.get? a = some o
  ok : EnvOk env

theorem Fm.ext {env : Env} {V : List Addr} {ρ : List (Str × D)} {s s' : Shared} (e : Stp0 [] s s') (F : Fm env V ρ s.heap) : Fm env V ρ s'.heap where
  names := fun x d hx => let ⟨v, hv, r⟩ := F.names x d hx; ⟨v, hv.ext e.keep, r.stp0 e⟩
  ns := let ⟨m, hm⟩ := F.ns; ⟨m, hm.keeps e.keep⟩
  cells := fun x c hc => let ⟨v, hv⟩ := F.cells x c hc; ⟨v, hv.keeps e.keep⟩
  vloc := F.vloc
  vcell := F.vcell
  old := fun a ha => let ⟨o, ho⟩ := F.old a ha; ⟨o, e.keep a o ho⟩
  ok := F.ok

/-- the base: the heap at the law's call -/
structure Bs (h₀ : Heap) (mg mb : Str → Option Value) : Prop where
  g : h₀.Ns mainGlobals mg
  b : h₀.Ns builtinsNs mb
  nolimit : h₀.NoLimit
  builtins : ∀ x : Str, x ≠ "__name__" → mb x = bootBuiltins x

/-- the base stands in the state -/
structure In0 (h₀ : Heap) (V : List Addr) (s : Shared) : Prop where
  ext : Ext h₀ s.heap
  toks : 1 ≤ s.toks
  new : ∀ a ∈ V, h₀.get? a = none
theorem In0.stp {h₀ : Heap} {V : List Addr} {s s' : Shared} (x : In0 h₀ V s) (e : Stp [] s s') : In0 h₀ V s' := ⟨fun b o q => e.keep b o (x.ext b o q), Nat.le_trans x.toks e.toks, x.new⟩

section
variable (prog : Program) (w : World) (h₀ : Heap)

/-- e is evaluated to d, and nothing that stood is written -/
noncomputable def PE (n : Nat) (env : Env) (V : List Addr) (ρ : List (Str × D)) (e : Expr) (d : D) : Prop :=
  ∀ (A : Around) (s : Shared) (E : Value → Shared → Prop) (Q : Value → Shared → Prop), AOk n A → In0 h₀ V s → Fm env V ρ s.heap →
    (∀ v s', Stp [] s s' → Rep V s'.heap v d → Q v s') → wpAny (model prog w) A (eval e env) Q E s

/-- the truth of e -/
noncomputable def PT (n : Nat) (env : Env) (V : List Addr) (ρ : List (Str × D)) (e : Expr) (b : Bool) : Prop :=
  ∀ (A : Around) (s : Shared) (E : Value → Shared → Prop) (Q : Bool → Shared → Prop), AOk n A → In0 h₀ V s → Fm env V ρ s.heap →
    (∀ s', Stp [] s s' → Q b s') → wpAny (model prog w) A (isTrue e env (eval e env)) Q E s

/-- several -/
noncomputable def PEs (n : Nat) (env : Env) (V : List Addr) (ρ : List (Str × D)) (pos : Pos) (es : List Expr) (ds : List D) : Prop :=
  ∀ (A : Around) (s : Shared) (E : Value → Shared → Prop) (Q : List Value → Shared → Prop), AOk n A → In0 h₀ V s → Fm env V ρ s.heap →
    (∀ vs s', Stp [] s s' → RepL V s'.heap vs ds → Q vs s') → wpAny (model prog w) A (spliced (backTo pos (starEach es env))) Q E s

noncomputable abbrev Old (V : List Addr) (h : Heap) : Prop := ∀ a ∈ V, ∃ o, h.get? a = some o

/-- two values by an operator -/
noncomputable def B2 (n : Nat) (V : List Addr) (op : Operator) (a b d : D) : Prop :=
  ∀ (A : Around) (s : Shared) (E : Value → Shared → Prop) (Q : Value → Shared → Prop) (v u : Value), AOk n A → Old V s.heap → Rep V s.heap v a → Rep V s.heap u b →
    (∀ x s', Stp0 [] s s' → Rep V s'.heap x d → Q x s') → wpAny (model prog w) A (binaryOp op v u) Q E s
/-- two values compared -/
noncomputable def C2 (n : Nat) (V : List Addr) (op : CmpOp) (a b : D) (r : Bool) : Prop :=
  ∀ (A : Around) (s : Shared) (E : Value → Shared → Prop) (Q : Value → Shared → Prop) (v u : Value), AOk n A → Old V s.heap → Rep V s.heap v a → Rep V s.heap u b →
    (∀ s', Stp0 [] s s' → Q (.bool r) s') → wpAny (model prog w) A (compareOp op v u) Q E s
/-- the truth of a value -/
noncomputable def TR (n : Nat) (V : List Addr) (a : D) (r : Bool) : Prop :=
  ∀ (A : Around) (s : Shared) (E : Value → Shared → Prop) (Q : Bool → Shared → Prop) (v : Value), AOk n A → Old V s.heap → Rep V s.heap v a →
    (∀ s', Stp0 [] s s' → Q r s') → wpAny (model prog w) A (truthy v) Q E s
/-- an item -/
noncomputable def GI (n : Nat) (V : List Addr) (a b d : D) : Prop :=
  ∀ (A : Around) (s : Shared) (E : Value → Shared → Prop) (Q : Value → Shared → Prop) (v u : Value), AOk n A → Old V s.heap → Rep V s.heap v a → Rep V s.heap u b →
    (∀ x s', Stp0 [] s s' → Rep V s'.heap x d → Q x s') → wpAny (model prog w) A (getItem v u) Q E s
/-- a call that writes nothing that stood -/
noncomputable def CL (n : Nat) (V : List Addr) (f : Value) (ds : List D) (d : D) : Prop :=
  ∀ (A : Around) (s : Shared) (E : Value → Shared → Prop) (Q : Value → Shared → Prop) (vs : List Value), AOk n A → In0 h₀ V s → Old V s.heap → RepL V s.heap vs ds →
    (∀ x s', Stp0 [] s s' → Rep V s'.heap x d → Q x s') → wpAny (model prog w) A (call f vs) Q E s
end

section
variable {prog : Program} {w : World} {h₀ : Heap} {n : Nat} {env : Env} {V : List Addr} {ρ : List (Str × D)}

theorem PE.mk {e : Expr} {d : D} (h : ∀ (A : Around) (s : Shared) (E : Value → Shared → Prop) (Q : Value → Shared → Prop), AOk n A → In0 h₀ V s → Fm env V ρ s.heap →
    (∀ v s', Stp0 [] s s' → Rep V s'.heap v d → Q v s') → wpAny (model prog w) A (eval e env) Q E s) : PE prog w h₀ n env V ρ e d :=
  fun A s E Q hA hB F q => wp_stp (R := fun v s' => Rep V s'.heap v d) (fun E' Q' q' => h A s E' Q' hA hB F q') q

theorem pe_name {x : Str} {pos : Pos} {d : D} (hx : ρ.lookup x = some d) (hd : autoParam ((x == ("__debug__" : Str)) = false) tacDecide) (hc : autoParam ((x == ("__classdict__" : Str)) = false) tacDecide) :
    PE prog w h₀ n env V ρ (.Name x pos) d := by
  intro A s E Q _ _ F q
  obtain ⟨v, hv, r⟩ := F.names x d hx
  have ok := F.ok
  refine wpAny_Name ?_ hd
  cases hv with
  | loc a b c => exact wpAny_loadName_local ok.kind a b c (q v s (.refl _) r)
  | cell a b c => exact wpAny_loadName_cell ok.kind a b c (q v s (.refl _) r)
  | free a b c => exact wpAny_loadName_free ok.kind a b c (q v s (.refl _) r) hc

theorem pe_int {i : Int} {k : Nat} {pos : Pos} : PE prog w h₀ n env V ρ (.Constant (.int i) k pos) (.int i) :=
  .mk fun _ s _ _ _ _ _ q => wpAny_Constant_int (q _ _ (.toks s _) (.int _ _))
theorem pe_str {x : Str} {k : Nat} {pos : Pos} : PE prog w h₀ n env V ρ (.Constant (.str x) k pos) (.str x) :=
  .mk fun _ s _ _ _ _ _ q => wpAny_Constant_str (q _ _ (.toks s _) (.str _ _))
theorem pe_none {k : Nat} {pos : Pos} : PE prog w h₀ n env V ρ (.Constant .none k pos) .none :=
  .mk fun _ s _ _ _ _ _ q => wpAny_Constant_none (q _ _ (.refl s) .none)
theorem pes_nil {pos : Pos} : PEs prog w h₀ n env V ρ pos [] [] :=
  fun _ s _ _ _ _ _ q => wpAny_items_nil (q _ _ (.refl s) .nil)
theorem pes_cons {pos : Pos} {e : Expr} {es : List Expr} {d : D} {ds : List D} (he : PE prog w h₀ n env V ρ e d) (hes : PEs prog w h₀ n env V ρ pos es ds)
    (hst : autoParam (starEach (e :: es) env = (false, eval e env) :: starEach es env) tacRfl) : PEs prog w h₀ n env V ρ pos (e :: es) (d :: ds) := by
  intro A s E Q hA hB F q
  refine wpAny_items_cons (he A s E _ hA hB F fun v s₁ e₁ r₁ => ?_) hst
  exact hes A s₁ E _ hA (hB.stp e₁) (F.ext e₁.toStp0) fun vs s₂ e₂ r₂ => q _ _ (e₁.trans e₂) (.cons (r₁.stp0 e₂.toStp0) r₂)

theorem Old.fresh {h : Heap} (o : Old V h) : h.objs.size ∉ V := fun hm => by
  obtain ⟨x, hx⟩ := o _ hm
  rw [fresh_none] at hx; cases hx
theorem Old.stp {s s' : Shared} (o : Old V s.heap) (e : Stp0 [] s s') : Old V s'.heap := fun a ha => let ⟨x, hx⟩ := o a ha; ⟨x, e.keep a x hx⟩

theorem rep_newList {s₁ : Shared} {vs : List Value} {ds : List D} (o : Old V s₁.heap) (r : RepL V s₁.heap vs ds) :
    Rep V (s₁.heap.push { cls := .type "list", data := .seq vs.toArray }) (.ref s₁.heap.objs.size) (.list ds) :=
  .list (vs := vs.toArray) o.fresh ⟨_, Heap.get?_push_size _ rfl⟩ (r.stp0 (.push s₁ _))
theorem rep_newTuple {s₁ : Shared} {vs : List Value} {ds : List D} (o : Old V s₁.heap) (r : RepL V s₁.heap vs ds) :
    Rep V (s₁.heap.push { cls := .type "tuple", data := .seq vs.toArray }) (.ref s₁.heap.objs.size) (.tuple ds) :=
  .tuple (vs := vs.toArray) o.fresh ⟨_, Heap.get?_push_size _ rfl, rfl, _, rfl⟩ (r.stp0 (.push s₁ _))

theorem pe_tuple {elts : List Expr} {k : Nat} {pos : Pos} {ds : List D} (h : PEs prog w h₀ n env V ρ pos elts ds) (hsz : ds.length ≤ sizeLine) :
    PE prog w h₀ n env V ρ (.Tuple elts k pos) (.tuple ds) := by
  intro A s E Q hA hB F q
  refine wpAny_Tuple (h A s E _ hA hB F fun vs s₁ e₁ r₁ => ⟨r₁.length ▸ hsz, ?_⟩)
  exact q _ _ (e₁.trans ⟨.push _ _, Nat.le_refl _⟩) (rep_newTuple (F.ext e₁.toStp0).old r₁)

theorem pe_list {elts : List Expr} {pos : Pos} {ds : List D} (h : PEs prog w h₀ n env V ρ pos elts ds) (hsz : ds.length ≤ sizeLine) :
    PE prog w h₀ n env V ρ (.List elts pos) (.list ds) := by
  intro A s E Q hA hB F q
  refine wpAny_List (h A s E _ hA hB F fun vs s₁ e₁ r₁ => ⟨r₁.length ▸ hsz, ?_⟩)
  exact q _ _ (e₁.trans ⟨.push _ _, Nat.le_refl _⟩) (rep_newList (F.ext e₁.toStp0).old r₁)

theorem pe_bin {l r : Expr} {op : Operator} {pos : Pos} {a b d : D} (hl : PE prog w h₀ n env V ρ l a) (hr : PE prog w h₀ n env V ρ r b) (ho : B2 prog w n V op a b d) :
    PE prog w h₀ n env V ρ (.BinOp l op r pos) d := by
  intro A s E Q hA hB F q
  refine wpAny_BinOp (hl A s E _ hA hB F fun v s₁ e₁ r₁ => hr A s₁ E _ hA (hB.stp e₁) (F.ext e₁.toStp0) fun u s₂ e₂ r₂ => ?_)
  exact wp_stp (fun E' Q' q' => ho A s₂ E' Q' v u hA ((F.ext e₁.toStp0).ext e₂.toStp0).old (r₁.stp0 e₂.toStp0) r₂ q') fun x s₃ e₃ r₃ => q x s₃ ((e₁.trans e₂).trans e₃) r₃

theorem pe_cmp {l r : Expr} {op : CmpOp} {pos : Pos} {a b : D} {c : Bool} (hl : PE prog w h₀ n env V ρ l a) (hr : PE prog w h₀ n env V ρ r b) (ho : C2 prog w n V op a b c)
    (hm : autoParam (behindInMarks op r = false) tacUnf) : PE prog w h₀ n env V ρ (.Compare l [op] [r] pos) (.bool c) := by
  intro A s E Q hA hB F q
  refine wpAny_Compare1 (hl A s E _ hA hB F fun v s₁ e₁ r₁ => hr A s₁ E _ hA (hB.stp e₁) (F.ext e₁.toStp0) fun u s₂ e₂ r₂ => ?_) hm
  refine wp_stp (R := fun x _ => x = .bool c) (fun E' Q' q' => ho A s₂ E' Q' v u hA ((F.ext e₁.toStp0).ext e₂.toStp0).old (r₁.stp0 e₂.toStp0) r₂ fun s' e' => q' _ s' e' rfl) ?_
  rintro x s₃ e₃ rfl
  exact q _ s₃ ((e₁.trans e₂).trans e₃) (.bool c)

theorem pt_cmp {l r : Expr} {op : CmpOp} {pos : Pos} {a b : D} {c : Bool} (hl : PE prog w h₀ n env V ρ l a) (hr : PE prog w h₀ n env V ρ r b) (ho : C2 prog w n V op a b c)
    (hm : autoParam (behindInMarks op r = false) tacUnf) : PT prog w h₀ n env V ρ (.Compare l [op] [r] pos) c := by
  intro A s E Q hA hB F q
  refine wpAny_isTrue_Compare1 (hl A s E _ hA hB F fun v s₁ e₁ r₁ => hr A s₁ E _ hA (hB.stp e₁) (F.ext e₁.toStp0) fun u s₂ e₂ r₂ => ?_) hm
  refine wp_stp (R := fun x _ => x = .bool c) (fun E' Q' q' => ho A s₂ E' Q' v u hA ((F.ext e₁.toStp0).ext e₂.toStp0).old (r₁.stp0 e₂.toStp0) r₂ fun s' e' => q' _ s' e' rfl) ?_
  rintro x s₃ e₃ rfl
  exact wpAny_truthy_bool (q s₃ ((e₁.trans e₂).trans e₃))

/-- the truth of a value's own -/
theorem pt_val {e : Expr} {d : D} {c : Bool} (he : PE prog w h₀ n env V ρ e d) (ht : TR prog w n V d c)
    (hf : autoParam (∀ whole, isTrue e env whole = (do let v ← whole; standAt e.pos; holding [v] (truthy v))) tacIntroRfl) : PT prog w h₀ n env V ρ e c := by
  intro A s E Q hA hB F q
  refine wpAny_isTrue_value (he A s E _ hA hB F fun v s₁ e₁ r₁ => ?_) (hf _)
  exact wp_stp (R := fun x _ => x = c) (fun E' Q' q' => ht A s₁ E' Q' v hA (F.ext e₁.toStp0).old r₁ fun s' e' => q' _ s' e' rfl) (by rintro x s₂ e₂ rfl; exact q s₂ (e₁.trans e₂))

theorem pt_not {e : Expr} {pos : Pos} {c : Bool} (he : PT prog w h₀ n env V ρ e c) : PT prog w h₀ n env V ρ (.UnaryOp .Not e pos) (!c) := by
  intro A s E Q hA hB F q
  exact wpAny_isTrue_Not (he A s E _ hA hB F fun s' e' => q s' e')

theorem pe_ifexp {t b o : Expr} {pos : Pos} {c : Bool} {d : D} (ht : PT prog w h₀ n env V ρ t c) (hb : c = true → PE prog w h₀ n env V ρ b d) (ho : c = false → PE prog w h₀ n env V ρ o d) :
    PE prog w h₀ n env V ρ (.IfExp t b o pos) d := by
  intro A s E Q hA hB F q
  refine wpAny_IfExp (ht A s E _ hA hB F fun s₁ e₁ => ?_)
  cases c with
  | true => exact hb rfl A s₁ E Q hA (hB.stp e₁) (F.ext e₁.toStp0) fun v s₂ e₂ r => q v s₂ (e₁.trans e₂) r
  | false => exact ho rfl A s₁ E Q hA (hB.stp e₁) (F.ext e₁.toStp0) fun v s₂ e₂ r => q v s₂ (e₁.trans e₂) r

/-- and, or as tests -/
noncomputable def PTs (prog : Program) (w : World) (h₀ : Heap) (n : Nat) (env : Env) (V : List Addr) (ρ : List (Str × D)) (op : BoolOp) (es : List Expr) (c : Bool) : Prop :=
  ∀ (A : Around) (s : Shared) (E : Value → Shared → Prop) (Q : Bool → Shared → Prop), AOk n A → In0 h₀ V s → Fm env V ρ s.heap →
    (∀ s', Stp [] s s' → Q c s') → wpAny (model prog w) A (allTrue op es env) Q E s
theorem pts_and_nil : PTs prog w h₀ n env V ρ .And [] true := fun _ _ _ _ _ _ _ q => wpAny_allTrue_And_nil (q _ (.refl _))
theorem pts_or_nil : PTs prog w h₀ n env V ρ .Or [] false := fun _ _ _ _ _ _ _ q => wpAny_allTrue_Or_nil (q _ (.refl _))
theorem pts_and {e : Expr} {es : List Expr} {c d : Bool} (he : PT prog w h₀ n env V ρ e c) (hes : c = true → PTs prog w h₀ n env V ρ .And es d) : PTs prog w h₀ n env V ρ .And (e :: es) (c && d) := by
  intro A s E Q hA hB F q
  refine wpAny_allTrue_And_cons (he A s E _ hA hB F fun s₁ e₁ => ?_)
  cases c with
  | true => exact hes rfl A s₁ E _ hA (hB.stp e₁) (F.ext e₁.toStp0) fun s₂ e₂ => q s₂ (e₁.trans e₂)
  | false => exact q s₁ e₁
theorem pts_or {e : Expr} {es : List Expr} {c d : Bool} (he : PT prog w h₀ n env V ρ e c) (hes : c = false → PTs prog w h₀ n env V ρ .Or es d) : PTs prog w h₀ n env V ρ .Or (e :: es) (c || d) := by
  intro A s E Q hA hB F q
  refine wpAny_allTrue_Or_cons (he A s E _ hA hB F fun s₁ e₁ => ?_)
  cases c with
  | true => exact q s₁ e₁
  | false => exact hes rfl A s₁ E _ hA (hB.stp e₁) (F.ext e₁.toStp0) fun s₂ e₂ => q s₂ (e₁.trans e₂)
theorem pt_bool {op : BoolOp} {es : List Expr} {pos : Pos} {c : Bool} (h : PTs prog w h₀ n env V ρ op es c) : PT prog w h₀ n env V ρ (.BoolOp op es pos) c :=
  fun A s E Q hA hB F q => wpAny_isTrue_BoolOp (h A s E Q hA hB F q)
end
end Mine
end

section
open PySem PySem.Calls PySem.W PyProof.Rows
set_option Elab.async false
namespace Mine
section
variable {prog : Program} {w : World} {h₀ : Heap} {n : Nat} {V : List Addr}

theorem b2_add {a b : Int} : B2 prog w n V .Add (.int a) (.int b) (.int (a + b)) := by
  intro A s E Q v u _ _ rv ru q
  (first | obtain ⟨_, rfl⟩ := rv.toInt | obtain ⟨_, rfl⟩ := rv.toStr | obtain rfl := rv.toNone | obtain rfl := rv.toBool | obtain rfl := rv.toObj | obtain rfl := rv.toTy | obtain rfl := rv.toNil | cases rv); (first | obtain ⟨_, rfl⟩ := ru.toInt | obtain ⟨_, rfl⟩ := ru.toStr | obtain rfl := ru.toNone | obtain rfl := ru.toBool | obtain rfl := ru.toObj | obtain rfl := ru.toTy | obtain rfl := ru.toNil | cases ru); exact PyProof.Rows.add_int (q _ _ (.toks _ _) (.int _ _))
theorem b2_sub {a b : Int} : B2 prog w n V .Sub (.int a) (.int b) (.int (a - b)) := by
  intro A s E Q v u _ _ rv ru q
  (first | obtain ⟨_, rfl⟩ := rv.toInt | obtain ⟨_, rfl⟩ := rv.toStr | obtain rfl := rv.toNone | obtain rfl := rv.toBool | obtain rfl := rv.toObj | obtain rfl := rv.toTy | obtain rfl := rv.toNil | cases rv); (first | obtain ⟨_, rfl⟩ := ru.toInt | obtain ⟨_, rfl⟩ := ru.toStr | obtain rfl := ru.toNone | obtain rfl := ru.toBool | obtain rfl := ru.toObj | obtain rfl := ru.toTy | obtain rfl := ru.toNil | cases ru); exact PyProof.Rows.sub_int (q _ _ (.toks _ _) (.int _ _))
theorem bits_le {a : Int} {k : Nat} (h : a.natAbs < 2 ^ k) : Builtin.Int.intBits a ≤ k := by
  unfold Builtin.Int.intBits
  split
  · exact Nat.zero_le _
  · rename_i h0
    have h1 : a.natAbs ≠ 0 := by simpa using h0
    exact (Nat.log2_lt h1).mpr h
theorem b2_mod {a b : Int} (hb : b ≠ 0) : B2 prog w n V .Mod (.int a) (.int b) (.int (a.fmod b)) := by
  intro A s E Q v u _ _ rv ru q
  (first | obtain ⟨_, rfl⟩ := rv.toInt | obtain ⟨_, rfl⟩ := rv.toStr | obtain rfl := rv.toNone | obtain rfl := rv.toBool | obtain rfl := rv.toObj | obtain rfl := rv.toTy | obtain rfl := rv.toNil | cases rv); (first | obtain ⟨_, rfl⟩ := ru.toInt | obtain ⟨_, rfl⟩ := ru.toStr | obtain rfl := ru.toNone | obtain rfl := ru.toBool | obtain rfl := ru.toObj | obtain rfl := ru.toTy | obtain rfl := ru.toNil | cases ru); exact PyProof.Rows.mod_int' hb (q _ _ (.toks _ _) (.int _ _))
theorem b2_div {a b : Int} (hb : b ≠ 0) (hs : b.natAbs < 1073741824) : B2 prog w n V .FloorDiv (.int a) (.int b) (.int (a.fdiv b)) := by
  intro A s E Q v u _ _ rv ru q
  (first | obtain ⟨_, rfl⟩ := rv.toInt | obtain ⟨_, rfl⟩ := rv.toStr | obtain rfl := rv.toNone | obtain rfl := rv.toBool | obtain rfl := rv.toObj | obtain rfl := rv.toTy | obtain rfl := rv.toNil | cases rv); (first | obtain ⟨_, rfl⟩ := ru.toInt | obtain ⟨_, rfl⟩ := ru.toStr | obtain rfl := ru.toNone | obtain rfl := ru.toBool | obtain rfl := ru.toObj | obtain rfl := ru.toTy | obtain rfl := ru.toNil | cases ru); exact PyProof.Rows.floordiv_int hb (q _ _ (.toks _ _) (.int _ _)) (.inl (PyProof.noPylong_small hs))
theorem b2_pow {a k : Int} (hk : 0 ≤ k) (ha : a.natAbs < 2 ^ 32) (hk' : k ≤ 1000) : B2 prog w n V .Pow (.int a) (.int k) (.int (a ^ k.toNat)) := by
  intro A s E Q v u _ _ rv ru q
  (first | obtain ⟨_, rfl⟩ := rv.toInt | obtain ⟨_, rfl⟩ := rv.toStr | obtain rfl := rv.toNone | obtain rfl := rv.toBool | obtain rfl := rv.toObj | obtain rfl := rv.toTy | obtain rfl := rv.toNil | cases rv); (first | obtain ⟨_, rfl⟩ := ru.toInt | obtain ⟨_, rfl⟩ := ru.toStr | obtain rfl := ru.toNone | obtain rfl := ru.toBool | obtain rfl := ru.toObj | obtain rfl := ru.toTy | obtain rfl := ru.toNil | cases ru)
  refine PyProof.Rows.pow_int hk ?_ (q _ _ (.toks _ _) (.int _ _))
  have h1 : (Builtin.Int.intBits a : Int) ≤ 32 := by exact_mod_cast bits_le ha
  have h2 : (Builtin.Int.intBits a : Int) * k ≤ 32 * k := Int.mul_le_mul_of_nonneg_right h1 hk
  omega
theorem b2_cat {x y : Str} (h : x.length + y.length ≤ sizeLine) : B2 prog w n V .Add (.str x) (.str y) (.str (x ++ y)) := by
  intro A s E Q v u _ _ rv ru q
  (first | obtain ⟨_, rfl⟩ := rv.toInt | obtain ⟨_, rfl⟩ := rv.toStr | obtain rfl := rv.toNone | obtain rfl := rv.toBool | obtain rfl := rv.toObj | obtain rfl := rv.toTy | obtain rfl := rv.toNil | cases rv); (first | obtain ⟨_, rfl⟩ := ru.toInt | obtain ⟨_, rfl⟩ := ru.toStr | obtain rfl := ru.toNone | obtain rfl := ru.toBool | obtain rfl := ru.toObj | obtain rfl := ru.toTy | obtain rfl := ru.toNil | cases ru); exact PyProof.Rows.add_str (fun t' tk => q _ _ (.toks _ _) (.str _ _)) h
theorem b2_smul {x : Str} {k : Int} (hok : MulOk x k) : B2 prog w n V .Mult (.str x) (.int k) (.str (Txt.mul x k)) := by
  intro A s E Q v u _ _ rv ru q
  (first | obtain ⟨_, rfl⟩ := rv.toInt | obtain ⟨_, rfl⟩ := rv.toStr | obtain rfl := rv.toNone | obtain rfl := rv.toBool | obtain rfl := rv.toObj | obtain rfl := rv.toTy | obtain rfl := rv.toNil | cases rv); (first | obtain ⟨_, rfl⟩ := ru.toInt | obtain ⟨_, rfl⟩ := ru.toStr | obtain rfl := ru.toNone | obtain rfl := ru.toBool | obtain rfl := ru.toObj | obtain rfl := ru.toTy | obtain rfl := ru.toNil | cases ru); exact SB.mul hok fun t' tk => q _ _ (.toks _ _) (.str _ _)

theorem RepL.toArray {h : Heap} {vs : Array Value} {ds : List D} (r : RepL V h vs.toList ds) : vs.size = ds.length := by simpa using r.length
theorem b2_app {a b : List D} (h : a.length + b.length ≤ sizeLine) : B2 prog w n V .Add (.list a) (.list b) (.list (a ++ b)) := by
  intro A s E Q v u _ o rv ru q
  obtain ⟨a1, us, ha, hl, rl, rfl⟩ := rv.toList; obtain ⟨b1, vs, hb, hl', rl', rfl⟩ := ru.toList
  obtain ⟨k, hk⟩ := hl
  obtain ⟨k', hk'⟩ := hl'
  refine P.add_list hk hk' ?_ (by rw [rl.toArray, rl'.toArray]; exact h)
  refine q _ _ (.push _ _) ?_
  have e : (us.toList ++ vs.toList).toArray = us ++ vs := by apply Array.ext'; simp
  have := rep_newList o (rl.append rl')
  rw [e] at this
  exact this

theorem c2_eq_int {a b : Int} : C2 prog w n V .Eq (.int a) (.int b) (a == b) := by
  intro A s E Q v u _ _ rv ru q
  (first | obtain ⟨_, rfl⟩ := rv.toInt | obtain ⟨_, rfl⟩ := rv.toStr | obtain rfl := rv.toNone | obtain rfl := rv.toBool | obtain rfl := rv.toObj | obtain rfl := rv.toTy | obtain rfl := rv.toNil | cases rv); (first | obtain ⟨_, rfl⟩ := ru.toInt | obtain ⟨_, rfl⟩ := ru.toStr | obtain rfl := ru.toNone | obtain rfl := ru.toBool | obtain rfl := ru.toObj | obtain rfl := ru.toTy | obtain rfl := ru.toNil | cases ru); exact PyProof.Rows.eq_int (q _ (.refl _))
theorem c2_lt_int {a b : Int} : C2 prog w n V .Lt (.int a) (.int b) (decide (a < b)) := by
  intro A s E Q v u _ _ rv ru q
  (first | obtain ⟨_, rfl⟩ := rv.toInt | obtain ⟨_, rfl⟩ := rv.toStr | obtain rfl := rv.toNone | obtain rfl := rv.toBool | obtain rfl := rv.toObj | obtain rfl := rv.toTy | obtain rfl := rv.toNil | cases rv); (first | obtain ⟨_, rfl⟩ := ru.toInt | obtain ⟨_, rfl⟩ := ru.toStr | obtain rfl := ru.toNone | obtain rfl := ru.toBool | obtain rfl := ru.toObj | obtain rfl := ru.toTy | obtain rfl := ru.toNil | cases ru); exact PyProof.Rows.lt_int (q _ (.refl _))
theorem c2_eq_str {a b : Str} : C2 prog w n V .Eq (.str a) (.str b) (a == b) := by
  intro A s E Q v u _ _ rv ru q
  (first | obtain ⟨_, rfl⟩ := rv.toInt | obtain ⟨_, rfl⟩ := rv.toStr | obtain rfl := rv.toNone | obtain rfl := rv.toBool | obtain rfl := rv.toObj | obtain rfl := rv.toTy | obtain rfl := rv.toNil | cases rv); (first | obtain ⟨_, rfl⟩ := ru.toInt | obtain ⟨_, rfl⟩ := ru.toStr | obtain rfl := ru.toNone | obtain rfl := ru.toBool | obtain rfl := ru.toObj | obtain rfl := ru.toTy | obtain rfl := ru.toNil | cases ru); exact PyProof.Rows.eq_str (q _ (.refl _))
theorem c2_ne_str {a b : Str} : C2 prog w n V .NotEq (.str a) (.str b) (a != b) := by
  intro A s E Q v u _ _ rv ru q
  (first | obtain ⟨_, rfl⟩ := rv.toInt | obtain ⟨_, rfl⟩ := rv.toStr | obtain rfl := rv.toNone | obtain rfl := rv.toBool | obtain rfl := rv.toObj | obtain rfl := rv.toTy | obtain rfl := rv.toNil | cases rv); (first | obtain ⟨_, rfl⟩ := ru.toInt | obtain ⟨_, rfl⟩ := ru.toStr | obtain rfl := ru.toNone | obtain rfl := ru.toBool | obtain rfl := ru.toObj | obtain rfl := ru.toTy | obtain rfl := ru.toNil | cases ru); exact PyProof.Rows.ne_str (q _ (.refl _))
theorem c2_in_str {x y : Str} : C2 prog w n V .In (.str y) (.str x) (!(Builtin.Str.occurrences x y 0 x.length 1).isEmpty) := by
  intro A s E Q v u _ _ rv ru q
  (first | obtain ⟨_, rfl⟩ := rv.toInt | obtain ⟨_, rfl⟩ := rv.toStr | obtain rfl := rv.toNone | obtain rfl := rv.toBool | obtain rfl := rv.toObj | obtain rfl := rv.toTy | obtain rfl := rv.toNil | cases rv); (first | obtain ⟨_, rfl⟩ := ru.toInt | obtain ⟨_, rfl⟩ := ru.toStr | obtain rfl := ru.toNone | obtain rfl := ru.toBool | obtain rfl := ru.toObj | obtain rfl := ru.toTy | obtain rfl := ru.toNil | cases ru); exact PyProof.Rows.in_str (q _ (.refl _))

theorem allT (k : Nat) : ((List.range k).all fun _ => true) = true := List.all_eq_true.mpr fun _ _ => rfl

mutual
noncomputable def D.depth : D → Nat
  | .list ds => D.depthL ds + 1
  | .tuple ds => D.depthL ds + 1
  | _ => 0
noncomputable def D.depthL : List D → Nat
  | [] => 0
  | d :: ds => max d.depth (D.depthL ds)
end

mutual
theorem eqAt_same {s : Shared} : ∀ (d : D) {v u : Value} {A : Around}, A.units + d.depth < cLine → Rep V s.heap v d → Rep V s.heap u d → SeqAt.EqAt A s v u true
  | .none, _, _, _, _, rv, ru => by (first | obtain ⟨_, rfl⟩ := rv.toInt | obtain ⟨_, rfl⟩ := rv.toStr | obtain rfl := rv.toNone | obtain rfl := rv.toBool | obtain rfl := rv.toObj | obtain rfl := rv.toTy | obtain rfl := rv.toNil | cases rv); (first | obtain ⟨_, rfl⟩ := ru.toInt | obtain ⟨_, rfl⟩ := ru.toStr | obtain rfl := ru.toNone | obtain rfl := ru.toBool | obtain rfl := ru.toObj | obtain rfl := ru.toTy | obtain rfl := ru.toNil | cases ru); exact SeqAt.EqAt.same _
  | .bool _, _, _, _, _, rv, ru => by (first | obtain ⟨_, rfl⟩ := rv.toInt | obtain ⟨_, rfl⟩ := rv.toStr | obtain rfl := rv.toNone | obtain rfl := rv.toBool | obtain rfl := rv.toObj | obtain rfl := rv.toTy | obtain rfl := rv.toNil | cases rv); (first | obtain ⟨_, rfl⟩ := ru.toInt | obtain ⟨_, rfl⟩ := ru.toStr | obtain rfl := ru.toNone | obtain rfl := ru.toBool | obtain rfl := ru.toObj | obtain rfl := ru.toTy | obtain rfl := ru.toNil | cases ru); exact SeqAt.EqAt.same _
  | .obj _, _, _, _, _, rv, ru => by (first | obtain ⟨_, rfl⟩ := rv.toInt | obtain ⟨_, rfl⟩ := rv.toStr | obtain rfl := rv.toNone | obtain rfl := rv.toBool | obtain rfl := rv.toObj | obtain rfl := rv.toTy | obtain rfl := rv.toNil | cases rv); (first | obtain ⟨_, rfl⟩ := ru.toInt | obtain ⟨_, rfl⟩ := ru.toStr | obtain rfl := ru.toNone | obtain rfl := ru.toBool | obtain rfl := ru.toObj | obtain rfl := ru.toTy | obtain rfl := ru.toNil | cases ru); exact SeqAt.EqAt.same _
  | .ty _, _, _, _, _, rv, ru => by (first | obtain ⟨_, rfl⟩ := rv.toInt | obtain ⟨_, rfl⟩ := rv.toStr | obtain rfl := rv.toNone | obtain rfl := rv.toBool | obtain rfl := rv.toObj | obtain rfl := rv.toTy | obtain rfl := rv.toNil | cases rv); (first | obtain ⟨_, rfl⟩ := ru.toInt | obtain ⟨_, rfl⟩ := ru.toStr | obtain rfl := ru.toNone | obtain rfl := ru.toBool | obtain rfl := ru.toObj | obtain rfl := ru.toTy | obtain rfl := ru.toNil | cases ru); exact SeqAt.EqAt.same _
  | .dict0 _, _, _, _, _, rv, ru => by (first | obtain ⟨_, rfl⟩ := rv.toInt | obtain ⟨_, rfl⟩ := rv.toStr | obtain rfl := rv.toNone | obtain rfl := rv.toBool | obtain rfl := rv.toObj | obtain rfl := rv.toTy | obtain rfl := rv.toNil | cases rv); (first | obtain ⟨_, rfl⟩ := ru.toInt | obtain ⟨_, rfl⟩ := ru.toStr | obtain rfl := ru.toNone | obtain rfl := ru.toBool | obtain rfl := ru.toObj | obtain rfl := ru.toTy | obtain rfl := ru.toNil | cases ru); exact SeqAt.EqAt.same _
  | .int i, _, _, _, _, rv, ru => by (first | obtain ⟨_, rfl⟩ := rv.toInt | obtain ⟨_, rfl⟩ := rv.toStr | obtain rfl := rv.toNone | obtain rfl := rv.toBool | obtain rfl := rv.toObj | obtain rfl := rv.toTy | obtain rfl := rv.toNil | cases rv); (first | obtain ⟨_, rfl⟩ := ru.toInt | obtain ⟨_, rfl⟩ := ru.toStr | obtain rfl := ru.toNone | obtain rfl := ru.toBool | obtain rfl := ru.toObj | obtain rfl := ru.toTy | obtain rfl := ru.toNil | cases ru); simpa using SeqAt.EqAt.int_int i _ i _
  | .str x, _, _, _, _, rv, ru => by (first | obtain ⟨_, rfl⟩ := rv.toInt | obtain ⟨_, rfl⟩ := rv.toStr | obtain rfl := rv.toNone | obtain rfl := rv.toBool | obtain rfl := rv.toObj | obtain rfl := rv.toTy | obtain rfl := rv.toNil | cases rv); (first | obtain ⟨_, rfl⟩ := ru.toInt | obtain ⟨_, rfl⟩ := ru.toStr | obtain rfl := ru.toNone | obtain rfl := ru.toBool | obtain rfl := ru.toObj | obtain rfl := ru.toTy | obtain rfl := ru.toNil | cases ru); simpa using SeqAt.EqAt.str_str x _ x _
  | .list ds, _, _, A, hu, rv, ru => by
    obtain ⟨a, vs, ha, hl, rl, rfl⟩ := rv.toList; obtain ⟨b, us, hb, hl', rl', rfl⟩ := ru.toList
    by_cases e : a = b
    · subst e; exact SeqAt.EqAt.same _
    · have hd : A.units + (D.depthL ds + 1) < cLine := hu
      have key := SeqAt.RcAt.lists (e := fun _ => true) hl.isList hl'.isList (by rw [rl.toArray, rl'.toArray]) (by omega)
        (eqAtL_same ds (A := A.in1) (by show A.units + 1 + D.depthL ds < cLine; omega) rl rl')
      refine SeqAt.EqAt.of_refs e ?_
      rw [allT] at key; exact key
  | .tuple ds, _, _, A, hu, rv, ru => by
    obtain ⟨a, vs, ha, hl, rl, rfl⟩ := rv.toTuple; obtain ⟨b, us, hb, hl', rl', rfl⟩ := ru.toTuple
    by_cases e : a = b
    · subst e; exact SeqAt.EqAt.same _
    · have hd : A.units + (D.depthL ds + 1) < cLine := hu
      have key := SeqAt.RcAt.tuples (e := fun _ => true) hl hl' (by omega)
        (eqAtL_same ds (A := A.in1) (by show A.units + 1 + D.depthL ds < cLine; omega) rl rl')
      refine SeqAt.EqAt.of_refs e ?_
      rw [allT, rl.toArray, rl'.toArray] at key; simpa using key
theorem eqAtL_same {s : Shared} : ∀ (ds : List D) {vs us : Array Value} {A : Around}, A.units + D.depthL ds < cLine → RepL V s.heap vs.toList ds → RepL V s.heap us.toList ds →
    ∀ (j : Nat) (h1 : j < vs.size) (h2 : j < us.size), SeqAt.EqAt A s vs[j] us[j] true
  | [], vs, us, A, _, rv, ru, j, h1, _ => by have := rv.toArray; simp only [List.length_nil] at this; omega
  | d :: ds, vs, us, A, hu, rv, ru, j, h1, h2 => by
    have hd : A.units + max d.depth (D.depthL ds) < cLine := hu
    have h3 : d.depth ≤ max d.depth (D.depthL ds) := Nat.le_max_left _ _
    have h4 : D.depthL ds ≤ max d.depth (D.depthL ds) := Nat.le_max_right _ _
    obtain ⟨lv⟩ := vs
    obtain ⟨lu⟩ := us
    obtain ⟨v, vs', rv1, rvs, rfl⟩ := rv.toCons; obtain ⟨u, us', ru1, rus, rfl⟩ := ru.toCons
    cases j with
    | zero => exact eqAt_same d (by omega) rv1 ru1
    | succ j => exact eqAtL_same ds (vs := vs'.toArray) (us := us'.toArray) (by omega) rvs rus j (by simpa using h1) (by simpa using h2)
end

theorem c2_ne_same {ds : List D} (hd : D.depthL ds ≤ 60) : C2 prog w n V .NotEq (.list ds) (.list ds) false := by
  intro A s E Q v u hA _ rv ru q
  have hr := hA.cRoom
  obtain ⟨a, vs, ha, hl, rl, rfl⟩ := rv.toList; obtain ⟨b, us, hb, hl', rl', rfl⟩ := ru.toList
  have key := SeqAt.RcNeAt.lists (A := A) (e := fun _ => true) hl.isList hl'.isList (by rw [rl.toArray, rl'.toArray]) (by omega)
    (eqAtL_same ds (A := A.in1) (by show A.units + 1 + D.depthL ds < cLine; omega) rl rl')
  have key' : SeqAt.RcNeAt A s (.ref a) (.ref b) false := by rw [allT] at key; exact key
  exact key' prog w E Q (q _ (.refl _))
theorem c2_ne_nil {ds : List D} : C2 prog w n V .NotEq (.list ds) (.list []) (!ds.isEmpty) := by
  intro A s E Q v u hA _ rv ru q
  have hr := hA.cRoom
  obtain ⟨a, vs, ha, hl, rl, rfl⟩ := rv.toList; obtain ⟨b, us, hb, hl', rl', rfl⟩ := ru.toList
  cases ds with
  | nil =>
    have key := SeqAt.RcNeAt.lists (A := A) (e := fun _ => true) hl.isList hl'.isList (by rw [rl.toArray, rl'.toArray]) (by omega)
      (eqAtL_same [] (A := A.in1) (by show A.units + 1 + 0 < cLine; omega) rl rl')
    have key' : SeqAt.RcNeAt A s (.ref a) (.ref b) false := by rw [allT] at key; exact key
    exact key' prog w E Q (q _ (.refl _))
  | cons d ds =>
    exact SeqAt.RcNeAt.lists_lengths hl.isList hl'.isList (by rw [rl.toArray, rl'.toArray]; rfl) (by omega) prog w E Q (q _ (.refl _))
theorem c2_eq_nil {ds : List D} : C2 prog w n V .Eq (.list ds) (.list []) ds.isEmpty := by
  intro A s E Q v u hA _ rv ru q
  have hr := hA.cRoom
  obtain ⟨a, vs, ha, hl, rl, rfl⟩ := rv.toList; obtain ⟨b, us, hb, hl', rl', rfl⟩ := ru.toList
  cases ds with
  | nil =>
    have key := SeqAt.RcAt.lists (A := A) (e := fun _ => true) hl.isList hl'.isList (by rw [rl.toArray, rl'.toArray]) (by omega)
      (eqAtL_same [] (A := A.in1) (by show A.units + 1 + 0 < cLine; omega) rl rl')
    have key' : SeqAt.RcAt A s (.ref a) (.ref b) true := by rw [allT] at key; exact key
    exact key' prog w E Q (q _ (.refl _))
  | cons d ds =>
    exact SeqAt.RcAt.lists_lengths hl.isList hl'.isList (by rw [rl.toArray, rl'.toArray]; rfl) (by omega) prog w E Q (q _ (.refl _))

/-- dInts -/
noncomputable abbrev dInts (l : List Int) : List D := l.map .int
theorem RepL.int_mem {h : Heap} : ∀ {vs : List Value} {l : List Int}, RepL V h vs (dInts l) → ∀ y ∈ vs, ∃ a t, y = .int a t
  | _, [], .nil, y, hy => by cases hy
  | _, i :: l, .cons rv rs, y, hy => by
    (first | obtain ⟨_, rfl⟩ := rv.toInt | obtain ⟨_, rfl⟩ := rv.toStr | obtain rfl := rv.toNone | obtain rfl := rv.toBool | obtain rfl := rv.toObj | obtain rfl := rv.toTy | obtain rfl := rv.toNil | cases rv)
    rcases List.mem_cons.mp hy with rfl | hy
    · exact ⟨_, _, rfl⟩
    · exact rs.int_mem y hy
noncomputable def intIs (k : Int) : Value → Bool
  | .int a _ => a == k
  | _ => false
theorem RepL.int_any {h : Heap} {k : Int} : ∀ {vs : List Value} {l : List Int}, RepL V h vs (dInts l) → vs.any (intIs k) = l.any (· == k)
  | _, [], .nil => rfl
  | _, i :: l, .cons rv rs => by
    (first | obtain ⟨_, rfl⟩ := rv.toInt | obtain ⟨_, rfl⟩ := rv.toStr | obtain rfl := rv.toNone | obtain rfl := rv.toBool | obtain rfl := rv.toObj | obtain rfl := rv.toTy | obtain rfl := rv.toNil | cases rv)
    rw [List.any_cons, List.any_cons, rs.int_any]; rfl
theorem c2_in_ints {k : Int} {l : List Int} : C2 prog w n V .In (.int k) (.list (dInts l)) (l.any (· == k)) := by
  intro A s E Q v u hA _ rv ru q
  (first | obtain ⟨_, rfl⟩ := rv.toInt | obtain ⟨_, rfl⟩ := rv.toStr | obtain rfl := rv.toNone | obtain rfl := rv.toBool | obtain rfl := rv.toObj | obtain rfl := rv.toTy | obtain rfl := rv.toNil | cases rv); obtain ⟨b, us, hb, hl', rl', rfl⟩ := ru.toList
  refine SeqAt.in_listAt (intIs k) hl'.isList (fun y hy => ?_) ?_
  · obtain ⟨a, t, rfl⟩ := rl'.int_mem y (by simpa using hy)
    exact SeqAt.EqAt.int_int a t k _
  · rw [← Array.any_toList, rl'.int_any]; exact q _ (.refl _)
theorem c2_notin_ints {k : Int} {l : List Int} : C2 prog w n V .NotIn (.int k) (.list (dInts l)) (!l.any (· == k)) := by
  intro A s E Q v u hA _ rv ru q
  (first | obtain ⟨_, rfl⟩ := rv.toInt | obtain ⟨_, rfl⟩ := rv.toStr | obtain rfl := rv.toNone | obtain rfl := rv.toBool | obtain rfl := rv.toObj | obtain rfl := rv.toTy | obtain rfl := rv.toNil | cases rv); obtain ⟨b, us, hb, hl', rl', rfl⟩ := ru.toList
  refine SeqAt.notIn_listAt (intIs k) hl'.isList (fun y hy => ?_) ?_
  · obtain ⟨a, t, rfl⟩ := rl'.int_mem y (by simpa using hy)
    exact SeqAt.EqAt.int_int a t k _
  · rw [← Array.any_toList, rl'.int_any]; exact q _ (.refl _)
theorem c2_is_none {d : D} : C2 prog w n V .Is d .none (match d with | .none => true | _ => false) := by
  intro A s E Q v u hA _ rv ru q
  (first | obtain ⟨_, rfl⟩ := ru.toInt | obtain ⟨_, rfl⟩ := ru.toStr | obtain rfl := ru.toNone | obtain rfl := ru.toBool | obtain rfl := ru.toObj | obtain rfl := ru.toTy | obtain rfl := ru.toNil | cases ru)
  cases rv <;> exact is_none (q _ (.refl _))
theorem c2_ne_bool {a b : Bool} : C2 prog w n V .NotEq (.bool a) (.bool b) (a != b) := by
  intro A s E Q v u hA _ rv ru q
  (first | obtain ⟨_, rfl⟩ := rv.toInt | obtain ⟨_, rfl⟩ := rv.toStr | obtain rfl := rv.toNone | obtain rfl := rv.toBool | obtain rfl := rv.toObj | obtain rfl := rv.toTy | obtain rfl := rv.toNil | cases rv); (first | obtain ⟨_, rfl⟩ := ru.toInt | obtain ⟨_, rfl⟩ := ru.toStr | obtain rfl := ru.toNone | obtain rfl := ru.toBool | obtain rfl := ru.toObj | obtain rfl := ru.toTy | obtain rfl := ru.toNil | cases ru)
  exact SeqAt.RcNeAt.bool_bool a b prog w E Q (q _ (.refl _))

theorem tr_bool {b : Bool} : TR prog w n V (.bool b) b := by
  intro A s E Q v _ _ rv q
  (first | obtain ⟨_, rfl⟩ := rv.toInt | obtain ⟨_, rfl⟩ := rv.toStr | obtain rfl := rv.toNone | obtain rfl := rv.toBool | obtain rfl := rv.toObj | obtain rfl := rv.toTy | obtain rfl := rv.toNil | cases rv); exact wpAny_truthy_bool (q _ (.refl _))
theorem tr_str {x : Str} (hs : x.length ≤ sizeLine) : TR prog w n V (.str x) (decide (x.length ≠ 0)) := by
  intro A s E Q v _ _ rv q
  have : sizeLine = 16777216 := rfl
  (first | obtain ⟨_, rfl⟩ := rv.toInt | obtain ⟨_, rfl⟩ := rv.toStr | obtain rfl := rv.toNone | obtain rfl := rv.toBool | obtain rfl := rv.toObj | obtain rfl := rv.toTy | obtain rfl := rv.toNil | cases rv)
  refine P.truthy_str (by omega) ?_
  have e : ((x.length : Int) != 0) = decide (x.length ≠ 0) := by simp [bne, BEq.beq]
  rw [e]; exact q _ (.toks _ _)
theorem tr_list {ds : List D} (hs : ds.length ≤ sizeLine) : TR prog w n V (.list ds) (!ds.isEmpty) := by
  intro A s E Q v _ _ rv q
  have : sizeLine = 16777216 := rfl
  obtain ⟨a, vs, ha, hl, rl, rfl⟩ := rv.toList
  have e1 := rl.toArray
  refine wpAny_truthy_list hl.isList (by omega) ?_
  have e : vs.isEmpty = ds.isEmpty := by
    unfold Array.isEmpty; rw [e1]; cases ds <;> rfl
  rw [e]; exact q _ (.toks _ _)
theorem tr_none : TR prog w n V .none false := by
  intro A s E Q v _ _ rv q
  (first | obtain ⟨_, rfl⟩ := rv.toInt | obtain ⟨_, rfl⟩ := rv.toStr | obtain rfl := rv.toNone | obtain rfl := rv.toBool | obtain rfl := rv.toObj | obtain rfl := rv.toTy | obtain rfl := rv.toNil | cases rv); exact fun _ _ _ => q _ (.refl _)
end
end Mine
end

section
open PySem PySem.Calls PySem.W PyProof.Rows
set_option Elab.async false
namespace Mine
section
variable {prog : Program} {w : World} {h₀ : Heap} {n : Nat} {env : Env} {V : List Addr} {ρ : List (Str × D)}

/-- a value whose class has a built-in __getitem__ -/
inductive HasItem : D → String → String → Prop
  | list {ds} : HasItem (.list ds) "list" "list.__getitem__"
  | tuple {ds} : HasItem (.tuple ds) "tuple" "tuple.__getitem__"
  | str {x} : HasItem (.str x) "str" "str.__getitem__"

theorem HasItem.type {s : Shared} {v : Value} {d : D} {T id : String} (x : HasItem d T id) (r : Rep V s.heap v d) : s.TypeIs v T := by
  cases x with
  | list => obtain ⟨_, _, _, hl, _, rfl⟩ := r.toList; exact hl.isList.typeIs
  | tuple => obtain ⟨_, _, _, hl, _, rfl⟩ := r.toTuple; exact IsTup.typeIs hl
  | str => (first | obtain ⟨_, rfl⟩ := r.toInt | obtain ⟨_, rfl⟩ := r.toStr | obtain rfl := r.toNone | obtain rfl := r.toBool | obtain rfl := r.toObj | obtain rfl := r.toTy | obtain rfl := r.toNil | cases r); exact typeIs_str _ _ _
theorem HasItem.look {d : D} {T id : String} (x : HasItem d T id) : typeLookup (.type T) "__getitem__" = pure (some (.builtin id)) := by
  cases x with
  | list => exact slot_list_getitem.lookup
  | tuple => exact slot_tuple_getitem.lookup
  | str => rw [typeLookup_type, builtinLookup_eq_fast]; kernel_rfl

theorem pe_sub {value slice : Expr} {pos : Pos} {a b d : D} {T id : String} (hv : PE prog w h₀ n env V ρ value a) (hi : PE prog w h₀ n env V ρ slice b) (hT : HasItem a T id) (hg : GI prog w n V a b d)
    (hs : autoParam (∀ o i, subscripted slice false o i = operate [o, i] (getItem o i)) tacIntroUnf) : PE prog w h₀ n env V ρ (.Subscript value slice pos) d := by
  intro A s E Q hA hB F q
  refine Subscript_ (hv A s E _ hA hB F fun v s₁ e₁ r₁ => hi A s₁ E _ hA (hB.stp e₁) (F.ext e₁.toStp0) fun u s₂ e₂ r₂ => ?_)
  have F₂ := (F.ext e₁.toStp0).ext e₂.toStp0
  have r₁' := r₁.stp0 e₂.toStp0
  exact wp_stp (fun E' Q' q' => tail_any (hT.type r₁') hT.look (hg A s₂ E' Q' v u hA F₂.old r₁' r₂ q') (hs v u)) fun x s₃ e₃ r₃ => q x s₃ ((e₁.trans e₂).trans e₃) r₃

theorem gi_list {ds : List D} {k : Int} {d : D} (h0 : 0 ≤ k) (hk : ds[k.toNat]? = some d) (hsz : ds.length ≤ sizeLine) : GI prog w n V (.list ds) (.int k) d := by
  intro A s E Q v u _ _ rv ru q
  have : sizeLine = 16777216 := rfl
  (first | obtain ⟨_, rfl⟩ := ru.toInt | obtain ⟨_, rfl⟩ := ru.toStr | obtain rfl := ru.toNone | obtain rfl := ru.toBool | obtain rfl := ru.toObj | obtain rfl := ru.toTy | obtain rfl := ru.toNil | cases ru)
  obtain ⟨_, _, _, hl, rl, rfl⟩ := rv.toList
  obtain ⟨x, hx, r⟩ := rl.get hk
  have hlt : k.toNat < ds.length := (List.getElem?_eq_some_iff.mp hk).1
  exact wpAny_getItem_list hl.isList h0 (by omega) (by simpa using hx) (q _ _ (.refl _) r)
theorem gi_list_neg {ds : List D} {k : Int} {d : D} (h0 : k < 0) (h1 : -(ds.length : Int) ≤ k) (hk : ds[(k + ds.length).toNat]? = some d) (hsz : ds.length ≤ sizeLine) : GI prog w n V (.list ds) (.int k) d := by
  intro A s E Q v u _ _ rv ru q
  have : sizeLine = 16777216 := rfl
  (first | obtain ⟨_, rfl⟩ := ru.toInt | obtain ⟨_, rfl⟩ := ru.toStr | obtain rfl := ru.toNone | obtain rfl := ru.toBool | obtain rfl := ru.toObj | obtain rfl := ru.toTy | obtain rfl := ru.toNil | cases ru)
  obtain ⟨_, _, _, hl, rl, rfl⟩ := rv.toList
  obtain ⟨x, hx, r⟩ := rl.get hk
  have e := rl.toArray
  exact wpAny_getItem_list_neg hl.isList h0 (by rw [e]; exact h1) (by omega) (by rw [e]; simpa using hx) (q _ _ (.refl _) r)
theorem gi_tuple {ds : List D} {k : Int} {d : D} (h0 : 0 ≤ k) (hk : ds[k.toNat]? = some d) (hsz : ds.length ≤ sizeLine) : GI prog w n V (.tuple ds) (.int k) d := by
  intro A s E Q v u _ _ rv ru q
  have : sizeLine = 16777216 := rfl
  (first | obtain ⟨_, rfl⟩ := ru.toInt | obtain ⟨_, rfl⟩ := ru.toStr | obtain rfl := ru.toNone | obtain rfl := ru.toBool | obtain rfl := ru.toObj | obtain rfl := ru.toTy | obtain rfl := ru.toNil | cases ru)
  obtain ⟨_, _, _, hl, rl, rfl⟩ := rv.toTuple
  obtain ⟨x, hx, r⟩ := rl.get hk
  have hlt : k.toNat < ds.length := (List.getElem?_eq_some_iff.mp hk).1
  refine PyProof.Rows.getItem_tuple (j := k.toNat) hl (by omega) (by omega) ?_ (by simpa using hx) (q _ _ (.refl _) r)
  rw [rl.toArray]
  exact seqIndex_of h0 (by omega)
theorem gi_str {x : Str} {k : Int} {c : Nat} (h0 : 0 ≤ k) (hk : x.cps[k.toNat]? = some c) (hsz : x.length ≤ sizeLine) : GI prog w n V (.str x) (.int k) (.str ⟨#[c]⟩) := by
  intro A s E Q v u _ _ rv ru q
  have : sizeLine = 16777216 := rfl
  (first | obtain ⟨_, rfl⟩ := rv.toInt | obtain ⟨_, rfl⟩ := rv.toStr | obtain rfl := rv.toNone | obtain rfl := rv.toBool | obtain rfl := rv.toObj | obtain rfl := rv.toTy | obtain rfl := rv.toNil | cases rv); (first | obtain ⟨_, rfl⟩ := ru.toInt | obtain ⟨_, rfl⟩ := ru.toStr | obtain rfl := ru.toNone | obtain rfl := ru.toBool | obtain rfl := ru.toObj | obtain rfl := ru.toTy | obtain rfl := ru.toNil | cases ru)
  have hlt : k.toNat < x.length := (Array.getElem?_eq_some_iff.mp hk).1
  refine PyProof.Rows.getItem_str (by simp; omega) ?_ (q _ _ (.toks _ _) (.str _ _))
  rw [seqIndex_of h0 (by omega)]; exact hk

/-- a part of a slice -/
noncomputable def PO (prog : Program) (w : World) (h₀ : Heap) (n : Nat) (env : Env) (V : List Addr) (ρ : List (Str × D)) (e : Option Expr) (k : Option Int) : Prop :=
  ∀ (A : Around) (s : Shared) (E : Value → Shared → Prop) (Q : Value → Shared → Prop), AOk n A → In0 h₀ V s → Fm env V ρ s.heap →
    (∀ v s', Stp [] s s' → IsPart v k → Q v s') → wpAny (model prog w) A (valueOrNone (evalOpt e env)) Q E s
theorem po_none : PO prog w h₀ n env V ρ none none := fun _ _ _ _ _ _ _ q => wpAny_pure (q _ _ (.refl _) .none)
theorem po_some {e : Expr} {k : Int} (h : PE prog w h₀ n env V ρ e (.int k)) : PO prog w h₀ n env V ρ (some e) (some k) := by
  intro A s E Q hA hB F q
  refine h A s E Q hA hB F fun v s' e' r => q v s' e' ?_
  (first | obtain ⟨_, rfl⟩ := r.toInt | obtain ⟨_, rfl⟩ := r.toStr | obtain rfl := r.toNone | obtain rfl := r.toBool | obtain rfl := r.toObj | obtain rfl := r.toTy | obtain rfl := r.toNil | cases r); exact .int _ _

theorem eval_slice {lo up st : Option Expr} {p : Pos} {l u k : Option Int} (hl : PO prog w h₀ n env V ρ lo l) (hu : PO prog w h₀ n env V ρ up u) (hk : PO prog w h₀ n env V ρ st k)
    {A : Around} {s : Shared} {E : Value → Shared → Prop} {Q : Value → Shared → Prop} (hA : AOk n A) (hB : In0 h₀ V s) (F : Fm env V ρ s.heap)
    (q : ∀ a vl vu vk s', Stp [] s s' → s'.heap.IsSliceOf a vl vu vk → IsPart vl l → IsPart vu u → IsPart vk k → Q (.ref a) s') :
    wpAny (model prog w) A (eval (.Slice lo up st p) env) Q E s := by
  rw [arm_eval_Slice]
  refine wpAny_bind (hl A s E _ hA hB F fun v s₁ e₁ r₁ => ?_)
  refine wpAny_bind (wpAny_holding (hu A s₁ E _ hA (hB.stp e₁) (F.ext e₁.toStp0) fun v₂ s₂ e₂ r₂ => ?_))
  refine wpAny_bind (wpAny_holding (hk A s₂ E _ hA ((hB.stp e₁).stp e₂) ((F.ext e₁.toStp0).ext e₂.toStp0) fun v₃ s₃ e₃ r₃ => ?_))
  refine wpAny_newObj_type ?_
  exact q _ v v₂ v₃ _ (((e₁.trans e₂).trans e₃).trans ⟨.push _ _, Nat.le_refl _⟩) (Heap.IsSliceOf.new _ _ _ _) r₁ r₂ r₃

/-- a slice of a list -/
noncomputable def pick {α : Type} (ds : List α) (lo hi st : Option Int) : List α :=
  (sliceRange (sliceBounds lo hi st ds.length).1 (sliceBounds lo hi st ds.length).2.1 (sliceBounds lo hi st ds.length).2.2).filterMap (ds[·]?)
theorem RepL.pickAt {h : Heap} {vs : Array Value} {ds : List D} (r : RepL V h vs.toList ds) : ∀ l : List Nat, RepL V h (l.filterMap (vs[·]?)) (l.filterMap (ds[·]?))
  | [] => .nil
  | i :: l => by
    have ih := r.pickAt l
    cases hd : ds[i]? with
    | none =>
      have : vs[i]? = none := by
        have e := r.toArray
        rw [List.getElem?_eq_none_iff] at hd
        rw [Array.getElem?_eq_none_iff]; omega
      rw [List.filterMap_cons_none this, List.filterMap_cons_none hd]; exact ih
    | some d =>
      obtain ⟨v, hv, rv⟩ := r.get hd
      have : vs[i]? = some v := by simpa using hv
      rw [List.filterMap_cons_some this, List.filterMap_cons_some hd]; exact .cons rv ih

theorem sub_slice {value : Expr} {lo up st : Option Expr} {p pos : Pos} {a : D} {d : D} {T id : String} {l u k : Option Int} (hv : PE prog w h₀ n env V ρ value a)
    (hl : PO prog w h₀ n env V ρ lo l) (hu : PO prog w h₀ n env V ρ up u) (hk : PO prog w h₀ n env V ρ st k) (hT : HasItem a T id)
    (hg : ∀ (A : Around) (s : Shared) (E : Value → Shared → Prop) (Q : Value → Shared → Prop) (v : Value) (sl : Addr) (vl vu vk : Value), AOk n A → Old V s.heap → Rep V s.heap v a → s.heap.IsSliceOf sl vl vu vk →
      IsPart vl l → IsPart vu u → IsPart vk k → (∀ x s', Stp0 [] s s' → Rep V s'.heap x d → Q x s') → wpAny (model prog w) A (getItem v (.ref sl)) Q E s)
    (hs : autoParam (∀ o i, ∃ ops, subscripted (.Slice lo up st p) false o i = operate ops (getItem o i)) tacPairUnf) :
    PE prog w h₀ n env V ρ (.Subscript value (.Slice lo up st p) pos) d := by
  intro A s E Q hA hB F q
  refine Subscript_ (hv A s E _ hA hB F fun v s₁ e₁ r₁ => eval_slice hl hu hk hA (hB.stp e₁) (F.ext e₁.toStp0) fun sl vl vu vk s₂ e₂ is pl pu pk => ?_)
  have F₂ := (F.ext e₁.toStp0).ext e₂.toStp0
  have r₁' := r₁.stp0 e₂.toStp0
  obtain ⟨ops, ho⟩ := hs v (.ref sl)
  exact wp_stp (fun E' Q' q' => tail_any (hT.type r₁') hT.look (hg A s₂ E' Q' v sl vl vu vk hA F₂.old r₁' is pl pu pk q') ho) fun x s₃ e₃ r₃ => q x s₃ ((e₁.trans e₂).trans e₃) r₃

theorem pe_slice_list {value : Expr} {lo up st : Option Expr} {p pos : Pos} {ds : List D} {l u k : Option Int} (hv : PE prog w h₀ n env V ρ value (.list ds))
    (hl : PO prog w h₀ n env V ρ lo l) (hu : PO prog w h₀ n env V ρ up u) (hk : PO prog w h₀ n env V ρ st k) (h0 : k ≠ some 0) (hsz : ds.length ≤ sizeLine)
    (hs : autoParam (∀ o i, ∃ ops, subscripted (.Slice lo up st p) false o i = operate ops (getItem o i)) tacPairUnf) :
    PE prog w h₀ n env V ρ (.Subscript value (.Slice lo up st p) pos) (.list (pick ds l u k)) := by
  refine sub_slice hv hl hu hk .list (fun A s E Q v sl vl vu vk hA o rv is pl pu pk q => ?_) hs
  obtain ⟨_, _, _, hpl, rl, rfl⟩ := rv.toList
  refine wpAny_getItem_list_slice hpl.isList is pl pu pk h0 (q _ _ (.push _ _) ?_) (by rw [rl.toArray]; exact hsz)
  refine rep_newList o ?_
  have := rl.pickAt (sliceRange (sliceBounds l u k ds.length).1 (sliceBounds l u k ds.length).2.1 (sliceBounds l u k ds.length).2.2)
  rw [← rl.toArray] at this
  unfold pick
  rw [← rl.toArray]
  exact this

theorem pe_slice_str {value : Expr} {lo up : Option Expr} {p pos : Pos} {x : Str} {l u : Option Int} (hv : PE prog w h₀ n env V ρ value (.str x))
    (hl : PO prog w h₀ n env V ρ lo l) (hu : PO prog w h₀ n env V ρ up u) (hsz : x.length ≤ sizeLine)
    (hs : autoParam (∀ o i, ∃ ops, subscripted (.Slice lo up none p) false o i = operate ops (getItem o i)) tacPairUnf) :
    PE prog w h₀ n env V ρ (.Subscript value (.Slice lo up none p) pos) (.str (Txt.slice x l u)) := by
  refine sub_slice hv hl hu po_none .str (fun A s E Q v sl vl vu vk hA o rv is pl pu pk q => ?_) hs
  (first | obtain ⟨_, rfl⟩ := rv.toInt | obtain ⟨_, rfl⟩ := rv.toStr | obtain rfl := rv.toNone | obtain rfl := rv.toBool | obtain rfl := rv.toObj | obtain rfl := rv.toTy | obtain rfl := rv.toNil | cases rv)
  rename_i t
  obtain ⟨ob, ho, hc, hd⟩ := is
  have key : ∀ (l' u' : Option (Int × Tok)), l'.map (·.1) = l → u'.map (·.1) = u → s.heap.IsSlice sl l' u' none → wpAny (model prog w) A (getItem (.str x t) (.ref sl)) Q E s := by
    intro l' u' el eu hsl
    refine wpAny_getItem_str_slice hsl rfl ?_
    have hq : ∀ t' k, Q (.str (Txt.slice x l u) t') { s with toks := k } := fun t' k => q _ _ (.toks _ _) (.str _ _)
    have hz := PyProof.Txt.length_slice_le x l u
    unfold sliceMade slicePicked
    rw [el, eu]
    unfold Txt.slice at hq hz
    simp only [Option.map_none, Option.getD_none]
    split
    · rename_i hc'
      rw [if_pos hc'] at hq
      exact hq _ s.toks
    · rename_i hc'
      rw [if_neg hc'] at hq hz
      exact ⟨Nat.le_trans hz hsz, hq _ _⟩
  cases pk
  cases pl with
  | none => cases pu with
    | none => exact key none none rfl rfl ⟨ob, ho, hc, hd⟩
    | int j tj => exact key none (some (j, tj)) rfl rfl ⟨ob, ho, hc, hd⟩
  | int i ti => cases pu with
    | none => exact key (some (i, ti)) none rfl rfl ⟨ob, ho, hc, hd⟩
    | int j tj => exact key (some (i, ti)) (some (j, tj)) rfl rfl ⟨ob, ho, hc, hd⟩
end
end Mine
end

section
open PySem PySem.Calls PySem.W PyProof.Rows
set_option Elab.async false
namespace Mine
section
variable {prog : Program} {w : World} {h₀ : Heap} {n : Nat} {env : Env} {V : List Addr} {ρ : List (Str × D)}

theorem ns_unique {h : Heap} {a : Addr} {m m' : Str → Option Value} (x : h.Ns a m) (y : h.Ns a m') (k : Str) : m k = m' k := by
  obtain ⟨o, es, ep, ho, hd, _, hm⟩ := x
  obtain ⟨o', es', ep', ho', hd', _, hm'⟩ := y
  rw [ho] at ho'; cases ho'
  rw [hd] at hd'; cases hd'
  rw [← hm, ← hm']

/-- writing within V leaves the data -/
theorem Rep.write {W : List Addr} {h h' : Heap} {v d} (hW : ∀ a ∈ W, a ∈ V) (x : ExtB W h h') (r : Rep V h v d) : Rep V h' v d := r.ext hW x

/-- what may be written: the frame's own -/
noncomputable def Own (env : Env) (a : Addr) : Prop := a = env.locals ∨ ∃ y, env.cells.lookup y = some a

/-- what the store of a name writes -/
noncomputable def wAddr (env : Env) (x : Str) : List Addr := if env.kindOf x = some .local then [env.locals] else (env.cells.lookup x).toList

/-- a name is stored -/
theorem fm_store {x : Str} {v : Value} {d : D} {A : Around} {s : Shared} {E : Value → Shared → Prop} {Q : Unit → Shared → Prop} (F : Fm env V ρ s.heap) (r : Rep V s.heap v d)
    (hk : env.kindOf x = some .local ∨ (env.kindOf x = some .cell ∧ (env.cells.lookup x).isSome = true))
    (q : ∀ s', Stp0 V s s' → Fm env V ((x, d) :: ρ) s'.heap → (∀ a o, a ∉ wAddr env x → s.heap.get? a = some o → s'.heap.get? a = some o) → Q () s') : wpAny (model prog w) A (storeName env x v) Q E s := by
  have ok := F.ok
  rcases hk with hk | ⟨hk, hc⟩
  · obtain ⟨m, hm⟩ := F.ns
    refine wpAny_storeName_local hk hm (fun h' hn hs => ?_) (by rw [ok.kind]; rfl)
    have ext : ExtB [env.locals] s.heap h' := fun b o hb e => hs.extBut b o (by simpa using hb) e
    have hW : ∀ a ∈ [env.locals], a ∈ V := fun a ha => by rw [List.mem_singleton.mp ha]; exact F.vloc
    refine q _ ⟨rfl, rfl, fun b o hb e => ext b o (fun q => hb (hW b q)) e⟩ ?_ fun a o ha e => ext a o (fun hm => ha (by unfold wAddr; rw [if_pos hk]; exact hm)) e
    refine ⟨fun y dy hy => ?_, ⟨_, hn⟩, fun y c hy => ?_, F.vloc, F.vcell, fun a ha => ?_, ok⟩
    · by_cases e : y = x
      · subst e
        rw [List.lookup_cons_self] at hy; cases hy
        exact ⟨v, .loc hk hn (by simp), r.write hW ext⟩
      · have hb : (y == x) = false := by simpa using e
        rw [List.lookup_cons, hb] at hy
        obtain ⟨u, hu, ru⟩ := F.names y dy hy
        refine ⟨u, ?_, ru.write hW ext⟩
        cases hu with
        | loc a b c => exact .loc a hn (by rw [if_neg e, ns_unique hm b]; exact c)
        | cell a b c => exact .cell a b (c.sameBut hs (ok.away _ _ b))
        | free a b c => exact .free a b (c.sameBut hs (ok.away _ _ b))
    · obtain ⟨u, hu⟩ := F.cells y c hy
      exact ⟨u, hu.sameBut hs (ok.away _ _ hy)⟩
    · obtain ⟨o, ho⟩ := F.old a ha
      by_cases e : a = env.locals
      · subst e; obtain ⟨o', _, _, ho', _⟩ := hn; exact ⟨o', ho'⟩
      · exact ⟨o, ext a o (by simpa using e) ho⟩
  · obtain ⟨c, hc⟩ := Option.isSome_iff_exists.mp hc
    obtain ⟨u₀, hu₀⟩ := F.cells x c hc
    refine wpAny_storeName_cell ok.kind hk hc hu₀ fun h' hn hs => ?_
    have ext : ExtB [c] s.heap h' := fun b o hb e => hs.extBut b o (by simpa using hb) e
    have hW : ∀ a ∈ [c], a ∈ V := fun a ha => by rw [List.mem_singleton.mp ha]; exact F.vcell x c hc
    refine q _ ⟨rfl, rfl, fun b o hb e => ext b o (fun q => hb (hW b q)) e⟩ ?_ fun a o ha e => ext a o (fun hm => ha (by unfold wAddr; rw [if_neg (by rw [hk]; decide), hc]; exact hm)) e
    obtain ⟨m, hm⟩ := F.ns
    refine ⟨fun y dy hy => ?_, ⟨m, hm.sameBut hs (Ne.symm (ok.away _ _ hc))⟩, fun y c' hy => ?_, F.vloc, F.vcell, fun a ha => ?_, ok⟩
    · by_cases e : y = x
      · subst e
        rw [List.lookup_cons_self] at hy; cases hy
        exact ⟨v, .cell hk hc hn, r.write hW ext⟩
      · have hb : (y == x) = false := by simpa using e
        rw [List.lookup_cons, hb] at hy
        obtain ⟨u, hu, ru⟩ := F.names y dy hy
        refine ⟨u, ?_, ru.write hW ext⟩
        cases hu with
        | loc a b c => exact .loc a (b.sameBut hs (Ne.symm (ok.away _ _ hc))) c
        | cell a b c' => exact .cell a b (c'.sameBut hs fun q => e (ok.apart _ _ _ b (q ▸ hc)))
        | free a b c' => exact .free a b (c'.sameBut hs fun q => e (ok.apart _ _ _ b (q ▸ hc)))
    · by_cases e : c' = c
      · subst e; exact ⟨_, hn⟩
      · obtain ⟨u, hu⟩ := F.cells y c' hy
        exact ⟨u, hu.sameBut hs e⟩
    · obtain ⟨o, ho⟩ := F.old a ha
      by_cases e : a = c
      · subst e; obtain ⟨o', ho', _⟩ := hn; exact ⟨o', ho'⟩
      · exact ⟨o, ext a o (by simpa using e) ho⟩

/-- an iterator over data: at I, over ds, that none but itself writes -/
structure Wk (prog : Program) (w : World) (A : Around) (V : List Addr) (I : Addr) (ds : List D) (St : Nat → Heap → Prop) : Prop where
  item : ∀ i (s : Shared) (Q : Option Value → Shared → Prop) (E : Value → Shared → Prop) (d : D), ds[i]? = some d → St i s.heap →
    (∀ v s', Rep V s'.heap v d → St (i + 1) s'.heap → Stp0 [I] s s' → Q (some v) s') → wpAny (model prog w) A (pyNext (.ref I)) Q E s
  done : ∀ (s : Shared) (Q : Option Value → Shared → Prop) (E : Value → Shared → Prop), St ds.length s.heap →
    (∀ s', Stp0 [I] s s' → Q none s') → wpAny (model prog w) A (pyNext (.ref I)) Q E s
  self : ∀ i (s : Shared) (Q : Value → Shared → Prop) (E : Value → Shared → Prop), St i s.heap → Q (.ref I) s → wpAny (model prog w) A (pyIter (.ref I)) Q E s
  frame : ∀ i h h', St i h → ExtB V h h' → (∀ o, h.get? I = some o → h'.get? I = some o) → St i h'
  cls : ∀ i h, St i h → ∃ o T, h.get? I = some o ∧ o.cls = .type T ∧ T ∈ ["list_iterator", "tuple_iterator", "range_iterator", "set_iterator"]

theorem wk_list {A : Around} {I ax : Addr} {items : Array Value} {ds : List D} (hh : A.handled = none) (hI : I ∈ V) (hax : ax ∉ V) :
    Wk prog w A V I ds (fun i h => h.IsListIter I ax i ∧ h.PlainList ax items ∧ RepL V h items.toList ds) where
  item := fun i s Q E d hd st q => by
    obtain ⟨v, hv, rv⟩ := st.2.2.get hd
    refine wpAny_pyNext_list_item st.1 st.2.1.isList (x := v) (by simpa using hv) fun h' hit' hs' => ?_
    have ext : ExtB [I] s.heap h' := fun b o hb e => hs'.extBut b o (by simpa using hb) e
    have hW : ∀ a ∈ [I], a ∈ V := fun a ha => by rw [List.mem_singleton.mp ha]; exact hI
    exact q v _ (rv.ext hW ext) ⟨hit', st.2.1.extBut hs'.extBut (fun q => hax (q ▸ hI)), st.2.2.ext hW ext⟩ ⟨rfl, rfl, ext⟩
  done := fun s Q E st q => by
    refine wpAny_pyNext_list_end hh st.1 st.2.1.isList (by simp [st.2.2.toArray]) fun h' he' => ?_
    exact q _ ⟨rfl, rfl, fun b o hb e => he' b o (by simpa using hb) e⟩
  self := fun _ _ _ _ st q => wpAny_pyIter_listiter st.1 q
  frame := fun _ _ _ st ext hk => ⟨st.1.at hk, st.2.1.at fun o e => ext ax o hax e, st.2.2.ext (fun _ h => h) ext⟩
  cls := fun _ _ st => let ⟨o, e, c, _⟩ := st.1; ⟨o, _, e, c, by simp⟩
/-- a, a + 1 .. b - 1 -/
noncomputable def rangeZ (a b : Int) : List Int := (List.range (b - a).toNat).map fun (i : Nat) => a + (i : Int)
theorem rangeZ_get {a b : Int} {i : Nat} {d : D} (h : (dInts (rangeZ a b))[i]? = some d) : i < (b - a).toNat ∧ d = .int (a + i) := by
  unfold rangeZ dInts at h
  simp only [List.map_map, List.getElem?_map, Option.map_eq_some_iff] at h
  obtain ⟨j, hj, rfl⟩ := h
  have hj' := List.getElem?_eq_some_iff.mp hj
  obtain ⟨h1, h2⟩ := hj'
  rw [List.length_range] at h1
  rw [List.getElem_range] at h2
  subst h2
  exact ⟨h1, rfl⟩
theorem wk_range {A : Around} {I : Addr} {a b : Int} (hh : A.handled = none) :
    Wk prog w A V I (dInts (rangeZ a b)) (fun i h => IsRangeIter h I (a + (i : Nat) * 1) (((b - a).toNat : Int) - (i : Nat)) 1) where
  item := fun i s Q E d hd st q => by
    obtain ⟨hi, rfl⟩ := rangeZ_get hd
    refine (Walks.range hh I a 1 (b - a).toNat).item i s Q E hi st fun v h' tk hv hst hk => ?_
    obtain ⟨t, rfl⟩ := hv
    rw [Int.mul_one]
    exact q _ _ (.int _ _) hst ⟨rfl, rfl, hk⟩
  done := fun s Q E st q => by
    have hl : (dInts (rangeZ a b)).length = (b - a).toNat := by simp [rangeZ]
    rw [hl] at st
    exact (Walks.range hh I a 1 (b - a).toNat).done s Q E st fun h' tk hk => q _ ⟨rfl, rfl, hk⟩
  self := fun i s Q E st q => (Walks.range hh I a 1 (b - a).toNat).self i s Q E st q
  frame := fun _ _ _ st _ hk => hk _ st
  cls := fun _ _ st => ⟨_, _, st, rfl, by simp⟩

/-- an expression that is gone through -/
noncomputable def IT (prog : Program) (w : World) (h₀ : Heap) (n : Nat) (env : Env) (V : List Addr) (ρ : List (Str × D)) (e : Expr) (ds : List D) : Prop :=
  ∀ (A : Around) (s : Shared) (E : Value → Shared → Prop) (R : Value → Shared → Prop), AOk n A → In0 h₀ V s → Fm env V ρ s.heap →
    (∀ I s', Stp [] s s' → s.heap.get? I = none → (∃ o, s'.heap.get? I = some o) → (∀ U, (∀ a ∈ U, s'.heap.get? a = none) → ∃ St, Wk prog w A (U ++ I :: V) I ds St ∧ St 0 s'.heap) → R (.ref I) s') →
    wpAny (model prog w) A (eval e env) (fun x s₁ => wpAny (model prog w) A (pyIter x) R E s₁) E s

theorem repL_cons {h : Heap} {v : List Value} {d : List D} {I : Addr} (hI : h.get? I = none) (r : RepL V h v d) : RepL (I :: V) h v d :=
  r.shun fun a o ha ho hm => by
    rcases List.mem_cons.mp hm with rfl | hm
    · rw [hI] at ho; cases ho
    · exact ha hm
theorem none_of_ext {h h' : Heap} {a : Addr} (e : Ext h h') (hn : h'.get? a = none) : h.get? a = none := by
  cases q : h.get? a with
  | none => rfl
  | some o => rw [e a o q] at hn; cases hn

theorem it_list {e : Expr} {ds : List D} (he : PE prog w h₀ n env V ρ e (.list ds)) : IT prog w h₀ n env V ρ e ds := by
  intro A s E R hA hB F q
  refine he A s E _ hA hB F fun v s₁ e₁ r₁ => ?_
  obtain ⟨a, vs, ha, hl, rl, rfl⟩ := r₁.toList
  refine wpAny_pyIter_list hl.isList ?_
  have hf := fresh_none s₁.heap
  have st : Stp0 [] s₁ { s₁ with heap := s₁.heap.push { cls := .type "list_iterator", data := .fields #[.ref a, .int 0 0] } } := .push _ _
  obtain ⟨k, hk⟩ := hl
  refine q s₁.heap.objs.size _ (e₁.trans ⟨st, Nat.le_refl _⟩) (none_of_ext e₁.keep hf) ⟨_, Heap.get?_push_size _ rfl⟩ fun U hU => ?_
  have hU' : ∀ b ∈ U, s₁.heap.get? b = none := fun b hb => none_of_ext st.keep (hU b hb)
  refine ⟨_, wk_list (ax := a) (items := vs) hA.handled (List.mem_append_right _ (.head _)) ?_, ⟨_, Heap.get?_push_size _ rfl, rfl, rfl⟩, ⟨k, Heap.get?_push_of_some _ hk⟩, (RepL.shun (fun b o hb ho hm => ?_) rl).stp0 st⟩
  · intro hm
    rcases List.mem_append.mp hm with hm | hm
    · rw [hU' _ hm] at hk; cases hk
    · rcases List.mem_cons.mp hm with rfl | hm
      · rw [hf] at hk; cases hk
      · exact ha hm
  · rcases List.mem_append.mp hm with hm | hm
    · rw [hU' _ hm] at ho; cases ho
    · rcases List.mem_cons.mp hm with rfl | hm
      · rw [hf] at ho; cases ho
      · exact hb hm
/-- a global name's value -/
structure GV (h₀ : Heap) (x : Str) (v : Value) : Prop where
  load : ∀ (M : Model) (A : Around) (E : Value → Shared → Prop) (Q : Value → Shared → Prop) (s : Shared) (env : Env) (V : List Addr), EnvOk env → In0 h₀ V s → Q v s → wpAny M A (loadGlobal env x) Q E s
theorem gv_global {mg mb : Str → Option Value} {x : Str} {v : Value} (B : Bs h₀ mg mb) (hx : mg x = some v) : GV h₀ x v where
  load := fun _ _ _ _ s env _ ok hs q => loadGlobal_global (mg := mg) (by rw [ok.globals]; exact B.g.keeps hs.ext) hx q
theorem gv_builtin {mg mb : Str → Option Value} {x : Str} {v : Value} (B : Bs h₀ mg mb) (hx : mg x = none) (hv : bootBuiltins x = some v) (hn : x ≠ "__name__") : GV h₀ x v where
  load := fun _ _ _ _ s env _ ok hs q => loadGlobal_builtin (mg := mg) (mb := mb) (by rw [ok.globals]; exact B.g.keeps hs.ext) hx (by rw [ok.builtins]; exact B.b.keeps hs.ext) ((B.builtins x hn).trans hv) q

/-- a data global -/
theorem pe_global {x : Str} {pos : Pos} {v : Value} {d : D} (g : GV h₀ x v) (hr : ∀ h, Rep V h v d) (hk : autoParam (env.kindOf x = some .globalImplicit) tacRfl) (hd : autoParam ((x == ("__debug__" : Str)) = false) tacDecide) : PE prog w h₀ n env V ρ (.Name x pos) d :=
  fun _ s _ _ _ hB F q => Name_function_global F.ok.kind hk (g.load _ _ _ _ s _ _ F.ok hB (q _ _ (.refl _) (hr _))) hd

/-- the keeper of a callee is told by the base -/
structure Kp (h₀ : Heap) (f : Value) : Prop where
  look : ∃ k, ∀ (M : Model) (A : Around) (E : Value → Shared → Prop) (Q : Keeper → Shared → Prop) (s : Shared) (V : List Addr), In0 h₀ V s → Q k s → wpAny M A (keeperOf f) Q E s
theorem kp_builtin {id : String} : Kp h₀ (.builtin id) := ⟨⟨.machine, fun _ _ _ _ _ _ _ q => wpAny_pure q⟩⟩
theorem kp_type {T : String} : Kp h₀ (.type T) := ⟨⟨.machine, fun _ _ _ _ _ _ _ q => wpAny_pure q⟩⟩
theorem kp_func {a : Addr} {o : Obj} {fd : FuncData} (ho : h₀.get? a = some o) (hd : o.data = .func fd) : Kp h₀ (.ref a) := by
  refine ⟨⟨.frame, fun M A E Q s _ hs q => ?_⟩⟩
  unfold keeperOf
  refine wpAny_bind (wpAny_load (hs.ext _ _ ho) ?_)
  rw [hd]; exact wpAny_pure q

theorem callWith_go {pos : Pos} {f : Value} {first : List Value} {trees : List (Bool × Sem Value)} {A : Around} {s : Shared} {E : Value → Shared → Prop} {Q : Value → Shared → Prop} (kp : Kp h₀ f)
    (hns : trees.any (·.1) = false)
    (h : wpAny (model prog w) A (evalArgs f true trees []) (fun a s₁ => In0 h₀ V s₁ ∧ wpAny (model prog w) A (call f (first ++ a.pos) a.kw) Q E s₁) E s) : wpAny (model prog w) A (callWith pos f first trees []) Q E s := by
  obtain ⟨k, hk⟩ := kp.look
  unfold callWith
  refine wpAny_bind (wpAny_holding (wpAny_mono h (fun a s₁ h₁ => wpAny_bind (wpAny_standAt ?_)) fun _ _ x => x))
  simp only [hns, List.any_nil, Bool.or_false]
  have fin : wpAny (model prog w) A (call f (first ++ a.pos) a.kw) (fun r s₂ => wpAny (model prog w) A (do holding [r] point; pure r) Q E s₂) E s₁ :=
    wpAny_mono h₁.2 (fun r s₂ hr => wpAny_bind (wpAny_holding (wpAny_point (wpAny_pure hr)))) fun _ _ x => x
  refine wpAny_bind (hk _ _ _ _ s₁ _ h₁.1 ?_)
  cases k with
  | frame =>
    dsimp only
    split
    · exact wpAny_bind fin
    · exact wpAny_bind (wpAny_keep fin)
  | boundFrame =>
    dsimp only
    split
    · exact wpAny_bind fin
    · exact wpAny_bind (wpAny_keep fin)
  | machine => exact wpAny_bind fin
  | caller => exact wpAny_bind (wpAny_operating fin)

theorem starEach_length (env : Env) : ∀ es : List Expr, (starEach es env).length = es.length
  | [] => rfl
  | e :: es => by
    have ih := starEach_length env es
    cases e <;> exact congrArg Nat.succ ih

theorem evalArgs_pes {args : List Expr} {pos : Pos} {f : Value} {ds : List D} (hargs : PEs prog w h₀ n env V ρ pos args ds) (hds : args = [] → ds = []) (hns : (backTo pos (starEach args env)).any (·.1) = false)
    {A : Around} {s : Shared} {E : Value → Shared → Prop} {Q : Args → Shared → Prop} (hA : AOk n A) (hB : In0 h₀ V s) (F : Fm env V ρ s.heap)
    (q : ∀ vs s', Stp [] s s' → RepL V s'.heap vs ds → Q ⟨vs, []⟩ s') : wpAny (model prog w) A (evalArgs f true (backTo pos (starEach args env)) []) Q E s := by
  cases args with
  | nil =>
    rw [hds rfl] at q
    exact PyProof.Rows.evalArgs_none (q [] s (.refl _) .nil)
  | cons e es =>
    have h := hargs A s E (fun vs s' => Q ⟨vs, []⟩ s') hA hB F q
    cases hb : backTo pos (starEach (e :: es) env) with
    | nil =>
      have : (backTo pos (starEach (e :: es) env)).length = (starEach (e :: es) env).length := by unfold backTo; rw [List.length_map]
      rw [hb] at this
      have h2 : (starEach (e :: es) env).length = es.length + 1 := starEach_length _ _
      rw [h2] at this; cases this
    | cons x rest =>
      obtain ⟨st, t⟩ := x
      rw [hb] at h hns
      simp only [List.any_cons, Bool.or_eq_false_iff] at hns
      obtain ⟨rfl, _⟩ := hns
      exact evalArgs_plain h

/-- a call of a global name -/
theorem pe_call {f : Str} {fp pos : Pos} {args : List Expr} {v : Value} {ds : List D} {d : D} (g : GV h₀ f v) (kp : Kp h₀ v) (hargs : PEs prog w h₀ n env V ρ pos args ds)
    (hc : CL prog w h₀ n V v ds d) (hds : autoParam (args = [] → ds = []) tacSimp) (hns : autoParam ((backTo pos (starEach args env)).any (·.1) = false) tacRfl)
    (hk : autoParam (env.kindOf f = some .globalImplicit) tacRfl) (hd : autoParam ((f == ("__debug__" : Str)) = false) tacDecide) : PE prog w h₀ n env V ρ (.Call (.Name f fp) args [] pos) d := by
  intro A s E Q hA hB F q
  refine wpAny_Call_NameR (Name_function_global F.ok.kind hk (g.load _ _ _ _ s _ _ F.ok hB ?_) hd)
  refine callWith_go kp hns (evalArgs_pes hargs hds hns hA hB F fun vs s₁ e₁ r₁ => ⟨hB.stp e₁, ?_⟩)
  exact wp_stp (fun E' Q' q' => hc A s₁ E' Q' vs hA (hB.stp e₁) (F.ext e₁.toStp0).old r₁ q') fun x s₂ e₂ r₂ => q x s₂ (e₁.trans e₂) r₂

/-- a range that is gone through -/
theorem it_range_go {A : Around} {s s₁ : Shared} {E : Value → Shared → Prop} {R : Value → Shared → Prop} {a b : Int} {t u v : Tok} {tk : Nat} (hA : AOk n A) (ha : -(2 ^ 62) ≤ a) (ha' : a < 2 ^ 62) (hb : -(2 ^ 62) ≤ b) (hb' : b < 2 ^ 62)
    (e₁ : Stp [] s s₁) (htk : s₁.toks ≤ tk)
    (q : ∀ I s', Stp [] s s' → s.heap.get? I = none → (∃ o, s'.heap.get? I = some o) → (∀ U, (∀ a ∈ U, s'.heap.get? a = none) → ∃ St, Wk prog w A (U ++ I :: V) I (dInts (rangeZ a b)) St ∧ St 0 s'.heap) → R (.ref I) s') :
    wpAny (model prog w) A (pyIter (.ref s₁.heap.objs.size)) R E { s₁ with heap := s₁.heap.push { cls := .type "range", data := .fields #[.int a t, .int b u, .int 1 v] }, toks := tk } := by
  refine wpAny_pyIter_range (IsRange.new ..) (small_one ha ha' hb hb') ?_
  have st : Stp [] s₁ { s₁ with heap := (s₁.heap.push { cls := .type "range", data := .fields #[.int a t, .int b u, .int 1 v] }).push { cls := .type "range_iterator", data := .fields #[rawInt a, rawInt (Builtin.Range.rangeSize a b 1), rawInt 1] }, toks := tk } :=
    ⟨.heap fun _ _ e => Heap.get?_push_of_some _ (Heap.get?_push_of_some _ e), htk⟩
  refine q (s₁.heap.push { cls := .type "range", data := .fields #[.int a t, .int b u, .int 1 v] }).objs.size _ (e₁.trans st) ?_ ⟨_, Heap.get?_push_size _ rfl⟩ fun U hU => ⟨_, wk_range hA.handled, ?_⟩
  · exact none_of_ext e₁.keep (none_of_ext (fun _ _ e => Heap.get?_push_of_some _ e) (fresh_none _))
  · have e1 : (a + ((0 : Nat) : Int) * 1) = a := by simp
    have hsz : Builtin.Range.rangeSize a b 1 = ((b - a).toNat : Int) := by rw [rangeSize_one]; split <;> omega
    have e2 : (((b - a).toNat : Int) - ((0 : Nat) : Int)) = Builtin.Range.rangeSize a b 1 := by rw [hsz]; simp
    show IsRangeIter _ _ (a + ((0 : Nat) : Int) * 1) (((b - a).toNat : Int) - ((0 : Nat) : Int)) 1
    rw [e1, e2]
    exact Heap.get?_push_size _ rfl

theorem it_range1 {fp pos : Pos} {e : Expr} {k : Int} (g : GV h₀ "range" (.type "range")) (he : PE prog w h₀ n env V ρ e (.int k)) (hk : k < 2 ^ 62) (hk' : -(2 ^ 62) ≤ k)
    (hkr : autoParam (env.kindOf "range" = some .globalImplicit) tacRfl) (hst : autoParam (starEach [e] env = [(false, eval e env)]) tacRfl) : IT prog w h₀ n env V ρ (.Call (.Name "range" fp) [e] [] pos) (dInts (rangeZ 0 k)) := by
  intro A s E R hA hB F q
  have hns : (backTo pos (starEach [e] env)).any (·.1) = false := by rw [hst]; rfl
  refine wpAny_Call_NameR (Name_function_global F.ok.kind hkr (g.load _ _ _ _ s _ _ F.ok hB ?_) (by decide))
  refine callWith_go kp_type hns (evalArgs_pes (pes_cons he pes_nil hst) (fun h => nomatch h) hns hA hB F fun vs s₁ e₁ r₁ => ⟨hB.stp e₁, ?_⟩)
  obtain ⟨_, _, rv, rs, rfl⟩ := r₁.toCons
  (first | obtain ⟨_, rfl⟩ := rs.toInt | obtain ⟨_, rfl⟩ := rs.toStr | obtain rfl := rs.toNone | obtain rfl := rs.toBool | obtain rfl := rs.toObj | obtain rfl := rs.toTy | obtain rfl := rs.toNil | cases rs); (first | obtain ⟨_, rfl⟩ := rv.toInt | obtain ⟨_, rfl⟩ := rv.toStr | obtain rfl := rv.toNone | obtain rfl := rv.toBool | obtain rfl := rv.toObj | obtain rfl := rv.toTy | obtain rfl := rv.toNil | cases rv)
  exact call_range_1 (it_range_go hA (by decide) (by decide) hk' hk e₁ (by omega) q)
theorem it_range2 {fp pos : Pos} {e f : Expr} {j k : Int} (g : GV h₀ "range" (.type "range")) (he : PE prog w h₀ n env V ρ e (.int j)) (hf : PE prog w h₀ n env V ρ f (.int k)) (hj : j < 2 ^ 62) (hj' : -(2 ^ 62) ≤ j) (hk : k < 2 ^ 62) (hk' : -(2 ^ 62) ≤ k)
    (hst : autoParam (starEach [e, f] env = (false, eval e env) :: starEach [f] env) tacRfl) (hst' : autoParam (starEach [f] env = [(false, eval f env)]) tacRfl) (hkr : autoParam (env.kindOf "range" = some .globalImplicit) tacRfl) : IT prog w h₀ n env V ρ (.Call (.Name "range" fp) [e, f] [] pos) (dInts (rangeZ j k)) := by
  intro A s E R hA hB F q
  have hns : (backTo pos (starEach [e, f] env)).any (·.1) = false := by rw [hst, hst']; rfl
  refine wpAny_Call_NameR (Name_function_global F.ok.kind hkr (g.load _ _ _ _ s _ _ F.ok hB ?_) (by decide))
  refine callWith_go kp_type hns (evalArgs_pes (pes_cons he (pes_cons hf pes_nil hst') hst) (fun h => nomatch h) hns hA hB F fun vs s₁ e₁ r₁ => ⟨hB.stp e₁, ?_⟩)
  obtain ⟨_, _, rv, rs, rfl⟩ := r₁.toCons
  obtain ⟨_, _, ru, rs2, rfl⟩ := rs.toCons
  obtain rfl := rs2.toNil; (first | obtain ⟨_, rfl⟩ := rv.toInt | obtain ⟨_, rfl⟩ := rv.toStr | obtain rfl := rv.toNone | obtain rfl := rv.toBool | obtain rfl := rv.toObj | obtain rfl := rv.toTy | obtain rfl := rv.toNil | cases rv); (first | obtain ⟨_, rfl⟩ := ru.toInt | obtain ⟨_, rfl⟩ := ru.toStr | obtain rfl := ru.toNone | obtain rfl := ru.toBool | obtain rfl := ru.toObj | obtain rfl := ru.toTy | obtain rfl := ru.toNil | cases ru)
  exact call_range_2 (it_range_go hA hj' hj hk' hk e₁ (by omega) q)
end
end Mine
end

section
open PySem PySem.Calls PySem.W PyProof.Rows
set_option Elab.async false
namespace Mine
section
variable {prog : Program} {w : World} {h₀ : Heap} {n : Nat} {env : Env} {V : List Addr} {ρ : List (Str × D)}

theorem Fm.names_mono {ρ' : List (Str × D)} {h : Heap} (hn : ∀ x d, ρ'.lookup x = some d → ρ.lookup x = some d) (F : Fm env V ρ h) : Fm env V ρ' h :=
  ⟨fun x d hx => F.names x d (hn x d hx), F.ns, F.cells, F.vloc, F.vcell, F.old, F.ok⟩

/-- writes beside the frame -/
theorem Fm.write {W : List Addr} {h h' : Heap} (F : Fm env V ρ h) (ext : ExtB W h h') (hW : ∀ a ∈ W, a ∈ V) (hl : env.locals ∉ W) (hc : ∀ y c, env.cells.lookup y = some c → c ∉ W)
    (hal : ∀ a ∈ W, ∃ o, h'.get? a = some o) : Fm env V ρ h' where
  names := fun x d hx => by
    obtain ⟨v, hv, r⟩ := F.names x d hx
    refine ⟨v, ?_, r.ext hW ext⟩
    cases hv with
    | loc a b c => exact .loc a (b.at' fun o e => ext _ o hl e) c
    | cell a b c => exact .cell a b (let ⟨o, ho, hd⟩ := c; ⟨o, ext _ o (hc _ _ b) ho, hd⟩)
    | free a b c => exact .free a b (let ⟨o, ho, hd⟩ := c; ⟨o, ext _ o (hc _ _ b) ho, hd⟩)
  ns := let ⟨m, hm⟩ := F.ns; ⟨m, hm.at' fun o e => ext _ o hl e⟩
  cells := fun x c hx => let ⟨v, o, ho, hd⟩ := F.cells x c hx; ⟨v, o, ext _ o (hc _ _ hx) ho, hd⟩
  vloc := F.vloc
  vcell := F.vcell
  old := fun a ha => by
    by_cases hm : a ∈ W
    · exact hal a hm
    · obtain ⟨o, ho⟩ := F.old a ha; exact ⟨o, ext a o hm ho⟩
  ok := F.ok

/-- the tests of a comprehension's clause -/
noncomputable abbrev testsOf (ifs : List Expr) (env : Env) : Sem Bool := forIn ifs true fun c r => if r = true then do let ok ← isTrue c env (eval c env); pure (ForInStep.yield ok) else pure (ForInStep.yield r)

theorem own_tuple_go {A : Around} {s : Shared} {E : Value → Shared → Prop} {Q : Unit → Shared → Prop} {target : Expr} {I : Addr} {ds : List D} {St : Nat → Heap → Prop} {i : Nat} {v : Value}
    (W : Wk prog w A V I ds St) (st : St i s.heap) (q : Q () s) : wpAny (model prog w) A (letOwnedTupleGo target (.ref I) v) Q E s := by
  obtain ⟨o, T, ho, hc, hT⟩ := W.cls i _ st
  have key : ∀ t : List Expr, wpAny (model prog w) A (do
      let (.ref r, .ref a) := (Value.ref I, v) | return
      let o ← load r
      match o.cls, o.data with
      | .type n, .fields vs =>
        if ["enumerate", "zip", "dict_itemiterator", "dict_reverseitemiterator", "odict_iterator", "itertools.zip_longest", "itertools.pairwise"].contains n && vs[0]? == some (rawInt a) then
          rule "for.unpacks-the-owned-tuple"
          updateField r 0 .none
      | _, _ => pure () : Sem Unit) Q E s := fun _ => by
    cases v with
    | ref a =>
      refine wpAny_bind (wpAny_load ho ?_)
      rw [hc]
      have hno : (["enumerate", "zip", "dict_itemiterator", "dict_reverseitemiterator", "odict_iterator", "itertools.zip_longest", "itertools.pairwise"].contains T) = false := by
        simp only [List.mem_cons, List.not_mem_nil, or_false] at hT
        rcases hT with rfl | rfl | rfl | rfl <;> decide
      cases hd : o.data <;> first
        | (simp only [hno, Bool.false_and, Bool.false_eq_true, if_false]; exact wpAny_pure q)
        | exact wpAny_pure q
    | _ => exact wpAny_pure q
  unfold letOwnedTupleGo
  cases target <;> first | exact wpAny_pure q | exact key []

theorem compTurn1 (elt target iter : Expr) (ifs : List Expr) (scope : Scope) (pos : Pos) (it acc : Value) (env : Env) :
    compTurn (.ListComp elt [⟨target, iter, ifs, 0⟩] scope pos) 0 it acc env = (do
      standAt iter.pos
      match ← pyNext it with
      | none => pure (.done .next)
      | some v =>
        letOwnedTupleGo target it v
        assign target env v
        let ok ← testsOf ifs env
        if ok then
          (do let _ ← call (.builtin "list.append") [acc, ← eval elt env])
        again (.compLoop (.ListComp elt [⟨target, iter, ifs, 0⟩] scope pos) 0 it acc env)) := by rfl
theorem compTurn2 (elt target iter : Expr) (ifs : List Expr) (g0 : Comprehension) (scope : Scope) (pos : Pos) (it acc : Value) (env : Env) :
    compTurn (.ListComp elt [g0, ⟨target, iter, ifs, 0⟩] scope pos) 1 it acc env = (do
      standAt iter.pos
      match ← pyNext it with
      | none => pure (.done .next)
      | some v =>
        letOwnedTupleGo target it v
        assign target env v
        let ok ← testsOf ifs env
        if ok then
          (do let _ ← call (.builtin "list.append") [acc, ← eval elt env])
        again (.compLoop (.ListComp elt [g0, ⟨target, iter, ifs, 0⟩] scope pos) 1 it acc env)) := by rfl

/-- the last clause's turn: by an invariant -/
theorem compLoop_any {A : Around} {s : Shared} {R : Result → Shared → Prop} {e : Expr} {k : Nat} {elt target iter : Expr} {ifs : List Expr} {it acc : Value} {cenv : Env} (J : Nat → Shared → Prop)
    (hturn : compTurn e k it acc cenv = (do
      standAt iter.pos
      match ← pyNext it with
      | none => pure (.done .next)
      | some v =>
        letOwnedTupleGo target it v
        assign target cenv v
        let ok ← testsOf ifs cenv
        if ok then
          (do let _ ← call (.builtin "list.append") [acc, ← eval elt cenv])
        again (.compLoop e k it acc cenv)))
    (hfr : (Code.compLoop e k it acc cenv).isFrame = false) (hq : (Code.compLoop e k it acc cenv).quiet = true) (hu : A.under (Code.compLoop e k it acc cenv) = A)
    (turn : ∀ m s (E : Value → Shared → Prop), J m s → wpAny (model prog w) A (pyNext it) (fun r s₁ => match r with
      | none => R (.ok .next) s₁
      | some v => wpAny (model prog w) A (letOwnedTupleGo target it v) (fun _ s₁ => wpAny (model prog w) A (assign target cenv v) (fun _ s₂ =>
          wpAny (model prog w) A (testsOf ifs cenv) (fun ok s₃ =>
            if ok = true then wpAny (model prog w) A (eval elt cenv) (fun x s₄ =>
              wpAny (model prog w) A (call (.builtin "list.append") [acc, x]) (fun _ s₅ => ∃ m', m' < m ∧ J m' s₅) E s₄) E s₃
            else ∃ m', m' < m ∧ J m' s₃) E s₂) E s₁) E s₁) E s)
    (m : Nat) (h : J m s) : codeAny (model prog w) A (.compLoop e k it acc cenv) R s := by
  refine codeAny_loop hq J (fun m s hJ => ?_) m h
  rw [hu]
  show wpAny _ A (if (Code.compLoop e k it acc cenv).isFrame then (compTurn e k it acc cenv).onRaise (leaving cenv) else (compTurn e k it acc cenv).onRaise (fun x => do noteFrame x cenv; theTreesLotGoes x)) _ _ s
  rw [hfr]
  simp only [Bool.false_eq_true, if_false]
  refine wpAny_noted ?_
  rw [hturn]
  refine wpAny_bind (wpAny_standAt (wpAny_bind (wpAny_mono (turn m s _ hJ) (fun r s₁ h₁ => ?_) fun _ _ h' => h')))
  cases r with
  | none => exact wpAny_pure h₁
  | some v =>
    refine wpAny_bind (wpAny_mono h₁ (fun _ s₁ h₁ => wpAny_bind (wpAny_mono h₁ (fun _ s₂ h₂ => wpAny_bind (wpAny_mono h₂ (fun ok s₃ h₃ => ?_) fun _ _ h' => h')) fun _ _ h' => h')) fun _ _ h' => h')
    cases ok with
    | false => exact wpAny_pure ⟨rfl, h₃⟩
    | true =>
      exact wpAny_bind (wpAny_bind (wpAny_mono h₃ (fun x s₄ h₄ => wpAny_bind (wpAny_mono h₄ (fun _ s₅ h₅ => wpAny_pure (wpAny_pure ⟨rfl, h₅⟩)) fun _ _ h' => h')) fun _ _ h' => h'))

/-- the outcome of a comprehension whose elements may hang on what was taken before -/
noncomputable def outs (t : D → Bool) (g : List D → D → D) : List D → List D → List D
  | _, [] => []
  | pre, d :: r => (if t d then [g pre d] else []) ++ outs t g (pre ++ [d]) r
theorem outs_snoc (t : D → Bool) (g : List D → D → D) : ∀ (l pre : List D) (d : D), outs t g pre (l ++ [d]) = outs t g pre l ++ (if t d then [g (pre ++ l) d] else [])
  | [], pre, d => by simp [outs]
  | x :: l, pre, d => by
    show (if t x then [g pre x] else []) ++ outs t g (pre ++ [x]) (l ++ [d]) = _
    rw [outs_snoc t g l (pre ++ [x]) d]
    simp [outs]
theorem outs_pure (t : D → Bool) (f : D → D) : ∀ (l pre : List D), outs t (fun _ => f) pre l = (l.filter t).map f
  | [], _ => rfl
  | x :: l, pre => by
    show (if t x then [f x] else []) ++ outs t (fun _ => f) (pre ++ [x]) l = _
    rw [outs_pure t f l]
    cases h : t x <;> simp [h]
theorem outs_length (t : D → Bool) (g : List D → D → D) : ∀ (l pre : List D), (outs t g pre l).length ≤ l.length
  | [], _ => Nat.le_refl _
  | x :: l, pre => by
    have ih := outs_length t g l (pre ++ [x])
    show ((if t x then [g pre x] else []) ++ outs t g (pre ++ [x]) l).length ≤ _
    cases t x <;> simp <;> omega

/-- the target of a loop takes its datum -/
noncomputable def TA (prog : Program) (w : World) (n : Nat) (env : Env) (target : Expr) (b : D → List (Str × D)) (okD : D → Prop) (Wt : List Addr) : Prop :=
  ∀ (A : Around) (s : Shared) (E : Value → Shared → Prop) (Q : Unit → Shared → Prop) (V : List Addr) (ρ : List (Str × D)) (v : Value) (d : D), okD d → AOk n A → Fm env V ρ s.heap → Rep V s.heap v d →
    (∀ s', Stp0 V s s' → Fm env V (b d ++ ρ) s'.heap → (∀ a o, a ∉ Wt → s.heap.get? a = some o → s'.heap.get? a = some o) → Q () s') → wpAny (model prog w) A (assign target env v) Q E s
theorem ta_name {x : Str} {pos : Pos} (hk : env.kindOf x = some .local ∨ (env.kindOf x = some .cell ∧ (env.cells.lookup x).isSome = true)) : TA prog w n env (.Name x pos) (fun d => [(x, d)]) (fun _ => True) (wAddr env x) :=
  fun _ _ _ _ _ _ _ _ _ _ F r q => wpAny_assign_Name (fm_store F r hk q)

/-- the addresses of a frame's volatile things are none of the base -/
noncomputable abbrev VNew (h₀ : Heap) (V : List Addr) : Prop := ∀ a ∈ V, h₀.get? a = none
theorem In0.write {s s' : Shared} (x : In0 h₀ V s) (ext : ExtB V s.heap s'.heap) (ht : 1 ≤ s'.toks) : In0 h₀ V s' :=
  ⟨fun b o e => ext b o (fun hm => by rw [x.new b hm] at e; cases e) (x.ext b o e), ht, x.new⟩

theorem take_snoc {α : Type} {l : List α} {i : Nat} {d : α} (h : l[i]? = some d) : l.take (i + 1) = l.take i ++ [d] := by
  rw [List.take_add_one, h]; rfl

/-- a clause's loop, by its data -/
theorem comp_data {A : Around} {s : Shared} {R : Result → Shared → Prop} {e : Expr} {k : Nat} {elt target iter : Expr} {ifs : List Expr} {I acc : Addr} {cenv : Env} {ds out0 : List D} {St : Nat → Heap → Prop}
    (hturn : compTurn e k (.ref I) (.ref acc) cenv = (do
      standAt iter.pos
      match ← pyNext (.ref I) with
      | none => pure (.done .next)
      | some v =>
        letOwnedTupleGo target (.ref I) v
        assign target cenv v
        let ok ← testsOf ifs cenv
        if ok then
          (do let _ ← call (.builtin "list.append") [.ref acc, ← eval elt cenv])
        again (.compLoop e k (.ref I) (.ref acc) cenv)))
    (hfr : (Code.compLoop e k (.ref I) (.ref acc) cenv).isFrame = false) (hq : (Code.compLoop e k (.ref I) (.ref acc) cenv).quiet = true) (hu : A.under (Code.compLoop e k (.ref I) (.ref acc) cenv) = A)
    (W : Wk prog w A V I ds St) (hA : AOk n A) {b : D → List (Str × D)} {okD : D → Prop} {Wt : List Addr} (hTA : TA prog w n cenv target b okD Wt) (hokD : ∀ d ∈ ds, okD d)
    (Wr : List Addr) (hWr : ∀ a ∈ Wr, a ∈ V ∧ ¬ Own cenv a ∧ a ≠ I ∧ a ≠ acc) (hIt : I ∉ Wt) (hat : acc ∉ Wt) (hCt : ∀ a ∈ Wt, a ∈ V)
    (hI : I ∈ V) (hIo : ¬ Own cenv I) (hac : acc ∈ V) (haco : ¬ Own cenv acc) (hne : acc ≠ I)
    (P : List D → Shared → Prop) (t : D → Bool) (g : List D → D → D)
    (hdis : ∀ d ∈ ds, ∀ x dx, ρ.lookup x = some dx → (b d).lookup x = none)
    (hP : ∀ pre s s', P pre s → (∀ a o, a ≠ I → a ≠ acc → a ∉ Wt → s.heap.get? a = some o → s'.heap.get? a = some o) → P pre s')
    (htests : ∀ pre d post s (E : Value → Shared → Prop) (Q : Bool → Shared → Prop), ds = pre ++ d :: post → In0 h₀ V s → Fm cenv V (b d ++ ρ) s.heap → P pre s → (∀ s', Stp [] s s' → Q (t d) s') → wpAny (model prog w) A (testsOf ifs cenv) Q E s)
    (helt : ∀ pre d post s (E : Value → Shared → Prop) (Q : Value → Shared → Prop), ds = pre ++ d :: post → t d = true → In0 h₀ V s → Fm cenv V (b d ++ ρ) s.heap → P pre s →
      (∀ x s', Stp Wr s s' → Rep V s'.heap x (g pre d) → Old V s'.heap → P (pre ++ [d]) s' → Q x s') → wpAny (model prog w) A (eval elt cenv) Q E s)
    (hskip : ∀ pre d s, t d = false → P pre s → P (pre ++ [d]) s)
    (h0 : St 0 s.heap) (F : Fm cenv V ρ s.heap) {ys₀ : Array Value} (hl : s.heap.PlainList acc ys₀) (hr : RepL V s.heap ys₀.toList out0) (hp : P [] s) (hB : In0 h₀ V s) (hsz : out0.length + ds.length ≤ sizeLine)
    (fin : ∀ s' ys, Stp0 V s s' → (∀ a o, a ∉ Wr → a ≠ I → a ≠ acc → a ∉ Wt → s.heap.get? a = some o → s'.heap.get? a = some o) → (∃ m, s'.heap.Ns cenv.locals m) → s'.heap.PlainList acc ys → RepL V s'.heap ys.toList (out0 ++ outs t g [] ds) → P ds s' →
      In0 h₀ V s' → (∀ a ∈ V, a ≠ I → ∃ o, s'.heap.get? a = some o) → (∃ s₁, Fm cenv V ρ s₁.heap ∧ Stp0 [I] s₁ s') → R (.ok .next) s') :
    codeAny (model prog w) A (.compLoop e k (.ref I) (.ref acc) cenv) R s := by
  have inI : ∀ a ∈ [I], a ∈ V := fun a ha => by rw [List.mem_singleton.mp ha]; exact hI
  have inA : ∀ a ∈ [acc], a ∈ V := fun a ha => by rw [List.mem_singleton.mp ha]; exact hac
  have ownV : ∀ {ρ' h a}, Fm cenv V ρ' h → Own cenv a → a ∈ V := fun F' ho => by
    rcases ho with rfl | ⟨y, hy⟩
    · exact F'.vloc
    · exact F'.vcell y _ hy
  refine compLoop_any (J := fun m s' => ∃ i ys, m = ds.length + 1 - i ∧ i ≤ ds.length ∧ St i s'.heap ∧ Stp0 V s s' ∧
      (∀ a o, a ∉ Wr → a ≠ I → a ≠ acc → a ∉ Wt → s.heap.get? a = some o → s'.heap.get? a = some o) ∧ Fm cenv V ρ s'.heap ∧ s'.heap.PlainList acc ys ∧ RepL V s'.heap ys.toList (out0 ++ outs t g [] (ds.take i)) ∧ P (ds.take i) s' ∧ In0 h₀ V s')
    hturn hfr hq hu ?_ (ds.length + 1) ⟨0, ys₀, rfl, Nat.zero_le _, h0, ⟨rfl, rfl, fun _ _ _ e => e⟩, fun _ _ _ _ _ _ e => e, F, hl, by simpa [outs] using hr, by simpa using hp, hB⟩
  rintro m s₁ E ⟨i, ys, rfl, hi, st, e01, k01, F₁, hl₁, hr₁, hp₁, hB₁⟩
  cases hd : ds[i]? with
  | none =>
    have hin : i = ds.length := by have := List.getElem?_eq_none_iff.mp hd; omega
    subst hin
    rw [List.take_length] at hr₁ hp₁
    refine wpAny_with_toks hB₁.toks (W.done s₁ _ _ st fun s₂ e12 ht => ?_)
    have kI : ∀ a o, a ≠ I → s₁.heap.get? a = some o → s₂.heap.get? a = some o := fun a o ha e => e12.ext a o (by simpa using ha) e
    have e12V : ExtB V s₁.heap s₂.heap := fun b o hb e => e12.ext b o (fun hm => hb (inI b hm)) e
    have hCI : cenv.locals ≠ I := fun q => hIo (.inl q.symm)
    obtain ⟨mm, hm⟩ := F₁.ns
    refine fin s₂ ys ⟨e12.gens.trans e01.gens, e12.os.trans e01.os, fun b o hb e => e12V b o hb (e01.ext b o hb e)⟩ (fun a o h1 h2 h3 h4 e => kI a o h2 (k01 a o h1 h2 h3 h4 e))
      ⟨mm, hm.at' fun o e => kI _ o hCI e⟩ (hl₁.at fun o e => kI _ o hne e) (hr₁.ext inI e12.ext) ?_ (hB₁.write e12V ht) (fun a ha hn => let ⟨o, ho⟩ := F₁.old a ha; ⟨o, kI a o hn ho⟩) ⟨s₁, F₁, e12⟩
    exact hP _ _ _ hp₁ fun a o h1 _ _ e => kI a o h1 e
  | some d =>
    have hlt : i < ds.length := (List.getElem?_eq_some_iff.mp hd).1
    have hmem : d ∈ ds := List.mem_of_getElem? hd
    have hsplit : ds = ds.take i ++ d :: ds.drop (i + 1) := by
      have h1 := List.take_append_drop i ds
      have h2 : ds.drop i = d :: ds.drop (i + 1) := by
        rw [List.drop_eq_getElem_cons hlt]
        congr 1
        exact (List.getElem?_eq_some_iff.mp hd).2
      rw [h2] at h1; exact h1.symm
    refine wpAny_with_toks hB₁.toks (W.item i s₁ _ _ d hd st fun v s₂ rv st₂ e12 ht₂ => ?_)
    have kI : ∀ a o, a ≠ I → s₁.heap.get? a = some o → s₂.heap.get? a = some o := fun a o ha e => e12.ext a o (by simpa using ha) e
    have e12V : ExtB V s₁.heap s₂.heap := fun b o hb e => e12.ext b o (fun hm => hb (inI b hm)) e
    have aliveI : ∃ o, s₂.heap.get? I = some o := let ⟨o, _, ho, _⟩ := W.cls _ _ st₂; ⟨o, ho⟩
    have F₂ : Fm cenv V ρ s₂.heap := F₁.write e12.ext inI (fun hm => hIo (.inl (List.mem_singleton.mp hm).symm)) (fun y c hc hm => hIo (.inr ⟨y, by rw [← List.mem_singleton.mp hm]; exact hc⟩))
      (fun a ha => by rw [List.mem_singleton.mp ha]; exact aliveI)
    have hB₂ := hB₁.write e12V ht₂
    refine own_tuple_go W st₂ ?_
    refine wpAny_with_toks hB₂.toks (hTA A s₂ _ _ V ρ v d (hokD d hmem) hA F₂ rv fun s₃ e23 F₃ k23 ht₃ => ?_)
    have hB₃ := hB₂.write e23.ext ht₃
    have st₃ : St (i + 1) s₃.heap := W.frame _ _ _ st₂ e23.ext fun o e => k23 I o hIt e
    have hp₃ : P (ds.take i) s₃ := hP _ _ _ hp₁ fun a o h1 h2 h3 e => k23 a o h3 (kI a o h1 e)
    refine htests _ d _ s₃ _ _ hsplit hB₃ F₃ hp₃ fun s₄ e34 => ?_
    have hB₄ := hB₃.stp e34
    have F₄ := F₃.ext e34.toStp0
    have st₄ : St (i + 1) s₄.heap := W.frame _ _ _ st₃ (fun b o _ e => e34.keep b o e) fun o e => e34.keep I o e
    have hp₄ : P (ds.take i) s₄ := hP _ _ _ hp₃ fun a o _ _ _ e => e34.keep a o e
    have hlow : ∀ x dx, ρ.lookup x = some dx → (b d ++ ρ).lookup x = some dx := fun x dx hx => by
      rw [List.lookup_append, hdis d hmem x dx hx]; exact hx
    have k04 : ∀ a o, a ∉ Wr → a ≠ I → a ≠ acc → a ∉ Wt → s.heap.get? a = some o → s₄.heap.get? a = some o := fun a o h1 h2 h3 h4 e => e34.keep a o (k23 a o h4 (kI a o h2 (k01 a o h1 h2 h3 h4 e)))
    have e04 : ExtB V s.heap s₄.heap := fun b o hb e => e34.keep b o (e23.ext b o hb (e12V b o hb (e01.ext b o hb e)))
    have hl₄ : s₄.heap.PlainList acc ys := hl₁.at fun o e => e34.keep _ o (k23 _ o hat (kI _ o hne e))
    have hr₄ : RepL V s₄.heap ys.toList (out0 ++ outs t g [] (ds.take i)) := (((hr₁.ext inI e12.ext).ext (fun _ h => h) e23.ext).stp0 e34.toStp0)
    have g04 : s₄.gens = s.gens := e34.gens.trans (e23.gens.trans (e12.gens.trans e01.gens))
    have o04 : s₄.os = s.os := e34.os.trans (e23.os.trans (e12.os.trans e01.os))
    cases htd : t d with
    | false =>
      simp only [Bool.false_eq_true, if_false]
      refine ⟨ds.length + 1 - (i + 1), by omega, i + 1, ys, rfl, hlt, st₄, ⟨g04, o04, e04⟩, k04, F₄.names_mono hlow, hl₄, ?_, ?_, hB₄⟩
      · rw [take_snoc hd, outs_snoc, htd]; simpa using hr₄
      · rw [take_snoc hd]; exact hskip _ _ _ htd hp₄
    | true =>
      simp only [if_true]
      refine helt _ d _ s₄ _ _ hsplit htd hB₄ F₄ hp₄ fun x s₅ e45 rx old₅ hp₅ => ?_
      have inW : ∀ a ∈ Wr, a ∈ V := fun a ha => (hWr a ha).1
      have e45V : ExtB V s₄.heap s₅.heap := fun b o hb e => e45.ext b o (fun hm => hb (inW b hm)) e
      have hl₅ : s₅.heap.PlainList acc ys := hl₄.at fun o e => e45.ext _ o (fun hm => (hWr _ hm).2.2.2 rfl) e
      have hr₅ := hr₄.ext inW e45.ext
      have st₅ : St (i + 1) s₅.heap := W.frame _ _ _ st₄ e45V fun o e => e45.ext _ o (fun hm => (hWr _ hm).2.2.1 rfl) e
      have F₅ : Fm cenv V (b d ++ ρ) s₅.heap := F₄.write e45.ext inW (fun hm => (hWr _ hm).2.1 (.inl rfl)) (fun y c hc hm => (hWr _ hm).2.1 (.inr ⟨y, hc⟩)) (fun a ha => old₅ a (inW a ha))
      have hB₅ : In0 h₀ V s₅ := hB₄.write e45V (Nat.le_trans hB₄.toks e45.toks)
      have hys : ys.size ≤ sizeLine := by
        have e1 := hr₅.toArray
        have e2 := outs_length t g (ds.take i) []
        have e3 : (ds.take i).length ≤ ds.length := by rw [List.length_take]; omega
        rw [List.length_append] at e1
        omega
      refine wpAny_with_toks hB₅.toks (wpAny_list_append_plain hl₅ (fun h₆ hl₆ hs₆ ht₆ => ?_) hys)
      have ext56 : ExtB [acc] s₅.heap h₆ := fun b o hb e => hs₆.extBut b o (by simpa using hb) e
      have e56V : ExtB V s₅.heap h₆ := fun b o hb e => ext56 b o (fun hm => hb (inA b hm)) e
      have aliveA : ∃ o, h₆.get? acc = some o := let ⟨_, ho⟩ := hl₆; ⟨_, ho⟩
      have F₆ : Fm cenv V (b d ++ ρ) h₆ := F₅.write ext56 inA (fun hm => haco (.inl (List.mem_singleton.mp hm).symm)) (fun y c hc hm => haco (.inr ⟨y, by rw [← List.mem_singleton.mp hm]; exact hc⟩))
        (fun a ha => by rw [List.mem_singleton.mp ha]; exact aliveA)
      refine ⟨ds.length + 1 - (i + 1), by omega, i + 1, ys.push x, rfl, hlt, ?_, ⟨e45.gens.trans g04, e45.os.trans o04, fun b o hb e => e56V b o hb (e45V b o hb (e04 b o hb e))⟩, ?_, F₆.names_mono hlow, hl₆, ?_, ?_, hB₅.write e56V ht₆⟩
      · exact W.frame _ _ _ st₅ e56V fun o e => ext56 I o (by simpa using Ne.symm hne) e
      · exact fun a o h1 h2 h3 h4 e => ext56 a o (by simpa using h3) (e45.ext a o h1 (k04 a o h1 h2 h3 h4 e))
      · rw [take_snoc hd, outs_snoc, htd]
        have := (hr₅.append (.cons rx .nil)).ext inA ext56
        simpa [List.append_assoc] using this
      · rw [take_snoc hd]
        exact hP _ _ _ hp₅ fun a o _ h2 _ e => ext56 a o (by simpa using h2) e
end
end Mine
end

section
open PySem PySem.Calls PySem.W PyProof.Rows
set_option Elab.async false
namespace Mine

/-- the cells that a comprehension takes over -/
noncomputable def clos (env : Env) : List (Str × NameKind) → List (Str × Addr) → List (Str × Addr)
  | [], acc => acc
  | (x, k) :: r, acc => clos env r (if k == .free then (match env.cells.lookup x with | some c => (x, c) :: acc | none => acc) else acc)
theorem clos_forIn {env : Env} (f : Str × NameKind → List (Str × Addr) → Sem (ForInStep (List (Str × Addr))))
    (hf : ∀ x k cs, f (x, k) cs = if k == .free then (do let a ← cellOf env x; pure (.yield ((x, a) :: cs))) else pure (.yield cs)) :
    ∀ (names : List (Str × NameKind)) (acc : List (Str × Addr)), (∀ p ∈ names, p.2 = .free → (env.cells.lookup p.1).isSome = true) → forIn names acc f = pure (clos env names acc)
  | [], _, _ => rfl
  | (x, k) :: r, acc, hp => by
    rw [List.forIn_cons, hf]
    have hr : ∀ p ∈ r, p.2 = .free → (env.cells.lookup p.1).isSome = true := fun p hm => hp p (.tail _ hm)
    unfold clos
    by_cases hk : (k == NameKind.free) = true
    · obtain ⟨c, hc⟩ := Option.isSome_iff_exists.mp (hp (x, k) (.head _) (by simpa using hk))
      have hcell : cellOf env x = pure c := by unfold cellOf; rw [show env.cells.lookup x = some c from hc]
      rw [if_pos hk, if_pos hk, hcell, show env.cells.lookup x = some c from hc]
      show (forIn r ((x, c) :: acc) f : Sem _) = _
      rw [clos_forIn f hf r _ hr]
    · rw [if_neg hk, if_neg hk]
      show (forIn r acc f : Sem _) = _
      rw [clos_forIn f hf r _ hr]
theorem closureFor_eq {scope : Scope} {env : Env} (h : ∀ p ∈ scope.names, p.2 = .free → (env.cells.lookup p.1).isSome = true) : closureFor scope env = pure (clos env scope.names []) := by
  unfold closureFor
  show ((forIn scope.names ([] : List (Str × Addr)) _ : Sem (List (Str × Addr))) >>= fun cs => pure cs) = _
  rw [clos_forIn (env := env) _ (fun x k cs => by cases hk : k == NameKind.free <;> simp [hk]) scope.names [] h]
  rfl
theorem clos_sub {env : Env} {x : Str} {c : Addr} : ∀ (names : List (Str × NameKind)) (acc : List (Str × Addr)), (clos env names acc).lookup x = some c → env.cells.lookup x = some c ∨ acc.lookup x = some c
  | [], _, h => .inr h
  | (y, k) :: r, acc, h => by
    unfold clos at h
    rcases clos_sub r _ h with h | h
    · exact .inl h
    · by_cases hk : (k == NameKind.free) = true
      · rw [if_pos hk] at h
        cases hc : env.cells.lookup y with
        | none => rw [hc] at h; exact .inr h
        | some c' =>
          rw [hc] at h
          by_cases e : x = y
          · subst e; rw [List.lookup_cons_self] at h; cases h; exact .inl hc
          · rw [List.lookup_cons, show (x == y) = false by simpa using e] at h; exact .inr h
      · rw [if_neg hk] at h; exact .inr h
theorem clos_has {env : Env} {x : Str} {c : Addr} (hc : env.cells.lookup x = some c) : ∀ (names : List (Str × NameKind)) (acc : List (Str × Addr)), (names.lookup x = some .free ∨ acc.lookup x = some c) → (∀ c', acc.lookup x = some c' → c' = c) →
    (clos env names acc).lookup x = some c
  | [], _, h, _ => h.elim (fun e => by cases e) id
  | (y, k) :: r, acc, h, hu => by
    unfold clos
    by_cases e : x = y
    · subst e
      by_cases hk : (k == NameKind.free) = true
      · rw [if_pos hk, hc]
        exact clos_has hc r _ (.inr (by rw [List.lookup_cons_self])) fun c' q => by rw [List.lookup_cons_self] at q; cases q; rfl
      · rw [if_neg hk]
        refine clos_has hc r _ (h.elim (fun q => ?_) .inr) hu
        rw [List.lookup_cons_self] at q; cases q; exact absurd rfl hk
    · have hxy : (x == y) = false := by simpa using e
      refine clos_has hc r _ ?_ fun c' q => ?_
      · refine h.imp (fun q => by rwa [List.lookup_cons, hxy] at q) fun q => ?_
        split
        · split
          · rw [List.lookup_cons, hxy]; exact q
          · exact q
        · exact q
      · refine hu c' ?_
        split at q
        · split at q
          · rw [List.lookup_cons, hxy] at q; exact q
          · exact q
        · exact q

theorem cellsFrom_app : ∀ (names : List (Str × NameKind)) (k : Nat) (acc : List (Str × Addr)), cellsFrom k names acc = cellsFrom k names [] ++ acc
  | [], _, _ => rfl
  | (x, q) :: r, k, acc => by
    unfold cellsFrom
    split
    · rw [cellsFrom_app r (k + 1) ((x, k) :: acc), cellsFrom_app r (k + 1) [(x, k)]]; simp
    · exact cellsFrom_app r k acc

/-- a comprehension's frame -/
noncomputable def cEnv (scope : Scope) (env : Env) (C : Addr) : Env :=
  { scope := relabel scope env, locals := C, globals := env.globals, cells := cellsFrom (C + 1) scope.names (clos env scope.names []), qual := env.qual, func := none, code := env.code, frame := env.frame, builtins := env.builtins }

theorem lookup_mapKind (f : Str → NameKind → NameKind) (x : Str) : ∀ (l : List (Str × NameKind)), (l.map fun p => (p.1, f p.1 p.2)).lookup x = (l.lookup x).map (f x)
  | [] => rfl
  | (y, k) :: r => by
    by_cases e : x = y
    · subst e; simp [List.lookup_cons_self]
    · have hxy : (x == y) = false := by simpa using e
      rw [List.map_cons, List.lookup_cons, List.lookup_cons, hxy]
      exact lookup_mapKind f x r
theorem relabel_lookup (scope : Scope) (env : Env) (x : Str) : (relabel scope env).names.lookup x =
    (scope.names.lookup x).map fun k => if (k == .free && env.scope.kind == .function && env.kindOf x == some .cell) then .cell else k := by
  have := lookup_mapKind (fun n k => if (k == .free && env.scope.kind == .function && env.kindOf n == some .cell) then .cell else k) x scope.names
  rw [← this]
  unfold relabel
  congr 1
  apply List.map_congr_left
  intro p _
  obtain ⟨y, k⟩ := p
  dsimp only
  split <;> rfl

section
variable {prog : Program} {w : World} {h₀ : Heap} {n : Nat} {env : Env} {V : List Addr} {ρ : List (Str × D)}

theorem wp_cEnv {A : Around} {s : Shared} {E : Value → Shared → Prop} {Q : Env → Shared → Prop} {scope : Scope}
    (q : Q { cEnv scope env s.heap.objs.size with scope := scope } { s with heap := pushCells (s.heap.push { cls := .type "dict", data := .dict #[] }) scope.names }) :
    wpAny (model prog w) A (newFunctionEnv scope env.globals (clos env scope.names []) [] env.qual none .none (some env)) Q E s := by
  simp only [newFunctionEnv, Option.isSome_some, if_true]
  refine wpAny_bind (wpAny_alloc ?_)
  refine wpAny_bind (wpAny_layCells _ (fun name kind cells => by cases hkc : kind == NameKind.cell <;> simp [hkc]) _ _ _ _ ?_)
  rw [show ({ s with heap := s.heap.push { cls := .type "dict", data := .dict #[] } } : Shared).heap.objs.size = s.heap.objs.size + 1 from Heap.size_push ..]
  exact wpAny_bind (wpAny_pure (wpAny_pure q))

/-- the names that a comprehension sees -/
noncomputable def caps (scope : Scope) (ρ : List (Str × D)) : List (Str × D) := ρ.filter fun p => scope.names.lookup p.1 == some .free
theorem lookup_filter_key {α : Type} (p : Str → Bool) (x : Str) : ∀ (l : List (Str × α)) {d : α}, (l.filter fun q => p q.1).lookup x = some d → l.lookup x = some d ∧ p x = true
  | [], _, h => by cases h
  | (y, e) :: r, d, h => by
    by_cases hy : p y = true
    · rw [List.filter_cons_of_pos (p := fun q : Str × α => p q.1) (a := (y, e)) hy] at h
      by_cases q : x = y
      · subst q; rw [List.lookup_cons_self] at h ⊢; exact ⟨h, hy⟩
      · have hxy : (x == y) = false := by simpa using q
        rw [List.lookup_cons, hxy] at h ⊢
        exact lookup_filter_key p x r h
    · rw [List.filter_cons_of_neg (p := fun q : Str × α => p q.1) (a := (y, e)) hy] at h
      have ih := lookup_filter_key p x r h
      have hxy : (x == y) = false := by
        simp only [beq_eq_false_iff_ne]
        rintro rfl
        exact hy ih.2
      rw [List.lookup_cons, hxy]
      exact ih

theorem mem_lookup_of_mem {α : Type} : ∀ {l : List (Str × α)} {c : α}, c ∈ l.map (·.2) → ∃ y, (y, c) ∈ l := fun h => by
  obtain ⟨p, hp, rfl⟩ := List.mem_map.mp h
  exact ⟨p.1, hp⟩

/-- a comprehension's frame at its start -/
structure CStart (scope : Scope) (env : Env) (h h' : Heap) (oc : List Addr) : Prop where
  fresh : ∀ a ∈ oc, h.get? a = none ∧ a ≠ h.objs.size
  orOuter : ∀ y c, (cEnv scope env h.objs.size).cells.lookup y = some c → c ∈ oc ∨ env.cells.lookup y = some c
  own : ∀ y, scope.names.lookup y = some .cell → ∃ c, (cEnv scope env h.objs.size).cells.lookup y = some c ∧ c ∈ oc
  live : ∀ a ∈ oc, h'.IsCell a Option.none
  sep : ∀ x y c, (cEnv scope env h.objs.size).cells.lookup x = some c → (cEnv scope env h.objs.size).cells.lookup y = some c → c ∈ oc → x = y
  free : ∀ x c, scope.names.lookup x = some .free → env.cells.lookup x = some c → (cEnv scope env h.objs.size).cells.lookup x = some c
  keep : Ext h h'
  ns : h'.Ns h.objs.size fun _ => none

theorem cellsFrom_key {x : Str} {c : Addr} : ∀ (names : List (Str × NameKind)) (k : Nat) (acc : List (Str × Addr)), (cellsFrom k names acc).lookup x = some c → (x, NameKind.cell) ∈ names ∨ acc.lookup x = some c
  | [], _, _, h => .inr h
  | (y, q) :: r, k, acc, h => by
    unfold cellsFrom at h
    split at h
    · rename_i hq
      rcases cellsFrom_key r _ _ h with h | h
      · exact .inl (.tail _ h)
      · by_cases e : x = y
        · subst e
          have : q = .cell := by simpa using hq
          subst this; exact .inl (.head _)
        · rw [List.lookup_cons, show (x == y) = false by simpa using e] at h; exact .inr h
    · rcases cellsFrom_key r _ _ h with h | h
      · exact .inl (.tail _ h)
      · exact .inr h

theorem cStart {h : Heap} {scope : Scope} (hcons : ∀ p ∈ scope.names, scope.names.lookup p.1 = some p.2) (hlive : ∀ x c, env.cells.lookup x = some c → ∃ o, h.get? c = some o) : CStart scope env h (pushCells (h.push { cls := .type "dict", data := .dict #[] }) scope.names) ((cellsFrom (h.objs.size + 1) scope.names []).map (·.2)) := by
  have ok := cellsFrom_ok scope.names (h.push { cls := .type "dict", data := .dict #[] }) (h.objs.size + 1) [] ⟨fun _ _ hm => (nomatch hm), List.Pairwise.nil⟩ (by rw [Heap.size_push]; exact Nat.le_refl _)
  rw [Heap.size_push] at ok
  have hcells : (cEnv scope env h.objs.size).cells = cellsFrom (h.objs.size + 1) scope.names [] ++ clos env scope.names [] := cellsFrom_app _ _ _
  refine ⟨fun a ha => ?_, fun y c hc => ?_, fun y hy => ?_, fun a ha => ?_, fun x y c hx hy hm => ?_, fun x c hx hc => ?_, fun b o e => pushCells_keeps _ _ b o (Heap.get?_push_of_some _ e), (Heap.Ns.new h (.type "dict")).keeps (pushCells_keeps _ _)⟩
  · obtain ⟨y, hy⟩ := mem_lookup_of_mem ha
    have hlt : h.objs.size < a := (ok.empty y a hy).2
    refine ⟨?_, Nat.ne_of_gt hlt⟩
    cases e : h.get? a with
    | none => rfl
    | some o => exact absurd (Nat.lt_trans (Heap.lt_size e) hlt) (Nat.lt_irrefl _)
  · rw [hcells, List.lookup_append] at hc
    cases hq : (cellsFrom (h.objs.size + 1) scope.names []).lookup y with
    | some c' =>
      rw [hq] at hc; cases hc
      exact .inl (List.mem_map_of_mem (mem_of_lookup hq))
    | none =>
      rw [hq] at hc
      rcases clos_sub _ _ hc with h | h
      · exact .inr h
      · cases h
  · have := cellsFrom_some (x := y) scope.names (h.objs.size + 1) [] (.inl hy)
    obtain ⟨c, hc⟩ := Option.isSome_iff_exists.mp this
    exact ⟨c, by rw [hcells, List.lookup_append, hc]; rfl, List.mem_map_of_mem (mem_of_lookup hc)⟩
  · obtain ⟨y, hy⟩ := mem_lookup_of_mem ha
    exact (ok.empty y a hy).1
  · obtain ⟨z, hz⟩ := mem_lookup_of_mem hm
    have hlt : h.objs.size < c := (ok.empty z c hz).2
    have key : ∀ u, (cEnv scope env h.objs.size).cells.lookup u = some c → (cellsFrom (h.objs.size + 1) scope.names []).lookup u = some c := fun u hu => by
      rw [hcells, List.lookup_append] at hu
      cases hq : (cellsFrom (h.objs.size + 1) scope.names []).lookup u with
      | some c' => rw [hq] at hu; exact hu
      | none =>
        rw [hq] at hu
        rcases clos_sub _ _ hu with q | q
        · obtain ⟨o, ho⟩ := hlive _ _ q
          exact absurd (Nat.lt_trans (Heap.lt_size ho) hlt) (Nat.lt_irrefl _)
        · cases q
    exact name_of_addr ok.apart (mem_of_lookup (key x hx)) (mem_of_lookup (key y hy))
  · rw [hcells, List.lookup_append]
    cases hq : (cellsFrom (h.objs.size + 1) scope.names []).lookup x with
    | some c' =>
      rcases cellsFrom_key _ _ _ hq with q | q
      · have := hcons _ q; rw [show (x, NameKind.cell).1 = x from rfl, hx] at this; cases this
      · cases q
    | none => exact clos_has hc _ _ (.inl hx) fun _ q => by cases q

theorem cEnv_fm {h1 h h' : Heap} {scope : Scope} {oc : List Addr} (S : CStart scope env h h' oc) (F : Fm env V ρ h1) (k1 : Ext h1 h) (hk : scope.kind = .function) (hkl : ∀ x, scope.names.lookup x = some .free → env.kindOf x ≠ some .local) (V' : List Addr)
    (hC : h.objs.size ∈ V') (hoc : ∀ a ∈ oc, a ∈ V') (hVV : ∀ a ∈ V, a ∈ V') (hV' : ∀ a ∈ V', ∃ o, h'.get? a = some o) (hR : ∀ v d, Rep V h1 v d → Rep V' h1 v d) :
    Fm (cEnv scope env h.objs.size) V' (caps scope ρ) h' := by
  have cellV : ∀ y c, (cEnv scope env h.objs.size).cells.lookup y = some c → c ∈ V' := fun y c hc => (S.orOuter y c hc).elim (hoc c) fun q => hVV c (F.vcell y c q)
  have keep : Ext h1 h' := fun b o e => S.keep b o (k1 b o e)
  refine ⟨fun x d hx => ?_, ⟨_, S.ns⟩, fun y c hc => ?_, hC, cellV, hV', ?_⟩
  · have hx' := lookup_filter_key (fun y => scope.names.lookup y == some .free) x ρ hx
    have hfree : scope.names.lookup x = some .free := by simpa using hx'.2
    obtain ⟨v, hv, r⟩ := F.names x d hx'.1
    have hkind : (cEnv scope env h.objs.size).kindOf x = some (if (env.scope.kind == .function && env.kindOf x == some .cell) then .cell else .free) := by
      show (relabel scope env).names.lookup x = _
      rw [relabel_lookup, hfree]; rfl
    have rv' : Rep V' h' v d := (hR v d r).ext (W := []) (fun _ q => absurd q List.not_mem_nil) fun b o _ e => keep b o e
    have fin : ∀ c, env.cells.lookup x = some c → h1.IsCell c (some v) → ∃ v, NameAt (cEnv scope env h.objs.size) h' x v ∧ Rep V' h' v d := fun c hc hv => by
      have hl := S.free x c hfree hc
      refine ⟨v, ?_, rv'⟩
      cases hb : (env.scope.kind == .function && env.kindOf x == some .cell) with
      | true => rw [hb] at hkind; exact .cell hkind hl (hv.keeps keep)
      | false => rw [hb] at hkind; exact .free hkind hl (hv.keeps keep)
    cases hv with
    | loc a b c => exact absurd a (hkl x hfree)
    | cell a b c => exact fin _ b c
    | free a b c => exact fin _ b c
  · rcases S.orOuter y c hc with q | q
    · exact ⟨_, S.live c q⟩
    · obtain ⟨u, hu⟩ := F.cells y c q
      exact ⟨u, hu.keeps keep⟩
  · refine ⟨hk, fun x y c hx hy => ?_, fun x c hx q => ?_, F.ok.globals, F.ok.builtins⟩
    · rcases S.orOuter x c hx with q | q
      · exact S.sep x y c hx hy q
      · rcases S.orOuter y c hy with q' | q'
        · exact S.sep x y c hx hy q'
        · exact F.ok.apart x y c q q'
    · rcases S.orOuter x c hx with p | p
      · exact (S.fresh c p).2 q
      · obtain ⟨u, o, ho, _⟩ := F.cells x c p
        have e : c = h.objs.size := q
        have ho' := k1 _ _ ho
        rw [e, fresh_none] at ho'; cases ho'

/-- what a comprehension's scope must be, beside its frame -/
structure CompOk (scope : Scope) (env : Env) : Prop where
  kind : scope.kind = .function
  cons : ∀ p ∈ scope.names, scope.names.lookup p.1 = some p.2
  free : ∀ p ∈ scope.names, p.2 = .free → (env.cells.lookup p.1).isSome = true
  nloc : ∀ x, scope.names.lookup x = some .free → env.kindOf x ≠ some .local

/-- the target of a comprehension's clause -/
noncomputable def Tgt (prog : Program) (w : World) (n : Nat) (scope : Scope) (target : Expr) (b : D → List (Str × D)) (okD : D → Prop) : Prop :=
  ∀ (env : Env) (h h' : Heap) (oc : List Addr), CStart scope env h h' oc → ∃ Wt, TA prog w n (cEnv scope env h.objs.size) target b okD Wt ∧ ∀ a ∈ Wt, a = h.objs.size ∨ a ∈ oc
theorem tgt_name {scope : Scope} {x : Str} {pos : Pos} (hx : scope.names.lookup x = some .local ∨ scope.names.lookup x = some .cell) : Tgt prog w n scope (.Name x pos) (fun d => [(x, d)]) (fun _ => True) := by
  intro env h h' oc S
  refine ⟨wAddr (cEnv scope env h.objs.size) x, ta_name ?_, ?_⟩
  · rcases hx with hx | hx
    · exact .inl (by show (relabel scope env).names.lookup x = _; rw [relabel_lookup, hx]; rfl)
    · obtain ⟨c, hc, _⟩ := S.own x hx
      exact .inr ⟨by show (relabel scope env).names.lookup x = _; rw [relabel_lookup, hx]; rfl, by rw [hc]; rfl⟩
  · intro a ha
    unfold wAddr at ha
    rcases hx with hx | hx
    · have : (cEnv scope env h.objs.size).kindOf x = some .local := by show (relabel scope env).names.lookup x = _; rw [relabel_lookup, hx]; rfl
      rw [if_pos this] at ha
      exact .inl (List.mem_singleton.mp ha)
    · have : (cEnv scope env h.objs.size).kindOf x = some .cell := by show (relabel scope env).names.lookup x = _; rw [relabel_lookup, hx]; rfl
      obtain ⟨c, hc, hm⟩ := S.own x hx
      rw [if_neg (by rw [this]; decide), hc] at ha
      exact .inr (by rw [List.mem_singleton.mp ha]; exact hm)

/-- how a comprehension leaves off -/
structure CEnd (h₀ : Heap) (V Wr : List Addr) (s s' : Shared) (a C : Addr) (out : List D) : Prop where
  fa : s.heap.get? a = Option.none
  fC : s.heap.get? C = Option.none
  ne : a ≠ C
  ns : ∃ m, s'.heap.Ns C m
  kept : ∀ b o, b ∉ Wr → s.heap.get? b = some o → s'.heap.get? b = some o
  gens : s'.gens = s.gens
  os : s'.os = s.os
  list : ∃ ys, s'.heap.PlainList a ys ∧ RepL (C :: V) s'.heap ys.toList out
  in0 : In0 h₀ V s'
  old : Old V s'.heap

/-- a comprehension's start: what its loop finds -/
structure COp (prog : Program) (w : World) (h₀ : Heap) (A : Around) (env : Env) (scope : Scope) (V : List Addr) (ρ : List (Str × D)) (ds : List D) (s : Shared) (H : Heap) (oc : List Addr) (I acc : Addr) (V' : List Addr) (St : Nat → Heap → Prop) (s₃ : Shared) : Prop where
  wk : Wk prog w A V' I ds St
  st : St 0 s₃.heap
  start : CStart scope env H s₃.heap oc
  sub : ∀ a ∈ V, a ∈ V'
  new : ∀ a ∈ V', s.heap.get? a = Option.none ∨ a ∈ V
  mC : H.objs.size ∈ V'
  mO : ∀ a ∈ oc, a ∈ V'
  mA : acc ∈ V'
  mI : I ∈ V'
  fm : Fm (cEnv scope env H.objs.size) V' (caps scope ρ) s₃.heap
  in0 : In0 h₀ V' s₃
  fC : s.heap.get? H.objs.size = Option.none
  fO : ∀ a ∈ oc, s.heap.get? a = Option.none
  fA : s.heap.get? acc = Option.none
  fI : s.heap.get? I = Option.none
  nIC : I ≠ H.objs.size
  nIO : I ∉ oc
  nAC : acc ≠ H.objs.size
  nAO : acc ∉ oc
  nAI : acc ≠ I
  ownI : ¬ Own (cEnv scope env H.objs.size) I
  ownA : ¬ Own (cEnv scope env H.objs.size) acc
  ownW : ∀ a ∈ V, ¬ Own env a → ¬ Own (cEnv scope env H.objs.size) a
  list : s₃.heap.PlainList acc #[]
  keep : Ext s.heap s₃.heap
  gens : s₃.gens = s.gens
  os : s₃.os = s.os

theorem comp_open {A : Around} {s : Shared} {E : Value → Shared → Prop} {Q : Value → Shared → Prop} {elt target iter : Expr} {ifs : List Expr} {more : List Comprehension} {scope : Scope} {pos cpos : Pos} {use : Option (Value → Sem Unit)} {ds : List D}
    (hA : AOk n A) (hB : In0 h₀ V s) (F : Fm env V ρ s.heap)
    (hit : IT prog w h₀ n env V ρ iter ds) (co : CompOk scope env) (hfs : ∀ x, foldedSetIterable iter env x = pure x)
    (loop : ∀ H oc I acc V' St s₃, COp prog w h₀ A env scope V ρ ds s H oc I acc V' St s₃ → codeAny (model prog w) A (.compLoop (.ListComp elt (⟨target, iter, ifs, 0⟩ :: more) scope pos) 0 (.ref I) (.ref acc) (cEnv scope env H.objs.size)) (compPost (model prog w) A E use Q (.ref acc) H.objs.size) s₃) :
    wpAny (model prog w) A (comprehension (.ListComp elt (⟨target, iter, ifs, 0⟩ :: more) scope pos) scope env cpos (newList []) false (eval iter env) use) Q E s := by
  refine wpAny_comprehension_free (use := use) rfl hfs (closureFor_eq co.free) co.kind (fun x hx e => by rw [co.cons x hx, e]) ?_
  refine hit A s E _ hA hB F fun I s₂ e2 hI hIl hW => ?_
  refine wpAny_newObj_type (wp_cEnv ?_)
  dsimp only
  generalize hH : s₂.heap.push { cls := .type "list", dict := none, data := .seq ([] : List Value).toArray } = H
  have kH : Ext s₂.heap H := by rw [← hH]; exact fun _ _ e => Heap.get?_push_of_some _ e
  have hHs : H.objs.size = s₂.heap.objs.size + 1 := by rw [← hH, Heap.size_push]
  have hacc : H.get? s₂.heap.objs.size = some { cls := .type "list", dict := none, data := .seq ([] : List Value).toArray } := by rw [← hH]; exact Heap.get?_push_size _ rfl
  have kS : Ext s.heap H := fun b o e => kH b o (e2.keep b o e)
  have S := cStart (env := env) (scope := scope) (h := H) co.cons fun x c hc => by
    obtain ⟨u, o, ho, _⟩ := F.cells x c hc
    exact ⟨o, kS _ _ ho⟩
  generalize hoc : (cellsFrom (H.objs.size + 1) scope.names []).map (·.2) = oc at S
  generalize hG : pushCells (H.push { cls := .type "dict", data := .dict #[] }) scope.names = G at S ⊢
  have nH : ∀ a, H.get? a = Option.none → s.heap.get? a = Option.none := fun a ha => none_of_ext kS ha
  have n2 : ∀ a, H.get? a = Option.none → s₂.heap.get? a = Option.none := fun a ha => none_of_ext kH ha
  have nC : H.get? H.objs.size = Option.none := fresh_none _
  have nA : s₂.heap.get? s₂.heap.objs.size = Option.none := fresh_none _
  have hU : ∀ a ∈ H.objs.size :: oc ++ [s₂.heap.objs.size], s₂.heap.get? a = Option.none := by
    intro a ha
    rcases List.mem_append.mp ha with ha | ha
    · rcases List.mem_cons.mp ha with rfl | ha
      · exact n2 _ nC
      · exact n2 _ (S.fresh a ha).1
    · rw [List.mem_singleton.mp ha]; exact nA
  obtain ⟨St, W, st⟩ := hW _ hU
  generalize hVV : H.objs.size :: oc ++ [s₂.heap.objs.size] ++ I :: V = V' at W
  have memV' : ∀ a, a ∈ V' ↔ a = H.objs.size ∨ a ∈ oc ∨ a = s₂.heap.objs.size ∨ a = I ∨ a ∈ V := by
    intro a; rw [← hVV]; simp [List.mem_append, List.mem_cons, or_assoc]
  have newV' : ∀ a ∈ V', s.heap.get? a = Option.none ∨ a ∈ V := by
    intro a ha
    rcases (memV' a).mp ha with rfl | h | rfl | rfl | h
    · exact .inl (nH _ nC)
    · exact .inl (nH _ (S.fresh a h).1)
    · exact .inl (none_of_ext e2.keep nA)
    · exact .inl hI
    · exact .inr h
  have hVsub : ∀ a ∈ V, a ∈ V' := fun a ha => (memV' a).mpr (.inr (.inr (.inr (.inr ha))))
  have kG : Ext s.heap G := fun b o e => S.keep b o (kS b o e)
  have k2G : Ext s₂.heap G := fun b o e => S.keep b o (kH b o e)
  have liveV' : ∀ a ∈ V', ∃ o, G.get? a = some o := by
    intro a ha
    rcases (memV' a).mp ha with rfl | h | rfl | rfl | h
    · obtain ⟨o, _, _, ho, _⟩ := S.ns; exact ⟨o, ho⟩
    · obtain ⟨o, ho, _⟩ := S.live a h; exact ⟨o, ho⟩
    · exact ⟨_, S.keep _ _ hacc⟩
    · obtain ⟨o, ho⟩ := hIl; exact ⟨o, k2G _ _ ho⟩
    · obtain ⟨o, ho⟩ := F.old a h; exact ⟨o, kG _ _ ho⟩
  have hVn : VNew h₀ V' := fun a ha => (newV' a ha).elim (fun h => none_of_ext hB.ext h) (hB.new a)
  have Fc : Fm (cEnv scope env H.objs.size) V' (caps scope ρ) G := cEnv_fm S F kS co.kind co.nloc V' ((memV' _).mpr (.inl rfl)) (fun a ha => (memV' a).mpr (.inr (.inl ha))) hVsub liveV'
    fun v d r => r.shun fun a o ha ho hm => (newV' a hm).elim (fun h => by rw [h] at ho; cases ho) ha
  have accN : s.heap.get? s₂.heap.objs.size = Option.none := none_of_ext e2.keep nA
  have ownC : ∀ a, Own (cEnv scope env H.objs.size) a → a = H.objs.size ∨ a ∈ oc ∨ Own env a := by
    rintro a (rfl | ⟨y, hy⟩)
    · exact .inl rfl
    · rcases S.orOuter y a hy with h | h
      · exact .inr (.inl h)
      · exact .inr (.inr (.inr ⟨y, h⟩))
  have ownLive : ∀ a, Own env a → ∃ o, s.heap.get? a = some o := by
    rintro a (rfl | ⟨y, hy⟩)
    · obtain ⟨m, o, _, _, ho, _⟩ := F.ns; exact ⟨o, ho⟩
    · obtain ⟨_, o, ho, _⟩ := F.cells y a hy; exact ⟨o, ho⟩
  have hIC : I ≠ H.objs.size := fun e => by obtain ⟨o, ho⟩ := hIl; rw [e, n2 _ nC] at ho; cases ho
  have hIoc : I ∉ oc := fun h => by obtain ⟨o, ho⟩ := hIl; rw [n2 _ (S.fresh I h).1] at ho; cases ho
  have hIo : ¬ Own (cEnv scope env H.objs.size) I := fun h => by
    rcases ownC I h with h | h | h
    · exact hIC h
    · exact hIoc h
    · obtain ⟨o, ho⟩ := ownLive I h; rw [hI] at ho; cases ho
  have hAC : s₂.heap.objs.size ≠ H.objs.size := by rw [hHs]; exact Nat.ne_of_lt (Nat.lt_succ_self _)
  have hAoc : s₂.heap.objs.size ∉ oc := fun h => by have := (S.fresh _ h).1; rw [hacc] at this; cases this
  have hAo : ¬ Own (cEnv scope env H.objs.size) s₂.heap.objs.size := fun h => by
    rcases ownC _ h with h | h | h
    · exact hAC h
    · exact hAoc h
    · obtain ⟨o, ho⟩ := ownLive _ h; rw [accN] at ho; cases ho
  have hAI : s₂.heap.objs.size ≠ I := fun e => by obtain ⟨o, ho⟩ := hIl; rw [← e, nA] at ho; cases ho
  have hB4 : ∀ tk, s₂.toks ≤ tk → In0 h₀ V' { s₂ with heap := G, toks := tk } := fun tk ht => ⟨fun b o e => kG b o (hB.ext b o e), Nat.le_trans hB.toks (Nat.le_trans e2.toks ht), hVn⟩
  have stG : St 0 G := W.frame 0 _ _ st (fun b o _ e => k2G b o e) fun o e => k2G I o e
  have hWo : ∀ a ∈ V, ¬ Own env a → ¬ Own (cEnv scope env H.objs.size) a := fun a ha hn h => by
    rcases ownC a h with h | h | h
    · obtain ⟨o, ho⟩ := F.old a ha; rw [h, nH _ nC] at ho; cases ho
    · obtain ⟨o, ho⟩ := F.old a ha; rw [nH _ (S.fresh a h).1] at ho; cases ho
    · exact hn h
  have lp := loop H oc I s₂.heap.objs.size V' St { s₂ with heap := G } ⟨W, stG, S, hVsub, newV', (memV' _).mpr (.inl rfl), fun a ha => (memV' a).mpr (.inr (.inl ha)), (memV' _).mpr (.inr (.inr (.inl rfl))), (memV' I).mpr (.inr (.inr (.inr (.inl rfl)))),
    Fc, hB4 _ (Nat.le_refl _), nH _ nC, fun a ha => nH _ (S.fresh a ha).1, accN, hI, hIC, hIoc, hAC, hAoc, hAI, hIo, hAo, hWo, ⟨_, S.keep _ _ hacc⟩, kG, e2.gens, e2.os⟩
  exact codeAny_compStart_list lp (W.self 0 _ _ _ stG lp)

theorem comp_core {A : Around} {s : Shared} {E : Value → Shared → Prop} {Q : Value → Shared → Prop} {elt target iter : Expr} {ifs : List Expr} {scope : Scope} {pos cpos : Pos} {use : Option (Value → Sem Unit)} {ds : List D}
    (hA : AOk n A) (hB : In0 h₀ V s) (F : Fm env V ρ s.heap)
    (hit : IT prog w h₀ n env V ρ iter ds) (co : CompOk scope env) (hfs : ∀ x, foldedSetIterable iter env x = pure x)
    {b : D → List (Str × D)} {okD : D → Prop} (hT : Tgt prog w n scope target b okD) (hokD : ∀ d ∈ ds, okD d)
    (Wr : List Addr) (hWr : ∀ a ∈ Wr, a ∈ V ∧ ¬ Own env a)
    (P : List D → Shared → Prop) (t : D → Bool) (g : List D → D → D)
    (hdis : ∀ d ∈ ds, ∀ x dx, (caps scope ρ).lookup x = some dx → (b d).lookup x = none)
    (hP : ∀ pre s₁ s₂, P pre s₁ → (∀ a o, (∃ o', s.heap.get? a = some o') → s₁.heap.get? a = some o → s₂.heap.get? a = some o) → P pre s₂)
    (hP0 : P [] s)
    (htests : ∀ C V' pre d post s₁ (E : Value → Shared → Prop) (Q : Bool → Shared → Prop), ds = pre ++ d :: post → ((∀ a ∈ V, a ∈ V') ∧ (∀ a ∈ V', s.heap.get? a = Option.none ∨ a ∈ V) ∧ ∀ a ∈ Wr, ¬ Own (cEnv scope env C) a) → In0 h₀ V' s₁ → Fm (cEnv scope env C) V' (b d ++ caps scope ρ) s₁.heap → P pre s₁ →
      (∀ s', Stp [] s₁ s' → Q (t d) s') → wpAny (model prog w) A (testsOf ifs (cEnv scope env C)) Q E s₁)
    (helt : ∀ C V' pre d post s₁ (E : Value → Shared → Prop) (Q : Value → Shared → Prop), ds = pre ++ d :: post → t d = true → ((∀ a ∈ V, a ∈ V') ∧ (∀ a ∈ V', s.heap.get? a = Option.none ∨ a ∈ V) ∧ ∀ a ∈ Wr, ¬ Own (cEnv scope env C) a) → In0 h₀ V' s₁ → Fm (cEnv scope env C) V' (b d ++ caps scope ρ) s₁.heap → P pre s₁ →
      (∀ x s', Stp Wr s₁ s' → Rep V' s'.heap x (g pre d) → Old V' s'.heap → P (pre ++ [d]) s' → Q x s') → wpAny (model prog w) A (eval elt (cEnv scope env C)) Q E s₁)
    (hskip : ∀ pre d s, t d = false → P pre s → P (pre ++ [d]) s)
    (hsz : ds.length ≤ sizeLine)
    (q : ∀ a C s', CEnd h₀ V Wr s s' a C (outs t g [] ds) → P ds s' → compPost (model prog w) A E use Q (.ref a) C (.ok .next) s') :
    wpAny (model prog w) A (comprehension (.ListComp elt [⟨target, iter, ifs, 0⟩] scope pos) scope env cpos (newList []) false (eval iter env) use) Q E s := by
  refine comp_open (use := use) hA hB F hit co hfs fun H oc I acc V' St s₃ o => ?_
  obtain ⟨Wt, hTA, hWt⟩ := hT env H s₃.heap oc o.start
  have hWtN : ∀ a ∈ Wt, s.heap.get? a = Option.none := fun a ha => (hWt a ha).elim (fun h => by rw [h]; exact o.fC) fun h => o.fO a h
  have hWo : ∀ a ∈ Wr, ¬ Own (cEnv scope env H.objs.size) a := fun a ha => o.ownW a (hWr a ha).1 (hWr a ha).2
  refine comp_data (V := V') (ρ := caps scope ρ) (St := St) (ds := ds) (out0 := []) (compTurn1 ..) rfl rfl (Around.under_of_weight rfl) o.wk hA hTA hokD Wr
    (fun a ha => ⟨o.sub a (hWr a ha).1, hWo a ha, fun e => ?_, fun e => ?_⟩) (fun h => (hWt I h).elim o.nIC o.nIO) (fun h => (hWt _ h).elim o.nAC o.nAO) (fun a ha => (hWt a ha).elim (fun h => h ▸ o.mC) (o.mO a)) o.mI o.ownI o.mA o.ownA o.nAI P t g hdis
    (fun pre s₁ s₃ hp hk => hP pre s₁ s₃ hp fun a x ha e => hk a x (fun q => ?_) (fun q => ?_) (fun q => ?_) e)
    (fun pre d post s₁ E Q hs hb hf hp hq => htests _ V' pre d post s₁ E Q hs ⟨o.sub, o.new, hWo⟩ hb hf hp hq)
    (fun pre d post s₁ E Q hs ht hb hf hp hq => helt _ V' pre d post s₁ E Q hs ht ⟨o.sub, o.new, hWo⟩ hb hf hp hq) hskip o.st o.fm (ys₀ := #[]) o.list .nil (hP _ _ _ hP0 fun a x _ e => o.keep a x e) o.in0 (by simpa using hsz) ?_
  · obtain ⟨x, ho⟩ := F.old a (hWr a ha).1; rw [e, o.fI] at ho; cases ho
  · obtain ⟨x, ho⟩ := F.old a (hWr a ha).1; rw [e, o.fA] at ho; cases ho
  · obtain ⟨o', ho⟩ := ha; rw [q, o.fI] at ho; cases ho
  · obtain ⟨o', ho⟩ := ha; rw [q, o.fA] at ho; cases ho
  · obtain ⟨o', ho⟩ := ha; rw [hWtN a q] at ho; cases ho
  · intro s' ys e0 k0 hns hl hr hp hb hold _
    refine q _ _ s' ⟨o.fA, o.fC, o.nAC, hns, fun b x hb e => k0 b x hb (fun q => ?_) (fun q => ?_) (fun q => ?_) (o.keep b x e), e0.gens.trans o.gens, e0.os.trans o.os, ⟨ys, hl, ?_⟩, ⟨hb.ext, hb.toks, hB.new⟩, fun a ha => ?_⟩ hp
    · rw [q, o.fI] at e; cases e
    · rw [q, o.fA] at e; cases e
    · rw [hWtN b q] at e; cases e
    · refine RepL.shun (fun a x ha ho hm => ha ?_) (by simpa using hr)
      rcases List.mem_cons.mp hm with rfl | hm
      · exact o.mC
      · exact o.sub a hm
    · exact hold a (o.sub a ha) fun q => by obtain ⟨x, ho⟩ := F.old a ha; rw [q, o.fI] at ho; cases ho
end
end Mine
end

section
open PySem PySem.Calls PySem.W PyProof.Rows
set_option Elab.async false
namespace Mine
section
variable {prog : Program} {w : World} {h₀ : Heap} {n : Nat} {env : Env} {V : List Addr} {ρ : List (Str × D)}

/-- e makes a new list -/
noncomputable def PEF (prog : Program) (w : World) (h₀ : Heap) (n : Nat) (env : Env) (V : List Addr) (ρ : List (Str × D)) (e : Expr) (ds : List D) : Prop :=
  ∀ (A : Around) (s : Shared) (E : Value → Shared → Prop) (Q : Value → Shared → Prop), AOk n A → In0 h₀ V s → Fm env V ρ s.heap →
    (∀ a s', Stp [] s s' → s.heap.get? a = Option.none → Rep V s'.heap (.ref a) (.list ds) → Q (.ref a) s') → wpAny (model prog w) A (eval e env) Q E s
theorem PEF.pe {e : Expr} {ds : List D} (h : PEF prog w h₀ n env V ρ e ds) : PE prog w h₀ n env V ρ e (.list ds) :=
  fun A s E Q hA hB F q => h A s E Q hA hB F fun a s' e _ r => q _ s' e r

/-- the tests of a clause -/
noncomputable def TS (prog : Program) (w : World) (h₀ : Heap) (n : Nat) (env : Env) (V : List Addr) (ρ : List (Str × D)) (ifs : List Expr) (c : Bool) : Prop :=
  ∀ (A : Around) (s : Shared) (E : Value → Shared → Prop) (Q : Bool → Shared → Prop), AOk n A → In0 h₀ V s → Fm env V ρ s.heap →
    (∀ s', Stp [] s s' → Q c s') → wpAny (model prog w) A (testsOf ifs env) Q E s
theorem ts_nil : TS prog w h₀ n env V ρ [] true := fun _ s _ _ _ _ _ q => wpAny_tests_nil (q s (.refl _))
theorem ts_one {e : Expr} {c : Bool} (h : PT prog w h₀ n env V ρ e c) : TS prog w h₀ n env V ρ [e] c := fun A s E Q hA hB F q => wpAny_tests_one (h A s E Q hA hB F q)

theorem pef_comp {elt target iter : Expr} {ifs : List Expr} {scope : Scope} {pos : Pos} {ds : List D} {b : D → List (Str × D)} {okD : D → Prop} {t : D → Bool} {f : D → D}
    (hit : IT prog w h₀ n env V ρ iter ds) (co : CompOk scope env) (hT : Tgt prog w n scope target b okD) (hokD : ∀ d ∈ ds, okD d)
    (hdis : ∀ d ∈ ds, ∀ x dx, (caps scope ρ).lookup x = some dx → (b d).lookup x = Option.none)
    (htests : ∀ C V' d, d ∈ ds → TS prog w h₀ n (cEnv scope env C) V' (b d ++ caps scope ρ) ifs (t d))
    (helt : ∀ C V' d, d ∈ ds → t d = true → PE prog w h₀ n (cEnv scope env C) V' (b d ++ caps scope ρ) elt (f d))
    (hsz : ds.length ≤ sizeLine) (hfs : autoParam (∀ x, foldedSetIterable iter env x = pure x) tacIntroRfl) :
    PEF prog w h₀ n env V ρ (.ListComp elt [⟨target, iter, ifs, 0⟩] scope pos) ((ds.filter t).map f) := by
  intro A s E Q hA hB F q
  rw [eval_ListComp]
  refine wp_stp (W := []) (R := fun v s' => ∃ a, v = .ref a ∧ s.heap.get? a = Option.none ∧ Rep V s'.heap v (.list ((ds.filter t).map f))) (fun E' Q' q' => ?_) (by rintro v s' e ⟨a, rfl, h1, h2⟩; exact q a s' e h1 h2)
  refine comp_core hA hB F hit co hfs hT hokD [] (fun a ha => absurd ha List.not_mem_nil) (fun _ _ => True) t (fun _ d => f d) hdis (fun _ _ _ _ _ => trivial) trivial
    (fun C V' pre d post s₁ E Q hs _ hb hf _ hq => htests C V' d (by rw [hs]; simp) A s₁ E Q hA hb hf hq)
    (fun C V' pre d post s₁ E Q hs ht _ hb hf _ hq => helt C V' d (by rw [hs]; simp) ht A s₁ E Q hA hb hf fun x s' e r => hq x s' e r (hf.ext e.toStp0).old trivial)
    (fun _ _ _ _ _ => trivial) hsz fun a C s' ce _ => ?_
  refine ⟨ce.ns.choose, ce.ns.choose_spec, fun h' hs' => q' _ _ ⟨ce.gens, ce.os, fun b o _ e => ?_⟩ ⟨a, rfl, ce.fa, ?_⟩⟩
  · exact hs'.extBut b o (fun q => by rw [q, ce.fC] at e; cases e) (ce.kept b o List.not_mem_nil e)
  · obtain ⟨ys, hl, hr⟩ := ce.list
    rw [outs_pure] at hr
    have ext : ExtB [C] s'.heap h' := fun b o hb e => hs'.extBut b o (by simpa using hb) e
    refine .list (fun hm => ?_) (hl.extBut hs'.extBut ce.ne) ?_
    · obtain ⟨o, ho⟩ := F.old a hm; rw [ce.fa] at ho; cases ho
    · exact (hr.ext (fun x hx => by rw [List.mem_singleton.mp hx]; exact .head _) ext).shun fun x o hx _ hm => hx (.tail _ hm)

theorem hdis_name {scope : Scope} {x : Str} {ds : List D} (hx : scope.names.lookup x = some .local ∨ scope.names.lookup x = some .cell) :
    ∀ d ∈ ds, ∀ y dy, (caps scope ρ).lookup y = some dy → ([(x, d)] : List (Str × D)).lookup y = Option.none := by
  intro d _ y dy hy
  have := (lookup_filter_key (fun y => scope.names.lookup y == some .free) y ρ hy).2
  have hf : scope.names.lookup y = some .free := by simpa using this
  have : (y == x) = false := by
    simp only [beq_eq_false_iff_ne]
    rintro rfl
    rw [hf] at hx; rcases hx with h | h <;> cases h
  rw [List.lookup_cons, this]; rfl

/-- [elt for x in iter if ..] -/
theorem pef_comp1 {elt iter : Expr} {x : Str} {px : Pos} {ifs : List Expr} {scope : Scope} {pos : Pos} {ds : List D} {t : D → Bool} {f : D → D}
    (hit : IT prog w h₀ n env V ρ iter ds) (co : CompOk scope env) (hx : scope.names.lookup x = some .local ∨ scope.names.lookup x = some .cell)
    (htests : ∀ C V' d, d ∈ ds → TS prog w h₀ n (cEnv scope env C) V' ((x, d) :: caps scope ρ) ifs (t d))
    (helt : ∀ C V' d, d ∈ ds → t d = true → PE prog w h₀ n (cEnv scope env C) V' ((x, d) :: caps scope ρ) elt (f d))
    (hsz : ds.length ≤ sizeLine) (hfs : autoParam (∀ x, foldedSetIterable iter env x = pure x) tacIntroRfl) :
    PEF prog w h₀ n env V ρ (.ListComp elt [⟨.Name x px, iter, ifs, 0⟩] scope pos) ((ds.filter t).map f) :=
  pef_comp hit co (tgt_name hx) (fun _ _ => trivial) (hdis_name hx) htests helt hsz hfs

theorem Fm.grow {U : List Addr} {h h' : Heap} (F : Fm env V ρ h) (hx : Ext h h') (hU : ∀ a ∈ U, h.get? a = Option.none) (hl : ∀ a ∈ U, ∃ o, h'.get? a = some o) : Fm env (U ++ V) ρ h' where
  names := fun x d hd => by
    obtain ⟨v, hv, r⟩ := F.names x d hd
    refine ⟨v, hv.ext hx, (r.shun fun a o ha ho hm => ?_).ext (W := []) (fun _ q => absurd q List.not_mem_nil) fun b o _ e => hx b o e⟩
    rcases List.mem_append.mp hm with hm | hm
    · rw [hU a hm] at ho; cases ho
    · exact ha hm
  ns := let ⟨m, hm⟩ := F.ns; ⟨m, hm.keeps hx⟩
  cells := fun x c hc => let ⟨v, hv⟩ := F.cells x c hc; ⟨v, hv.keeps hx⟩
  vloc := List.mem_append_right _ F.vloc
  vcell := fun x c hc => List.mem_append_right _ (F.vcell x c hc)
  old := fun a ha => (List.mem_append.mp ha).elim (hl a) fun ha => let ⟨o, ho⟩ := F.old a ha; ⟨o, hx a o ho⟩
  ok := F.ok
theorem Fm.shrink {V' : List Addr} {h : Heap} (F : Fm env V' ρ h) (hs : ∀ a ∈ V, a ∈ V') (hl : env.locals ∈ V) (hc : ∀ x c, env.cells.lookup x = some c → c ∈ V) : Fm env V ρ h where
  names := fun x d hd => let ⟨v, hv, r⟩ := F.names x d hd; ⟨v, hv, r.shun fun a _ ha _ hm => ha (hs a hm)⟩
  ns := F.ns
  cells := F.cells
  vloc := hl
  vcell := hc
  old := fun a ha => F.old a (hs a ha)
  ok := F.ok

theorem Fm.drop {W : List Addr} {h h' : Heap} (F : Fm env (W ++ V) ρ h) (ext : ExtB W h h') (hd : ∀ a ∈ V, a ∉ W) (hl : env.locals ∈ V) (hc : ∀ x c, env.cells.lookup x = some c → c ∈ V) : Fm env V ρ h' where
  names := fun x d hx => by
    obtain ⟨v, hv, r⟩ := F.names x d hx
    refine ⟨v, ?_, (r.ext (fun a ha => List.mem_append_left _ ha) ext).shun fun a _ ha _ hm => ha (List.mem_append_right _ hm)⟩
    cases hv with
    | loc a b c => exact .loc a (b.at' fun o e => ext _ o (hd _ hl) e) c
    | cell a b c => exact .cell a b (let ⟨o, ho, h3⟩ := c; ⟨o, ext _ o (hd _ (hc _ _ b)) ho, h3⟩)
    | free a b c => exact .free a b (let ⟨o, ho, h3⟩ := c; ⟨o, ext _ o (hd _ (hc _ _ b)) ho, h3⟩)
  ns := let ⟨m, hm⟩ := F.ns; ⟨m, hm.at' fun o e => ext _ o (hd _ hl) e⟩
  cells := fun x c hx => let ⟨v, o, ho, h3⟩ := F.cells x c hx; ⟨v, o, ext _ o (hd _ (hc _ _ hx)) ho, h3⟩
  vloc := hl
  vcell := hc
  old := fun a ha => let ⟨o, ho⟩ := F.old a (List.mem_append_right _ ha); ⟨o, ext a o (hd a ha) ho⟩
  ok := F.ok

/-- the statement x = [..] -/
theorem ex_assign_comp {elt target iter : Expr} {ifs : List Expr} {scope : Scope} {pos spos py : Pos} {y : Str} {rest : List Stmt} {ds : List D} {b : D → List (Str × D)} {okD : D → Prop} {t : D → Bool} {f : D → D}
    {A : Around} {s : Shared} {E : Value → Shared → Prop} {Q : Flow → Shared → Prop} (hA : AOk n A) (hB : In0 h₀ V s) (F : Fm env V ρ s.heap)
    (hit : IT prog w h₀ n env V ρ iter ds) (co : CompOk scope env) (hT : Tgt prog w n scope target b okD) (hokD : ∀ d ∈ ds, okD d)
    (hdis : ∀ d ∈ ds, ∀ x dx, (caps scope ρ).lookup x = some dx → (b d).lookup x = Option.none)
    (htests : ∀ C V' d, d ∈ ds → TS prog w h₀ n (cEnv scope env C) V' (b d ++ caps scope ρ) ifs (t d))
    (helt : ∀ C V' d, d ∈ ds → t d = true → PE prog w h₀ n (cEnv scope env C) V' (b d ++ caps scope ρ) elt (f d))
    (hsz : ds.length ≤ sizeLine) (hk : env.kindOf y = some .local ∨ (env.kindOf y = some .cell ∧ (env.cells.lookup y).isSome = true))
    (q : ∀ s', Stp V s s' → Fm env V ((y, .list ((ds.filter t).map f)) :: ρ) s'.heap → In0 h₀ V s' → (∀ a o, a ∉ wAddr env y → s.heap.get? a = some o → s'.heap.get? a = some o) → wpAny (model prog w) A (execs rest env) Q E s')
    (hsw : autoParam (swapsWith (.ListComp elt [⟨target, iter, ifs, 0⟩] scope pos) (some (.Name y py)) spos.line env = pure true) tacRfl) (hfs : autoParam (∀ x, foldedSetIterable iter env x = pure x) tacIntroRfl) :
    wpAny (model prog w) A (execs (.Assign [.Name y py] (.ListComp elt [⟨target, iter, ifs, 0⟩] scope pos) spos :: rest) env) Q E s := by
  refine wpAny_execs_cons ?_
  rw [exec_Assign_Name_used _ _ _ _ hsw]
  refine wpAny_bind (wpAny_standAt (wpAny_bind ?_))
  show wpAny _ A (do let _ ← comprehension (.ListComp elt [⟨target, iter, ifs, 0⟩] scope pos) scope env _ (newList []) false (eval iter env) (some (assign (.Name y py) env))) _ _ s
  refine wpAny_bind ?_
  refine wp_stp (W := V) (R := fun _ s' => Fm env V ((y, .list ((ds.filter t).map f)) :: ρ) s'.heap ∧ (∀ a o, a ∉ wAddr env y → s.heap.get? a = some o → s'.heap.get? a = some o)) (fun E' Q' q' => ?_)
    (fun _ s' e h => wpAny_pure (wpAny_pure (q s' e h.1 (hB.write e.ext (Nat.le_trans hB.toks e.toks)) h.2)))
  refine comp_core hA hB F hit co hfs hT hokD [] (fun a ha => absurd ha List.not_mem_nil) (fun _ _ => True) t (fun _ d => f d) hdis (fun _ _ _ _ _ => trivial) trivial
    (fun C V' pre d post s₁ E Q hs _ hb hf _ hq => htests C V' d (by rw [hs]; simp) A s₁ E Q hA hb hf hq)
    (fun C V' pre d post s₁ E Q hs ht _ hb hf _ hq => helt C V' d (by rw [hs]; simp) ht A s₁ E Q hA hb hf fun x s' e r => hq x s' e r (hf.ext e.toStp0).old trivial)
    (fun _ _ _ _ _ => trivial) hsz fun a C s' ce _ => ?_
  show wpAny _ A (assign (.Name y py) env (.ref a)) _ _ s'
  have F' : Fm env ([C] ++ V) ρ s'.heap := F.grow (fun b o e => ce.kept b o List.not_mem_nil e) (fun a ha => by rw [List.mem_singleton.mp ha]; exact ce.fC)
    (fun a ha => by rw [List.mem_singleton.mp ha]; obtain ⟨m, o, _, _, ho, _⟩ := ce.ns; exact ⟨o, ho⟩)
  obtain ⟨ys, hl, hr⟩ := ce.list
  rw [outs_pure] at hr
  have hav : a ∉ V := fun hm => by obtain ⟨o, ho⟩ := F.old a hm; rw [ce.fa] at ho; cases ho
  have hwV : ∀ c ∈ wAddr env y, c ∈ V := fun c hc => by
    unfold wAddr at hc
    split at hc
    · rw [List.mem_singleton.mp hc]; exact F.vloc
    · cases hq : env.cells.lookup y with
      | none => rw [hq] at hc; cases hc
      | some c' => rw [hq] at hc; rw [List.mem_singleton.mp hc]; exact F.vcell y c' hq
  have hCV : C ∉ V := fun hm => by obtain ⟨o, ho⟩ := F.old C hm; rw [ce.fC] at ho; cases ho
  have r' : Rep (C :: V) s'.heap (.ref a) (.list ((ds.filter t).map f)) := .list (fun hm => (List.mem_cons.mp hm).elim ce.ne hav) hl hr
  refine wpAny_assign_Name (fm_store F' r' hk fun s'' e'' F'' k'' => ?_)
  have hCw : C ∉ wAddr env y := fun hm => hCV (hwV C hm)
  obtain ⟨m, hm⟩ := ce.ns
  have hm'' : s''.heap.Ns C m := hm.at' fun o e => k'' C o hCw e
  refine ⟨m, hm'', fun h' hs' => q' _ _ ⟨e''.gens.trans ce.gens, e''.os.trans ce.os, fun b o hb e => ?_⟩ ⟨?_, fun b o hb e => ?_⟩⟩
  · exact hs'.extBut b o (fun q => by rw [q, ce.fC] at e; cases e) (k'' b o (fun hm => hb (hwV b hm)) (ce.kept b o List.not_mem_nil e))
  · have ext : ExtB [C] s''.heap h' := fun b o hb e => hs'.extBut b o (by simpa using hb) e
    exact Fm.drop (W := [C]) F'' ext (fun a ha q => hCV (by rw [← List.mem_singleton.mp q]; exact ha)) F.vloc F.vcell
  · exact hs'.extBut b o (fun q => by rw [q, ce.fC] at e; cases e) (k'' b o hb (ce.kept b o List.not_mem_nil e))
end
end Mine
end

section
open PySem PySem.Calls PySem.W PyProof.Rows
set_option Elab.async false
namespace Mine
section
variable {prog : Program} {w : World} {h₀ : Heap} {n : Nat} {env : Env} {V : List Addr} {ρ : List (Str × D)}

noncomputable abbrev Kept (W : List Addr) (s s' : Shared) : Prop := ∀ a o, a ∉ W → s.heap.get? a = some o → s'.heap.get? a = some o

/-- what comes behind a statement -/
noncomputable def Behind (prog : Program) (w : World) (A : Around) (env : Env) (rest : List Stmt) (Q : Flow → Shared → Prop) (E : Value → Shared → Prop) (f : Flow) (s' : Shared) : Prop :=
  match f with | .next => wpAny (model prog w) A (execs rest env) Q E s' | f => Q f s'
theorem ex_cons {st : Stmt} {rest : List Stmt} {A : Around} {s : Shared} {E : Value → Shared → Prop} {Q : Flow → Shared → Prop} (h : wpAny (model prog w) A (exec st env) (Behind prog w A env rest Q E) E s) :
    wpAny (model prog w) A (execs (st :: rest) env) Q E s := by
  refine wpAny_execs_cons (wpAny_mono h (fun f s' h' => ?_) fun _ _ x => x)
  cases f <;> exact h'

theorem store_go {x : Str} {v : Value} {d : D} {A : Around} {s : Shared} {E : Value → Shared → Prop} {Q : Unit → Shared → Prop} (hB : In0 h₀ V s) (F : Fm env V ρ s.heap) (r : Rep V s.heap v d)
    (hk : env.kindOf x = some .local ∨ (env.kindOf x = some .cell ∧ (env.cells.lookup x).isSome = true))
    (q : ∀ s', Stp V s s' → Kept (wAddr env x) s s' → In0 h₀ V s' → Fm env V ((x, d) :: ρ) s'.heap → Q () s') : wpAny (model prog w) A (storeName env x v) Q E s :=
  wp_stp (W := V) (R := fun _ s' => Kept (wAddr env x) s s' ∧ Fm env V ((x, d) :: ρ) s'.heap) (fun _ _ q' => fm_store F r hk fun s' e F' k => q' () s' e ⟨k, F'⟩)
    fun _ s' e h => q s' e h.1 (hB.write e.ext (Nat.le_trans hB.toks e.toks)) h.2

theorem ex_assign {x : Str} {px pos : Pos} {e : Expr} {d : D} {rest : List Stmt} {A : Around} {s : Shared} {E : Value → Shared → Prop} {Q : Flow → Shared → Prop} (hA : AOk n A) (hB : In0 h₀ V s) (F : Fm env V ρ s.heap)
    (he : PE prog w h₀ n env V ρ e d) (hk : env.kindOf x = some .local ∨ (env.kindOf x = some .cell ∧ (env.cells.lookup x).isSome = true))
    (q : ∀ s', Stp V s s' → Kept (wAddr env x) s s' → In0 h₀ V s' → Fm env V ((x, d) :: ρ) s'.heap → wpAny (model prog w) A (execs rest env) Q E s')
    (hsw : autoParam (swapsWith e (some (.Name x px)) pos.line env = pure false) tacRfl) : wpAny (model prog w) A (execs (.Assign [.Name x px] e pos :: rest) env) Q E s := by
  refine ex_cons (wpAny_Assign_Name (he A s E _ hA hB F fun v s₁ e₁ r₁ => ?_) hsw)
  exact store_go (hB.stp e₁) (F.ext e₁.toStp0) r₁ hk fun s' e' k' b' f' => q s' (e₁.nil.trans e') (fun a o ha ho => k' a o ha (e₁.keep a o ho)) b' f'

/-- an operator in place -/
noncomputable def I2 (prog : Program) (w : World) (n : Nat) (V : List Addr) (op : Operator) (a b d : D) : Prop :=
  ∀ (A : Around) (s : Shared) (E : Value → Shared → Prop) (Q : Value → Shared → Prop) (v u : Value), AOk n A → Old V s.heap → Rep V s.heap v a → Rep V s.heap u b →
    (∀ x s', Stp0 [] s s' → Rep V s'.heap x d → Q x s') → wpAny (model prog w) A (inplaceOp op v u) Q E s
theorem i2_div {a b : Int} (hb : b ≠ 0) (hs : b.natAbs < 1073741824) : I2 prog w n V .FloorDiv (.int a) (.int b) (.int (a.fdiv b)) := by
  intro A s E Q v u _ _ rv ru q
  (first | obtain ⟨_, rfl⟩ := rv.toInt | obtain ⟨_, rfl⟩ := rv.toStr | obtain rfl := rv.toNone | obtain rfl := rv.toBool | obtain rfl := rv.toObj | obtain rfl := rv.toTy | obtain rfl := rv.toNil | cases rv); (first | obtain ⟨_, rfl⟩ := ru.toInt | obtain ⟨_, rfl⟩ := ru.toStr | obtain rfl := ru.toNone | obtain rfl := ru.toBool | obtain rfl := ru.toObj | obtain rfl := ru.toTy | obtain rfl := ru.toNil | cases ru); exact PyProof.Rows.ifloordiv_int hb (q _ _ (.toks _ _) (.int _ _)) (.inl (PyProof.noPylong_small hs))
theorem ex_aug {x : Str} {px pos : Pos} {op : Operator} {e : Expr} {a b d : D} {rest : List Stmt} {A : Around} {s : Shared} {E : Value → Shared → Prop} {Q : Flow → Shared → Prop} (hA : AOk n A) (hB : In0 h₀ V s) (F : Fm env V ρ s.heap)
    (hx : ρ.lookup x = some a) (he : PE prog w h₀ n env V ρ e b) (ho : I2 prog w n V op a b d) (hk : env.kindOf x = some .local ∨ (env.kindOf x = some .cell ∧ (env.cells.lookup x).isSome = true))
    (q : ∀ s', Stp V s s' → Kept (wAddr env x) s s' → In0 h₀ V s' → Fm env V ((x, d) :: ρ) s'.heap → wpAny (model prog w) A (execs rest env) Q E s') : wpAny (model prog w) A (execs (.AugAssign (.Name x px) op e pos :: rest) env) Q E s := by
  refine ex_cons (wpAny_AugAssign_Name ?_)
  obtain ⟨v, hv, r⟩ := F.names x a hx
  have go : wpAny (model prog w) A (eval e env) (fun v' s₂ => wpAny (model prog w) A (inplaceOp op v v') (fun r s₃ => wpAny (model prog w) A (storeName env x r) (fun _ => Behind prog w A env rest Q E .next) E s₃) E s₂) E s := by
    refine he A s E _ hA hB F fun u s₁ e₁ r₁ => ?_
    refine wp_stp (W := []) (fun E' Q' q' => ho A s₁ E' Q' v u hA (F.ext e₁.toStp0).old (r.stp0 e₁.toStp0) r₁ q') fun y s₂ e₂ r₂ => ?_
    have e' := e₁.trans e₂
    exact store_go (hB.stp e') (F.ext e'.toStp0) r₂ hk fun s' e'' k' b' f' => q s' (e'.nil.trans e'') (fun a o ha ho => k' a o ha (e'.keep a o ho)) b' f'
  cases hv with
  | loc a b c => exact wpAny_loadName_local F.ok.kind a b c go
  | cell a b c => exact wpAny_loadName_cell F.ok.kind a b c go
  | free a b c => rcases hk with h | h <;> simp [a] at h

theorem ex_if {test : Expr} {body orelse rest : List Stmt} {pos : Pos} {c : Bool} {A : Around} {s : Shared} {E : Value → Shared → Prop} {Q : Flow → Shared → Prop} (hA : AOk n A) (hB : In0 h₀ V s) (F : Fm env V ρ s.heap)
    (ht : PT prog w h₀ n env V ρ test c)
    (h1 : c = true → ∀ s', Stp [] s s' → In0 h₀ V s' → Fm env V ρ s'.heap → wpAny (model prog w) A (execs body env) (Behind prog w A env rest Q E) E s')
    (h2 : c = false → ∀ s', Stp [] s s' → In0 h₀ V s' → Fm env V ρ s'.heap → wpAny (model prog w) A (execs orelse env) (Behind prog w A env rest Q E) E s') :
    wpAny (model prog w) A (execs (.If test body orelse pos :: rest) env) Q E s := by
  refine ex_cons (wpAny_If (ht A s E _ hA hB F fun s₁ e₁ => ?_))
  cases c with
  | true => exact h1 rfl s₁ e₁ (hB.stp e₁) (F.ext e₁.toStp0)
  | false => exact h2 rfl s₁ e₁ (hB.stp e₁) (F.ext e₁.toStp0)

theorem ex_nil {A : Around} {s : Shared} {E : Value → Shared → Prop} {Q : Flow → Shared → Prop} (h : Q .next s) : wpAny (model prog w) A (execs [] env) Q E s := wpAny_execs_nil h

theorem ex_ret {e : Expr} {pos : Pos} {rest : List Stmt} {d : D} {A : Around} {s : Shared} {E : Value → Shared → Prop} {Q : Flow → Shared → Prop} (hA : AOk n A) (hB : In0 h₀ V s) (F : Fm env V ρ s.heap)
    (he : PE prog w h₀ n env V ρ e d) (q : ∀ v s', Stp [] s s' → Rep V s'.heap v d → Q (.ret v) s') : wpAny (model prog w) A (execs (.Return (some e) pos :: rest) env) Q E s :=
  ex_cons (wpAny_Return_some (he A s E _ hA hB F fun v s' e' r => q v s' e' r))

/-- the loop's rule with a target of any kind -/
theorem for_any {A : Around} {s : Shared} {R : Result → Shared → Prop} {target : Expr} {it : Value} {body : List Stmt} (J : Nat → Shared → Prop)
    (turn : ∀ m s (E : Value → Shared → Prop), J m s → wpAny (model prog w) A (pyNext it) (fun r s₁ => match r with
      | none => R (.ok .next) s₁
      | some v => wpAny (model prog w) A (letOwnedTupleGo target it v) (fun _ s₁ => wpAny (model prog w) A (assign target env v) (fun _ s₂ => wpAny (model prog w) A (execs body env) (fun f s₃ => match f with
          | .next | .cont => ∃ m', m' < m ∧ J m' s₃
          | .brk => R (.ok .next) s₃
          | .ret v => R (.ok (.ret v)) s₃) E s₂) E s₁) E s₁) E s)
    (m : Nat) (h : J m s) : codeAny (model prog w) A (.forLoop target it body [] env) R s := by
  refine codeAny_loop' rfl J (fun m s hJ => ?_) m h
  show wpAny _ _ ((forTurn target it body [] env).onRaise (fun x => do noteFrame x env; theTreesLotGoes x)) _ _ s
  refine wpAny_noted ?_
  simp only [forTurn]
  refine wpAny_bind (wpAny_standAt (wpAny_bind (wpAny_onRaise (wpAny_mono (turn m s _ hJ) (fun r s₁ h₁ => ?_) fun _ _ h' => wpAny_standAt h'))))
  cases r with
  | none => exact wpAny_pure (.inr ⟨rfl, codeAny_block (wpAny_execs_nil h₁)⟩)
  | some v =>
    refine wpAny_bind (wpAny_mono h₁ (fun _ s₁ h₁ => wpAny_bind (wpAny_mono h₁ (fun _ s₂ h₂ => wpAny_bind (wpAny_mono h₂ (fun f s₃ h₃ => ?_) fun _ _ h' => h')) fun _ _ h' => h')) fun _ _ h' => h')
    cases f with
    | next => exact wpAny_pure (.inl ⟨rfl, h₃⟩)
    | cont => exact wpAny_pure (.inl ⟨rfl, h₃⟩)
    | brk => exact wpAny_pure h₃
    | ret v => exact wpAny_pure h₃

/-- a for over data, by an invariant over what was taken -/
theorem ex_for {target iter : Expr} {body rest : List Stmt} {pos : Pos} {ds : List D} {A : Around} {s : Shared} {E : Value → Shared → Prop} {Q : Flow → Shared → Prop} (hA : AOk n A) (hB : In0 h₀ V s) (F : Fm env V ρ s.heap)
    (hit : IT prog w h₀ n env V ρ iter ds) (Inv : Addr → List D → Shared → Prop)
    (hInv : ∀ I pre s₁ s₂, Inv I pre s₁ → Stp0 [I] s₁ s₂ → (∃ o, s₂.heap.get? I = some o) → Inv I pre s₂)
    (start : ∀ I s', Stp [] s s' → s.heap.get? I = Option.none → (∃ o, s'.heap.get? I = some o) → In0 h₀ (I :: V) s' → Inv I [] s')
    (turn : ∀ I pre d post s₁ v (E' : Value → Shared → Prop), ds = pre ++ d :: post → s.heap.get? I = Option.none → I ∉ V → Inv I pre s₁ → Rep (I :: V) s₁.heap v d → In0 h₀ (I :: V) s₁ →
      wpAny (model prog w) A (assign target env v) (fun _ s₂ => wpAny (model prog w) A (execs body env) (fun f s₃ => match f with
        | .next | .cont => Stp0 V s₁ s₃ ∧ Inv I (pre ++ [d]) s₃
        | .brk => wpAny (model prog w) A (execs rest env) Q E s₃
        | .ret u => Q (.ret u) s₃) E' s₂) E' s₁)
    (fin : ∀ I s₁ s₂, s.heap.get? I = Option.none → I ∉ V → Inv I ds s₁ → Stp [I] s₁ s₂ → In0 h₀ (I :: V) s₁ → In0 h₀ V s₂ → wpAny (model prog w) A (execs rest env) Q E s₂)
    (hfs : autoParam (∀ x, foldedSetIterable iter env x = pure x) tacIntroRfl) : wpAny (model prog w) A (execs (.For target iter body [] pos :: rest) env) Q E s := by
  refine ex_cons (wpAny_For ?_ hfs)
  refine hit A s E _ hA hB F fun I s₁ e₁ hI hIl hW => ?_
  obtain ⟨St, W, st⟩ := hW [] (fun a ha => absurd ha List.not_mem_nil)
  simp only [List.nil_append] at W
  have hIV : I ∉ V := fun hm => by obtain ⟨o, ho⟩ := F.old I hm; rw [hI] at ho; cases ho
  have hn : ∀ a ∈ I :: V, h₀.get? a = Option.none := fun a ha => (List.mem_cons.mp ha).elim (fun e => by rw [e]; exact none_of_ext hB.ext hI) (hB.new a)
  have hB₁ : In0 h₀ (I :: V) s₁ := ⟨fun b o e => e₁.keep b o (hB.ext b o e), Nat.le_trans hB.toks e₁.toks, hn⟩
  have inI : ∀ a ∈ [I], a ∈ I :: V := fun a ha => by rw [List.mem_singleton.mp ha]; exact .head _
  refine for_any (J := fun m s' => ∃ i, m = ds.length + 1 - i ∧ i ≤ ds.length ∧ St i s'.heap ∧ Inv I (ds.take i) s' ∧ In0 h₀ (I :: V) s') ?_ (ds.length + 1)
    ⟨0, rfl, Nat.zero_le _, st, start I s₁ e₁ hI hIl hB₁, hB₁⟩
  rintro m s₂ E' ⟨i, rfl, hi, st₂, inv₂, hB₂⟩
  cases hd : ds[i]? with
  | none =>
    have hin : i = ds.length := by have := List.getElem?_eq_none_iff.mp hd; omega
    subst hin
    rw [List.take_length] at inv₂
    refine wpAny_with_toks (Nat.le_refl s₂.toks) (W.done s₂ _ _ st₂ fun s₃ e23 ht => ?_)
    have ext : ExtB (I :: V) s₂.heap s₃.heap := fun b o hb e => e23.ext b o (fun hm => hb (inI b hm)) e
    have hB₃ := hB₂.write ext (Nat.le_trans hB₂.toks ht)
    exact fin I s₂ s₃ hI hIV inv₂ ⟨e23, ht⟩ hB₂ ⟨hB₃.ext, hB₃.toks, hB.new⟩
  | some d =>
    have hlt : i < ds.length := (List.getElem?_eq_some_iff.mp hd).1
    have hsplit : ds = ds.take i ++ d :: ds.drop (i + 1) := by
      have h1 := List.take_append_drop i ds
      have h2 : ds.drop i = d :: ds.drop (i + 1) := by
        rw [List.drop_eq_getElem_cons hlt]
        congr 1
        exact (List.getElem?_eq_some_iff.mp hd).2
      rw [h2] at h1; exact h1.symm
    refine wpAny_with_toks hB₂.toks (W.item i s₂ _ _ d hd st₂ fun v s₃ rv st₃ e23 ht₃ => ?_)
    have ext : ExtB (I :: V) s₂.heap s₃.heap := fun b o hb e => e23.ext b o (fun hm => hb (inI b hm)) e
    have hB₃ := hB₂.write ext ht₃
    have aliveI : ∃ o, s₃.heap.get? I = some o := let ⟨o, _, ho, _⟩ := W.cls _ _ st₃; ⟨o, ho⟩
    refine own_tuple_go W st₃ ?_
    refine wpAny_with_toks hB₃.toks (wpAny_mono (turn I _ d _ s₃ v _ hsplit hI hIV (hInv _ _ _ _ inv₂ e23 aliveI) rv hB₃) (fun _ s₄ h₄ ht₄ => wpAny_with_toks ht₄ (wpAny_mono h₄ (fun f s₅ h₅ ht₅ => ?_) fun _ _ x => x)) fun _ _ x => x)
    have key : Stp0 V s₃ s₅ ∧ Inv I (ds.take i ++ [d]) s₅ → ∃ m', m' < ds.length + 1 - i ∧ ∃ i, m' = ds.length + 1 - i ∧ i ≤ ds.length ∧ St i s₅.heap ∧ Inv I (ds.take i) s₅ ∧ In0 h₀ (I :: V) s₅ := fun ⟨e35, inv₅⟩ => by
      have ext' : ExtB (I :: V) s₃.heap s₅.heap := fun b o hb e => e35.ext b o (fun hm => hb (.tail _ hm)) e
      refine ⟨ds.length + 1 - (i + 1), by omega, i + 1, rfl, hlt, W.frame _ _ _ st₃ ext' fun o e => e35.ext I o hIV e, ?_, hB₃.write ext' ht₅⟩
      rw [take_snoc hd]; exact inv₅
    cases f with
    | next => exact key h₅
    | cont => exact key h₅
    | brk => exact h₅
    | ret u => exact h₅

/-- a while, by an invariant and a measure -/
theorem ex_while {test : Expr} {body rest : List Stmt} {pos : Pos} {A : Around} {s : Shared} {E : Value → Shared → Prop} {Q : Flow → Shared → Prop} (Inv : Nat → Shared → Prop) (m : Nat) (h0 : Inv m s)
    (turn : ∀ m s (E' : Value → Shared → Prop), Inv m s → wpAny (model prog w) A (isTrue test env (eval test env)) (fun b s₂ =>
      if b then wpAny (model prog w) A (execs body env) (fun f s₃ => match f with
        | .next | .cont => ∃ m', m' < m ∧ Inv m' s₃
        | .brk => wpAny (model prog w) A (execs rest env) Q E s₃
        | .ret v => Q (.ret v) s₃) E' s₂
      else wpAny (model prog w) A (execs rest env) Q E s₂) E' s) :
    wpAny (model prog w) A (execs (.While test body [] pos :: rest) env) Q E s := by
  refine ex_cons (wpAny_While (codeAny_whileLoop Inv (fun m s hI => ?_) m h0))
  refine wpAny_mono (turn m s _ hI) (fun b s₂ h₂ => ?_) fun _ _ x => x
  cases b with
  | false => exact wpAny_execs_nil h₂
  | true =>
    refine wpAny_mono h₂ (fun f s₃ h₃ => ?_) fun _ _ x => x
    cases f <;> exact h₃

/-- an owned list -/
noncomputable def OwnL (V : List Addr) (h : Heap) (a : Addr) (ds : List D) : Prop := ∃ vs, h.PlainList a vs ∧ RepL V h vs.toList ds
theorem OwnL.ext {W : List Addr} {h h' : Heap} {a : Addr} {ds : List D} (o : OwnL V h a ds) (ext : ExtB W h h') (hW : ∀ x ∈ W, x ∈ V) (ha : a ∉ W) : OwnL V h' a ds :=
  let ⟨vs, hl, hr⟩ := o; ⟨vs, hl.at fun x e => ext a x ha e, hr.ext hW ext⟩

theorem ex_append {x : Str} {nx apos pos spos : Pos} {e : Expr} {d : D} {a : Addr} {ds : List D} {rest : List Stmt} {A : Around} {s : Shared} {E : Value → Shared → Prop} {Q : Flow → Shared → Prop} (hA : AOk n A) (hB : In0 h₀ V s) (F : Fm env V ρ s.heap)
    (hx : ρ.lookup x = some (.obj a)) (ho : OwnL V s.heap a ds) (hav : a ∈ V) (han : ¬ Own env a) (he : PE prog w h₀ n env V ρ e d) (hsz : ds.length ≤ sizeLine)
    (q : ∀ s', Stp [a] s s' → In0 h₀ V s' → Fm env V ρ s'.heap → OwnL V s'.heap a (ds ++ [d]) → wpAny (model prog w) A (execs rest env) Q E s')
    (hst : autoParam (starEach [e] env = [(false, eval e env)]) tacRfl) (hi : autoParam (interactive env = false) tacRfl) (hsw : autoParam (swapsWith (.Call (.Attribute (.Name x nx) "append" apos) [e] [] pos) none spos.line env = pure false) tacRfl) (hline : autoParam ((apos.endLine == pos.line) = true) tacRfl)
    (hd : autoParam ((x == ("__debug__" : Str)) = false) tacDecide) (hc : autoParam ((x == ("__classdict__" : Str)) = false) tacDecide) :
    wpAny (model prog w) A (execs (.Expr (.Call (.Attribute (.Name x nx) "append" apos) [e] [] pos) spos :: rest) env) Q E s := by
  refine ex_cons (wpAny_Expr (wpAny_Call_append rfl (by rw [hst]; rfl) hline (by rw [hst]; rfl) ?_) hi hsw)
  refine pe_name hx hd hc A s E _ hA hB F fun v s₁ e₁ r₁ => ?_
  (first | obtain ⟨_, rfl⟩ := r₁.toInt | obtain ⟨_, rfl⟩ := r₁.toStr | obtain rfl := r₁.toNone | obtain rfl := r₁.toBool | obtain rfl := r₁.toObj | obtain rfl := r₁.toTy | obtain rfl := r₁.toNil | cases r₁)
  obtain ⟨vs, hl, hr⟩ := ho
  have hl₁ := hl.at fun o e => e₁.keep a o e
  refine ⟨a, vs, rfl, ?_, ?_⟩
  · obtain ⟨k, hk⟩ := hl₁
    exact ⟨_, k, hk, rfl, rfl, rfl⟩
  · refine he A s₁ E _ hA (hB.stp e₁) (F.ext e₁.toStp0) fun u s₂ e₂ r₂ => ?_
    have e02 := e₁.trans e₂
    have F₂ := F.ext e02.toStp0
    refine wpAny_with_toks (Nat.le_refl s₂.toks) (wpAny_list_append_plain (hl.at fun o e => e02.keep a o e) (fun h' hl' hs' ht => ?_) (by rw [hr.toArray]; exact hsz))
    have ext : ExtB [a] s₂.heap h' := fun b o hb e => hs'.extBut b o (by simpa using hb) e
    have inA : ∀ b ∈ [a], b ∈ V := fun b hb => by rw [List.mem_singleton.mp hb]; exact hav
    have extV : ExtB V s₂.heap h' := fun b o hb e => ext b o (fun hm => hb (inA b hm)) e
    have hB' := (hB.stp e02).write (s' := { s₂ with heap := h' }) extV (Nat.le_trans (hB.stp e02).toks ht)
    refine q _ (e02.nil.trans ⟨⟨rfl, rfl, ext⟩, ht⟩) hB' (F₂.write ext inA (fun hm => han (.inl (List.mem_singleton.mp hm).symm)) (fun y c hy hm => han (.inr ⟨y, by rw [← List.mem_singleton.mp hm]; exact hy⟩)) (fun b hb => ?_)) ⟨_, hl', ?_⟩
    · rw [List.mem_singleton.mp hb]; obtain ⟨k, hk⟩ := hl'; exact ⟨_, hk⟩
    · have := ((hr.stp0 e02.toStp0).append (.cons r₂ .nil)).ext inA ext
      simpa using this
end
end Mine
end

section
open PySem PySem.Calls PySem.W PyProof.Rows
set_option Elab.async false
namespace Mine

/-- a body's state: s0 is the state ahead of the call; of what stood there W alone may be written -/
structure Bd (h₀ : Heap) (W : List Addr) (s0 : Shared) (env : Env) (V : List Addr) (ρ : List (Str × D)) (s : Shared) : Prop where
  fm : Fm env V ρ s.heap
  in0 : In0 h₀ V s
  keep : ExtB W s0.heap s.heap
  gens : s.gens = s0.gens
  os : s.os = s0.os
  newO : ∀ a, Own env a → s0.heap.get? a = none

section
variable {prog : Program} {w : World} {h₀ : Heap} {n : Nat} {env : Env} {V W : List Addr} {ρ : List (Str × D)} {s0 : Shared}

theorem wAddr_own {x : Str} {a : Addr} (h : a ∈ wAddr env x) : Own env a := by
  unfold wAddr at h
  split at h
  · exact .inl (List.mem_singleton.mp h)
  · cases hc : env.cells.lookup x with
    | none => rw [hc] at h; cases h
    | some c => rw [hc] at h; rw [List.mem_singleton.mp h]; exact .inr ⟨x, hc⟩

/-- a def of the text -/
structure Fn (h₀ : Heap) (f : Addr) (fd : FuncData) (body : List Stmt) : Prop where
  obj : ∃ o, h₀.get? f = some o ∧ o.data = .func fd
  body : fd.body = .stmts body
  code : h₀.CodeRec fd.code fd.qualname
  clo : fd.closure = []
  gl : fd.globals = mainGlobals
  bl : fd.builtins = builtinsNs
  co : fd.scope.isCoroutine = false
  gen : fd.scope.isGenerator = false
  kind : fd.scope.kind = .function

theorem bindL_not {kindOf : Str → Option NameKind} {x : Str} : ∀ (binds : List (Str × Value)) (m : Str → Option Value), x ∉ binds.map (·.1) → bindL kindOf binds m x = m x
  | [], _, _ => rfl
  | (y, u) :: r, m, h => by
    have hy : x ≠ y := fun e => h (by rw [e]; exact .head _)
    unfold bindL
    rw [bindL_not r _ fun q => h (.tail _ q)]
    split
    · exact if_neg hy
    · rfl
theorem bindC_not {kindOf : Str → Option NameKind} {x : Str} : ∀ (binds : List (Str × Value)) (m : Str → Option Value), x ∉ binds.map (·.1) → bindC kindOf binds m x = m x
  | [], _, _ => rfl
  | (y, u) :: r, m, h => by
    have hy : x ≠ y := fun e => h (by rw [e]; exact .head _)
    unfold bindC
    rw [bindC_not r _ fun q => h (.tail _ q)]
    split
    · rfl
    · exact if_neg hy
theorem bindL_has {kindOf : Str → Option NameKind} {x : Str} {v : Value} (hk : kindOf x = some .local) : ∀ (binds : List (Str × Value)) (m : Str → Option Value), (binds.map (·.1)).Nodup → binds.lookup x = some v → bindL kindOf binds m x = some v
  | [], _, _, h => by cases h
  | (y, u) :: r, m, hn, h => by
    have hn' := List.nodup_cons.mp hn
    unfold bindL
    by_cases e : x = y
    · subst e
      rw [List.lookup_cons_self] at h; cases h
      rw [bindL_not r _ hn'.1, if_pos hk, if_pos rfl]
    · rw [List.lookup_cons, show (x == y) = false by simpa using e] at h
      exact bindL_has hk r _ hn'.2 h
theorem bindC_has {kindOf : Str → Option NameKind} {x : Str} {v : Value} (hk : kindOf x = some .cell) : ∀ (binds : List (Str × Value)) (m : Str → Option Value), (binds.map (·.1)).Nodup → binds.lookup x = some v → bindC kindOf binds m x = some v
  | [], _, _, h => by cases h
  | (y, u) :: r, m, hn, h => by
    have hn' := List.nodup_cons.mp hn
    unfold bindC
    by_cases e : x = y
    · subst e
      rw [List.lookup_cons_self] at h; cases h
      rw [bindC_not r _ hn'.1, if_neg (by rw [hk]; decide), if_pos rfl]
    · rw [List.lookup_cons, show (x == y) = false by simpa using e] at h
      exact bindC_has hk r _ hn'.2 h

theorem lookup_zip_rep {h : Heap} {x : Str} {d : D} : ∀ {binds : List (Str × Value)} {ds : List D}, RepL V h (binds.map (·.2)) ds → ((binds.map (·.1)).zip ds).lookup x = some d → ∃ v, binds.lookup x = some v ∧ Rep V h v d
  | [], _, _, hx => by simp at hx
  | (y, u) :: r, _, .cons ru rs, hx => by
    rw [List.map_cons, List.zip_cons_cons] at hx
    by_cases e : x = y
    · subst e
      rw [List.lookup_cons_self] at hx ⊢; cases hx
      exact ⟨u, rfl, ru⟩
    · rw [List.lookup_cons, show (x == y) = false by simpa using e] at hx ⊢
      exact lookup_zip_rep rs hx

/-- the call of a def -/
theorem fn_code {f : Addr} {fd : FuncData} {body : List Stmt} {params : List Str} {ds : List D} {args : Args} {A : Around} {s : Shared} {R : Result → Shared → Prop} (K : Fn h₀ f fd body) (hlim : h₀.NoLimit) (hA : AOk (n + 1) A) (hB : In0 h₀ V s) (hold : Old V s.heap)
    (hbind : ∀ (E : Value → Shared → Prop) (Q : List (Str × Value) → Shared → Prop), (∀ binds s', Stp0 [] s s' → binds.map (·.1) = params → RepL V s'.heap (binds.map (·.2)) ds → Q binds s') → wpAny (model prog w) A.in1 (bindArgs fd args) Q E s)
    (hnd : params.Nodup) (hkind : ∀ x ∈ params, fd.scope.names.lookup x = some .local ∨ fd.scope.names.lookup x = some .cell)
    (hbody : ∀ L s₁ U (E : Value → Shared → Prop), (∀ a ∈ U, s.heap.get? a = none) → (∀ a, a ∈ U ↔ Own (callEnvC fd L f) a) → Bd h₀ [] s (callEnvC fd L f) (U ++ V) (params.zip ds) s₁ →
      wpAny (model prog w) (A.deeper (callEnvC fd L f)) (execs body (callEnvC fd L f)) (fun fl s' => R (.ok (.ret (match fl with | .ret v => v | _ => .none))) s') E s₁) :
    codeAny (model prog w) A (.call (.ref f) args) R s := by
  obtain ⟨o, ho, hd⟩ := K.obj
  refine codeAny_call_function hA.room (hB.ext _ _ ho) hd K.co K.gen K.body (K.code.keeps hB.ext) ?_
  refine wpAny_with_toks (Nat.le_refl s.toks) (hbind _ _ fun binds s₁ e₁ hp hr ht₁ => ?_)
  rw [K.clo]
  have hsub : ∀ p ∈ binds, p.1 ∈ params := fun p hm => by rw [← hp]; exact List.mem_map_of_mem hm
  refine wpAny_with_toks (Nat.le_refl s₁.toks) (wpAny_newFunctionEnv_cells K.kind (fun p hm => (hkind p.1 (hsub p hm)).imp id fun h => ⟨h, cellsFrom_some _ _ _ (.inl h)⟩) fun env he s₂ x ht₂ => ?_)
  have henv : env = callEnvC fd s₁.heap.objs.size f := he
  subst henv
  have keep12 : Ext s₁.heap s₂.heap := x.toInCall.keep
  have keep02 : Ext s.heap s₂.heap := fun b o e => keep12 b o (e₁.keep b o e)
  obtain ⟨h2, tk2, hs2⟩ := x.toInCall.same
  refine ⟨hlim.keeps fun b o e => keep02 b o (hB.ext b o e), codeAny_func ?_⟩
  have ownNew : ∀ a, Own (callEnvC fd s₁.heap.objs.size f) a → s₁.heap.get? a = none ∧ ∃ o, s₂.heap.get? a = some o := by
    rintro a (h | ⟨y, hy⟩)
    · have h' : a = s₁.heap.objs.size := h
      rw [h']
      refine ⟨fresh_none _, ?_⟩
      obtain ⟨o, _, _, ho, _⟩ := x.toInCall.ns
      exact ⟨o, ho⟩
    · have hlt : s₁.heap.objs.size < a := x.above y a (mem_of_lookup hy)
      refine ⟨?_, ?_⟩
      · cases e : s₁.heap.get? a with
        | none => rfl
        | some o => exact absurd (Nat.lt_trans (Heap.lt_size e) hlt) (Nat.lt_irrefl _)
      · obtain ⟨o, ho, _⟩ := x.cell y a hy; exact ⟨o, ho⟩
  obtain ⟨U, hU⟩ : ∃ U : List Addr, ∀ a, a ∈ U ↔ Own (callEnvC fd s₁.heap.objs.size f) a := by
    refine ⟨(callEnvC fd s₁.heap.objs.size f).locals :: ((callEnvC fd s₁.heap.objs.size f).cells.map (·.1)).filterMap ((callEnvC fd s₁.heap.objs.size f).cells.lookup ·), fun a => ?_⟩
    rw [List.mem_cons, List.mem_filterMap]
    refine ⟨fun h => h.imp id fun ⟨y, _, hy⟩ => ⟨y, hy⟩, fun h => h.imp id fun ⟨y, hy⟩ => ⟨y, List.mem_map_of_mem (mem_of_lookup hy), hy⟩⟩
  have hUn : ∀ a ∈ U, s.heap.get? a = none := fun a ha => none_of_ext e₁.keep (ownNew a ((hU a).mp ha)).1
  have hB2 : In0 h₀ (U ++ V) s₂ := ⟨fun b o e => keep02 b o (hB.ext b o e), Nat.le_trans hB.toks (Nat.le_trans ht₁ ht₂), fun a ha => (List.mem_append.mp ha).elim (fun h => none_of_ext hB.ext (hUn a h)) (hB.new a)⟩
  have ok : EnvOk (callEnvC fd s₁.heap.objs.size f) := by
    refine ⟨K.kind, fun y z c hy hz => name_of_addr x.apart (mem_of_lookup hy) (mem_of_lookup hz), fun y c hy e => ?_, K.gl, K.bl⟩
    have hlt : s₁.heap.objs.size < c := x.above y c (mem_of_lookup hy)
    have e' : c = s₁.heap.objs.size := e
    rw [e'] at hlt; exact Nat.lt_irrefl _ hlt
  have hf : Fm (callEnvC fd s₁.heap.objs.size f) (U ++ V) (params.zip ds) s₂.heap := by
    refine ⟨fun y d hy => ?_, ⟨_, x.toInCall.ns⟩, fun y c hc => ⟨_, x.cell y c hc⟩, List.mem_append_left _ ((hU _).mpr (.inl rfl)), fun y c hc => List.mem_append_left _ ((hU _).mpr (.inr ⟨y, hc⟩)), fun a ha => ?_, ok⟩
    · rw [← hp] at hy hnd
      obtain ⟨v, hv, rv⟩ := lookup_zip_rep hr hy
      have hmem : y ∈ params := hsub (y, v) (mem_of_lookup hv)
      refine ⟨v, ?_, ((rv.shun fun a o ha ho hm => ?_).ext (W := []) (fun _ q => absurd q List.not_mem_nil) fun b o _ e => keep12 b o e)⟩
      · rcases hkind y hmem with h | h
        · exact .loc h x.toInCall.ns (bindL_has h _ _ hnd hv)
        · obtain ⟨c, hc⟩ := Option.isSome_iff_exists.mp (cellsFrom_some (x := y) fd.scope.names (s₁.heap.objs.size + 1) [] (.inl h))
          refine .cell h hc ?_
          have := x.cell y c hc
          rw [bindC_has h _ _ hnd hv] at this
          exact this
      · rcases List.mem_append.mp hm with hm | hm
        · rw [(ownNew a ((hU a).mp hm)).1] at ho; cases ho
        · exact ha hm
    · rcases List.mem_append.mp ha with ha | ha
      · exact (ownNew a ((hU a).mp ha)).2
      · obtain ⟨o, ho⟩ := hold a ha; exact ⟨o, keep02 a o ho⟩
  exact hbody _ s₂ U _ hUn hU ⟨hf, hB2, fun b o _ e => keep02 b o e, by rw [hs2]; exact e₁.gens, by rw [hs2]; exact e₁.os, fun a ha => hUn a ((hU a).mpr ha)⟩

/-- a pure def: a contract -/
theorem cl_fn {f : Addr} {fd : FuncData} {body : List Stmt} {params : List Str} {ds : List D} {d : D} (K : Fn h₀ f fd body) (hlim : h₀.NoLimit)
    (hbind : ∀ vals : List Value, vals.length = params.length → bindArgs fd ⟨vals, []⟩ = pure (params.zip vals)) (hlen : ds.length = params.length)
    (hnd : params.Nodup) (hkind : ∀ x ∈ params, fd.scope.names.lookup x = some .local ∨ fd.scope.names.lookup x = some .cell)
    (hbody : ∀ (A : Around) (s s₁ : Shared) (L : Addr) (U : List Addr) (E : Value → Shared → Prop) (Q : Flow → Shared → Prop), AOk n A → (∀ a ∈ U, s.heap.get? a = none) → Old V s.heap → (∀ a, a ∈ U ↔ Own (callEnvC fd L f) a) →
      Bd h₀ [] s (callEnvC fd L f) (U ++ V) (params.zip ds) s₁ → (∀ v s' V', (∀ a ∈ V, a ∈ V') → Ext s.heap s'.heap → s'.gens = s.gens → s'.os = s.os → Rep V' s'.heap v d → Q (.ret v) s') →
      wpAny (model prog w) A (execs body (callEnvC fd L f)) Q E s₁) :
    CL prog w h₀ (n + 1) V (.ref f) ds d := by
  intro A s E Q vs hA hB hold hr q
  refine wpAny_call (fn_code (n := n) (params := params) (ds := ds) K hlim hA hB hold (fun E' Q' q' => ?_) hnd hkind fun L s₁ U E' hUn hU b => ?_)
  · rw [hbind vs (by rw [hr.length, hlen])]
    refine wpAny_pure (q' _ s (.refl _) ?_ ?_)
    · rw [List.map_fst_zip]; rw [hr.length, hlen]; exact Nat.le_refl _
    · rw [List.map_snd_zip]
      · exact hr
      · rw [hr.length, hlen]; exact Nat.le_refl _
  · refine hbody _ s s₁ L U E' _ hA.deeper hUn hold hU b fun v s' V' hV e g o r => q v s' ⟨g, o, fun b o _ x => e b o x⟩ (r.shun fun a _ ha _ hm => ha (hV a hm))
end
end Mine
end

section
open PySem PySem.Calls PySem.W PyProof.Rows
set_option Elab.async false
namespace Mine
open Sre

inductive Reach : Nat → M → M → Prop
  | refl (m) : Reach 0 m m
  | step {k m m'} : m.outcome = none → Reach k m.step m' → Reach (k + 1) m m'
theorem Reach.trans {j k : Nat} {m m' m'' : M} (x : Reach j m m') (y : Reach k m' m'') : Reach (j + k) m m'' := by
  induction x with
  | refl => rw [Nat.zero_add]; exact y
  | step h _ ih => rw [Nat.add_right_comm]; exact .step h (ih y)
theorem Reach.run {k : Nat} {m m' : M} (x : Reach k m m') (h : m'.outcome.isSome = true) : ∀ n, k ≤ n → M.runFor n m = m' := by
  induction x with
  | refl m =>
    intro n _
    cases n with
    | zero => rfl
    | succ n => unfold M.runFor; rw [if_pos h]
  | step h0 _ ih =>
    intro n hn
    cases n with
    | zero => omega
    | succ n => unfold M.runFor; rw [h0]; exact ih h n (by omega)
theorem Reach.cut {k : Nat} {m m' : M} (x : Reach k m m') : ∀ n, n < k → Reach (k - n) (M.runFor n m) m' ∧ (M.runFor n m).outcome = none := by
  induction x with
  | refl m => intro n hn; omega
  | step h0 hr ih =>
    intro n hn
    cases n with
    | zero => exact ⟨.step h0 hr, h0⟩
    | succ n =>
      rename_i k m m'
      have e : M.runFor (n + 1) m = M.runFor n m.step := by rw [M.runFor, h0]; rfl
      rw [e, Nat.add_sub_add_right]
      exact ih n (by omega)

theorem drive {M' : Model} {A : Around} {E : Value → Shared → Prop} {Q : M → Shared → Prop} {s : Shared} : ∀ (turns : Nat) {k : Nat} {m m' : M}, Reach k m m' → m'.outcome.isSome = true → k ≤ 4 * turns → 1 ≤ turns → Q m' s → wpAny M' A (Builtin.Re.reDrive turns m) Q E s
  | 0, _, _, _, _, _, _, h, _ => absurd h (by omega)
  | turns + 1, k, m, m', x, ho, hk, _, q => by
    unfold Builtin.Re.reDrive
    show wpAny M' A (if (M.runFor 4 m).outcome.isSome then pure (M.runFor 4 m) else do rule "sre.turn"; Builtin.Re.reDrive turns (M.runFor 4 m)) Q E s
    by_cases h4 : k ≤ 4
    · rw [x.run ho 4 h4, if_pos ho]
      exact wpAny_pure q
    · have hc := x.cut 4 (by omega)
      rw [hc.2]
      refine wpAny_bind (wpAny_rule ?_)
      exact drive turns hc.1 ho (by omega) (by omega) q
end Mine
end

section
open PySem PySem.Calls PySem.W PyProof.Rows
set_option Elab.async false
namespace Mine
open Sre

noncomputable abbrev code1 : Array Nat := #[14, 4, 0, 1, 1, 6, 1, 16, 46, 1]
noncomputable abbrev code2 : Array Nat := #[14, 9, 4, 1, 2, 16, 10, 16, 13, 0, 7, 7, 16, 13, 16, 10, 15, 18, 5, 16, 10, 15, 13, 11, 16, 13, 5, 5, 0, 16, 10, 1, 15, 2, 0, 1]

/-- the machine of the first pattern, about to try at s -/
noncomputable def m1 (t : Array Nat) (first : Bool) (s : Nat) (pc pos hd : Nat) (seen : Sre.Seen) (ans : Option Bool) : M :=
  { code := code1, text := t, lim := t.size, start := s, lastStart := t.size, pc := pc, pos := pos, handed := hd, outermost := first, marks := #[], 
    frames := [{ wait := .nextStart, pc := 5, pos := s, outermost := first }], weight := 1, seen := seen, answer := ans }

theorem step_at {t : Array Nat} {s hd : Nat} {first : Bool} {seen : Sre.Seen} : 
    (m1 t first s 5 s hd seen none).step = if (s == 0 || t.getD (s - 1) 0 == 10) = true then m1 t first s 7 s hd ((seen.add 6).add 44) none else m1 t first s 5 s hd ((seen.add 6).add 44) (some false) := rfl
theorem step_lit {m : M} {c : Nat} (ho : m.outcome = none) (ha : m.answer = none) (hpc : m.pc < m.code.size) (hw : m.word 0 = 16) (hc : m.code.getD (m.pc + 1) 0 = c) :
    m.step = if m.lim ≤ m.pos then { m with seen := m.seen.add 16, answer := some false } else
      if m.text.getD m.pos 0 = c then { m with seen := m.seen.add 16, pc := m.pc + 2, pos := m.pos + 1 } else { m with seen := m.seen.add 16, answer := some false } := by
  obtain ⟨code, text, lim, start, ls, wt, ma, pc, pos, hd, om, marks, lm, li, loops, inner, frames, weight, answer, seen, outcome⟩ := m
  simp only at ho ha hpc hc
  have hw' : code.getD pc 0 = 16 := hw
  subst ho ha hc
  have hops : ops[16]? = some .LITERAL := rfl
  by_cases h1 : lim ≤ pos
  · simp only [M.step, M.exec, M.word, Nat.add_zero, hw', hops, if_pos h1, if_pos hpc, ge_iff_le, M.say]
    rfl
  · by_cases h2 : text.getD pos 0 = code.getD (pc + 1) 0
    · simp only [M.step, M.exec, M.word, Nat.add_zero, hw', hops, if_neg h1, if_pos hpc, ge_iff_le, M.say, accepts, itemWidth, h2, beq_self_eq_true, if_true]
      rfl
    · have h3 : (text.getD pos 0 == code.getD (pc + 1) 0) = false := by simpa using h2
      simp only [M.step, M.exec, M.word, Nat.add_zero, hw', hops, if_neg h1, if_pos hpc, ge_iff_le, M.say, accepts, itemWidth, if_neg h2, h3]
      rfl
theorem Reach.cons {k : Nat} {m m1 m' : M} (h : m.outcome = none) (e : m.step = m1) (r : Reach k m1 m') : Reach (k + 1) m m' := .step h (e ▸ r)
theorem lit_yes {m : M} (c : Nat) (h1 : m.pos < m.lim) (h2 : m.text.getD m.pos 0 = c) (ho : autoParam (m.outcome = none) tacRfl) (ha : autoParam (m.answer = none) tacRfl) (hpc : autoParam (decide (m.pc < m.code.size) = true) tacRfl) (hw : autoParam (m.word 0 = 16) tacRfl) (hc : autoParam (m.code.getD (m.pc + 1) 0 = c) tacRfl) :
    m.step = { m with seen := m.seen.add 16, pc := m.pc + 2, pos := m.pos + 1 } := by
  rw [step_lit ho ha (of_decide_eq_true hpc) hw hc, if_neg (Nat.not_le_of_lt h1), if_pos h2]
theorem lit_no {m : M} (c : Nat) (h1 : ¬ (m.pos < m.lim ∧ m.text.getD m.pos 0 = c)) (ho : autoParam (m.outcome = none) tacRfl) (ha : autoParam (m.answer = none) tacRfl) (hpc : autoParam (decide (m.pc < m.code.size) = true) tacRfl) (hw : autoParam (m.word 0 = 16) tacRfl) (hc : autoParam (m.code.getD (m.pc + 1) 0 = c) tacRfl) :
    m.step = { m with seen := m.seen.add 16, answer := some false } := by
  rw [step_lit ho ha (of_decide_eq_true hpc) hw hc]
  by_cases h : m.lim ≤ m.pos
  · rw [if_pos h]
  · rw [if_neg h, if_neg fun e => h1 ⟨Nat.lt_of_not_le h, e⟩]
theorem at_yes {t : Array Nat} {s hd : Nat} {first : Bool} {seen : Sre.Seen} (h : (s == 0 || t.getD (s - 1) 0 == 10) = true) : (m1 t first s 5 s hd seen none).step = m1 t first s 7 s hd ((seen.add 6).add 44) none := by rw [step_at, if_pos h]
theorem at_no {t : Array Nat} {s hd : Nat} {first : Bool} {seen : Sre.Seen} (h : ¬ (s == 0 || t.getD (s - 1) 0 == 10) = true) : (m1 t first s 5 s hd seen none).step = m1 t first s 5 s hd ((seen.add 6).add 44) (some false) := by rw [step_at, if_neg h]
theorem step_no {t : Array Nat} {s pc hd : Nat} {first : Bool} {seen : Sre.Seen} : 
    (m1 t first s pc s hd seen (some false)).step = if s < t.size then m1 t false (s + 1) 5 (s + 1) (s + 1) seen none else { m1 t first s 5 s hd seen (some false) with frames := [], weight := 0 } := rfl
theorem step_ok {t : Array Nat} {s hd : Nat} {first : Bool} {seen : Sre.Seen} : 
    (m1 t first s 9 (s + 1) hd seen none).step = m1 t first s 9 (s + 1) (s + 1) (seen.add 1) (some true) := by
  cases first <;> rfl
theorem step_end {m : M} {yes : Bool} (ho : m.outcome = none) (ha : m.answer = some yes) (hf : m.frames = []) : m.step = { m with outcome := some (if yes then .matched else .failed) } := by
  unfold M.step
  rw [ho, ha, hf]; rfl
theorem step_yes {t : Array Nat} {s pc pos hd : Nat} {first : Bool} {seen : Sre.Seen} :
    (m1 t first s pc pos hd seen (some true)).step = { m1 t first s 5 s hd seen (some true) with frames := [], weight := 0 } := rfl

/-- where the first pattern is met -/
noncomputable def hit1 (t : Array Nat) (i : Nat) : Prop := i < t.size ∧ t.getD i 0 = 46 ∧ (i == 0 || t.getD (i - 1) 0 == 10) = true

theorem go1_no {t : Array Nat} {s hd : Nat} {first : Bool} {seen : Sre.Seen} (h : ¬ hit1 t s) : ∃ k pc hd' seen', k ≤ 2 ∧ Reach k (m1 t first s 5 s hd seen none) (m1 t first s pc s hd' seen' (some false)) := by
  by_cases ha : (s == 0 || t.getD (s - 1) 0 == 10) = true
  · exact ⟨2, 7, hd, _, Nat.le_refl _, .cons rfl (at_yes ha) (.cons rfl (lit_no 46 fun x => h ⟨x.1, x.2, ha⟩) (.refl _))⟩
  · exact ⟨1, 5, hd, _, by omega, .cons rfl (at_no ha) (.refl _)⟩

theorem go1_yes {t : Array Nat} {s hd : Nat} {first : Bool} {seen : Sre.Seen} (h : hit1 t s) : ∃ k m', k ≤ 5 ∧ Reach k (m1 t first s 5 s hd seen none) m' ∧ m'.outcome = some .matched ∧ m'.start = s ∧ m'.handed = s + 1 :=
  ⟨5, _, Nat.le_refl _, .cons rfl (at_yes h.2.2) (.cons rfl (lit_yes 46 h.1 h.2.1) (.cons rfl (step_ok (hd := hd) (seen := ((seen.add 6).add 44).add 16)) (.cons rfl step_yes (.cons rfl (step_end (yes := true) rfl rfl rfl) (.refl _))))), rfl, rfl, rfl⟩

theorem find1 {t : Array Nat} : ∀ (d : Nat) {s hd : Nat} {first : Bool} {seen : Sre.Seen}, hit1 t (s + d) → (∀ i, s ≤ i → i < s + d → ¬ hit1 t i) →
    ∃ k m', k ≤ 3 * d + 5 ∧ Reach k (m1 t first s 5 s hd seen none) m' ∧ m'.outcome = some .matched ∧ m'.start = s + d ∧ m'.handed = s + d + 1
  | 0, s, hd, first, seen, h, _ => by
    obtain ⟨k, m', hk, r⟩ := go1_yes (hd := hd) (first := first) (seen := seen) h
    exact ⟨k, m', by omega, r⟩
  | d + 1, s, hd, first, seen, h, hn => by
    obtain ⟨k, pc, hd', seen', hk, r⟩ := go1_no (hd := hd) (first := first) (seen := seen) (hn s (Nat.le_refl _) (by omega))
    have hs : s < t.size := by have := h.1; omega
    obtain ⟨k', m', hk', r', e⟩ := find1 d (t := t) (s := s + 1) (hd := s + 1) (first := false) (seen := seen') (by rwa [Nat.add_right_comm, Nat.add_assoc]) (fun i h1 h2 => hn i (by omega) (by omega))
    refine ⟨k + (k' + 1), m', by omega, r.trans (.step rfl ?_), e.1, by omega, by omega⟩
    rw [step_no, if_pos hs]; exact r'
theorem none1 {t : Array Nat} : ∀ (d : Nat) {s hd : Nat} {first : Bool} {seen : Sre.Seen}, s + d = t.size → (∀ i, s ≤ i → ¬ hit1 t i) →
    ∃ k m', k ≤ 3 * d + 5 ∧ Reach k (m1 t first s 5 s hd seen none) m' ∧ m'.outcome = some .failed
  | 0, s, hd, first, seen, h, hn => by
    obtain ⟨k, pc, hd', seen', hk, r⟩ := go1_no (hd := hd) (first := first) (seen := seen) (hn s (Nat.le_refl _))
    exact ⟨k + 2, _, by omega, r.trans (.cons rfl (step_no.trans (if_neg (by omega))) (.cons rfl (step_end (yes := false) rfl rfl rfl) (.refl _))), rfl⟩
  | d + 1, s, hd, first, seen, h, hn => by
    obtain ⟨k, pc, hd', seen', hk, r⟩ := go1_no (hd := hd) (first := first) (seen := seen) (hn s (Nat.le_refl _))
    obtain ⟨k', m', hk', r', e⟩ := none1 d (t := t) (s := s + 1) (hd := s + 1) (first := false) (seen := seen') (by omega) (fun i h1 => hn i (by omega))
    refine ⟨k + (k' + 1), m', by omega, r.trans (.step rfl ?_), e⟩
    rw [step_no, if_pos (by omega)]; exact r'

/-- the first pattern's search -/
theorem search1_some {t : Array Nat} {s j : Nat} (hj : s ≤ j) (h : hit1 t j) (hn : ∀ i, s ≤ i → i < j → ¬ hit1 t i) : ∃ k m', k ≤ 3 * t.size + 5 ∧ Reach k (Sre.forSearch code1 t 0 s t.size false) m' ∧ m'.outcome = some .matched ∧ m'.start = j ∧ m'.handed = j + 1 := by
  have hs : s < t.size := by have := h.1; omega
  have e : Sre.forSearch code1 t 0 s t.size false = m1 t true s 5 s s (({} : Sre.Seen).add 14) none := by
    have h1 : (decide (s > t.size) || decide (t.size - s < 1)) = false := by simp; omega
    show (if (decide (s > t.size) || decide (t.size - s < 1)) = true then _ else _) = _
    rw [h1]; rfl
  obtain ⟨k, m', hk, r, x⟩ := find1 (j - s) (t := t) (s := s) (hd := s) (first := true) (seen := ({} : Sre.Seen).add 14) (by rwa [Nat.add_sub_cancel' hj]) (fun i h1 h2 => hn i h1 (by omega))
  rw [e]
  exact ⟨k, m', by have := h.1; omega, r, x.1, by omega, by omega⟩
theorem search1_none {t : Array Nat} {s : Nat} (hn : ∀ i, s ≤ i → ¬ hit1 t i) : ∃ k m', k ≤ 3 * t.size + 5 ∧ Reach k (Sre.forSearch code1 t 0 s t.size false) m' ∧ m'.outcome = some .failed := by
  by_cases hs : s < t.size
  · have e : Sre.forSearch code1 t 0 s t.size false = m1 t true s 5 s s (({} : Sre.Seen).add 14) none := by
      have h1 : (decide (s > t.size) || decide (t.size - s < 1)) = false := by simp; omega
      show (if (decide (s > t.size) || decide (t.size - s < 1)) = true then _ else _) = _
      rw [h1]; rfl
    obtain ⟨k, m', hk, r, x⟩ := none1 (t.size - s) (t := t) (s := s) (hd := s) (first := true) (seen := ({} : Sre.Seen).add 14) (by omega) hn
    rw [e]
    exact ⟨k, m', by omega, r, x⟩
  · have h1 : (decide (s > t.size) || decide (t.size - s < 1)) = true := by simp; omega
    obtain ⟨m, hm, e⟩ : ∃ m : M, (m.outcome = none ∧ m.answer = some false ∧ m.frames = []) ∧ Sre.forSearch code1 t 0 s t.size false = m := by
      refine ⟨_, ?_, show (if (decide (s > t.size) || decide (t.size - s < 1)) = true then _ else _) = _ by rw [h1]⟩
      exact ⟨rfl, rfl, rfl⟩
    rw [e]
    exact ⟨1, _, by omega, .cons hm.1 (step_end hm.1 hm.2.1 hm.2.2) (.refl _), rfl⟩
end Mine
end

section
open PySem PySem.Calls PySem.W PyProof.Rows
set_option Elab.async false
namespace Mine
open Sre

noncomputable def fr0 (s : Nat) (first : Bool) : Sre.Frame := { wait := .nextStart, pc := 10, pos := s, outermost := first }
noncomputable def frB (alt s : Nat) (first : Bool) : Sre.Frame := { wait := .nextBranch, pc := alt, pos := s, outermost := first }
noncomputable def frN (s : Nat) (first : Bool) : Sre.Frame := { wait := .lookNot, pc := 26, pos := s, outermost := first }
noncomputable def m2 (t : Array Nat) (s : Nat) (pc pos hd : Nat) (om : Bool) (fs : List Sre.Frame) (seen : Sre.Seen) (ans : Option Bool) : M :=
  { code := code2, text := t, lim := t.size, start := s, lastStart := t.size, pc := pc, pos := pos, handed := hd, outermost := om, marks := #[], 
    frames := fs, weight := fs.length, seen := seen, answer := ans }

section
variable {t : Array Nat} {s hd : Nat} {f : Bool} {seen : Sre.Seen}
theorem s2_branch : (m2 t s 10 s hd f [fr0 s f] seen none).step = m2 t s 12 s s f [frB 11 s f, fr0 s f] (seen.add 7) none := rfl
theorem s2_jump1 {p : Nat} {fs} : (m2 t s 16 p hd f fs seen none).step = m2 t s 35 p hd f fs (seen.add 15) none := rfl
theorem s2_jump2 {p : Nat} {fs} : (m2 t s 21 p hd f fs seen none).step = m2 t s 35 p hd f fs (seen.add 15) none := rfl
theorem s2_jump3 {p : Nat} {fs} : (m2 t s 32 p hd f fs seen none).step = m2 t s 35 p hd f fs (seen.add 15) none := rfl
theorem s2_ok {p : Nat} {fs} : (m2 t s 35 p hd f fs seen none).step = m2 t s 35 p p f fs (seen.add 1) (some true) := by cases f <;> rfl
theorem s2_up {p q alt : Nat} : (m2 t s q p hd f [frB alt s f, fr0 s f] seen (some true)).step = m2 t s alt s hd f [fr0 s f] seen (some true) := rfl
theorem s2_up' {p q : Nat} : (m2 t s q p hd f [fr0 s f] seen (some true)).step = m2 t s 10 s hd f [] seen (some true) := rfl
theorem s2_alt2 {p q : Nat} : (m2 t s q p hd f [frB 11 s f, fr0 s f] seen (some false)).step = m2 t s 19 s s f [frB 18 s f, fr0 s f] seen none := rfl
theorem s2_alt3 {p q : Nat} : (m2 t s q p hd f [frB 18 s f, fr0 s f] seen (some false)).step = m2 t s 24 s s f [frB 23 s f, fr0 s f] seen none := rfl
theorem s2_not {p : Nat} : (m2 t s 26 p hd f [frB 23 s f, fr0 s f] seen none).step = m2 t s 29 p p false [frN p f, frB 23 s f, fr0 s f] (seen.add 5) none := rfl
theorem s2_notno {p q r : Nat} : (m2 t s q p hd false [frN r f, frB 23 s f, fr0 s f] seen (some false)).step = m2 t s 32 r hd f [frB 23 s f, fr0 s f] seen none := rfl

/-- how far the second pattern goes at a place where it is met -/
noncomputable def span2 (t : Array Nat) (s : Nat) : Nat := if t.getD s 0 = 13 ∧ s + 1 < t.size ∧ t.getD (s + 1) 0 = 10 then 2 else 1

theorem go2 (hs : s < t.size) (hc : t.getD s 0 = 10 ∨ t.getD s 0 = 13) : ∃ k m', k ≤ 20 ∧ Reach k (m2 t s 10 s hd f [fr0 s f] seen none) m' ∧ m'.outcome = some .matched ∧ m'.start = s ∧ m'.handed = s + span2 t s := by
  by_cases h13 : t.getD s 0 = 13
  · by_cases h10 : s + 1 < t.size ∧ t.getD (s + 1) 0 = 10
    · have e : span2 t s = 2 := if_pos ⟨h13, h10⟩
      rw [e]
      exact ⟨8, _, by omega, .cons rfl s2_branch (.cons rfl (lit_yes 13 hs h13) (.cons rfl (lit_yes 10 h10.1 h10.2) (.cons rfl (s2_jump1 (p := s + 2) (fs := [frB 11 s f, fr0 s f]) (seen := ((seen.add 7).add 16).add 16) (hd := s) (f := f) (s := s)) (.cons rfl s2_ok (.cons rfl s2_up (.cons rfl s2_up' (.cons rfl (step_end (yes := true) rfl rfl rfl) (.refl _)))))))), rfl, rfl, rfl⟩
    · have e : span2 t s = 1 := if_neg fun x => h10 x.2
      rw [e]
      have h' : ¬ (t.getD s 0 = 10) := by rw [h13]; decide
      exact ⟨15, _, by omega, .cons rfl s2_branch (.cons rfl (lit_yes 13 hs h13) (.cons rfl (lit_no 10 h10) (.cons rfl (s2_alt2 (p := s + 1) (q := 14) (seen := ((seen.add 7).add 16).add 16) (hd := s) (f := f) (s := s)) (.cons rfl (lit_no 10 fun x => h' x.2)
        (.cons rfl (s2_alt3 (p := s) (q := 19) (seen := (((seen.add 7).add 16).add 16).add 16) (hd := s) (f := f) (s := s)) (.cons rfl (lit_yes 13 hs h13) (.cons rfl (s2_not (p := s + 1) (seen := ((((seen.add 7).add 16).add 16).add 16).add 16) (hd := s) (f := f) (s := s)) (.cons rfl (lit_no 10 h10)
        (.cons rfl (s2_notno (p := s + 1) (q := 29) (r := s + 1) (seen := ((((((seen.add 7).add 16).add 16).add 16).add 16).add 5).add 16) (hd := s + 1) (f := f) (s := s)) (.cons rfl s2_jump3 (.cons rfl s2_ok (.cons rfl s2_up (.cons rfl s2_up' (.cons rfl (step_end (yes := true) rfl rfl rfl) (.refl _))))))))))))))), rfl, rfl, rfl⟩
  · have h10 : t.getD s 0 = 10 := hc.resolve_right h13
    have e : span2 t s = 1 := if_neg fun x => h13 x.1
    rw [e]
    exact ⟨9, _, by omega, .cons rfl s2_branch (.cons rfl (lit_no 13 fun x => h13 x.2) (.cons rfl (s2_alt2 (p := s) (q := 12) (seen := ((seen.add 7).add 16)) (hd := s) (f := f) (s := s)) (.cons rfl (lit_yes 10 hs h10) (.cons rfl (s2_jump2 (p := s + 1) (fs := [frB 18 s f, fr0 s f]) (seen := ((seen.add 7).add 16).add 16) (hd := s) (f := f) (s := s))
      (.cons rfl s2_ok (.cons rfl s2_up (.cons rfl s2_up' (.cons rfl (step_end (yes := true) rfl rfl rfl) (.refl _))))))))), rfl, rfl, rfl⟩
end

/-- where the second pattern is met -/
noncomputable def hit2 (t : Array Nat) (i : Nat) : Prop := i < t.size ∧ (t.getD i 0 = 10 ∨ t.getD i 0 = 13)

theorem inSet2 (c : Nat) (seen : Sre.Seen) : ∃ sn, Sre.inSet code2 c code2.size 5 true seen = .ok (decide (c = 10 ∨ c = 13), sn) := by
  by_cases h10 : c = 10
  · subst h10; exact ⟨_, rfl⟩
  · by_cases h13 : c = 13
    · subst h13; exact ⟨_, rfl⟩
    · have e1 : (c == 10) = false := by simpa using h10
      have e2 : (c == 13) = false := by simpa using h13
      have e3 : decide (c = 10 ∨ c = 13) = false := by simp [h10, h13]
      rw [e3]
      refine ⟨((seen.add 16).add 16).add 0, ?_⟩
      have u1 : Sre.inSet code2 c 36 5 true seen = if (c == 10) = true then .ok (true, seen.add 16) else Sre.inSet code2 c 35 7 true (seen.add 16) := rfl
      have u2 : Sre.inSet code2 c 35 7 true (seen.add 16) = if (c == 13) = true then .ok (true, (seen.add 16).add 16) else Sre.inSet code2 c 34 9 true ((seen.add 16).add 16) := rfl
      show Sre.inSet code2 c 36 5 true seen = _
      rw [u1, e1, if_neg (by decide), u2, e2, if_neg (by decide)]
      rfl

theorem admitted_some {m : M} (hc : m.code = code2) (hl : m.lim = m.text.size) : ∀ (d s fuel : Nat) (seen : Sre.Seen), d < fuel → hit2 m.text (s + d) → (∀ i, s ≤ i → i < s + d → ¬ hit2 m.text i) → ∃ sn, m.admitted fuel s seen = .ok (some (s + d), sn)
  | d, s, 0, _, hf, _, _ => by omega
  | 0, s, fuel + 1, seen, _, h, _ => by
    obtain ⟨sn, e⟩ := inSet2 (m.text.getD s 0) seen
    refine ⟨sn, ?_⟩
    unfold M.admitted
    have h1 : s < m.text.size := h.1
    have h2 : decide (m.text.getD s 0 = 10 ∨ m.text.getD s 0 = 13) = true := decide_eq_true h.2
    rw [if_neg (by omega), hc, e, h2]; rfl
  | d + 1, s, fuel + 1, seen, hf, h, hn => by
    obtain ⟨sn, e⟩ := inSet2 (m.text.getD s 0) seen
    have hs : s < m.text.size := by have := h.1; omega
    have h2 : decide (m.text.getD s 0 = 10 ∨ m.text.getD s 0 = 13) = false := decide_eq_false fun x => hn s (Nat.le_refl _) (by omega) ⟨hs, x⟩
    obtain ⟨sn', e'⟩ := admitted_some hc hl d (s + 1) fuel sn (by omega) (by rwa [Nat.add_right_comm, Nat.add_assoc]) fun i h1 h2 => hn i (by omega) (by omega)
    refine ⟨sn', ?_⟩
    unfold M.admitted
    rw [if_neg (by omega), hc, e, h2]
    show m.admitted fuel (s + 1) sn = _
    rw [e', Nat.add_right_comm, Nat.add_assoc]
theorem admitted_none {m : M} (hc : m.code = code2) (hl : m.lim = m.text.size) : ∀ (fuel s : Nat) (seen : Sre.Seen), (∀ i, s ≤ i → ¬ hit2 m.text i) → ∃ sn, m.admitted fuel s seen = .ok (none, sn)
  | 0, s, seen, _ => ⟨seen, rfl⟩
  | fuel + 1, s, seen, hn => by
    unfold M.admitted
    by_cases hs : s ≥ m.lim
    · rw [if_pos hs]; exact ⟨_, rfl⟩
    · rw [if_neg hs]
      obtain ⟨sn, e⟩ := inSet2 (m.text.getD s 0) seen
      have h2 : decide (m.text.getD s 0 = 10 ∨ m.text.getD s 0 = 13) = false := decide_eq_false fun x => hn s (Nat.le_refl _) ⟨by omega, x⟩
      obtain ⟨sn', e'⟩ := admitted_none hc hl fuel (s + 1) sn fun i h1 => hn i (by omega)
      refine ⟨sn', ?_⟩
      rw [hc, e, h2]
      exact e'

noncomputable def m20 (t : Array Nat) (s : Nat) : M :=
  { code := code2, text := t, lim := t.size, start := s, lastStart := t.size, pc := 10, pos := s, handed := s, marks := #[], seen := ({} : Sre.Seen).add 14 }
theorem forSearch2 {t : Array Nat} {s : Nat} (hs : s < t.size) : Sre.forSearch code2 t 0 s t.size false = (m20 t s).attemptFrom s true := by
  have h1 : (decide (s > t.size) || decide (t.size - s < 1)) = false := by simp; omega
  show (if (decide (s > t.size) || decide (t.size - s < 1)) = true then _ else _) = _
  rw [h1]; rfl
theorem attemptFrom2 {t : Array Nat} {s : Nat} : (m20 t s).attemptFrom s true = match (m20 t s).admitted (t.size + 1 - s) s (m20 t s).seen with
    | .ok (some s', seen) => { m20 t s with mustAdvance := false, seen }.attemptAt s' true
    | .ok (none, seen) => { m20 t s with seen }.say false
    | .error why => (m20 t s).stick why := rfl

theorem search2_some {t : Array Nat} {s j : Nat} (hj : s ≤ j) (h : hit2 t j) (hn : ∀ i, s ≤ i → i < j → ¬ hit2 t i) : ∃ k m', k ≤ 3 * t.size + 20 ∧ Reach k (Sre.forSearch code2 t 0 s t.size false) m' ∧ m'.outcome = some .matched ∧ m'.start = j ∧ m'.handed = j + span2 t j := by
  have hs : s < t.size := by have := h.1; omega
  rw [forSearch2 hs, attemptFrom2]
  obtain ⟨sn, e⟩ := admitted_some (m := m20 t s) rfl rfl (j - s) s (t.size + 1 - s) (m20 t s).seen (by have := h.1; omega) (by rw [Nat.add_sub_cancel' hj]; exact h) fun i h1 h2 => hn i h1 (by omega)
  rw [e, Nat.add_sub_cancel' hj]
  obtain ⟨k, m', hk, r, x⟩ := go2 (t := t) (s := j) (hd := j) (f := true) (seen := sn) h.1 h.2
  exact ⟨k, m', by omega, r, x⟩
theorem search2_none {t : Array Nat} {s : Nat} (hn : ∀ i, s ≤ i → ¬ hit2 t i) : ∃ k m', k ≤ 3 * t.size + 20 ∧ Reach k (Sre.forSearch code2 t 0 s t.size false) m' ∧ m'.outcome = some .failed := by
  obtain ⟨m, hm, e⟩ : ∃ m : M, (m.outcome = none ∧ m.answer = some false ∧ m.frames = []) ∧ Sre.forSearch code2 t 0 s t.size false = m := by
    by_cases hs : s < t.size
    · rw [forSearch2 hs, attemptFrom2]
      obtain ⟨sn, e⟩ := admitted_none (m := m20 t s) rfl rfl (t.size + 1 - s) s (m20 t s).seen hn
      rw [e]
      exact ⟨_, ⟨rfl, rfl, rfl⟩, rfl⟩
    · have h1 : (decide (s > t.size) || decide (t.size - s < 1)) = true := by simp; omega
      refine ⟨_, ?_, show (if (decide (s > t.size) || decide (t.size - s < 1)) = true then _ else _) = _ by rw [h1]⟩
      exact ⟨rfl, rfl, rfl⟩
  rw [e]
  exact ⟨1, _, by omega, .cons hm.1 (step_end hm.1 hm.2.1 hm.2.2) (.refl _), rfl⟩
end Mine
end

section
open PySem PySem.Calls PySem.W PyProof.Rows
set_option Elab.async false
set_option maxRecDepth 100000
namespace Mine
theorem plainAttrs_pat : PlainAttrs "re.Pattern" :=
  ⟨⟨"object.__getattribute__", by rw [typeLookup_type, builtinLookup_eq_fast]; kernel_rfl, by decide +kernel⟩, by rw [typeLookup_type, builtinLookup_eq_fast]; kernel_rfl⟩
theorem slot_pat_sub : Slot "re.Pattern" "sub" "re.Pattern.sub" :=
  .of (owner := "re.Pattern") (n := "sub") (by rw [typeLookup_type, builtinLookup_eq_fast]; kernel_rfl) (by decide +kernel) (by decide +kernel) (by decide +kernel)
    (by first | exact .inl (by decide +kernel) | exact .inr (by decide +kernel)) (by rw [isSubtype_type]; kernel_rfl)
theorem type_pat_sub : typeOf (.builtin "re.Pattern.sub") = pure (.type "method_descriptor") := by show builtinType _ = _; rw [builtinType_eq_fast]; kernel_rfl
theorem entry_pat_sub : entryFor table "re.Pattern.sub" = some Builtin.«re.Pattern.sub» := entryFor_of_tree (by kernel_rfl)
theorem entry_pat_loop : entryFor table "re.Pattern.sub.loop" = some Builtin.«re.Pattern.sub.loop» := entryFor_of_tree (by kernel_rfl)
theorem args_pat_sub (a b c : Value) : argsOk "re.Pattern.sub" ⟨[a, b, c], []⟩ := by
  unfold argsOk; kernel_rfl
end Mine
end

section
open PySem PySem.Calls PySem.W PyProof.Rows
set_option Elab.async false
set_option maxRecDepth 100000
namespace Mine
open Sre Builtin.Re

/-- a compiled pattern of code words, without groups, for text -/
structure Pat (h : Heap) (a : Addr) (code : Array Nat) : Prop where
  obj : ∃ o fs c, h.get? a = some o ∧ o.cls = .type "re.Pattern" ∧ o.dict = none ∧ o.data = .fields fs ∧ fs.getD 2 .none = rawInt 0 ∧ fs.getD 6 .none = rawInt 0 ∧ fs.getD 5 .none = .ref c ∧
    (∃ ob xs n, h.get? c = some ob ∧ ob.data = .seq xs n ∧ (xs.map reRawOf).map (·.toNat) = code)
theorem Pat.ext {h h' : Heap} {a : Addr} {code : Array Nat} (p : Pat h a code) {W : List Addr} (e : ExtB W h h') (hW : ∀ b ∈ W, h.get? b = none) : Pat h' a code := by
  obtain ⟨o, fs, c, h1, h2, h3, h4, h5, h6, h7, ob, xs, n, h8, h9, h10⟩ := p.obj
  have key : ∀ b o, h.get? b = some o → h'.get? b = some o := fun b o hb => e b o (fun hm => by rw [hW b hm] at hb; cases hb) hb
  exact ⟨o, fs, c, key _ _ h1, h2, h3, h4, h5, h6, h7, ob, xs, n, key _ _ h8, h9, h10⟩

/-- what a search finds -/
noncomputable def Found (code t : Array Nat) (p : Nat) : Option (Nat × Nat) → Prop
  | some (j, e) => ∃ k m', k ≤ 2 ^ 60 ∧ Reach k (Sre.forSearch code t 0 p t.size false) m' ∧ m'.outcome = some .matched ∧ m'.start = j ∧ m'.handed = e
  | none => ∃ k m', k ≤ 2 ^ 60 ∧ Reach k (Sre.forSearch code t 0 p t.size false) m' ∧ m'.outcome = some .failed

section
variable {prog : Program} {w : World} {A : Around} {E : Value → Shared → Prop} {s : Shared}

theorem runToEnd {m m' : M} {k : Nat} {Q : Option M → Shared → Prop} (hk : k ≤ 2 ^ 60) (x : Reach k m m') (q : (m'.outcome = some .matched ∧ Q (some m') s) ∨ (m'.outcome = some .failed ∧ Q none s)) : wpAny (model prog w) A (reRunToEnd m) Q E s := by
  unfold reRunToEnd
  refine wpAny_bind (drive (2 ^ 64) x (by rcases q with q | q <;> rw [q.1] <;> rfl) ?_ ?_ ?_)
  · have : (2:Nat) ^ 60 ≤ 4 * 2 ^ 64 := by decide
    exact Nat.le_trans hk this
  · decide
  refine wpAny_bind (wpAny_forIn_list _ (fun _ _ s' => s' = s) _ (fun i rest b s' hs => ?_) (fun b s' hs => ?_) _ _ rfl)
  · subst hs
    show wpAny _ A (if m'.seen.has i then _ else _) _ E s'
    by_cases h : m'.seen.has i = true
    · rw [if_pos h]; exact wpAny_bind (wpAny_rule (wpAny_pure rfl))
    · rw [if_neg h]; exact wpAny_pure rfl
  · subst hs
    rcases q with ⟨h, q⟩ | ⟨h, q⟩
    · rw [h]; exact wpAny_pure q
    · rw [h]; exact wpAny_pure q

theorem wholeTarget {pa : Addr} {code : Array Nat} {x : Str} {t : Tok} {Q : ReTarget → Shared → Prop} (p : Pat s.heap pa code)
    (q : Q { pattern := .ref pa, string := .str x t, code := code, text := x.cps, kind := 0, groups := 0, pos := 0, lim := x.cps.size } s) : wpAny (model prog w) A (reWholeTarget (.ref pa) (.str x t)) Q E s := by
  obtain ⟨o, fs, c, h1, h2, h3, h4, h5, h6, h7, ob, xs, n, h8, h9, h10⟩ := p.obj
  unfold reWholeTarget
  refine wpAny_bind (wpAny_fieldsOf h1 h4 ?_)
  refine wpAny_bind (show wpAny _ A (reTextOf (.str x t)) _ E s from wpAny_bind (wpAny_pure (wpAny_pure ?_)))
  dsimp only
  rw [h6, h5, h7]
  refine wpAny_bind (show wpAny _ A (reNoCollectionInside (.str x t) 0) _ E s from wpAny_pure ?_)
  refine wpAny_bind (show wpAny _ A (reRawItems (.ref c)) _ E s from ?_)
  unfold reRawItems
  refine wpAny_bind (wpAny_seqItems h8 h9 (wpAny_pure (wpAny_pure ?_)))
  show Q { pattern := .ref pa, string := .str x t, code := (xs.map reRawOf).map (·.toNat), text := x.cps, kind := 0, groups := 0, pos := 0, lim := x.cps.size } s
  rw [h10]; exact q

inductive Subs (code t : Array Nat) (repl : List Nat) : Nat → List Nat → Prop
  | fin {p} : Found code t p none → Subs code t repl p (t.extract p t.size).toList
  | hit {p j e out} : Found code t p (some (j, e)) → p ≤ j → j < e → e ≤ t.size → Subs code t repl e out → Subs code t repl p ((t.extract p j).toList ++ repl ++ out)

theorem strsAre_snoc : ∀ {vs : List Value} {ys : List Str} {y : Str} {t : Tok}, StrsAre vs ys → StrsAre (vs ++ [.str y t]) (ys ++ [y])
  | _, _, y, t, .nil => .cons y t .nil
  | _, _, _, _, .cons y t r => .cons y t (strsAre_snoc r)

/-- all signs of some texts -/
noncomputable def flat (ys : List Str) : List Nat := ys.flatMap (·.cps.toList)
theorem flat_length : ∀ ys : List Str, (flat ys).length = (ys.map (·.length)).sum
  | [] => rfl
  | y :: r => by
    show (y.cps.toList ++ flat r).length = _
    rw [List.length_append, flat_length r, List.map_cons, List.sum_cons]; simp [Str.length]
theorem glued_empty (a : Str) : ∀ ys : List Str, (ys.foldl (fun acc p => acc ++ (⟨#[]⟩ : Str).cps ++ p.cps) a.cps).toList = a.cps.toList ++ flat ys
  | [] => by simp [flat]
  | y :: r => by
    rw [List.foldl_cons]
    have := glued_empty ⟨a.cps ++ y.cps⟩ r
    simp only [Array.append_empty] at this ⊢
    rw [this]; simp [flat]
theorem join_empty : ∀ ys : List Str, Txt.join ⟨#[]⟩ ys = ⟨(flat ys).toArray⟩
  | [] => rfl
  | y :: r => by
    show Str.mk (r.foldl (fun acc p => acc ++ (⟨#[]⟩ : Str).cps ++ p.cps) y.cps) = _
    have := glued_empty y r
    congr 1
    apply Array.ext'
    rw [this]; simp [flat]

theorem push_plain {l : Addr} {items : Array Value} {v : Value} {Q : Unit → Shared → Prop} (hl : s.heap.PlainList l items) (hsz : items.size < sizeLine)
    (q : ∀ h', h'.PlainList l (items.push v) → ExtB [l] s.heap h' → Q () { s with heap := h' }) : wpAny (model prog w) A (updateSeq l (·.push v)) Q E s := by
  obtain ⟨n, ho⟩ := hl
  refine wpAny_updateSeq ho rfl (q _ ⟨n + 1, ?_⟩ fun b o hb e => ?_) (by omega) (by simp; omega)
  · rw [Heap.get?_update_self _ ho rfl, Obj.mapSeq_push_plain]
  · exact (Heap.SameBut.update ..).extBut b o (by simpa using hb) e

theorem extract_len {t : Array Nat} {a b : Nat} : (t.extract a b).size ≤ t.size := by rw [Array.size_extract]; omega
theorem flat_snoc (ys : List Str) (y : Str) : flat (ys ++ [y]) = flat ys ++ y.cps.toList := by simp [flat]

/-- a substitution's loop -/
theorem sub_loop {h₀ : Heap} {pa l : Addr} {code : Array Nat} {x : Str} {t2 t1 : Tok} {r : Str} {R : Result → Shared → Prop} (hsz : x.length ≤ 100000) (hr : r.length ≤ 10) (P : Pat h₀ pa code) (hl0 : h₀.get? l = none) :
    ∀ {p : Nat} {out : List Nat}, Subs code x.cps r.cps.toList p out →
    ∀ {n : Int} {s : Shared} {items : Array Value} {ys : List Str}, Ext h₀ s.heap → s.heap.PlainList l items → StrsAre items.toList ys → items.size ≤ 2 * p → (flat ys).length ≤ 11 * p → p ≤ x.length →
    (∀ t s', Stp0 [l] s s' → R (.ok (.ret (.str ⟨(flat ys ++ out).toArray⟩ t))) s') →
    codeAny (model prog w) A (.builtin "re.Pattern.sub.loop" ⟨[.ref pa, .str x t2, .str r t1, rawInt 0, rawInt 0, rawInt n, rawInt p, rawInt p, .bool false, .ref l, .bool false], []⟩) R s := by
  have hline : sizeLine = 16777216 := rfl
  intro p out hs
  induction hs with
  | @fin p hf =>
    intro n s items ys hx hl hi h1 h2 hp q
    refine codeAny_builtin entry_pat_loop ?_
    unfold Builtin.«re.Pattern.sub.loop»
    dsimp only
    refine wpAny_bind (wholeTarget (P.ext (W := []) (fun b o _ e => hx b o e) (fun b hb => absurd hb List.not_mem_nil)) ?_)
    refine wpAny_bind (wpAny_pure ?_)
    obtain ⟨k, m', hk, hr', ho⟩ := hf
    refine wpAny_bind (show wpAny _ _ (reRunToEnd (Sre.forSearch code x.cps 0 p x.cps.size false)) _ _ s from runToEnd hk hr' (.inr ⟨ho, ?_⟩))
    dsimp only
    have fin : ∀ {s' : Shared} {items' : Array Value} {ys' : List Str}, Stp0 [l] s s' → s'.heap.PlainList l items' → StrsAre items'.toList ys' → (flat ys').length ≤ 16777216 → flat ys' = flat ys ++ (x.cps.extract p x.cps.size).toList →
        wpAny (model prog w) (A.under (.builtin "re.Pattern.sub.loop" ⟨[.ref pa, .str x t2, .str r t1, rawInt 0, rawInt 0, rawInt n, rawInt p, rawInt p, .bool false, .ref l, .bool false], []⟩)) (do
          let joiner ← reSlice x.cps 0 0 0
          let its ← seqItems? (.ref l)
          if (its.getD #[]).isEmpty = true then (do
            let text ← pure joiner
            ret text)
          else (do
            let text ← call (.builtin "str.join") [joiner, .ref l]
            ret text))
        (fun fin s' => match fin with | .done f => R (.ok f) s' | .again c' => c'.quiet = true ∧ codeAny (model prog w) A c' R s') (fun e s' => R (.error e) s') s' := by
      intro s' items' ys' e' hl' hi' hlen hfl
      refine wpAny_bind (show wpAny _ _ (mkStr ⟨x.cps.extract 0 0⟩) _ _ s' from wpAny_mkStr ?_ (by show (x.cps.extract 0 0).size ≤ _; simp))
      have hem : x.cps.extract 0 0 = #[] := by simp
      rw [hem]
      obtain ⟨k', hk'⟩ := hl'
      refine wpAny_bind (wpAny_seqItems hk' rfl ?_)
      have done : ∀ tk k, (fun fin s' => match fin with | Fin.done f => R (.ok f) s' | .again c' => c'.quiet = true ∧ codeAny (model prog w) A c' R s') (Fin.done (.ret (.str ⟨(flat ys').toArray⟩ tk))) { s' with toks := k } := fun tk k => by
        rw [hfl]; exact q tk _ ⟨e'.gens, e'.os, e'.ext⟩
      dsimp only [Option.getD_some]
      by_cases hz : items'.isEmpty = true
      · rw [if_pos hz]
        refine wpAny_bind (wpAny_pure (wpAny_pure ?_))
        have : items' = #[] := by simpa using hz
        subst this
        cases hi'
        exact done s'.toks _
      · rw [if_neg hz]
        refine wpAny_bind (join_list (ys := ys') ⟨_, hk', rfl, _, rfl⟩ hi' ?_ fun t' k => wpAny_pure ?_)
        · rw [← flat_length]
          show _ + ys'.length * 0 ≤ _
          omega
        · rw [join_empty]; exact done t' k
    by_cases hlt : p < x.cps.size
    · rw [if_pos (show (p : Int).toNat < x.cps.size from hlt)]
      refine wpAny_bind (show wpAny _ _ (mkStr ⟨x.cps.extract p x.cps.size⟩) _ _ s from wpAny_mkStr ?_ ?_)
      · refine wpAny_bind (push_plain (s := { s with toks := s.toks + 1 }) hl (by have : x.cps.size ≤ 100000 := hsz; omega) fun h' hl' e' => ?_)
        refine fin (s' := { s with heap := h', toks := s.toks + 1 }) ⟨rfl, rfl, e'⟩ hl' (by rw [Array.toList_push]; exact strsAre_snoc hi) ?_ (flat_snoc _ _)
        rw [flat_snoc, List.length_append, Array.length_toList]
        have h3 := extract_len (t := x.cps) (a := p) (b := x.cps.size)
        have h4 : x.cps.size ≤ 100000 := hsz
        have h5 : p ≤ 100000 := Nat.le_trans hp hsz
        exact Nat.le_trans (Nat.add_le_add h2 (Nat.le_trans h3 h4)) (by omega)
      · show (x.cps.extract p x.cps.size).size ≤ _
        have := extract_len (t := x.cps) (a := p) (b := x.cps.size)
        have : x.cps.size ≤ 100000 := hsz
        omega
    · rw [if_neg (show ¬ (p : Int).toNat < x.cps.size from hlt)]
      refine fin ⟨rfl, rfl, fun _ _ _ e => e⟩ hl hi (by have : x.length ≤ 100000 := hsz; omega) ?_
      have : x.cps.extract p x.cps.size = #[] := by apply Array.eq_empty_of_size_eq_zero; rw [Array.size_extract]; omega
      rw [this]; simp
  | @hit p j e out hf hpj hje he _ ih =>
    intro n s items ys hx hl hi h1 h2 hp q
    have hx1 : x.cps.size ≤ 100000 := hsz
    refine codeAny_builtin entry_pat_loop ?_
    unfold Builtin.«re.Pattern.sub.loop»
    dsimp only
    refine wpAny_bind (wholeTarget (P.ext (W := []) (fun b o _ e => hx b o e) (fun b hb => absurd hb List.not_mem_nil)) ?_)
    refine wpAny_bind (wpAny_pure ?_)
    obtain ⟨k, m', hk, hr', ho, hst, hhd⟩ := hf
    refine wpAny_bind (show wpAny _ _ (reRunToEnd (Sre.forSearch code x.cps 0 p x.cps.size false)) _ _ s from runToEnd hk hr' (.inl ⟨ho, ?_⟩))
    dsimp only
    rw [hst, hhd]
    have hne : (e == j) = false := by simpa using Nat.ne_of_gt hje
    have fin : ∀ {s' : Shared} {items' : Array Value} {ys' : List Str}, Stp0 [l] s s' → s'.heap.PlainList l items' → StrsAre items'.toList ys' → items'.size ≤ items.size + 1 → flat ys' = flat ys ++ (x.cps.extract p j).toList →
        wpAny (model prog w) (A.under (.builtin "re.Pattern.sub.loop" ⟨[.ref pa, .str x t2, .str r t1, rawInt 0, rawInt 0, rawInt n, rawInt p, rawInt p, .bool false, .ref l, .bool false], []⟩)) (do
          updateSeq l (·.push (.str r t1))
          again (.builtin "re.Pattern.sub.loop" ⟨[.ref pa, .str x t2, .str r t1, rawInt 0, rawInt 0, rawInt (n + 1), rawInt e, rawInt e, .bool (e == j), .ref l, .bool false], []⟩))
        (fun fin s' => match fin with | .done f => R (.ok f) s' | .again c' => c'.quiet = true ∧ codeAny (model prog w) A c' R s') (fun e s' => R (.error e) s') s' := by
      intro s' items' ys' e' hl' hi' hlen hfl
      refine wpAny_bind (push_plain hl' (by omega) fun h' hl'' e'' => wpAny_pure ⟨plainId_quiet (by decide +kernel) _, ?_⟩)
      rw [hne]
      have e3 : Stp0 [l] s { s' with heap := h' } := ⟨e'.gens, e'.os, fun b o hb x => e'' b o hb (e'.ext b o hb x)⟩
      refine ih (s := { s' with heap := h' }) (items := items'.push (.str r t1)) (ys := ys' ++ [r]) ?_ hl'' ?_ ?_ ?_ he ?_
      · exact fun b o hb => e3.ext b o (fun hm => by rw [List.mem_singleton.mp hm, hl0] at hb; cases hb) (hx b o hb)
      · rw [Array.toList_push]; exact strsAre_snoc hi'
      · rw [Array.size_push]; omega
      · have e1 : r.cps.toList.length ≤ 10 := by rw [Array.length_toList]; exact hr
        have e2 : (x.cps.extract p j).toList.length ≤ j - p := by rw [Array.length_toList, Array.size_extract]; exact Nat.sub_le_sub_right (Nat.min_le_left _ _) _
        rw [flat_snoc, hfl, List.length_append, List.length_append]
        exact Nat.le_trans (Nat.add_le_add (Nat.add_le_add h2 e2) e1) (by clear hfl e1 e2 h1 h2; omega)
      · intro t s'' e4
        have := q t s'' ⟨e4.gens.trans e3.gens, e4.os.trans e3.os, fun b o hb x => e4.ext b o hb (e3.ext b o hb x)⟩
        rw [flat_snoc, hfl]
        simpa [List.append_assoc] using this
    by_cases hlt : p < j
    · rw [if_pos (show (p : Int).toNat < j from hlt)]
      refine wpAny_bind (show wpAny _ _ (mkStr ⟨x.cps.extract p j⟩) _ _ s from wpAny_mkStr ?_ ?_)
      · refine wpAny_bind (push_plain (s := { s with toks := s.toks + 1 }) hl (by omega) fun h' hl' e' => ?_)
        exact fin (s' := { s with heap := h', toks := s.toks + 1 }) ⟨rfl, rfl, e'⟩ hl' (by rw [Array.toList_push]; exact strsAre_snoc hi) (by rw [Array.size_push]; omega) (flat_snoc _ _)
      · show (x.cps.extract p j).size ≤ _
        have := extract_len (t := x.cps) (a := p) (b := j)
        omega
    · rw [if_neg (show ¬ (p : Int).toNat < j from hlt)]
      refine fin ⟨rfl, rfl, fun _ _ _ e => e⟩ hl hi (by omega) ?_
      have : x.cps.extract p j = #[] := by apply Array.eq_empty_of_size_eq_zero; rw [Array.size_extract]; omega
      rw [this]; simp

theorem str_not_called : typeLookup (.type "str") "__call__" = pure none := by rw [typeLookup_type, builtinLookup_eq_fast]; kernel_rfl

/-- the call -/
theorem sub_call {h₀ : Heap} {pa : Addr} {code : Array Nat} {x : Str} {t2 t1 : Tok} {r : Str} {out : List Nat} {Q : Value → Shared → Prop} (hsz : x.length ≤ 100000) (hr : r.length ≤ 10) (hb : r.cps.contains 92 = false) (P : Pat h₀ pa code) (hx : Ext h₀ s.heap)
    (hs : Subs code x.cps r.cps.toList 0 out) (q : ∀ t s', Stp0 [] s s' → Q (.str ⟨out.toArray⟩ t) s') : wpAny (model prog w) A (call (.builtin "re.Pattern.sub") [.ref pa, .str r t1, .str x t2]) Q E s := by
  have hpat : ∀ {s' : Shared}, Ext h₀ s'.heap → Pat s'.heap pa code := fun hx => P.ext (W := []) (fun b o _ e => hx b o e) (fun b hb => absurd hb List.not_mem_nil)
  have hty : s.TypeIs (.ref pa) "re.Pattern" := by
    obtain ⟨o, fs, c, h1, h2, _⟩ := (hpat hx).obj
    exact ⟨o, h1, h2⟩
  refine wpAny_call (codeAny_call_builtin slot_pat_sub.plain entry_pat_sub (slot_pat_sub.check _ _ _ _ _ _ _ _ hty (args_pat_sub _ _ _) ?_))
  unfold Builtin.«re.Pattern.sub» reSubstitute
  dsimp only
  have hn : reNamed "re.Pattern.sub" "sub" ["repl", "string", "count"] 2 [.str r t1, .str x t2] [] = pure [some (.str r t1), some (.str x t2), none] := by rfl
  rw [hn]
  refine wpAny_bind (wpAny_pure ?_)
  dsimp only
  refine wpAny_bind (wpAny_pure ?_)
  refine wpAny_bind (wpAny_specialOf (typeIs_str _ _ _) str_not_called ?_)
  dsimp only [Option.isSome_none]
  refine wpAny_bind (wpAny_pure ?_)
  dsimp only
  rw [hb]
  refine wpAny_bind (wpAny_pure ?_)
  refine wpAny_bind (wpAny_pure ?_)
  refine wpAny_bind (wpAny_holding (wholeTarget (hpat hx) ?_))
  refine wpAny_bind (wpAny_newList ?_ (Nat.zero_le _))
  refine wpAny_pure ⟨plainId_quiet (by decide +kernel) _, ?_⟩
  refine sub_loop (l := s.heap.objs.size) (items := #[]) (ys := []) hsz hr P (none_of_ext hx (fresh_none _)) hs ?_ ⟨_, Heap.get?_push_size _ rfl⟩ .nil (Nat.le_refl _) (Nat.le_refl _) (Nat.zero_le _) ?_
  · exact fun b o e => Heap.get?_push_of_some _ (hx b o e)
  · intro t s' e
    refine q t s' ⟨e.gens, e.os, fun b o _ h => e.ext b o (fun hm => ?_) (Heap.get?_push_of_some _ h)⟩
    rw [List.mem_singleton.mp hm, fresh_none] at h; cases h
end
end Mine
end

section
open PySem PySem.Calls PySem.W PyProof.Rows
set_option Elab.async false
namespace Mine
open Sre

theorem drop_cons {t : Array Nat} {p : Nat} (h : p < t.size) : t.toList.drop p = t.getD p 0 :: t.toList.drop (p + 1) := by
  rw [List.drop_eq_getElem_cons (by simpa using h)]
  congr 1
  simp [Array.getD, h]

theorem subs_next {t : Array Nat} {F : Nat → List Nat} {hit : Nat → Prop} (h1 : ∀ p, p < t.size → ¬ hit p → F p = t.getD p 0 :: F (p + 1)) (h2 : ∀ p, hit p → p < t.size) (h3 : F t.size = []) :
    ∀ (d p : Nat), p + d = t.size → (∃ j, p ≤ j ∧ hit j ∧ (∀ i, p ≤ i → i < j → ¬ hit i) ∧ F p = (t.extract p j).toList ++ F j) ∨ ((∀ i, p ≤ i → ¬ hit i) ∧ F p = (t.extract p t.size).toList)
  | 0, p, h => by
    have : p = t.size := by omega
    subst this
    refine .inr ⟨fun i hi q => ?_, by rw [h3]; simp⟩
    have := h2 i q; omega
  | d + 1, p, h => by
    have hp : p < t.size := by omega
    by_cases hh : hit p
    · exact .inl ⟨p, Nat.le_refl _, hh, fun i h1 h2 => by omega, by simp⟩
    · have ex : ∀ j, p < j → j ≤ t.size → (t.extract p j).toList = t.getD p 0 :: (t.extract (p + 1) j).toList := fun j hj hjs => by
        rw [Array.toList_extract, Array.toList_extract, List.extract_eq_take_drop, List.extract_eq_take_drop, drop_cons hp, show j - p = j - (p + 1) + 1 by omega, List.take_succ_cons]
      rcases subs_next h1 h2 h3 d (p + 1) (by omega) with ⟨j, a, b, c, e⟩ | ⟨a, e⟩
      · refine .inl ⟨j, by omega, b, fun i x y => ?_, ?_⟩
        · by_cases q : i = p
          · rw [q]; exact hh
          · exact c i (by omega) y
        · rw [h1 p hp hh, e, ex j (by omega) (Nat.le_of_lt (h2 j b))]; rfl
      · refine .inr ⟨fun i x => ?_, ?_⟩
        · by_cases q : i = p
          · rw [q]; exact hh
          · exact a i (by omega)
        · rw [h1 p hp hh, e, ex t.size hp (Nat.le_refl _)]

theorem subs_of {code t : Array Nat} {F : Nat → List Nat} {hit : Nat → Prop} {e : Nat → Nat} {repl : List Nat} (h1 : ∀ p, p < t.size → ¬ hit p → F p = t.getD p 0 :: F (p + 1)) (h2 : ∀ p, hit p → p < t.size ∧ F p = repl ++ F (e p) ∧ p < e p ∧ e p ≤ t.size) (h3 : F t.size = [])
    (hf : ∀ p j, p ≤ j → hit j → (∀ i, p ≤ i → i < j → ¬ hit i) → Found code t p (some (j, e j))) (hn : ∀ p, (∀ i, p ≤ i → ¬ hit i) → Found code t p none) : ∀ (d p : Nat), p + d = t.size → Subs code t repl p (F p) := by
  intro d
  induction d using Nat.strongRecOn with
  | ind d ih =>
    intro p hp
    rcases subs_next h1 (fun p h => (h2 p h).1) h3 d p hp with ⟨j, a, b, c, x⟩ | ⟨a, x⟩
    · obtain ⟨y1, y2, y3, y4⟩ := h2 j b
      rw [x, y2, ← List.append_assoc]
      exact .hit (hf p j a b c) a y3 y4 (ih (t.size - e j) (by omega) (e j) (by omega))
    · rw [x]; exact .fin (hn p a)

/-- each end is a return and a feed -/
noncomputable def crlf : List Nat → List Nat
  | [] => []
  | 13 :: 10 :: r => 13 :: 10 :: crlf r
  | 10 :: r => 13 :: 10 :: crlf r
  | 13 :: r => 13 :: 10 :: crlf r
  | c :: r => c :: crlf r
/-- a dot more at each row's head that is one -/
noncomputable def stuff : Bool → List Nat → List Nat
  | _, [] => []
  | true, 46 :: r => 46 :: 46 :: stuff false r
  | _, c :: r => c :: stuff (c == 10) r

theorem crlf_other {c : Nat} {r : List Nat} (h1 : c ≠ 10) (h2 : c ≠ 13) : crlf (c :: r) = c :: crlf r := by
  cases r with
  | nil => rw [crlf.eq_5] <;> simp_all
  | cons d r => rw [crlf.eq_5] <;> simp_all
theorem crlf_13 {r : List Nat} (h : ∀ q, r ≠ 10 :: q) : crlf (13 :: r) = 13 :: 10 :: crlf r := by
  rw [crlf.eq_4]; intro q e; exact h q e
theorem stuff_other {b : Bool} {c : Nat} {r : List Nat} (h : ¬ (b = true ∧ c = 46)) : stuff b (c :: r) = c :: stuff (c == 10) r := by
  rw [stuff.eq_3]
  intro hb e
  exact h ⟨hb, e⟩

theorem subs2 (t : Array Nat) (ht : t.size ≤ 10000000) : Subs code2 t [13, 10] 0 (crlf t.toList) := by
  have key := subs_of (code := code2) (t := t) (F := fun p => crlf (t.toList.drop p)) (hit := hit2 t) (e := fun p => p + span2 t p) (repl := [13, 10]) ?_ ?_ ?_ ?_ ?_ t.size 0 (by omega)
  · simpa using key
  · intro p hp hh
    have hh' : ¬ (t.getD p 0 = 10 ∨ t.getD p 0 = 13) := fun x => hh ⟨hp, x⟩
    show crlf (t.toList.drop p) = _
    rw [drop_cons hp, crlf_other (fun x => hh' (.inl x)) (fun x => hh' (.inr x))]
  · intro p hh
    have hp := hh.1
    show _ ∧ crlf (t.toList.drop p) = [13, 10] ++ crlf (t.toList.drop (p + span2 t p)) ∧ _
    unfold span2
    by_cases h : t.getD p 0 = 13 ∧ p + 1 < t.size ∧ t.getD (p + 1) 0 = 10
    · rw [if_pos h]
      refine ⟨hp, ?_, by omega, by omega⟩
      rw [drop_cons hp, drop_cons h.2.1, h.1, h.2.2, crlf.eq_2]; rfl
    · rw [if_neg h]
      refine ⟨hp, ?_, by omega, by omega⟩
      rw [drop_cons hp]
      rcases hh.2 with e | e
      · rw [e, crlf.eq_3]; rfl
      · rw [e, crlf_13]
        · rfl
        · intro q hq
          by_cases h' : p + 1 < t.size
          · rw [drop_cons h'] at hq
            simp at hq
            exact h ⟨e, h', by simpa using hq.1⟩
          · rw [List.drop_eq_nil_of_le (by simp; omega)] at hq; cases hq
  · show crlf (t.toList.drop t.size) = []
    rw [List.drop_eq_nil_of_le (by simp)]; rfl
  · intro p j a b c
    obtain ⟨k, m', hk, r⟩ := search2_some a b c
    exact ⟨k, m', Nat.le_trans hk (by omega), r⟩
  · intro p a
    obtain ⟨k, m', hk, r⟩ := search2_none a
    exact ⟨k, m', Nat.le_trans hk (by omega), r⟩

theorem subs1 (t : Array Nat) (ht : t.size ≤ 10000000) : Subs code1 t [46, 46] 0 (stuff true t.toList) := by
  have key := subs_of (code := code1) (t := t) (F := fun p => stuff (p == 0 || t.getD (p - 1) 0 == 10) (t.toList.drop p)) (hit := hit1 t) (e := fun p => p + 1) (repl := [46, 46]) ?_ ?_ ?_ ?_ ?_ t.size 0 (by omega)
  · simpa using key
  · intro p hp hh
    show stuff _ (t.toList.drop p) = _
    rw [drop_cons hp, stuff_other fun x => hh ⟨hp, x.2, x.1⟩]
    simp
  · intro p hh
    refine ⟨hh.1, ?_, Nat.lt_succ_self _, hh.1⟩
    show stuff (p == 0 || t.getD (p - 1) 0 == 10) (t.toList.drop p) = [46, 46] ++ stuff (p + 1 == 0 || t.getD (p + 1 - 1) 0 == 10) (t.toList.drop (p + 1))
    rw [drop_cons hh.1, hh.2.2, hh.2.1, stuff.eq_2, Nat.add_sub_cancel, hh.2.1]
    simp
  · show stuff _ (t.toList.drop t.size) = []
    rw [List.drop_eq_nil_of_le (by simp)]; rw [stuff.eq_1]
  · intro p j a b c
    obtain ⟨k, m', hk, r⟩ := search1_some a b c
    exact ⟨k, m', Nat.le_trans hk (by omega), r⟩
  · intro p a
    obtain ⟨k, m', hk, r⟩ := search1_none a
    exact ⟨k, m', Nat.le_trans hk (by omega), r⟩
end Mine
end

section
open PySem PySem.Calls PySem.W PyProof.Rows
set_option Elab.async false
set_option maxRecDepth 100000
namespace Mine
section
variable {prog : Program} {w : World} {h₀ : Heap} {n : Nat} {env : Env} {V : List Addr} {ρ : List (Str × D)}

theorem RepL.one {h : Heap} {vs : List Value} {d : D} (r : RepL V h vs [d]) : ∃ v, vs = [v] ∧ Rep V h v d := by
  cases r with
  | cons rv rs => (first | obtain ⟨_, rfl⟩ := rs.toInt | obtain ⟨_, rfl⟩ := rs.toStr | obtain rfl := rs.toNone | obtain rfl := rs.toBool | obtain rfl := rs.toObj | obtain rfl := rs.toTy | obtain rfl := rs.toNil | cases rs); exact ⟨_, rfl, rv⟩
theorem RepL.two {h : Heap} {vs : List Value} {d e : D} (r : RepL V h vs [d, e]) : ∃ v u, vs = [v, u] ∧ Rep V h v d ∧ Rep V h u e := by
  cases r with
  | cons rv rs => obtain ⟨u, rfl, ru⟩ := rs.one; exact ⟨_, _, rfl, rv, ru⟩

/-- the call of a built-in method -/
noncomputable def MC (prog : Program) (w : World) (h₀ : Heap) (n : Nat) (V : List Addr) (id : String) (d0 : D) (ds : List D) (d : D) : Prop :=
  ∀ (A : Around) (s : Shared) (E : Value → Shared → Prop) (Q : Value → Shared → Prop) (v : Value) (vs : List Value), AOk n A → In0 h₀ V s → Old V s.heap → Rep V s.heap v d0 → RepL V s.heap vs ds →
    (∀ x s', Stp0 [] s s' → Rep V s'.heap x d → Q x s') → wpAny (model prog w) A (call (.builtin id) (v :: vs)) Q E s
/-- a value that has the built-in method -/
structure MT (h₀ : Heap) (V : List Addr) (d0 : D) (T : String) (name : Str) (id : String) : Prop where
  pa : PlainAttrs T
  slot : Slot T name id
  ty : typeOf (.builtin id) = pure (.type "method_descriptor")
  at_ : ∀ (s : Shared) (v : Value), In0 h₀ V s → Rep V s.heap v d0 → s.TypeIs v T ∧ ∀ a, v = .ref a → ∃ ob, s.heap.get? a = some ob ∧ ob.dict = none

theorem pe_meth {o : Expr} {name : Str} {apos pos : Pos} {args : List Expr} {d0 d : D} {ds : List D} {T id : String} (ho : PE prog w h₀ n env V ρ o d0) (hm : MT h₀ V d0 T name id) (hargs : PEs prog w h₀ n env V ρ pos args ds)
    (hc : MC prog w h₀ n V id d0 ds d) (hds : autoParam (args = [] → ds = []) tacSimp) (hns : autoParam ((backTo pos (starEach args env)).any (·.1) = false) tacRfl)
    (hbase : autoParam (attributeBase o name env (eval o env) = eval o env) tacRfl)
    (hfew : autoParam (((backTo pos (starEach args env)).all (fun x => !x.1) && (backToKw pos (keywordEach [] env)).all (fun x => x.1.isSome)
      && decide (args.length + ([] : List Keyword).length + (if ([] : List Keyword).isEmpty then 0 else 1) < 30)) = true) tacRfl)
    (hline : autoParam ((apos.endLine == pos.line) = true) tacRfl) : PE prog w h₀ n env V ρ (.Call (.Attribute o name apos) args [] pos) d := by
  intro A s E Q hA hB F q
  refine wpAny_Call_method_lateS hbase hfew hline (ho A s E _ hA hB F fun v s₁ e₁ r₁ => ?_)
  have hB₁ := hB.stp e₁
  obtain ⟨hT, hd⟩ := hm.at_ s₁ v hB₁ r₁
  refine ⟨T, id, hm.pa, hm.slot, hm.ty, hT, hd, ?_⟩
  refine callWith_go (h₀ := h₀) (V := V) kp_builtin hns (evalArgs_pes hargs hds hns hA hB₁ (F.ext e₁.toStp0) fun vs s₂ e₂ r₂ => ⟨hB₁.stp e₂, ?_⟩)
  have e02 := e₁.trans e₂
  exact wp_stp (fun E' Q' q' => hc A s₂ E' Q' v vs hA (hB₁.stp e₂) (F.ext e02.toStp0).old (r₁.stp0 e₂.toStp0) r₂ q') fun x s₃ e₃ r₃ => q x s₃ (e02.trans e₃) r₃

theorem mt_str {x : Str} {name : Str} {id : String} (slot : Slot "str" name id) (ty : typeOf (.builtin id) = pure (.type "method_descriptor")) : MT h₀ V (.str x) "str" name id :=
  ⟨PySem.F.plainAttrs_str, slot, ty, fun s v _ r => by (first | obtain ⟨_, rfl⟩ := r.toInt | obtain ⟨_, rfl⟩ := r.toStr | obtain rfl := r.toNone | obtain rfl := r.toBool | obtain rfl := r.toObj | obtain rfl := r.toTy | obtain rfl := r.toNil | cases r); exact ⟨typeIs_str _ _ _, fun a e => nomatch e⟩⟩

/-- texts -/
noncomputable abbrev dStrs (l : List Str) : List D := l.map .str
theorem RepL.strs {h : Heap} : ∀ {vs : List Value} {l : List Str}, RepL V h vs (dStrs l) → StrsAre vs l
  | _, [], .nil => .nil
  | _, x :: l, .cons rv rs => by (first | obtain ⟨_, rfl⟩ := rv.toInt | obtain ⟨_, rfl⟩ := rv.toStr | obtain rfl := rv.toNone | obtain rfl := rv.toBool | obtain rfl := rv.toObj | obtain rfl := rv.toTy | obtain rfl := rv.toNil | cases rv); exact .cons _ _ rs.strs
theorem RepL.ofStrs {h : Heap} : ∀ {vs : List Value} {l : List Str}, StrsAre vs l → RepL V h vs (dStrs l)
  | _, _, .nil => .nil
  | _, _, .cons _ _ r => .cons (.str _ _) (.ofStrs r)

theorem mc_join {x : Str} {ys : List Str} (h : (ys.map (·.length)).sum + ys.length * x.length ≤ 16777216) : MC prog w h₀ n V "str.join" (.str x) [.list (dStrs ys)] (.str (Txt.join x ys)) := by
  intro A s E Q v vs _ _ _ rv rs q
  (first | obtain ⟨_, rfl⟩ := rv.toInt | obtain ⟨_, rfl⟩ := rv.toStr | obtain rfl := rv.toNone | obtain rfl := rv.toBool | obtain rfl := rv.toObj | obtain rfl := rv.toTy | obtain rfl := rv.toNil | cases rv)
  obtain ⟨_, rfl, ru⟩ := rs.one
  obtain ⟨_, _, ha, hl, rl, rfl⟩ := ru.toList
  exact join_list hl.isList rl.strs h fun t' k => q _ _ (.toks _ _) (.str _ _)
theorem mc_startswith {x y : Str} : MC prog w h₀ n V "str.startswith" (.str x) [.str y] (.bool (Txt.startswith x y)) := by
  intro A s E Q v vs _ _ _ rv rs q
  (first | obtain ⟨_, rfl⟩ := rv.toInt | obtain ⟨_, rfl⟩ := rv.toStr | obtain rfl := rv.toNone | obtain rfl := rv.toBool | obtain rfl := rv.toObj | obtain rfl := rv.toTy | obtain rfl := rv.toNil | cases rv)
  obtain ⟨_, rfl, ru⟩ := rs.one
  (first | obtain ⟨_, rfl⟩ := ru.toInt | obtain ⟨_, rfl⟩ := ru.toStr | obtain rfl := ru.toNone | obtain rfl := ru.toBool | obtain rfl := ru.toObj | obtain rfl := ru.toTy | obtain rfl := ru.toNil | cases ru)
  exact SC.startswith (q _ _ (.refl _) (.bool _))
theorem strs_numbered (k : Nat) : ∀ l : List (Str × Tok), StrsAre (strValues l) (l.map (·.1))
  | [] => .nil
  | (y, t) :: r => .cons y t (strs_numbered k r)
theorem mc_split {x y : Str} (hy : (y.length == 0) = false) (hsz : x.length ≤ sizeLine) (hsz2 : (Builtin.Str.partsBetween x (Builtin.Str.occurrences x y 0 x.length (x.length + 1)) y.length).length ≤ sizeLine) :
    MC prog w h₀ n V "str.split" (.str x) [.str y] (.list (dStrs (Txt.split x y))) := by
  intro A s E Q v vs _ _ old rv rs q
  (first | obtain ⟨_, rfl⟩ := rv.toInt | obtain ⟨_, rfl⟩ := rv.toStr | obtain rfl := rv.toNone | obtain rfl := rv.toBool | obtain rfl := rv.toObj | obtain rfl := rv.toTy | obtain rfl := rv.toNil | cases rv)
  obtain ⟨_, rfl, ru⟩ := rs.one
  (first | obtain ⟨_, rfl⟩ := ru.toInt | obtain ⟨_, rfl⟩ := ru.toStr | obtain rfl := ru.toNone | obtain rfl := ru.toBool | obtain rfl := ru.toObj | obtain rfl := ru.toTy | obtain rfl := ru.toNil | cases ru)
  rename_i t u
  have fin : ∀ (l : List (Str × Tok)) (k : Nat), l.map (·.1) = Txt.split x y → Q (.ref s.heap.objs.size) { s with heap := s.heap.push { cls := .type "list", data := .seq (strValues l).toArray }, toks := k } := fun l k hl => by
    refine q _ _ (.heap fun _ _ e => Heap.get?_push_of_some _ e) ?_
    rw [← hl]
    exact rep_newList (s₁ := s) old (.ofStrs (strs_numbered 0 l))
  cases h1 : (decide (x.length < y.length) || decide (Builtin.Str.strKind x < Builtin.Str.strKind y))
  · cases hf : (Builtin.Str.occurrences x y 0 x.length (x.length + 1)).isEmpty
    · refine call_meets F.slot_str_split (typeIs_str _ _ _) F.entry_str_split (F.args_str_split_2 _ _) (meets_str_split_sep x y t u h1 hy hf hsz hsz2) ?_
      show wants Q E _ { s with toks := _, heap := s.heap.push { cls := .type "list", data := .seq (strsFrom s.toks (Builtin.Str.partsBetween x (Builtin.Str.occurrences x y 0 x.length (x.length + 1)) y.length)).toArray } }
      rw [strsFrom_eq]
      exact fin (numbered s.toks _) _ ((numbered_texts _ _).trans ((if_neg (ne_true_of_eq_false h1)).trans (if_neg (ne_true_of_eq_false hf))).symm)
    · exact call_meets F.slot_str_split (typeIs_str _ _ _) F.entry_str_split (F.args_str_split_2 _ _) (meets_str_split_not_found x y t u h1 hy hf)
        (fin [(x, t)] s.toks ((if_neg (ne_true_of_eq_false h1)).trans (if_pos hf)).symm)
  · exact call_meets F.slot_str_split (typeIs_str _ _ _) F.entry_str_split (F.args_str_split_2 _ _) (meets_str_split_cannot_occur x y t u h1)
      (fin [(x, t)] s.toks (if_pos h1).symm)

theorem pe_replace {o : Expr} {y z : Str} {k1 k2 : Nat} {p1 p2 apos pos : Pos} {x : Str} (ho : PE prog w h₀ n env V ρ o (.str x)) (hyz : (y == z) = false) (hb : x.length + (x.length + 1) * z.length ≤ 16777216)
    (hbase : autoParam (attributeBase o "replace" env (eval o env) = eval o env) tacRfl) (hline : autoParam ((apos.endLine == pos.line) = true) tacRfl) :
    PE prog w h₀ n env V ρ (.Call (.Attribute o "replace" apos) [.Constant (.str y) k1 p1, .Constant (.str z) k2 p2] [] pos) (.str (Txt.replace x y z)) := by
  intro A s E Q hA hB F q
  refine wpAny_Call_method_lateS hbase rfl hline (ho A s E _ hA hB F fun v s₁ e₁ r₁ => ?_)
  (first | obtain ⟨_, rfl⟩ := r₁.toInt | obtain ⟨_, rfl⟩ := r₁.toStr | obtain rfl := r₁.toNone | obtain rfl := r₁.toBool | obtain rfl := r₁.toObj | obtain rfl := r₁.toTy | obtain rfl := r₁.toNil | cases r₁)
  have hB₁ := hB.stp e₁
  refine ⟨"str", "str.replace", PySem.F.plainAttrs_str, PySem.F.slot_str_replace, PySem.F.type_str_replace, typeIs_str _ _ _, (fun a e => nomatch e), ?_⟩
  refine callWith_go (h₀ := h₀) (V := V) kp_builtin rfl ?_
  refine evalArgs_plain (show wpAny _ A (spliced (backTo pos (starEach [.Constant (.str y) k1 p1, .Constant (.str z) k2 p2] env))) _ E s₁ from ?_)
  refine wpAny_items_cons (wpAny_Constant_str ?_) rfl
  refine wpAny_items_cons (wpAny_Constant_str ?_) rfl
  refine wpAny_items_nil ⟨⟨hB₁.ext, Nat.le_trans hB₁.toks (by show s₁.toks ≤ s₁.toks + 1 + 1; omega), hB₁.new⟩, ?_⟩
  have ht := hB₁.toks
  refine wpAny_with_toks (Nat.le_refl _) (SC.replace (by show s₁.toks ≠ 0; omega) (by show s₁.toks + 1 ≠ 0; omega) (by show s₁.toks ≠ s₁.toks + 1; omega) hyz hb fun t' k hk => ?_)
  exact q _ _ (e₁.trans ⟨.toks _ _, by simp at hk ⊢; omega⟩) (.str _ _)

/-- the patterns -/
theorem mt_pat {pa : Addr} {code : Array Nat} (P : Pat h₀ pa code) : MT h₀ V (.obj pa) "re.Pattern" "sub" "re.Pattern.sub" :=
  ⟨plainAttrs_pat, slot_pat_sub, type_pat_sub, fun s v hB r => by
    obtain ⟨o, fs, c, h1, h2, h3, _⟩ := P.obj
    have h1' := hB.ext _ _ h1
    (first | obtain ⟨_, rfl⟩ := r.toInt | obtain ⟨_, rfl⟩ := r.toStr | obtain rfl := r.toNone | obtain rfl := r.toBool | obtain rfl := r.toObj | obtain rfl := r.toTy | obtain rfl := r.toNil | cases r)
    exact ⟨⟨o, h1', h2⟩, fun a e => by cases e; exact ⟨o, h1', h3⟩⟩⟩
theorem mc_pat {pa : Addr} {code : Array Nat} {x r : Str} {out : List Nat} (P : Pat h₀ pa code) (hsz : x.length ≤ 100000) (hr : r.length ≤ 10) (hb : r.cps.contains 92 = false) (hs : Subs code x.cps r.cps.toList 0 out) :
    MC prog w h₀ n V "re.Pattern.sub" (.obj pa) [.str r, .str x] (.str ⟨out.toArray⟩) := by
  intro A s E Q v vs _ hB _ rv rs q
  (first | obtain ⟨_, rfl⟩ := rv.toInt | obtain ⟨_, rfl⟩ := rv.toStr | obtain rfl := rv.toNone | obtain rfl := rv.toBool | obtain rfl := rv.toObj | obtain rfl := rv.toTy | obtain rfl := rv.toNil | cases rv)
  obtain ⟨_, _, rfl, r1, r2⟩ := rs.two
  cases r1; cases r2
  exact sub_call hsz hr hb P hB.ext hs fun t s' e => q _ s' e (.str _ _)

/-- an object that a global name bears -/
theorem pe_gobj {x : Str} {pos : Pos} {a : Addr} (g : GV h₀ x (.ref a)) (hk : autoParam (env.kindOf x = some .globalImplicit) tacRfl) (hd : autoParam ((x == ("__debug__" : Str)) = false) tacDecide) : PE prog w h₀ n env V ρ (.Name x pos) (.obj a) :=
  pe_global g (fun _ => .obj a) hk hd
theorem pe_gstr {x : Str} {pos : Pos} {y : Str} {t : Tok} (g : GV h₀ x (.str y t)) (hk : autoParam (env.kindOf x = some .globalImplicit) tacRfl) (hd : autoParam ((x == ("__debug__" : Str)) = false) tacDecide) : PE prog w h₀ n env V ρ (.Name x pos) (.str y) :=
  pe_global g (fun _ => .str y t) hk hd
theorem pe_gty {x : Str} {pos : Pos} {T : String} (g : GV h₀ x (.type T)) (hk : autoParam (env.kindOf x = some .globalImplicit) tacRfl) (hd : autoParam ((x == ("__debug__" : Str)) = false) tacDecide) : PE prog w h₀ n env V ρ (.Name x pos) (.ty T) :=
  pe_global g (fun _ => .ty T) hk hd

theorem pe_neg {e : Expr} {pos : Pos} {k : Int} (he : PE prog w h₀ n env V ρ e (.int k)) : PE prog w h₀ n env V ρ (.UnaryOp .USub e pos) (.int (-k)) := by
  intro A s E Q hA hB F q
  refine wpAny_UnaryOp (he A s E _ hA hB F fun v s₁ e₁ r₁ => ?_)
  (first | obtain ⟨_, rfl⟩ := r₁.toInt | obtain ⟨_, rfl⟩ := r₁.toStr | obtain rfl := r₁.toNone | obtain rfl := r₁.toBool | obtain rfl := r₁.toObj | obtain rfl := r₁.toTy | obtain rfl := r₁.toNil | cases r₁)
  exact PyProof.Rows.neg_int (q _ _ (e₁.trans ⟨.toks _ _, by simp⟩) (.int _ _))

theorem pe_or {a b : Expr} {pos : Pos} {d1 d : D} {c : Bool} (ha : PE prog w h₀ n env V ρ a d1) (ht : TR prog w n V d1 c) (h1 : c = true → d = d1) (h2 : c = false → PE prog w h₀ n env V ρ b d) :
    PE prog w h₀ n env V ρ (.BoolOp .Or [a, b] pos) d := by
  intro A s E Q hA hB F q
  refine BoolOp_or (ha A s E _ hA hB F fun v s₁ e₁ r₁ => ?_)
  have F₁ := F.ext e₁.toStp0
  refine wp_stp (R := fun x _ => x = c) (fun E' Q' q' => ht A s₁ E' Q' v hA F₁.old r₁ fun s' e' => q' _ s' e' rfl) ?_
  rintro x s₂ e₂ rfl
  have e02 := e₁.trans e₂
  cases x with
  | true => rw [if_pos rfl]; rw [h1 rfl] at q; exact q _ _ e02 (r₁.stp0 e₂.toStp0)
  | false =>
    rw [if_neg (by decide)]
    exact BoolOp_one (h2 rfl A s₂ E Q hA (hB.stp e02) (F.ext e02.toStp0) fun v s₃ e₃ r => q v s₃ (e02.trans e₃) r)
theorem cl_len_list {ds : List D} (h : ds.length ≤ sizeLine) : CL prog w h₀ n V (.builtin "len") [.list ds] (.int ds.length) := by
  intro A s E Q vs _ _ _ rs q
  have : sizeLine = 16777216 := rfl
  obtain ⟨_, rfl, r⟩ := rs.one
  obtain ⟨_, _, ha, hl, rl, rfl⟩ := r.toList
  have e := rl.toArray
  refine PyProof.Rows.len_list hl.isList (by omega) ?_
  rw [e]; exact q _ _ (.toks _ _) (.int _ _)
theorem cl_len_str {x : Str} (h : x.length ≤ sizeLine) : CL prog w h₀ n V (.builtin "len") [.str x] (.int x.length) := by
  intro A s E Q vs _ _ _ rs q
  have : sizeLine = 16777216 := rfl
  obtain ⟨_, rfl, r⟩ := rs.one
  (first | obtain ⟨_, rfl⟩ := r.toInt | obtain ⟨_, rfl⟩ := r.toStr | obtain rfl := r.toNone | obtain rfl := r.toBool | obtain rfl := r.toObj | obtain rfl := r.toTy | obtain rfl := r.toNil | cases r)
  exact PyProof.Rows.len_str (by omega) (q _ _ (.toks _ _) (.int _ _))
theorem cl_len_tuple {ds : List D} (h : ds.length ≤ sizeLine) : CL prog w h₀ n V (.builtin "len") [.tuple ds] (.int ds.length) := by
  intro A s E Q vs _ _ _ rs q
  have : sizeLine = 16777216 := rfl
  obtain ⟨_, rfl, r⟩ := rs.one
  obtain ⟨_, _, ha, hl, rl, rfl⟩ := r.toTuple
  have e := rl.toArray
  refine PyProof.Rows.len_tuple hl (by omega) ?_
  rw [e]; exact q _ _ (.toks _ _) (.int _ _)
theorem RepL.ints {h : Heap} : ∀ {vs : List Value} {l : List Int}, RepL V h vs (dInts l) → IntsAre vs l
  | _, [], .nil => .nil
  | _, x :: l, .cons rv rs => by (first | obtain ⟨_, rfl⟩ := rv.toInt | obtain ⟨_, rfl⟩ := rv.toStr | obtain rfl := rv.toNone | obtain rfl := rv.toBool | obtain rfl := rv.toObj | obtain rfl := rv.toTy | obtain rfl := rv.toNil | cases rv); exact .cons _ _ rs.ints
theorem RepL.ofInts {h : Heap} : ∀ {vs : List Value} {l : List Int}, IntsAre vs l → RepL V h vs (dInts l)
  | _, _, .nil => .nil
  | _, _, .cons _ _ r => .cons (.int _ _) (.ofInts r)
theorem cl_sum {l : List Int} : CL prog w h₀ n V (.builtin "sum") [.list (dInts l)] (.int l.sum) := by
  intro A s E Q vs hA _ _ rs q
  obtain ⟨_, rfl, r⟩ := rs.one
  obtain ⟨_, _, ha, hl, rl, rfl⟩ := r.toList
  have hi := rl.ints
  obtain ⟨xs, hx⟩ := hi.allInts.items
  rw [Array.toArray_toList] at hx
  have hl' := hl.isList
  rw [hx] at hl'
  refine sum_intListG hA.handled hl' fun h' tk t' hk => ?_
  have e1 : l = xs.toList.map (·.1) := by
    rw [← nums_intItems, ← hx]
    exact hi.numsOf.symm
  have e2 : preSum (numAt xs) xs.size = l.sum := by
    rw [preSum_eq, List.take_of_length_le (by simp), e1]
  rw [e2]
  exact q _ _ (.heap hk) (.int _ _)
theorem cl_chr {k : Int} (h0 : 0 ≤ k) (h1 : k ≤ 1114111) : CL prog w h₀ n V (.builtin "chr") [.int k] (.str ⟨#[k.toNat]⟩) := by
  intro A s E Q vs _ _ _ rs q
  obtain ⟨_, rfl, r⟩ := rs.one
  (first | obtain ⟨_, rfl⟩ := r.toInt | obtain ⟨_, rfl⟩ := r.toStr | obtain rfl := r.toNone | obtain rfl := r.toBool | obtain rfl := r.toObj | obtain rfl := r.toTy | obtain rfl := r.toNil | cases r)
  exact chr_of_range h0 h1 (q _ _ (.toks _ _) (.str _ _))
theorem cl_str_int {k : Int} (h0 : 0 ≤ k) (h1 : k < 1000000) : CL prog w h₀ n V (.type "str") [.int k] (.str (Str.ofString (toString k))) := by
  intro A s E Q vs _ _ _ rs q
  obtain ⟨_, rfl, r⟩ := rs.one
  (first | obtain ⟨_, rfl⟩ := r.toInt | obtain ⟨_, rfl⟩ := r.toStr | obtain rfl := r.toNone | obtain rfl := r.toBool | obtain rfl := r.toObj | obtain rfl := r.toTy | obtain rfl := r.toNil | cases r)
  exact str_of_int_fit (N := 1000000) (by rw [if_neg (by omega)]; exact h1) (by decide) fun _ => q _ _ (.toks _ _) (.str _ _)
theorem b2_imul {x : Str} {k : Int} (hok : MulOk x k) : B2 prog w n V .Mult (.int k) (.str x) (.str (Txt.mul x k)) := by
  intro A s E Q v u _ _ rv ru q
  (first | obtain ⟨_, rfl⟩ := rv.toInt | obtain ⟨_, rfl⟩ := rv.toStr | obtain rfl := rv.toNone | obtain rfl := rv.toBool | obtain rfl := rv.toObj | obtain rfl := rv.toTy | obtain rfl := rv.toNil | cases rv); (first | obtain ⟨_, rfl⟩ := ru.toInt | obtain ⟨_, rfl⟩ := ru.toStr | obtain rfl := ru.toNone | obtain rfl := ru.toBool | obtain rfl := ru.toObj | obtain rfl := ru.toTy | obtain rfl := ru.toNil | cases ru)
  rename_i t u
  refine lm_binaryOp_repeat_right (T := "str") (U := "int") (by decide) (fun s' => typeIs_int s' k t) (typeIs_str s x u) F.fills_int_mul noFill_str_mul F.slot_int_mul lm_noRepeat_int repeat_str F.slot_int_index.lookup
    (call_gives F.slot_int_mul (typeIs_int s k t) F.entry_int_mul (F.args_int_mul_2 _ _) (AutoIntG3.int___mul___int_str_0 k t x u)
      ⟨rfl, typeIs_str _ _ _, call_gives F.slot_str_mul (typeIs_str s x u) F.entry_str_mul (F.args_str_mul_2 _ _) (gives_str_mul x k u t hok.1 hok.2.1 hok.2.2) ?_⟩)
  have h : ∀ t' kk, Q (.str (Txt.mul x k) t') { s with toks := kk } := fun t' kk => q _ _ (.toks _ _) (.str _ _)
  unfold Txt.mul at h
  by_cases h1 : k < 1
  · rw [if_pos h1]; have h' := h s.toks (s.toks + 1); rw [if_pos h1] at h'; exact ⟨by decide, h'⟩
  · rw [if_neg h1]; refine post_val_or_made (fun hc => fits_reps (hok.2.2 h1 (by simpa using hc))) fun t' kk => ?_
    have h' := h t' kk; rw [if_neg h1] at h'; exact h'
end
end Mine
end

section
open PySem PySem.Calls PySem.W PyProof.Rows
set_option Elab.async false
set_option maxRecDepth 100000
namespace Mine
section
variable {prog : Program} {w : World} {h₀ : Heap} {n : Nat} {env : Env} {V W : List Addr} {ρ : List (Str × D)} {s0 : Shared}

/-- what a body may give back -/
noncomputable def Fin1 (V : List Addr) (s : Shared) (d : D) (Q : Flow → Shared → Prop) : Prop :=
  ∀ v s' V', (∀ a ∈ V, a ∈ V') → Ext s.heap s'.heap → s'.gens = s.gens → s'.os = s.os → Rep V' s'.heap v d → Q (.ret v) s'

/-- several names as a target -/
inductive Names : List Expr → List Str → Prop
  | nil : Names [] []
  | cons {x p es xs} : Names es xs → Names (.Name x p :: es) (x :: xs)
noncomputable abbrev KOk (env : Env) (x : Str) : Prop := env.kindOf x = some .local ∨ (env.kindOf x = some .cell ∧ (env.cells.lookup x).isSome = true)
theorem Names.len {es : List Expr} {xs : List Str} (h : Names es xs) : (assignEach es env).length = xs.length := by
  induction h with
  | nil => rfl
  | cons _ ih => show (assignEach _ env).length + 1 = _; rw [ih]; rfl
theorem Names.star {es : List Expr} {xs : List Str} (h : Names es xs) : (assignEach es env).findIdx? (·.1) = none := by
  rw [List.findIdx?_eq_none_iff]
  induction h with
  | nil => intro x hx; cases hx
  | cons _ ih =>
    intro x hx
    rcases List.mem_cons.mp hx with rfl | hx
    · rfl
    · exact ih x hx
theorem Names.store {es : List Expr} {xs : List Str} (h : Names es xs) : ∀ {A : Around} {s : Shared} {E : Value → Shared → Prop} {Q : Unit → Shared → Prop} {V : List Addr} {ρ : List (Str × D)} {vs : List Value} {ds : List D}, Fm env V ρ s.heap → RepL V s.heap vs ds → ds.length = xs.length → (∀ x ∈ xs, KOk env x) →
    (∀ s', Stp0 V s s' → Fm env V ((xs.zip ds).reverse ++ ρ) s'.heap → (∀ a o, a ∉ xs.flatMap (wAddr env) → s.heap.get? a = some o → s'.heap.get? a = some o) → Q () s') → wpAny (model prog w) A (assignInOrder ((assignEach es env).map (·.2)) vs) Q E s := by
  induction h with
  | nil =>
    intro A s E Q V ρ vs ds F r hl _ q
    cases r with
    | nil => exact wpAny_pure (q s ⟨rfl, rfl, fun _ _ _ e => e⟩ F fun _ _ _ e => e)
    | cons => cases hl
  | @cons x p es xs _ ih =>
    intro A s E Q V ρ vs ds F r hl hk q
    cases r with
    | nil => cases hl
    | @cons v vs d ds rv rs =>
      refine assignInOrder_cons (t := assign (.Name x p) env) (wpAny_assign_Name (fm_store F rv (hk x (.head _)) fun s₁ e₁ F₁ k₁ => ?_))
      refine ih F₁ (rs.ext (fun _ h => h) e₁.ext) (by simpa using hl) (fun y hy => hk y (.tail _ hy)) fun s₂ e₂ F₂ k₂ => q s₂ ⟨e₂.gens.trans e₁.gens, e₂.os.trans e₁.os, fun b o hb e => e₂.ext b o hb (e₁.ext b o hb e)⟩ ?_ fun a o ha e => ?_
      · simpa [List.append_assoc] using F₂
      · simp only [List.flatMap_cons, List.mem_append, not_or] at ha
        exact k₂ a o ha.2 (k₁ a o ha.1 e)

noncomputable def dItems : D → List D
  | .tuple ds => ds
  | _ => []
theorem ta_tuple {es : List Expr} {xs : List Str} {k : Nat} {pos : Pos} (h : Names es xs) (hk : ∀ x ∈ xs, KOk env x) :
    TA prog w n env (.Tuple es k pos) (fun d => (xs.zip (dItems d)).reverse) (fun d => ∃ ds, d = .tuple ds ∧ ds.length = xs.length) (xs.flatMap (wAddr env)) := by
  rintro A s E Q V ρ v d ⟨ds, rfl, hl⟩ hA F r q
  obtain ⟨_, _, ha, ht, rl, rfl⟩ := r.toTuple
  refine wpAny_assign_Tuple hA.handled ht (by rw [h.len, rl.toArray, hl]) h.star fun h' e' => ?_
  have e1 : Stp0 [] s { s with heap := h' } := .heap fun b o e => e' b o (fun q => by rw [q, fresh_none] at e; cases e) e
  refine h.store (F.ext e1) (rl.stp0 e1) hl hk fun s₂ e₂ F₂ k₂ => q s₂ ⟨e₂.gens, e₂.os, fun b o hb e => e₂.ext b o hb (e1.keep b o e)⟩ F₂ fun a o ha e => k₂ a o ha (e1.keep a o e)

theorem tgt_tuple {scope : Scope} {es : List Expr} {xs : List Str} {k : Nat} {pos : Pos} (h : Names es xs) (hx : ∀ x ∈ xs, scope.names.lookup x = some .local ∨ scope.names.lookup x = some .cell) :
    Tgt prog w n scope (.Tuple es k pos) (fun d => (xs.zip (dItems d)).reverse) (fun d => ∃ ds, d = .tuple ds ∧ ds.length = xs.length) := by
  intro env h1 h' oc S
  have kind : ∀ x kd, scope.names.lookup x = some kd → kd ≠ .free → (cEnv scope env h1.objs.size).kindOf x = some kd := fun x kd e hn => by
    show (relabel scope env).names.lookup x = _
    rw [relabel_lookup, e]
    cases kd <;> first | rfl | exact absurd rfl hn
  refine ⟨xs.flatMap (wAddr (cEnv scope env h1.objs.size)), ta_tuple h fun x hm => ?_, fun a ha => ?_⟩
  · rcases hx x hm with e | e
    · exact .inl (kind x _ e (by decide))
    · obtain ⟨c, hc, _⟩ := S.own x e
      exact .inr ⟨kind x _ e (by decide), by rw [hc]; rfl⟩
  · obtain ⟨x, hm, ha⟩ := List.mem_flatMap.mp ha
    unfold wAddr at ha
    rcases hx x hm with e | e
    · rw [if_pos (kind x _ e (by decide))] at ha
      exact .inl (List.mem_singleton.mp ha)
    · obtain ⟨c, hc, hm⟩ := S.own x e
      rw [if_neg (by rw [kind x _ e (by decide)]; decide), hc] at ha
      exact .inr (by rw [List.mem_singleton.mp ha]; exact hm)

theorem mem_zip_keys {x : Str} {d : D} : ∀ {xs : List Str} {ds : List D}, (x, d) ∈ xs.zip ds → x ∈ xs
  | _ :: _, _ :: _, h => by
    rcases List.mem_cons.mp h with h | h
    · cases h; exact .head _
    · exact .tail _ (mem_zip_keys h)
theorem hdis_names {scope : Scope} {xs : List Str} {ds : List D} (hx : ∀ x ∈ xs, scope.names.lookup x = some .local ∨ scope.names.lookup x = some .cell) :
    ∀ d ∈ ds, ∀ y dy, (caps scope ρ).lookup y = some dy → ((xs.zip (dItems d)).reverse : List (Str × D)).lookup y = Option.none := by
  intro d _ y dy hy
  have := (lookup_filter_key (fun y => scope.names.lookup y == some .free) y ρ hy).2
  have hf : scope.names.lookup y = some .free := by simpa using this
  cases hl : ((xs.zip (dItems d)).reverse : List (Str × D)).lookup y with
  | none => rfl
  | some e =>
    have hm := mem_of_lookup hl
    rw [List.mem_reverse] at hm
    have := hx y (mem_zip_keys hm)
    rw [hf] at this; rcases this with h | h <;> cases h

/-- [elt for x, y in iter if ..] -/
theorem pef_compN {elt iter : Expr} {es : List Expr} {xs : List Str} {k : Nat} {px : Pos} {ifs : List Expr} {scope : Scope} {pos : Pos} {ds : List D} {t : D → Bool} {f : D → D} (hN : Names es xs)
    (hit : IT prog w h₀ n env V ρ iter ds) (co : CompOk scope env) (hx : ∀ x ∈ xs, scope.names.lookup x = some .local ∨ scope.names.lookup x = some .cell) (hokD : ∀ d ∈ ds, ∃ l, d = .tuple l ∧ l.length = xs.length)
    (htests : ∀ C V' d, d ∈ ds → TS prog w h₀ n (cEnv scope env C) V' ((xs.zip (dItems d)).reverse ++ caps scope ρ) ifs (t d))
    (helt : ∀ C V' d, d ∈ ds → t d = true → PE prog w h₀ n (cEnv scope env C) V' ((xs.zip (dItems d)).reverse ++ caps scope ρ) elt (f d))
    (hsz : ds.length ≤ sizeLine) (hfs : autoParam (∀ x, foldedSetIterable iter env x = pure x) tacIntroRfl) :
    PEF prog w h₀ n env V ρ (.ListComp elt [⟨.Tuple es k px, iter, ifs, 0⟩] scope pos) ((ds.filter t).map f) :=
  pef_comp hit co (tgt_tuple hN hx) hokD (hdis_names hx) htests helt hsz hfs

end
end Mine
end

section
open PySem PySem.Calls PySem.W PyProof.Rows
set_option Elab.async false
set_option maxRecDepth 100000
namespace Mine

/-- what a body owns at an address -/
structure Ow where
  P : List Addr → Heap → Addr → Prop
  ext : ∀ {V W : List Addr} {h h' : Heap} {a : Addr}, P V h a → ExtB W h h' → (∀ x ∈ W, x ∈ V) → a ∉ W → P V h' a
  shun : ∀ {V V' : List Addr} {h : Heap} {a : Addr}, P V h a → (∀ c o, c ∉ V → h.get? c = some o → c ∉ V') → P V' h a
/-- a list -/
noncomputable def ol (ds : List D) : Ow where
  P := fun V h a => OwnL V h a ds
  ext := fun o e hW ha => o.ext e hW ha
  shun := fun ⟨vs, hl, hr⟩ hs => ⟨vs, hl, hr.shun hs⟩
theorem Ow.stp {V : List Addr} {h h' : Heap} {a : Addr} {o : Ow} (x : o.P V h a) (e : Ext h h') : o.P V h' a := o.ext (W := []) x (fun b o _ x => e b o x) (fun _ h => (nomatch h)) (fun h => (nomatch h))

/-- a body's state with the lists that it alone holds; of what stood at a base's state only its addresses may be written -/
structure Bo (h₀ : Heap) (B : List (List Addr × Shared)) (env : Env) (V : List Addr) (ρ : List (Str × D)) (O : List (Addr × Ow)) (s : Shared) : Prop where
  fm : Fm env V ρ s.heap
  in0 : In0 h₀ V s
  keep : ∀ p ∈ B, Stp0 p.1 p.2 s
  newO : ∀ p ∈ B, ∀ a, Own env a → a ∈ p.1 ∨ p.2.heap.get? a = none
  own : ∀ p ∈ O, p.2.P V s.heap p.1
  onew : ∀ q ∈ O, q.1 ∈ V ∧ ¬ Own env q.1 ∧ ∀ p ∈ B, q.1 ∈ p.1 ∨ p.2.heap.get? q.1 = none
  odis : (O.map (·.1)).Nodup
  wv : ∀ p ∈ B, ∀ a ∈ p.1, a ∈ V

section
variable {prog : Program} {w : World} {h₀ : Heap} {n : Nat} {env : Env} {V : List Addr} {ρ : List (Str × D)} {B : List (List Addr × Shared)} {O : List (Addr × Ow)}

theorem Bd.bo {W : List Addr} {s0 s : Shared} (b : Bd h₀ W s0 env V ρ s) (hw : ∀ a ∈ W, a ∈ V) : Bo h₀ [(W, s0)] env V ρ [] s :=
  ⟨b.fm, b.in0, fun p hp => by rw [List.mem_singleton.mp hp]; exact ⟨b.gens, b.os, b.keep⟩, fun p hp a ha => by rw [List.mem_singleton.mp hp]; exact .inr (b.newO a ha), fun _ h => (nomatch h), fun _ h => (nomatch h), .nil,
    fun p hp => by rw [List.mem_singleton.mp hp]; exact hw⟩
theorem Stp0.after {W : List Addr} {s s' s'' : Shared} (x : Stp0 W s s') (y : Stp0 [] s' s'') : Stp0 W s s'' := ⟨y.gens.trans x.gens, y.os.trans x.os, fun b o hb e => y.keep b o (x.ext b o hb e)⟩
theorem Bo.pure {s s' : Shared} (b : Bo h₀ B env V ρ O s) (e : Stp [] s s') : Bo h₀ B env V ρ O s' :=
  ⟨b.fm.ext e.toStp0, b.in0.stp e, fun p hp => (b.keep p hp).after e.toStp0, b.newO, fun p hp => Ow.stp (b.own p hp) e.keep, b.onew, b.odis, b.wv⟩
theorem Bo.names {s : Shared} {ρ' : List (Str × D)} (b : Bo h₀ B env V ρ O s) (h : ∀ x d, ρ'.lookup x = some d → ρ.lookup x = some d) : Bo h₀ B env V ρ' O s := { b with fm := b.fm.names_mono h }
theorem Bo.fewer {s : Shared} {O' : List (Addr × Ow)} (b : Bo h₀ B env V ρ O s) (h : O'.Sublist O) : Bo h₀ B env V ρ O' s :=
  { b with own := fun p hp => b.own p (h.subset hp), onew := fun p hp => b.onew p (h.subset hp), odis := b.odis.sublist (h.map _) }
theorem Bo.stores {s s' : Shared} {xs : List Str} {ρ' : List (Str × D)} (b : Bo h₀ B env V ρ O s) (e : Stp V s s') (k : ∀ a o, a ∉ xs.flatMap (wAddr env) → s.heap.get? a = some o → s'.heap.get? a = some o) (i : In0 h₀ V s') (f : Fm env V ρ' s'.heap) :
    Bo h₀ B env V ρ' O s' := by
  have wo : ∀ a ∈ xs.flatMap (wAddr env), Own env a := fun a hm => by obtain ⟨x, _, hm⟩ := List.mem_flatMap.mp hm; exact wAddr_own hm
  refine ⟨f, i, fun p hp => ⟨e.gens.trans (b.keep p hp).gens, e.os.trans (b.keep p hp).os, fun a o ha ho => k a o (fun hm => ?_) ((b.keep p hp).ext a o ha ho)⟩, b.newO, fun p hp => ?_, b.onew, b.odis, b.wv⟩
  · rcases b.newO p hp a (wo a hm) with h | h
    · exact ha h
    · rw [h] at ho; cases ho
  · refine p.2.ext (W := xs.flatMap (wAddr env)) (b.own p hp) (fun c o hc ho => k c o hc ho) (fun c hc => ?_) (fun hm => (b.onew p hp).2.1 (wo _ hm))
    rcases wo c hc with h | ⟨y, h⟩
    · rw [h]; exact b.fm.vloc
    · exact b.fm.vcell y c h
theorem Bo.store {s s' : Shared} {x : Str} {ρ' : List (Str × D)} (b : Bo h₀ B env V ρ O s) (e : Stp V s s') (k : Kept (wAddr env x) s s') (i : In0 h₀ V s') (f : Fm env V ρ' s'.heap) : Bo h₀ B env V ρ' O s' :=
  b.stores (xs := [x]) e (fun a o ha ho => k a o (fun hm => ha (by simpa using hm)) ho) i f

theorem bo_assign {x : Str} {px pos : Pos} {e : Expr} {d : D} {rest : List Stmt} {A : Around} {s : Shared} {E : Value → Shared → Prop} {Q : Flow → Shared → Prop} (hA : AOk n A) (b : Bo h₀ B env V ρ O s)
    (he : PE prog w h₀ n env V ρ e d) (hk : KOk env x)
    (q : ∀ s', Bo h₀ B env V ((x, d) :: ρ) O s' → wpAny (model prog w) A (execs rest env) Q E s')
    (hsw : autoParam (swapsWith e (some (.Name x px)) pos.line env = pure false) tacRfl) : wpAny (model prog w) A (execs (.Assign [.Name x px] e pos :: rest) env) Q E s :=
  ex_assign hA b.in0 b.fm he hk (fun s' e k i f => q s' (b.store e k i f)) hsw
theorem bo_aug {x : Str} {px pos : Pos} {op : Operator} {e : Expr} {a c d : D} {rest : List Stmt} {A : Around} {s : Shared} {E : Value → Shared → Prop} {Q : Flow → Shared → Prop} (hA : AOk n A) (b : Bo h₀ B env V ρ O s)
    (hx : ρ.lookup x = some a) (he : PE prog w h₀ n env V ρ e c) (ho : I2 prog w n V op a c d) (hk : KOk env x)
    (q : ∀ s', Bo h₀ B env V ((x, d) :: ρ) O s' → wpAny (model prog w) A (execs rest env) Q E s') : wpAny (model prog w) A (execs (.AugAssign (.Name x px) op e pos :: rest) env) Q E s :=
  ex_aug hA b.in0 b.fm hx he ho hk fun s' e k i f => q s' (b.store e k i f)
theorem bo_if {test : Expr} {body orelse rest : List Stmt} {pos : Pos} {c : Bool} {V' : List Addr} {ρ' : List (Str × D)} {A : Around} {s : Shared} {E : Value → Shared → Prop} {Q : Flow → Shared → Prop} (hA : AOk n A) (b : Bo h₀ B env V ρ O s)
    (hB' : In0 h₀ V' s) (F' : Fm env V' ρ' s.heap) (ht : PT prog w h₀ n env V' ρ' test c)
    (h1 : c = true → ∀ s', Bo h₀ B env V ρ O s' → wpAny (model prog w) A (execs body env) (Behind prog w A env rest Q E) E s')
    (h2 : c = false → ∀ s', Bo h₀ B env V ρ O s' → wpAny (model prog w) A (execs orelse env) (Behind prog w A env rest Q E) E s') :
    wpAny (model prog w) A (execs (.If test body orelse pos :: rest) env) Q E s :=
  ex_if hA hB' F' ht (fun h s' e _ _ => h1 h s' (b.pure e)) fun h s' e _ _ => h2 h s' (b.pure e)
theorem bo_unpack {es : List Expr} {xs : List Str} {k : Nat} {px pos : Pos} {e : Expr} {ds : List D} {rest : List Stmt} {A : Around} {s : Shared} {E : Value → Shared → Prop} {Q : Flow → Shared → Prop} (hA : AOk n A) (b : Bo h₀ B env V ρ O s)
    (he : PE prog w h₀ n env V ρ e (.tuple ds)) (hN : Names es xs) (hl : ds.length = xs.length) (hk : ∀ x ∈ xs, KOk env x)
    (q : ∀ s', Bo h₀ B env V ((xs.zip ds).reverse ++ ρ) O s' → wpAny (model prog w) A (execs rest env) Q E s')
    (hs : autoParam (swapsWithSole [.Tuple es k px] e pos.line env = pure false) tacRfl) (hw : autoParam (swappedStores [.Tuple es k px] e env = pure none) tacRfl) :
    wpAny (model prog w) A (execs (.Assign [.Tuple es k px] e pos :: rest) env) Q E s := by
  refine ex_cons (Assign_Tuple (he A s E _ hA b.in0 b.fm fun v s₁ e₁ r₁ => ?_) hs hw)
  have b₁ := b.pure e₁
  refine wpAny_with_toks (Nat.le_refl s₁.toks) (ta_tuple hN hk A s₁ _ _ V ρ v (.tuple ds) ⟨ds, rfl, hl⟩ hA b₁.fm r₁ fun s₂ e₂ F₂ k₂ ht => ?_)
  exact q s₂ (b₁.stores ⟨e₂, ht⟩ k₂ (b₁.in0.write e₂.ext (Nat.le_trans b₁.in0.toks ht)) F₂)
theorem bo_comp {elt target iter : Expr} {ifs : List Expr} {scope : Scope} {pos spos py : Pos} {y : Str} {rest : List Stmt} {ds : List D} {bd : D → List (Str × D)} {okD : D → Prop} {t : D → Bool} {f : D → D}
    {A : Around} {s : Shared} {E : Value → Shared → Prop} {Q : Flow → Shared → Prop} (hA : AOk n A) (b : Bo h₀ B env V ρ O s)
    (hit : IT prog w h₀ n env V ρ iter ds) (co : CompOk scope env) (hT : Tgt prog w n scope target bd okD) (hokD : ∀ d ∈ ds, okD d)
    (hdis : ∀ d ∈ ds, ∀ x dx, (caps scope ρ).lookup x = some dx → (bd d).lookup x = Option.none)
    (htests : ∀ C V' d, d ∈ ds → TS prog w h₀ n (cEnv scope env C) V' (bd d ++ caps scope ρ) ifs (t d))
    (helt : ∀ C V' d, d ∈ ds → t d = true → PE prog w h₀ n (cEnv scope env C) V' (bd d ++ caps scope ρ) elt (f d))
    (hsz : ds.length ≤ sizeLine) (hk : KOk env y)
    (q : ∀ s', Bo h₀ B env V ((y, .list ((ds.filter t).map f)) :: ρ) O s' → wpAny (model prog w) A (execs rest env) Q E s')
    (hsw : autoParam (swapsWith (.ListComp elt [⟨target, iter, ifs, 0⟩] scope pos) (some (.Name y py)) spos.line env = pure true) tacRfl) (hfs : autoParam (∀ x, foldedSetIterable iter env x = pure x) tacIntroRfl) :
    wpAny (model prog w) A (execs (.Assign [.Name y py] (.ListComp elt [⟨target, iter, ifs, 0⟩] scope pos) spos :: rest) env) Q E s :=
  ex_assign_comp hA b.in0 b.fm hit co hT hokD hdis htests helt hsz hk (fun s' e f i k => q s' (b.store e k i f)) hsw hfs

/-- data without a footprint -/
noncomputable def Flat : D → Prop
  | .none | .bool _ | .int _ | .str _ | .ty _ => True
  | _ => False
theorem Rep.flat {V V' : List Addr} {h h' : Heap} {v : Value} {d : D} (f : Flat d) (r : Rep V h v d) : Rep V' h' v d := by
  cases r with
  | none => exact .none
  | bool b => exact .bool b
  | int i t => exact .int i t
  | str x t => exact .str x t
  | ty T => exact .ty T
  | list => exact f.elim
  | tuple => exact f.elim
  | obj => exact f.elim
  | dict0 => exact f.elim
theorem RepL.flat {V V' : List Addr} {h h' : Heap} : ∀ {vs : List Value} {ds : List D}, (∀ d ∈ ds, Flat d) → RepL V h vs ds → RepL V' h' vs ds
  | _, _, _, .nil => .nil
  | _, _, f, .cons r rs => .cons (r.flat (f _ (.head _))) (rs.flat fun d hd => f d (.tail _ hd))

/-- an owned list is read -/
theorem Fm.thaw {V' : List Addr} {h : Heap} {x : Str} {a : Addr} {l : List D} (F : Fm env V ρ h) (hx : ρ.lookup x = some (.obj a)) (o : OwnL V h a l) (hs : ∀ b ∈ V', b ∈ V) (ha : a ∉ V') (hl : env.locals ∈ V') (hc : ∀ y c, env.cells.lookup y = some c → c ∈ V') :
    Fm env V' ((x, .list l) :: ρ) h := by
  have F' : Fm env V' ρ h := F.shrink hs hl hc
  refine ⟨fun y d hy => ?_, F'.ns, F'.cells, hl, hc, F'.old, F'.ok⟩
  by_cases e : y = x
  · subst e
    rw [List.lookup_cons_self] at hy; cases hy
    obtain ⟨v, hv, r⟩ := F.names y _ hx
    (first | obtain ⟨_, rfl⟩ := r.toInt | obtain ⟨_, rfl⟩ := r.toStr | obtain rfl := r.toNone | obtain rfl := r.toBool | obtain rfl := r.toObj | obtain rfl := r.toTy | obtain rfl := r.toNil | cases r)
    obtain ⟨vs, hp, hr⟩ := o
    exact ⟨_, hv, .list ha hp (hr.shun fun b _ hb _ hm => hb (hs b hm))⟩
  · rw [List.lookup_cons, show (y == x) = false by simpa using e] at hy
    exact F'.names y d hy

/-- x = [] -/
theorem bo_new {x : Str} {px pos p : Pos} {rest : List Stmt} {A : Around} {s : Shared} {E : Value → Shared → Prop} {Q : Flow → Shared → Prop} (hA : AOk n A) (b : Bo h₀ B env V ρ O s) (hk : KOk env x)
    (q : ∀ a s', (∀ p ∈ B, p.2.heap.get? a = none) → a ∉ V → Bo h₀ B env (a :: V) ((x, .obj a) :: ρ) ((a, ol []) :: O) s' → wpAny (model prog w) A (execs rest env) Q E s')
    (hsw : autoParam (swapsWith (.List [] p) (some (.Name x px)) pos.line env = pure false) tacRfl) : wpAny (model prog w) A (execs (.Assign [.Name x px] (.List [] p) pos :: rest) env) Q E s := by
  refine ex_cons (wpAny_Assign_Name (wpAny_List (wpAny_items_nil ⟨Nat.zero_le _, ?_⟩)) hsw)
  generalize hh : s.heap.push { cls := .type "list", data := .seq ([] : List Value).toArray } = h'
  have hf := fresh_none s.heap
  have ha : h'.get? s.heap.objs.size = some { cls := .type "list", data := .seq ([] : List Value).toArray } := by rw [← hh]; exact Heap.get?_push_size _ rfl
  have e1 : Stp [] s { s with heap := h' } := ⟨.heap (by rw [← hh]; exact fun _ _ e => Heap.get?_push_of_some _ e), Nat.le_refl _⟩
  have b1 := b.pure e1
  have hav : s.heap.objs.size ∉ V := Old.fresh b.fm.old
  have n0 : ∀ p ∈ B, p.2.heap.get? s.heap.objs.size = none := fun p hp => by
    cases e : p.2.heap.get? s.heap.objs.size with
    | none => rfl
    | some o => rw [(b.keep p hp).ext _ o (fun hm => hav (b.wv p hp _ hm)) e] at hf; cases hf
  have F1 : Fm env (s.heap.objs.size :: V) ρ h' := b.fm.grow (U := [s.heap.objs.size]) e1.keep (fun a hm => by rw [List.mem_singleton.mp hm]; exact hf) (fun a hm => by rw [List.mem_singleton.mp hm]; exact ⟨_, ha⟩)
  have i1 : In0 h₀ (s.heap.objs.size :: V) { s with heap := h' } := ⟨b1.in0.ext, b1.in0.toks, fun a hm => (List.mem_cons.mp hm).elim (fun e => by rw [e]; exact none_of_ext b.in0.ext hf) (b.in0.new a)⟩
  have han : ¬ Own env s.heap.objs.size := fun h => by
    rcases h with h | ⟨y, h⟩
    · exact hav (by rw [h]; exact b.fm.vloc)
    · exact hav (b.fm.vcell y _ h)
  have b2 : Bo h₀ B env (s.heap.objs.size :: V) ρ ((s.heap.objs.size, ol []) :: O) { s with heap := h' } := by
    refine ⟨F1, i1, b1.keep, b1.newO, fun p hp => ?_, fun p hp => ?_, ?_, fun p hp a hm => .tail _ (b.wv p hp a hm)⟩
    · rcases List.mem_cons.mp hp with rfl | hp
      · exact ⟨#[], ⟨_, ha⟩, .nil⟩
      · refine Ow.stp (p.2.shun (b.own p hp) fun c o hc ho hm => ?_) e1.keep
        rcases List.mem_cons.mp hm with rfl | hm
        · rw [hf] at ho; cases ho
        · exact hc hm
    · rcases List.mem_cons.mp hp with rfl | hp
      · exact ⟨.head _, han, fun p hp => .inr (n0 p hp)⟩
      · exact ⟨.tail _ (b.onew p hp).1, (b.onew p hp).2⟩
    · refine List.nodup_cons.mpr ⟨fun hm => ?_, b.odis⟩
      obtain ⟨p, hp, e⟩ := List.mem_map.mp hm
      exact hav (show s.heap.objs.size ∈ V from (show p.1 = s.heap.objs.size from e) ▸ (b.onew p hp).1)
  refine store_go i1 F1 (.obj _) hk fun s' e' k' i' f' => q _ s' n0 hav (b2.store e' k' i' f')

/-- x.append(e) -/
theorem bo_append {x : Str} {nx apos pos spos : Pos} {e : Expr} {d : D} {a : Addr} {ds : List D} {O1 O2 : List (Addr × Ow)} {rest : List Stmt} {A : Around} {s : Shared} {E : Value → Shared → Prop} {Q : Flow → Shared → Prop} (hA : AOk n A) (b : Bo h₀ B env V ρ (O1 ++ (a, ol ds) :: O2) s)
    (hx : ρ.lookup x = some (.obj a)) (he : PE prog w h₀ n env V ρ e d) (hsz : ds.length ≤ sizeLine)
    (q : ∀ s', Bo h₀ B env V ρ (O1 ++ (a, ol (ds ++ [d])) :: O2) s' → wpAny (model prog w) A (execs rest env) Q E s')
    (hst : autoParam (starEach [e] env = [(false, eval e env)]) tacRfl) (hi : autoParam (interactive env = false) tacRfl) (hsw : autoParam (swapsWith (.Call (.Attribute (.Name x nx) "append" apos) [e] [] pos) none spos.line env = pure false) tacRfl) (hline : autoParam ((apos.endLine == pos.line) = true) tacRfl)
    (hd : autoParam ((x == ("__debug__" : Str)) = false) tacDecide) (hc : autoParam ((x == ("__classdict__" : Str)) = false) tacDecide) :
    wpAny (model prog w) A (execs (.Expr (.Call (.Attribute (.Name x nx) "append" apos) [e] [] pos) spos :: rest) env) Q E s := by
  have hm : (a, ol ds) ∈ O1 ++ (a, ol ds) :: O2 := List.mem_append_right _ (.head _)
  obtain ⟨hav, han, n0⟩ := b.onew _ hm
  refine ex_append hA b.in0 b.fm hx (b.own _ hm) hav han he hsz (fun s' e' i' f' o' => q s' ⟨f', i', fun p hp => ⟨e'.gens.trans (b.keep p hp).gens, e'.os.trans (b.keep p hp).os, fun c o hcw ho => ?_⟩, b.newO, fun p hp => ?_, fun p hp => ?_, ?_, b.wv⟩) hst hi hsw hline hd hc
  · refine e'.ext c o (fun hm => ?_) ((b.keep p hp).ext c o hcw ho)
    rcases n0 p hp with h | h
    · exact hcw (by rw [List.mem_singleton.mp hm]; exact h)
    · rw [List.mem_singleton.mp hm] at ho; rw [h] at ho; cases ho
  · have hdis := b.odis
    rw [List.map_append, List.map_cons, List.nodup_append] at hdis
    have old : ∀ p ∈ O1 ++ O2, p.1 ≠ a → p.2.P V s'.heap p.1 := fun p hp hne => by
      have hp' : p ∈ O1 ++ (a, ol ds) :: O2 := (List.mem_append.mp hp).elim (List.mem_append_left _) fun h => List.mem_append_right _ (.tail _ h)
      exact p.2.ext (b.own p hp') e'.ext (fun c hc => by rw [List.mem_singleton.mp hc]; exact hav) (by simpa using hne)
    rcases List.mem_append.mp hp with hp | hp
    · exact old p (List.mem_append_left _ hp) fun e => hdis.2.2 p.1 (List.mem_map_of_mem hp) a (.head _) e
    · rcases List.mem_cons.mp hp with rfl | hp
      · exact o'
      · exact old p (List.mem_append_right _ hp) fun e => (List.nodup_cons.mp hdis.2.1).1 (show a ∈ O2.map (·.1) from e ▸ List.mem_map_of_mem (f := fun p : Addr × Ow => p.1) hp)
  · rcases List.mem_append.mp hp with hp | hp
    · exact b.onew p (List.mem_append_left _ hp)
    · rcases List.mem_cons.mp hp with rfl | hp
      · exact ⟨hav, han, n0⟩
      · exact b.onew p (List.mem_append_right _ (.tail _ hp))
  · have := b.odis
    rw [List.map_append, List.map_cons] at this ⊢
    exact this
end
end Mine
end

section
open PySem PySem.Calls PySem.W PyProof.Rows
set_option Elab.async false
set_option maxRecDepth 100000
namespace Mine
section
variable {prog : Program} {w : World} {h₀ : Heap} {n : Nat} {env : Env} {V : List Addr} {ρ : List (Str × D)} {B : List (List Addr × Shared)} {O : List (Addr × Ow)}

theorem bo_ret {e : Expr} {pos : Pos} {rest : List Stmt} {d : D} {U : List Addr} {s0 : Shared} {A : Around} {s : Shared} {E : Value → Shared → Prop} {Q : Flow → Shared → Prop} (hA : AOk n A) (b : Bo h₀ B env (U ++ V) ρ O s) (hb : ([], s0) ∈ B)
    (he : PE prog w h₀ n env (U ++ V) ρ e d) (q : Fin1 V s0 d Q) : wpAny (model prog w) A (execs (.Return (some e) pos :: rest) env) Q E s :=
  ex_ret hA b.in0 b.fm he fun v s' e r => q v s' (U ++ V) (fun _ ha => List.mem_append_right _ ha) (fun a o x => e.keep a o ((b.keep _ hb).keep a o x)) (e.gens.trans (b.keep _ hb).gens) (e.os.trans (b.keep _ hb).os) r

/-- a frame's own addresses lie among the shunned -/
theorem Bo.ownV {s : Shared} {a : Addr} (b : Bo h₀ B env V ρ O s) (h : Own env a) : a ∈ V := by
  rcases h with h | ⟨y, h⟩
  · rw [h]; exact b.fm.vloc
  · exact b.fm.vcell y _ h

/-- an owned list is given up: from now on it is data -/
theorem Bo.freeze {a : Addr} {l : List D} {x : Str} {O1 O2 : List (Addr × Ow)} {V' : List Addr} {s : Shared} (b : Bo h₀ B env V ρ (O1 ++ (a, ol l) :: O2) s) (hx : ρ.lookup x = some (.obj a)) (hs : ∀ c, c ∈ V' ↔ c ∈ V ∧ c ≠ a)
    (hB : ∀ p ∈ B, a ∉ p.1) : Bo h₀ B env V' ((x, .list l) :: ρ) (O1 ++ O2) s := by
  have hm : (a, ol l) ∈ O1 ++ (a, ol l) :: O2 := List.mem_append_right _ (.head _)
  obtain ⟨hav, han, n0⟩ := b.onew _ hm
  have sub : ∀ c ∈ V', c ∈ V := fun c hc => ((hs c).mp hc).1
  have ow : ∀ c, Own env c → c ∈ V' := fun c hc => (hs c).mpr ⟨b.ownV hc, fun e => han (e ▸ hc)⟩
  have hdis := b.odis
  rw [List.map_append, List.map_cons, List.nodup_append] at hdis
  have inO : ∀ p ∈ O1 ++ O2, p ∈ O1 ++ (a, ol l) :: O2 := fun p hp => (List.mem_append.mp hp).elim (List.mem_append_left _) fun h => List.mem_append_right _ (.tail _ h)
  have ne : ∀ p ∈ O1 ++ O2, p.1 ≠ a := fun p hp e => (List.mem_append.mp hp).elim (fun h => hdis.2.2 p.1 (List.mem_map_of_mem (f := fun p : Addr × Ow => p.1) h) a (.head _) e)
    fun h => (List.nodup_cons.mp hdis.2.1).1 (show a ∈ O2.map (·.1) from e ▸ List.mem_map_of_mem (f := fun p : Addr × Ow => p.1) h)
  refine ⟨b.fm.thaw hx (b.own _ hm) sub (fun h => ((hs a).mp h).2 rfl) (ow _ (.inl rfl)) (fun y c h => ow c (.inr ⟨y, h⟩)), ⟨b.in0.ext, b.in0.toks, fun c hc => b.in0.new c (sub c hc)⟩, b.keep, b.newO,
    fun p hp => ?_, fun p hp => ?_, ?_, fun p hp c hc => (hs c).mpr ⟨b.wv p hp c hc, fun e => hB p hp (e ▸ hc)⟩⟩
  · exact p.2.shun (b.own p (inO p hp)) fun c _ hc _ hm => hc (sub c hm)
  · obtain ⟨h1, h2, h3⟩ := b.onew p (inO p hp)
    exact ⟨(hs _).mpr ⟨h1, ne p hp⟩, h2, h3⟩
  · refine List.Nodup.sublist ?_ b.odis
    rw [List.map_append, List.map_append, List.map_cons]
    exact List.Sublist.append_left (List.sublist_cons_self _ _) _

theorem Bo.toks {s : Shared} (b : Bo h₀ B env V ρ O s) {tk : Nat} (h : 1 ≤ tk) : Bo h₀ B env V ρ O { s with toks := tk } :=
  ⟨b.fm, ⟨b.in0.ext, h, b.in0.new⟩, fun p hp => ⟨(b.keep p hp).gens, (b.keep p hp).os, (b.keep p hp).ext⟩, b.newO, b.own, b.onew, b.odis, b.wv⟩
/-- one more shunned address -/
theorem Bo.grow {s s' : Shared} {I : Addr} (b : Bo h₀ B env V ρ O s) (e : Stp [] s s') (hI : s.heap.get? I = none) (hl : ∃ o, s'.heap.get? I = some o) : Bo h₀ B env (I :: V) ρ O s' := by
  have b1 := b.pure e
  refine ⟨b.fm.grow (U := [I]) e.keep (fun a ha => by rw [List.mem_singleton.mp ha]; exact hI) (fun a ha => by rw [List.mem_singleton.mp ha]; exact hl),
    ⟨b1.in0.ext, b1.in0.toks, fun a hm => (List.mem_cons.mp hm).elim (fun e => by rw [e]; exact none_of_ext b.in0.ext hI) (b.in0.new a)⟩, b1.keep, b1.newO, fun p hp => ?_, fun p hp => ⟨.tail _ (b.onew p hp).1, (b.onew p hp).2⟩, b.odis, fun p hp a ha => .tail _ (b.wv p hp a ha)⟩
  refine Ow.stp (p.2.shun (b.own p hp) fun c o hc ho hm => ?_) e.keep
  rcases List.mem_cons.mp hm with rfl | hm
  · rw [hI] at ho; cases ho
  · exact hc hm
/-- a shunned address, none of the frame's and no owned list's, is written -/
theorem Bo.write {s s' : Shared} {I : Addr} (b : Bo h₀ B env V ρ O s) (e : Stp0 [I] s s') (ht : 1 ≤ s'.toks) (hV : I ∈ V) (hI : ∀ p ∈ B, I ∈ p.1 ∨ p.2.heap.get? I = none) (hn : ¬ Own env I) (hO : ∀ p ∈ O, p.1 ≠ I) (hl : ∃ o, s'.heap.get? I = some o) : Bo h₀ B env V ρ O s' := by
  have inV : ∀ a ∈ [I], a ∈ V := fun a ha => by rw [List.mem_singleton.mp ha]; exact hV
  have eV : ExtB V s.heap s'.heap := fun a o ha ho => e.ext a o (fun hm => ha (inV a hm)) ho
  refine ⟨b.fm.write e.ext inV (fun hm => hn (.inl (List.mem_singleton.mp hm).symm)) (fun y c hc hm => hn (.inr ⟨y, by rw [← List.mem_singleton.mp hm]; exact hc⟩)) (fun a ha => by rw [List.mem_singleton.mp ha]; exact hl),
    b.in0.write eV ht, fun p hp => ⟨e.gens.trans (b.keep p hp).gens, e.os.trans (b.keep p hp).os, fun a o ha ho => e.ext a o (fun hm => ?_) ((b.keep p hp).ext a o ha ho)⟩, b.newO, fun p hp => p.2.ext (b.own p hp) e.ext inV (fun hm => hO p hp (List.mem_singleton.mp hm)), b.onew, b.odis, b.wv⟩
  have ea : a = I := List.mem_singleton.mp hm
  rcases hI p hp with h | h
  · exact ha (ea ▸ h)
  · rw [ea, h] at ho; cases ho
/-- a shunned address is let go -/
theorem Bo.drop {s : Shared} {I : Addr} (b : Bo h₀ B env (I :: V) ρ O s) (hw : ∀ p ∈ B, ∀ a ∈ p.1, a ∈ V) (ho : ∀ a, Own env a → a ∈ V) (hO : ∀ p ∈ O, p.1 ∈ V) : Bo h₀ B env V ρ O s :=
  ⟨b.fm.shrink (fun a ha => .tail _ ha) (ho _ (.inl rfl)) (fun y c h => ho c (.inr ⟨y, h⟩)), ⟨b.in0.ext, b.in0.toks, fun a ha => b.in0.new a (.tail _ ha)⟩, b.keep, b.newO,
    fun p hp => p.2.shun (b.own p hp) fun c _ hc _ hm => hc (.tail _ hm), fun p hp => ⟨hO p hp, (b.onew p hp).2⟩, b.odis, hw⟩
/-- one more base: here and now -/
theorem Bo.base {s : Shared} {U : List Addr} (b : Bo h₀ B env V ρ O s) (hU : ∀ a ∈ U, a ∈ V) (ho : ∀ a, Own env a → a ∈ U) (hO : ∀ p ∈ O, p.1 ∈ U) : Bo h₀ ((U, s) :: B) env V ρ O s :=
  { b with
    keep := fun p hp => (List.mem_cons.mp hp).elim (fun e => by rw [e]; exact ⟨rfl, rfl, fun _ _ _ x => x⟩) (b.keep p)
    newO := fun p hp a ha => (List.mem_cons.mp hp).elim (fun e => by rw [e]; exact .inl (ho a ha)) (fun h => b.newO p h a ha)
    onew := fun q hq => ⟨(b.onew q hq).1, (b.onew q hq).2.1, fun p hp => (List.mem_cons.mp hp).elim (fun e => by rw [e]; exact .inl (hO q hq)) ((b.onew q hq).2.2 p)⟩
    wv := fun p hp a ha => (List.mem_cons.mp hp).elim (fun e => hU a (by rw [e] at ha; exact ha)) (fun h => b.wv p h a ha) }
theorem Bo.unbase {s : Shared} {p : List Addr × Shared} (b : Bo h₀ (p :: B) env V ρ O s) : Bo h₀ B env V ρ O s :=
  { b with keep := fun q hq => b.keep q (.tail _ hq), newO := fun q hq => b.newO q (.tail _ hq), onew := fun q hq => ⟨(b.onew q hq).1, (b.onew q hq).2.1, fun r hr => (b.onew q hq).2.2 r (.tail _ hr)⟩, wv := fun q hq => b.wv q (.tail _ hq) }

/-- a for over data -/
theorem bo_for {target iter : Expr} {body rest : List Stmt} {pos : Pos} {ds : List D} {bd : D → List (Str × D)} {okD : D → Prop} {Wt : List Addr} {A : Around} {s : Shared} {E : Value → Shared → Prop} {Q : Flow → Shared → Prop} (hA : AOk n A) (b : Bo h₀ B env V ρ O s)
    (hit : IT prog w h₀ n env V ρ iter ds) (hT : TA prog w n env target bd okD Wt) (hokD : ∀ d ∈ ds, okD d) (hWt : ∀ a ∈ Wt, Own env a)
    (ρf : List D → List (Str × D)) (Of : List D → List (Addr × Ow)) (h0 : ∀ x d, (ρf []).lookup x = some d → ρ.lookup x = some d) (hO : Of [] = O) (hOV : ∀ pre p, p ∈ Of pre → p.1 ∈ V)
    (turn : ∀ I pre d post s₁ (E' : Value → Shared → Prop), ds = pre ++ d :: post → I ∉ V → Bo h₀ ((V, s₁) :: B) env (I :: V) (bd d ++ ρf pre) (Of pre) s₁ →
      wpAny (model prog w) A (execs body env) (fun f s₃ => match f with
        | .next | .cont => Bo h₀ ((V, s₁) :: B) env (I :: V) (ρf (pre ++ [d])) (Of (pre ++ [d])) s₃
        | .brk => wpAny (model prog w) A (execs rest env) Q E s₃
        | .ret u => Q (.ret u) s₃) E' s₁)
    (fin : ∀ s₂, Bo h₀ B env V (ρf ds) (Of ds) s₂ → wpAny (model prog w) A (execs rest env) Q E s₂)
    (hfs : autoParam (∀ x, foldedSetIterable iter env x = pure x) tacIntroRfl) : wpAny (model prog w) A (execs (.For target iter body [] pos :: rest) env) Q E s := by
  have newB : ∀ I, s.heap.get? I = Option.none → ∀ p ∈ B, p.2.heap.get? I = Option.none := fun I hI p hp => by
    cases e : p.2.heap.get? I with
    | none => rfl
    | some o => rw [(b.keep p hp).ext _ o (fun hm => by obtain ⟨o, ho⟩ := b.fm.old I (b.wv p hp _ hm); rw [hI] at ho; cases ho) e] at hI; cases hI
  have nV : ∀ I, s.heap.get? I = Option.none → I ∉ V := fun I hI hm => by obtain ⟨o, ho⟩ := b.fm.old I hm; rw [hI] at ho; cases ho
  have nOwn : ∀ I, s.heap.get? I = Option.none → ¬ Own env I := fun I hI h => nV I hI (b.ownV h)
  have nO : ∀ I, s.heap.get? I = Option.none → ∀ pre, ∀ p ∈ Of pre, p.1 ≠ I := fun I hI pre p hp e => nV I hI (e ▸ hOV pre p hp)
  refine ex_for hA b.in0 b.fm hit (fun I pre s' => s.heap.get? I = Option.none ∧ ∀ tk, 1 ≤ tk → Bo h₀ B env (I :: V) (ρf pre) (Of pre) { s' with toks := tk }) (fun I pre s₁ s₂ b₁ e live => ?_) (fun I s' e hI hIl hin => ?_) (fun I pre d post s₁ v E' hds hI hIV b₁ r₁ hin => ?_) (fun I s₁ s₂ hI hIV b₁ e hin1 hin2 => ?_) hfs
  · refine ⟨b₁.1, fun tk ht => (b₁.2 tk ht).write (s' := { s₂ with toks := tk }) ⟨e.gens, e.os, e.ext⟩ ht (.head _) (fun p hp => .inr (newB I b₁.1 p hp)) (nOwn I b₁.1) (nO I b₁.1 pre) live⟩
  · refine ⟨hI, fun tk ht => ?_⟩
    have := b.grow e hI hIl
    rw [hO]
    exact (this.names h0).toks ht
  · have hb₁ : Bo h₀ B env (I :: V) (ρf pre) (Of pre) s₁ := b₁.2 s₁.toks hin.toks
    have hmem : d ∈ ds := by rw [hds]; simp
    refine wpAny_with_toks (Nat.le_refl s₁.toks) (hT A s₁ _ _ (I :: V) (ρf pre) v d (hokD d hmem) hA hb₁.fm r₁ fun s₂ e₂ F₂ k₂ ht => ?_)
    have ht2 : 1 ≤ s₂.toks := Nat.le_trans hin.toks ht
    have WtV : ∀ a ∈ Wt, a ∈ V := fun a ha => b.ownV (hWt a ha)
    have e12 : Stp0 V s₁ s₂ := ⟨e₂.gens, e₂.os, fun a o ha ho => k₂ a o (fun hm => ha (WtV a hm)) ho⟩
    have b₂ : Bo h₀ B env (I :: V) (bd d ++ ρf pre) (Of pre) s₂ := by
      refine ⟨F₂, hb₁.in0.write e₂.ext ht2, fun p hp => ⟨e₂.gens.trans (hb₁.keep p hp).gens, e₂.os.trans (hb₁.keep p hp).os, fun a o ha ho => k₂ a o (fun hm => ?_) ((hb₁.keep p hp).ext a o ha ho)⟩, hb₁.newO, fun p hp => ?_, hb₁.onew, hb₁.odis, hb₁.wv⟩
      · rcases b.newO p hp a (hWt a hm) with h | h
        · exact ha h
        · rw [h] at ho; cases ho
      · exact p.2.ext (W := Wt) (hb₁.own p hp) (fun c o hc ho => k₂ c o hc ho) (fun c hc => .tail _ (WtV c hc)) (fun hm => (hb₁.onew p hp).2.1 (hWt _ hm))
    refine wpAny_mono (turn I pre d post s₂ E' hds hIV (b₂.base (fun a ha => .tail _ ha) (fun a ha => b.ownV ha) (hOV pre))) (fun f s₃ h₃ => ?_) fun _ _ x => x
    have key : Bo h₀ ((V, s₂) :: B) env (I :: V) (ρf (pre ++ [d])) (Of (pre ++ [d])) s₃ → Stp0 V s₁ s₃ ∧ (s.heap.get? I = Option.none ∧ ∀ tk, 1 ≤ tk → Bo h₀ B env (I :: V) (ρf (pre ++ [d])) (Of (pre ++ [d])) { s₃ with toks := tk }) := fun b₃ => by
      have e23 := b₃.keep _ (.head _)
      exact ⟨⟨e23.gens.trans e12.gens, e23.os.trans e12.os, fun a o ha ho => e23.ext a o ha (e12.ext a o ha ho)⟩, hI, fun tk ht => b₃.unbase.toks ht⟩
    cases f with
    | next => exact key h₃
    | cont => exact key h₃
    | brk => exact h₃
    | ret u => exact h₃
  · have hb₁ : Bo h₀ B env (I :: V) (ρf ds) (Of ds) s₁ := b₁.2 s₁.toks hin1.toks
    have hown : ∀ a, Own env a → a ∈ V := fun a ha => b.ownV ha
    have fm2 : Fm env V (ρf ds) s₂.heap := Fm.drop (W := [I]) hb₁.fm e.ext (fun a ha hm => hIV (by rw [← List.mem_singleton.mp hm]; exact ha)) (hown _ (.inl rfl)) (fun y c h => hown c (.inr ⟨y, h⟩))
    refine fin s₂ ⟨fm2, hin2, fun p hp => ⟨e.gens.trans (hb₁.keep p hp).gens, e.os.trans (hb₁.keep p hp).os, fun a o ha ho => e.ext a o (fun hm => ?_) ((hb₁.keep p hp).ext a o ha ho)⟩, hb₁.newO, fun p hp => ?_, fun p hp => ⟨hOV _ p hp, (hb₁.onew p hp).2⟩, hb₁.odis, b.wv⟩
    · rw [List.mem_singleton.mp hm, newB I hI p hp] at ho; cases ho
    · have := p.2.ext (hb₁.own p hp) e.ext (fun a ha => by rw [List.mem_singleton.mp ha]; exact .head _) (fun hm => nO I hI ds p hp (List.mem_singleton.mp hm))
      exact p.2.shun this fun c _ hc _ hm => hc (.tail _ hm)
end
end Mine
end

section
open PySem PySem.Calls PySem.W PyProof.Rows
set_option Elab.async false
set_option maxRecDepth 100000
namespace Mine
section
variable {prog : Program} {w : World} {h₀ : Heap} {n : Nat} {env : Env} {V : List Addr} {ρ : List (Str × D)} {B : List (List Addr × Shared)} {O : List (Addr × List D)}

theorem PT.to {e : Expr} {c c' : Bool} (h : PT prog w h₀ n env V ρ e c) (hc : c = c') : PT prog w h₀ n env V ρ e c' := hc ▸ h
theorem PE.to {e : Expr} {c c' : D} (h : PE prog w h₀ n env V ρ e c) (hc : c = c') : PE prog w h₀ n env V ρ e c' := hc ▸ h
theorem c2_is_ty {T U : String} : C2 prog w n V .Is (.ty T) (.ty U) (T == U) := by
  intro A s E Q v u _ _ rv ru q
  (first | obtain ⟨_, rfl⟩ := rv.toInt | obtain ⟨_, rfl⟩ := rv.toStr | obtain rfl := rv.toNone | obtain rfl := rv.toBool | obtain rfl := rv.toObj | obtain rfl := rv.toTy | obtain rfl := rv.toNil | cases rv); (first | obtain ⟨_, rfl⟩ := ru.toInt | obtain ⟨_, rfl⟩ := ru.toStr | obtain rfl := ru.toNone | obtain rfl := ru.toBool | obtain rfl := ru.toObj | obtain rfl := ru.toTy | obtain rfl := ru.toNil | cases ru)
  refine wpAny_is_plain rfl ?_
  have : (Value.type T == Value.type U) = (T == U) := by
    by_cases h : T = U
    · subst h; simp
    · have h' : ¬ Value.type T = Value.type U := fun e => h (by cases e; rfl)
      rw [show (T == U) = false by simpa using h]
      simpa using h'
  rw [this]; exact q _ (.refl _)
theorem tr_dict0 {a : Addr} : TR prog w n V (.dict0 a) false := by
  intro A s E Q v _ _ rv q
  cases rv with | dict0 ha hm ho =>
  refine wpAny_truthy_dict (knd := strKind prog w) (kvs := []) hm ⟨_, #[], 0, ho, ⟨rfl, rfl, rfl⟩, rfl, ?_, ?_, .nil⟩ (by decide) (q _ (.toks _ _))
  · intro e he; simp at he
  · exact .nil
theorem cl_type_str {x : Str} : CL prog w h₀ n V (.type "type") [.str x] (.ty "str") := by
  intro A s E Q vs _ _ _ rs q
  obtain ⟨_, rfl, r⟩ := rs.one
  (first | obtain ⟨_, rfl⟩ := r.toInt | obtain ⟨_, rfl⟩ := r.toStr | obtain rfl := r.toNone | obtain rfl := r.toBool | obtain rfl := r.toObj | obtain rfl := r.toTy | obtain rfl := r.toNil | cases r)
  exact call_type_of (typeIs_str _ _ _) (by decide) (q _ _ (.refl _) (.ty _))
theorem ex_continue {pos : Pos} {rest : List Stmt} {A : Around} {s : Shared} {E : Value → Shared → Prop} {Q : Flow → Shared → Prop} (h : Q .cont s) : wpAny (model prog w) A (execs (.Continue pos :: rest) env) Q E s :=
  ex_cons (wpAny_Continue h)
/-- a pure def, by its body -/
theorem cl_fno {f : Addr} {fd : FuncData} {body : List Stmt} {params : List Str} {ds : List D} {d : D} (K : Fn h₀ f fd body) (hlim : h₀.NoLimit)
    (hbind : ∀ vals : List Value, vals.length = params.length → bindArgs fd ⟨vals, []⟩ = pure (params.zip vals)) (hlen : ds.length = params.length)
    (hnd : params.Nodup) (hkind : ∀ x ∈ params, fd.scope.names.lookup x = some .local ∨ fd.scope.names.lookup x = some .cell)
    (hbody : ∀ (A : Around) (s s₁ : Shared) (L : Addr) (U : List Addr) (E : Value → Shared → Prop) (Q : Flow → Shared → Prop), AOk n A → (∀ a, a ∈ U ↔ Own (callEnvC fd L f) a) →
      Bo h₀ [([], s)] (callEnvC fd L f) (U ++ V) (params.zip ds) [] s₁ → Fin1 V s d Q → wpAny (model prog w) A (execs body (callEnvC fd L f)) Q E s₁) :
    CL prog w h₀ (n + 1) V (.ref f) ds d :=
  cl_fn K hlim hbind hlen hnd hkind fun A s s₁ L U E Q hA _ _ hU b q => hbody A s s₁ L U E Q hA hU (b.bo fun _ h => (nomatch h)) q

/-- a pure def whose last parameters gather the others -/
theorem cl_fnv {f : Addr} {fd : FuncData} {body : List Stmt} {pa pk : Str} {d0 : D} {d : D} (K : Fn h₀ f fd body) (hlim : h₀.NoLimit) (hs : ∃ o, h₀.get? sysModules = some o)
    (hbind : ∀ v : Value, bindArgs fd ⟨[v], []⟩ = (do let t ← newTuple [v]; let d ← alloc { cls := .type "dict", data := .dict #[] }; pure [(pa, t), (pk, .ref d)]))
    (hnd : [pa, pk].Nodup) (hkind : ∀ x ∈ [pa, pk], fd.scope.names.lookup x = some .local ∨ fd.scope.names.lookup x = some .cell)
    (hbody : ∀ (A : Around) (s s₁ : Shared) (L : Addr) (U : List Addr) (a : Addr) (E : Value → Shared → Prop) (Q : Flow → Shared → Prop), AOk n A → (∀ a, a ∈ U ↔ Own (callEnvC fd L f) a) →
      Bo h₀ [([], s)] (callEnvC fd L f) (U ++ V) [(pa, .tuple [d0]), (pk, .dict0 a)] [] s₁ → Fin1 V s d Q → wpAny (model prog w) A (execs body (callEnvC fd L f)) Q E s₁) :
    CL prog w h₀ (n + 1) V (.ref f) [d0] d := by
  intro A s E Q vs hA hB hold hr q
  obtain ⟨v, rfl, rv⟩ := hr.one
  refine wpAny_call (fn_code (n := n) (params := [pa, pk]) (ds := [.tuple [d0], .dict0 (s.heap.objs.size + 1)]) K hlim hA hB hold (fun E' Q' q' => ?_) hnd hkind fun L s₁ U E' hUn hU b => ?_)
  · rw [hbind]
    refine wpAny_bind (wpAny_newObj_type ?_ (by show 1 ≤ sizeLine; decide))
    generalize hh : s.heap.push { cls := .type "tuple", data := .seq [v].toArray } = h1
    have e1 : Stp0 [] s { s with heap := h1 } := .heap (by rw [← hh]; exact fun _ _ e => Heap.get?_push_of_some _ e)
    have s1 : h1.objs.size = s.heap.objs.size + 1 := by rw [← hh, Heap.size_push]
    have ht : h1.get? s.heap.objs.size = some { cls := .type "tuple", data := .seq [v].toArray } := by rw [← hh]; exact Heap.get?_push_size _ rfl
    refine wpAny_bind (wpAny_alloc ?_)
    refine wpAny_pure (q' _ _ (.heap fun b o e => Heap.get?_push_of_some _ (e1.keep b o e)) rfl ?_)
    have e2 : Stp0 [] { s with heap := h1 } { s with heap := h1.push { cls := .type "dict", data := .dict #[] } } := .push _ _
    refine .cons (.tuple (vs := [v].toArray) (Old.fresh hold) ⟨_, e2.keep _ _ ht, rfl, _, rfl⟩ (.cons ((rv.stp0 e1).stp0 e2) .nil)) (.cons ?_ .nil)
    show Rep V _ (.ref h1.objs.size) (.dict0 (s.heap.objs.size + 1))
    rw [← s1]
    refine .dict0 (Old.fresh (hold.stp e1)) ?_ (Heap.get?_push_size _ rfl)
    obtain ⟨o, ho⟩ := hs
    have := Heap.lt_size (e1.keep _ _ (hB.ext _ _ ho))
    have hne : h1.objs.size ≠ sysModules := Nat.ne_of_gt this
    simpa using hne
  · exact hbody _ s s₁ L U _ E' _ hA.deeper hU (b.bo fun _ h => (nomatch h)) fun v s' V' hV e g o r => q v s' ⟨g, o, fun b o _ x => e b o x⟩ (r.shun fun a _ ha _ hm => ha (hV a hm))
end
end Mine
end

section
open PySem PySem.Calls PySem.W PyProof.Rows
set_option Elab.async false
set_option maxRecDepth 100000
namespace Mine

noncomputable def fldNames : List Str := ["_mods", "_dirs", "_ignore"]
/-- an entry of an object's dict -/
noncomputable def ent (p : Params) (name : Str) (tok : Tok) (v : Value) : DictEntry := ⟨PyData.keyHash p name, .str name tok, v⟩
/-- the class, as the base tells it -/
structure ClsOk (K : Frag) (C fI fN : Addr) : Prop where
  makes : makesIn K C = true
  init : findIn K (.ref C) "__init__" = some (some (.ref fI))
  initf : typeIn K (.ref fI) = some (.type "function")
  ga : findIn K (.ref C) "__getattribute__" = some (some (.builtin "object.__getattribute__"))
  gattr : findIn K (.ref C) "__getattr__" = some none
  sa : findIn K (.ref C) "__setattr__" = some (some (.builtin "object.__setattr__"))
  over : plainOver K C = true
  meth : findIn K (.ref C) "names" = some (some (.ref fN))
  methf : typeIn K (.ref fN) = some (.type "function")
  fld : ∀ x ∈ fldNames, takerIn K C x = some none ∧ findIn K (.ref C) x = some none
  hasDict : (clsIn K C).any (·.hasDict) = true

/-- an object and its dict -/
structure InsD (h : Heap) (x dx C : Addr) (es : List DictEntry) : Prop where
  ins : h.get? x = some (instObj C dx)
  dict : ∃ n, h.get? dx = some { cls := .type "dict", data := .dict es.toArray n }
theorem InsD.at_ {h : Heap} {x dx C : Addr} {es : List DictEntry} (I : InsD h x dx C es) : ∃ n, InstAt h x (instObj C dx) C (some { cls := .type "dict", data := .dict es.toArray n }) :=
  let ⟨n, hn⟩ := I.dict
  ⟨n, I.ins, rfl, rfl, hn⟩

section
variable {prog : Program} {w : World} {A : Around} {E : Value → Shared → Prop} {s : Shared} {K : Frag} {C fI fN x dx : Addr} {es : List DictEntry}

theorem set_field {name : Str} {v : Value} {Q : Unit → Shared → Prop} (X : K.In s.heap) (ok : ClsOk K C fI fN) (I : InsD s.heap x dx C es) (hn : name ∈ fldNames) (h1 : es.find? (·.key.isStr name) = none) (h2 : es.any (·.refKey) = false) (hz : es.length ≤ 10)
    (q : ∀ tok n h', h'.get? dx = some { cls := .type "dict", data := .dict (es ++ [ent w.params name tok v]).toArray n } → ExtB [dx] s.heap h' → Q () { s with heap := h', toks := s.toks + 2 }) :
    wpAny (model prog w) A (setAttr (.ref x) name v) Q E s := by
  obtain ⟨n, I'⟩ := I.at_
  obtain ⟨hx, ⟨n', hd⟩⟩ := I
  have en : n' = n := by have := I'.dict; simp only at this; rw [hd] at this; cases this; rfl
  subst en
  refine set_plain X I' ok.sa ?_
  have X' : K.In ({ s with toks := s.toks + 1 } : Shared).heap := X
  refine osa_open (s := { s with toks := s.toks + 1 }) X' I' ok.over (ok.fld name hn).1 fun b => ?_
  obtain ⟨cd, hc, hd'⟩ := any_some ok.hasDict
  have h1' : es.toArray.findIdx? (·.key.isStr name) = none := by
    rw [Array.findIdx?_eq_none_iff]
    intro e he
    have := List.find?_eq_none.mp h1 e (by simpa using he)
    simpa using this
  refine wpAny_bind (wpAny_pure (wpAny_bind (wpAny_bind (wpAny_loadPart hx (wpAny_bind ((looks_clsIn X' hc).here ?_))))))
  rw [hd']
  refine wpAny_pure (a := some dx) (wpAny_bind (wpAny_pure (wpAny_bind ?_)))
  unfold nsSet
  refine wpAny_bind (wpAny_bind (wpAny_askSetting (wpAny_pure (wpAny_bind (wpAny_mkText (wpAny_bind (wpAny_loadPart hd ?_)))))))
  dsimp only
  have c : (!es.toArray.any (·.key.isStr name) && es.toArray.any (·.refKey)) = false := by
    have : es.toArray.any (·.refKey) = false := by simpa using h2
    rw [this, Bool.and_false]
  rw [aRefKeyMayBeTheName_at, c]
  refine wpAny_updatePart hd ?_
  have hput : Obj.putName name (PyData.keyHash w.params name) (.str name (s.toks + 1)) v { cls := .type "dict", data := .dict es.toArray n' } = { cls := .type "dict", data := .dict (es ++ [ent w.params name (s.toks + 1) v]).toArray (n' + 1) } := by
    rw [Obj.putName_eq]
    unfold Obj.putNameByArray
    dsimp only
    rw [h1']
    simp [ent]
  have D' : (s.heap.update dx (Obj.putName name (PyData.keyHash w.params name) (.str name (s.toks + 1)) v)).get? dx = some { cls := .type "dict", data := .dict (es ++ [ent w.params name (s.toks + 1) v]).toArray (n' + 1) } := by
    rw [Heap.get?_update_self _ hd (by rw [hput]; rfl), hput]
  refine wpAny_bind (wpAny_lookBehind D' (pastItsLine_dict (by simp [sizeLine_eq]; omega)) ?_)
  exact wpAny_pure (q (s.toks + 1) (n' + 1) _ D' fun b o hb e => (Heap.get?_update_other _ _ (fun h => hb (by rw [← h]; exact .head _))).trans e)

theorem get_field {name : Str} {v : Value} {e : DictEntry} {expr : Bool} {Q : Value → Shared → Prop} (X : K.In s.heap) (ok : ClsOk K C fI fN) (I : InsD s.heap x dx C es) (hn : name ∈ fldNames) (h1 : es.find? (·.key.isStr name) = some e) (hv : e.val = v) (hh : handedIn v = true)
    (q : Q v { s with toks := s.toks + 1 }) : wpAny (model prog w) A (getAttr (.ref x) name expr) Q E s := by
  obtain ⟨n, I'⟩ := I.at_
  refine get_value X I' ok.ga ?_ hh q
  obtain ⟨cd, hc, hd'⟩ := any_some ok.hasDict
  unfold findObj
  rw [hc, Option.bind_some, (ok.fld name hn).2]
  simp only [Option.bind_some]
  unfold W.ownOf
  rw [if_pos hd']
  unfold lookIn
  simp only [h1, Option.bind_some, hv]

theorem meth_names {pl : Sem Bool} {Q : Value × List Value → Shared → Prop} (X : K.In s.heap) (ok : ClsOk K C fI fN) (I : InsD s.heap x dx C es) (h1 : es.find? (·.key.isStr "names") = none) (h2 : es.any (·.refKey) = false)
    (q : Q (.ref fN, [.ref x]) s) : wpAny (model prog w) A (getMethod (.ref x) "names" pl) Q E s := by
  obtain ⟨n, I'⟩ := I.at_
  refine method_fn X I' ok.ga ok.gattr ok.meth ok.methf ?_ q
  unfold shadowIn lookIn
  simp only [h1]
  rw [h2]; rfl
end
end Mine
end

section
open PySem PySem.Calls PySem.W PyProof.Rows
set_option Elab.async false
set_option maxRecDepth 100000
namespace Mine

theorem layNew_led (t : SetTable) (es : Array (Int × Value)) (h : Int) (x : Value) : (layNew t es h x).2.1.led = t.led ∧ (t.plain = false → (layNew t es h x).2.1.plain = false) := by
  unfold layNew
  split
  · dsimp only
    unfold SetTable.orStandIn
    split
    · exact ⟨rfl, fun h => h⟩
    · exact ⟨rfl, fun _ => rfl⟩
  · exact ⟨rfl, fun _ => rfl⟩
theorem relayAll_led (t : SetTable) (es : Array (Int × Value)) (wanted : Nat) : (relayAll t es wanted).2.1.led = t.led ∧ (t.plain = false → (relayAll t es wanted).2.1.plain = false) := by
  unfold relayAll
  split
  · rename_i t' order h
    dsimp only
    split
    · unfold SetTable.relaid SetTable.laid at h
      obtain ⟨owner, h1, h2⟩ := Option.bind_eq_some_iff.mp h
      cases h2
      exact ⟨rfl, fun h => h⟩
    · exact ⟨rfl, fun _ => rfl⟩
  · exact ⟨rfl, fun _ => rfl⟩

/-- a set of texts -/
structure SetS (prog : Program) (w : World) (h : Heap) (a : Addr) (S : Str → Bool) (n : Nat) (led : Bool) : Prop where
  at_ : ∃ o es ep t, h.get? a = some o ∧ o.ExactSet ∧ o.data = .set es ep t ∧ ElemsOf (strKind prog w) es.toList ∧ (∀ k, S k = true ↔ ∃ e ∈ es.toList, (strKind prog w).is k e.2 = true) ∧
    es.size < scanBound ∧ t.fits es.size = true ∧ es.size = n ∧ t.led = led ∧ (es.size ≠ 0 → t.plain = false)
theorem SetS.setOf {prog : Program} {w : World} {h : Heap} {a : Addr} {S : Str → Bool} {n : Nat} {led : Bool} (x : SetS prog w h a S n led) : h.SetOf (strKind prog w) a S n :=
  let ⟨o, es, ep, t, h1, h2, h3, h4, h5, h6, h7, h8, _⟩ := x.at_
  ⟨o, es, ep, t, h1, h2, h3, h4, h5, h6, h7, h8⟩
theorem SetS.ext {prog : Program} {w : World} {h h' : Heap} {a : Addr} {S : Str → Bool} {n : Nat} {led : Bool} (x : SetS prog w h a S n led) (e : ∀ o, h.get? a = some o → h'.get? a = some o) : SetS prog w h' a S n led :=
  let ⟨o, es, ep, t, h1, r⟩ := x.at_
  ⟨o, es, ep, t, e _ h1, r⟩

section
variable {prog : Program} {w : World} {A : Around} {E : Value → Shared → Prop} {s : Shared}

theorem sets_store {a : Addr} {o : Obj} {es : Array (Int × Value)} {ep : Nat} {t : SetTable} {led : Bool} {es' : Array (Int × Value)} {t' : SetTable} {S' : Str → Bool} {Q : Unit → Shared → Prop}
    (ho : s.heap.get? a = some o) (hex : o.ExactSet) (hd : o.data = .set es ep t) (hel : ElemsOf (strKind prog w) es'.toList) (hmem : ∀ k, S' k = true ↔ ∃ e ∈ es'.toList, (strKind prog w).is k e.2 = true)
    (hb : es'.size < scanBound) (hf : t'.fits es'.size = true) (hled : t'.led = led) (hpl : es'.size ≠ 0 → t'.plain = false)
    (q : ∀ h' o', ExtB [a] s.heap h' → h'.get? a = some o' → o'.ExactSet → o'.data = .set es' (ep + 1) t' → SetS prog w h' a S' es'.size led → Q () { s with heap := h' }) : wpAny (model prog w) A (storeSet a es' t') Q E s := by
  obtain ⟨hg, _⟩ := SetOf_store (knd := strKind prog w) ho hex hd hel hmem hb hf
  refine wpAny_storeSet_of ho hd (q _ _ (fun b o hb e => (Heap.SameBut.update s.heap a (Obj.putSet es' t')).extBut b o (by simpa using hb) e) hg hex rfl ⟨_, es', ep + 1, t', hg, hex, rfl, hel, hmem, hb, hf, rfl, hled, hpl⟩) (fits_of_scanBound hb)

theorem sets_add {a : Addr} {S : Str → Bool} {n : Nat} {led : Bool} {y : Str} {tk : Tok} {Q : Bool → Shared → Prop} (hS : SetS prog w s.heap a S n led) (hroom : n + 1 < scanBound)
    (q : ∀ h' n', n' ≤ n + 1 → ExtB [a] s.heap h' → SetS prog w h' a (fun k => S k || decide (k = y)) n' led → ∀ b, Q b { s with heap := h' }) :
    wpAny (model prog w) A (setAddHashed a (.str y tk) ((strKind prog w).hash y)) Q E s := by
  have hkey := strKind_is prog w y tk
  have hsc : (Value.str y tk).scannable = true := rfl
  obtain ⟨o, es, ep, t, ho, hex, hd, hel, hmem, hb, hf, hn, hled, hpl⟩ := hS.at_
  have hb1 : es.size + 1 < scanBound := by rw [hn]; exact hroom
  unfold setAddHashed setAddHashedIn
  refine wpAny_holding (wpAny_bind (wpAny_setState_of ho hd hf ?_))
  dsimp only
  rw [byScan_of (knd := strKind prog w) hsc hb hel]
  simp only [↓reduceIte]
  unfold setAddByScan
  refine wpAny_bind (wpAny_bind (wpAny_rule (wpAny_bind (wpAny_setScan_of hkey ho hd hf hel ?_))))
  cases hr : List.findIdx? (fun e => (strKind prog w).is y e.2) es.toList with
  | some j =>
    dsimp only
    obtain ⟨hj, hpj, _⟩ := List.findIdx?_eq_some_iff_getElem.mp hr
    have hSk : S y = true := (hmem y).mpr ⟨es.toList[j], List.getElem_mem hj, hpj⟩
    refine wpAny_pure (wpAny_pure (q s.heap n (by omega) (fun _ _ _ e => e) ⟨o, es, ep, t, ho, hex, hd, hel, fun k' => ?_, hb, hf, hn, hled, hpl⟩ _))
    rw [Bool.or_eq_true, decide_eq_true_eq, ← hmem k']
    exact ⟨fun hk => hk.elim id (fun e => e ▸ hSk), .inl⟩
  | none =>
    dsimp only
    have hperm := layNew_perm t es ((strKind prog w).hash y) (.str y tk)
    have hfits := layNew_fits t es ((strKind prog w).hash y) (.str y tk)
    have hl1 := layNew_led t es ((strKind prog w).hash y) (.str y tk)
    generalize hL : layNew t es ((strKind prog w).hash y) (.str y tk) = L at hperm hfits hl1 ⊢
    obtain ⟨es1, t1, wasDummy, gave⟩ := L
    dsimp only at hperm hfits hl1 ⊢
    rw [Array.toList_push] at hperm
    have hel1 : ElemsOf (strKind prog w) es1.toList := (hel.push hkey hsc).perm hperm
    have hmem1 : ∀ k', (S k' || decide (k' = y)) = true ↔ ∃ e ∈ es1.toList, (strKind prog w).is k' e.2 = true := mem_push_iff hkey hmem hperm
    have hsz1 : es1.size = n + 1 := by rw [← Array.length_toList, hperm.length_eq, List.length_append, Array.length_toList, hn]; rfl
    have hb1' : es1.size < scanBound := by rw [hsz1]; exact hroom
    have gw : ∀ (b : Bool) {s₁ : Shared} {Q' : Unit → Shared → Prop}, Q' () s₁ → wpAny (model prog w) A (match b with | true => rule "set.scan.the-table-gave-way" | false => pure ()) Q' E s₁ :=
      fun b s₁ Q' hq => by cases b <;> first | exact wpAny_pure hq | exact wpAny_rule hq
    have tail : ∀ (t2 : SetTable), t2.fits es1.size = true → t2.led = led → t2.plain = false → wpAny (model prog w) A (do
        storeSet a es1 t2
        if (!wasDummy && t2.tooFull) = true then do
            (match (relayAll t2 es1 (SetTable.grown es1.size)).2.2 with | true => rule "set.scan.the-table-gave-way" | false => pure ())
            storeSet a (relayAll t2 es1 (SetTable.grown es1.size)).1 (relayAll t2 es1 (SetTable.grown es1.size)).2.1
            pure (some true)
          else pure (some true)) (fun r s' => wpAny (model prog w) A (match r with | some added => pure added | none => setAddHashedIn a (.str y tk) ((strKind prog w).hash y) 99999) Q E s') E s := by
      intro t2 hf2 hl2 hp2
      refine wpAny_bind (sets_store ho hex hd hel1 hmem1 hb1' hf2 hl2 (fun _ => hp2) fun h1 o1 e1 ho1 hex1 hd1 hS1 => ?_)
      split
      · have hp := relayAll_perm t2 es1 (SetTable.grown es1.size)
        have hfr := relayAll_fits t2 es1 (SetTable.grown es1.size)
        have hl3 := relayAll_led t2 es1 (SetTable.grown es1.size)
        generalize hRl : relayAll t2 es1 (SetTable.grown es1.size) = Rl at hp hfr hl3 ⊢
        obtain ⟨es2, t3, gave2⟩ := Rl
        dsimp only at hp hfr hl3 ⊢
        have hel2 : ElemsOf (strKind prog w) es2.toList := hel1.perm hp
        have hmem2 : ∀ k', (S k' || decide (k' = y)) = true ↔ ∃ e ∈ es2.toList, (strKind prog w).is k' e.2 = true := fun k' => (hmem1 k').trans ⟨fun ⟨e, he, q⟩ => ⟨e, hp.mem_iff.mpr he, q⟩, fun ⟨e, he, q⟩ => ⟨e, hp.mem_iff.mp he, q⟩⟩
        have hsz : es2.size = es1.size := by rw [← Array.length_toList, hp.length_eq, Array.length_toList]
        refine wpAny_bind (gw _ ?_)
        refine wpAny_bind (sets_store (s := { s with heap := h1 }) ho1 hex1 hd1 hel2 hmem2 (by rw [hsz]; exact hb1') hfr (hl3.1.trans hl2) (fun _ => hl3.2 hp2) fun h2 o2 e2 _ _ _ hS2 => ?_)
        refine wpAny_pure (wpAny_pure (q h2 es2.size (by omega) (fun b o hb e => e2 b o hb (e1 b o hb e)) hS2 _))
      · exact wpAny_pure (wpAny_pure (q h1 es1.size (by omega) e1 hS1 _))
    refine wpAny_bind (gw _ ?_)
    by_cases hp1 : t1.plain = true
    · rw [if_pos hp1, hashByValue_scannable 8 hsc]
      refine wpAny_bind (wpAny_pure ?_)
      exact tail { t1 with plain := false } (SetTable.fits_plain_off hfits) (hl1.1.trans hled) rfl
    · rw [if_neg hp1]
      refine wpAny_bind (wpAny_pure ?_)
      exact tail t1 hfits (hl1.1.trans hled) (by simpa using hp1)
end
end Mine
end

section
open PySem PySem.Calls PySem.W PyProof.Rows
set_option Elab.async false
set_option maxRecDepth 100000
namespace Mine
section
variable {prog : Program} {w : World} {A : Around} {E : Value → Shared → Prop} {s : Shared}

/-- whether this world's sets are led -/
noncomputable abbrev ledOf (w : World) : Bool := !w.params.followText "set-order"

theorem sets_fresh (h : Heap) (led : Bool) : SetS prog w (h.push { cls := .type "set", dict := none, data := .set #[] 0 (.fresh 0 0 led) }) h.objs.size (fun _ => false) 0 led :=
  ⟨_, #[], 0, _, Heap.get?_push_size _ rfl, ⟨rfl, rfl, rfl⟩, rfl, fun e he => by simp at he, fun k => by simp, by unfold scanBound; decide, rfl, rfl, rfl, fun h => absurd rfl h⟩

theorem sets_new (a : Value) {Q₁ : Value → Shared → Prop}
    (h : Q₁ (.ref s.heap.objs.size) { s with heap := s.heap.push { cls := .type "set", dict := none, data := .set #[] 0 (.fresh 0 0 (ledOf w)) } }) :
    codeAny (model prog w) A (.call (.builtin "set.__new__") ⟨[.type "set", a], []⟩) (wants Q₁ E) s := by
  refine codeAny_of_tree ?_
  show wpAny _ A.in1 (do checkBuiltinCall "set.__new__" ⟨[.type "set", a], []⟩; again (.builtin "set.__new__" ⟨[.type "set", a], []⟩)) _ _ s
  refine wpAny_bind (wpAny_of_eq (F.newCall_set_1 a) (wpAny_pure ⟨plainId_quiet F.plain_set_new _, codeAny_builtin F.entry_set_new ?_⟩))
  rw [Around.under_plainId F.plain_set_new _]
  unfold Builtin.«set.__new__» Builtin.Frozenset.newClass
  have hsub := sub_set_self
  obtain ⟨hp, g, d, tk, os⟩ := s
  dsimp only
  wp_walk
  refine wpAny_askSetting (wpAny_pure ?_)
  dsimp only
  simp only [newObj]
  refine wpAny_bind (wpAny_alloc (wpAny_pure ?_))
  exact wpAny_pure h

theorem strsAre_at : ∀ {vs : List Value} {ys : List Str} {i : Nat} {y : Str} {v : Value}, StrsAre vs ys → ys[i]? = some y → vs[i]? = some v → ∃ tk, v = .str y tk
  | _, _, i, _, _, .nil, hy, _ => by simp at hy
  | _, _, 0, _, _, .cons z t _, hy, hv => by simp at hy hv; subst hy hv; exact ⟨t, rfl⟩
  | _, _, i + 1, _, _, .cons z t r, hy, hv => by simp at hy hv; exact strsAre_at r hy hv
theorem strsAre_len : ∀ {vs : List Value} {ys : List Str}, StrsAre vs ys → vs.length = ys.length
  | _, _, .nil => rfl
  | _, _, .cons _ _ r => by rw [List.length_cons, List.length_cons, strsAre_len r]

/-- a list's texts go into a set -/
theorem sets_fill {R : Result → Shared → Prop} {S I l : Addr} {items : Array Value} {ys : List Str} {led : Bool} (hh : A.in1.handled = none) (hi : StrsAre items.toList ys) (hb : items.size + 1 < scanBound) (hSI : S ≠ I) (hSl : S ≠ l) (hIl : I ≠ l) :
    ∀ (k i : Nat) {s : Shared} {n : Nat}, i + k = items.size → n ≤ i → s.heap.IsListIter I l i → s.heap.IsList l items → SetS prog w s.heap S (fun y => (ys.take i).contains y) n led →
      (∀ s' n', Stp0 [S, I] s s' → n' ≤ items.size → SetS prog w s'.heap S (fun y => ys.contains y) n' led → R (.ok (.ret .none)) s') →
      codeAny (model prog w) A (.builtin "set.update.loop" ⟨[.ref S, .ref I], []⟩) R s
  | 0, i, s, n, hk, hn, hit, hl, hS, q => by
    refine codeAny_builtin F.entry_set_update_loop ?_
    rw [Around.under_plainId F.plain_set_update_loop _]
    show wpAny _ A.in1 (pyNext (.ref I) >>= _) _ _ s
    refine wpAny_bind (wpAny_pyNext_list_end hh hit hl (by simp; omega) fun h' he' => ?_)
    have e : ys.take i = ys := List.take_of_length_le (by have := strsAre_len hi; rw [Array.length_toList] at this; omega)
    rw [e] at hS
    exact wpAny_pure (q _ n ⟨rfl, rfl, fun b o hb x => he' b o (fun e => hb (by rw [e]; simp)) x⟩ (by omega) (hS.ext fun o x => he' S o hSI x))
  | k + 1, i, s, n, hk, hn, hit, hl, hS, q => by
    have hlt : i < items.size := by omega
    obtain ⟨y, hy⟩ : ∃ y, ys[i]? = some y := by
      have := strsAre_len hi
      rw [Array.length_toList] at this
      exact ⟨ys[i]'(by omega), List.getElem?_eq_getElem _⟩
    obtain ⟨v, hv⟩ : ∃ v, items[i]? = some v := ⟨items[i], Array.getElem?_eq_getElem hlt⟩
    obtain ⟨tk, rfl⟩ : ∃ tk, v = .str y tk := by
      exact strsAre_at hi hy (by simpa using hv)
    refine codeAny_builtin F.entry_set_update_loop ?_
    rw [Around.under_plainId F.plain_set_update_loop _]
    show wpAny _ A.in1 (pyNext (.ref I) >>= _) _ _ s
    refine wpAny_bind (wpAny_pyNext_list_item hit hl hv fun h' hit' hs' => ?_)
    have hS' : SetS prog w h' S (fun y => (ys.take i).contains y) n led := hS.ext fun o x => hs'.extBut S o hSI x
    show wpAny _ A.in1 (holding [Value.str y tk] (setAdd S (.str y tk)) >>= _) _ _ _
    refine wpAny_bind (wpAny_holding ?_)
    unfold setAdd
    refine wpAny_holding (wpAny_bind ((strKind prog w).pyHash (k := y) (strKind_is _ _ _ _) ?_))
    refine sets_add (s := { s with heap := h', toks := s.toks + 1 }) hS' (by omega) fun h2 n2 hn2 e2 hS2 b => ?_
    have hS3 : SetS prog w h2 S (fun y => (ys.take (i + 1)).contains y) n2 led := by
      rw [take_snoc hy]
      have e : (fun k => (ys.take i).contains k || decide (k = y)) = fun k => (ys.take i ++ [y]).contains k := by
        funext k; simp
      rw [← e]; exact hS2
    refine wpAny_pure ⟨plainId_quiet F.plain_set_update_loop _, sets_fill hh hi hb hSI hSl hIl k (i + 1) (by omega) (by omega) (hit'.at fun o x => e2 I o (by simpa using Ne.symm hSI) x) ?_ hS3 fun s' n' e3 hn' hS4 => ?_⟩
    · exact (hl.at fun o x => hs'.extBut l o (Ne.symm hIl) x).at fun o x => e2 l o (by simpa using Ne.symm hSl) x
    · refine q s' n' ⟨e3.gens, e3.os, fun c o hc x => e3.ext c o hc (e2 c o (fun hm => hc (by rw [List.mem_singleton.mp hm]; simp)) (hs'.extBut c o (fun e => hc (by rw [e]; simp)) x))⟩ hn' hS4

set_option maxHeartbeats 3200000 in
/-- set(texts) -/
theorem sets_call {l : Addr} {items : Array Value} {ys : List Str} {Q : Value → Shared → Prop} (hh : A.handled = none) (hl : s.heap.IsList l items) (hi : StrsAre items.toList ys) (hb : items.size + 1 < scanBound)
    (q : ∀ s' n', Stp0 [] s s' → n' ≤ items.size → SetS prog w s'.heap s.heap.objs.size (fun y => ys.contains y) n' (ledOf w) → Q (.ref s.heap.objs.size) s') :
    wpAny (model prog w) A (call (.type "set") [.ref l]) Q E s := by
  obtain ⟨c, tl, hmro⟩ := F.called_set.mro
  have hmade := F.called_set.made
  have hsub := F.called_set.sub
  refine wpAny_call (codeAny_of_tree ?_)
  show wpAny _ _ (callAny (.type "set") _) _ _ _
  refine wpAny_pure ⟨Code.quiet_builtin _ (by decide +kernel), codeAny_builtin F.entry_type_call ?_⟩
  rw [Around.under_plain (weight_type_call_type "set" [.ref l] []) rfl]
  have h1 := F.called_set.notType
  have h2 := F.called_set.canCreate
  have hct := F.typeCall_set_1 (.ref l)
  repeat (any_goals (first | assumption | wp_step))
  refine codeAny_mono (sets_new (w := w) (.ref l) (E := E) (Q₁ := fun obj s₁ => obj = .ref s.heap.objs.size ∧ s₁ = { s with heap := s.heap.push { cls := .type "set", dict := none, data := .set #[] 0 (.fresh 0 0 (ledOf w)) } }) ⟨rfl, rfl⟩) fun r s₁ hr => ?_
  cases r with
  | error e => exact hr
  | ok fl =>
    cases fl with
    | ret obj =>
      obtain ⟨rfl, rfl⟩ := hr
      generalize hG : s.heap.push { cls := .type "set", dict := none, data := .set #[] 0 (.fresh 0 0 (ledOf w)) } = G
      have hS : G.get? s.heap.objs.size = some { cls := .type "set", dict := none, data := .set #[] 0 (.fresh 0 0 (ledOf w)) } := by rw [← hG]; exact Heap.get?_push_size _ rfl
      have kG : Ext s.heap G := by rw [← hG]; exact fun _ _ e => Heap.get?_push_of_some _ e
      have sG : G.objs.size = s.heap.objs.size + 1 := by rw [← hG, Heap.size_push]
      have hT : Shared.TypeIs { s with heap := G } (.ref s.heap.objs.size) "set" := ⟨_, hS, rfl⟩
      have hli := F.called_set.init.lookup
      have hbi := F.called_set.init.bind (.ref s.heap.objs.size)
      repeat (any_goals (first | assumption | wp_step))
      refine codeAny_mono (codeAny_call_builtin (R := wants (fun r s₂ => r = .none ∧ Q (.ref s.heap.objs.size) s₂) E) F.called_set.init.plain F.entry_set_init (check_set_init_1 hT ?_)) fun r₂ s₂ hr₂ => ?_
      · obtain ⟨ol, hol, hcl, nl, hdl⟩ := hl
        obtain ⟨ocls, odict, odata, oslots⟩ := ol
        simp only at hcl hdl
        subst hcl; subst hdl
        have hol' : G.get? l = some { cls := .type "list", dict := odict, data := .seq items nl, slots := oslots } := kG _ _ hol
        have hsls := F.sub_list_set
        have hslf := F.sub_list_frozenset
        have hne : (Value.type "list" == Value.type "dict") = false := by decide
        have hl1 : G.IsList l items := ⟨_, hol', rfl, nl, rfl⟩
        unfold Builtin.«set.__init__» noKeywords Builtin.Frozenset.updateFrom
        generalize hPI : pyIter = PI
        wp_walk
        subst hPI
        refine wpAny_pyIter_list hl1 ?_
        refine wpAny_bind (wpAny_runValue ?_)
        have hlS : l < s.heap.objs.size := Heap.lt_size hol
        have kI : Ext G (G.push { cls := .type "list_iterator", data := .fields #[.ref l, .int 0 0] }) := fun _ _ e => Heap.get?_push_of_some _ e
        refine sets_fill (S := s.heap.objs.size) (I := G.objs.size) (l := l) (led := ledOf w) (n := 0) (by simp [hh]) hi hb (by rw [sG]; exact Nat.ne_of_lt (Nat.lt_succ_self _)) (Nat.ne_of_gt hlS) (by rw [sG]; exact Nat.ne_of_gt (Nat.lt_succ_of_lt hlS))
          items.size 0 (Nat.zero_add _) (Nat.le_refl _) ⟨_, Heap.get?_push_size _ rfl, rfl, rfl⟩ (hl1.push _) ?_ fun s' n' e' hn' hS' => ?_
        · have := sets_fresh (prog := prog) (w := w) s.heap (ledOf w)
          rw [hG] at this
          exact this.ext fun o x => kI _ o x
        · refine wpAny_pure ?_
          refine wpAny_pure ⟨rfl, q s' n' ⟨e'.gens, e'.os, fun b o _ x => e'.ext b o (fun hm => ?_) (kI _ _ (kG _ _ x))⟩ hn' hS'⟩
          have hlt := Heap.lt_size x
          simp only [List.mem_cons, List.not_mem_nil, or_false] at hm
          rcases hm with e | e
          · rw [e] at hlt; exact Nat.lt_irrefl _ hlt
          · rw [e, sG] at hlt; exact Nat.lt_irrefl _ (Nat.lt_of_succ_lt hlt)
      · cases r₂ with
        | error e => exact hr₂
        | ok fl₂ =>
          cases fl₂ with
          | ret r =>
            obtain ⟨rfl, hr₂⟩ := hr₂
            repeat (any_goals (first | assumption | wp_step))
          | _ => exact hr₂.elim
    | _ => exact hr.elim
end
end Mine
end

section
open PySem PySem.Calls PySem.W PyProof.Rows
set_option Elab.async false
set_option maxRecDepth 100000
namespace Mine
theorem slot_setiter_next : Slot "set_iterator" "__next__" "set_iterator.__next__" :=
  .of (owner := "set_iterator") (n := "__next__") (by rw [typeLookup_type, builtinLookup_eq_fast]; kernel_rfl) (by decide +kernel) (by decide +kernel) (by decide +kernel)
    (by first | exact .inl (by decide +kernel) | exact .inr (by decide +kernel)) (by rw [isSubtype_type]; kernel_rfl)
theorem entry_setiter_next : entryFor table "set_iterator.__next__" = some Builtin.«set_iterator.__next__» := entryFor_of_tree (by kernel_rfl)
theorem args_setiter_next (a : Value) : argsOk "set_iterator.__next__" ⟨[a], []⟩ := by unfold argsOk; kernel_rfl
theorem slot_set_iter : Slot "set" "__iter__" "set.__iter__" :=
  .of (owner := "set") (n := "__iter__") (by rw [typeLookup_type, builtinLookup_eq_fast]; kernel_rfl) (by decide +kernel) (by decide +kernel) (by decide +kernel)
    (by first | exact .inl (by decide +kernel) | exact .inr (by decide +kernel)) (by rw [isSubtype_type]; kernel_rfl)
theorem entry_set_iter : entryFor table "set.__iter__" = some Builtin.«frozenset.__iter__» := entryFor_alias (id' := "frozenset.__iter__") (by kernel_rfl) rfl (by decide +kernel) (by kernel_rfl)
theorem args_set_iter (a : Value) : argsOk "set.__iter__" ⟨[a], []⟩ := by unfold argsOk; kernel_rfl

/-- a set's iterator -/
noncomputable def IsSetIter (h : Heap) (I : Addr) (first : Value) (i : Nat) (a : Addr) (n ep : Nat) : Prop :=
  h.get? I = some { cls := .type "set_iterator", data := .fields #[first, rawInt i, .ref a, rawInt n, rawInt ep] }

section
variable {prog : Program} {w : World} {A : Around} {E : Value → Shared → Prop} {s : Shared}

theorem wpAny_setEntries_at {a : Addr} {o : Obj} {es : Array (Int × Value)} {ep : Nat} {t : SetTable} {Q : Array (Int × Value) → Shared → Prop} (ho : s.heap.get? a = some o) (hd : o.data = .set es ep t) (hf : t.fits es.size = true) (h : Q es s) :
    wpAny (model prog w) A (setEntries a) Q E s := by
  unfold setEntries
  exact wpAny_bind (wpAny_setState_of ho hd hf (wpAny_pure h))

theorem set_fld {I : Addr} {cls : Value} {vs : Array Value} {k : Nat} {x : Value} {Q : Unit → Shared → Prop} (ho : s.heap.get? I = some { cls := cls, data := .fields vs }) (hk : k < vs.size)
    (q : ∀ h', h'.get? I = some { cls := cls, data := .fields (vs.setIfInBounds k x) } → ExtB [I] s.heap h' → Q () { s with heap := h' }) : wpAny (model prog w) A (setField (.ref I) k x) Q E s := by
  refine wpAny_setField ho rfl hk (q _ ?_ fun b o hb e => (Heap.SameBut.update s.heap I _).extBut b o (by simpa using hb) e)
  rw [Heap.get?_update_self _ ho rfl]; rfl

theorem setiter_item {I a : Addr} {slot i ep : Nat} {o : Obj} {es : Array (Int × Value)} {t : SetTable} {x : Value} {next : Nat} {Q : Option Value → Shared → Prop} (hit : IsSetIter s.heap I (rawInt slot) i a es.size ep) (ho : s.heap.get? a = some o) (hd : o.data = .set es ep t) (hf : t.fits es.size = true)
    (hn : ∀ (A : Around) (E : Value → Shared → Prop) (Q : Option (Value × Nat) → Shared → Prop), Q (some (x, next)) s → wpAny (model prog w) A (setNext a slot i ep) Q E s)
    (q : ∀ h', IsSetIter h' I (rawInt next) (i + 1) a es.size ep → ExtB [I] s.heap h' → Q (some x) { s with heap := h' }) : wpAny (model prog w) A (pyNext (.ref I)) Q E s := by
  have hT : s.TypeIs (.ref I) "set_iterator" := ⟨_, hit, rfl⟩
  unfold pyNext
  refine wpAny_bind (wpAny_attempt (wpAny_callSpecial?_slot (name := Str.ofString "__next__") hT slot_setiter_next (wpAny_call_entry slot_setiter_next hT entry_setiter_next ?_ (args_setiter_next _))))
  unfold Builtin.«set_iterator.__next__»
  refine wpAny_bind (wpAny_of_eq (show slotArgs "__next__" 0 ⟨[.ref I], []⟩ = pure (.ref I, []) from rfl) ?_)
  dsimp only
  refine wpAny_bind (wpAny_fieldsOf hit rfl ?_)
  dsimp only [rawInt]
  refine wpAny_bind (wpAny_setEntries_at ho hd hf ?_)
  rw [if_neg (by simp)]
  refine wpAny_bind ?_
  show wpAny _ _ (setNext a slot i ep) _ _ s
  refine hn _ _ _ ?_
  dsimp only
  refine wpAny_bind (set_fld hit (by simp) fun h1 ho1 e1 => ?_)
  refine wpAny_bind (set_fld (s := { s with heap := h1 }) ho1 (by simp) fun h2 ho2 e2 => ?_)
  exact wpAny_pure ⟨x, rfl, wpAny_pure (q h2 ho2 fun b o hb e => e2 b o hb (e1 b o hb e))⟩

theorem setiter_drawn {I a tp : Addr} {i ep : Nat} {o : Obj} {es : Array (Int × Value)} {t : SetTable} {x : Value} {hx : Int} {ob : Obj} {pl : Array Value} {m place : Nat} {tk : Tok} {Q : Option Value → Shared → Prop} (hit : IsSetIter s.heap I (.ref tp) i a es.size ep) (ho : s.heap.get? a = some o) (hd : o.data = .set es ep t) (hf : t.fits es.size = true)
    (htp : s.heap.get? tp = some ob) (hpl : ob.data = .seq pl m) (hp : pl[i]? = some (.int place tk)) (he : es[place]? = some (hx, x))
    (q : ∀ h', IsSetIter h' I (.ref tp) (i + 1) a es.size ep → ExtB [I] s.heap h' → Q (some x) { s with heap := h' }) : wpAny (model prog w) A (pyNext (.ref I)) Q E s := by
  have hT : s.TypeIs (.ref I) "set_iterator" := ⟨_, hit, rfl⟩
  unfold pyNext
  refine wpAny_bind (wpAny_attempt (wpAny_callSpecial?_slot (name := Str.ofString "__next__") hT slot_setiter_next (wpAny_call_entry slot_setiter_next hT entry_setiter_next ?_ (args_setiter_next _))))
  unfold Builtin.«set_iterator.__next__»
  refine wpAny_bind (wpAny_of_eq (show slotArgs "__next__" 0 ⟨[.ref I], []⟩ = pure (.ref I, []) from rfl) ?_)
  dsimp only
  refine wpAny_bind (wpAny_fieldsOf hit rfl ?_)
  dsimp only [rawInt]
  refine wpAny_bind (wpAny_setEntries_at ho hd hf ?_)
  rw [if_neg (by simp)]
  refine wpAny_bind (wpAny_seqItems htp hpl ?_)
  dsimp only
  rw [Int.toNat_natCast, hp]
  dsimp only
  refine wpAny_bind ?_
  unfold setNextDrawn
  refine wpAny_bind (wpAny_setState_of ho hd hf ?_)
  dsimp only
  rw [Int.toNat_natCast, Int.toNat_natCast, if_neg (by simp), he]
  dsimp only
  refine wpAny_pure ?_
  refine wpAny_bind (set_fld hit (by simp) fun h1 ho1 e1 => ?_)
  exact wpAny_pure ⟨x, rfl, wpAny_pure (q h1 ho1 e1)⟩
theorem setiter_end {I a : Addr} {slot i ep : Nat} {o : Obj} {es : Array (Int × Value)} {t : SetTable} {Q : Option Value → Shared → Prop} (hh : A.handled = none) (hit : IsSetIter s.heap I (rawInt slot) i a es.size ep) (ho : s.heap.get? a = some o) (hd : o.data = .set es ep t) (hf : t.fits es.size = true)
    (hn : ∀ (A : Around) (E : Value → Shared → Prop) (Q : Option (Value × Nat) → Shared → Prop), Q none s → wpAny (model prog w) A (setNext a slot i ep) Q E s)
    (q : ∀ h', ExtB [I] s.heap h' → Q none { s with heap := h' }) : wpAny (model prog w) A (pyNext (.ref I)) Q E s := by
  have hT : s.TypeIs (.ref I) "set_iterator" := ⟨_, hit, rfl⟩
  unfold pyNext
  refine wpAny_bind (wpAny_attempt (wpAny_callSpecial?_slot (name := Str.ofString "__next__") hT slot_setiter_next (wpAny_call_entry slot_setiter_next hT entry_setiter_next ?_ (args_setiter_next _))))
  unfold Builtin.«set_iterator.__next__»
  refine wpAny_bind (wpAny_of_eq (show slotArgs "__next__" 0 ⟨[.ref I], []⟩ = pure (.ref I, []) from rfl) ?_)
  dsimp only
  refine wpAny_bind (wpAny_fieldsOf hit rfl ?_)
  dsimp only [rawInt]
  refine wpAny_bind (wpAny_setEntries_at ho hd hf ?_)
  rw [if_neg (by simp)]
  refine wpAny_bind ?_
  show wpAny _ _ (setNext a slot i ep) _ _ s
  refine hn _ _ _ ?_
  dsimp only
  refine wpAny_bind (set_fld hit (by simp) fun h1 ho1 e1 => ?_)
  refine wpAny_bind ?_
  simp only [newExc, newTuple]
  refine wpAny_bind (wpAny_newObj_type ?_ (by size_fits))
  refine wpAny_bind (m := firstArgMember _ _) (wpAny_of_eq (a := Value.none) (by first | rfl | (simp only [firstArgMember]; rfl)) ?_)
  refine wpAny_newObj_type ?_ (by size_fits)
  simp only [raiseNew]
  refine wpAny_bind (wpAny_handled ?_)
  rw [show A.in1.handled = none from hh]
  refine wpAny_bind (wpAny_pure (wpAny_throw ?_))
  refine wpAny_bind (wpAny_isInstance (T := "StopIteration") (b := true) ⟨_, Heap.get?_push_size _ rfl, rfl⟩ isSubtype_stop ?_)
  exact wpAny_pure (q _ fun b o hb e => Heap.get?_push_of_some _ (Heap.get?_push_of_some _ (e1 b o hb e)))

theorem setiter_drawn_end {I a tp : Addr} {i ep : Nat} {o : Obj} {es : Array (Int × Value)} {t : SetTable} {ob : Obj} {pl : Array Value} {m : Nat} {Q : Option Value → Shared → Prop} (hh : A.handled = none) (hit : IsSetIter s.heap I (.ref tp) i a es.size ep) (ho : s.heap.get? a = some o) (hd : o.data = .set es ep t) (hf : t.fits es.size = true)
    (htp : s.heap.get? tp = some ob) (hpl : ob.data = .seq pl m) (hp : pl[i]? = none)
    (q : ∀ h', ExtB [I] s.heap h' → Q none { s with heap := h' }) : wpAny (model prog w) A (pyNext (.ref I)) Q E s := by
  have hT : s.TypeIs (.ref I) "set_iterator" := ⟨_, hit, rfl⟩
  unfold pyNext
  refine wpAny_bind (wpAny_attempt (wpAny_callSpecial?_slot (name := Str.ofString "__next__") hT slot_setiter_next (wpAny_call_entry slot_setiter_next hT entry_setiter_next ?_ (args_setiter_next _))))
  unfold Builtin.«set_iterator.__next__»
  refine wpAny_bind (wpAny_of_eq (show slotArgs "__next__" 0 ⟨[.ref I], []⟩ = pure (.ref I, []) from rfl) ?_)
  dsimp only
  refine wpAny_bind (wpAny_fieldsOf hit rfl ?_)
  dsimp only [rawInt]
  refine wpAny_bind (wpAny_setEntries_at ho hd hf ?_)
  rw [if_neg (by simp)]
  refine wpAny_bind (wpAny_seqItems htp hpl ?_)
  dsimp only
  rw [Int.toNat_natCast, hp]
  dsimp only
  refine wpAny_bind (set_fld hit (by simp) fun h1 ho1 e1 => ?_)
  refine wpAny_bind (set_fld (s := { s with heap := h1 }) ho1 (by simp) fun h2 ho2 e2 => ?_)
  refine wpAny_bind ?_
  simp only [newExc, newTuple]
  refine wpAny_bind (wpAny_newObj_type ?_ (by size_fits))
  refine wpAny_bind (m := firstArgMember _ _) (wpAny_of_eq (a := Value.none) (by first | rfl | (simp only [firstArgMember]; rfl)) ?_)
  refine wpAny_newObj_type ?_ (by size_fits)
  simp only [raiseNew]
  refine wpAny_bind (wpAny_handled ?_)
  rw [show A.in1.handled = none from hh]
  refine wpAny_bind (wpAny_pure (wpAny_throw ?_))
  refine wpAny_bind (wpAny_isInstance (T := "StopIteration") (b := true) ⟨_, Heap.get?_push_size _ rfl, rfl⟩ isSubtype_stop ?_)
  exact wpAny_pure (q _ fun b o hb e => Heap.get?_push_of_some _ (Heap.get?_push_of_some _ (e2 b o hb (e1 b o hb e))))
end
end Mine
end

section
open PySem PySem.Calls PySem.W PyProof.Rows
set_option Elab.async false
set_option maxRecDepth 100000
namespace Mine

theorem erase_perm {α : Type} : ∀ {l : List α} {i : Nat} (h : i < l.length), (l[i] :: l.eraseIdx i).Perm l
  | x :: r, 0, _ => .refl _
  | x :: r, i + 1, h => by
    have ih := erase_perm (l := r) (i := i) (by simpa using h)
    show (r[i]'_ :: x :: r.eraseIdx i).Perm (x :: r)
    exact (List.Perm.swap _ _ _).trans (ih.cons x)
theorem pick_go {α : Type} (next : Nat → Nat) : ∀ (fuel k : Nat) (left : List α) (out : Array α), left.length ≤ fuel → (pickOrder.go next fuel k left out).toList.Perm (out.toList ++ left)
  | 0, k, left, out, h => by
    have : left = [] := List.eq_nil_of_length_eq_zero (by omega)
    subst this; simp [pickOrder.go]
  | fuel + 1, k, left, out, h => by
    unfold pickOrder.go
    cases left with
    | nil => simp
    | cons x r =>
      have hlt : next k % (x :: r).length < (x :: r).length := Nat.mod_lt _ (by simp)
      rw [List.getElem?_eq_getElem hlt]
      dsimp only
      have ih := pick_go next fuel (k + 1) ((x :: r).eraseIdx (next k % (x :: r).length)) (out.push (x :: r)[next k % (x :: r).length]) (by rw [List.length_eraseIdx_of_lt hlt]; simp at h ⊢; omega)
      refine ih.trans ?_
      rw [Array.toList_push, List.append_assoc]
      refine List.Perm.append_left _ ?_
      exact erase_perm hlt
theorem pick_perm {α : Type} (next : Nat → Nat) (xs : Array α) : (pickOrder next xs).toList.Perm xs.toList := by
  have := pick_go next xs.size 0 xs.toList #[] (by simp)
  simpa [pickOrder] using this

section
variable {prog : Program} {w : World} {A : Around} {E : Value → Shared → Prop}

theorem draw_order {α : Type} : ∀ (n : Nat) (xs : List α) {s : Shared} {Q : List α → Shared → Prop}, xs.length ≤ n → (∀ ys s', ys.Perm xs → s'.heap = s.heap → s'.gens = s.gens → s'.os = s.os → Q ys s') → wpAny (model prog w) A (drawOrder n xs) Q E s
  | 0, xs, s, Q, h, q => by
    have : xs = [] := List.eq_nil_of_length_eq_zero (by omega)
    subst this
    exact wpAny_pure (q [] s (.refl _) rfl rfl rfl)
  | n + 1, [], s, Q, h, q => wpAny_pure (q [] s (.refl _) rfl rfl rfl)
  | n + 1, x :: r, s, Q, h, q => by
    unfold drawOrder
    refine wpAny_bind ?_
    intro Γ p hΓ
    show Sem.wp _ _ (.choose .order (x :: r).length .pure) _ _ _ _
    rw [Sem.wp_choose]
    refine ⟨by simp, ?_⟩
    have hlt : (model prog w).w.draws .order (s.drawn.get .order) % (x :: r).length < (x :: r).length := Nat.mod_lt _ (by simp)
    generalize (model prog w).w.draws .order (s.drawn.get .order) % (x :: r).length = i at hlt
    have key : wpAny (model prog w) A (match (x :: r)[i]? with | some y => (do return y :: (← drawOrder n ((x :: r).eraseIdx i))) | none => unsupported "internal:drawOrder") Q E { s with drawn := s.drawn.bump .order } := by
      rw [List.getElem?_eq_getElem hlt]
      dsimp only
      refine wpAny_bind (draw_order n _ (by rw [List.length_eraseIdx_of_lt hlt]; simp at h ⊢; omega) fun ys s' hp h1 h2 h3 => wpAny_pure (q _ s' ?_ h1 h2 h3))
      exact (hp.cons _).trans (erase_perm hlt)
    exact key
end
end Mine
end

section
open PySem PySem.Calls PySem.W PyProof.Rows
set_option Elab.async false
set_option maxRecDepth 100000
namespace Mine
section
variable {prog : Program} {w : World} {A : Around} {E : Value → Shared → Prop} {s : Shared}

/-- the text of an entry -/
noncomputable def entStr : Int × Value → Str
  | (_, .str y _) => y
  | _ => ⟨#[]⟩
theorem elems_str {l : List (Int × Value)} (h : ElemsOf (strKind prog w) l) : ∀ e ∈ l, ∃ hs y tk, e = (hs, .str y tk) := fun e he => by
  obtain ⟨⟨k, hk, _⟩, _⟩ := h e he
  obtain ⟨hs, v⟩ := e
  cases v <;> first | exact ⟨_, _, _, rfl⟩ | (simp [PySem.strKind, Value.isStrOf] at hk)
theorem next_text {a : Addr} {o : Obj} {es : Array (Int × Value)} {ep : Nat} {t : SetTable} (hb : w.params.followText "set-order" = true) (ho : s.heap.get? a = some o) (hd : o.data = .set es ep t) (hf : t.fits es.size = true) (i slot : Nat) :
    ∀ (A : Around) (E : Value → Shared → Prop) (Q : Option (Value × Nat) → Shared → Prop), Q (((pickOrder (w.params.setOrder a ep) es)[i]?).map fun e => (e.2, slot)) s → wpAny (model prog w) A (setNext a slot i ep) Q E s := by
  intro A E Q q
  unfold setNext setWalk setsByText
  refine wpAny_bind (wpAny_setState_of ho hd hf ?_)
  dsimp only
  refine wpAny_bind (wpAny_bind (wpAny_askSetting (wpAny_pure ?_)))
  rw [if_pos (show (model prog w).w.params.followText "set-order" = true from hb), if_neg (by simp)]
  refine wpAny_bind (wpAny_bind (wpAny_setState_of ho hd hf ?_))
  dsimp only
  refine wpAny_bind (wpAny_bind (wpAny_askSetting (wpAny_pure ?_)))
  rw [if_pos (show (model prog w).w.params.followText "set-order" = true from hb)]
  exact wpAny_bind (wpAny_askSetting (wpAny_pure (wpAny_pure q)))
theorem below_zero (xs : Array Nat) (h : xs.size ≤ 1) : SetTable.below xs 0 = 0 := by
  match xs, h with
  | ⟨[]⟩, _ => rfl
  | ⟨[j]⟩, _ => rfl
  | ⟨_ :: _ :: _⟩, h => simp at h
theorem below_succ (j : Nat) : SetTable.below #[j] (j + 1) = 1 := by
  unfold SetTable.below SetTable.below.go
  simp [SetTable.below.go]
theorem next_one {a : Addr} {o : Obj} {es : Array (Int × Value)} {ep : Nat} {t : SetTable} (hb : w.params.followText "set-order" = false) (ho : s.heap.get? a = some o) (hd : o.data = .set es ep t) (hf : t.fits es.size = true) (hs : es.size ≤ 1) (hl : es.size = 0 ∨ t.led = true) (i slot : Nat) :
    ∀ (A : Around) (E : Value → Shared → Prop) (Q : Option (Value × Nat) → Shared → Prop), Q (match es[SetTable.below t.place slot]?, t.place[SetTable.below t.place slot]? with | some (_, x), some j => some (x, j + 1) | _, _ => none) s → wpAny (model prog w) A (setNext a slot i ep) Q E s := by
  intro A E Q q
  unfold setNext setsByText
  refine wpAny_bind (wpAny_setState_of ho hd hf ?_)
  dsimp only
  refine wpAny_bind (wpAny_bind (wpAny_askSetting (wpAny_pure ?_)))
  rw [if_neg (show ¬ (model prog w).w.params.followText "set-order" = true by rw [show (model prog w).w.params.followText "set-order" = false from hb]; decide)]
  have h1 : (!t.plain && decide (es.size > 1)) = false := by
    rw [decide_eq_false (by omega), Bool.and_false]
  show wpAny _ A (if (!t.plain && decide (es.size > 1)) = true then _ else _) Q E s
  rw [h1, if_neg (by decide)]
  refine wpAny_bind (show wpAny _ A (if (!t.led && !es.isEmpty) = true then unsupported _ else pure ()) _ E s from ?_)
  rw [if_neg (by rcases hl with h | h <;> simp [h, Array.isEmpty])]
  exact wpAny_pure (wpAny_pure q)

/-- what an iterator over a set of texts goes through -/
structure SetGo (prog : Program) (w : World) (A : Around) (S : Str → Bool) (n : Nat) (a I : Addr) (s s' : Shared) (ds : List Str) : Prop where
  all : ∀ y, S y = true ↔ y ∈ ds
  len : ds.length = n
  new : s.heap.get? I = none
  live : ∃ o, s'.heap.get? I = some o
  walk : ∀ V : List Addr, I ∈ V → a ∉ V → (∀ b ∈ V, b ≠ I → s'.heap.get? b = none ∨ s.heap.get? b ≠ none) → ∃ St, Wk prog w A V I (dStrs ds) St ∧ St 0 s'.heap

theorem perm_texts {S : Str → Bool} {l l' : List (Int × Value)} (hel : ElemsOf (PySem.strKind prog w) l) (hmem : ∀ k, S k = true ↔ ∃ e ∈ l, (PySem.strKind prog w).is k e.2 = true) (p : l'.Perm l) : ∀ y, S y = true ↔ y ∈ l'.map entStr := by
  intro y
  rw [hmem y]
  constructor
  · rintro ⟨e, he, hy⟩
    obtain ⟨hs, z, tk, rfl⟩ := elems_str hel e he
    refine List.mem_map.mpr ⟨_, p.mem_iff.mpr he, ?_⟩
    exact (PySem.strKind prog w).inj (.str z tk) z y (strKind_is prog w z tk) hy
  · intro h
    obtain ⟨e, he, rfl⟩ := List.mem_map.mp h
    have he' := p.mem_iff.mp he
    obtain ⟨hs, z, tk, rfl⟩ := elems_str hel e he'
    exact ⟨_, he', strKind_is prog w z tk⟩
end
end Mine
end

section
open PySem PySem.Calls PySem.W PyProof.Rows
set_option Elab.async false
set_option maxRecDepth 100000
namespace Mine
theorem slot_setiter_iter : Slot "set_iterator" "__iter__" "set_iterator.__iter__" :=
  .of (owner := "set_iterator") (n := "__iter__") (by rw [typeLookup_type, builtinLookup_eq_fast]; kernel_rfl) (by decide +kernel) (by decide +kernel) (by decide +kernel)
    (by first | exact .inl (by decide +kernel) | exact .inr (by decide +kernel)) (by rw [isSubtype_type]; kernel_rfl)
theorem entry_setiter_iter : entryFor table "set_iterator.__iter__" = some Builtin.«dict_keyiterator.__iter__» := entryFor_alias (id' := "dict_keyiterator.__iter__") (by kernel_rfl) rfl (by decide +kernel) (by kernel_rfl)
theorem args_setiter_iter (a : Value) : argsOk "set_iterator.__iter__" ⟨[a], []⟩ := by unfold argsOk; kernel_rfl

section
variable {prog : Program} {w : World} {A : Around} {E : Value → Shared → Prop} {V : List Addr}

theorem setiter_self {s : Shared} {I a : Addr} {first : Value} {i n ep : Nat} {Q : Value → Shared → Prop} (hit : IsSetIter s.heap I first i a n ep) (h : Q (.ref I) s) : wpAny (model prog w) A (pyIter (.ref I)) Q E s := by
  have hT : s.TypeIs (.ref I) "set_iterator" := ⟨_, hit, rfl⟩
  refine wpAny_pyIter_slot hT slot_setiter_iter (wpAny_call_entry slot_setiter_iter hT entry_setiter_iter ?_ (args_setiter_iter _))
  show wpAny _ _ (ret (.ref I)) _ _ s
  exact wpAny_pure ⟨_, rfl, "set_iterator", _, hT, slot_setiter_next.lookup, h⟩

theorem get_texts {es : List (Int × Value)} (hel : ∀ e ∈ es, ∃ hs y tk, e = (hs, Value.str y tk)) {i : Nat} {d : D} (h : (dStrs (es.map entStr))[i]? = some d) : ∃ hs y tk, es[i]? = some (hs, .str y tk) ∧ d = .str y := by
  simp only [dStrs, List.map_map, List.getElem?_map, Option.map_eq_some_iff] at h
  obtain ⟨e, he, rfl⟩ := h
  obtain ⟨hs, y, tk, rfl⟩ := hel e (List.mem_of_getElem? he)
  exact ⟨hs, y, tk, he, rfl⟩

/-- the places of a set's walk by slots, as a function of how many were given -/
theorem wk_set {a I : Addr} {o : Obj} {es : Array (Int × Value)} {ep : Nat} {t : SetTable} {ord : List (Int × Value)} (sl : Nat → Nat) (hh : A.handled = none) (hI : I ∈ V) (ha : a ∉ V) (hd : o.data = .set es ep t) (hf : t.fits es.size = true)
    (hel : ∀ e ∈ ord, ∃ hs y tk, e = (hs, Value.str y tk))
    (hn : ∀ i (s : Shared), s.heap.get? a = some o → ∀ (A : Around) (E : Value → Shared → Prop) (Q : Option (Value × Nat) → Shared → Prop), i ≤ ord.length → Q ((ord[i]?).map fun e => (e.2, sl (i + 1))) s → wpAny (model prog w) A (setNext a (sl i) i ep) Q E s) :
    Wk prog w A V I (dStrs (ord.map entStr)) (fun i h => IsSetIter h I (rawInt (sl i)) i a es.size ep ∧ h.get? a = some o) where
  item := fun i s Q E d hdi st q => by
    obtain ⟨hs, y, tk, he, rfl⟩ := get_texts hel hdi
    have hlt : i < ord.length := (List.getElem?_eq_some_iff.mp he).1
    refine setiter_item (next := sl (i + 1)) st.1 st.2 hd hf (fun A E Q q => hn i s st.2 A E Q (by omega) (by rw [he]; exact q)) fun h' hit' e' => ?_
    exact q _ _ (.str _ _) ⟨hit', e' a o (fun hm => ha (by rw [List.mem_singleton.mp hm]; exact hI)) st.2⟩ ⟨rfl, rfl, e'⟩
  done := fun s Q E st q => by
    have hl : (dStrs (ord.map entStr)).length = ord.length := by simp
    rw [hl] at st
    refine setiter_end hh st.1 st.2 hd hf (fun A E Q q => hn _ s st.2 A E Q (Nat.le_refl _) (by rw [List.getElem?_eq_none (Nat.le_refl _)]; exact q)) fun h' e' => q _ ⟨rfl, rfl, e'⟩
  self := fun _ _ _ _ st q => setiter_self st.1 q
  frame := fun _ _ _ st ext hk => ⟨hk _ st.1, ext a o ha st.2⟩
  cls := fun _ _ st => ⟨_, _, st.1, rfl, by simp⟩

theorem wk_drawn {a I tp : Addr} {o ob : Obj} {es : Array (Int × Value)} {ep m : Nat} {t : SetTable} {places : List Nat} (hh : A.handled = none) (hI : I ∈ V) (ha : a ∉ V) (htp : tp ∉ V) (hd : o.data = .set es ep t) (hf : t.fits es.size = true)
    (hel : ∀ e ∈ es.toList, ∃ hs y tk, e = (hs, Value.str y tk)) (hpl : ob.data = .seq (places.map fun (i : Nat) => rawInt i).toArray m) (hin : ∀ p ∈ places, p < es.size) :
    Wk prog w A V I (dStrs (places.map fun p => entStr (es.getD p (0, .none)))) (fun i h => IsSetIter h I (.ref tp) i a es.size ep ∧ h.get? a = some o ∧ h.get? tp = some ob) where
  item := fun i s Q E d hdi st q => by
    simp only [dStrs, List.map_map, List.getElem?_map, Option.map_eq_some_iff] at hdi
    obtain ⟨p, hp, rfl⟩ := hdi
    have hlt := hin p (List.mem_of_getElem? hp)
    obtain ⟨hs, y, tk, he⟩ := hel es[p] (by simp)
    have he' : es[p]? = some (hs, .str y tk) := by rw [Array.getElem?_eq_getElem hlt, he]
    refine setiter_drawn (place := p) (tk := 0) (x := .str y tk) (hx := hs) st.1 st.2.1 hd hf st.2.2 hpl (by simp [hp, rawInt]) he' fun h' hit' e' => ?_
    have e2 : es.getD p (0, .none) = (hs, .str y tk) := by simp [Array.getD, hlt, he]
    have neI : ∀ b, b ∉ V → b ∉ [I] := fun b hb hm => hb (by rw [List.mem_singleton.mp hm]; exact hI)
    refine q _ _ ?_ ⟨hit', e' a o (neI a ha) st.2.1, e' tp ob (neI tp htp) st.2.2⟩ ⟨rfl, rfl, e'⟩
    show Rep V _ _ (.str (entStr (es.getD p (0, .none))))
    rw [e2]; exact .str _ _
  done := fun s Q E st q => by
    have hl : (dStrs (places.map fun p => entStr (es.getD p (0, .none)))).length = places.length := by simp
    rw [hl] at st
    exact setiter_drawn_end hh st.1 st.2.1 hd hf st.2.2 hpl (by simp) fun h' e' => q _ ⟨rfl, rfl, e'⟩
  self := fun _ _ _ _ st q => setiter_self st.1 q
  frame := fun _ _ _ st ext hk => ⟨hk _ st.1, ext a o ha st.2.1, ext tp ob htp st.2.2⟩
  cls := fun _ _ st => ⟨_, _, st.1, rfl, by simp⟩
end
end Mine
end

section
open PySem PySem.Calls PySem.W PyProof.Rows
set_option Elab.async false
set_option maxRecDepth 100000
namespace Mine
section
variable {prog : Program} {w : World} {A : Around} {E : Value → Shared → Prop} {s : Shared}

theorem sets_iter {a : Addr} {S : Str → Bool} {n : Nat} {R : Value → Shared → Prop} {led : Bool} (hh : A.handled = none) (hS : SetS prog w s.heap a S n led) (hle : n = 0 ∨ led = ledOf w)
    (q : ∀ I s' ds, Stp0 [] s s' → SetGo prog w A S n a I s s' ds → R (.ref I) s') : wpAny (model prog w) A (pyIter (.ref a)) R E s := by
  obtain ⟨o, es, ep, t, ho, hex, hd, hel, hmem, hb, hf, hn, hled, hpl⟩ := hS.at_
  have hT : s.TypeIs (.ref a) "set" := ⟨o, ho, hex.1⟩
  have hels := elems_str hel
  have hsb : es.size ≤ sizeLine := fits_of_scanBound hb
  refine wpAny_pyIter_slot hT slot_set_iter (wpAny_call_entry slot_set_iter hT entry_set_iter ?_ (args_set_iter _))
  unfold Builtin.«frozenset.__iter__» Builtin.Frozenset.slot0 slotArgs
  simp only [List.isEmpty_nil, Bool.not_true, Bool.false_eq_true, ↓reduceIte, bind_assoc, List.length_nil, bne_self_eq_false]
  unfold Builtin.Frozenset.addrOf Builtin.Frozenset.sizeOf
  refine wpAny_bind (wpAny_pure ?_)
  dsimp only
  refine wpAny_bind (wpAny_pure ?_)
  refine wpAny_bind (wpAny_bind (wpAny_setEntries_at ho hd hf (wpAny_pure ?_)))
  unfold setDrawn setsByText
  refine wpAny_bind (wpAny_bind (wpAny_setState_of ho hd hf ?_))
  dsimp only
  refine wpAny_bind (wpAny_bind (wpAny_askSetting (wpAny_pure (wpAny_pure ?_))))
  have epoch : ∀ {A : Around} {E : Value → Shared → Prop} {Q : Nat → Shared → Prop} {s' : Shared}, s'.heap.get? a = some o → Q ep s' → wpAny (model prog w) A (setEpoch a) Q E s' := fun h q => wpAny_setEpoch_of h hd hf q
  have fresh1 : s.heap.objs.size ≠ a := fun e => by rw [← e, fresh_none] at ho; cases ho
  show wpAny _ _ (if (!w.params.followText "set-order" && (!t.plain && decide (es.size > 1))) = true then _ else _) _ _ s
  by_cases hdr : (!w.params.followText "set-order" && (!t.plain && decide (es.size > 1))) = true
  · rw [if_pos hdr]
    refine wpAny_bind (draw_order es.size (List.range es.size) (by simp) fun places s1 hp h1 h2 h3 => ?_)
    have hin : ∀ p ∈ places, p < es.size := fun p hm => List.mem_range.mp (hp.mem_iff.mp hm)
    have ho1 : s1.heap.get? a = some o := by rw [h1]; exact ho
    refine wpAny_bind (wpAny_newObj_type ?_ (by show (places.map _).toArray.size ≤ _; rw [List.size_toArray, List.length_map, hp.length_eq, List.length_range]; exact hsb))
    generalize hG : s1.heap.push { cls := .type "tuple", data := .seq (places.map fun (i : Nat) => rawInt i).toArray } = G
    have kG : Ext s1.heap G := by rw [← hG]; exact fun _ _ e => Heap.get?_push_of_some _ e
    have htp : G.get? s1.heap.objs.size = some { cls := .type "tuple", data := .seq (places.map fun (i : Nat) => rawInt i).toArray } := by rw [← hG]; exact Heap.get?_push_size _ rfl
    refine wpAny_bind (epoch (s' := { s1 with heap := G }) (kG _ _ ho1) ?_)
    refine wpAny_bind (wpAny_newObj_type ?_)
    have hit : IsSetIter (G.push { cls := .type "set_iterator", data := .fields #[.ref s1.heap.objs.size, rawInt 0, .ref a, rawInt es.size, rawInt ep] }) G.objs.size (.ref s1.heap.objs.size) 0 a es.size ep := Heap.get?_push_size _ rfl
    refine wpAny_pure ⟨_, rfl, "set_iterator", _, ⟨_, hit, rfl⟩, slot_setiter_next.lookup, ?_⟩
    have kS : Ext s.heap (G.push { cls := .type "set_iterator", data := .fields #[.ref s1.heap.objs.size, rawInt 0, .ref a, rawInt es.size, rawInt ep] }) := fun b o e => Heap.get?_push_of_some _ (kG b o (by rw [h1]; exact e))
    have tpn : s.heap.get? s1.heap.objs.size = none := by rw [← h1]; exact fresh_none _
    have tpI : s1.heap.objs.size ≠ G.objs.size := by rw [← hG, Heap.size_push]; exact Nat.ne_of_lt (Nat.lt_succ_self _)
    have hperm : ((places.map fun p => es.getD p (0, .none))).Perm es.toList := by
      refine (hp.map _).trans ?_
      have : (List.range es.size).map (fun p => es.getD p (0, .none)) = es.toList := by
        apply List.ext_getElem
        · simp
        · intro i h1 h2
          simp at h1 h2
          simp [Array.getD, h1]
      rw [this]
    refine q _ _ (places.map fun p => entStr (es.getD p (0, .none))) ⟨h2, h3, fun b o _ e => kS b o e⟩ ⟨?_, ?_, ?_, ⟨_, hit⟩, fun V hI ha hV => ⟨_, wk_drawn (tp := s1.heap.objs.size) hh hI ha (fun hm => ?_) hd hf hels rfl hin, hit, Heap.get?_push_of_some _ (kG _ _ ho1), Heap.get?_push_of_some _ htp⟩⟩
    · have := perm_texts hel hmem hperm
      rwa [List.map_map] at this
    · rw [List.length_map, hp.length_eq, List.length_range, hn]
    · exact none_of_ext (fun b o e => kG b o (by rw [h1]; exact e)) (fresh_none _)
    · rcases hV _ hm tpI with h | h
      · rw [Heap.get?_push_of_some _ htp] at h; cases h
      · exact h tpn
  · rw [if_neg hdr]
    refine wpAny_bind (wpAny_pure ?_)
    refine wpAny_bind (epoch ho ?_)
    refine wpAny_bind (wpAny_newObj_type ?_)
    have hit : IsSetIter (s.heap.push { cls := .type "set_iterator", data := .fields #[rawInt 0, rawInt 0, .ref a, rawInt es.size, rawInt ep] }) s.heap.objs.size (rawInt 0) 0 a es.size ep := Heap.get?_push_size _ rfl
    refine wpAny_pure ⟨_, rfl, "set_iterator", _, ⟨_, hit, rfl⟩, slot_setiter_next.lookup, ?_⟩
    cases hbt : w.params.followText "set-order" with
    | true =>
      have hp := pick_perm (w.params.setOrder a ep) es
      refine q _ _ ((pickOrder (w.params.setOrder a ep) es).toList.map entStr) (.push _ _) ⟨perm_texts hel hmem hp, ?_, fresh_none _, ⟨_, hit⟩, fun V hI ha _ => ⟨_, wk_set (fun _ => 0) hh hI ha hd hf (fun e he => hels e (hp.mem_iff.mp he)) (fun i s' hs' A E Q _ q' => ?_), hit, Heap.get?_push_of_some _ ho⟩⟩
      · rw [List.length_map, hp.length_eq, Array.length_toList, hn]
      · exact next_text hbt hs' hd hf i 0 A E Q (by simpa using q')
    | false =>
      have hs1 : es.size ≤ 1 := by
        rcases Nat.lt_or_ge 1 es.size with h | h
        · exact absurd (by rw [hbt, hpl (by omega), decide_eq_true h]; rfl) hdr
        · exact h
      have hl : es.size = 0 ∨ t.led = true := hle.imp (fun h => hn.trans h) fun h => by rw [hled, h]; simp [ledOf, hbt]
      have hps : t.place.size = es.size := by
        simp only [SetTable.fits, Bool.and_eq_true, beq_iff_eq] at hf
        exact hf.1
      refine q _ _ (es.toList.map entStr) (.push _ _) ⟨perm_texts hel hmem (.refl _), ?_, fresh_none _, ⟨_, hit⟩, fun V hI ha _ => ⟨_, wk_set (fun i => if i = 0 then 0 else t.place.getD 0 0 + 1) hh hI ha hd hf hels (fun i s' hs' A E Q hi q' => ?_), hit, Heap.get?_push_of_some _ ho⟩⟩
      · rw [List.length_map, Array.length_toList, hn]
      · refine next_one hbt hs' hd hf hs1 hl i _ A E Q ?_
        rw [Array.length_toList] at hi
        have hib : SetTable.below t.place (if i = 0 then 0 else t.place.getD 0 0 + 1) = i := by
          cases i with
          | zero => exact below_zero _ (by omega)
          | succ i =>
            have h1 : t.place.size = 1 := by omega
            have h0 : i = 0 := by omega
            subst h0
            obtain ⟨j, hj⟩ : ∃ j, t.place = #[j] := ⟨t.place[0], by apply Array.ext <;> simp [h1]; intro i hi; have : i = 0 := by omega
                                                                    subst this; rfl⟩
            rw [hj]; exact below_succ j
        rw [hib]
        cases he : es[i]? with
        | none => simpa [he] using q'
        | some e =>
          have hlt : i < es.size := (Array.getElem?_eq_some_iff.mp he).1
          have h0 : i = 0 := by omega
          subst h0
          have hpj : t.place[0]? = some (t.place.getD 0 0) := by simp [Array.getD, show 0 < t.place.size by omega]
          rw [hpj]
          simpa [he] using q'
end
end Mine
end

section
open PySem PySem.Calls PySem.W PyProof.Rows
set_option Elab.async false
set_option maxRecDepth 100000
namespace Mine
section
variable {prog : Program} {w : World} {h₀ : Heap} {n : Nat} {env : Env} {V : List Addr} {ρ : List (Str × D)} {B : List (List Addr × Shared)} {O : List (Addr × Ow)}

/-- an expression that is gone through in some order -/
noncomputable def ITx (prog : Program) (w : World) (h₀ : Heap) (n : Nat) (env : Env) (V : List Addr) (ρ : List (Str × D)) (P : Shared → Prop) (e : Expr) (Good : List D → Prop) : Prop :=
  ∀ (A : Around) (s : Shared) (E : Value → Shared → Prop) (R : Value → Shared → Prop), AOk n A → In0 h₀ V s → Fm env V ρ s.heap → P s →
    (∀ ds I s', Good ds → Stp [] s s' → s.heap.get? I = none → (∃ o, s'.heap.get? I = some o) → (∀ U, (∀ a ∈ U, s'.heap.get? a = none) → ∃ St, Wk prog w A (U ++ I :: V) I ds St ∧ St 0 s'.heap) → R (.ref I) s') →
    wpAny (model prog w) A (eval e env) (fun x s₁ => wpAny (model prog w) A (pyIter x) R E s₁) E s

/-- a for over data, by an invariant over what was taken -/
theorem ex_forx {target iter : Expr} {body rest : List Stmt} {pos : Pos} {Good : List D → Prop} {A : Around} {s : Shared} {E : Value → Shared → Prop} {Q : Flow → Shared → Prop} (hA : AOk n A) (hB : In0 h₀ V s) (F : Fm env V ρ s.heap)
    {P : Shared → Prop} (hp : P s) (hit : ITx prog w h₀ n env V ρ P iter Good) (Inv : Addr → List D → Shared → Prop)
    (hInv : ∀ I pre s₁ s₂, Inv I pre s₁ → Stp0 [I] s₁ s₂ → (∃ o, s₂.heap.get? I = some o) → Inv I pre s₂)
    (start : ∀ I s', Stp [] s s' → s.heap.get? I = Option.none → (∃ o, s'.heap.get? I = some o) → In0 h₀ (I :: V) s' → Inv I [] s')
    (turn : ∀ ds, Good ds → ∀ I pre d post s₁ v (E' : Value → Shared → Prop), ds = pre ++ d :: post → s.heap.get? I = Option.none → I ∉ V → Inv I pre s₁ → Rep (I :: V) s₁.heap v d → In0 h₀ (I :: V) s₁ →
      wpAny (model prog w) A (assign target env v) (fun _ s₂ => wpAny (model prog w) A (execs body env) (fun f s₃ => match f with
        | .next | .cont => Stp0 V s₁ s₃ ∧ Inv I (pre ++ [d]) s₃
        | .brk => wpAny (model prog w) A (execs rest env) Q E s₃
        | .ret u => Q (.ret u) s₃) E' s₂) E' s₁)
    (fin : ∀ ds, Good ds → ∀ I s₁ s₂, s.heap.get? I = Option.none → I ∉ V → Inv I ds s₁ → Stp [I] s₁ s₂ → In0 h₀ (I :: V) s₁ → In0 h₀ V s₂ → wpAny (model prog w) A (execs rest env) Q E s₂)
    (hfs : autoParam (∀ x, foldedSetIterable iter env x = pure x) tacIntroRfl) : wpAny (model prog w) A (execs (.For target iter body [] pos :: rest) env) Q E s := by
  refine ex_cons (wpAny_For ?_ hfs)
  refine hit A s E _ hA hB F hp fun ds I s₁ hg e₁ hI hIl hW => ?_
  obtain ⟨St, W, st⟩ := hW [] (fun a ha => absurd ha List.not_mem_nil)
  simp only [List.nil_append] at W
  have hIV : I ∉ V := fun hm => by obtain ⟨o, ho⟩ := F.old I hm; rw [hI] at ho; cases ho
  have hn : ∀ a ∈ I :: V, h₀.get? a = Option.none := fun a ha => (List.mem_cons.mp ha).elim (fun e => by rw [e]; exact none_of_ext hB.ext hI) (hB.new a)
  have hB₁ : In0 h₀ (I :: V) s₁ := ⟨fun b o e => e₁.keep b o (hB.ext b o e), Nat.le_trans hB.toks e₁.toks, hn⟩
  have inI : ∀ a ∈ [I], a ∈ I :: V := fun a ha => by rw [List.mem_singleton.mp ha]; exact .head _
  refine for_any (J := fun m s' => ∃ i, m = ds.length + 1 - i ∧ i ≤ ds.length ∧ St i s'.heap ∧ Inv I (ds.take i) s' ∧ In0 h₀ (I :: V) s') ?_ (ds.length + 1)
    ⟨0, rfl, Nat.zero_le _, st, start I s₁ e₁ hI hIl hB₁, hB₁⟩
  rintro m s₂ E' ⟨i, rfl, hi, st₂, inv₂, hB₂⟩
  cases hd : ds[i]? with
  | none =>
    have hin : i = ds.length := by have := List.getElem?_eq_none_iff.mp hd; omega
    subst hin
    rw [List.take_length] at inv₂
    refine wpAny_with_toks (Nat.le_refl s₂.toks) (W.done s₂ _ _ st₂ fun s₃ e23 ht => ?_)
    have ext : ExtB (I :: V) s₂.heap s₃.heap := fun b o hb e => e23.ext b o (fun hm => hb (inI b hm)) e
    have hB₃ := hB₂.write ext (Nat.le_trans hB₂.toks ht)
    exact fin ds hg I s₂ s₃ hI hIV inv₂ ⟨e23, ht⟩ hB₂ ⟨hB₃.ext, hB₃.toks, hB.new⟩
  | some d =>
    have hlt : i < ds.length := (List.getElem?_eq_some_iff.mp hd).1
    have hsplit : ds = ds.take i ++ d :: ds.drop (i + 1) := by
      have h1 := List.take_append_drop i ds
      have h2 : ds.drop i = d :: ds.drop (i + 1) := by
        rw [List.drop_eq_getElem_cons hlt]
        congr 1
        exact (List.getElem?_eq_some_iff.mp hd).2
      rw [h2] at h1; exact h1.symm
    refine wpAny_with_toks hB₂.toks (W.item i s₂ _ _ d hd st₂ fun v s₃ rv st₃ e23 ht₃ => ?_)
    have ext : ExtB (I :: V) s₂.heap s₃.heap := fun b o hb e => e23.ext b o (fun hm => hb (inI b hm)) e
    have hB₃ := hB₂.write ext ht₃
    have aliveI : ∃ o, s₃.heap.get? I = some o := let ⟨o, _, ho, _⟩ := W.cls _ _ st₃; ⟨o, ho⟩
    refine own_tuple_go W st₃ ?_
    refine wpAny_with_toks hB₃.toks (wpAny_mono (turn ds hg I _ d _ s₃ v _ hsplit hI hIV (hInv _ _ _ _ inv₂ e23 aliveI) rv hB₃) (fun _ s₄ h₄ ht₄ => wpAny_with_toks ht₄ (wpAny_mono h₄ (fun f s₅ h₅ ht₅ => ?_) fun _ _ x => x)) fun _ _ x => x)
    have key : Stp0 V s₃ s₅ ∧ Inv I (ds.take i ++ [d]) s₅ → ∃ m', m' < ds.length + 1 - i ∧ ∃ i, m' = ds.length + 1 - i ∧ i ≤ ds.length ∧ St i s₅.heap ∧ Inv I (ds.take i) s₅ ∧ In0 h₀ (I :: V) s₅ := fun ⟨e35, inv₅⟩ => by
      have ext' : ExtB (I :: V) s₃.heap s₅.heap := fun b o hb e => e35.ext b o (fun hm => hb (.tail _ hm)) e
      refine ⟨ds.length + 1 - (i + 1), by omega, i + 1, rfl, hlt, W.frame _ _ _ st₃ ext' fun o e => e35.ext I o hIV e, ?_, hB₃.write ext' ht₅⟩
      rw [take_snoc hd]; exact inv₅
    cases f with
    | next => exact key h₅
    | cont => exact key h₅
    | brk => exact h₅
    | ret u => exact h₅

/-- a for over data -/
theorem bo_forx {target iter : Expr} {body rest : List Stmt} {pos : Pos} {Good : List D → Prop} {bd : D → List (Str × D)} {okD : D → Prop} {Wt : List Addr} {A : Around} {s : Shared} {E : Value → Shared → Prop} {Q : Flow → Shared → Prop} (hA : AOk n A) (b : Bo h₀ B env V ρ O s)
    {P : Shared → Prop} (hp : P s) (hit : ITx prog w h₀ n env V ρ P iter Good) (hT : TA prog w n env target bd okD Wt) (hokD : ∀ ds, Good ds → ∀ d ∈ ds, okD d) (hWt : ∀ a ∈ Wt, Own env a)
    (ρf : List D → List (Str × D)) (Of : List D → List (Addr × Ow)) (h0 : ∀ x d, (ρf []).lookup x = some d → ρ.lookup x = some d) (hO : Of [] = O) (hOV : ∀ pre p, p ∈ Of pre → p.1 ∈ V)
    (turn : ∀ ds, Good ds → ∀ I pre d post s₁ (E' : Value → Shared → Prop), ds = pre ++ d :: post → I ∉ V → Bo h₀ ((V, s₁) :: B) env (I :: V) (bd d ++ ρf pre) (Of pre) s₁ →
      wpAny (model prog w) A (execs body env) (fun f s₃ => match f with
        | .next | .cont => Bo h₀ ((V, s₁) :: B) env (I :: V) (ρf (pre ++ [d])) (Of (pre ++ [d])) s₃
        | .brk => wpAny (model prog w) A (execs rest env) Q E s₃
        | .ret u => Q (.ret u) s₃) E' s₁)
    (fin : ∀ ds, Good ds → ∀ s₂, Bo h₀ B env V (ρf ds) (Of ds) s₂ → wpAny (model prog w) A (execs rest env) Q E s₂)
    (hfs : autoParam (∀ x, foldedSetIterable iter env x = pure x) tacIntroRfl) : wpAny (model prog w) A (execs (.For target iter body [] pos :: rest) env) Q E s := by
  have newB : ∀ I, s.heap.get? I = Option.none → ∀ p ∈ B, p.2.heap.get? I = Option.none := fun I hI p hp => by
    cases e : p.2.heap.get? I with
    | none => rfl
    | some o => rw [(b.keep p hp).ext _ o (fun hm => by obtain ⟨o, ho⟩ := b.fm.old I (b.wv p hp _ hm); rw [hI] at ho; cases ho) e] at hI; cases hI
  have nV : ∀ I, s.heap.get? I = Option.none → I ∉ V := fun I hI hm => by obtain ⟨o, ho⟩ := b.fm.old I hm; rw [hI] at ho; cases ho
  have nOwn : ∀ I, s.heap.get? I = Option.none → ¬ Own env I := fun I hI h => nV I hI (b.ownV h)
  have nO : ∀ I, s.heap.get? I = Option.none → ∀ pre, ∀ p ∈ Of pre, p.1 ≠ I := fun I hI pre p hp e => nV I hI (e ▸ hOV pre p hp)
  refine ex_forx hA b.in0 b.fm hp hit (fun I pre s' => s.heap.get? I = Option.none ∧ ∀ tk, 1 ≤ tk → Bo h₀ B env (I :: V) (ρf pre) (Of pre) { s' with toks := tk }) (fun I pre s₁ s₂ b₁ e live => ?_) (fun I s' e hI hIl hin => ?_) (fun ds hg I pre d post s₁ v E' hds hI hIV b₁ r₁ hin => ?_) (fun ds hg I s₁ s₂ hI hIV b₁ e hin1 hin2 => ?_) hfs
  · refine ⟨b₁.1, fun tk ht => (b₁.2 tk ht).write (s' := { s₂ with toks := tk }) ⟨e.gens, e.os, e.ext⟩ ht (.head _) (fun p hp => .inr (newB I b₁.1 p hp)) (nOwn I b₁.1) (nO I b₁.1 pre) live⟩
  · refine ⟨hI, fun tk ht => ?_⟩
    have := b.grow e hI hIl
    rw [hO]
    exact (this.names h0).toks ht
  · have hb₁ : Bo h₀ B env (I :: V) (ρf pre) (Of pre) s₁ := b₁.2 s₁.toks hin.toks
    have hmem : d ∈ ds := by rw [hds]; simp
    refine wpAny_with_toks (Nat.le_refl s₁.toks) (hT A s₁ _ _ (I :: V) (ρf pre) v d (hokD ds hg d hmem) hA hb₁.fm r₁ fun s₂ e₂ F₂ k₂ ht => ?_)
    have ht2 : 1 ≤ s₂.toks := Nat.le_trans hin.toks ht
    have WtV : ∀ a ∈ Wt, a ∈ V := fun a ha => b.ownV (hWt a ha)
    have e12 : Stp0 V s₁ s₂ := ⟨e₂.gens, e₂.os, fun a o ha ho => k₂ a o (fun hm => ha (WtV a hm)) ho⟩
    have b₂ : Bo h₀ B env (I :: V) (bd d ++ ρf pre) (Of pre) s₂ := by
      refine ⟨F₂, hb₁.in0.write e₂.ext ht2, fun p hp => ⟨e₂.gens.trans (hb₁.keep p hp).gens, e₂.os.trans (hb₁.keep p hp).os, fun a o ha ho => k₂ a o (fun hm => ?_) ((hb₁.keep p hp).ext a o ha ho)⟩, hb₁.newO, fun p hp => ?_, hb₁.onew, hb₁.odis, hb₁.wv⟩
      · rcases b.newO p hp a (hWt a hm) with h | h
        · exact ha h
        · rw [h] at ho; cases ho
      · exact p.2.ext (W := Wt) (hb₁.own p hp) (fun c o hc ho => k₂ c o hc ho) (fun c hc => .tail _ (WtV c hc)) (fun hm => (hb₁.onew p hp).2.1 (hWt _ hm))
    refine wpAny_mono (turn ds hg I pre d post s₂ E' hds hIV (b₂.base (fun a ha => .tail _ ha) (fun a ha => b.ownV ha) (hOV pre))) (fun f s₃ h₃ => ?_) fun _ _ x => x
    have key : Bo h₀ ((V, s₂) :: B) env (I :: V) (ρf (pre ++ [d])) (Of (pre ++ [d])) s₃ → Stp0 V s₁ s₃ ∧ (s.heap.get? I = Option.none ∧ ∀ tk, 1 ≤ tk → Bo h₀ B env (I :: V) (ρf (pre ++ [d])) (Of (pre ++ [d])) { s₃ with toks := tk }) := fun b₃ => by
      have e23 := b₃.keep _ (.head _)
      exact ⟨⟨e23.gens.trans e12.gens, e23.os.trans e12.os, fun a o ha ho => e23.ext a o ha (e12.ext a o ha ho)⟩, hI, fun tk ht => b₃.unbase.toks ht⟩
    cases f with
    | next => exact key h₃
    | cont => exact key h₃
    | brk => exact h₃
    | ret u => exact h₃
  · have hb₁ : Bo h₀ B env (I :: V) (ρf ds) (Of ds) s₁ := b₁.2 s₁.toks hin1.toks
    have hown : ∀ a, Own env a → a ∈ V := fun a ha => b.ownV ha
    have fm2 : Fm env V (ρf ds) s₂.heap := Fm.drop (W := [I]) hb₁.fm e.ext (fun a ha hm => hIV (by rw [← List.mem_singleton.mp hm]; exact ha)) (hown _ (.inl rfl)) (fun y c h => hown c (.inr ⟨y, h⟩))
    refine fin ds hg s₂ ⟨fm2, hin2, fun p hp => ⟨e.gens.trans (hb₁.keep p hp).gens, e.os.trans (hb₁.keep p hp).os, fun a o ha ho => e.ext a o (fun hm => ?_) ((hb₁.keep p hp).ext a o ha ho)⟩, hb₁.newO, fun p hp => ?_, fun p hp => ⟨hOV _ p hp, (hb₁.onew p hp).2⟩, hb₁.odis, b.wv⟩
    · rw [List.mem_singleton.mp hm, newB I hI p hp] at ho; cases ho
    · have := p.2.ext (hb₁.own p hp) e.ext (fun a ha => by rw [List.mem_singleton.mp ha]; exact .head _) (fun hm => nO I hI ds p hp (List.mem_singleton.mp hm))
      exact p.2.shun this fun c _ hc _ hm => hc (.tail _ hm)
end
end Mine
end

section
open PySem PySem.Calls PySem.W PyProof.Rows
set_option Elab.async false
set_option maxRecDepth 100000
namespace Mine

/-- an owned thing and a fact beside it -/
noncomputable def Ow.also (o : Ow) (φ : Prop) : Ow where
  P := fun V h a => o.P V h a ∧ φ
  ext := fun x e hW ha => ⟨o.ext x.1 e hW ha, x.2⟩
  shun := fun x hs => ⟨o.shun x.1 hs, x.2⟩

/-- where a reader lies: itself, its dict, its set, its list, its memo -/
structure RdA where
  x : Addr
  dx : Addr
  sa : Addr
  da : Addr
  g : Addr
noncomputable def RdA.fp (r : RdA) : List Addr := [r.x, r.dx, r.sa, r.da]
noncomputable def rdEnts (p : Params) (t1 t2 t3 : Tok) (r : RdA) : List DictEntry := [ent p "_mods" t1 (.ref r.sa), ent p "_dirs" t2 (.ref r.da), ent p "_ignore" t3 (.ref r.g)]
/-- a place of the memo -/
noncomputable def IntV (o : Option Int) (v : Option Value) : Prop := match o with | none => v = none | some i => ∃ t, v = some (.int i t)

structure Rdr (prog : Program) (w : World) (C : Addr) (h : Heap) (r : RdA) (M dirs : List Str) (μ : Str → Option Int) (k : Nat) : Prop where
  ins : ∃ t1 t2 t3, InsD h r.x r.dx C (rdEnts w.params t1 t2 t3 r)
  set : ∃ j led, SetS prog w h r.sa (fun y => M.contains y) j led ∧ (j = 0 ∨ led = ledOf w) ∧ j ≤ M.length
  dirs : ∃ vs : Array Value, h.PlainList r.da vs ∧ StrsAre vs.toList dirs
  memo : ∃ kvs : List (Str × Value), h.DictOf (strKind prog w) r.g kvs ∧ kvs.length ≤ k ∧ ∀ y, IntV (μ y) (valueAt kvs y)
  gs : (r.g == sysModules) = false
  ne : r.g ∉ r.fp

section
variable {prog : Program} {w : World} {C : Addr} {h h' : Heap} {r : RdA} {M dirs : List Str} {μ : Str → Option Int} {k : Nat}

theorem InsD.ext {x dx C : Addr} {es : List DictEntry} (I : InsD h x dx C es) (e1 : ∀ o, h.get? x = some o → h'.get? x = some o) (e2 : ∀ o, h.get? dx = some o → h'.get? dx = some o) : InsD h' x dx C es :=
  ⟨e1 _ I.ins, let ⟨n, hn⟩ := I.dict; ⟨n, e2 _ hn⟩⟩
theorem Rdr.ext (x : Rdr prog w C h r M dirs μ k) (e : ∀ a ∈ r.g :: r.fp, ∀ o, h.get? a = some o → h'.get? a = some o) : Rdr prog w C h' r M dirs μ k where
  ins := let ⟨t1, t2, t3, I⟩ := x.ins; ⟨t1, t2, t3, I.ext (e _ (by simp [RdA.fp])) (e _ (by simp [RdA.fp]))⟩
  set := let ⟨j, led, S, hl⟩ := x.set; ⟨j, led, S.ext (e _ (by simp [RdA.fp])), hl⟩
  dirs := let ⟨vs, hl, hs⟩ := x.dirs; ⟨vs, hl.at (e _ (by simp [RdA.fp])), hs⟩
  memo := let ⟨kvs, hd, hr⟩ := x.memo; ⟨kvs, hd.at (e _ (by simp)), hr⟩
  gs := x.gs
  ne := x.ne
theorem Rdr.live (x : Rdr prog w C h r M dirs μ k) : ∀ a ∈ r.g :: r.fp, ∃ o, h.get? a = some o := by
  obtain ⟨_, _, _, I⟩ := x.ins
  obtain ⟨n, hn⟩ := I.dict
  obtain ⟨_, _, S, _⟩ := x.set
  obtain ⟨o, _, _, _, hs, _⟩ := S.at_
  obtain ⟨vs, ⟨q, hq⟩, _⟩ := x.dirs
  obtain ⟨kvs, hd, _⟩ := x.memo
  obtain ⟨og, _, _, hg, _⟩ := hd
  intro a ha
  simp only [RdA.fp, List.mem_cons, List.not_mem_nil, or_false] at ha
  rcases ha with rfl | rfl | rfl | rfl | rfl
  · exact ⟨_, hg⟩
  · exact ⟨_, I.ins⟩
  · exact ⟨_, hn⟩
  · exact ⟨_, hs⟩
  · exact ⟨_, hq⟩
theorem Rdr.more {k' : Nat} (x : Rdr prog w C h r M dirs μ k) (hk : k ≤ k') : Rdr prog w C h r M dirs μ k' := { x with memo := let ⟨kvs, hd, hl, hr⟩ := x.memo; ⟨kvs, hd, Nat.le_trans hl hk, hr⟩ }

/-- a reader as an owned thing -/
noncomputable def orr (prog : Program) (w : World) (C : Addr) (r : RdA) (M dirs : List Str) (μ : Str → Option Int) (k : Nat) : Ow where
  P := fun V h a => a = r.g ∧ (∀ b ∈ r.fp, b ∉ V) ∧ Rdr prog w C h r M dirs μ k
  ext := fun {V W h h' a} x e hW ha => ⟨x.1, x.2.1, x.2.2.ext fun b hb o ho => by
    rcases List.mem_cons.mp hb with rfl | hb
    · exact e _ o (x.1 ▸ ha) ho
    · exact e b o (fun hm => x.2.1 b hb (hW b hm)) ho⟩
  shun := fun {V V' h a} x hs => ⟨x.1, fun b hb => let ⟨o, ho⟩ := x.2.2.live b (.tail _ hb); hs b o (x.2.1 b hb) ho, x.2.2⟩

/-- what names says -/
noncomputable def hitM (M : List Str) (m : Str) : Bool := M.contains m || M.any fun y => Txt.startswith m (y ++ Str.ofString ".")
noncomputable def hitD (dirs : List Str) (f : Str) : Bool := dirs.any fun d => Txt.startswith f (d ++ Str.ofString "/")
noncomputable def askNew (M dirs : List Str) (file : Option Str) (m : Str) : Int := if hitM M m then 1 else match file with | none => 1 | some f => if hitD dirs f then 1 else 0
noncomputable def askF (M dirs : List Str) (μ : Str → Option Int) (file : Option Str) (m : Str) : Int := (μ m).getD (askNew M dirs file m)
noncomputable def upd (μ : Str → Option Int) (m : Str) (i : Int) : Str → Option Int := fun y => if y = m then some i else μ y
noncomputable def fileD : Option Str → D
  | none => .none
  | some f => .str f

theorem valueAt_map {K : Type} [DecidableEq K] {m : K} {v : Value} : ∀ (kvs : List (K × Value)) (y : K), valueAt (kvs.map fun kv => if kv.1 = m then (kv.1, v) else kv) y = if y = m then (valueAt kvs y).map (fun _ => v) else valueAt kvs y
  | [], y => by simp [valueAt]
  | (a, u) :: l, y => by
    have ih := valueAt_map (m := m) (v := v) l y
    unfold valueAt at ih ⊢
    rw [List.map_cons]
    by_cases ha : a = m
    · subst ha
      rw [if_pos rfl]
      by_cases hy : y = a
      · subst hy; simp
      · have hay : ¬ a = y := fun e => hy e.symm
        rw [if_neg hy] at ih ⊢
        rw [List.find?_cons_of_neg (by simpa using hay), List.find?_cons_of_neg (by simpa using hay)]
        exact ih
    · rw [if_neg ha]
      by_cases hy : a = y
      · subst hy
        rw [if_neg ha]; simp
      · rw [List.find?_cons_of_neg (by simpa using hy), List.find?_cons_of_neg (by simpa using hy)]
        exact ih
theorem valueAt_stored {K : Type} [DecidableEq K] {m : K} {v : Value} (kvs : List (K × Value)) (y : K) : valueAt (stored kvs m v) y = if y = m then some v else valueAt kvs y := by
  unfold stored
  split
  · rename_i h
    rw [valueAt_map]
    split
    · rename_i e
      subst e
      obtain ⟨p, hp, hp'⟩ := List.any_eq_true.mp h
      have : (valueAt kvs y).isSome = true := by
        unfold valueAt
        rw [Option.isSome_map, List.find?_isSome]
        exact ⟨p, hp, hp'⟩
      obtain ⟨u, hu⟩ := Option.isSome_iff_exists.mp this
      rw [hu]; rfl
    · rfl
  · rename_i h
    unfold valueAt
    rw [List.find?_append]
    by_cases e : y = m
    · subst e
      have : kvs.find? (fun kv => kv.1 = y) = none := by
        rw [List.find?_eq_none]
        intro p hp hp'
        exact h (List.any_eq_true.mpr ⟨p, hp, hp'⟩)
      rw [this]; simp
    · have e' : ¬ m = y := fun q => e q.symm
      rw [if_neg e]
      simp [e']
theorem intV_stored {kvs : List (Str × Value)} {m : Str} {i : Int} {t : Tok} (hv : ∀ y, IntV (μ y) (valueAt kvs y)) : ∀ y, IntV (upd μ m i y) (valueAt (stored kvs m (.int i t)) y) := by
  intro y
  rw [valueAt_stored]
  unfold upd
  by_cases e : y = m
  · rw [if_pos e, if_pos e]; exact ⟨t, rfl⟩
  · rw [if_neg e, if_neg e]; exact hv y
theorem upd_same {m : Str} {i : Int} (hm : μ m = some i) : upd μ m i = μ := by
  funext y
  unfold upd
  by_cases e : y = m
  · rw [if_pos e, e, hm]
  · rw [if_neg e]
end

section
variable {prog : Program} {w : World} {h₀ : Heap} {n : Nat} {env : Env} {V : List Addr} {ρ : List (Str × D)} {B : List (List Addr × Shared)} {O : List (Addr × Ow)} {KK : Frag} {C fI fN : Addr}

/-- a body's start, with what it may write -/
theorem Bd.boW {U : List Addr} {s0 s : Shared} (b : Bd h₀ [] s0 env (U ++ V) ρ s) (hU : ∀ a ∈ U, s0.heap.get? a = none) (O : List (Addr × Ow)) (hO : ∀ p ∈ O, p.2.P V s0.heap p.1) (hV : ∀ p ∈ O, p.1 ∈ V) (hold : Old V s0.heap) (hd : (O.map (·.1)).Nodup) :
    Bo h₀ [(O.map (·.1), s0)] env (U ++ V) ρ O s := by
  have live : ∀ p ∈ O, ∃ o, s0.heap.get? p.1 = some o := fun p hp => hold _ (hV p hp)
  refine ⟨b.fm, b.in0, fun p hp => ?_, fun p hp a ha => ?_, fun p hp => ?_, fun q hq => ⟨List.mem_append_right _ (hV q hq), fun h => ?_, fun p hp => ?_⟩, hd, fun p hp a ha => ?_⟩
  · rw [List.mem_singleton.mp hp]; exact ⟨b.gens, b.os, fun a o _ e => b.keep a o List.not_mem_nil e⟩
  · rw [List.mem_singleton.mp hp]; exact .inr (b.newO a ha)
  · refine Ow.stp (p.2.shun (hO p hp) fun c o hc ho hm => ?_) (fun a o e => b.keep a o List.not_mem_nil e)
    rcases List.mem_append.mp hm with hm | hm
    · rw [hU c hm] at ho; cases ho
    · exact hc hm
  · obtain ⟨o, ho⟩ := live q hq
    rw [b.newO _ h] at ho; cases ho
  · rw [List.mem_singleton.mp hp]; exact .inl (List.mem_map_of_mem (f := fun p : Addr × Ow => p.1) hq)
  · rw [List.mem_singleton.mp hp] at ha
    obtain ⟨q, hq, rfl⟩ := List.mem_map.mp ha
    exact List.mem_append_right _ (hV q hq)

/-- an if whose test is shown here -/
theorem bo_ift {test : Expr} {body orelse rest : List Stmt} {pos : Pos} {c : Bool} {A : Around} {s : Shared} {E : Value → Shared → Prop} {Q : Flow → Shared → Prop} (b : Bo h₀ B env V ρ O s)
    (ht : ∀ (E' : Value → Shared → Prop) (Q' : Bool → Shared → Prop), (∀ s', Stp [] s s' → Q' c s') → wpAny (model prog w) A (isTrue test env (eval test env)) Q' E' s)
    (h1 : c = true → ∀ s', Bo h₀ B env V ρ O s' → wpAny (model prog w) A (execs body env) (Behind prog w A env rest Q E) E s')
    (h2 : c = false → ∀ s', Bo h₀ B env V ρ O s' → wpAny (model prog w) A (execs orelse env) (Behind prog w A env rest Q E) E s') :
    wpAny (model prog w) A (execs (.If test body orelse pos :: rest) env) Q E s := by
  refine ex_cons (wpAny_If (ht E _ fun s₁ e₁ => ?_))
  cases c with
  | true => exact h1 rfl s₁ (b.pure e₁)
  | false => exact h2 rfl s₁ (b.pure e₁)

theorem Frag.In.ext {h h' : Heap} (X : KK.In h) (e : Ext h h') : KK.In h' := fun a o x => e a o (X a o x)

/-- self.field -/
theorem ev_fld {x dx : Addr} {es : List DictEntry} {fld sf : Str} {p1 p2 : Pos} {v : Value} {e : DictEntry} {A : Around} {s : Shared} {E : Value → Shared → Prop} {Q : Value → Shared → Prop} (X : KK.In h₀) (ok : ClsOk KK C fI fN) (hx : ρ.lookup sf = some (.obj x)) (hn : fld ∈ fldNames)
    (hA : AOk n A) (hB : In0 h₀ V s) (F : Fm env V ρ s.heap) (I : InsD s.heap x dx C es) (h1 : es.find? (·.key.isStr fld) = some e) (hv : e.val = v) (hh : handedIn v = true) (q : ∀ s', Stp [] s s' → Q v s')
    (hd : autoParam ((sf == ("__debug__" : Str)) = false) tacDecide) (hc : autoParam ((sf == ("__classdict__" : Str)) = false) tacDecide)
    (he : autoParam (eval (.Attribute (.Name sf p1) fld p2) env = (do
      let o ← eval (.Name sf p1) env
      standAt p2.atName
      let r ← holding [o] (getAttr o fld true)
      letTemporaryGo (.Name sf p1) o r
      pure r)) tacUnf) : wpAny (model prog w) A (eval (.Attribute (.Name sf p1) fld p2) env) Q E s := by
  refine Attribute_Name_ (pe_name hx hd hc A s E _ hA hB F fun u s₁ e₁ r₁ => ?_) he
  (first | obtain ⟨_, rfl⟩ := r₁.toInt | obtain ⟨_, rfl⟩ := r₁.toStr | obtain rfl := r₁.toNone | obtain rfl := r₁.toBool | obtain rfl := r₁.toObj | obtain rfl := r₁.toTy | obtain rfl := r₁.toNil | cases r₁)
  refine get_field (Frag.In.ext X (hB.stp e₁).ext) ok (I.ext (fun o ho => e₁.keep _ o ho) (fun o ho => e₁.keep _ o ho)) hn h1 hv hh (q _ (e₁.trans ⟨.toks _ _, by simp⟩))
theorem find_mods {p : Params} {t1 t2 t3 : Tok} {r : RdA} : (rdEnts p t1 t2 t3 r).find? (·.key.isStr "_mods") = some (ent p "_mods" t1 (.ref r.sa)) := rfl
theorem find_dirs {p : Params} {t1 t2 t3 : Tok} {r : RdA} : (rdEnts p t1 t2 t3 r).find? (·.key.isStr "_dirs") = some (ent p "_dirs" t2 (.ref r.da)) := rfl
theorem find_memo {p : Params} {t1 t2 t3 : Tok} {r : RdA} : (rdEnts p t1 t2 t3 r).find? (·.key.isStr "_ignore") = some (ent p "_ignore" t3 (.ref r.g)) := rfl
end
end Mine
end

section
open PySem PySem.Calls PySem.W PyProof.Rows
set_option Elab.async false
set_option maxRecDepth 100000
namespace Mine

noncomputable def classBody : Option Stmt → List Stmt
  | some (.ClassDef _ _ _ body _ _ _ _ _ _ _) => body
  | _ => []

section
variable {prog : Program} {w : World} {h₀ : Heap} {n : Nat} {env : Env} {V : List Addr} {ρ : List (Str × D)} {B : List (List Addr × Shared)} {O : List (Addr × Ow)} {KK : Frag} {C fI fN : Addr}
  {r : RdA} {M dirs : List Str} {μ : Str → Option Int} {k : Nat}

theorem handed_ref {a : Addr} : handedIn (.ref a) = true := rfl

/-- self._ignore[modulename] = i; return i -/
theorem bo_mark {sf mn : Str} {i j : Int} {p1 p2 p3 p4 p5 p6 pos pos2 : Pos} {k1 k2 : Nat} {m : Str} {rest : List Stmt} {A : Around} {s : Shared} {E : Value → Shared → Prop} {Q : Flow → Shared → Prop} (X : KK.In h₀) (ok : ClsOk KK C fI fN) (hA : AOk n A) (hB : In0 h₀ V s) (F : Fm env V ρ s.heap)
    (R : Rdr prog w C s.heap r M dirs μ k) (hs : ρ.lookup sf = some (.obj r.x)) (hm : ρ.lookup mn = some (.str m)) (hk : k ≤ sizeLine)
    (q : ∀ t s', Stp0 [r.g] s s' → Rdr prog w C s'.heap r M dirs (upd μ m i) (k + 1) → Q (.ret (.int j t)) s')
    (hd : autoParam ((sf == ("__debug__" : Str)) = false) tacDecide) (hc : autoParam ((sf == ("__classdict__" : Str)) = false) tacDecide) (hd' : autoParam ((mn == ("__debug__" : Str)) = false) tacDecide) (hc' : autoParam ((mn == ("__classdict__" : Str)) = false) tacDecide)
    (he : autoParam (eval (.Attribute (.Name sf p1) "_ignore" p2) env = (do
      let o ← eval (.Name sf p1) env
      standAt p2.atName
      let r ← holding [o] (getAttr o "_ignore" true)
      letTemporaryGo (.Name sf p1) o r
      pure r)) tacUnf)
    (hsw : autoParam (swapsWith (.Constant (.int i) k1 p5) (some (.Subscript (.Attribute (.Name sf p1) "_ignore" p2) (.Name mn p3) p4)) pos.line env = pure false) tacRfl) :
    wpAny (model prog w) A (execs (.Assign [.Subscript (.Attribute (.Name sf p1) "_ignore" p2) (.Name mn p3) p4] (.Constant (.int i) k1 p5) pos :: .Return (some (.Constant (.int j) k2 p6)) pos2 :: rest) env) Q E s := by
  have e0 : Stp [] s { s with toks := s.toks + 1 } := ⟨.toks _ _, by simp⟩
  refine ex_cons (wpAny_Assign_Subscript (wpAny_Constant_int ?_) hsw)
  obtain ⟨t1, t2, t3, I⟩ := R.ins
  refine ev_fld (es := rdEnts w.params t1 t2 t3 r) X ok hs (by simp [fldNames]) hA (hB.stp e0) (F.ext e0.toStp0) (I.ext (fun _ e => e) (fun _ e => e)) find_memo rfl handed_ref (fun s1 e1 => ?_) hd hc he
  refine pe_name hm hd' hc' A s1 E _ hA ((hB.stp e0).stp e1) ((F.ext e0.toStp0).ext e1.toStp0) fun v s2 e2 r2 => ?_
  cases r2
  have e02 := (e0.trans e1).trans e2
  obtain ⟨kvs, hdo, hl, hv⟩ := R.memo
  refine wpAny_setItem_pairs (knd := strKind prog w) (strKind_is _ _ _ _) (hdo.at fun o ho => e02.keep _ o ho) (fun h' hd' hs' => ?_) (Nat.le_trans hl hk)
  have ext : ExtB [r.g] s.heap h' := fun b o hb e => hs'.extBut b o (by simpa using hb) (e02.keep b o e)
  refine ex_cons (wpAny_Return_some (wpAny_Constant_int ?_))
  refine q _ _ ⟨e02.gens, e02.os, ext⟩ ?_
  have keep : ∀ a ∈ r.fp, ∀ o, s.heap.get? a = some o → h'.get? a = some o := fun a ha o ho => ext a o (fun hm => R.ne (by rw [← List.mem_singleton.mp hm]; exact ha)) ho
  refine ⟨?_, ?_, ?_, ⟨_, hd', ?_, intV_stored hv⟩, R.gs, R.ne⟩
  · exact ⟨t1, t2, t3, I.ext (keep _ (by simp [RdA.fp])) (keep _ (by simp [RdA.fp]))⟩
  · obtain ⟨j, led, S, hl⟩ := R.set; exact ⟨j, led, S.ext (keep _ (by simp [RdA.fp])), hl⟩
  · obtain ⟨vs, hl, hs⟩ := R.dirs; exact ⟨vs, hl.at (keep _ (by simp [RdA.fp])), hs⟩
  · have := stored_length_le kvs m (.int i s.toks)
    omega

/-- modulename in self._ignore, as a test -/
theorem tst_memo {sf mn : Str} {p1 p2 p3 pos : Pos} {m : Str} {A : Around} {s : Shared} {E : Value → Shared → Prop} {Q : Bool → Shared → Prop} (X : KK.In h₀) (ok : ClsOk KK C fI fN) (hA : AOk n A) (hB : In0 h₀ V s) (F : Fm env V ρ s.heap)
    (R : Rdr prog w C s.heap r M dirs μ k) (hs : ρ.lookup sf = some (.obj r.x)) (hm : ρ.lookup mn = some (.str m)) (q : ∀ s', Stp [] s s' → Q (μ m).isSome s')
    (hd : autoParam ((sf == ("__debug__" : Str)) = false) tacDecide) (hc : autoParam ((sf == ("__classdict__" : Str)) = false) tacDecide) (hd' : autoParam ((mn == ("__debug__" : Str)) = false) tacDecide) (hc' : autoParam ((mn == ("__classdict__" : Str)) = false) tacDecide)
    (he : autoParam (eval (.Attribute (.Name sf p1) "_ignore" p2) env = (do
      let o ← eval (.Name sf p1) env
      standAt p2.atName
      let r ← holding [o] (getAttr o "_ignore" true)
      letTemporaryGo (.Name sf p1) o r
      pure r)) tacUnf) :
    wpAny (model prog w) A (isTrue (.Compare (.Name mn p3) [.In] [.Attribute (.Name sf p1) "_ignore" p2] pos) env (eval (.Compare (.Name mn p3) [.In] [.Attribute (.Name sf p1) "_ignore" p2] pos) env)) Q E s := by
  refine wpAny_isTrue_Compare1 (pe_name hm hd' hc' A s E _ hA hB F fun v s1 e1 r1 => ?_) rfl
  cases r1
  obtain ⟨t1, t2, t3, I⟩ := R.ins
  refine ev_fld (es := rdEnts w.params t1 t2 t3 r) X ok hs (by simp [fldNames]) hA (hB.stp e1) (F.ext e1.toStp0) (I.ext (fun o e => e1.keep _ o e) (fun o e => e1.keep _ o e)) find_memo rfl handed_ref (fun s2 e2 => ?_) hd hc he
  have e02 := e1.trans e2
  obtain ⟨kvs, hdo, hl, hv⟩ := R.memo
  refine wpAny_in_of (knd := strKind prog w) (strKind_is _ _ _ _) R.gs (hdo.at fun o ho => e02.keep _ o ho).mapOf ?_
  have e : (valueAt kvs m).isSome = (μ m).isSome := by
    have := hv m
    cases h : μ m with
    | none => rw [h] at this; rw [show valueAt kvs m = none from this]; rfl
    | some i => rw [h] at this; obtain ⟨t, ht⟩ := this; rw [ht]; rfl
  rw [e]
  exact wpAny_truthy_bool (q _ (e02.trans ⟨.toks _ _, by simp⟩))

/-- return self._ignore[modulename] -/
theorem bo_recall {sf mn : Str} {i : Int} {p1 p2 p3 p4 pos2 : Pos} {m : Str} {rest : List Stmt} {A : Around} {s : Shared} {E : Value → Shared → Prop} {Q : Flow → Shared → Prop} (X : KK.In h₀) (ok : ClsOk KK C fI fN) (hA : AOk n A) (hB : In0 h₀ V s) (F : Fm env V ρ s.heap)
    (R : Rdr prog w C s.heap r M dirs μ k) (hs : ρ.lookup sf = some (.obj r.x)) (hm : ρ.lookup mn = some (.str m)) (hi : μ m = some i)
    (q : ∀ t s', Stp0 [] s s' → Q (.ret (.int i t)) s')
    (hd : autoParam ((sf == ("__debug__" : Str)) = false) tacDecide) (hc : autoParam ((sf == ("__classdict__" : Str)) = false) tacDecide) (hd' : autoParam ((mn == ("__debug__" : Str)) = false) tacDecide) (hc' : autoParam ((mn == ("__classdict__" : Str)) = false) tacDecide)
    (he : autoParam (eval (.Attribute (.Name sf p1) "_ignore" p2) env = (do
      let o ← eval (.Name sf p1) env
      standAt p2.atName
      let r ← holding [o] (getAttr o "_ignore" true)
      letTemporaryGo (.Name sf p1) o r
      pure r)) tacUnf)
    (hsub : autoParam (∀ o i, subscripted (.Name mn p3) false o i = operate [o, i] (getItem o i)) tacIntroUnf) :
    wpAny (model prog w) A (execs (.Return (some (.Subscript (.Attribute (.Name sf p1) "_ignore" p2) (.Name mn p3) p4)) pos2 :: rest) env) Q E s := by
  refine ex_cons (wpAny_Return_some (Subscript_ ?_))
  obtain ⟨t1, t2, t3, I⟩ := R.ins
  refine ev_fld (es := rdEnts w.params t1 t2 t3 r) X ok hs (by simp [fldNames]) hA hB F I find_memo rfl handed_ref (fun s1 e1 => ?_) hd hc he
  refine pe_name hm hd' hc' A s1 E _ hA (hB.stp e1) (F.ext e1.toStp0) fun v s2 e2 r2 => ?_
  cases r2
  have e02 := e1.trans e2
  obtain ⟨kvs, hdo, hl, hv⟩ := R.memo
  have hm2 := (hdo.at fun o ho => e02.keep _ o ho).mapOf
  have hvm := hv m
  rw [hi] at hvm
  obtain ⟨t, ht⟩ := hvm
  refine tail_any hm2.typeIs slot_dict_getitem.lookup (wpAny_getItem_of (knd := strKind prog w) (strKind_is _ _ _ _) hm2 ht ?_) (hsub _ _)
  exact q t _ (e02.trans (s'' := { s2 with toks := s2.toks + 1 }) ⟨.toks _ _, by simp⟩).toStp0

/-- modulename in self._mods, as a test -/
theorem tst_mods {sf mn : Str} {p1 p2 p3 pos : Pos} {m : Str} {A : Around} {s : Shared} {E : Value → Shared → Prop} {Q : Bool → Shared → Prop} (X : KK.In h₀) (ok : ClsOk KK C fI fN) (hA : AOk n A) (hB : In0 h₀ V s) (F : Fm env V ρ s.heap)
    (R : Rdr prog w C s.heap r M dirs μ k) (hs : ρ.lookup sf = some (.obj r.x)) (hm : ρ.lookup mn = some (.str m)) (q : ∀ s', Stp [] s s' → Q (M.contains m) s')
    (hd : autoParam ((sf == ("__debug__" : Str)) = false) tacDecide) (hc : autoParam ((sf == ("__classdict__" : Str)) = false) tacDecide) (hd' : autoParam ((mn == ("__debug__" : Str)) = false) tacDecide) (hc' : autoParam ((mn == ("__classdict__" : Str)) = false) tacDecide)
    (he : autoParam (eval (.Attribute (.Name sf p1) "_mods" p2) env = (do
      let o ← eval (.Name sf p1) env
      standAt p2.atName
      let r ← holding [o] (getAttr o "_mods" true)
      letTemporaryGo (.Name sf p1) o r
      pure r)) tacUnf) :
    wpAny (model prog w) A (isTrue (.Compare (.Name mn p3) [.In] [.Attribute (.Name sf p1) "_mods" p2] pos) env (eval (.Compare (.Name mn p3) [.In] [.Attribute (.Name sf p1) "_mods" p2] pos) env)) Q E s := by
  refine wpAny_isTrue_Compare1 (pe_name hm hd' hc' A s E _ hA hB F fun v s1 e1 r1 => ?_) rfl
  cases r1
  obtain ⟨t1, t2, t3, I⟩ := R.ins
  refine ev_fld (es := rdEnts w.params t1 t2 t3 r) X ok hs (by simp [fldNames]) hA (hB.stp e1) (F.ext e1.toStp0) (I.ext (fun o e => e1.keep _ o e) (fun o e => e1.keep _ o e)) find_mods rfl handed_ref (fun s2 e2 => ?_) hd hc he
  have e02 := e1.trans e2
  obtain ⟨j, led, S, hl⟩ := R.set
  refine wpAny_inSet_of (knd := strKind prog w) (strKind_is _ _ _ _) rfl (S.ext fun o ho => e02.keep _ o ho).setOf ?_
  exact wpAny_truthy_bool (q _ (e02.trans ⟨.toks _ _, by simp⟩))

/-- self._mods, gone through -/
theorem itx_mods {sf : Str} {p1 p2 : Pos} (X : KK.In h₀) (ok : ClsOk KK C fI fN) (hs : ρ.lookup sf = some (.obj r.x)) (hV : ∀ b ∈ r.fp, b ∉ V)
    (hd : autoParam ((sf == ("__debug__" : Str)) = false) tacDecide) (hc : autoParam ((sf == ("__classdict__" : Str)) = false) tacDecide)
    (he : autoParam (eval (.Attribute (.Name sf p1) "_mods" p2) env = (do
      let o ← eval (.Name sf p1) env
      standAt p2.atName
      let r ← holding [o] (getAttr o "_mods" true)
      letTemporaryGo (.Name sf p1) o r
      pure r)) tacUnf) :
    ITx prog w h₀ n env V ρ (fun s => Rdr prog w C s.heap r M dirs μ k) (.Attribute (.Name sf p1) "_mods" p2) (fun ds => ∃ l : List Str, ds = dStrs l ∧ (∀ y, M.contains y = true ↔ y ∈ l) ∧ l.length ≤ M.length) := by
  intro A s E Q hA hB F R q
  obtain ⟨t1, t2, t3, I⟩ := R.ins
  refine ev_fld (es := rdEnts w.params t1 t2 t3 r) X ok hs (by simp [fldNames]) hA hB F I find_mods rfl handed_ref (fun s1 e1 => ?_) hd hc he
  obtain ⟨j, led, S, hl, hj⟩ := R.set
  refine wp_stp (W := []) (R := fun v s' => ∃ I ds, v = .ref I ∧ SetGo prog w A (fun y => M.contains y) j r.sa I s1 s' ds) (fun E' Q' q' => sets_iter hA.handled (S.ext fun o ho => e1.keep _ o ho) hl fun I s' ds e' g => q' _ _ e' ⟨I, ds, rfl, g⟩) ?_
  rintro v s2 e2 ⟨I, ds, rfl, g⟩
  refine q (dStrs ds) I s2 ⟨ds, rfl, fun y => g.all y, by rw [g.len]; exact hj⟩ (e1.trans e2) (none_of_ext e1.keep g.new) g.live fun U hU => ?_
  refine g.walk _ (List.mem_append_right _ (.head _)) (fun hm => ?_) fun b hb hne => ?_
  · have hsa : r.sa ∈ r.fp := by simp [RdA.fp]
    obtain ⟨o, ho⟩ := R.live r.sa (.tail _ hsa)
    have ho1 := e1.keep _ _ ho
    rcases List.mem_append.mp hm with hm | hm
    · rw [none_of_ext e2.keep (hU _ hm)] at ho1; cases ho1
    · rcases List.mem_cons.mp hm with h | hm
      · rw [h, g.new] at ho1; cases ho1
      · exact hV _ hsa hm
  · rcases List.mem_append.mp hb with hb | hb
    · exact .inl (hU b hb)
    · rcases List.mem_cons.mp hb with h | hb
      · exact absurd h hne
      · obtain ⟨o, ho⟩ := F.old b hb
        exact .inr fun h => by rw [e1.keep _ _ ho] at h; cases h

/-- self._dirs, gone through -/
theorem itx_dirs {sf : Str} {p1 p2 : Pos} (X : KK.In h₀) (ok : ClsOk KK C fI fN) (hs : ρ.lookup sf = some (.obj r.x)) (hV : ∀ b ∈ r.fp, b ∉ V)
    (hd : autoParam ((sf == ("__debug__" : Str)) = false) tacDecide) (hc : autoParam ((sf == ("__classdict__" : Str)) = false) tacDecide)
    (he : autoParam (eval (.Attribute (.Name sf p1) "_dirs" p2) env = (do
      let o ← eval (.Name sf p1) env
      standAt p2.atName
      let r ← holding [o] (getAttr o "_dirs" true)
      letTemporaryGo (.Name sf p1) o r
      pure r)) tacUnf) :
    ITx prog w h₀ n env V ρ (fun s => Rdr prog w C s.heap r M dirs μ k) (.Attribute (.Name sf p1) "_dirs" p2) (fun ds => ds = dStrs dirs) := by
  intro A s E Q hA hB F R q
  have key : IT prog w h₀ n env (V) ρ (.Attribute (.Name sf p1) "_dirs" p2) (dStrs dirs) → _ := fun h => h A s E Q hA hB F fun I s' e1 e2 e3 e4 => q _ I s' rfl e1 e2 e3 e4
  have go : ∀ (A : Around) (s : Shared) (E : Value → Shared → Prop) (Q : Value → Shared → Prop), AOk n A → In0 h₀ V s → Fm env V ρ s.heap → Rdr prog w C s.heap r M dirs μ k → (∀ v s', Stp [] s s' → Rep V s'.heap v (.list (dStrs dirs)) → Q v s') →
      wpAny (model prog w) A (eval (.Attribute (.Name sf p1) "_dirs" p2) env) Q E s := by
    intro A s E Q hA hB F R q
    obtain ⟨t1, t2, t3, I⟩ := R.ins
    refine ev_fld (es := rdEnts w.params t1 t2 t3 r) X ok hs (by simp [fldNames]) hA hB F I find_dirs rfl handed_ref (fun s1 e1 => q _ _ e1 ?_) hd hc he
    obtain ⟨vs, hl, hstr⟩ := R.dirs
    exact .list (hV _ (by simp [RdA.fp])) (hl.at fun o ho => e1.keep _ o ho) (.ofStrs hstr)
  refine go A s E _ hA hB F R fun v s₁ e₁ r₁ => ?_
  obtain ⟨a, vs, ha, hl, rl, rfl⟩ := r₁.toList
  refine wpAny_pyIter_list hl.isList ?_
  have hf := fresh_none s₁.heap
  have st : Stp0 [] s₁ { s₁ with heap := s₁.heap.push { cls := .type "list_iterator", data := .fields #[.ref a, .int 0 0] } } := .push _ _
  obtain ⟨k, hk⟩ := hl
  refine q _ s₁.heap.objs.size _ rfl (e₁.trans ⟨st, Nat.le_refl _⟩) (none_of_ext e₁.keep hf) ⟨_, Heap.get?_push_size _ rfl⟩ fun U hU => ?_
  have hU' : ∀ b ∈ U, s₁.heap.get? b = none := fun b hb => none_of_ext st.keep (hU b hb)
  have nm : ∀ b o, b ∉ V → s₁.heap.get? b = some o → b ∉ U ++ s₁.heap.objs.size :: V := fun b o hb ho hm => by
    rcases List.mem_append.mp hm with hm | hm
    · rw [hU' _ hm] at ho; cases ho
    · rcases List.mem_cons.mp hm with rfl | hm
      · rw [hf] at ho; cases ho
      · exact hb hm
  exact ⟨_, wk_list (ax := a) (items := vs) hA.handled (List.mem_append_right _ (.head _)) (nm _ _ ha hk), ⟨_, Heap.get?_push_size _ rfl, rfl, rfl⟩, ⟨k, Heap.get?_push_of_some _ hk⟩, (RepL.shun (fun b o hb ho hm => nm b o hb ho hm) rl).stp0 st⟩
end
end Mine
namespace Mine
/-- the sizes that names wants -/
structure RdOk (M dirs : List Str) (k : Nat) : Prop where
  mods : ∀ y ∈ M, y.length + 1 ≤ sizeLine
  dirs : ∀ y ∈ dirs, y.length + 1 ≤ sizeLine
  k : k ≤ sizeLine
/-- the contract of names -/
noncomputable def NC (prog : Program) (w : World) (h₀ : Heap) (C : Addr) (n : Nat) (f : Addr) : Prop :=
  ∀ (r : RdA) (M dirs : List Str) (μ : Str → Option Int) (k : Nat) (file : Option Str) (m : Str) (A : Around) (s : Shared) (E : Value → Shared → Prop) (Q : Value → Shared → Prop) (vf vm : Value), AOk n A → In0 h₀ [r.g] s → Rdr prog w C s.heap r M dirs μ k → RdOk M dirs k →
    Rep [] s.heap vf (fileD file) → Rep [] s.heap vm (.str m) → (∀ t s', Stp0 [r.g] s s' → Rdr prog w C s'.heap r M dirs (upd μ m (askF M dirs μ file m)) (k + 1) → Q (.int (askF M dirs μ file m) t) s') →
    wpAny (model prog w) A (call (.ref f) [.ref r.x, vf, vm]) Q E s
end Mine
namespace Mine
section
variable {prog : Program} {w : World} {h₀ : Heap} {n : Nat} {env : Env} {V : List Addr} {ρ : List (Str × D)} {B : List (List Addr × Shared)}
theorem Bo.retell {O1 O2 : List (Addr × Ow)} {a : Addr} {o o' : Ow} {s : Shared} (b : Bo h₀ B env V ρ (O1 ++ (a, o) :: O2) s) (h : o.P V s.heap a → o'.P V s.heap a) : Bo h₀ B env V ρ (O1 ++ (a, o') :: O2) s := by
  have mem : ∀ p ∈ O1 ++ (a, o') :: O2, p = (a, o') ∨ p ∈ O1 ++ (a, o) :: O2 := fun p hp => by
    rcases List.mem_append.mp hp with hp | hp
    · exact .inr (List.mem_append_left _ hp)
    · rcases List.mem_cons.mp hp with hp | hp
      · exact .inl hp
      · exact .inr (List.mem_append_right _ (.tail _ hp))
  have hm : (a, o) ∈ O1 ++ (a, o) :: O2 := List.mem_append_right _ (.head _)
  refine ⟨b.fm, b.in0, b.keep, b.newO, fun p hp => ?_, fun p hp => ?_, ?_, b.wv⟩
  · rcases mem p hp with rfl | hp
    · exact h (b.own _ hm)
    · exact b.own p hp
  · rcases mem p hp with rfl | hp
    · exact b.onew (a, o) hm
    · exact b.onew p hp
  · have := b.odis
    rw [List.map_append, List.map_cons] at this ⊢
    exact this
theorem lookup_cons_other {x y : Str} {d e : D} {l : List (Str × D)} (h : x ≠ y) (hx : l.lookup x = some d) : ((y, e) :: l).lookup x = some d := by
  rw [List.lookup_cons, show (x == y) = false by simpa using h]; exact hx
theorem Stp0.then {W : List Addr} {s s' s'' : Shared} (x : Stp0 W s s') (y : Stp0 W s' s'') : Stp0 W s s'' := ⟨y.gens.trans x.gens, y.os.trans x.os, fun a o ha e => y.ext a o ha (x.ext a o ha e)⟩
end
end Mine
end

section
open PySem PySem.Calls PySem.W PyProof.Rows
set_option Elab.async false
set_option maxRecDepth 100000
namespace Mine

section
variable {prog : Program} {w : World} {h₀ : Heap} {n : Nat} {env : Env} {V : List Addr} {ρ : List (Str × D)} {B : List (List Addr × Shared)} {O : List (Addr × Ow)} {KK : Frag} {C fI fN : Addr}

/-- set() if not modules else set(modules) -/
theorem ev_set {xm xs : Str} {pm pm' ps ps' pc pc' pn pi : Pos} {M : List Str} {A : Around} {s : Shared} {E : Value → Shared → Prop} {Q : Value → Shared → Prop} (g : GV h₀ xs (.type "set")) (hx : ρ.lookup xm = some (.list (dStrs M))) (hM : M.length + 1 < scanBound) (hA : AOk n A) (hB : In0 h₀ V s) (F : Fm env V ρ s.heap)
    (q : ∀ sa s' j led, Stp [] s s' → sa ∉ V → s.heap.get? sa = none → SetS prog w s'.heap sa (fun y => M.contains y) j led → (j = 0 ∨ led = ledOf w) → j ≤ M.length → Q (.ref sa) s')
    (hks : autoParam (env.kindOf xs = some .globalImplicit) tacRfl) (hd : autoParam ((xs == ("__debug__" : Str)) = false) tacDecide) (hdm : autoParam ((xm == ("__debug__" : Str)) = false) tacDecide) (hcm : autoParam ((xm == ("__classdict__" : Str)) = false) tacDecide)
    (hpt : autoParam (∀ whole, isTrue (.Name xm pm) env whole = (do let v ← whole; standAt (Expr.Name xm pm).pos; holding [v] (truthy v))) tacIntroRfl)
    (hst : autoParam (starEach [.Name xm pm'] env = (false, eval (.Name xm pm') env) :: starEach [] env) tacRfl) :
    wpAny (model prog w) A (eval (.IfExp (.UnaryOp .Not (.Name xm pm) pn) (.Call (.Name xs ps) [] [] pc) (.Call (.Name xs ps') [.Name xm pm'] [] pc') pi) env) Q E s := by
  have hbig : scanBound ≤ sizeLine := by decide
  refine wpAny_IfExp (pt_not (pt_val (pe_name hx hdm hcm) (tr_list (by simp; omega)) hpt) A s E _ hA hB F fun s1 e1 => ?_)
  have hB1 := hB.stp e1
  have F1 := F.ext e1.toStp0
  have go : ∀ {s2 : Shared} {R : Value → Shared → Prop} {E' : Value → Shared → Prop} {t : Sem Value}, (∀ (E' : Value → Shared → Prop) (Q' : Value → Shared → Prop), (∀ v s', Stp0 [] s2 s' → R v s' → Q' v s') → wpAny (model prog w) A t Q' E' s2) → (∀ v s', Stp [] s2 s' → R v s' → Q v s') → wpAny (model prog w) A t Q E' s2 := fun h q => wp_stp h q
  cases hM0 : (!(!(dStrs M).isEmpty)) with
  | true =>
    have hnil : M = [] := by cases M with | nil => rfl | cons a l => simp at hM0
    subst hnil
    refine wpAny_Call_NameR (Name_function_global F.ok.kind hks (g.load _ _ _ _ s1 _ _ F.ok hB1 ?_) hd)
    refine callWith_go (h₀ := h₀) (V := V) kp_type rfl (PyProof.Rows.evalArgs_none ⟨hB1, ?_⟩)
    refine call_set_0 fun led => ?_
    have hS := sets_fresh (prog := prog) (w := w) s1.heap led
    refine q _ _ 0 led (e1.trans ⟨.push _ _, Nat.le_refl _⟩) (Old.fresh F1.old) (none_of_ext e1.keep (fresh_none _)) ?_ (.inl rfl) (Nat.zero_le _)
    exact hS
  | false =>
    refine wpAny_Call_NameR (Name_function_global F.ok.kind hks (g.load _ _ _ _ s1 _ _ F.ok hB1 ?_) hd)
    refine callWith_go (h₀ := h₀) (V := V) kp_type (by rw [hst]; rfl) (evalArgs_pes (ds := [.list (dStrs M)]) (pes_cons (pe_name hx hdm hcm) pes_nil hst) (fun h => nomatch h) (by rw [hst]; rfl) hA hB1 F1 fun vs s2 e2 r2 => ⟨hB1.stp e2, ?_⟩)
    obtain ⟨v, rfl, rv⟩ := r2.one
    obtain ⟨_, _, ha, hl, rl, rfl⟩ := rv.toList
    have e02 := e1.trans e2
    have hsz := rl.toArray
    rw [List.length_map] at hsz
    refine go (R := fun v s' => v = .ref s2.heap.objs.size ∧ ∃ j, j ≤ M.length ∧ SetS prog w s'.heap s2.heap.objs.size (fun y => M.contains y) j (ledOf w)) (fun E' Q' q' => sets_call hA.handled hl.isList rl.strs (by omega) fun s' n' e' hn' S => q' _ _ e' ⟨rfl, n', by omega, S⟩) ?_
    rintro _ s3 e3 ⟨rfl, j, hj, S⟩
    exact q _ _ j _ (e02.trans e3) (Old.fresh (F.ext e02.toStp0).old) (none_of_ext e02.keep (fresh_none _)) S (.inr rfl) hj

/-- {'<string>': 1} -/
theorem ev_dict1 {x : Str} {i : Int} {k1 k2 : Nat} {p1 p2 p : Pos} {A : Around} {s : Shared} {E : Value → Shared → Prop} {Q : Value → Shared → Prop} (hsys : ∃ o, s.heap.get? sysModules = some o)
    (q : ∀ s' t, Stp [] s s' → (s.heap.objs.size == sysModules) = false → s'.heap.DictOf (strKind prog w) s.heap.objs.size [(x, .int i t)] → Q (.ref s.heap.objs.size) s') :
    wpAny (model prog w) A (eval (.Dict [some (.Constant (.str x) k1 p1)] [.Constant (.int i) k2 p2] p) env) Q E s := by
  refine wpAny_Dict_walk (knd := strKind prog w) rfl rfl (by simp) (by simp) ?_
  refine pairTrees_cons_walk (wpAny_Constant_str (wpAny_Constant_int (pairTrees_nil_walk ?_)))
  refine ⟨[(x, _)], ⟨strKind_is _ _ _ _, rfl, trivial⟩, Heap.DictOf.new _, fun h' hd hs => ?_⟩
  obtain ⟨o, ho⟩ := hsys
  have hlt := Heap.lt_size ho
  refine q _ _ ⟨⟨rfl, rfl, fun b o _ e => ?_⟩, ?_⟩ ?_ hd
  · exact hs.extBut b o (fun h => by rw [h, fresh_none] at e; cases e) (Heap.get?_push_of_some _ e)
  · simp; omega
  · have : s.heap.objs.size ≠ sysModules := fun e => by rw [e] at hlt; exact Nat.lt_irrefl _ hlt
    simpa using this

/-- self.name = value, while the object is made -/
theorem setf_go {x dx : Addr} {es : List DictEntry} {sf name : Str} {value : Expr} {p1 p2 pos : Pos} {rest : List Stmt} {G : Value → Shared → Prop} {A : Around} {s : Shared} {E : Value → Shared → Prop} {Q : Flow → Shared → Prop} (X : KK.In h₀) (ok : ClsOk KK C fI fN) (hA : AOk n A) (b : Bo h₀ B env V ρ [] s)
    (I : InsD s.heap x dx C es) (hs : ρ.lookup sf = some (.obj x)) (hn : name ∈ fldNames) (h1 : es.find? (·.key.isStr name) = none) (h2 : es.any (·.refKey) = false) (hz : es.length ≤ 10)
    (hxd : x ≠ dx) (hV : dx ∈ V) (hI : ∀ p ∈ B, dx ∈ p.1 ∨ p.2.heap.get? dx = none) (hno : ¬ Own env dx)
    (hv : ∀ (E' : Value → Shared → Prop) (Q' : Value → Shared → Prop), (∀ v s', Stp [] s s' → G v s' → Q' v s') → wpAny (model prog w) A (eval value env) Q' E' s)
    (q : ∀ v s1 s2 s3 tok, Stp [] s s1 → G v s1 → Stp [] s1 s2 → ExtB [dx] s2.heap s3.heap → InsD s3.heap x dx C (es ++ [ent w.params name tok v]) → Bo h₀ B env V ρ [] s3 → wpAny (model prog w) A (execs rest env) Q E s3)
    (hsw : autoParam (swapsWith value (some (.Attribute (.Name sf p1) name p2)) pos.line env = pure false) tacRfl)
    (hd : autoParam ((sf == ("__debug__" : Str)) = false) tacDecide) (hc : autoParam ((sf == ("__classdict__" : Str)) = false) tacDecide) :
    wpAny (model prog w) A (execs (.Assign [.Attribute (.Name sf p1) name p2] value pos :: rest) env) Q E s := by
  refine ex_cons (plainObj_wpAny_Assign_Attribute (hv E _ fun v s1 e1 hG => ?_) hsw)
  have b1 := b.pure e1
  refine pe_name hs hd hc A s1 E _ hA b1.in0 b1.fm fun u s2 e2 r2 => ?_
  cases r2
  have b2 := b1.pure e2
  have I2 := I.ext (h' := s2.heap) (fun o ho => e2.keep _ o (e1.keep _ o ho)) (fun o ho => e2.keep _ o (e1.keep _ o ho))
  refine set_field (Frag.In.ext X b2.in0.ext) ok I2 hn h1 h2 hz fun tok m h' hd' ext => ?_
  have e3 : Stp0 [dx] s2 { s2 with heap := h', toks := s2.toks + 2 } := ⟨rfl, rfl, ext⟩
  refine q v s1 s2 _ tok e1 hG e2 ext ⟨ext _ _ (by simpa using hxd) I2.ins, m, hd'⟩ (b2.write e3 (by have := b2.in0.toks; show 1 ≤ s2.toks + 2; omega) hV hI hno (fun _ h => nomatch h) ⟨_, hd'⟩)
end
end Mine
end

section
open PySem PySem.Calls PySem.W PyProof.Rows
set_option Elab.async false
set_option maxRecDepth 100000
namespace Mine
noncomputable def splitD (p : Str) : D :=
  if (Txt.slice p none (some 1) != Str.ofString "/") then .tuple [.str (Str.ofString ""), .str (Str.ofString ""), .str p]
  else if (Txt.slice p (some 1) (some 2) != Str.ofString "/") || (Txt.slice p (some 2) (some 3) == Str.ofString "/") then .tuple [.str (Str.ofString ""), .str (Str.ofString "/"), .str (Txt.slice p (some 1) none)]
  else .tuple [.str (Str.ofString ""), .str (Txt.slice p none (some 2)), .str (Txt.slice p (some 2) none)]

theorem le_sum {x : Nat} : ∀ {l : List Nat}, x ∈ l → x ≤ l.sum
  | y :: r, h => by
    rw [List.sum_cons]
    rcases List.mem_cons.mp h with rfl | h
    · omega
    · have := le_sum h; omega
theorem sum_sublist {l m : List Nat} (h : l.Sublist m) : l.sum ≤ m.sum := by
  induction h with
  | slnil => exact Nat.le_refl _
  | cons a _ ih => rw [List.sum_cons]; omega
  | cons_cons a _ ih => rw [List.sum_cons, List.sum_cons]; omega
/-- a path's parts -/
noncomputable def partsOf (p : Str) : List Str := (Txt.split (Txt.slice p (some 1) none) (Str.ofString "/")).filter fun c => decide (c.length ≠ 0)
noncomputable def normP (p : Str) : Str := Str.ofString "/" ++ Txt.join (Str.ofString "/") (partsOf p)
/-- the paths that occur -/
structure PathOk (p : Str) : Prop where
  len : p.length ≤ 10000
  first : (Txt.slice p none (some 1) != Str.ofString "/") = false
  second : (Txt.slice p (some 1) (some 2) != Str.ofString "/") = true
  parts : ∀ c ∈ Txt.split (Txt.slice p (some 1) none) (Str.ofString "/"), c ≠ Str.ofString "." ∧ c ≠ Str.ofString ".."
  small : ((Txt.split (Txt.slice p (some 1) none) (Str.ofString "/")).map (·.length)).sum + (Txt.split (Txt.slice p (some 1) none) (Str.ofString "/")).length ≤ 100000
  few : (Builtin.Str.partsBetween (Txt.slice p (some 1) none) (Builtin.Str.occurrences (Txt.slice p (some 1) none) (Str.ofString "/") 0 (Txt.slice p (some 1) none).length ((Txt.slice p (some 1) none).length + 1)) (Str.ofString "/").length).length ≤ sizeLine

section
variable {prog : Program} {w : World} {h₀ : Heap} {n : Nat} {env : Env} {V : List Addr} {ρ : List (Str × D)}
theorem filter_all {α : Type} : ∀ (l : List α), l.filter (fun _ => true) = l
  | [] => rfl
  | a :: l => by rw [List.filter_cons_of_pos rfl, filter_all l]
/-- [elt for x in iter if ..], by a type of the items -/
theorem pef_cf {α β : Type} (e : α → D) (dec : D → α) (hdec : ∀ a, dec (e a) = a) (e' : β → D) {l : List α} {t : α → Bool} {f : α → β} {elt iter : Expr} {x : Str} {px : Pos} {ifs : List Expr} {scope : Scope} {pos : Pos}
    (hit : IT prog w h₀ n env V ρ iter (l.map e)) (co : CompOk scope env) (hx : scope.names.lookup x = some .local ∨ scope.names.lookup x = some .cell)
    (htests : ∀ C V' a, a ∈ l → TS prog w h₀ n (cEnv scope env C) V' ((x, e a) :: caps scope ρ) ifs (t a))
    (helt : ∀ C V' a, a ∈ l → t a = true → PE prog w h₀ n (cEnv scope env C) V' ((x, e a) :: caps scope ρ) elt (e' (f a)))
    (hsz : l.length ≤ sizeLine) (hfs : autoParam (∀ x, foldedSetIterable iter env x = pure x) tacIntroRfl) :
    PEF prog w h₀ n env V ρ (.ListComp elt [⟨.Name x px, iter, ifs, 0⟩] scope pos) (((l.filter t).map f).map e') := by
  have key : ((l.map e).filter fun d => t (dec d)).map (fun d => e' (f (dec d))) = ((l.filter t).map f).map e' := by
    rw [List.filter_map, List.map_map, List.map_map]
    have h1 : ((fun d => t (dec d)) ∘ e) = t := by funext a; simp [hdec]
    rw [h1]
    apply List.map_congr_left
    intro a _
    simp [hdec]
  rw [← key]
  refine pef_comp1 hit co hx (fun C V' d hd => ?_) (fun C V' d hd ht => ?_) (by rw [List.length_map]; exact hsz) hfs
  · obtain ⟨a, ha, rfl⟩ := List.mem_map.mp hd
    rw [hdec]; exact htests C V' a ha
  · obtain ⟨a, ha, rfl⟩ := List.mem_map.mp hd
    rw [hdec] at ht ⊢; exact helt C V' a ha ht
/-- [elt for x in iter] -/
theorem pef_c {α β : Type} (e : α → D) (dec : D → α) (hdec : ∀ a, dec (e a) = a) (e' : β → D) {l : List α} {f : α → β} {elt iter : Expr} {x : Str} {px : Pos} {scope : Scope} {pos : Pos}
    (hit : IT prog w h₀ n env V ρ iter (l.map e)) (co : CompOk scope env) (hx : scope.names.lookup x = some .local ∨ scope.names.lookup x = some .cell)
    (helt : ∀ C V' a, a ∈ l → PE prog w h₀ n (cEnv scope env C) V' ((x, e a) :: caps scope ρ) elt (e' (f a)))
    (hsz : l.length ≤ sizeLine) (hfs : autoParam (∀ x, foldedSetIterable iter env x = pure x) tacIntroRfl) :
    PEF prog w h₀ n env V ρ (.ListComp elt [⟨.Name x px, iter, [], 0⟩] scope pos) ((l.map f).map e') := by
  have := pef_cf (t := fun _ => true) (px := px) (pos := pos) e dec hdec e' hit co hx (fun _ _ _ _ => ts_nil) (fun C V' a ha _ => helt C V' a ha) hsz hfs
  rwa [filter_all] at this
noncomputable def D.s : D → Str
  | .str x => x
  | _ => ⟨#[]⟩
noncomputable def D.i : D → Int
  | .int x => x
  | _ => 0
end
/-- a comprehension's scope, looked through -/
noncomputable def compB (scope : Scope) (env : Env) : Bool := decide (scope.kind = .function) && scope.names.all fun p => decide (scope.names.lookup p.1 = some p.2) && (decide (p.2 ≠ .free) || ((env.cells.lookup p.1).isSome && decide (env.kindOf p.1 ≠ some .local)))
theorem compOk_of {scope : Scope} {env : Env} (h : compB scope env = true) : CompOk scope env := by
  unfold compB at h
  simp only [Bool.and_eq_true, decide_eq_true_eq, List.all_eq_true, Bool.or_eq_true] at h
  refine ⟨h.1, fun p hp => (h.2 p hp).1, fun p hp hf => ?_, fun x hx => ?_⟩
  · rcases (h.2 p hp).2 with q | q
    · exact absurd hf q
    · exact q.1
  · rcases (h.2 _ (mem_of_lookup hx)).2 with q | q
    · exact absurd rfl q
    · exact q.2

theorem AOk.make {n : Nat} {A : Around} {C : Addr} {vs : List Value} {kw : List (Str × Value)} (x : AOk (n + 1) A) : AOk n (A.under (.builtin "type.__call__" ⟨.ref C :: vs, kw⟩)) :=
  ⟨x.handled, by have := x.depth; show A.depth + 1 + n < 1000; omega, by have := x.units; show A.units + 1 + 5 * n < 9000; omega⟩
noncomputable def otriv : Ow where
  P := fun _ _ _ => True
  ext := fun _ _ _ _ => trivial
  shun := fun _ _ => trivial
/-- a new reader's memo -/
noncomputable def μ0 : Str → Option Int := upd (fun _ => none) (Str.ofString "<string>") 1
noncomputable def mkArgs (M : List Str) : Option (List Str) → List D
  | none => [.list (dStrs M)]
  | some P => [.list (dStrs M), .list (dStrs P)]
noncomputable def dirsD : Option (List Str) → D
  | none => .none
  | some P => .list (dStrs P)
/-- the contract of _Ignore(..) -/
noncomputable def MK (prog : Program) (w : World) (h₀ : Heap) (C : Addr) (n : Nat) : Prop :=
  ∀ (V : List Addr) (M : List Str) (P : Option (List Str)) (A : Around) (s : Shared) (E : Value → Shared → Prop) (Q : Value → Shared → Prop) (vs : List Value), AOk n A → In0 h₀ V s → Old V s.heap → M.length + 1 < scanBound → (∀ p ∈ P.getD [], PathOk p) → (P.getD []).length ≤ sizeLine →
    RepL V s.heap vs (mkArgs M P) →
    (∀ r s', Stp0 [] s s' → s.heap.get? r.g = none → (∀ a ∈ r.fp, a ∉ V) → Rdr prog w C s'.heap r M ((P.getD []).map normP) μ0 1 → Q (.ref r.x) s') → wpAny (model prog w) A (call (.ref C) vs) Q E s
end Mine
end

section
open PySem PySem.Calls PySem.W PyProof.Rows
set_option Elab.async false
set_option maxRecDepth 100000
namespace Mine
section
variable {prog : Program} {w : World} {h₀ : Heap} {n : Nat} {env : Env} {V : List Addr} {ρ : List (Str × D)} {B : List (List Addr × Shared)} {O O' : List (Addr × Ow)} {P P' P1 : Heap → Prop} {W : List Addr}

/-- owned things -/
noncomputable def OwnP (V : List Addr) (O : List (Addr × Ow)) (h : Heap) : Prop := ∀ p ∈ O, p.1 ∈ V ∧ p.2.P V h p.1
theorem OwnP.stp {h h' : Heap} (x : OwnP V O h) (e : Ext h h') : OwnP V O h' := fun p hp => ⟨(x p hp).1, Ow.stp (x p hp).2 e⟩
theorem OwnP.ext {h h' : Heap} (x : OwnP V O h) (e : ExtB W h h') (hW : ∀ a ∈ W, a ∈ V) (hd : ∀ p ∈ O, p.1 ∉ W) : OwnP V O h' := fun p hp => ⟨(x p hp).1, p.2.ext (x p hp).2 e hW (hd p hp)⟩

/-- what no step loses that writes nothing -/
noncomputable abbrev Stays (P : Heap → Prop) : Prop := ∀ h h', P h → Ext h h' → P h'
theorem stays_own : Stays (OwnP V O) := fun _ _ x e => x.stp e

/-- e is evaluated to d; of what stood W alone is written; P holds ahead, P' behind -/
noncomputable def PR (prog : Program) (w : World) (h₀ : Heap) (n : Nat) (env : Env) (V : List Addr) (ρ : List (Str × D)) (P P' : Heap → Prop) (W : List Addr) (e : Expr) (d : D) : Prop :=
  ∀ (A : Around) (s : Shared) (E : Value → Shared → Prop) (Q : Value → Shared → Prop), AOk n A → In0 h₀ V s → Fm env V ρ s.heap → P s.heap →
    (∀ v s', Stp W s s' → Rep V s'.heap v d → Old V s'.heap → P' s'.heap → Q v s') → wpAny (model prog w) A (eval e env) Q E s
noncomputable def PRs (prog : Program) (w : World) (h₀ : Heap) (n : Nat) (env : Env) (V : List Addr) (ρ : List (Str × D)) (P P' : Heap → Prop) (W : List Addr) (pos : Pos) (es : List Expr) (ds : List D) : Prop :=
  ∀ (A : Around) (s : Shared) (E : Value → Shared → Prop) (Q : List Value → Shared → Prop), AOk n A → In0 h₀ V s → Fm env V ρ s.heap → P s.heap →
    (∀ vs s', Stp W s s' → RepL V s'.heap vs ds → Old V s'.heap → P' s'.heap → Q vs s') → wpAny (model prog w) A (spliced (backTo pos (starEach es env))) Q E s
/-- what a step may write -/
noncomputable abbrev WOk (env : Env) (V W : List Addr) : Prop := ∀ a ∈ W, a ∈ V ∧ ¬ Own env a

theorem PE.r {e : Expr} {d : D} (h : PE prog w h₀ n env V ρ e d) (hP : Stays P) : PR prog w h₀ n env V ρ P P W e d :=
  fun A s E Q hA hB F p q => h A s E Q hA hB F fun v s' e' r => q v s' e'.nil r (F.ext e'.toStp0).old (hP _ _ p e'.keep)
theorem PR.conv {e : Expr} {d : D} {Q0 Q1 : Heap → Prop} (h : PR prog w h₀ n env V ρ P P' W e d) (h0 : ∀ h, Q0 h → P h) (h1 : ∀ h, P' h → Q1 h) : PR prog w h₀ n env V ρ Q0 Q1 W e d :=
  fun A s E Q hA hB F p q => h A s E Q hA hB F (h0 _ p) fun v s' e' r o p' => q v s' e' r o (h1 _ p')
theorem PR.to {e : Expr} {d d' : D} (h : PR prog w h₀ n env V ρ P P' W e d) (hd : d = d') : PR prog w h₀ n env V ρ P P' W e d' := hd ▸ h

theorem Fm.wr {s s' : Shared} (F : Fm env V ρ s.heap) (e : Stp W s s') (hW : WOk env V W) (o : Old V s'.heap) : Fm env V ρ s'.heap :=
  F.write e.ext (fun a ha => (hW a ha).1) (fun hm => (hW _ hm).2 (.inl rfl)) (fun y c hc hm => (hW _ hm).2 (.inr ⟨y, hc⟩)) fun a ha => o a (hW a ha).1
theorem In0.wr {s s' : Shared} (x : In0 h₀ V s) (e : Stp W s s') (hW : ∀ a ∈ W, a ∈ V) : In0 h₀ V s' :=
  x.write (fun a o ha ho => e.ext a o (fun hm => ha (hW a hm)) ho) (Nat.le_trans x.toks e.toks)

theorem prs_nil {pos : Pos} : PRs prog w h₀ n env V ρ P P W pos [] [] := fun _ s _ _ _ _ F p q => wpAny_items_nil (q _ _ (.refl s) .nil F.old p)
theorem prs_cons {pos : Pos} {e : Expr} {es : List Expr} {d : D} {ds : List D} (hW : WOk env V W) (he : PR prog w h₀ n env V ρ P P1 W e d) (hes : PRs prog w h₀ n env V ρ P1 P' W pos es ds)
    (hst : autoParam (starEach (e :: es) env = (false, eval e env) :: starEach es env) tacRfl) : PRs prog w h₀ n env V ρ P P' W pos (e :: es) (d :: ds) := by
  intro A s E Q hA hB F p q
  refine wpAny_items_cons (he A s E _ hA hB F p fun v s₁ e₁ r₁ o₁ p₁ => ?_) hst
  exact hes A s₁ E _ hA (hB.wr e₁ fun a ha => (hW a ha).1) (F.wr e₁ hW o₁) p₁ fun vs s₂ e₂ r₂ o₂ p₂ => q _ _ (e₁.trans e₂) (.cons (r₁.ext (fun a ha => (hW a ha).1) e₂.ext) r₂) o₂ p₂
theorem evalArgs_prs {args : List Expr} {pos : Pos} {f : Value} {ds : List D} (hargs : PRs prog w h₀ n env V ρ P P' W pos args ds) (hns : (backTo pos (starEach args env)).any (·.1) = false) (hne : args ≠ [])
    {A : Around} {s : Shared} {E : Value → Shared → Prop} {Q : Args → Shared → Prop} (hA : AOk n A) (hB : In0 h₀ V s) (F : Fm env V ρ s.heap) (p : P s.heap)
    (q : ∀ vs s', Stp W s s' → RepL V s'.heap vs ds → Old V s'.heap → P' s'.heap → Q ⟨vs, []⟩ s') : wpAny (model prog w) A (evalArgs f true (backTo pos (starEach args env)) []) Q E s := by
  cases args with
  | nil => exact absurd rfl hne
  | cons e es =>
    have h := hargs A s E (fun vs s' => Q ⟨vs, []⟩ s') hA hB F p q
    cases hb : backTo pos (starEach (e :: es) env) with
    | nil =>
      have : (backTo pos (starEach (e :: es) env)).length = (starEach (e :: es) env).length := by unfold backTo; rw [List.length_map]
      rw [hb] at this
      have h2 : (starEach (e :: es) env).length = es.length + 1 := starEach_length _ _
      rw [h2] at this; cases this
    | cons x rest =>
      obtain ⟨st, t⟩ := x
      rw [hb] at h hns
      simp only [List.any_cons, Bool.or_eq_false_iff] at hns
      obtain ⟨rfl, _⟩ := hns
      exact evalArgs_plain h

/-- f(e, ..), where the arguments may write -/
theorem pr_call {f : Str} {fp pos : Pos} {args : List Expr} {v : Value} {ds : List D} {d : D} (g : GV h₀ f v) (kp : Kp h₀ v) (hW : WOk env V W) (hargs : PRs prog w h₀ n env V ρ P P' W pos args ds)
    (hc : CL prog w h₀ n V v ds d) (hP' : Stays P') (hne : autoParam (args ≠ []) tacSimp) (hns : autoParam ((backTo pos (starEach args env)).any (·.1) = false) tacRfl)
    (hk : autoParam (env.kindOf f = some .globalImplicit) tacRfl) (hd : autoParam ((f == ("__debug__" : Str)) = false) tacDecide) : PR prog w h₀ n env V ρ P P' W (.Call (.Name f fp) args [] pos) d := by
  intro A s E Q hA hB F p q
  refine wpAny_Call_NameR (Name_function_global F.ok.kind hk (g.load _ _ _ _ s _ _ F.ok hB ?_) hd)
  refine callWith_go kp hns (evalArgs_prs hargs hns hne hA hB F p fun vs s₁ e₁ r₁ o₁ p₁ => ⟨hB.wr e₁ fun a ha => (hW a ha).1, ?_⟩)
  exact wp_stp (fun E' Q' q' => hc A s₁ E' Q' vs hA (hB.wr e₁ fun a ha => (hW a ha).1) o₁ r₁ q') fun x s₂ e₂ r₂ => q x s₂ (e₁.trans e₂.nil) r₂ (o₁.stp e₂.toStp0) (hP' _ _ p₁ e₂.keep)

/-- o.m(e, ..), where the arguments may write -/
theorem pr_meth {o : Expr} {name : Str} {apos pos : Pos} {args : List Expr} {d0 d : D} {ds : List D} {T id : String} (ho : PE prog w h₀ n env V ρ o d0) (hm : MT h₀ V d0 T name id) (hP : Stays P) (hW : WOk env V W) (hargs : PRs prog w h₀ n env V ρ P P' W pos args ds)
    (hc : MC prog w h₀ n V id d0 ds d) (hP' : Stays P') (hne : autoParam (args ≠ []) tacSimp) (hns : autoParam ((backTo pos (starEach args env)).any (·.1) = false) tacRfl)
    (hbase : autoParam (attributeBase o name env (eval o env) = eval o env) tacRfl)
    (hfew : autoParam (((backTo pos (starEach args env)).all (fun x => !x.1) && (backToKw pos (keywordEach [] env)).all (fun x => x.1.isSome)
      && decide (args.length + ([] : List Keyword).length + (if ([] : List Keyword).isEmpty then 0 else 1) < 30)) = true) tacRfl)
    (hline : autoParam ((apos.endLine == pos.line) = true) tacRfl) : PR prog w h₀ n env V ρ P P' W (.Call (.Attribute o name apos) args [] pos) d := by
  intro A s E Q hA hB F p q
  refine wpAny_Call_method_lateS hbase hfew hline (ho A s E _ hA hB F fun v s₁ e₁ r₁ => ?_)
  have hB₁ := hB.stp e₁
  obtain ⟨hT, hd⟩ := hm.at_ s₁ v hB₁ r₁
  refine ⟨T, id, hm.pa, hm.slot, hm.ty, hT, hd, ?_⟩
  refine callWith_go (h₀ := h₀) (V := V) kp_builtin hns (evalArgs_prs hargs hns hne hA hB₁ (F.ext e₁.toStp0) (hP _ _ p e₁.keep) fun vs s₂ e₂ r₂ o₂ p₂ => ⟨hB₁.wr e₂ fun a ha => (hW a ha).1, ?_⟩)
  exact wp_stp (fun E' Q' q' => hc A s₂ E' Q' v vs hA (hB₁.wr e₂ fun a ha => (hW a ha).1) o₂ (r₁.ext (fun a ha => (hW a ha).1) e₂.ext) r₂ q') fun x s₃ e₃ r₃ => q x s₃ ((e₁.nil.trans e₂).trans e₃.nil) r₃ (o₂.stp e₃.toStp0) (hP' _ _ p₂ e₃.keep)

theorem pr_bin {l r : Expr} {op : Operator} {pos : Pos} {a b d : D} (hW : WOk env V W) (hl : PR prog w h₀ n env V ρ P P1 W l a) (hr : PR prog w h₀ n env V ρ P1 P' W r b) (ho : B2 prog w n V op a b d) (hP' : Stays P') :
    PR prog w h₀ n env V ρ P P' W (.BinOp l op r pos) d := by
  intro A s E Q hA hB F p q
  refine wpAny_BinOp (hl A s E _ hA hB F p fun v s₁ e₁ r₁ o₁ p₁ => hr A s₁ E _ hA (hB.wr e₁ fun a ha => (hW a ha).1) (F.wr e₁ hW o₁) p₁ fun u s₂ e₂ r₂ o₂ p₂ => ?_)
  exact wp_stp (fun E' Q' q' => ho A s₂ E' Q' v u hA o₂ (r₁.ext (fun a ha => (hW a ha).1) e₂.ext) r₂ q') fun x s₃ e₃ r₃ => q x s₃ ((e₁.trans e₂).trans e₃.nil) r₃ (o₂.stp e₃.toStp0) (hP' _ _ p₂ e₃.keep)

/-- a call that may write what it owns -/
noncomputable def CLW (prog : Program) (w : World) (h₀ : Heap) (n : Nat) (V : List Addr) (O O' : List (Addr × Ow)) (f : Value) (ds : List D) (d : D) : Prop :=
  ∀ (A : Around) (s : Shared) (E : Value → Shared → Prop) (Q : Value → Shared → Prop) (vs : List Value), AOk n A → In0 h₀ V s → Old V s.heap → RepL V s.heap vs ds → OwnP V O s.heap →
    (∀ x s', Stp0 (O.map (·.1)) s s' → Rep V s'.heap x d → Old V s'.heap → OwnP V O' s'.heap → Q x s') → wpAny (model prog w) A (call f vs) Q E s
theorem pr_callw {f : Str} {fp pos : Pos} {args : List Expr} {v : Value} {ds : List D} {d : D} (g : GV h₀ f v) (kp : Kp h₀ v) (hargs : PEs prog w h₀ n env V ρ pos args ds)
    (hc : CLW prog w h₀ n V O O' v ds d) (hds : autoParam (args = [] → ds = []) tacSimp) (hns : autoParam ((backTo pos (starEach args env)).any (·.1) = false) tacRfl)
    (hk : autoParam (env.kindOf f = some .globalImplicit) tacRfl) (hd : autoParam ((f == ("__debug__" : Str)) = false) tacDecide) : PR prog w h₀ n env V ρ (OwnP V O) (OwnP V O') (O.map (·.1)) (.Call (.Name f fp) args [] pos) d := by
  intro A s E Q hA hB F p q
  refine wpAny_Call_NameR (Name_function_global F.ok.kind hk (g.load _ _ _ _ s _ _ F.ok hB ?_) hd)
  refine callWith_go kp hns (evalArgs_pes hargs hds hns hA hB F fun vs s₁ e₁ r₁ => ⟨hB.stp e₁, ?_⟩)
  refine wp_stp (R := fun x s' => Rep V s'.heap x d ∧ Old V s'.heap ∧ OwnP V O' s'.heap) (fun E' Q' q' => hc A s₁ E' Q' vs hA (hB.stp e₁) (F.ext e₁.toStp0).old r₁ (p.stp e₁.keep) fun x s' e r o p' => q' x s' e ⟨r, o, p'⟩) ?_
  rintro x s₂ e₂ ⟨r, o, p'⟩
  exact q x s₂ (e₁.nil.trans e₂) r o p'

/-- reader.names(file, name) -/
theorem pr_names {KK : Frag} {C fI fN : Addr} {o ef em : Expr} {apos pos : Pos} {r : RdA} {M dirs : List Str} {μ : Str → Option Int} {k : Nat} {file : Option Str} {m : Str} (X : KK.In h₀) (ok : ClsOk KK C fI fN) (hN : NC prog w h₀ C n fN) (kp : Kp h₀ (.ref fN))
    (ho : PE prog w h₀ n env V ρ o (.obj r.x)) (hf : PE prog w h₀ n env V ρ ef (fileD file)) (hm : PE prog w h₀ n env V ρ em (.str m)) (hg : r.g ∈ V) (hsz : RdOk M dirs k)
    (hst : autoParam (starEach [ef, em] env = (false, eval ef env) :: starEach [em] env) tacRfl) (hst' : autoParam (starEach [em] env = (false, eval em env) :: starEach [] env) tacRfl)
    {pl : Sem Bool} (he : autoParam (eval (.Call (.Attribute o "names" apos) [ef, em] [] pos) env = (do
      let ov ← eval o env
      standAt apos.atName
      let (f, first) ← holding [ov] (getMethod ov "names" pl)
      callWith pos f first (backTo pos (starEach [ef, em] env)) [])) tacRfl) :
    PR prog w h₀ n env V ρ (fun h => Rdr prog w C h r M dirs μ k) (fun h => Rdr prog w C h r M dirs (upd μ m (askF M dirs μ file m)) (k + 1)) [r.g] (.Call (.Attribute o "names" apos) [ef, em] [] pos) (.int (askF M dirs μ file m)) := by
  intro A s E Q hA hB F R q
  have hns : (backTo pos (starEach [ef, em] env)).any (·.1) = false := by rw [hst, hst']; rfl
  refine MethodCall_ (pl := pl) (ho A s E _ hA hB F fun v s₁ e₁ r₁ => ?_) he
  (first | obtain ⟨_, rfl⟩ := r₁.toInt | obtain ⟨_, rfl⟩ := r₁.toStr | obtain rfl := r₁.toNone | obtain rfl := r₁.toBool | obtain rfl := r₁.toObj | obtain rfl := r₁.toTy | obtain rfl := r₁.toNil | cases r₁)
  have R₁ := R.ext (h' := s₁.heap) fun a _ o h => e₁.keep a o h
  obtain ⟨t1, t2, t3, I⟩ := R₁.ins
  refine meth_names (Frag.In.ext X (hB.stp e₁).ext) ok I rfl rfl ?_
  refine callWith_go (h₀ := h₀) (V := V) kp hns (evalArgs_pes (ds := [fileD file, .str m]) (pes_cons hf (pes_cons hm pes_nil hst') hst) (fun h => nomatch h) hns hA (hB.stp e₁) (F.ext e₁.toStp0) fun vs s₂ e₂ r₂ => ⟨(hB.stp e₁).stp e₂, ?_⟩)
  obtain ⟨vf, vm, rfl, rf, rm⟩ := r₂.two
  have R₂ := R₁.ext (h' := s₂.heap) fun a _ o h => e₂.keep a o h
  have hB₂ := (hB.stp e₁).stp e₂
  have F₂ := (F.ext e₁.toStp0).ext e₂.toStp0
  refine wp_stp (W := [r.g]) (R := fun x s' => (∃ t, x = .int (askF M dirs μ file m) t) ∧ Rdr prog w C s'.heap r M dirs (upd μ m (askF M dirs μ file m)) (k + 1))
    (fun E' Q' q' => hN r M dirs μ k file m A s₂ E' Q' vf vm hA ⟨hB₂.ext, hB₂.toks, fun a ha => by rw [List.mem_singleton.mp ha]; exact hB₂.new _ hg⟩ R₂ hsz (rf.flat (by cases file <;> trivial)) (rm.flat trivial) fun t s' e' R' => q' _ s' e' ⟨⟨t, rfl⟩, R'⟩) ?_
  rintro x s₃ e₃ ⟨⟨t, rfl⟩, R₃⟩
  refine q _ s₃ ((e₁.trans e₂).nil.trans e₃) (.int _ _) (fun a ha => ?_) R₃
  by_cases e : a = r.g
  · rw [e]; exact R₃.live _ (.head _)
  · obtain ⟨o, ho⟩ := F₂.old a ha
    exact ⟨o, e₃.ext a o (by simpa using e) ho⟩
end
end Mine
end

section
open PySem PySem.Calls PySem.W PyProof.Rows
set_option Elab.async false
set_option maxRecDepth 100000
namespace Mine

theorem outs_idx {β : Type} (e' : β → D) (dflt : β) : ∀ (ds pre : List D) (out0 outl : List β), out0.length = pre.length → outl.length = ds.length →
    outs (fun _ => true) (fun pre _ => e' ((out0 ++ outl).getD pre.length dflt)) pre ds = outl.map e'
  | [], pre, out0, outl, h0, h1 => by have : outl = [] := List.eq_nil_of_length_eq_zero h1; subst this; rfl
  | d :: ds, pre, out0, b :: outl, h0, h1 => by
    have ih := outs_idx e' dflt ds (pre ++ [d]) (out0 ++ [b]) outl (by simp [h0]) (by simpa using h1)
    simp only [outs, if_true, List.map_cons]
    have e1 : out0 ++ [b] ++ outl = out0 ++ b :: outl := by simp
    rw [e1] at ih
    rw [ih]
    have e2 : (out0 ++ b :: outl).getD pre.length dflt = b := by rw [← h0]; simp
    rw [e2]; rfl
  | d :: ds, pre, out0, [], h0, h1 => by simp at h1

section
variable {prog : Program} {w : World} {h₀ : Heap} {n : Nat} {env : Env} {V : List Addr} {ρ : List (Str × D)} {B : List (List Addr × Shared)} {O O' : List (Addr × Ow)} {P P' P1 : Heap → Prop} {W : List Addr}

/-- what a comprehension keeps between its items -/
structure Keeps (fp : List Addr) (J : Nat → Heap → Prop) : Prop where
  ext : ∀ i h h', J i h → (∀ a ∈ fp, ∀ o, h.get? a = some o → h'.get? a = some o) → J i h'
  live : ∀ h, J 0 h → ∀ a ∈ fp, ∃ o, h.get? a = some o

/-- a comprehension whose items may write: the core -/
theorem compw {elt iter : Expr} {x : Str} {px : Pos} {scope : Scope} {pos cpos : Pos} {use : Option (Value → Sem Unit)} {α β : Type} (e : α → D) (e' : β → D) {l : List α} {outl : List β} (hlen : outl.length = l.length) {J : Nat → Heap → Prop} {fp : List Addr} (K : Keeps fp J)
    {A : Around} {s : Shared} {E : Value → Shared → Prop} {Q : Value → Shared → Prop} (hA : AOk n A) (hB : In0 h₀ V s) (F : Fm env V ρ s.heap) (hJ : J 0 s.heap) (hW : WOk env V W)
    (hit : IT prog w h₀ n env V ρ iter (l.map e)) (co : CompOk scope env) (hx : scope.names.lookup x = some .local ∨ scope.names.lookup x = some .cell)
    (helt : ∀ C V' i a b, l[i]? = some a → outl[i]? = some b → (∀ a ∈ V, a ∈ V') → (∀ a ∈ V', s.heap.get? a = none ∨ a ∈ V) → WOk (cEnv scope env C) V' W → PR prog w h₀ n (cEnv scope env C) V' ((x, e a) :: caps scope ρ) (J i) (J (i + 1)) W elt (e' b))
    (hsz : l.length ≤ sizeLine) (hfs : ∀ x, foldedSetIterable iter env x = pure x)
    (q : ∀ a C s', CEnd h₀ V W s s' a C (outl.map e') → J l.length s'.heap → compPost (model prog w) A E use Q (.ref a) C (.ok .next) s') :
    wpAny (model prog w) A (comprehension (.ListComp elt [⟨.Name x px, iter, [], 0⟩] scope pos) scope env cpos (newList []) false (eval iter env) use) Q E s := by
  cases outl with
  | nil =>
    have hl : l = [] := List.eq_nil_of_length_eq_zero hlen.symm
    subst hl
    refine comp_core hA hB F hit co hfs (tgt_name hx) (fun _ _ => trivial) W hW (fun pre s' => J 0 s'.heap) (fun _ => true) (fun _ d => d) (hdis_name hx) (fun pre s₁ s₂ h k => K.ext _ _ _ h fun a ha o ho => k a o (K.live _ hJ a ha) ho) hJ
      (fun C V' pre d post s₁ E Q hs _ _ _ _ _ => by simp at hs) (fun C V' pre d post s₁ E Q hs _ _ _ _ _ _ => by simp at hs) (fun _ _ _ h _ => nomatch h) (Nat.zero_le _) fun a C s' ce hj => ?_
    exact q a C s' ce hj
  | cons b0 outr =>
    generalize ho : b0 :: outr = outl at *
    have key := outs_idx e' b0 (l.map e) [] [] outl rfl (by rw [hlen, List.length_map])
    simp only [List.nil_append] at key
    refine comp_core hA hB F hit co hfs (tgt_name hx) (fun _ _ => trivial) W hW (fun pre s' => J pre.length s'.heap) (fun _ => true) (fun pre _ => e' (outl.getD pre.length b0)) (hdis_name hx) (fun pre s₁ s₂ h k => K.ext _ _ _ h fun a ha o ho => k a o (K.live _ hJ a ha) ho) hJ
      (fun C V' pre d post s₁ E Q hs _ hb hf _ hq => ts_nil A s₁ E Q hA hb hf hq) (fun C V' pre d post s₁ E Q hs _ hV hb hf hj hq => ?_) (fun _ _ _ h _ => nomatch h) (by rw [List.length_map]; exact hsz) fun a C s' ce hj => ?_
    · have hi : (l.map e)[pre.length]? = some d := by rw [hs]; simp
      rw [List.getElem?_map, Option.map_eq_some_iff] at hi
      obtain ⟨a, ha, rfl⟩ := hi
      have hlt : pre.length < outl.length := by rw [hlen]; exact (List.getElem?_eq_some_iff.mp ha).1
      have hb' : outl[pre.length]? = some outl[pre.length] := List.getElem?_eq_getElem hlt
      have eg : outl.getD pre.length b0 = outl[pre.length] := by simp [List.getD, hb']
      refine helt C V' pre.length a outl[pre.length] ha hb' hV.1 hV.2.1 (fun a ha => ⟨hV.1 a (hW a ha).1, hV.2.2 a ha⟩) A s₁ E Q hA hb hf hj fun v s' e1 r1 o1 j1 => hq v s' e1 ?_ o1 ?_
      · rw [eg]; exact r1
      · show J (pre ++ [e a]).length s'.heap
        rw [List.length_append]; exact j1
    · rw [key] at ce
      rw [List.length_map] at hj
      exact q a C s' ce hj

/-- [elt for x in iter], whose items may write -/
theorem pr_comp {elt iter : Expr} {x : Str} {px : Pos} {scope : Scope} {pos : Pos} {α β : Type} (e : α → D) (e' : β → D) {l : List α} {outl : List β} (hlen : outl.length = l.length) {J : Nat → Heap → Prop} {fp : List Addr} (K : Keeps fp J) (hW : WOk env V W)
    (hit : IT prog w h₀ n env V ρ iter (l.map e)) (co : CompOk scope env) (hx : scope.names.lookup x = some .local ∨ scope.names.lookup x = some .cell)
    (helt : ∀ C V' i a b, l[i]? = some a → outl[i]? = some b → (∀ a ∈ V, a ∈ V') → WOk (cEnv scope env C) V' W → PR prog w h₀ n (cEnv scope env C) V' ((x, e a) :: caps scope ρ) (J i) (J (i + 1)) W elt (e' b))
    (hsz : l.length ≤ sizeLine) (hfs : autoParam (∀ x, foldedSetIterable iter env x = pure x) tacIntroRfl) :
    PR prog w h₀ n env V ρ (J 0) (J l.length) W (.ListComp elt [⟨.Name x px, iter, [], 0⟩] scope pos) (.list (outl.map e')) := by
  intro A s E Q hA hB F hJ q
  rw [eval_ListComp]
  refine wp_stp (W := W) (R := fun v s' => Rep V s'.heap v (.list (outl.map e')) ∧ Old V s'.heap ∧ J l.length s'.heap) (fun E' Q' q' => ?_) (by rintro v s' e ⟨h1, h2, h3⟩; exact q v s' e h1 h2 h3)
  refine compw e e' hlen K hA hB F hJ hW hit co hx (fun C V' i a b h1 h2 h3 _ h5 => helt C V' i a b h1 h2 h3 h5) hsz hfs fun a C s' ce hj => ?_
  refine ⟨ce.ns.choose, ce.ns.choose_spec, fun h' hs' => q' _ _ ⟨ce.gens, ce.os, fun b o hb e => ?_⟩ ⟨?_, fun b hb => ?_, K.ext _ _ _ hj fun b hb o ho => hs'.extBut b o (fun q => ?_) ho⟩⟩
  · exact hs'.extBut b o (fun q => by rw [q, ce.fC] at e; cases e) (ce.kept b o hb e)
  · obtain ⟨ys, hl, hr⟩ := ce.list
    have ext : ExtB [C] s'.heap h' := fun b o hb e => hs'.extBut b o (by simpa using hb) e
    refine .list (fun hm => ?_) (hl.extBut hs'.extBut ce.ne) ?_
    · obtain ⟨o, ho⟩ := F.old a hm; rw [ce.fa] at ho; cases ho
    · exact (hr.ext (fun x hx => by rw [List.mem_singleton.mp hx]; exact .head _) ext).shun fun x o hx _ hm => hx (.tail _ hm)
  · obtain ⟨o, ho⟩ := ce.old b hb
    refine ⟨o, hs'.extBut b o (fun q => ?_) ho⟩
    obtain ⟨o', ho'⟩ := F.old b hb
    rw [q, ce.fC] at ho'; cases ho'
  · obtain ⟨o', ho'⟩ := K.live _ hJ b hb
    rw [q, ce.fC] at ho'; cases ho'

/-- a body's owned things are told anew behind a step that wrote them -/
theorem Bo.step {s s' : Shared} (b : Bo h₀ B env V ρ O s) (e : Stp (O.map (·.1)) s s') (hO : O'.map (·.1) = O.map (·.1)) (o : Old V s'.heap) (p : OwnP V O' s'.heap) : Bo h₀ B env V ρ O' s' := by
  have hW : WOk env V (O.map (·.1)) := fun a ha => by
    obtain ⟨q, hq, rfl⟩ := List.mem_map.mp ha
    exact ⟨(b.onew q hq).1, (b.onew q hq).2.1⟩
  refine ⟨b.fm.wr e hW o, b.in0.wr e fun a ha => (hW a ha).1, fun q hq => ⟨e.gens.trans (b.keep q hq).gens, e.os.trans (b.keep q hq).os, fun a o ha ho => e.ext a o (fun hm => ?_) ((b.keep q hq).ext a o ha ho)⟩, b.newO, fun q hq => (p q hq).2, fun q hq => ?_, by rw [hO]; exact b.odis, b.wv⟩
  · obtain ⟨z, hz, rfl⟩ := List.mem_map.mp hm
    rcases (b.onew z hz).2.2 q hq with h | h
    · exact ha h
    · rw [h] at ho; cases ho
  · have : q.1 ∈ O.map (·.1) := by rw [← hO]; exact List.mem_map_of_mem hq
    obtain ⟨z, hz, hz1⟩ := List.mem_map.mp this
    rw [← hz1]; exact b.onew z hz
theorem Bo.ownP {s : Shared} (b : Bo h₀ B env V ρ O s) : OwnP V O s.heap := fun p hp => ⟨(b.onew p hp).1, b.own p hp⟩
theorem Bo.wok {s : Shared} (b : Bo h₀ B env V ρ O s) : WOk env V (O.map (·.1)) := fun a ha => by
  obtain ⟨q, hq, rfl⟩ := List.mem_map.mp ha
  exact ⟨(b.onew q hq).1, (b.onew q hq).2.1⟩

/-- x = e, where e may write what is owned -/
theorem bo_assignr {x : Str} {px pos : Pos} {e : Expr} {d : D} {rest : List Stmt} {A : Around} {s : Shared} {E : Value → Shared → Prop} {Q : Flow → Shared → Prop} (hA : AOk n A) (b : Bo h₀ B env V ρ O s)
    (he : PR prog w h₀ n env V ρ (OwnP V O) (OwnP V O') (O.map (·.1)) e d) (hO : O'.map (·.1) = O.map (·.1)) (hk : KOk env x)
    (q : ∀ s', Bo h₀ B env V ((x, d) :: ρ) O' s' → wpAny (model prog w) A (execs rest env) Q E s')
    (hsw : autoParam (swapsWith e (some (.Name x px)) pos.line env = pure false) tacRfl) : wpAny (model prog w) A (execs (.Assign [.Name x px] e pos :: rest) env) Q E s := by
  refine ex_cons (wpAny_Assign_Name (he A s E _ hA b.in0 b.fm b.ownP fun v s₁ e₁ r₁ o₁ p₁ => ?_) hsw)
  have b₁ := b.step e₁ hO o₁ p₁
  exact store_go b₁.in0 b₁.fm r₁ hk fun s' e' k' i' f' => q s' (b₁.store e' k' i' f')

/-- what a body that writes may give back -/
noncomputable def FinW (V W : List Addr) (s : Shared) (O' : List (Addr × Ow)) (d : D) (Q : Flow → Shared → Prop) : Prop :=
  ∀ v s' V', (∀ a ∈ V, a ∈ V') → Stp0 W s s' → Rep V' s'.heap v d → Old V' s'.heap → OwnP V' O' s'.heap → Q (.ret v) s'
theorem bo_retr {e : Expr} {pos : Pos} {rest : List Stmt} {d : D} {U : List Addr} {s0 : Shared} {A : Around} {s : Shared} {E : Value → Shared → Prop} {Q : Flow → Shared → Prop} (hA : AOk n A) (b : Bo h₀ B env (U ++ V) ρ O s) (hb : (W, s0) ∈ B)
    (he : PR prog w h₀ n env (U ++ V) ρ (OwnP (U ++ V) O) (OwnP (U ++ V) O') (O.map (·.1)) e d) (hO : O'.map (·.1) = O.map (·.1)) (q : FinW V W s0 O' d Q) : wpAny (model prog w) A (execs (.Return (some e) pos :: rest) env) Q E s := by
  refine ex_cons (wpAny_Return_some (he A s E _ hA b.in0 b.fm b.ownP fun v s' e' r o p => ?_))
  have b' := b.step e' hO o p
  exact q v s' (U ++ V) (fun _ ha => List.mem_append_right _ ha) (b'.keep _ hb) r o p

/-- a def that may write what it is handed -/
theorem cl_fnw {f : Addr} {fd : FuncData} {body : List Stmt} {params : List Str} {ds : List D} {d : D} (K : Fn h₀ f fd body) (hlim : h₀.NoLimit)
    (hbind : ∀ vals : List Value, vals.length = params.length → bindArgs fd ⟨vals, []⟩ = pure (params.zip vals)) (hlen : ds.length = params.length)
    (hnd : params.Nodup) (hkind : ∀ x ∈ params, fd.scope.names.lookup x = some .local ∨ fd.scope.names.lookup x = some .cell) (hdis : (O.map (·.1)).Nodup)
    (hbody : ∀ (A : Around) (s s₁ : Shared) (L : Addr) (U : List Addr) (E : Value → Shared → Prop) (Q : Flow → Shared → Prop), AOk n A → (∀ a, a ∈ U ↔ Own (callEnvC fd L f) a) →
      Bo h₀ [(O.map (·.1), s)] (callEnvC fd L f) (U ++ V) (params.zip ds) O s₁ → FinW V (O.map (·.1)) s O' d Q → wpAny (model prog w) A (execs body (callEnvC fd L f)) Q E s₁) (hO : ∀ p ∈ O', p.1 ∈ V) :
    CLW prog w h₀ (n + 1) V O O' (.ref f) ds d := by
  intro A s E Q vs hA hB hold hr hown q
  refine wpAny_call (fn_code (n := n) (params := params) (ds := ds) K hlim hA hB hold (fun E' Q' q' => ?_) hnd hkind fun L s₁ U E' hUn hU b => ?_)
  · rw [hbind vs (by rw [hr.length, hlen])]
    refine wpAny_pure (q' _ s (.refl _) ?_ ?_)
    · rw [List.map_fst_zip]; rw [hr.length, hlen]; exact Nat.le_refl _
    · rw [List.map_snd_zip]
      · exact hr
      · rw [hr.length, hlen]; exact Nat.le_refl _
  · refine hbody _ s s₁ L U E' _ hA.deeper hU (b.boW hUn O (fun p hp => (hown p hp).2) (fun p hp => (hown p hp).1) hold hdis) fun v s' V' hV e r o p => q v s' e (r.shun fun a _ ha _ hm => ha (hV a hm)) (fun a ha => o a (hV a ha)) fun z hz => ⟨hO z hz, z.2.shun (p z hz).2 fun c _ hc _ hm => hc (hV c hm)⟩

/-- an owned list is read -/
theorem px_thaw {a : Addr} {x : Str} {l : List D} {e : Expr} {d : D} (hm : (a, ol l) ∈ O) (hx : ρ.lookup x = some (.obj a)) (hno : ¬ Own env a) (hf : Flat d) (h : ∀ V', PE prog w h₀ n env V' ((x, .list l) :: ρ) e d) : PR prog w h₀ n env V ρ (OwnP V O) (OwnP V O) W e d := by
  intro A s E Q hA hB F p q
  have hV : ∀ b, b ∈ V.filter (fun b => decide (b ≠ a)) ↔ b ∈ V ∧ b ≠ a := fun b => by simp
  have ow : ∀ c, Own env c → c ∈ V.filter (fun b => decide (b ≠ a)) := fun c hc => (hV c).mpr ⟨hc.elim (fun h => h ▸ F.vloc) fun ⟨y, h⟩ => F.vcell y c h, fun e => hno (e ▸ hc)⟩
  have F' := F.thaw (V' := V.filter (fun b => decide (b ≠ a))) hx (p _ hm).2 (fun b hb => ((hV b).mp hb).1) (fun hb => ((hV a).mp hb).2 rfl) (ow _ (.inl rfl)) fun y c hc => ow c (.inr ⟨y, hc⟩)
  exact h _ A s E Q hA ⟨hB.ext, hB.toks, fun b hb => hB.new b ((hV b).mp hb).1⟩ F' fun v s' e' r => q v s' e'.nil (r.flat hf) (F.ext e'.toStp0).old (p.stp e'.keep)
/-- a new list is made of an owned one -/
theorem px_thawL {a : Addr} {x : Str} {l : List D} {e : Expr} {ds : List D} (hm : (a, ol l) ∈ O) (hx : ρ.lookup x = some (.obj a)) (hno : ¬ Own env a) (hf : ∀ d ∈ ds, Flat d) (h : ∀ V', PEF prog w h₀ n env V' ((x, .list l) :: ρ) e ds) : PR prog w h₀ n env V ρ (OwnP V O) (OwnP V O) W e (.list ds) := by
  intro A s E Q hA hB F p q
  have hV : ∀ b, b ∈ V.filter (fun b => decide (b ≠ a)) ↔ b ∈ V ∧ b ≠ a := fun b => by simp
  have ow : ∀ c, Own env c → c ∈ V.filter (fun b => decide (b ≠ a)) := fun c hc => (hV c).mpr ⟨hc.elim (fun h => h ▸ F.vloc) fun ⟨y, h⟩ => F.vcell y c h, fun e => hno (e ▸ hc)⟩
  have F' := F.thaw (V' := V.filter (fun b => decide (b ≠ a))) hx (p _ hm).2 (fun b hb => ((hV b).mp hb).1) (fun hb => ((hV a).mp hb).2 rfl) (ow _ (.inl rfl)) fun y c hc => ow c (.inr ⟨y, hc⟩)
  refine h _ A s E Q hA ⟨hB.ext, hB.toks, fun b hb => hB.new b ((hV b).mp hb).1⟩ F' fun c s' e' hc r => q _ s' e'.nil ?_ (F.ext e'.toStp0).old (p.stp e'.keep)
  cases r with | list _ hl rl =>
  exact .list (fun hm => by obtain ⟨o, ho⟩ := F.old c hm; rw [hc] at ho; cases ho) hl (rl.flat hf)

/-- data without a footprint of its own -/
noncomputable def NoFoot (d : D) : Prop := Flat d ∨ ∃ a, d = .obj a
theorem Rep.noFoot {V V' : List Addr} {h h' : Heap} {v : Value} {d : D} (f : NoFoot d) (r : Rep V h v d) : Rep V' h' v d := by
  rcases f with f | ⟨a, rfl⟩
  · exact r.flat f
  · cases r; exact .obj a
theorem RepL.noFoot {V V' : List Addr} {h h' : Heap} : ∀ {vs : List Value} {ds : List D}, (∀ d ∈ ds, NoFoot d) → RepL V h vs ds → RepL V' h' vs ds
  | _, _, _, .nil => .nil
  | _, _, f, .cons r rs => .cons (r.noFoot (f _ (.head _))) (rs.noFoot fun d hd => f d (.tail _ hd))
theorem pef_list {elts : List Expr} {pos : Pos} {ds : List D} (h : PEs prog w h₀ n env V ρ pos elts ds) (hsz : ds.length ≤ sizeLine) : PEF prog w h₀ n env V ρ (.List elts pos) ds := by
  intro A s E Q hA hB F q
  refine wpAny_List (h A s E _ hA hB F fun vs s₁ e₁ r₁ => ⟨r₁.length ▸ hsz, ?_⟩)
  exact q _ _ (e₁.trans ⟨.push _ _, Nat.le_refl _⟩) (none_of_ext e₁.keep (fresh_none _)) (rep_newList (F.ext e₁.toStp0).old r₁)

/-- a new list becomes the body's own -/
theorem Bo.take {s s' : Shared} {a : Addr} {ds : List D} (b : Bo h₀ B env V ρ O s) (e : Stp [] s s') (ha : s.heap.get? a = none) (r : Rep V s'.heap (.ref a) (.list ds)) (hf : ∀ d ∈ ds, NoFoot d) :
    (∀ p ∈ B, p.2.heap.get? a = none) ∧ a ∉ V ∧ Bo h₀ B env (a :: V) ρ ((a, ol ds) :: O) s' := by
  cases r with | list _ hl rl =>
  have hav : a ∉ V := fun hm => by obtain ⟨o, ho⟩ := b.fm.old a hm; rw [ha] at ho; cases ho
  have n0 : ∀ p ∈ B, p.2.heap.get? a = none := fun p hp => by
    cases q : p.2.heap.get? a with
    | none => rfl
    | some o => rw [(b.keep p hp).ext _ o (fun hm => hav (b.wv p hp _ hm)) q] at ha; cases ha
  have b1 := b.grow e ha (let ⟨_, h⟩ := hl; ⟨_, h⟩)
  have han : ¬ Own env a := fun h => hav (b.ownV h)
  refine ⟨n0, hav, b1.fm, b1.in0, b1.keep, b1.newO, fun p hp => ?_, fun p hp => ?_, ?_, b1.wv⟩
  · rcases List.mem_cons.mp hp with rfl | hp
    · exact ⟨_, hl, rl.noFoot hf⟩
    · exact b1.own p hp
  · rcases List.mem_cons.mp hp with rfl | hp
    · exact ⟨.head _, han, fun p hp => .inr (n0 p hp)⟩
    · exact b1.onew p hp
  · refine List.nodup_cons.mpr ⟨fun hm => ?_, b.odis⟩
    obtain ⟨p, hp, q⟩ := List.mem_map.mp hm
    exact hav (show a ∈ V from (show p.1 = a from q) ▸ (b.onew p hp).1)
/-- o.append(e), o an owned list -/
theorem bo_appendr {o : Expr} {apos pos spos : Pos} {e : Expr} {d : D} {a : Addr} {ds : List D} {O1 O2 : List (Addr × Ow)} {rest : List Stmt} {A : Around} {s : Shared} {E : Value → Shared → Prop} {Q : Flow → Shared → Prop} (hA : AOk n A) (b : Bo h₀ B env V ρ (O1 ++ (a, ol ds) :: O2) s)
    (ho : PE prog w h₀ n env V ρ o (.obj a)) (he : PR prog w h₀ n env V ρ (OwnP V (O1 ++ (a, ol ds) :: O2)) (OwnP V (O1 ++ (a, ol ds) :: O2)) [] e d) (hsz : ds.length ≤ sizeLine)
    (q : ∀ s', Bo h₀ B env V ρ (O1 ++ (a, ol (ds ++ [d])) :: O2) s' → wpAny (model prog w) A (execs rest env) Q E s')
    (hbase : autoParam (attributeBase o "append" env (eval o env) = eval o env) tacRfl)
    (hst : autoParam (starEach [e] env = [(false, eval e env)]) tacRfl) (hi : autoParam (interactive env = false) tacRfl) (hsw : autoParam (swapsWith (.Call (.Attribute o "append" apos) [e] [] pos) none spos.line env = pure false) tacRfl) (hline : autoParam ((apos.endLine == pos.line) = true) tacRfl) :
    wpAny (model prog w) A (execs (.Expr (.Call (.Attribute o "append" apos) [e] [] pos) spos :: rest) env) Q E s := by
  have hm : (a, ol ds) ∈ O1 ++ (a, ol ds) :: O2 := List.mem_append_right _ (.head _)
  refine ex_cons (wpAny_Expr (wpAny_Call_append hbase (by rw [hst]; rfl) hline (by rw [hst]; rfl) ?_) hi hsw)
  refine ho A s E _ hA b.in0 b.fm fun v s₁ e₁ r₁ => ?_
  cases r₁
  have b₁ := b.pure e₁
  obtain ⟨vs, ⟨k, hk⟩, hr⟩ := b₁.own _ hm
  refine ⟨a, vs, rfl, ⟨_, k, hk, rfl, rfl, rfl⟩, ?_⟩
  refine he A s₁ E _ hA b₁.in0 b₁.fm b₁.ownP fun u s₂ e₂ r₂ o₂ p₂ => ?_
  have b₂ := b₁.pure e₂
  obtain ⟨vs, hl, hr⟩ := b₂.own _ hm
  obtain ⟨hav, han, n0⟩ := b₂.onew _ hm
  have hdis := b₂.odis
  rw [List.map_append, List.map_cons, List.nodup_append] at hdis
  refine wpAny_with_toks (Nat.le_refl s₂.toks) (wpAny_list_append_plain hl (fun h' hl' hs' ht => ?_) (by rw [hr.toArray]; exact hsz))
  have ext : ExtB [a] s₂.heap h' := fun b o hb e => hs'.extBut b o (by simpa using hb) e
  have inA : ∀ b ∈ [a], b ∈ V := fun b hb => by rw [List.mem_singleton.mp hb]; exact hav
  refine q _ (b₂.step (O' := O1 ++ (a, ol (ds ++ [d])) :: O2) (s' := { s₂ with heap := h' }) ⟨⟨rfl, rfl, fun c o hc e => ext c o (fun hm' => hc (by rw [List.mem_singleton.mp hm']; exact List.mem_map_of_mem (f := fun p : Addr × Ow => p.1) hm)) e⟩, ht⟩ (by simp) (fun c hc => ?_) fun p hp => ?_)
  · by_cases e : c = a
    · rw [e]; obtain ⟨k, hk⟩ := hl'; exact ⟨_, hk⟩
    · obtain ⟨o, ho⟩ := b₂.fm.old c hc; exact ⟨o, ext c o (by simpa using e) ho⟩
  · have old : ∀ p ∈ O1 ++ O2, p.1 ≠ a → p.1 ∈ V ∧ p.2.P V h' p.1 := fun p hp hne => by
      have hp' : p ∈ O1 ++ (a, ol ds) :: O2 := (List.mem_append.mp hp).elim (List.mem_append_left _) fun h => List.mem_append_right _ (.tail _ h)
      exact ⟨(b₂.onew p hp').1, p.2.ext (b₂.own p hp') ext inA (by simpa using hne)⟩
    rcases List.mem_append.mp hp with hp | hp
    · exact old p (List.mem_append_left _ hp) fun e => hdis.2.2 p.1 (List.mem_map_of_mem hp) a (.head _) e
    · rcases List.mem_cons.mp hp with rfl | hp
      · refine ⟨hav, _, hl', ?_⟩
        have := (hr.append (.cons r₂ .nil)).ext inA ext
        simpa using this
      · exact old p (List.mem_append_right _ hp) fun e => (List.nodup_cons.mp hdis.2.1).1 (show a ∈ O2.map (·.1) from e ▸ List.mem_map_of_mem (f := fun p : Addr × Ow => p.1) hp)
end
end Mine
end

section
open PySem PySem.Calls PySem.W PyProof.Rows
set_option Elab.async false
set_option maxRecDepth 100000
namespace Mine

theorem rangeZ_at {a b : Int} {pre post : List D} {d : D} (h : dInts (rangeZ a b) = pre ++ d :: post) : d = .int (a + pre.length) ∧ pre.length < (b - a).toNat := by
  have hi : (dInts (rangeZ a b))[pre.length]? = some d := by rw [h]; simp
  obtain ⟨h1, h2⟩ := rangeZ_get hi
  exact ⟨h2, h1⟩
theorem fmodN (a b : Nat) : (a : Int).fmod (b : Int) = ((a % b : Nat) : Int) := by rw [Int.fmod_eq_emod_of_nonneg _ (by omega)]; omega
theorem fdivN (a b : Nat) : (a : Int).fdiv (b : Int) = ((a / b : Nat) : Int) := by rw [Int.fdiv_eq_ediv_of_nonneg _ (by omega)]; omega

/-! ### the first law's plain functions -/
end Mine
end

section
open PySem PySem.Calls PySem.W PyProof.Rows
set_option Elab.async false
set_option maxRecDepth 100000
namespace Mine

theorem filterMap_at {α : Type} (ds : List α) : ∀ (k a : Nat), a + k ≤ ds.length → ((List.range k).map (a + ·)).filterMap (ds[·]?) = (ds.take (a + k)).drop a
  | 0, a, h => by simp
  | k + 1, a, h => by
    have ih := filterMap_at ds k a (by omega)
    rw [List.range_succ, List.map_append, List.filterMap_append, ih]
    have hlt : a + k < ds.length := by omega
    rw [← Nat.add_assoc, List.take_add_one, List.drop_append, List.getElem?_eq_getElem hlt]
    have : a - (ds.take (a + k)).length = 0 := by rw [List.length_take]; omega
    rw [this]
    simp [List.getElem?_eq_getElem hlt]
theorem pick_one {α : Type} (ds : List α) (lo hi : Option Int) (a b : Nat) (h1 : (sliceBounds lo hi none ds.length).1 = (a : Int)) (h2 : (sliceBounds lo hi none ds.length).2.1 = (b : Int)) (ha : a ≤ b) (hb : b ≤ ds.length) : pick ds lo hi none = (ds.take b).drop a := by
  unfold pick
  rw [h1, h2]
  show (sliceRange (a : Int) (b : Int) 1).filterMap _ = _
  rw [sliceRange_one, filterMap_at ds (b - a) a (by omega)]
  congr 2; omega
theorem pick_take {α : Type} (ds : List α) (k : Nat) : pick ds none (some (k : Int)) none = ds.take k := by
  rw [pick_one ds none (some (k : Int)) 0 (min k ds.length) rfl (by simp [sliceBounds]; omega) (Nat.zero_le _) (Nat.min_le_right _ _), List.drop_zero]
  by_cases h : k ≤ ds.length
  · rw [Nat.min_eq_left h]
  · rw [Nat.min_eq_right (by omega), List.take_length, List.take_of_length_le (by omega)]
theorem pick_drop {α : Type} (ds : List α) (k : Nat) : pick ds (some (k : Int)) none none = ds.drop k := by
  rw [pick_one ds (some (k : Int)) none (min k ds.length) ds.length (by simp [sliceBounds]; omega) (by simp [sliceBounds]) (Nat.min_le_right _ _) (Nat.le_refl _), List.take_length]
  by_cases h : k ≤ ds.length
  · rw [Nat.min_eq_left h]
  · rw [Nat.min_eq_right (by omega), List.drop_length, List.drop_of_length_le (by omega)]
section
variable {prog : Program} {w : World} {h₀ : Heap} {n : Nat} {env : Env} {V : List Addr} {ρ : List (Str × D)} {B : List (List Addr × Shared)} {O O' : List (Addr × Ow)} {W : List Addr}

theorem kp_cls {KK : Frag} {C fI fN : Addr} (X : KK.In h₀) (ok : ClsOk KK C fI fN) : Kp h₀ (.ref C) := by
  refine ⟨⟨.machine, fun M A E Q s V hs q => ?_⟩⟩
  obtain ⟨oc, od, cd, sl, hC, _⟩ := (makes_of (M := M) X ok.makes).obj
  unfold keeperOf
  refine wpAny_bind (wpAny_load (hs.ext _ _ hC) ?_)
  dsimp only
  refine wpAny_bind (((makes_of (M := M) (Frag.In.ext X hs.ext) ok.makes).call).here ?_)
  exact wpAny_pure q

/-- C(..): a new reader -/
theorem ev_make {C : Addr} {f : Str} {fp pos : Pos} {args : List Expr} {M : List Str} {P : Option (List Str)} {A : Around} {s : Shared} {E : Value → Shared → Prop} {Q : Value → Shared → Prop} (g : GV h₀ f (.ref C)) (kp : Kp h₀ (.ref C)) (mk : MK prog w h₀ C n) (hA : AOk n A) (hB : In0 h₀ V s) (F : Fm env V ρ s.heap)
    (hargs : PEs prog w h₀ n env V ρ pos args (mkArgs M P)) (hM : M.length + 1 < scanBound) (hP : ∀ p ∈ P.getD [], PathOk p) (hPl : (P.getD []).length ≤ sizeLine)
    (q : ∀ r s', Stp [] s s' → s.heap.get? r.g = none → (∀ a ∈ r.fp, a ∉ V) → Rdr prog w C s'.heap r M ((P.getD []).map normP) μ0 1 → Q (.ref r.x) s')
    (hne : autoParam (args ≠ []) tacSimp) (hns : autoParam ((backTo pos (starEach args env)).any (·.1) = false) tacRfl) (hk : autoParam (env.kindOf f = some .globalImplicit) tacRfl) (hd : autoParam ((f == ("__debug__" : Str)) = false) tacDecide) :
    wpAny (model prog w) A (eval (.Call (.Name f fp) args [] pos) env) Q E s := by
  refine wpAny_Call_NameR (Name_function_global F.ok.kind hk (g.load _ _ _ _ s _ _ F.ok hB ?_) hd)
  refine callWith_go kp hns (evalArgs_pes hargs (fun h => absurd h hne) hns hA hB F fun vs s₁ e₁ r₁ => ⟨hB.stp e₁, ?_⟩)
  refine wp_stp (W := []) (R := fun v s' => ∃ r, v = .ref r.x ∧ s₁.heap.get? r.g = none ∧ (∀ a ∈ r.fp, a ∉ V) ∧ Rdr prog w C s'.heap r M ((P.getD []).map normP) μ0 1)
    (fun E' Q' q' => mk V M P A s₁ E' Q' vs hA (hB.stp e₁) (F.ext e₁.toStp0).old hM hP hPl r₁ fun r s' e h1 h2 h3 => q' _ s' e ⟨r, rfl, h1, h2, h3⟩) ?_
  rintro v s₂ e₂ ⟨r, rfl, h1, h2, h3⟩
  exact q r s₂ (e₁.trans e₂) (none_of_ext e₁.keep h1) h2 h3

/-- a new reader becomes the body's own -/
theorem Bo.takeR {s s' : Shared} {C : Addr} {r : RdA} {M dirs : List Str} {μ : Str → Option Int} {k : Nat} (b : Bo h₀ B env V ρ O s) (e : Stp [] s s') (hg : s.heap.get? r.g = none) (hfp : ∀ a ∈ r.fp, a ∉ V) (R : Rdr prog w C s'.heap r M dirs μ k) :
    Bo h₀ B env (r.g :: V) ρ ((r.g, orr prog w C r M dirs μ k) :: O) s' := by
  have hav : r.g ∉ V := fun hm => by obtain ⟨o, ho⟩ := b.fm.old _ hm; rw [hg] at ho; cases ho
  have n0 : ∀ p ∈ B, p.2.heap.get? r.g = none := fun p hp => by
    cases q : p.2.heap.get? r.g with
    | none => rfl
    | some o => rw [(b.keep p hp).ext _ o (fun hm => hav (b.wv p hp _ hm)) q] at hg; cases hg
  have b1 := b.grow e hg (R.live _ (.head _))
  refine ⟨b1.fm, b1.in0, b1.keep, b1.newO, fun p hp => ?_, fun p hp => ?_, ?_, b1.wv⟩
  · rcases List.mem_cons.mp hp with rfl | hp
    · exact ⟨rfl, fun c hc hm => (List.mem_cons.mp hm).elim (fun e => R.ne (e ▸ hc)) (hfp c hc), R⟩
    · exact b1.own p hp
  · rcases List.mem_cons.mp hp with rfl | hp
    · exact ⟨.head _, fun h => hav (b.ownV h), fun p hp => .inr (n0 p hp)⟩
    · exact b1.onew p hp
  · refine List.nodup_cons.mpr ⟨fun hm => ?_, b.odis⟩
    obtain ⟨p, hp, q⟩ := List.mem_map.mp hm
    exact hav (show r.g ∈ V from (show p.1 = r.g from q) ▸ (b.onew p hp).1)
/-- x = C(..) -/
theorem bo_make {x : Str} {px : Pos} {C : Addr} {f : Str} {fp pos pos2 : Pos} {args : List Expr} {M : List Str} {P : Option (List Str)} {rest : List Stmt} {A : Around} {s : Shared} {E : Value → Shared → Prop} {Q : Flow → Shared → Prop} (g : GV h₀ f (.ref C)) (kp : Kp h₀ (.ref C)) (mk : MK prog w h₀ C n) (hA : AOk n A) (b : Bo h₀ B env V ρ O s)
    (hargs : PEs prog w h₀ n env V ρ pos args (mkArgs M P)) (hM : M.length + 1 < scanBound) (hP : ∀ p ∈ P.getD [], PathOk p) (hPl : (P.getD []).length ≤ sizeLine) (hk : KOk env x)
    (q : ∀ r s', r.g ∉ V → Bo h₀ B env (r.g :: V) ((x, .obj r.x) :: ρ) ((r.g, orr prog w C r M ((P.getD []).map normP) μ0 1) :: O) s' → wpAny (model prog w) A (execs rest env) Q E s')
    (hne : autoParam (args ≠ []) tacSimp) (hns : autoParam ((backTo pos (starEach args env)).any (·.1) = false) tacRfl) (hkf : autoParam (env.kindOf f = some .globalImplicit) tacRfl) (hd : autoParam ((f == ("__debug__" : Str)) = false) tacDecide)
    (hsw : autoParam (swapsWith (.Call (.Name f fp) args [] pos) (some (.Name x px)) pos2.line env = pure false) tacRfl) : wpAny (model prog w) A (execs (.Assign [.Name x px] (.Call (.Name f fp) args [] pos) pos2 :: rest) env) Q E s := by
  refine ex_cons (wpAny_Assign_Name (ev_make g kp mk hA b.in0 b.fm hargs hM hP hPl (fun r s₁ e₁ h1 h2 h3 => ?_) hne hns hkf hd) hsw)
  have b₁ := b.takeR e₁ h1 h2 h3
  have hg : r.g ∉ V := fun hm => by obtain ⟨o, ho⟩ := b.fm.old _ hm; rw [h1] at ho; cases ho
  exact store_go b₁.in0 b₁.fm (.obj r.x) hk fun s' e' k' i' f' => q r s' hg (b₁.store e' k' i' f')
end

/-! ### what a reader answers, one by one -/
noncomputable def asksL (M dirs : List Str) : (Str → Option Int) → List (Option Str × Str) → List Int
  | _, [] => []
  | μ, q :: qs => askF M dirs μ q.1 q.2 :: asksL M dirs (upd μ q.2 (askF M dirs μ q.1 q.2)) qs
noncomputable def memoL (M dirs : List Str) : (Str → Option Int) → List (Option Str × Str) → (Str → Option Int)
  | μ, [] => μ
  | μ, q :: qs => memoL M dirs (upd μ q.2 (askF M dirs μ q.1 q.2)) qs
theorem asksL_length (M dirs : List Str) : ∀ (qs : List (Option Str × Str)) (μ : Str → Option Int), (asksL M dirs μ qs).length = qs.length
  | [], _ => rfl
  | q :: qs, μ => by simp [asksL, asksL_length M dirs qs]
theorem memoL_snoc (M dirs : List Str) : ∀ (qs : List (Option Str × Str)) (μ : Str → Option Int) (q : Option Str × Str), memoL M dirs μ (qs ++ [q]) = upd (memoL M dirs μ qs) q.2 (askF M dirs (memoL M dirs μ qs) q.1 q.2)
  | [], μ, q => rfl
  | p :: qs, μ, q => memoL_snoc M dirs qs _ q
theorem asksL_get (M dirs : List Str) : ∀ (qs : List (Option Str × Str)) (μ : Str → Option Int) (i : Nat) (q : Option Str × Str), qs[i]? = some q → (asksL M dirs μ qs)[i]? = some (askF M dirs (memoL M dirs μ (qs.take i)) q.1 q.2)
  | [], _, i, q, h => by simp at h
  | p :: qs, μ, 0, q, h => by simp at h; subst h; rfl
  | p :: qs, μ, i + 1, q, h => by
    simp only [List.getElem?_cons_succ] at h
    exact asksL_get M dirs qs _ i q h
/-- a memo of yes and no -/
noncomputable def Bits (μ : Str → Option Int) : Prop := ∀ y v, μ y = some v → v = 0 ∨ v = 1
theorem askNew_bit (M dirs : List Str) (f : Option Str) (m : Str) : askNew M dirs f m = 0 ∨ askNew M dirs f m = 1 := by
  unfold askNew
  split
  · exact .inr rfl
  · split
    · exact .inr rfl
    · split
      · exact .inr rfl
      · exact .inl rfl
theorem Bits.ask {μ : Str → Option Int} (b : Bits μ) (M dirs : List Str) (f : Option Str) (m : Str) : askF M dirs μ f m = 0 ∨ askF M dirs μ f m = 1 := by
  unfold askF
  cases h : μ m with
  | none => exact askNew_bit M dirs f m
  | some v => exact b m v h
theorem Bits.upd {μ : Str → Option Int} (b : Bits μ) {m : Str} {v : Int} (hv : v = 0 ∨ v = 1) : Bits (upd μ m v) := fun y u h => by
  unfold Mine.upd at h
  split at h
  · cases h; exact hv
  · exact b y u h
theorem Bits.memo (M dirs : List Str) : ∀ (qs : List (Option Str × Str)) {μ : Str → Option Int}, Bits μ → Bits (memoL M dirs μ qs)
  | [], _, b => b
  | q :: qs, _, b => Bits.memo M dirs qs (b.upd (b.ask M dirs q.1 q.2))
theorem bits0 : Bits μ0 := fun y v h => by
  unfold μ0 upd at h
  split at h
  · cases h; exact .inr rfl
  · cases h
noncomputable def strI (v : Int) : Str := Str.ofString (toString v)
end Mine
end

section
open PySem PySem.Calls PySem.W PyProof.Rows
set_option Elab.async false
set_option maxRecDepth 100000
namespace Mine
section
variable {prog : Program} {w : World} {h₀ : Heap} {n : Nat} {env : Env} {V : List Addr} {ρ : List (Str × D)} {B : List (List Addr × Shared)} {O O' : List (Addr × Ow)} {W : List Addr}

/-- y = [elt for x in iter if ..], by a type of the items -/
theorem bo_ccf {α β : Type} (e : α → D) (dec : D → α) (hdec : ∀ a, dec (e a) = a) (e' : β → D) {l : List α} {t : α → Bool} {f : α → β} {elt iter : Expr} {x y : Str} {px py : Pos} {ifs : List Expr} {scope : Scope} {pos spos : Pos} {rest : List Stmt}
    {A : Around} {s : Shared} {E : Value → Shared → Prop} {Q : Flow → Shared → Prop} (hA : AOk n A) (b : Bo h₀ B env V ρ O s)
    (hit : IT prog w h₀ n env V ρ iter (l.map e)) (co : CompOk scope env) (hx : scope.names.lookup x = some .local ∨ scope.names.lookup x = some .cell)
    (htests : ∀ C V' a, a ∈ l → TS prog w h₀ n (cEnv scope env C) V' ((x, e a) :: caps scope ρ) ifs (t a))
    (helt : ∀ C V' a, a ∈ l → t a = true → PE prog w h₀ n (cEnv scope env C) V' ((x, e a) :: caps scope ρ) elt (e' (f a)))
    (hsz : l.length ≤ sizeLine) (hk : KOk env y)
    (q : ∀ s', Bo h₀ B env V ((y, .list (((l.filter t).map f).map e')) :: ρ) O s' → wpAny (model prog w) A (execs rest env) Q E s')
    (hsw : autoParam (swapsWith (.ListComp elt [⟨.Name x px, iter, ifs, 0⟩] scope pos) (some (.Name y py)) spos.line env = pure true) tacRfl) (hfs : autoParam (∀ x, foldedSetIterable iter env x = pure x) tacIntroRfl) :
    wpAny (model prog w) A (execs (.Assign [.Name y py] (.ListComp elt [⟨.Name x px, iter, ifs, 0⟩] scope pos) spos :: rest) env) Q E s := by
  have key : ((l.map e).filter fun d => t (dec d)).map (fun d => e' (f (dec d))) = ((l.filter t).map f).map e' := by
    rw [List.filter_map, List.map_map, List.map_map]
    have h1 : ((fun d => t (dec d)) ∘ e) = t := by funext a; simp [hdec]
    rw [h1]
    apply List.map_congr_left
    intro a _
    simp [hdec]
  refine bo_comp hA b hit co (tgt_name hx) (fun _ _ => trivial) (hdis_name hx) (t := fun d => t (dec d)) (f := fun d => e' (f (dec d))) (fun C V' d hd => ?_) (fun C V' d hd ht => ?_) (by rw [List.length_map]; exact hsz) hk (fun s' b' => q s' (by rw [← key]; exact b')) hsw hfs
  · obtain ⟨a, ha, rfl⟩ := List.mem_map.mp hd
    rw [hdec]; exact htests C V' a ha
  · obtain ⟨a, ha, rfl⟩ := List.mem_map.mp hd
    rw [hdec] at ht ⊢; exact helt C V' a ha ht
/-- y = [elt for x in iter] -/
theorem bo_cc {α β : Type} (e : α → D) (dec : D → α) (hdec : ∀ a, dec (e a) = a) (e' : β → D) {l : List α} {f : α → β} {elt iter : Expr} {x y : Str} {px py : Pos} {scope : Scope} {pos spos : Pos} {rest : List Stmt}
    {A : Around} {s : Shared} {E : Value → Shared → Prop} {Q : Flow → Shared → Prop} (hA : AOk n A) (b : Bo h₀ B env V ρ O s)
    (hit : IT prog w h₀ n env V ρ iter (l.map e)) (co : CompOk scope env) (hx : scope.names.lookup x = some .local ∨ scope.names.lookup x = some .cell)
    (helt : ∀ C V' a, a ∈ l → PE prog w h₀ n (cEnv scope env C) V' ((x, e a) :: caps scope ρ) elt (e' (f a)))
    (hsz : l.length ≤ sizeLine) (hk : KOk env y)
    (q : ∀ s', Bo h₀ B env V ((y, .list ((l.map f).map e')) :: ρ) O s' → wpAny (model prog w) A (execs rest env) Q E s')
    (hsw : autoParam (swapsWith (.ListComp elt [⟨.Name x px, iter, [], 0⟩] scope pos) (some (.Name y py)) spos.line env = pure true) tacRfl) (hfs : autoParam (∀ x, foldedSetIterable iter env x = pure x) tacIntroRfl) :
    wpAny (model prog w) A (execs (.Assign [.Name y py] (.ListComp elt [⟨.Name x px, iter, [], 0⟩] scope pos) spos :: rest) env) Q E s :=
  bo_ccf (t := fun _ => true) e dec hdec e' hA b hit co hx (fun _ _ _ _ => ts_nil) (fun C V' a ha _ => helt C V' a ha) hsz hk (fun s' b' => q s' (by rw [filter_all] at b'; exact b')) hsw hfs

theorem it_to {e : Expr} {ds ds' : List D} (h : IT prog w h₀ n env V ρ e ds) (hd : ds = ds') : IT prog w h₀ n env V ρ e ds' := hd ▸ h
end

/-- numbers as data -/
noncomputable abbrev dN (k : Nat) : D := .int k
noncomputable def D.n (d : D) : Nat := d.i.toNat
theorem dN_n (k : Nat) : (dN k).n = k := by simp [D.n, D.i]
theorem rangeZ_nat (k : Nat) : dInts (rangeZ 0 (k : Int)) = (List.range k).map dN := by
  unfold rangeZ dInts
  rw [List.map_map]
  have : ((k : Int) - 0).toNat = k := by omega
  rw [this]
  apply List.map_congr_left
  intro i _
  simp

/-! ### what _law_told says -/
structure WordsOk (ws : List Nat) : Prop where
  mem : ∀ k ∈ ws, 2 ≤ k ∧ k ≤ 16
  len : ws.length ≤ 100

end Mine
namespace Mine
end Mine
namespace Mine
theorem asksL_bits (M dirs : List Str) : ∀ (qs : List (Option Str × Str)) {μ : Str → Option Int}, Bits μ → ∀ v ∈ asksL M dirs μ qs, v = 0 ∨ v = 1
  | [], _, _, v, h => by cases h
  | q :: qs, μ, b, v, h => by
    rcases List.mem_cons.mp h with rfl | h
    · exact b.ask M dirs q.1 q.2
    · exact asksL_bits M dirs qs (b.upd (b.ask M dirs q.1 q.2)) v h
theorem strI_len {v : Int} (h : v = 0 ∨ v = 1) : (strI v).length = 1 := by rcases h with rfl | rfl <;> decide +kernel
theorem bits_sum : ∀ {l : List Int}, (∀ v ∈ l, v = 0 ∨ v = 1) → ((l.map strI).map (·.length)).sum = l.length
  | [], _ => rfl
  | v :: l, h => by
    have ih := bits_sum (l := l) fun u hu => h u (.tail _ hu)
    simp only [List.map_cons, List.sum_cons, List.length_cons, ih, strI_len (h v (.head _))]; omega
theorem Rdr.keeps {prog : Program} {w : World} {C : Addr} (r : RdA) (M dirs : List Str) (μ : Nat → Str → Option Int) (k : Nat → Nat) : Keeps (r.g :: r.fp) fun i h => Rdr prog w C h r M dirs (μ i) (k i) :=
  ⟨fun _ _ _ x e => x.ext e, fun _ x => x.live⟩
end Mine
end

section
open PySem PySem.Calls PySem.W PyProof.Rows
set_option Elab.async false
set_option maxRecDepth 100000
namespace Mine
section
variable {prog : Program} {w : World} {h₀ : Heap} {n : Nat} {env : Env} {V : List Addr} {ρ : List (Str × D)} {P P' : Heap → Prop} {W W' : List Addr}
end

end Mine
end

section
open PySem PySem.Calls PySem.W PyProof.Rows
set_option Elab.async false
set_option maxRecDepth 100000
namespace Mine

theorem sub_nil {ρ : List (Str × D)} : ∀ x d, ([] : List (Str × D)).lookup x = some d → ρ.lookup x = some d := fun _ _ h => nomatch h
theorem sub_cons {ρ l : List (Str × D)} {k : Str} {v : D} (h1 : ρ.lookup k = some v) (h2 : ∀ x d, l.lookup x = some d → ρ.lookup x = some d) : ∀ x d, ((k, v) :: l).lookup x = some d → ρ.lookup x = some d := fun x d h => by
  by_cases e : x = k
  · subst e; rw [List.lookup_cons_self] at h; cases h; exact h1
  · rw [List.lookup_cons, show (x == k) = false by simpa using e] at h; exact h2 x d h

theorem range_at {k : Nat} {pre post : List D} {d : D} (h : (List.range k).map dN = pre ++ d :: post) : d = dN pre.length ∧ pre.length < k := by
  have hi : ((List.range k).map dN)[pre.length]? = some d := by rw [h]; simp
  rw [List.getElem?_map, Option.map_eq_some_iff] at hi
  obtain ⟨a, ha, rfl⟩ := hi
  obtain ⟨h5, h6⟩ := List.getElem?_eq_some_iff.mp ha
  rw [List.length_range] at h5; rw [List.getElem_range] at h6
  exact ⟨by rw [h6], h5⟩
section
variable {prog : Program} {w : World} {h₀ : Heap} {n : Nat} {env : Env} {V : List Addr} {ρ : List (Str × D)}
/-- an item of a list, by a type of the items -/
theorem pe_at {α : Type} (e : α → D) (dflt : α) {l : List α} {k : Nat} {v i : Expr} {pos : Pos} (hv : PE prog w h₀ n env V ρ v (.list (l.map e))) (hi : PE prog w h₀ n env V ρ i (dN k)) (hk : k < l.length) (hsz : l.length ≤ sizeLine)
    (hs : autoParam (∀ o i', subscripted i false o i' = operate [o, i'] (getItem o i')) tacIntroUnf) : PE prog w h₀ n env V ρ (.Subscript v i pos) (e (l.getD k dflt)) := by
  refine pe_sub hv hi .list (gi_list (by show (0 : Int) ≤ (k : Int); omega) ?_ (by rw [List.length_map]; exact hsz)) hs
  rw [Int.toNat_natCast, List.getElem?_map, List.getElem?_eq_getElem hk, List.getD_eq_getElem?_getD, List.getElem?_eq_getElem hk]; rfl
theorem pe_len {α : Type} (e : α → D) {l : List α} {v : Expr} {fp pos : Pos} (g : GV h₀ "len" (.builtin "len")) (hv : PE prog w h₀ n env V ρ v (.list (l.map e))) (hsz : l.length ≤ sizeLine)
    (hst : autoParam (starEach [v] env = (false, eval v env) :: starEach [] env) tacRfl) (hkl : autoParam (env.kindOf "len" = some .globalImplicit) tacRfl) : PE prog w h₀ n env V ρ (.Call (.Name "len" fp) [v] [] pos) (dN l.length) := by
  have := pe_call (fp := fp) (pos := pos) g kp_builtin (pes_cons hv pes_nil hst) (cl_len_list (by rw [List.length_map]; exact hsz)) (fun h => nomatch h) (by rw [hst]; rfl) hkl
  rw [List.length_map] at this
  exact this
/-- the sign at a place of a text -/
theorem pe_sign {x : Str} {k : Nat} {v i : Expr} {pos : Pos} (hv : PE prog w h₀ n env V ρ v (.str x)) (hi : PE prog w h₀ n env V ρ i (dN k)) (hk : k < x.length) (hsz : x.length ≤ sizeLine)
    (hs : autoParam (∀ o i', subscripted i false o i' = operate [o, i'] (getItem o i')) tacIntroUnf) : PE prog w h₀ n env V ρ (.Subscript v i pos) (.str ⟨#[x.cps.getD k 0]⟩) := by
  refine pe_sub hv hi .str (gi_str (by show (0 : Int) ≤ (k : Int); omega) ?_ hsz) hs
  have hk' : k < x.cps.size := hk
  rw [Int.toNat_natCast, Array.getElem?_eq_getElem hk']
  simp [Array.getD, hk']
end

/-! ### plan and weight -/
end Mine
end

section
open PySem PySem.Calls PySem.W PyProof.Rows
set_option Elab.async false
set_option maxRecDepth 100000
namespace Mine
open PySem.StrLaws PySem.Builtin.Str

/-- how a text falls into parts -/
inductive Sp (sub : List Nat) : List Nat → List (List Nat) → Prop
  | fin {l : List Nat} : (∀ k, ¬ sub <+: l.drop k) → Sp sub l [l]
  | cut {p r : List Nat} {ps : List (List Nat)} : (∀ k, k < p.length → ¬ sub <+: (p ++ sub ++ r).drop k) → Sp sub r ps → Sp sub (p ++ sub ++ r) (p :: ps)

theorem at_iff {x y : Str} {k : Nat} : At x y x.length k ↔ (y.cps.toList <+: x.cps.toList.drop k ∧ k + y.length ≤ x.length) := by
  unfold At
  constructor
  · rintro ⟨h1, h2⟩
    refine ⟨?_, h1⟩
    rw [subAt_eq, beq_iff_eq] at h2
    rw [← h2]
    exact List.take_prefix _ _
  · rintro ⟨h1, h2⟩
    refine ⟨h2, ?_⟩
    rw [subAt_eq, beq_iff_eq]
    have hl : y.length = y.cps.toList.length := by simp [Str.length]
    rw [hl]
    exact (List.prefix_iff_eq_take.mp h1).symm
theorem prefix_len {x y : Str} {k : Nat} (hy : y.length ≠ 0) (h : y.cps.toList <+: x.cps.toList.drop k) : k + y.length ≤ x.length := by
  have := h.length_le
  rw [List.length_drop] at this
  have h1 : y.cps.toList.length = y.length := by simp [Str.length]
  have h2 : x.cps.toList.length = x.length := by simp [Str.length]
  omega

theorem sp_parts {x y : Str} (hy : y.length ≠ 0) : ∀ (cuts : List Nat) (a f : Nat) (ps : List (List Nat)), ChainG x y x.length a cuts f → (∀ k, f ≤ k → ¬ At x y x.length k) → Sp y.cps.toList (x.cps.toList.drop a) ps → a ≤ x.length →
    partsFrom x y.length a cuts = ps.map fun p => ⟨p.toArray⟩ := by
  have hyl : y.cps.toList.length = y.length := by simp [Str.length]
  have hxl : x.cps.toList.length = x.length := by simp [Str.length]
  intro cuts
  induction cuts with
  | nil =>
    intro a f ps hc hn hs ha
    have e : f = a := hc
    subst e
    generalize hd : x.cps.toList.drop f = l at hs
    cases hs with
    | fin _ =>
      show [strSub x f x.length] = _
      rw [List.map_cons, List.map_nil]
      congr 1
      refine Str.ext' (Array.ext' ?_)
      rw [strSub_toList, hd, List.take_of_length_le]
      rw [← hd, List.length_drop, hxl]; exact Nat.le_refl _
    | @cut p r ps h1 _ =>
      exfalso
      refine hn (f + p.length) (by omega) (at_iff.mpr ?_)
      have : y.cps.toList <+: x.cps.toList.drop (f + p.length) := by
        rw [← List.drop_drop, hd, List.append_assoc, List.drop_left]
        exact List.prefix_append _ _
      exact ⟨this, prefix_len hy this⟩
  | cons c r ih =>
    intro a f ps hc hn hs ha
    obtain ⟨h1, h2, h3, h4⟩ := hc
    obtain ⟨h2a, h2b⟩ := at_iff.mp h2
    generalize hd : x.cps.toList.drop a = l at hs
    have hdc : x.cps.toList.drop c = l.drop (c - a) := by
      rw [← hd, List.drop_drop]; congr 1; omega
    cases hs with
    | fin h => rw [hdc] at h2a; exact absurd h2a (h _)
    | @cut p t ps h5 h6 =>
      have hpc : p.length = c - a := by
        rcases Nat.lt_trichotomy p.length (c - a) with h | h | h
        · exfalso
          have hp : y.cps.toList <+: x.cps.toList.drop (a + p.length) := by
            rw [← List.drop_drop, hd, List.append_assoc, List.drop_left]
            exact List.prefix_append _ _
          exact h3 (a + p.length) (by omega) (by omega) (at_iff.mpr ⟨hp, prefix_len hy hp⟩)
        · exact h
        · rw [hdc] at h2a; exact absurd h2a (h5 _ h)
      show strSub x a c :: partsFrom x y.length (c + y.length) r = _
      rw [List.map_cons]
      congr 1
      · refine Str.ext' (Array.ext' ?_)
        rw [strSub_toList, hd, ← hpc, List.append_assoc, List.take_left]
      · refine ih (c + y.length) f ps h4 hn ?_ h2b
        have : x.cps.toList.drop (c + y.length) = t := by
          have e : c + y.length = a + (p ++ y.cps.toList).length := by rw [List.length_append, hyl]; omega
          rw [e, ← List.drop_drop, hd, List.drop_left]
        rw [this]; exact h6

/-- the parts of a text are told -/
theorem split_sp {x y : Str} {ps : List (List Nat)} (hy : y.length ≠ 0) (hk : Builtin.Str.strKind y = 1) (h : Sp y.cps.toList x.cps.toList ps) : Txt.split x y = ps.map fun p => ⟨p.toArray⟩ := by
  obtain ⟨f, h1, h2⟩ := occ_tight x y (by omega)
  have key := sp_parts hy _ 0 f ps h1 h2 (by simpa using h) (Nat.zero_le _)
  have hkx : 1 ≤ Builtin.Str.strKind x := by unfold Builtin.Str.strKind; split <;> (try split) <;> omega
  unfold Txt.split
  split
  · rename_i hc
    have hlt : x.length < y.length := by
      rw [Bool.or_eq_true, decide_eq_true_eq, decide_eq_true_eq] at hc
      rcases hc with hc | hc
      · exact hc
      · omega
    cases ho : occurrences x y 0 x.length (x.length + 1) with
    | nil =>
      rw [ho] at key
      rw [← key]
      show [x] = [strSub x 0 x.length]
      rw [sub_whole]
    | cons i r =>
      rw [ho] at h1
      have := h1.2.1.1
      omega
  · split
    · rename_i he
      have : occurrences x y 0 x.length (x.length + 1) = [] := by simpa using he
      rw [this] at key
      rw [← key]
      show [x] = [strSub x 0 x.length]
      rw [sub_whole]
    · rw [partsBetween_eq]; exact key

theorem sp_join {s0 : Nat} {st : List Nat} : ∀ (p : List Nat) (ps : List (List Nat)), (∀ q ∈ p :: ps, s0 ∉ q) → Sp (s0 :: st) (ps.foldl (fun acc q => acc ++ (s0 :: st) ++ q) p) (p :: ps) := by
  have key : ∀ (ps : List (List Nat)) (a : List Nat), ps.foldl (fun acc q => acc ++ (s0 :: st) ++ q) a = a ++ (ps.map fun q => (s0 :: st) ++ q).flatten := by
    intro ps
    induction ps with
    | nil => intro a; simp
    | cons q ps ih => intro a; rw [List.foldl_cons, ih]; simp
  intro p ps
  induction ps generalizing p with
  | nil =>
    intro h
    refine .fin fun k hk => ?_
    have h1 : s0 ∈ p.drop k := hk.subset (List.mem_cons_self ..)
    exact h p (.head _) (List.mem_of_mem_drop h1)
  | cons q ps ih =>
    intro h
    have ih' := ih q fun z hz => h z (.tail _ hz)
    rw [key] at ih' ⊢
    have e : p ++ ((q :: ps).map fun q => (s0 :: st) ++ q).flatten = p ++ (s0 :: st) ++ (q ++ (ps.map fun q => (s0 :: st) ++ q).flatten) := by simp
    rw [e]
    refine .cut (fun k hk hp => ?_) ih'
    rw [List.append_assoc, List.drop_append_of_le_length (by omega)] at hp
    have hne : p.drop k ≠ [] := by intro e; have := congrArg List.length e; rw [List.length_drop] at this; simp at this; omega
    obtain ⟨z, zs, hz⟩ : ∃ z zs, p.drop k = z :: zs := by cases hd : p.drop k with | nil => exact absurd hd hne | cons z zs => exact ⟨z, zs, rfl⟩
    rw [hz] at hp
    have : s0 = z := by
      rw [List.cons_append, List.cons_prefix_cons] at hp; exact hp.1
    exact h p (.head _) (List.mem_of_mem_drop (by rw [hz, this]; exact .head _))
end Mine
end

section
open PySem PySem.Calls PySem.W PyProof.Rows
set_option Elab.async false
set_option maxRecDepth 100000
namespace Mine
open PySem.StrLaws

noncomputable abbrev sl (x : Str) : List Nat := x.cps.toList
noncomputable def ms' (l : List Nat) : Str := ⟨l.toArray⟩
theorem sl_ms (l : List Nat) : sl (ms' l) = l := rfl
theorem sl_app (x y : Str) : sl (x ++ y) = sl x ++ sl y := by
  show (x.cps ++ y.cps).toList = _
  rw [Array.toList_append]
theorem sl_inj {x y : Str} (h : sl x = sl y) : x = y := Str.ext' (Array.ext' h)
theorem sl_len (x : Str) : (sl x).length = x.length := by simp [Str.length]

theorem glue_fold (sep : List Nat) : ∀ (ts : List Str) (a : Array Nat), (ts.foldl (fun acc p => acc ++ sep.toArray ++ p.cps) a).toList = a.toList ++ (ts.map fun t => sep ++ sl t).flatten
  | [], a => by simp
  | t :: ts, a => by rw [List.foldl_cons, glue_fold sep ts]; simp
theorem sl_join0 : ∀ (ts : List Str), sl (Txt.join (Str.ofString "") ts) = (ts.map sl).flatten
  | [] => rfl
  | t :: ts => by
    have := glue_fold [] ts t.cps
    show (ts.foldl (fun acc p => acc ++ (Str.ofString "").cps ++ p.cps) t.cps).toList = _
    have e : (Str.ofString "").cps = ([] : List Nat).toArray := rfl
    rw [e, this]
    simp

noncomputable def quoteF (x : Str) : Str := ⟨(stuff true (crlf x.cps.toList)).toArray⟩

/-- no return, no feed -/
noncomputable def Plain (l : List Nat) : Prop := ∀ c ∈ l, c ≠ 10 ∧ c ≠ 13
theorem Plain.app {a b : List Nat} (x : Plain a) (y : Plain b) : Plain (a ++ b) := fun c h => (List.mem_append.mp h).elim (x c) (y c)
theorem crlf_plain : ∀ (x r : List Nat), Plain x → crlf (x ++ r) = x ++ crlf r
  | [], _, _ => rfl
  | c :: x, r, h => by
    have hc := h c (.head _)
    have ih := crlf_plain x r fun d hd => h d (.tail _ hd)
    rw [List.cons_append, List.cons_append, ← ih]
    rw [crlf]
    · intro z e _; exact hc.2 e
    · exact hc.1
    · exact hc.2
inductive IsEnd : List Nat → Prop
  | r : IsEnd [13]
  | n : IsEnd [10]
  | rn : IsEnd [13, 10]
theorem crlf_end {e r : List Nat} (he : IsEnd e) (hr : r.head? ≠ some 10) : crlf (e ++ r) = 13 :: 10 :: crlf r := by
  cases he with
  | r =>
    cases r with
    | nil => simp [crlf]
    | cons c r =>
      have : c ≠ 10 := fun e => hr (by rw [e]; rfl)
      show crlf (13 :: c :: r) = _
      rw [crlf]
      · intro z e; exact this (by cases e; rfl)
  | n => show crlf (10 :: r) = _; rw [crlf]
  | rn => show crlf (13 :: 10 :: r) = _; rw [crlf]

theorem stuff_plain : ∀ (x r : List Nat), Plain x → stuff false (x ++ 13 :: 10 :: r) = x ++ 13 :: 10 :: stuff true r
  | [], r, _ => by
    show stuff false (13 :: 10 :: r) = _
    rw [stuff, stuff]
    · rfl
    · intro h; cases h
    · intro h; cases h
  | c :: x, r, h => by
    have hc := h c (.head _)
    have ih := stuff_plain x r fun d hd => h d (.tail _ hd)
    rw [List.cons_append, List.cons_append, ← ih]
    rw [stuff]
    · have : (c == 10) = false := by simpa using hc.1
      rw [this]
    · intro h; cases h
/-- a line of a mail, with its dot doubled -/
noncomputable def st (x : List Nat) : List Nat := if x.head? = some 46 then 46 :: x else x
theorem stuff_line (x r : List Nat) (h : Plain x) : stuff true (x ++ 13 :: 10 :: r) = st x ++ 13 :: 10 :: stuff true r := by
  cases x with
  | nil =>
    show stuff true (13 :: 10 :: r) = _
    rw [stuff, stuff]
    · rfl
    · intro h; cases h
    · intro _ h; cases h
  | cons c x =>
    have hp : Plain x := fun d hd => h d (.tail _ hd)
    by_cases e : c = 46
    · subst e
      show stuff true (46 :: (x ++ 13 :: 10 :: r)) = _
      rw [stuff, stuff_plain x r hp]; rfl
    · show stuff true (c :: (x ++ 13 :: 10 :: r)) = _
      rw [stuff]
      · have : (c == 10) = false := by simpa using (h c (.head _)).1
        rw [this, stuff_plain x r hp]
        unfold st
        rw [if_neg (by simpa using e)]; rfl
      · intro _ h; exact e h

/-- rows and their ends, and what stands behind them -/
theorem crlf_rows (tail : List Nat) (ht : tail.head? ≠ some 10) : ∀ (xs : List (List Nat × List Nat)), (∀ p ∈ xs, Plain p.1 ∧ p.1 ≠ [] ∧ IsEnd p.2) →
    crlf ((xs.map fun p => p.1 ++ p.2).flatten ++ tail) = (xs.map fun p => p.1 ++ [13, 10]).flatten ++ crlf tail
  | [], _ => rfl
  | p :: xs, h => by
    obtain ⟨h1, h2, h3⟩ := h p (.head _)
    have ih := crlf_rows tail ht xs fun q hq => h q (.tail _ hq)
    have hh : ((xs.map fun p => p.1 ++ p.2).flatten ++ tail).head? ≠ some 10 := by
      cases xs with
      | nil => exact ht
      | cons q xs =>
        obtain ⟨q1, q2, _⟩ := h q (.tail _ (.head _))
        obtain ⟨c, z, hz⟩ : ∃ c z, q.1 = c :: z := by cases hq : q.1 with | nil => exact absurd hq q2 | cons c z => exact ⟨c, z, rfl⟩
        rw [List.map_cons, List.flatten_cons, hz]
        intro e
        have : c = 10 := by simpa using e
        exact (q1 c (by rw [hz]; exact .head _)).1 this
    rw [List.map_cons, List.flatten_cons, List.map_cons, List.flatten_cons, List.append_assoc, List.append_assoc, crlf_plain _ _ h1, crlf_end h3 hh, ih]
    simp
theorem stuff_rows (tail : List Nat) : ∀ (xs : List (List Nat)), (∀ p ∈ xs, Plain p) →
    stuff true ((xs.map fun p => p ++ [13, 10]).flatten ++ tail) = (xs.map fun p => st p ++ [13, 10]).flatten ++ stuff true tail
  | [], _ => rfl
  | p :: xs, h => by
    have ih := stuff_rows tail xs fun q hq => h q (.tail _ hq)
    rw [List.map_cons, List.flatten_cons, List.map_cons, List.flatten_cons, List.append_assoc, List.append_assoc]
    show stuff true (p ++ (13 :: 10 :: ((xs.map fun p => p ++ [13, 10]).flatten ++ tail))) = _
    rw [stuff_line p _ (h p (.head _)), ih]
    simp

/-- joined -/
noncomputable def J (sep : List Nat) : List (List Nat) → List Nat
  | [] => []
  | p :: ps => ps.foldl (fun acc q => acc ++ sep ++ q) p
theorem foldl_pre (sep : List Nat) : ∀ (ps : List (List Nat)) (a b : List Nat), ps.foldl (fun acc q => acc ++ sep ++ q) (a ++ b) = a ++ ps.foldl (fun acc q => acc ++ sep ++ q) b
  | [], a, b => rfl
  | p :: ps, a, b => by
    rw [List.foldl_cons, List.foldl_cons, List.append_assoc, List.append_assoc, foldl_pre sep ps, List.append_assoc]
theorem J_cons (sep p q : List Nat) (ps : List (List Nat)) : J sep (p :: q :: ps) = p ++ sep ++ J sep (q :: ps) := by
  show ps.foldl _ (p ++ sep ++ q) = _
  rw [foldl_pre]; rfl
theorem J_rows (sep : List Nat) (t : List Nat) (ts : List (List Nat)) : ∀ qs : List (List Nat), J sep (qs ++ t :: ts) = (qs.map fun q => q ++ sep).flatten ++ J sep (t :: ts)
  | [] => rfl
  | [q] => by rw [List.singleton_append, J_cons]; simp
  | q :: r :: qs => by
    have ih := J_rows sep t ts (r :: qs)
    rw [List.cons_append] at ih ⊢
    rw [List.cons_append, J_cons, ih]; simp
theorem split_J {s0 : Nat} {st : List Nat} {p : List Nat} {ps : List (List Nat)} {x y : Str} (hy : sl y = s0 :: st) (hk : Builtin.Str.strKind y = 1) (hx : sl x = J (s0 :: st) (p :: ps)) (h : ∀ q ∈ p :: ps, s0 ∉ q) : Txt.split x y = (p :: ps).map ms' := by
  have hyl : y.length ≠ 0 := by rw [← sl_len, hy]; simp
  refine split_sp hyl hk ?_
  show Sp (sl y) (sl x) _
  rw [hy, hx]
  exact sp_join p ps h

/-! ### the mail of the first law -/
noncomputable def dotsS (k : Nat) : Str := ms' (List.replicate k 46)
noncomputable def endS (j : Nat) : Str := [Str.ofString "\r", Str.ofString "\n", Str.ofString "\r\n"].getD (j % 3) (Str.ofString "")
/-- a sign that is no return, no feed and no dot -/
structure MarkOk (mark : Str) : Prop where
  one : ∃ m, sl mark = [m] ∧ m ≠ 10 ∧ m ≠ 13 ∧ m ≠ 46
theorem plain_dots (k : Nat) : Plain (List.replicate k 46) := fun c hc => by rw [List.eq_of_mem_replicate hc]; decide
theorem end_is (j : Nat) : IsEnd (sl (endS j)) := by
  have : j % 3 = 0 ∨ j % 3 = 1 ∨ j % 3 = 2 := by omega
  unfold endS
  rcases this with h | h | h <;> rw [h]
  · exact .r
  · exact .n
  · exact .rn
end Mine
end

section
open PySem PySem.Calls PySem.W PyProof.Rows
set_option Elab.async false
set_option maxRecDepth 100000
namespace Mine
open PySem.StrLaws

theorem slice_from (x : Str) (a : Nat) (h : a ≤ x.length) : Txt.slice x (some (a : Int)) none = ms' ((sl x).drop a) := by
  have e := sliceText_from (x := x) (i := (a : Int)) ⟨by omega, by rw [show x.cps.toList.length = x.length from sl_len x]; omega⟩
  refine Eq.trans (show Txt.slice x (some (a : Int)) none = sliceText x (some (a : Int)) none from rfl) (e.trans ?_)
  show ms' _ = _
  rw [Int.toNat_natCast, List.take_of_length_le]
  rw [List.length_drop]; omega
theorem startswith_iff (x y : Str) : Txt.startswith x y = true ↔ sl y <+: sl x := by
  unfold Txt.startswith
  rw [Bool.and_eq_true, decide_eq_true_eq, subAt_eq, beq_iff_eq, List.drop_zero, Nat.zero_add]
  have hl : y.length = (sl y).length := (sl_len y).symm
  have hx : x.length = (sl x).length := (sl_len x).symm
  constructor
  · rintro ⟨_, h⟩
    show y.cps.toList <+: x.cps.toList
    rw [← h]; exact List.take_prefix _ _
  · intro h
    refine ⟨by rw [hl, hx]; exact h.length_le, ?_⟩
    rw [hl]; exact (List.prefix_iff_eq_take.mp h).symm
/-! ### the marks -/
/-! ### what is told -/
theorem any_maps {α β γ : Type} (g : β → γ) (f : α → β) (p : γ → Bool) (q : α → Bool) (l : List α) (h : ∀ a ∈ l, p (g (f a)) = q a) : ((l.map f).map g).any p = l.any q := by
  induction l with
  | nil => rfl
  | cons a l ih =>
    rw [List.map_cons, List.map_cons, List.any_cons, List.any_cons, h a (.head _), ih fun b hb => h b (.tail _ hb)]
end Mine
end

section
open PySem PySem.Calls PySem.W PyProof.Rows
set_option Elab.async false
set_option maxRecDepth 100000
namespace Mine
section
variable {prog : Program} {w : World} {h₀ : Heap} {n : Nat} {env : Env} {V : List Addr} {ρ : List (Str × D)} {B : List (List Addr × Shared)} {O O' O1 O2 O1' : List (Addr × Ow)} {W : List Addr} {P P' : Heap → Prop}

theorem Bo.perm {s : Shared} (b : Bo h₀ B env V ρ O s) (h : O.Perm O') : Bo h₀ B env V ρ O' s :=
  { b with own := fun p hp => b.own p (h.mem_iff.mpr hp), onew := fun p hp => b.onew p (h.mem_iff.mpr hp), odis := (h.map _).nodup_iff.mp b.odis }

/-- an if whose branches meet again -/
theorem bo_ifj {test : Expr} {body orelse rest : List Stmt} {pos : Pos} {c : Bool} {A : Around} {s : Shared} {E : Value → Shared → Prop} {Q : Flow → Shared → Prop} (hA : AOk n A) (b : Bo h₀ B env V ρ O s) (M : Shared → Prop)
    (ht : PT prog w h₀ n env V ρ test c)
    (h1 : c = true → ∀ s', Bo h₀ B env V ρ O s' → wpAny (model prog w) A (execs body env) (fun f s'' => f = .next ∧ M s'') E s')
    (h2 : c = false → ∀ s', Bo h₀ B env V ρ O s' → wpAny (model prog w) A (execs orelse env) (fun f s'' => f = .next ∧ M s'') E s')
    (h3 : ∀ s'', M s'' → wpAny (model prog w) A (execs rest env) Q E s'') :
    wpAny (model prog w) A (execs (.If test body orelse pos :: rest) env) Q E s := by
  refine bo_if hA b b.in0 b.fm ht (fun hc s' b' => wpAny_mono (h1 hc s' b') ?_ fun _ _ x => x) (fun hc s' b' => wpAny_mono (h2 hc s' b') ?_ fun _ _ x => x)
  · rintro f s'' ⟨rfl, hm⟩; exact h3 s'' hm
  · rintro f s'' ⟨rfl, hm⟩; exact h3 s'' hm

end
theorem partsFrom_length (x : Str) (wd : Nat) : ∀ (cuts : List Nat) (a : Nat), (StrLaws.partsFrom x wd a cuts).length = cuts.length + 1
  | [], _ => rfl
  | c :: r, a => by show (StrLaws.partsFrom x wd (c + wd) r).length + 1 = _; rw [partsFrom_length x wd r]; rfl
theorem parts_le (x y : Str) (wd : Nat) : (Builtin.Str.partsBetween x (Builtin.Str.occurrences x y 0 x.length (x.length + 1)) wd).length ≤ x.length + 2 := by
  rw [StrLaws.partsBetween_eq, partsFrom_length]
  have := StrLaws.occ_length_le x y 0 x.length (x.length + 1)
  omega
end Mine
end

section
open PySem PySem.Calls PySem.W PyProof.Rows
set_option Elab.async false
set_option maxRecDepth 100000
namespace Mine
section
variable {prog : Program} {w : World} {h₀ : Heap} {n : Nat} {env : Env} {V : List Addr} {ρ : List (Str × D)} {B : List (List Addr × Shared)} {O O' : List (Addr × Ow)}

/-- an empty list, held as its own -/
theorem eval_empty {p : Pos} {A : Around} {s : Shared} {E : Value → Shared → Prop} {Q : Value → Shared → Prop} (hA : AOk n A) (b : Bo h₀ B env V ρ O s)
    (q : ∀ a s', a ∉ V → Bo h₀ B env (a :: V) ρ ((a, ol []) :: O) s' → Q (.ref a) s') : wpAny (model prog w) A (eval (.List [] p) env) Q E s :=
  pef_list pes_nil (Nat.zero_le _) A s E _ hA b.in0 b.fm fun a s₁ e₁ ha r₁ => by
    obtain ⟨_, h2, b₁⟩ := b.take e₁ ha r₁ (fun _ h => nomatch h)
    exact q a s₁ h2 b₁
/-- the owned things of some addresses -/
noncomputable def onew0 (as : List Addr) : List (Addr × Ow) := as.map fun a => (a, ol [])
theorem items_new {pos : Pos} {A : Around} {E : Value → Shared → Prop} (hA : AOk n A) : ∀ (elts : List Expr), (∀ e ∈ elts, ∃ p, e = .List [] p) → ∀ {V : List Addr} {O : List (Addr × Ow)} {s : Shared} {Q : List Value → Shared → Prop}, Bo h₀ B env V ρ O s →
    (∀ (as : List Addr) s', as.length = elts.length → (∀ a ∈ as, a ∉ V) → Bo h₀ B env (as ++ V) ρ (onew0 as ++ O) s' → Q (as.reverse.map .ref) s') → wpAny (model prog w) A (spliced (backTo pos (starEach elts env))) Q E s
  | [], _, V, O, s, Q, b, q => wpAny_items_nil (q [] s rfl (fun _ h => nomatch h) b)
  | e :: es, h, V, O, s, Q, b, q => by
    obtain ⟨p, rfl⟩ := h e (.head _)
    refine wpAny_items_cons (eval_empty hA b fun a s₁ ha b₁ => ?_) rfl
    refine items_new hA es (fun e he => h e (.tail _ he)) b₁ fun as s₂ hl hn b₂ => ?_
    have := q (as ++ [a]) s₂ (by simp [hl]) (fun c hc => ?_) ?_
    · simpa using this
    · rcases List.mem_append.mp hc with hc | hc
      · exact fun hv => hn c hc (.tail _ hv)
      · rw [List.mem_singleton.mp hc]; exact ha
    · have e1 : (as ++ [a]) ++ V = as ++ (a :: V) := by simp
      have e2 : onew0 (as ++ [a]) ++ O = onew0 as ++ ((a, ol []) :: O) := by unfold onew0; simp
      rw [e1, e2]; exact b₂
theorem repl_objs {V : List Addr} {h : Heap} : ∀ as : List Addr, RepL V h (as.map .ref) (as.map .obj)
  | [] => .nil
  | a :: as => .cons (.obj a) (repl_objs as)
/-- x = [[], ..] -/
theorem bo_newn {x : Str} {px pos p : Pos} {elts : List Expr} {rest : List Stmt} {A : Around} {s : Shared} {E : Value → Shared → Prop} {Q : Flow → Shared → Prop} (hA : AOk n A) (b : Bo h₀ B env V ρ O s) (he : ∀ e ∈ elts, ∃ p, e = .List [] p) (hsz : elts.length ≤ sizeLine) (hk : KOk env x)
    (q : ∀ (as : List Addr) s', as.length = elts.length → (∀ a ∈ as, a ∉ V) → Bo h₀ B env (as ++ V) ((x, .list (as.reverse.map .obj)) :: ρ) (onew0 as ++ O) s' → wpAny (model prog w) A (execs rest env) Q E s')
    (hsw : autoParam (swapsWith (.List elts p) (some (.Name x px)) pos.line env = pure false) tacRfl) : wpAny (model prog w) A (execs (.Assign [.Name x px] (.List elts p) pos :: rest) env) Q E s := by
  refine ex_cons (wpAny_Assign_Name (wpAny_List (items_new hA elts he b fun as s₁ hl hn b₁ => ⟨by rw [List.length_map, List.length_reverse, hl]; exact hsz, ?_⟩)) hsw)
  have e1 : Stp [] s₁ { s₁ with heap := s₁.heap.push { cls := .type "list", data := .seq (as.reverse.map Value.ref).toArray } } := ⟨.push _ _, Nat.le_refl _⟩
  have r1 := rep_newList (vs := as.reverse.map Value.ref) b₁.fm.old (repl_objs as.reverse)
  have b₂ := b₁.pure e1
  exact store_go b₂.in0 b₂.fm r1 hk fun s' e' k' i' f' => q as s' hl hn (b₂.store e' k' i' f')

theorem repl_nest {V V' : List Addr} {h : Heap} {α : Type} (f : α → Addr) (g : α → D) : ∀ (l : List α) {vs : List Value}, RepL V h vs (l.map fun i => .obj (f i)) → (∀ i ∈ l, Rep V' h (.ref (f i)) (g i)) → RepL V' h vs (l.map g)
  | [], vs, r, _ => by obtain rfl := r.toNil; exact .nil
  | i :: l, vs, r, k => by
    obtain ⟨v, us, r1, r2, rfl⟩ := r.toCons
    obtain rfl := r1.toObj
    exact .cons (k i (.head _)) (repl_nest f g l r2 fun j hj => k j (.tail _ hj))
/-- a list of owned lists is given back -/
theorem bo_retn {x : Str} {px pos : Pos} {rest : List Stmt} {α : Type} {f : α → Addr} {g : α → List D} {l : List α} {U V' : List Addr} {s0 : Shared} {A : Around} {s : Shared} {E : Value → Shared → Prop} {Q : Flow → Shared → Prop} (hA : AOk n A) (b : Bo h₀ B env (U ++ V) ρ O s) (hb : ([], s0) ∈ B)
    (hx : ρ.lookup x = some (.list (l.map fun i => .obj (f i)))) (hO : ∀ i ∈ l, (f i, ol (g i)) ∈ O) (hf : ∀ i ∈ l, f i ∉ V) (hg : ∀ i ∈ l, ∀ d ∈ g i, Flat d) (q : Fin1 V s0 (.list (l.map fun i => .list (g i))) Q)
    (hpe : PE prog w h₀ n env (U ++ V) ρ (.Name x px) (.list (l.map fun i => .obj (f i)))) : wpAny (model prog w) A (execs (.Return (some (.Name x px)) pos :: rest) env) Q E s := by
  refine ex_ret hA b.in0 b.fm hpe fun v s' e r => ?_
  obtain ⟨a, vs, ha, hl, rl, rfl⟩ := r.toList
  have b' := b.pure e
  refine q _ s' V (fun _ h => h) (fun a o x => e.keep a o ((b.keep _ hb).keep a o x)) (e.gens.trans (b.keep _ hb).gens) (e.os.trans (b.keep _ hb).os) (.list (fun h => ha (List.mem_append_right _ h)) hl (repl_nest f (fun i => .list (g i)) l rl fun i hi => ?_))
  obtain ⟨us, hl', rl'⟩ := b'.own _ (hO i hi)
  exact .list (hf i hi) hl' (rl'.flat (hg i hi))
end
end Mine
end

section
open PySem PySem.Calls PySem.W PyProof.Rows
set_option Elab.async false
set_option maxRecDepth 100000
namespace Mine
section
variable {prog : Program} {w : World} {h₀ : Heap} {n : Nat} {env : Env} {V : List Addr} {ρ : List (Str × D)} {B : List (List Addr × Shared)} {O O' : List (Addr × Ow)}

/-- a turn of the first of two clauses -/
theorem wp_turnO {A : Around} {s : Shared} {E : Value → Shared → Prop} {Q : Fin → Shared → Prop} {elt target iter target2 iter2 : Expr} {ifs2 : List Expr} {scope : Scope} {pos : Pos} {it acc : Value} {env : Env} (hfs : ∀ x, foldedSetIterable iter2 env x = pure x)
    (h : wpAny (model prog w) A (pyNext it) (fun r s₁ => match r with
      | none => Q (.done .next) s₁
      | some v => wpAny (model prog w) A (letOwnedTupleGo target it v) (fun _ s₁ => wpAny (model prog w) A (assign target env v) (fun _ s₂ =>
          wpAny (model prog w) A (eval iter2 env) (fun x s₃ => wpAny (model prog w) A (pyIter x) (fun it2 s₄ =>
            wpAny (model prog w) A (runOwn (.compStart (.ListComp elt [⟨target, iter, [], 0⟩, ⟨target2, iter2, ifs2, 0⟩] scope pos) 1 it2 acc env) env) (fun _ s₅ =>
              wpAny (model prog w) A (again (.compLoop (.ListComp elt [⟨target, iter, [], 0⟩, ⟨target2, iter2, ifs2, 0⟩] scope pos) 0 it acc env)) Q E s₅) E s₄) E s₃) E s₂) E s₁) E s₁) E s) :
    wpAny (model prog w) A (compTurn (.ListComp elt [⟨target, iter, [], 0⟩, ⟨target2, iter2, ifs2, 0⟩] scope pos) 0 it acc env) Q E s := by
  unfold compTurn
  refine wpAny_bind (wpAny_standAt (wpAny_bind (wpAny_mono h (fun r s₁ h₁ => ?_) fun _ _ e => e)))
  cases r with
  | none => exact wpAny_pure h₁
  | some v =>
    refine wpAny_bind (wpAny_mono h₁ (fun _ s₁ h₁ => wpAny_bind (wpAny_mono h₁ (fun _ s₂ h₂ => ?_) fun _ _ h' => h')) fun _ _ h' => h')
    refine wpAny_bind (wpAny_pure ?_)
    show wpAny _ _ (eval iter2 env >>= _) _ _ s₂
    refine wpAny_bind (wpAny_mono h₂ (fun x s₃ h₃ => ?_) fun _ _ h' => h')
    refine wpAny_bind (wpAny_standAt ?_)
    show wpAny _ _ (foldedSetIterable iter2 env x >>= _) _ _ s₃
    refine wpAny_bind (wpAny_of_eq (hfs x) ?_)
    show wpAny _ _ (holding [x] (pyIter x) >>= _) _ _ s₃
    refine wpAny_bind (wpAny_holding (wpAny_mono h₃ (fun it2 s₄ h₄ => ?_) fun _ _ h' => h'))
    exact wpAny_bind (wpAny_mono h₄ (fun _ s₅ h₅ => h₅) fun _ _ h' => h')
end
end Mine
end

section
open PySem PySem.Calls PySem.W PyProof.Rows
set_option Elab.async false
set_option maxRecDepth 100000
namespace Mine
section
variable {prog : Program} {w : World} {h₀ : Heap} {n : Nat} {env : Env} {V : List Addr} {ρ : List (Str × D)} {B : List (List Addr × Shared)} {O O' : List (Addr × Ow)} {W : List Addr}

theorem Fm.growW {U : List Addr} {h h' : Heap} (F : Fm env V ρ h) (hx : ExtB W h h') (hW : WOk env V W) (hU : ∀ a ∈ U, h.get? a = Option.none) (hl : ∀ a ∈ U, ∃ o, h'.get? a = some o) (ho : Old V h') : Fm env (U ++ V) ρ h' where
  names := fun x d hd => by
    obtain ⟨v, hv, r⟩ := F.names x d hd
    refine ⟨v, ?_, (r.shun fun a o ha ho hm => ?_).ext (W := W) (fun a ha => List.mem_append_right _ (hW a ha).1) hx⟩
    · cases hv with
      | loc a b c => exact .loc a (b.at' fun o e => hx _ o (fun hm => (hW _ hm).2 (.inl rfl)) e) c
      | cell a b c => exact .cell a b (let ⟨o, ho, hd⟩ := c; ⟨o, hx _ o (fun hm => (hW _ hm).2 (.inr ⟨x, b⟩)) ho, hd⟩)
      | free a b c => exact .free a b (let ⟨o, ho, hd⟩ := c; ⟨o, hx _ o (fun hm => (hW _ hm).2 (.inr ⟨x, b⟩)) ho, hd⟩)
    · rcases List.mem_append.mp hm with hm | hm
      · rw [hU a hm] at ho; cases ho
      · exact ha hm
  ns := let ⟨m, hm⟩ := F.ns; ⟨m, hm.at' fun o e => hx _ o (fun hm => (hW _ hm).2 (.inl rfl)) e⟩
  cells := fun x c hc => let ⟨v, o, ho, hd⟩ := F.cells x c hc; ⟨v, o, hx _ o (fun hm => (hW _ hm).2 (.inr ⟨x, hc⟩)) ho, hd⟩
  vloc := List.mem_append_right _ F.vloc
  vcell := fun x c hc => List.mem_append_right _ (F.vcell x c hc)
  old := fun a ha => (List.mem_append.mp ha).elim (hl a) (ho a)
  ok := F.ok

/-- y = [elt for x in iter], whose items may write what is owned; y a local name -/
theorem bo_compr {elt iter : Expr} {x y : Str} {px py : Pos} {scope : Scope} {pos spos : Pos} {rest : List Stmt} {α β : Type} (e : α → D) (e' : β → D) {l : List α} {outl : List β} (hlen : outl.length = l.length) {J : Nat → Heap → Prop} {fp : List Addr} (K : Keeps fp J)
    {A : Around} {s : Shared} {E : Value → Shared → Prop} {Q : Flow → Shared → Prop} (hA : AOk n A) (b : Bo h₀ B env V ρ O s) (h0 : OwnP V O s.heap → J 0 s.heap) (h1 : ∀ h, J l.length h → OwnP V O' h) (hO : O'.map (·.1) = O.map (·.1)) (hfp : ∀ a ∈ fp, ¬ Own env a)
    (hit : IT prog w h₀ n env V ρ iter (l.map e)) (co : CompOk scope env) (hx : scope.names.lookup x = some .local ∨ scope.names.lookup x = some .cell)
    (helt : ∀ C V' i a b, l[i]? = some a → outl[i]? = some b → (∀ a ∈ V, a ∈ V') → WOk (cEnv scope env C) V' (O.map (·.1)) → PR prog w h₀ n (cEnv scope env C) V' ((x, e a) :: caps scope ρ) (J i) (J (i + 1)) (O.map (·.1)) elt (e' b))
    (hsz : l.length ≤ sizeLine) (hk : KOk env y)
    (q : ∀ s', Bo h₀ B env V ((y, .list (outl.map e')) :: ρ) O' s' → wpAny (model prog w) A (execs rest env) Q E s')
    (hsw : autoParam (swapsWith (.ListComp elt [⟨.Name x px, iter, [], 0⟩] scope pos) (some (.Name y py)) spos.line env = pure true) tacRfl) (hfs : autoParam (∀ x, foldedSetIterable iter env x = pure x) tacIntroRfl) :
    wpAny (model prog w) A (execs (.Assign [.Name y py] (.ListComp elt [⟨.Name x px, iter, [], 0⟩] scope pos) spos :: rest) env) Q E s := by
  have hJ := h0 b.ownP
  have hW := b.wok
  have F := b.fm
  refine wpAny_execs_cons ?_
  rw [exec_Assign_Name_used _ _ _ _ hsw]
  refine wpAny_bind (wpAny_standAt (wpAny_bind ?_))
  show wpAny _ A (do let _ ← comprehension (.ListComp elt [⟨.Name x px, iter, [], 0⟩] scope pos) scope env _ (newList []) false (eval iter env) (some (assign (.Name y py) env))) _ _ s
  refine wpAny_bind ?_
  refine wp_stp (W := V) (R := fun _ s' => Fm env V ((y, .list (outl.map e')) :: ρ) s'.heap ∧ J l.length s'.heap ∧ (∀ a o, a ∉ O.map (·.1) → a ∉ wAddr env y → s.heap.get? a = some o → s'.heap.get? a = some o)) (fun E' Q' q' => ?_)
    (fun _ s' e h => wpAny_pure (wpAny_pure (q s' ⟨h.1, b.in0.write e.ext (Nat.le_trans b.in0.toks e.toks), fun p hp => ⟨e.gens.trans (b.keep p hp).gens, e.os.trans (b.keep p hp).os, fun a o ha ho => h.2.2 a o (fun hm => ?_) (fun hm => ?_) ((b.keep p hp).ext a o ha ho)⟩, b.newO, fun p hp => (h1 _ h.2.1 p hp).2, fun p hp => ?_, by rw [hO]; exact b.odis, b.wv⟩)))
  rotate_left
  · obtain ⟨z, hz, rfl⟩ := List.mem_map.mp hm
    rcases (b.onew z hz).2.2 p hp with h | h
    · exact ha h
    · rw [h] at ho; cases ho
  · rcases b.newO p hp a (wAddr_own hm) with h | h
    · exact ha h
    · rw [h] at ho; cases ho
  · have : p.1 ∈ O.map (·.1) := by rw [← hO]; exact List.mem_map_of_mem hp
    obtain ⟨z, hz, hz1⟩ := List.mem_map.mp this
    rw [← hz1]; exact b.onew z hz
  refine compw e e' hlen K hA b.in0 F hJ hW hit co hx (fun C V' i a b h1 h2 h3 _ h5 => helt C V' i a b h1 h2 h3 h5) hsz hfs fun a C s' ce hj => ?_
  show wpAny _ A (assign (.Name y py) env (.ref a)) _ _ s'
  have F' : Fm env ([C] ++ V) ρ s'.heap := F.growW (W := O.map (·.1)) (fun b o hb e => ce.kept b o hb e) hW (fun a ha => by rw [List.mem_singleton.mp ha]; exact ce.fC)
    (fun a ha => by rw [List.mem_singleton.mp ha]; obtain ⟨m, o, _, _, ho, _⟩ := ce.ns; exact ⟨o, ho⟩) ce.old
  obtain ⟨ys, hl, hr⟩ := ce.list
  have hav : a ∉ V := fun hm => by obtain ⟨o, ho⟩ := F.old a hm; rw [ce.fa] at ho; cases ho
  have hCV : C ∉ V := fun hm => by obtain ⟨o, ho⟩ := F.old C hm; rw [ce.fC] at ho; cases ho
  have r' : Rep (C :: V) s'.heap (.ref a) (.list (outl.map e')) := .list (fun hm => (List.mem_cons.mp hm).elim ce.ne hav) hl hr
  refine wpAny_assign_Name (fm_store F' r' hk fun s'' e'' F'' k'' => ?_)
  have hwV : ∀ c ∈ wAddr env y, c ∈ V := fun c hc => b.ownV (wAddr_own hc)
  have hCw : C ∉ wAddr env y := fun hm => hCV (hwV C hm)
  obtain ⟨m, hm⟩ := ce.ns
  have hm'' : s''.heap.Ns C m := hm.at' fun o e => k'' C o hCw e
  have j'' : J l.length s''.heap := K.ext _ _ _ hj fun c hc o ho => k'' c o (fun hm => hfp c hc (wAddr_own hm)) ho
  refine ⟨m, hm'', fun h' hs' => q' _ _ ⟨e''.gens.trans ce.gens, e''.os.trans ce.os, fun c o hb e => ?_⟩ ⟨?_, K.ext _ _ _ j'' fun c hc o ho => hs'.extBut c o (fun q => ?_) ho, fun c o hb hb2 e => ?_⟩⟩
  · exact hs'.extBut c o (fun q => by rw [q, ce.fC] at e; cases e) (k'' c o (fun hm => hb (hwV c hm)) (ce.kept c o (fun hm => hb (hW c hm).1) e))
  · have ext : ExtB [C] s''.heap h' := fun b o hb e => hs'.extBut b o (by simpa using hb) e
    exact Fm.drop (W := [C]) F'' ext (fun a ha q => hCV (by rw [← List.mem_singleton.mp q]; exact ha)) F.vloc F.vcell
  · obtain ⟨o', ho'⟩ := K.live _ hJ c hc
    rw [q, ce.fC] at ho'; cases ho'
  · exact hs'.extBut c o (fun q => by rw [q, ce.fC] at e; cases e) (k'' c o hb2 (ce.kept c o hb e))
end
end Mine
end

section
open PySem PySem.Calls PySem.W PyProof.Rows
set_option Elab.async false
set_option maxRecDepth 100000
namespace Mine
section
variable {prog : Program} {w : World} {h₀ : Heap} {n : Nat} {env : Env} {V : List Addr} {ρ : List (Str × D)} {B : List (List Addr × Shared)} {O O' : List (Addr × Ow)}

/-- the second clause's start -/
theorem start_two {A : Around} {s : Shared} {R : Result → Shared → Prop} {elt target iter : Expr} {g0 : Comprehension} {ifs : List Expr} {scope : Scope} {pos : Pos} {it acc : Value} {env : Env}
    (h0 : codeAny (model prog w) A (.compLoop (.ListComp elt [g0, ⟨target, iter, ifs, 0⟩] scope pos) 1 it acc env) R s)
    (h : wpAny (model prog w) A (pyIter it) (fun it' s' => codeAny (model prog w) A (.compLoop (.ListComp elt [g0, ⟨target, iter, ifs, 0⟩] scope pos) 1 it' acc env) R s') (notedBy (model prog w) A env fun x s' => R (.error x) s') s) :
    codeAny (model prog w) A (.compStart (.ListComp elt [g0, ⟨target, iter, ifs, 0⟩] scope pos) 1 it acc env) R s := by
  refine codeAny_of_tree ?_
  show wpAny _ _ ((compStart (.ListComp elt [g0, ⟨target, iter, ifs, 0⟩] scope pos) 1 it acc env).onRaise (fun x => do noteFrame x env; standAt theWindowsPlace)) _ _ s
  refine wpAny_notedAt ?_
  unfold compStart
  show wpAny _ _ (ask >>= _) _ _ s
  refine wpAny_bind (wpAny_askSetting (wpAny_ite ?_))
  split
  · first
      | exact wpAny_bind (wpAny_pure (wpAny_pure ⟨rfl, h0⟩))
      | exact wpAny_pure ⟨rfl, h0⟩
  · refine wpAny_bind (wpAny_rule ?_)
    show wpAny _ _ (standAt iter.pos >>= _) _ _ s
    exact wpAny_bind (wpAny_standAt (wpAny_bind (wpAny_mono h (fun it' s' h' => wpAny_pure ⟨rfl, h'⟩) fun _ _ x => x)))

theorem outs_flat (t : D → Bool) (f : D → D) (l : List D) : outs t (fun _ => f) [] l = (l.filter t).map f := outs_pure t f l []
theorem flat_len {α β : Type} (f : α → List β) (k : Nat) : ∀ l : List α, (∀ a ∈ l, (f a).length ≤ k) → (l.flatMap f).length ≤ k * l.length
  | [], _ => Nat.zero_le _
  | a :: l, h => by
    have ih := flat_len f k l fun b hb => h b (.tail _ hb)
    have := h a (.head _)
    rw [List.flatMap_cons, List.length_append, List.length_cons, Nat.mul_succ]; omega

/-- two clauses' loops, by their data -/
theorem comp_data2 {A : Around} {s : Shared} {R : Result → Shared → Prop} {elt target iter target2 iter2 : Expr} {ifs2 : List Expr} {scope : Scope} {pos : Pos} {I acc : Addr} {cenv : Env} {ds : List D} {ds2 : D → List D} {St : Nat → Heap → Prop}
    (hA : AOk n A) (W : Wk prog w A V I ds St) {b1 b2 : D → List (Str × D)} {Wt Wt2 : List Addr} (hT1 : TA prog w n cenv target b1 (fun _ => True) Wt) (hT2 : TA prog w n cenv target2 b2 (fun _ => True) Wt2)
    (hCt : ∀ a ∈ Wt, a ∈ V ∧ a ≠ I ∧ a ≠ acc) (hCt2 : ∀ a ∈ Wt2, a ∈ V ∧ a ≠ I ∧ a ≠ acc)
    (hI : I ∈ V) (hIo : ¬ Own cenv I) (hac : acc ∈ V) (haco : ¬ Own cenv acc) (hne : acc ≠ I) (t : D → D → Bool) (f : D → D → D)
    (hdis1 : ∀ d ∈ ds, ∀ x dx, ρ.lookup x = some dx → (b1 d).lookup x = Option.none) (hdis2 : ∀ d ∈ ds, ∀ d2 ∈ ds2 d, ∀ x dx, (b1 d ++ ρ).lookup x = some dx → (b2 d2).lookup x = Option.none)
    (hit2 : ∀ d ∈ ds, IT prog w h₀ n cenv V (b1 d ++ ρ) iter2 (ds2 d))
    (htests : ∀ V' d d2, d ∈ ds → d2 ∈ ds2 d → TS prog w h₀ n cenv V' (b2 d2 ++ (b1 d ++ ρ)) ifs2 (t d d2))
    (helt : ∀ V' d d2, d ∈ ds → d2 ∈ ds2 d → t d d2 = true → PE prog w h₀ n cenv V' (b2 d2 ++ (b1 d ++ ρ)) elt (f d d2))
    (hfs2 : ∀ x, foldedSetIterable iter2 cenv x = pure x)
    (h0 : St 0 s.heap) (F : Fm cenv V ρ s.heap) (hl : s.heap.PlainList acc #[]) (hB : In0 h₀ V s) (hsz : ds.length ≤ 1000) (hsz2 : ∀ d ∈ ds, (ds2 d).length ≤ 1000)
    (fin : ∀ s' ys, Stp0 V s s' → (∀ a o, a ≠ I → a ≠ acc → a ∉ Wt → a ∉ Wt2 → s.heap.get? a = some o → s'.heap.get? a = some o) → (∃ m, s'.heap.Ns cenv.locals m) → s'.heap.PlainList acc ys →
      RepL V s'.heap ys.toList (ds.flatMap fun d => ((ds2 d).filter (t d)).map (f d)) → In0 h₀ V s' → (∀ a ∈ V, a ≠ I → ∃ o, s'.heap.get? a = some o) → R (.ok .next) s') :
    codeAny (model prog w) A (.compLoop (.ListComp elt [⟨target, iter, [], 0⟩, ⟨target2, iter2, ifs2, 0⟩] scope pos) 0 (.ref I) (.ref acc) cenv) R s := by
  have inI : ∀ a ∈ [I], a ∈ V := fun a ha => by rw [List.mem_singleton.mp ha]; exact hI
  generalize hG : (fun d => ((ds2 d).filter (t d)).map (f d)) = G at fin
  have Glen : ∀ d ∈ ds, (G d).length ≤ 1000 := fun d hd => by
    rw [← hG]
    show (((ds2 d).filter (t d)).map (f d)).length ≤ _
    rw [List.length_map]; exact Nat.le_trans (List.length_filter_le _ _) (hsz2 d hd)
  have hline : sizeLine = 16777216 := rfl
  refine codeAny_loop (c := .compLoop (.ListComp elt [⟨target, iter, [], 0⟩, ⟨target2, iter2, ifs2, 0⟩] scope pos) 0 (.ref I) (.ref acc) cenv) rfl (fun m s' => ∃ i ys, m = ds.length + 1 - i ∧ i ≤ ds.length ∧ St i s'.heap ∧ Stp0 V s s' ∧
      (∀ a o, a ≠ I → a ≠ acc → a ∉ Wt → a ∉ Wt2 → s.heap.get? a = some o → s'.heap.get? a = some o) ∧ Fm cenv V ρ s'.heap ∧ s'.heap.PlainList acc ys ∧ RepL V s'.heap ys.toList ((ds.take i).flatMap G) ∧ In0 h₀ V s')
    (fun m s₁ hJ => ?_) (ds.length + 1) ⟨0, #[], rfl, Nat.zero_le _, h0, ⟨rfl, rfl, fun _ _ _ e => e⟩, fun _ _ _ _ _ _ e => e, F, hl, .nil, hB⟩
  obtain ⟨i, ys, rfl, hi, st, e01, k01, F₁, hl₁, hr₁, hB₁⟩ := hJ
  have hu : A.under (Code.compLoop (.ListComp elt [⟨target, iter, [], 0⟩, ⟨target2, iter2, ifs2, 0⟩] scope pos) 0 (.ref I) (.ref acc) cenv) = A := Around.under_of_weight rfl
  rw [hu]
  show wpAny _ A ((compTurn (.ListComp elt [⟨target, iter, [], 0⟩, ⟨target2, iter2, ifs2, 0⟩] scope pos) 0 (.ref I) (.ref acc) cenv).onRaise (fun x => do noteFrame x cenv; theTreesLotGoes x)) _ _ s₁
  refine wpAny_noted (wp_turnO hfs2 ?_)
  cases hd : ds[i]? with
  | none =>
    have hin : i = ds.length := by have := List.getElem?_eq_none_iff.mp hd; omega
    subst hin
    rw [List.take_length] at hr₁
    refine wpAny_with_toks hB₁.toks (W.done s₁ _ _ st fun s₂ e12 ht => ?_)
    have kI : ∀ a o, a ≠ I → s₁.heap.get? a = some o → s₂.heap.get? a = some o := fun a o ha e => e12.ext a o (by simpa using ha) e
    have e12V : ExtB V s₁.heap s₂.heap := fun b o hb e => e12.ext b o (fun hm => hb (inI b hm)) e
    have hCI : cenv.locals ≠ I := fun q => hIo (.inl q.symm)
    obtain ⟨mm, hm⟩ := F₁.ns
    exact fin s₂ ys ⟨e12.gens.trans e01.gens, e12.os.trans e01.os, fun b o hb e => e12V b o hb (e01.ext b o hb e)⟩ (fun a o h1 h2 h3 h4 e => kI a o h1 (k01 a o h1 h2 h3 h4 e))
      ⟨mm, hm.at' fun o e => kI _ o hCI e⟩ (hl₁.at fun o e => kI _ o hne e) (hr₁.ext inI e12.ext) (hB₁.write e12V ht) (fun a ha hn => let ⟨o, ho⟩ := F₁.old a ha; ⟨o, kI a o hn ho⟩)
  | some d =>
    have hlt : i < ds.length := (List.getElem?_eq_some_iff.mp hd).1
    have hmem : d ∈ ds := List.mem_of_getElem? hd
    refine wpAny_with_toks hB₁.toks (W.item i s₁ _ _ d hd st fun v s₂ rv st₂ e12 ht₂ => ?_)
    have kI : ∀ a o, a ≠ I → s₁.heap.get? a = some o → s₂.heap.get? a = some o := fun a o ha e => e12.ext a o (by simpa using ha) e
    have e12V : ExtB V s₁.heap s₂.heap := fun b o hb e => e12.ext b o (fun hm => hb (inI b hm)) e
    have aliveI : ∃ o, s₂.heap.get? I = some o := let ⟨o, _, ho, _⟩ := W.cls _ _ st₂; ⟨o, ho⟩
    have F₂ : Fm cenv V ρ s₂.heap := F₁.write e12.ext inI (fun hm => hIo (.inl (List.mem_singleton.mp hm).symm)) (fun y c hc hm => hIo (.inr ⟨y, by rw [← List.mem_singleton.mp hm]; exact hc⟩))
      (fun a ha => by rw [List.mem_singleton.mp ha]; exact aliveI)
    have hB₂ := hB₁.write e12V ht₂
    refine own_tuple_go W st₂ ?_
    refine wpAny_with_toks hB₂.toks (hT1 A s₂ _ _ V ρ v d trivial hA F₂ rv fun s₃ e23 F₃ k23 ht₃ => ?_)
    have hB₃ := hB₂.write e23.ext ht₃
    have st₃ : St (i + 1) s₃.heap := W.frame _ _ _ st₂ e23.ext fun o e => k23 I o (fun hm => (hCt I hm).2.1 rfl) e
    have hl₃ : s₃.heap.PlainList acc ys := (hl₁.at fun o e => kI _ o hne e).at fun o e => k23 _ o (fun hm => (hCt _ hm).2.2 rfl) e
    have hr₃ : RepL V s₃.heap ys.toList ((ds.take i).flatMap G) := (hr₁.ext inI e12.ext).ext (fun _ h => h) e23.ext
    have k03 : ∀ a o, a ≠ I → a ≠ acc → a ∉ Wt → a ∉ Wt2 → s.heap.get? a = some o → s₃.heap.get? a = some o := fun a o h1 h2 h3 h4 e => k23 a o h3 (kI a o h1 (k01 a o h1 h2 h3 h4 e))
    have e03 : Stp0 V s s₃ := ⟨e23.gens.trans (e12.gens.trans e01.gens), e23.os.trans (e12.os.trans e01.os), fun b o hb e => e23.ext b o hb (e12V b o hb (e01.ext b o hb e))⟩
    refine hit2 d hmem A s₃ _ _ hA hB₃ F₃ fun I2 s₄ e34 hI2 hI2l hW2 => ?_
    obtain ⟨St2, W2, st2⟩ := hW2 [] fun _ h => nomatch h
    have hI2V : I2 ∉ V := fun hm => by obtain ⟨o, ho⟩ := F₃.old I2 hm; rw [hI2] at ho; cases ho
    have live : ∀ a o, s₃.heap.get? a = some o → a ≠ I2 := fun a o h q => by rw [q, hI2] at h; cases h
    have F₄ : Fm cenv (I2 :: V) (b1 d ++ ρ) s₄.heap := F₃.grow (U := [I2]) e34.keep (fun a ha => by rw [List.mem_singleton.mp ha]; exact hI2) (fun a ha => by rw [List.mem_singleton.mp ha]; exact hI2l)
    have hB₄ : In0 h₀ (I2 :: V) s₄ := ⟨(hB₃.stp e34).ext, (hB₃.stp e34).toks, fun a hm => (List.mem_cons.mp hm).elim (fun e => by rw [e]; exact none_of_ext hB₃.ext hI2) (hB₃.new a)⟩
    have hI2o : ¬ Own cenv I2 := fun h => h.elim (fun e => hI2V (e ▸ F₃.vloc)) fun ⟨y, hy⟩ => hI2V (F₃.vcell y _ hy)
    have hacI2 : acc ≠ I2 := fun e => hI2V (e ▸ hac)
    have hII2 : I ≠ I2 := fun e => hI2V (e ▸ hI)
    have hr₄ : RepL (I2 :: V) s₄.heap ys.toList ((ds.take i).flatMap G) := (repL_cons hI2 hr₃).stp0 e34.toStp0
    have hl₄ : s₄.heap.PlainList acc ys := hl₃.at fun o e => e34.keep _ o e
    have hol : ((ds.take i).flatMap G).length ≤ 1000 * 1000 := by
      have h1 := flat_len G 1000 (ds.take i) fun a ha => Glen a (List.mem_of_mem_take ha)
      have h2 : (ds.take i).length ≤ 1000 := by rw [List.length_take]; omega
      exact Nat.le_trans h1 (Nat.mul_le_mul_left _ h2)
    have h2s := hsz2 d hmem
    refine wpAny_runOwn ?_
    rw [hA.mark]
    generalize hR2 : (fun r s' => _ : Result → Shared → Prop) = R2
    have loop : codeAny (model prog w) A (.compLoop (.ListComp elt [⟨target, iter, [], 0⟩, ⟨target2, iter2, ifs2, 0⟩] scope pos) 1 (.ref I2) (.ref acc) cenv) R2 s₄ := by
      refine comp_data (V := I2 :: V) (ρ := b1 d ++ ρ) (St := St2) (ds := ds2 d) (out0 := (ds.take i).flatMap G) (compTurn2 ..) rfl rfl (Around.under_of_weight rfl) W2 hA hT2 (fun _ _ => trivial) [] (fun _ h => nomatch h) (fun h => hI2V (hCt2 _ h).1) (fun h => (hCt2 _ h).2.2 rfl) (fun a ha => .tail _ (hCt2 a ha).1)
        (.head _) hI2o (.tail _ hac) haco hacI2 (fun _ _ => True) (t d) (fun _ => f d) (hdis2 d hmem) (fun _ _ _ _ _ => trivial)
        (fun pre d2 post s₁ E Q hs hb hf _ hq => htests _ d d2 hmem (by rw [hs]; simp) A s₁ E Q hA hb hf hq)
        (fun pre d2 post s₁ E Q hs ht hb hf _ hq => helt _ d d2 hmem (by rw [hs]; simp) ht A s₁ E Q hA hb hf fun x s' e r => hq x s' e r (hf.ext e.toStp0).old trivial)
        (fun _ _ _ _ _ => trivial) st2 F₄ hl₄ hr₄ trivial hB₄ (by omega) fun s₅ ys₅ e45 k45 hns hl₅ hr₅ _ hB₅ hold hF => ?_
      obtain ⟨s₆, F₆, e65⟩ := hF
      rw [outs_flat] at hr₅
      have k35 : ∀ a o, a ≠ acc → a ∉ Wt2 → s₃.heap.get? a = some o → s₅.heap.get? a = some o := fun a o h1 h2 e => k45 a o List.not_mem_nil (live a o e) h1 h2 (e34.keep a o e)
      have e35 : Stp0 V s₃ s₅ := ⟨e45.gens.trans e34.gens, e45.os.trans e34.os, fun b o hb e => e45.ext b o (fun hm => (List.mem_cons.mp hm).elim (live b o e) hb) (e34.keep b o e)⟩
      rw [← hR2]
      refine wpAny_pure ⟨rfl, ds.length + 1 - (i + 1), by omega, i + 1, ys₅, rfl, hlt, W.frame _ _ _ st₃ e35.ext fun o e => k35 I o (Ne.symm hne) (fun hm => (hCt2 I hm).2.1 rfl) e,
        ⟨e35.gens.trans e03.gens, e35.os.trans e03.os, fun b o hb e => e35.ext b o hb (e03.ext b o hb e)⟩, fun a o h1 h2 h3 h4 e => k35 a o h2 h4 (k03 a o h1 h2 h3 h4 e), ?_, hl₅, ?_, ⟨hB₅.ext, hB₅.toks, fun a ha => hB₅.new a (.tail _ ha)⟩⟩
      · have := Fm.drop (W := [I2]) F₆ e65.ext (fun a ha hm => hI2V (by rw [← List.mem_singleton.mp hm]; exact ha)) F₃.vloc F₃.vcell
        exact this.names_mono fun x dx hx => by rw [List.lookup_append, hdis1 d hmem x dx hx]; exact hx
      · rw [take_snoc hd, List.flatMap_append, List.flatMap_cons, List.flatMap_nil, List.append_nil, ← hG]
        rw [← hG] at hr₅
        exact hr₅.shun fun a o ha _ hm => ha (.tail _ hm)
    exact start_two loop (W2.self 0 _ _ _ st2 loop)

/-- an if whose branches meet again, with other owned things -/
theorem bo_ifo {test : Expr} {body orelse rest : List Stmt} {pos : Pos} {c : Bool} {A : Around} {s : Shared} {E : Value → Shared → Prop} {Q : Flow → Shared → Prop} (hA : AOk n A) (b : Bo h₀ B env V ρ O s) (ρ' : List (Str × D)) (O' : List (Addr × Ow))
    (ht : PT prog w h₀ n env V ρ test c)
    (h1 : c = true → ∀ s', Bo h₀ B env V ρ O s' → wpAny (model prog w) A (execs body env) (fun f s'' => f = .next ∧ Bo h₀ B env V ρ' O' s'') E s')
    (h2 : c = false → ∀ s', Bo h₀ B env V ρ O s' → wpAny (model prog w) A (execs orelse env) (fun f s'' => f = .next ∧ Bo h₀ B env V ρ' O' s'') E s')
    (h3 : ∀ s'', Bo h₀ B env V ρ' O' s'' → wpAny (model prog w) A (execs rest env) Q E s'') :
    wpAny (model prog w) A (execs (.If test body orelse pos :: rest) env) Q E s := bo_ifj hA b _ ht h1 h2 h3

/-- [elt for x in iter for y in iter2 if ..] -/
theorem pef_comp2 {elt iter iter2 : Expr} {x y : Str} {px py : Pos} {ifs2 : List Expr} {scope : Scope} {pos : Pos} {ds : List D} {ds2 : D → List D} {t : D → D → Bool} {f : D → D → D}
    (hit : IT prog w h₀ n env V ρ iter ds) (co : CompOk scope env) (hx : scope.names.lookup x = some .local ∨ scope.names.lookup x = some .cell) (hy : scope.names.lookup y = some .local ∨ scope.names.lookup y = some .cell) (hxy : (y == x) = false)
    (hit2 : ∀ C V' d, d ∈ ds → IT prog w h₀ n (cEnv scope env C) V' ((x, d) :: caps scope ρ) iter2 (ds2 d))
    (htests : ∀ C V' d d2, d ∈ ds → d2 ∈ ds2 d → TS prog w h₀ n (cEnv scope env C) V' ((y, d2) :: (x, d) :: caps scope ρ) ifs2 (t d d2))
    (helt : ∀ C V' d d2, d ∈ ds → d2 ∈ ds2 d → t d d2 = true → PE prog w h₀ n (cEnv scope env C) V' ((y, d2) :: (x, d) :: caps scope ρ) elt (f d d2))
    (hsz : ds.length ≤ 1000) (hsz2 : ∀ d ∈ ds, (ds2 d).length ≤ 1000) (hfs : autoParam (∀ x, foldedSetIterable iter env x = pure x) tacIntroRfl) (hfs2 : autoParam (∀ (e : Env) x, foldedSetIterable iter2 e x = pure x) tacIntroUnf) :
    PEF prog w h₀ n env V ρ (.ListComp elt [⟨.Name x px, iter, [], 0⟩, ⟨.Name y py, iter2, ifs2, 0⟩] scope pos) (ds.flatMap fun d => ((ds2 d).filter (t d)).map (f d)) := by
  intro A s E Q hA hB F q
  rw [eval_ListComp]
  refine wp_stp (W := []) (R := fun v s' => ∃ a, v = .ref a ∧ s.heap.get? a = Option.none ∧ Rep V s'.heap v (.list (ds.flatMap fun d => ((ds2 d).filter (t d)).map (f d)))) (fun E' Q' q' => ?_) (by rintro v s' e ⟨a, rfl, h1, h2⟩; exact q a s' e h1 h2)
  refine comp_open hA hB F hit co hfs fun H oc I acc V' St s₃ o => ?_
  obtain ⟨Wt, hTA, hWt⟩ := tgt_name (prog := prog) (w := w) (n := n) (pos := px) hx env H s₃.heap oc o.start
  obtain ⟨Wt2, hTA2, hWt2⟩ := tgt_name (prog := prog) (w := w) (n := n) (pos := py) hy env H s₃.heap oc o.start
  have okt : ∀ Wt : List Addr, (∀ a ∈ Wt, a = H.objs.size ∨ a ∈ oc) → (∀ a ∈ Wt, s.heap.get? a = Option.none) ∧ ∀ a ∈ Wt, a ∈ V' ∧ a ≠ I ∧ a ≠ acc := fun Wt h =>
    ⟨fun a ha => (h a ha).elim (fun h => by rw [h]; exact o.fC) fun h => o.fO a h, fun a ha => (h a ha).elim (fun h => by rw [h]; exact ⟨o.mC, Ne.symm o.nIC, Ne.symm o.nAC⟩) fun h => ⟨o.mO a h, fun e => o.nIO (e ▸ h), fun e => o.nAO (e ▸ h)⟩⟩
  obtain ⟨n1, k1⟩ := okt Wt hWt
  obtain ⟨n2, k2⟩ := okt Wt2 hWt2
  refine comp_data2 (ρ := caps scope ρ) hA o.wk hTA hTA2 k1 k2 o.mI o.ownI o.mA o.ownA o.nAI t f (hdis_name hx) (fun d hd d2 hd2 z dz hz => ?_) (fun d hd => hit2 _ _ d hd) (fun V' d d2 h1 h2 => htests _ V' d d2 h1 h2) (fun V' d d2 h1 h2 h3 => helt _ V' d d2 h1 h2 h3) (hfs2 _) o.st o.fm o.list o.in0 hsz hsz2 fun s' ys e0 k0 hns hl hr hb hold => ?_
  · by_cases e : z = x
    · subst e
      rw [List.lookup_cons, show (z == y) = false by simp only [beq_eq_false_iff_ne] at hxy ⊢; exact Ne.symm hxy]; rfl
    · have hz' : (caps scope ρ).lookup z = some dz := by
        have hz : ((x, d) :: caps scope ρ).lookup z = some dz := hz
        rw [List.lookup_cons, show (z == x) = false by simpa using e] at hz; exact hz
      exact hdis_name (ds := [d2]) hy d2 (.head _) z dz hz'
  · obtain ⟨m, hm⟩ := hns
    refine ⟨m, hm, fun h' hs' => q' _ _ ⟨e0.gens.trans o.gens, e0.os.trans o.os, fun b x _ e => ?_⟩ ⟨acc, rfl, o.fA, ?_⟩⟩
    · exact hs'.extBut b x (fun q => by have q : b = H.objs.size := q; rw [q, o.fC] at e; cases e) (k0 b x (fun q => by rw [q, o.fI] at e; cases e) (fun q => by rw [q, o.fA] at e; cases e) (fun q => by rw [n1 b q] at e; cases e) (fun q => by rw [n2 b q] at e; cases e) (o.keep b x e))
    · have ext : ExtB [H.objs.size] s'.heap h' := fun b o hb e => hs'.extBut b o (by simpa using hb) e
      refine .list (fun hm => ?_) (hl.extBut hs'.extBut o.nAC) ?_
      · obtain ⟨x, ho⟩ := F.old acc hm; rw [o.fA] at ho; cases ho
      · exact (hr.ext (fun x hx => by rw [List.mem_singleton.mp hx]; exact o.mC) ext).shun fun x y hx _ hm => hx (o.sub x hm)
end
end Mine
end

section
open PySem PySem.Calls PySem.W PyProof.Rows
set_option Elab.async false
set_option maxRecDepth 100000
namespace Mine
/-! the plain law of the second row: nets, walks, the flood, two colours -/
noncomputable abbrev Net := List (List Nat)
noncomputable def nb (N : Net) (v : Nat) : List Nat := N.getD v []
structure NetOk (N : Net) : Prop where
  len : N.length = 6
  sym : ∀ v w, w ∈ nb N v → v ∈ nb N w
  irr : ∀ v, v ∉ nb N v
  short : ∀ v, (nb N v).length ≤ 5
theorem nb_lt {N : Net} (ok : NetOk N) {v w : Nat} (h : w ∈ nb N v) : v < 6 := by
  apply Nat.lt_of_not_le
  intro h6
  unfold nb at h
  rw [List.getD_eq_getElem?_getD, List.getElem?_eq_none (by rw [ok.len]; exact h6)] at h
  cases h
/-- where walks of t steps lead -/
noncomputable def walkF (N : Net) (src : Nat) : Nat → List Nat
  | 0 => [src]
  | t + 1 => (List.range 6).filter fun w => !((nb N w).filter fun v => (walkF N src t).contains v).isEmpty
noncomputable def freshF (N : Net) (src : Nat) : Nat → List Nat
  | 0 => [src]
  | t + 1 => (walkF N src (t + 1)).filter fun w => t == 0 || !(walkF N src (t - 1)).contains w
theorem mem_walk {N : Net} (ok : NetOk N) {src t w : Nat} : w ∈ walkF N src (t + 1) ↔ ∃ v, v ∈ nb N w ∧ v ∈ walkF N src t := by
  constructor
  · intro h
    have h := (List.mem_filter.mp h).2
    cases hl : (nb N w).filter fun v => (walkF N src t).contains v with
    | nil => rw [hl] at h; cases h
    | cons v l =>
      have hv : v ∈ (nb N w).filter fun v => (walkF N src t).contains v := by rw [hl]; exact .head _
      obtain ⟨h1, h2⟩ := List.mem_filter.mp hv
      exact ⟨v, h1, by simpa using h2⟩
  · rintro ⟨v, h1, h2⟩
    refine List.mem_filter.mpr ⟨List.mem_range.mpr (nb_lt ok h1), ?_⟩
    have hv : v ∈ (nb N w).filter fun v => (walkF N src t).contains v := List.mem_filter.mpr ⟨h1, by simpa using h2⟩
    cases hl : (nb N w).filter fun v => (walkF N src t).contains v with
    | nil => rw [hl] at hv; cases hv
    | cons v l => rfl
theorem mem_fresh {N : Net} {src t w : Nat} : w ∈ freshF N src (t + 1) ↔ w ∈ walkF N src (t + 1) ∧ (t = 0 ∨ w ∉ walkF N src (t - 1)) := by
  show w ∈ List.filter _ _ ↔ _
  rw [List.mem_filter]
  simp
theorem fresh_walk {N : Net} {src t w : Nat} (h : w ∈ freshF N src t) : w ∈ walkF N src t := by
  cases t with
  | zero => exact h
  | succ t => exact (mem_fresh.mp h).1
theorem fresh_back {N : Net} (ok : NetOk N) {src t v w : Nat} (hw : w ∈ freshF N src (t + 1)) (hv : v ∈ nb N w) (hv' : v ∈ walkF N src t) : v ∈ freshF N src t := by
  cases t with
  | zero => exact hv'
  | succ k =>
    refine mem_fresh.mpr ⟨hv', ?_⟩
    cases k with
    | zero => exact .inl rfl
    | succ j =>
      refine .inr fun h => ?_
      rcases (mem_fresh.mp hw).2 with h0 | h0
      · omega
      · exact h0 ((mem_walk ok).mpr ⟨v, hv, h⟩)
theorem walk_range {N : Net} (ok : NetOk N) {src t w : Nat} (h : w ∈ walkF N src (t + 1)) : w < 6 := by
  obtain ⟨v, h1, _⟩ := (mem_walk ok).mp h
  exact nb_lt ok h1

/-- the letters of round t -/
noncomputable def pairsF (N : Net) (src t : Nat) : List (Nat × Nat) := (freshF N src (t - 1)).flatMap fun v => ((nb N v).filter fun w => (freshF N src t).contains w).map fun w => (v, w)
theorem mem_pairs {N : Net} {src t u v : Nat} : (u, v) ∈ pairsF N src t ↔ u ∈ freshF N src (t - 1) ∧ v ∈ nb N u ∧ v ∈ freshF N src t := by
  unfold pairsF
  simp only [List.mem_flatMap, List.mem_map, List.mem_filter, Prod.mk.injEq]
  constructor
  · rintro ⟨a, h1, b, ⟨h2, h3⟩, rfl, rfl⟩
    exact ⟨h1, h2, by simpa using h3⟩
  · rintro ⟨h1, h2, h3⟩
    exact ⟨u, h1, v, ⟨h2, by simpa using h3⟩, rfl, rfl⟩
/-- the letters of the next round, as the hands write them -/
noncomputable def nextF (N : Net) (P : List (Nat × Nat)) : List (Nat × Nat) :=
  (List.range 6).flatMap fun v => if P.any (fun p => p.2 == v) then ((nb N v).filter fun w => !P.contains (w, v)).map fun w => (v, w) else []
theorem flatMap_filter' {α β : Type} (p : α → Bool) (f : α → List β) : ∀ l : List α, (l.filter p).flatMap f = l.flatMap fun x => if p x then f x else []
  | [] => rfl
  | x :: l => by
    rw [List.filter_cons, List.flatMap_cons, ← flatMap_filter' p f l]
    cases p x <;> rfl
theorem pairs_one {N : Net} (ok : NetOk N) (src : Nat) : pairsF N src 1 = (nb N src).map fun w => (src, w) := by
  show [src].flatMap _ = _
  rw [List.flatMap_cons, List.flatMap_nil, List.append_nil]
  congr 1
  apply List.filter_eq_self.mpr
  intro w hw
  have : w ∈ freshF N src (0 + 1) := mem_fresh.mpr ⟨(mem_walk ok).mpr ⟨src, ok.sym _ _ hw, List.mem_singleton.mpr rfl⟩, .inl rfl⟩
  simpa using this
theorem heard_iff {N : Net} (ok : NetOk N) {src t v : Nat} : (pairsF N src (t + 1)).any (fun p => p.2 == v) = (freshF N src (t + 1)).contains v := by
  apply Bool.eq_iff_iff.mpr
  rw [List.any_eq_true, List.contains_iff_mem]
  constructor
  · rintro ⟨⟨a, b⟩, h, e⟩
    have e : b = v := by simpa using e
    subst e
    exact (mem_pairs.mp h).2.2
  · intro h
    obtain ⟨u, h1, h2⟩ := (mem_walk ok).mp (fresh_walk h)
    exact ⟨(u, v), mem_pairs.mpr ⟨fresh_back ok h h1 h2, ok.sym _ _ h1, h⟩, by simp⟩
theorem fresh_filter {N : Net} {src t : Nat} : freshF N src (t + 1) = (List.range 6).filter fun v => (freshF N src (t + 1)).contains v := by
  have h : freshF N src (t + 1) = (List.range 6).filter fun v => (!((nb N v).filter fun u => (walkF N src t).contains u).isEmpty) && (t == 0 || !(walkF N src (t - 1)).contains v) := by
    show List.filter _ (List.filter _ _) = _
    rw [List.filter_filter]
    apply List.filter_congr
    intro x _
    rw [Bool.and_comm]
  conv => lhs; rw [h]
  apply List.filter_congr
  intro x hx
  apply Bool.eq_iff_iff.mpr
  rw [List.contains_iff_mem, h, List.mem_filter]
  exact ⟨fun h => ⟨hx, h⟩, fun h => h.2⟩
theorem door_iff {N : Net} (ok : NetOk N) {src t u v : Nat} (hv : v ∈ freshF N src (t + 1)) (hu : u ∈ nb N v) : (pairsF N src (t + 1)).contains (u, v) = (freshF N src t).contains u := by
  apply Bool.eq_iff_iff.mpr
  rw [List.contains_iff_mem, List.contains_iff_mem, mem_pairs]
  exact ⟨fun h => h.1, fun h => ⟨h, ok.sym _ _ hu, hv⟩⟩
theorem pairs_next {N : Net} (ok : NetOk N) (src t : Nat) : nextF N (pairsF N src (t + 1)) = pairsF N src (t + 2) := by
  unfold nextF
  refine Eq.trans ?_ (congrArg (fun l => List.flatMap (fun v => ((nb N v).filter fun w => (freshF N src (t + 2)).contains w).map fun w => (v, w)) l) fresh_filter).symm
  rw [flatMap_filter']
  congr 1
  funext v
  rw [heard_iff ok]
  by_cases hv : v ∈ freshF N src (t + 1)
  · have hc : (freshF N src (t + 1)).contains v = true := by simpa using hv
    rw [if_pos hc, if_pos hc]
    congr 1
    apply List.filter_congr
    intro w hw
    rw [door_iff ok hv hw]
    apply Bool.eq_iff_iff.mpr
    rw [Bool.not_eq_true', List.contains_iff_mem, ← Bool.not_eq_true, List.contains_iff_mem, show t + 2 = (t + 1) + 1 from rfl, mem_fresh]
    have hwk : w ∈ walkF N src (t + 1 + 1) := (mem_walk ok).mpr ⟨v, ok.sym _ _ hw, fresh_walk hv⟩
    have e : t + 1 - 1 = t := rfl
    rw [e]
    constructor
    · intro h
      exact ⟨hwk, .inr fun hh => h (fresh_back ok hv hw hh)⟩
    · rintro ⟨_, h | h⟩ hh
      · omega
      · exact h (fresh_walk hh)
  · have hc : ¬ (freshF N src (t + 1)).contains v = true := by simpa using hv
    rw [if_neg hc, if_neg hc]
theorem next_nil {N : Net} : nextF N [] = [] := by
  unfold nextF
  rw [List.flatMap_eq_nil_iff]
  intro v _
  rfl
/-! walks, put together and turned round -/
theorem walk_cat {N : Net} (ok : NetOk N) {a b t : Nat} (h : b ∈ walkF N a t) : ∀ s c, c ∈ walkF N b s → c ∈ walkF N a (t + s)
  | 0, c, hc => by rw [List.mem_singleton.mp hc]; exact h
  | s + 1, c, hc => by
    obtain ⟨v, h1, h2⟩ := (mem_walk ok).mp hc
    exact (mem_walk ok).mpr ⟨v, h1, walk_cat ok h s v h2⟩
theorem walk_step {N : Net} (ok : NetOk N) {a b : Nat} (h : b ∈ nb N a) : b ∈ walkF N a 1 := (mem_walk ok).mpr ⟨a, ok.sym _ _ h, List.mem_singleton.mpr rfl⟩
theorem walk_rev {N : Net} (ok : NetOk N) {a : Nat} : ∀ t b, b ∈ walkF N a t → a ∈ walkF N b t
  | 0, b, h => by rw [List.mem_singleton.mp h]; exact List.mem_singleton.mpr rfl
  | t + 1, b, h => by
    obtain ⟨v, h1, h2⟩ := (mem_walk ok).mp h
    have := walk_cat ok (walk_step ok h1) t a (walk_rev ok t v h2)
    rwa [Nat.add_comm] at this
theorem walk_even {N : Net} (ok : NetOk N) {a u : Nat} (h : u ∈ nb N a) : ∀ k, a ∈ walkF N a (2 * k)
  | 0 => List.mem_singleton.mpr rfl
  | k + 1 => by
    have h1 := walk_cat ok (walk_step ok h) 1 a (walk_step ok (ok.sym _ _ h))
    have := walk_cat ok (walk_even ok h k) 2 a h1
    rwa [show 2 * k + 2 = 2 * (k + 1) by omega] at this

/-- a letter comes back just if a walk of odd length does -/
theorem back_odd {N : Net} (ok : NetOk N) {src : Nat} : (∃ t, 1 ≤ t ∧ t ≤ 12 ∧ src ∈ freshF N src t) ↔ ∃ k, k ≤ 5 ∧ src ∈ walkF N src (2 * k + 1) := by
  constructor
  · rintro ⟨t, h1, h2, h⟩
    obtain ⟨s, rfl⟩ : ∃ s, t = s + 1 := ⟨t - 1, by omega⟩
    obtain ⟨hw, hn⟩ := mem_fresh.mp h
    rcases hn with rfl | hn
    · exact ⟨0, by omega, hw⟩
    · by_cases he : s % 2 = 0
      · exact ⟨s / 2, by omega, by rwa [show 2 * (s / 2) + 1 = s + 1 by omega]⟩
      · obtain ⟨v, hv, _⟩ := (mem_walk ok).mp hw
        exact absurd (by have := walk_even ok hv ((s - 1) / 2); rwa [show 2 * ((s - 1) / 2) = s - 1 by omega] at this) hn
  · rintro ⟨k, hk, h⟩
    have key : ∀ k, src ∈ walkF N src (2 * k + 1) → ∃ j, j ≤ k ∧ src ∈ freshF N src (2 * j + 1) := by
      intro k
      induction k with
      | zero => exact fun h => ⟨0, Nat.le_refl _, mem_fresh.mpr ⟨h, .inl rfl⟩⟩
      | succ k ih =>
        intro h
        by_cases hp : src ∈ walkF N src (2 * k + 1)
        · obtain ⟨j, hj, h'⟩ := ih hp
          exact ⟨j, by omega, h'⟩
        · exact ⟨k + 1, Nat.le_refl _, mem_fresh.mpr ⟨h, .inr (by rwa [show 2 * (k + 1) - 1 = 2 * k + 1 by omega])⟩⟩
    obtain ⟨j, hj, h'⟩ := key k h
    exact ⟨2 * j + 1, by omega, by omega, h'⟩

/-! two colours -/
noncomputable def reachF (N : Net) (src : Nat) : Nat → List Nat
  | 0 => [src]
  | k + 1 => (List.range 6).filter fun w => (reachF N src k).contains w || !((nb N w).filter fun v => (reachF N src k).contains v).isEmpty
theorem filter_isEmpty {α : Type} {p : α → Bool} {l : List α} : (!(l.filter p).isEmpty) = true ↔ ∃ v, v ∈ l ∧ p v = true := by
  constructor
  · intro h
    cases hl : l.filter p with
    | nil => rw [hl] at h; cases h
    | cons v m =>
      have : v ∈ l.filter p := by rw [hl]; exact .head _
      exact ⟨v, List.mem_filter.mp this⟩
  · rintro ⟨v, h⟩
    have : v ∈ l.filter p := List.mem_filter.mpr h
    cases hl : l.filter p with
    | nil => rw [hl] at this; cases this
    | cons v m => rfl
theorem reach_walk {N : Net} (ok : NetOk N) {src : Nat} : ∀ k v, v ∈ reachF N src k → ∃ d, d ≤ k ∧ v ∈ walkF N src d
  | 0, v, h => ⟨0, Nat.le_refl _, h⟩
  | k + 1, v, h => by
    have h := (List.mem_filter.mp h).2
    rw [Bool.or_eq_true, filter_isEmpty] at h
    rcases h with h | ⟨u, h1, h2⟩
    · obtain ⟨d, hd, h'⟩ := reach_walk ok k v (by simpa using h)
      exact ⟨d, by omega, h'⟩
    · obtain ⟨d, hd, h'⟩ := reach_walk ok k u (by simpa using h2)
      exact ⟨d + 1, by omega, (mem_walk ok).mpr ⟨u, h1, h'⟩⟩
theorem walk_reach {N : Net} (ok : NetOk N) {src : Nat} (hs : src < 6) : ∀ k d v, d ≤ k → v ∈ walkF N src d → v ∈ reachF N src k
  | 0, d, v, hd, h => by
    have : d = 0 := by omega
    subst this; exact h
  | k + 1, d, v, hd, h => by
    by_cases e : d ≤ k
    · have := walk_reach ok hs k d v e h
      refine List.mem_filter.mpr ⟨List.mem_range.mpr ?_, by rw [Bool.or_eq_true]; exact .inl (by simpa using this)⟩
      cases d with
      | zero => rw [List.mem_singleton.mp h]; exact hs
      | succ d => exact walk_range ok h
    · have : d = k + 1 := by omega
      subst this
      obtain ⟨u, h1, h2⟩ := (mem_walk ok).mp h
      refine List.mem_filter.mpr ⟨List.mem_range.mpr (walk_range ok h), ?_⟩
      rw [Bool.or_eq_true, filter_isEmpty]
      exact .inr ⟨u, h1, by simpa using walk_reach ok hs k k u (Nat.le_refl _) h2⟩
noncomputable def tiesF (N : Net) (src : Nat) : List (Nat × Nat) := (reachF N src 5).flatMap fun v => ((nb N v).filter fun w => decide (v < w)).map fun w => (v, w)
noncomputable def paintF (N : Net) (src : Nat) : Bool := !((List.range 32).filter fun c => ((tiesF N src).filter fun p => c / 2 ^ p.1 % 2 == c / 2 ^ p.2 % 2).isEmpty).isEmpty
theorem mem_ties {N : Net} {src v w : Nat} : (v, w) ∈ tiesF N src ↔ v ∈ reachF N src 5 ∧ w ∈ nb N v ∧ v < w := by
  unfold tiesF
  simp only [List.mem_flatMap, List.mem_map, List.mem_filter, Prod.mk.injEq]
  constructor
  · rintro ⟨a, h1, b, ⟨h2, h3⟩, rfl, rfl⟩
    exact ⟨h1, h2, by simpa using h3⟩
  · rintro ⟨h1, h2, h3⟩
    exact ⟨v, h1, w, ⟨h2, by simpa using h3⟩, rfl, rfl⟩
theorem paint_iff {N : Net} {src : Nat} : paintF N src = true ↔ ∃ c, c < 32 ∧ ∀ v w, (v, w) ∈ tiesF N src → c / 2 ^ v % 2 ≠ c / 2 ^ w % 2 := by
  unfold paintF
  rw [filter_isEmpty]
  constructor
  · rintro ⟨c, h1, h2⟩
    refine ⟨c, List.mem_range.mp h1, fun v w h e => ?_⟩
    have : (v, w) ∈ (tiesF N src).filter fun p => c / 2 ^ p.1 % 2 == c / 2 ^ p.2 % 2 := List.mem_filter.mpr ⟨h, by simpa using e⟩
    rw [List.isEmpty_iff.mp h2] at this
    cases this
  · rintro ⟨c, h1, h2⟩
    refine ⟨c, List.mem_range.mpr h1, List.isEmpty_iff.mpr (List.filter_eq_nil_iff.mpr ?_)⟩
    rintro ⟨v, w⟩ h e
    exact h2 v w h (by simpa using e)
theorem parity_step {a b s i : Nat} (e1 : a = (s + i) % 2) (e2 : a ≠ b) (h : b < 2) : b = (s + (i + 1)) % 2 := by omega
theorem parity_end {s k : Nat} (h : s % 2 = (s + (2 * k + 1)) % 2) : False := by omega
/-- an odd walk back bars two colours -/
theorem odd_unpainted {N : Net} (ok : NetOk N) {src k : Nat} (hs : src < 6) (hk : k ≤ 5) (h : src ∈ walkF N src (2 * k + 1)) : paintF N src ≠ true := by
  intro hp
  obtain ⟨c, _, hc⟩ := paint_iff.mp hp
  have inR : ∀ i x, i ≤ 2 * k + 1 → x ∈ walkF N src i → src ∈ walkF N x (2 * k + 1 - i) → x ∈ reachF N src 5 := fun i x hi h1 h2 => by
    by_cases e : i ≤ 5
    · exact walk_reach ok hs 5 i x e h1
    · exact walk_reach ok hs 5 _ x (by omega) (walk_rev ok _ _ h2)
  have edge : ∀ v w, v ∈ reachF N src 5 → w ∈ reachF N src 5 → w ∈ nb N v → c / 2 ^ v % 2 ≠ c / 2 ^ w % 2 := fun v w h1 h2 h3 => by
    rcases Nat.lt_trichotomy v w with hl | rfl | hl
    · exact hc v w (mem_ties.mpr ⟨h1, h3, hl⟩)
    · exact absurd h3 (ok.irr _)
    · exact fun e => hc w v (mem_ties.mpr ⟨h2, ok.sym _ _ h3, hl⟩) e.symm
  have key : ∀ i, i ≤ 2 * k + 1 → ∀ x, x ∈ walkF N src i → src ∈ walkF N x (2 * k + 1 - i) → c / 2 ^ x % 2 = (c / 2 ^ src + i) % 2 := by
    intro i
    induction i with
    | zero => intro _ x hx _; rw [List.mem_singleton.mp hx]; rfl
    | succ i ih =>
      intro hi x hx hb
      obtain ⟨v, h1, h2⟩ := (mem_walk ok).mp hx
      have hvb : src ∈ walkF N v (2 * k + 1 - i) := by
        have := walk_cat ok (walk_step ok (ok.sym _ _ h1)) _ _ hb
        rwa [show 1 + (2 * k + 1 - (i + 1)) = 2 * k + 1 - i by omega] at this
      have e1 := ih (by omega) v h2 hvb
      have e2 := edge v x (inR i v (by omega) h2 hvb) (inR (i + 1) x hi hx hb) (ok.sym _ _ h1)
      exact parity_step e1 e2 (Nat.mod_lt _ (by decide))
  exact parity_end (key (2 * k + 1) (Nat.le_refl _) src h (by rw [Nat.sub_self]; exact List.mem_singleton.mpr rfl))
noncomputable def bits5 (b : Nat → Bool) : Nat := (if b 0 then 1 else 0) + (if b 1 then 2 else 0) + (if b 2 then 4 else 0) + (if b 3 then 8 else 0) + (if b 4 then 16 else 0)
theorem bits5_lt (b : Nat → Bool) : bits5 b < 32 := by
  have key : ∀ b0 b1 b2 b3 b4 : Bool, (if b0 then 1 else 0) + (if b1 then 2 else 0) + (if b2 then 4 else 0) + (if b3 then 8 else 0) + (if b4 then 16 else 0) < 32 := by decide
  exact key _ _ _ _ _
theorem bits5_at (b : Nat → Bool) (h5 : b 5 = false) {v : Nat} (hv : v < 6) : bits5 b / 2 ^ v % 2 = if b v then 1 else 0 := by
  have key : ∀ b0 b1 b2 b3 b4 : Bool, ∀ v, v < 6 → ((if b0 then 1 else 0) + (if b1 then 2 else 0) + (if b2 then 4 else 0) + (if b3 then 8 else 0) + (if b4 then 16 else 0)) / 2 ^ v % 2 = if [b0, b1, b2, b3, b4, false].getD v false then 1 else 0 := by decide +kernel
  refine (key _ _ _ _ _ v hv).trans ?_
  have : v = 0 ∨ v = 1 ∨ v = 2 ∨ v = 3 ∨ v = 4 ∨ v = 5 := by omega
  rcases this with rfl | rfl | rfl | rfl | rfl | rfl
  all_goals first | rfl | (rw [h5]; rfl)
/-- without one two colours are enough -/
theorem even_painted {N : Net} (ok : NetOk N) {src : Nat} (h : ∀ k, k ≤ 5 → src ∉ walkF N src (2 * k + 1)) : paintF N src = true := by
  let col : Nat → Bool := fun v => (walkF N src 1).contains v || (walkF N src 3).contains v || (walkF N src 5).contains v
  have hcol : ∀ v, col v = true ↔ ∃ j, j ≤ 2 ∧ v ∈ walkF N src (2 * j + 1) := fun v => by
    simp only [col, Bool.or_eq_true, List.contains_iff_mem]
    constructor
    · rintro ((h | h) | h)
      · exact ⟨0, by omega, h⟩
      · exact ⟨1, by omega, h⟩
      · exact ⟨2, by omega, h⟩
    · rintro ⟨j, hj, h⟩
      have : j = 0 ∨ j = 1 ∨ j = 2 := by omega
      rcases this with rfl | rfl | rfl
      · exact .inl (.inl h)
      · exact .inl (.inr h)
      · exact .inr h
  have diff : ∀ v w, v ∈ reachF N src 5 → w ∈ nb N v → col v ≠ col w := fun v w h1 h2 e => by
    cases hv : col v with
    | true =>
      obtain ⟨i, hi, h3⟩ := (hcol v).mp hv
      obtain ⟨j, hj, h4⟩ := (hcol w).mp (e ▸ hv)
      have h5 := walk_cat ok (walk_cat ok h3 1 w (walk_step ok h2)) _ _ (walk_rev ok _ _ h4)
      refine h (i + j + 1) (by omega) ?_
      rwa [show 2 * i + 1 + 1 + (2 * j + 1) = 2 * (i + j + 1) + 1 by omega] at h5
    | false =>
      obtain ⟨d, hd, h3⟩ := reach_walk ok 5 v h1
      have hev : d % 2 = 0 := by
        apply Decidable.byContradiction
        intro ho
        have : col v = true := (hcol v).mpr ⟨d / 2, by omega, by rwa [show 2 * (d / 2) + 1 = d by omega]⟩
        rw [hv] at this; cases this
      have h4 : col w = true := (hcol w).mpr ⟨d / 2, by omega, by
        have := walk_cat ok h3 1 w (walk_step ok h2)
        rwa [show d + 1 = 2 * (d / 2) + 1 by omega] at this⟩
      rw [← e, hv] at h4; cases h4
  refine paint_iff.mpr ⟨bits5 fun v => col v != col 5, bits5_lt _, fun v w hvw e => ?_⟩
  obtain ⟨h1, h2, _⟩ := mem_ties.mp hvw
  rw [bits5_at _ (by simp) (nb_lt ok h2), bits5_at _ (by simp) (nb_lt ok (ok.sym _ _ h2))] at e
  refine diff v w h1 h2 ?_
  revert e
  cases col v <;> cases col w <;> cases col 5 <;> simp
/-- a letter comes back to the source just if there is no way to paint -/
theorem law2_net {N : Net} (ok : NetOk N) {src : Nat} (hs : src < 6) : (∃ t, 1 ≤ t ∧ t ≤ 12 ∧ src ∈ freshF N src t) ↔ paintF N src = false := by
  rw [back_odd ok]
  constructor
  · rintro ⟨k, hk, h⟩
    have := odd_unpainted ok hs hk h
    simpa using this
  · intro hp
    apply Decidable.byContradiction
    intro hn
    have := even_painted ok fun k hk h => hn ⟨k, hk, h⟩
    rw [hp] at this; cases this
end Mine
end

section
open PySem PySem.Calls PySem.W PyProof.Rows
set_option Elab.async false
set_option maxRecDepth 100000
namespace Mine
open PySem.StrLaws PySem.Builtin.Str
/-! the mail of the second row: a text's lines -/
theorem replace_sp {x y z : Str} {p : List Nat} {ps : List (List Nat)} (hy : y.length ≠ 0) (h : Sp (sl y) (sl x) (p :: ps)) : Txt.replace x y z = ms' (J (sl z) (p :: ps)) := by
  obtain ⟨f, h1, h2⟩ := occ_tight x y (by omega)
  have key := sp_parts hy _ 0 f (p :: ps) h1 h2 (by simpa using h) (Nat.zero_le _)
  unfold Txt.replace
  split
  · rename_i hc
    rw [Bool.or_eq_true] at hc
    rcases hc with hc | hc
    · rw [List.isEmpty_iff.mp hc] at key
      have key : [strSub x 0 x.length] = (p :: ps).map fun p => ⟨p.toArray⟩ := key
      rw [sub_whole] at key
      have hps : ps = [] := by
        have := congrArg List.length key
        rw [List.length_map] at this
        exact List.eq_nil_of_length_eq_zero (by simpa using this.symm)
      subst hps
      injection key
    · rw [Bool.and_eq_true] at hc
      exact absurd (by simpa using hc.1) hy
  · rw [partsBetween_eq, key]
    unfold glued
    show Str.mk (List.foldl _ p.toArray (ps.map fun p => (⟨p.toArray⟩ : Str))) = _
    refine Str.ext' (Array.ext' ?_)
    show _ = J (sl z) (p :: ps)
    have := glue_fold (sl z) (ps.map fun p => (⟨p.toArray⟩ : Str)) p.toArray
    have e : (sl z).toArray = z.cps := rfl
    rw [e] at this
    rw [this, List.map_map]
    have hJ : ∀ (ps : List (List Nat)) (p : List Nat), J (sl z) (p :: ps) = p ++ (ps.map fun q => sl z ++ q).flatten := fun ps => by
      induction ps with
      | nil => intro p; simp [J]
      | cons q ps ih => intro p; rw [J_cons, ih]; simp
    rw [hJ]
    rfl

/-- split at one sign -/
noncomputable def splc (c : Nat) : List Nat → List (List Nat)
  | [] => [[]]
  | d :: r => if d = c then [] :: splc c r else ((splc c r).headD [] |> (d :: ·)) :: (splc c r).tail
theorem splc_ne (c : Nat) : ∀ l, splc c l ≠ []
  | [] => by simp [splc]
  | d :: r => by unfold splc; split <;> simp
theorem splc_free (c : Nat) : ∀ l, ∀ q ∈ splc c l, c ∉ q
  | [], q, h => by rw [List.mem_singleton.mp h]; exact List.not_mem_nil
  | d :: r, q, h => by
    unfold splc at h
    have ih := splc_free c r
    split at h
    · rcases List.mem_cons.mp h with rfl | h
      · exact List.not_mem_nil
      · exact ih q h
    · rename_i hd
      obtain ⟨p, ps, hp⟩ : ∃ p ps, splc c r = p :: ps := by cases hs : splc c r with | nil => exact absurd hs (splc_ne c r) | cons p ps => exact ⟨p, ps, rfl⟩
      rw [hp] at h ih
      rcases List.mem_cons.mp h with rfl | h
      · intro hm
        rcases List.mem_cons.mp hm with e | hm
        · exact hd e.symm
        · exact ih p (.head _) hm
      · exact ih q (.tail _ h)
theorem splc_sub (c : Nat) : ∀ l, ∀ q ∈ splc c l, ∀ x ∈ q, x ∈ l
  | [], q, h, x, hx => by rw [List.mem_singleton.mp h] at hx; cases hx
  | d :: r, q, h, x, hx => by
    unfold splc at h
    have ih := splc_sub c r
    split at h
    · rcases List.mem_cons.mp h with rfl | h
      · cases hx
      · exact .tail _ (ih q h x hx)
    · obtain ⟨p, ps, hp⟩ : ∃ p ps, splc c r = p :: ps := by cases hs : splc c r with | nil => exact absurd hs (splc_ne c r) | cons p ps => exact ⟨p, ps, rfl⟩
      rw [hp] at h ih
      rcases List.mem_cons.mp h with rfl | h
      · rcases List.mem_cons.mp hx with rfl | hx
        · exact .head _
        · exact .tail _ (ih p (.head _) x hx)
      · exact .tail _ (ih q (.tail _ h) x hx)
theorem J_splc (sep : List Nat) (c : Nat) : ∀ l, J sep (splc c l) = l.flatMap fun d => if d = c then sep else [d]
  | [] => rfl
  | d :: r => by
    have ih := J_splc sep c r
    obtain ⟨p, ps, hp⟩ : ∃ p ps, splc c r = p :: ps := by cases hs : splc c r with | nil => exact absurd hs (splc_ne c r) | cons p ps => exact ⟨p, ps, rfl⟩
    rw [List.flatMap_cons, ← ih, show splc c (d :: r) = if d = c then [] :: splc c r else ((splc c r).headD [] |> (d :: ·)) :: (splc c r).tail from rfl, hp]
    split
    · rw [J_cons]; rfl
    · show J sep ((d :: p) :: ps) = [d] ++ J sep (p :: ps)
      cases ps with
      | nil => rfl
      | cons q ps => rw [J_cons, J_cons]; rfl
theorem splc_J (c : Nat) (l : List Nat) : J [c] (splc c l) = l := by
  rw [J_splc]
  induction l with
  | nil => rfl
  | cons d l ih =>
    rw [List.flatMap_cons, ih]
    split
    · rename_i h; rw [h]; rfl
    · rfl
theorem splc_sp (c : Nat) (l : List Nat) : Sp [c] l (splc c l) := by
  obtain ⟨p, ps, hp⟩ : ∃ p ps, splc c l = p :: ps := by cases hs : splc c l with | nil => exact absurd hs (splc_ne c l) | cons p ps => exact ⟨p, ps, rfl⟩
  have h := sp_join (s0 := c) (st := []) p ps (by rw [← hp]; exact splc_free c l)
  have e : ps.foldl (fun acc q => acc ++ [c] ++ q) p = l := by
    have := splc_J c l
    rw [hp] at this; exact this
  rw [e] at h
  rw [hp]; exact h

/-- split at a return and a feed -/
noncomputable def spl2 : List Nat → List (List Nat)
  | [] => [[]]
  | 13 :: 10 :: r => [] :: spl2 r
  | d :: r => ((spl2 r).headD [] |> (d :: ·)) :: (spl2 r).tail
theorem spl2_ne : ∀ l, spl2 l ≠ [] := fun l => by unfold spl2; split <;> simp
theorem spl2_other {d : Nat} {r p : List Nat} {ps : List (List Nat)} (h : ¬ (d = 13 ∧ r.head? = some 10)) (hp : spl2 r = p :: ps) : spl2 (d :: r) = (d :: p) :: ps := by
  rw [spl2, hp]
  · rfl
  · intro z e1 e2
    exact h ⟨e1, by rw [e2]; rfl⟩
theorem spl2_sp : ∀ (k : Nat) (l : List Nat), l.length ≤ k → Sp [13, 10] l (spl2 l) ∧ ∃ p ps, spl2 l = p :: ps ∧ ((ps = [] ∧ p = l) ∨ ∃ r, l = p ++ [13, 10] ++ r ∧ Sp [13, 10] r ps) ∧ ∀ j, j < p.length → ¬ [13, 10] <+: l.drop j
  | _, [], _ => ⟨.fin fun k h => by rw [List.drop_nil] at h; have := h.length_le; simp at this, [], [], rfl, .inl ⟨rfl, rfl⟩, fun j hj => absurd hj (Nat.not_lt_zero _)⟩
  | 0, _ :: _, h => by simp at h
  | k + 1, d :: r, hl => by
    by_cases hc : d = 13 ∧ r.head? = some 10
    · obtain ⟨rfl, h2⟩ := hc
      obtain ⟨z, rfl⟩ : ∃ z, r = 10 :: z := by
        cases r with
        | nil => cases h2
        | cons c z => exact ⟨z, by cases h2; rfl⟩
      have ih := (spl2_sp k z (by simp at hl; omega)).1
      have e : spl2 (13 :: 10 :: z) = [] :: spl2 z := by rw [spl2]
      rw [e]
      refine ⟨.cut (p := []) (fun k hk => absurd hk (Nat.not_lt_zero _)) ih, [], spl2 z, rfl, .inr ⟨z, rfl, ih⟩, fun j hj => absurd hj (Nat.not_lt_zero _)⟩
    · obtain ⟨_, p, ps, hp, hcase, hno⟩ := spl2_sp k r (by simp at hl; omega)
      have e := spl2_other hc hp
      have hno' : ∀ j, j < (d :: p).length → ¬ [13, 10] <+: (d :: r).drop j := fun j hj => by
        cases j with
        | zero =>
          intro h
          rw [List.drop_zero, List.cons_prefix_cons] at h
          refine hc ⟨h.1.symm, ?_⟩
          obtain ⟨t, ht⟩ := h.2
          rw [← ht]; rfl
        | succ j => exact hno j (by simpa using hj)
      rw [e]
      rcases hcase with ⟨rfl, rfl⟩ | ⟨z, rfl, hs⟩
      · refine ⟨.fin fun j h => ?_, d :: p, [], rfl, .inl ⟨rfl, rfl⟩, hno'⟩
        by_cases hj : j < (d :: p).length
        · exact hno' j hj h
        · rw [List.drop_eq_nil_of_le (by omega)] at h
          have := h.length_le; simp at this
      · refine ⟨?_, d :: p, ps, rfl, .inr ⟨z, rfl, hs⟩, hno'⟩
        exact .cut (p := d :: p) (fun j hj => hno' j hj) hs
/-- returns and feeds made one -/
noncomputable def cr1 : List Nat → List Nat
  | [] => []
  | 13 :: 10 :: r => 10 :: cr1 r
  | d :: r => d :: cr1 r
theorem J_spl2 : ∀ (k : Nat) (l : List Nat), l.length ≤ k → J [10] (spl2 l) = cr1 l
  | _, [], _ => rfl
  | 0, _ :: _, h => by simp at h
  | k + 1, d :: r, hl => by
    by_cases hc : d = 13 ∧ r.head? = some 10
    · obtain ⟨rfl, h2⟩ := hc
      obtain ⟨z, rfl⟩ : ∃ z, r = 10 :: z := by
        cases r with
        | nil => cases h2
        | cons c z => exact ⟨z, by cases h2; rfl⟩
      have ih := J_spl2 k z (by simp at hl; omega)
      rw [spl2, cr1, ← ih]
      obtain ⟨p, ps, hp⟩ : ∃ p ps, spl2 z = p :: ps := by cases hs : spl2 z with | nil => exact absurd hs (spl2_ne z) | cons p ps => exact ⟨p, ps, rfl⟩
      rw [hp, J_cons]; rfl
    · have ih := J_spl2 k r (by simp at hl; omega)
      obtain ⟨p, ps, hp⟩ : ∃ p ps, spl2 r = p :: ps := by cases hs : spl2 r with | nil => exact absurd hs (spl2_ne r) | cons p ps => exact ⟨p, ps, rfl⟩
      rw [spl2_other hc hp]
      have e : cr1 (d :: r) = d :: cr1 r := by
        rw [cr1]
        intro z e1 e2
        exact hc ⟨e1, by rw [e2]; rfl⟩
      rw [e, ← ih, hp]
      cases ps with
      | nil => rfl
      | cons q ps => rw [J_cons, J_cons]; rfl
noncomputable def lf (c : Nat) : Nat := if c = 13 then 10 else c
/-- a text's lines -/
noncomputable def linesL (l : List Nat) : List (List Nat) := splc 10 ((cr1 l).map lf)
theorem lines_ne (l : List Nat) : linesL l ≠ [] := splc_ne _ _
theorem lines_plain (l : List Nat) : ∀ q ∈ linesL l, Plain q := fun q hq c hc => by
  refine ⟨fun e => splc_free 10 _ q hq (e ▸ hc), fun e => ?_⟩
  obtain ⟨d, _, hd⟩ := List.mem_map.mp (splc_sub 10 _ q hq c hc)
  unfold lf at hd
  split at hd
  · omega
  · rename_i h; exact h (hd.trans e)
theorem lines_crlf : ∀ (k : Nat) (l : List Nat), l.length ≤ k → J [13, 10] (linesL l) = crlf l
  | _, [], _ => rfl
  | 0, _ :: _, h => by simp at h
  | k + 1, d :: r, hl => by
    have go : ∀ m, J [13, 10] (linesL m) = ((cr1 m).map lf).flatMap fun d => if d = 10 then [13, 10] else [d] := fun m => J_splc _ _ _
    by_cases hc : d = 13 ∧ r.head? = some 10
    · obtain ⟨rfl, h2⟩ := hc
      obtain ⟨z, rfl⟩ : ∃ z, r = 10 :: z := by
        cases r with
        | nil => cases h2
        | cons c z => exact ⟨z, by cases h2; rfl⟩
      have ih := lines_crlf k z (by simp at hl; omega)
      rw [crlf, ← ih, go, go, cr1]; rfl
    · have ih := lines_crlf k r (by simp at hl; omega)
      have e : cr1 (d :: r) = d :: cr1 r := by
        rw [cr1]
        intro z e1 e2
        exact hc ⟨e1, by rw [e2]; rfl⟩
      rw [go, e, List.map_cons, List.flatMap_cons, ← go, ih]
      by_cases h13 : d = 13
      · subst h13
        have hr : r.head? ≠ some 10 := fun h => hc ⟨rfl, h⟩
        have := crlf_end .r hr
        rw [show ([13] ++ r : List Nat) = 13 :: r from rfl] at this
        rw [this]; rfl
      · by_cases h10 : d = 10
        · subst h10
          rw [crlf]; rfl
        · rw [crlf_other h10 h13]
          unfold lf
          rw [if_neg h13, if_neg h10]; rfl
theorem lines_py (x : Str) : Txt.split (Txt.replace (Txt.replace x (Str.ofString "\r\n") (Str.ofString "\n")) (Str.ofString "\r") (Str.ofString "\n")) (Str.ofString "\n") = (linesL (sl x)).map ms' := by
  have h1 : Txt.replace x (Str.ofString "\r\n") (Str.ofString "\n") = ms' (cr1 (sl x)) := by
    have hs := (spl2_sp _ (sl x) (Nat.le_refl _)).1
    obtain ⟨p, ps, hp⟩ : ∃ p ps, spl2 (sl x) = p :: ps := by cases hs : spl2 (sl x) with | nil => exact absurd hs (spl2_ne _) | cons p ps => exact ⟨p, ps, rfl⟩
    rw [← J_spl2 _ (sl x) (Nat.le_refl _)]
    rw [hp] at hs ⊢
    exact replace_sp (z := Str.ofString "\n") (by decide) (show Sp (sl (Str.ofString "\r\n")) _ _ from hs)
  have h2 : Txt.replace (ms' (cr1 (sl x))) (Str.ofString "\r") (Str.ofString "\n") = ms' ((cr1 (sl x)).map lf) := by
    have hs := splc_sp 13 (cr1 (sl x))
    obtain ⟨p, ps, hp⟩ : ∃ p ps, splc 13 (cr1 (sl x)) = p :: ps := by cases hs : splc 13 (cr1 (sl x)) with | nil => exact absurd hs (splc_ne _ _) | cons p ps => exact ⟨p, ps, rfl⟩
    have hj := J_splc [10] 13 (cr1 (sl x))
    rw [hp] at hs hj
    rw [replace_sp (x := ms' (cr1 (sl x))) (z := Str.ofString "\n") (by decide) (show Sp (sl (Str.ofString "\r")) (sl (ms' (cr1 (sl x)))) _ from hs)]
    congr 1
    refine Eq.trans (show J (sl (Str.ofString "\n")) (p :: ps) = J [10] (p :: ps) from rfl) (hj.trans ?_)
    generalize cr1 (sl x) = m
    induction m with
    | nil => rfl
    | cons d m ih =>
      rw [List.flatMap_cons, ih, List.map_cons]
      unfold lf
      split <;> rfl
  rw [h1, h2]
  refine (split_sp (x := ms' ((cr1 (sl x)).map lf)) (by decide) (by decide +kernel) (show Sp (sl (Str.ofString "\n")) (sl (ms' _)) _ from splc_sp 10 ((cr1 (sl x)).map lf))).trans ?_
  rfl

theorem stuff_last : ∀ x : List Nat, Plain x → stuff false x = x
  | [], _ => by rw [stuff]
  | c :: x, h => by
    have hc := h c (.head _)
    rw [stuff]
    · have : (c == 10) = false := by simpa using hc.1
      rw [this, stuff_last x fun d hd => h d (.tail _ hd)]
    · intro h; cases h
theorem stuff_st (x : List Nat) (h : Plain x) : stuff true x = st x := by
  cases x with
  | nil => rw [stuff]; rfl
  | cons c x =>
    have hp : Plain x := fun d hd => h d (.tail _ hd)
    by_cases e : c = 46
    · subst e
      rw [stuff, stuff_last x hp]; rfl
    · rw [stuff]
      · have : (c == 10) = false := by simpa using (h c (.head _)).1
        rw [this, stuff_last x hp]
        unfold st
        rw [if_neg (by simpa using e)]
      · intro _ h; exact e h
theorem split_last {α : Type} {l : List α} (h : l ≠ []) : ∃ q x, l = q ++ [x] := ⟨l.dropLast, l.getLast h, (List.dropLast_concat_getLast h).symm⟩
theorem stuff_J {ls : List (List Nat)} (hn : ls ≠ []) (h : ∀ q ∈ ls, Plain q) : stuff true (J [13, 10] ls) = J [13, 10] (ls.map st) := by
  obtain ⟨q, x, rfl⟩ := split_last hn
  rw [J_rows, List.map_append, List.map_cons, List.map_nil, J_rows, stuff_rows _ _ fun p hp => h p (List.mem_append_left _ hp)]
  show _ ++ stuff true x = _ ++ st x
  rw [stuff_st x (h x (List.mem_append_right _ (.head _))), List.map_map]
  rfl
theorem st_plain {x : List Nat} (h : Plain x) : Plain (st x) := by
  unfold st
  split
  · intro c hc
    rcases List.mem_cons.mp hc with rfl | hc
    · decide
    · exact h c hc
  · exact h
theorem crlf_J : ∀ {ls : List (List Nat)}, (∀ q ∈ ls, Plain q) → crlf (J [13, 10] ls) = J [13, 10] ls
  | [], _ => rfl
  | [x], h => by
    have := crlf_plain x [] (h x (.head _))
    rw [List.append_nil, crlf, List.append_nil] at this
    exact this
  | x :: y :: ls, h => by
    have ih := crlf_J (ls := y :: ls) fun q hq => h q (.tail _ hq)
    rw [J_cons, List.append_assoc, crlf_plain x _ (h x (.head _))]
    have e : crlf ([13, 10] ++ J [13, 10] (y :: ls)) = [13, 10] ++ crlf (J [13, 10] (y :: ls)) := by
      show crlf (13 :: 10 :: _) = _
      rw [crlf]; rfl
    rw [e, ih]

/-- a mail: rows with their ends, and a text behind -/
theorem mail2 {rows : List (List Nat × List Nat)} {text : List Nat} {L : List (List Nat)} (hr : ∀ p ∈ rows, Plain p.1 ∧ p.1 ≠ [] ∧ IsEnd p.2) (ht : text.head? ≠ some 10) (hL : L ≠ []) (hp : ∀ q ∈ L, Plain q) (hc : crlf text = J [13, 10] L) :
    stuff true (crlf ((rows.map fun p => p.1 ++ p.2).flatten ++ text)) = J [13, 10] (rows.map (fun p => st p.1) ++ L.map st) := by
  rw [crlf_rows text ht rows hr, hc]
  have e : (rows.map fun p => p.1 ++ [13, 10]) = (rows.map (·.1)).map fun p => p ++ [13, 10] := by rw [List.map_map]; rfl
  rw [e, stuff_rows _ _ fun p hp => ?_, stuff_J hL hp]
  · cases L with
    | nil => exact absurd rfl hL
    | cons x L =>
      rw [List.map_cons, J_rows, List.map_map, List.map_map]
      rfl
  · obtain ⟨q, hq, rfl⟩ := List.mem_map.mp hp
    exact (hr q hq).1
end Mine
end

section
open PySem PySem.Calls PySem.W PyProof.Rows
set_option Elab.async false
set_option maxRecDepth 100000
namespace Mine
/-! the mail of the second row: the hands, and what they are told -/
noncomputable def handsL : List Str := [Str.ofString "a", Str.ofString "ab", Str.ofString "abc", Str.ofString "b", Str.ofString "ba", Str.ofString "c"]
noncomputable def handS (v : Nat) : Str := handsL.getD v (Str.ofString "")
/-- a letter's row: p.1 writes to p.2 -/
noncomputable def rowT (t : Nat) (p : Nat × Nat) : Str := dotsS t ++ handS p.2 ++ Str.ofString "." ++ handS p.1
noncomputable def tailT (p : Nat × Nat) : List Nat := sl (handS p.2) ++ 46 :: sl (handS p.1)
theorem sl_row (t : Nat) (p : Nat × Nat) : sl (rowT t p) = List.replicate t 46 ++ tailT p := by
  unfold rowT tailT dotsS
  rw [sl_app, sl_app, sl_app, sl_ms]
  show _ ++ _ ++ [46] ++ _ = _
  simp
theorem pick_mem {α : Type} {l : List α} {lo hi st : Option Int} {x : α} (h : x ∈ pick l lo hi st) : x ∈ l := by
  unfold pick at h
  obtain ⟨i, _, hi⟩ := List.mem_filterMap.mp h
  exact List.mem_of_getElem? hi
theorem pick_halves {α : Type} {l : List α} (hl : l.length ≤ 40) {x : α} (h : x ∈ l) : x ∈ pick l none none (some 2) ∨ x ∈ pick l (some 1) none (some 2) := by
  have key : ∀ n, n ≤ 40 → ∀ i, i < n → (i ∈ sliceRange (sliceBounds none none (some 2) n).1 (sliceBounds none none (some 2) n).2.1 (sliceBounds none none (some 2) n).2.2) ∨ (i ∈ sliceRange (sliceBounds (some 1) none (some 2) n).1 (sliceBounds (some 1) none (some 2) n).2.1 (sliceBounds (some 1) none (some 2) n).2.2) := by decide +kernel
  obtain ⟨i, hi, e⟩ := List.getElem_of_mem h
  have e' : l[i]? = some x := by rw [List.getElem?_eq_getElem hi, e]
  rcases key l.length hl i hi with k | k
  · exact .inl (List.mem_filterMap.mpr ⟨i, k, e'⟩)
  · exact .inr (List.mem_filterMap.mpr ⟨i, k, e'⟩)

/-! what is asked once and once more -/
noncomputable def Fine {α : Type} (L : List α) (f : α → Str) (an : α → Int) (μ : Str → Option Int) : Prop := ∀ a ∈ L, ∀ v, μ (f a) = some v → v = an a
theorem fine0 {α : Type} {L : List α} {f : α → Str} {an : α → Int} (h : ∀ a ∈ L, f a ≠ Str.ofString "<string>") : Fine L f an μ0 := fun a ha v e => by
  unfold μ0 upd at e
  rw [if_neg (h a ha)] at e; cases e
theorem upd_same' {μ : Str → Option Int} {y : Str} {v : Int} (h : μ y = some v) : upd μ y v = μ := by
  funext z
  unfold upd
  split
  · rename_i e; rw [e, h]
  · rfl
theorem asks_fine {α : Type} {M dirs : List Str} {L : List α} {f : α → Str} {g : α → Option Str} {an : α → Int} (hn : ∀ a ∈ L, askNew M dirs (g a) (f a) = an a) (hf : ∀ a ∈ L, ∀ b ∈ L, f a = f b → an a = an b) :
    ∀ (l : List α) {μ : Str → Option Int}, (∀ a ∈ l, a ∈ L) → Fine L f an μ →
      asksL M dirs μ (l.map fun a => (g a, f a)) = l.map an ∧ Fine L f an (memoL M dirs μ (l.map fun a => (g a, f a))) ∧ ∀ a ∈ L, (a ∈ l ∨ μ (f a) = some (an a)) → memoL M dirs μ (l.map fun a => (g a, f a)) (f a) = some (an a)
  | [], μ, _, F => ⟨rfl, F, fun a _ h => h.elim (fun h => nomatch h) id⟩
  | b :: l, μ, hl, F => by
    have hb := hl b (.head _)
    have ha : askF M dirs μ (g b) (f b) = an b := by
      unfold askF
      cases h : μ (f b) with
      | none => exact hn b hb
      | some v => exact F b hb v h
    have F' : Fine L f an (upd μ (f b) (an b)) := fun a haL v e => by
      unfold upd at e
      split at e
      · rename_i q
        cases e
        exact (hf a haL b hb q).symm
      · exact F a haL v e
    have ih := asks_fine hn hf l (fun a h => hl a (.tail _ h)) F'
    rw [List.map_cons, List.map_cons]
    refine ⟨?_, ?_, fun a haL h => ?_⟩
    · show askF M dirs μ (g b) (f b) :: asksL M dirs (upd μ (f b) (askF M dirs μ (g b) (f b))) _ = _
      rw [ha, ih.1]
    · show Fine L f an (memoL M dirs (upd μ (f b) (askF M dirs μ (g b) (f b))) _)
      rw [ha]; exact ih.2.1
    · show memoL M dirs (upd μ (f b) (askF M dirs μ (g b) (f b))) _ (f a) = _
      rw [ha]
      refine ih.2.2 a haL ?_
      rcases h with h | h
      · rcases List.mem_cons.mp h with rfl | h
        · right; unfold upd; rw [if_pos rfl]
        · exact .inl h
      · right
        unfold upd
        split
        · rename_i q; rw [hf a haL b hb q]
        · exact h
theorem asks_known' {α : Type} {M dirs : List Str} {f : α → Str} {an : α → Int} (file : Option Str) : ∀ (l : List α) {μ : Str → Option Int}, (∀ a ∈ l, μ (f a) = some (an a)) → asksL M dirs μ (l.map fun a => (file, f a)) = l.map an
  | [], _, _ => rfl
  | b :: l, μ, h => by
    have hb := h b (.head _)
    have ha : askF M dirs μ file (f b) = an b := by unfold askF; rw [hb]; rfl
    rw [List.map_cons, List.map_cons]
    show askF M dirs μ file (f b) :: asksL M dirs (upd μ (f b) (askF M dirs μ file (f b))) _ = _
    rw [ha, upd_same' hb, asks_known' file l fun a ha => h a (.tail _ ha)]
theorem asksL_app (M dirs : List Str) : ∀ (q1 q2 : List (Option Str × Str)) (μ : Str → Option Int), asksL M dirs μ (q1 ++ q2) = asksL M dirs μ q1 ++ asksL M dirs (memoL M dirs μ q1) q2
  | [], _, _ => rfl
  | q :: q1, q2, μ => by
    show askF M dirs μ q.1 q.2 :: asksL M dirs _ (q1 ++ q2) = _
    rw [asksL_app M dirs q1 q2]; rfl
theorem memoL_app (M dirs : List Str) : ∀ (q1 q2 : List (Option Str × Str)) (μ : Str → Option Int), memoL M dirs μ (q1 ++ q2) = memoL M dirs (memoL M dirs μ q1) q2
  | [], _, _ => rfl
  | q :: q1, q2, μ => memoL_app M dirs q1 q2 _
theorem asked_twice {α : Type} {M dirs : List Str} {l : List α} {f : α → Str} {g : α → Option Str} {an : α → Int} (hn : ∀ a ∈ l, askNew M dirs (g a) (f a) = an a) (hf : ∀ a ∈ l, ∀ b ∈ l, f a = f b → an a = an b)
    (hs : ∀ a ∈ l, f a ≠ Str.ofString "<string>") (file : Option Str) : asksL M dirs μ0 ((l.map fun a => (g a, f a)) ++ l.map fun a => (file, f a)) = l.map an ++ l.map an := by
  obtain ⟨h1, _, h3⟩ := asks_fine hn hf l (fun _ h => h) (fine0 hs)
  rw [asksL_app, h1, asks_known' file l fun a ha => h3 a ha (.inl ha)]
/-- what _law_asked asks -/
noncomputable def qA (files words : List Str) (file : Option Str) : List (Option Str × Str) := ((List.range words.length).map fun k => (some (files.getD k (Str.ofString "")), words.getD k (Str.ofString ""))) ++ words.map fun x => (file, x)
noncomputable def askedS (M dirs : List Str) (μ : Str → Option Int) (files words : List Str) (file : Option Str) : Str := Txt.join (Str.ofString "") ((asksL M dirs μ (qA files words file)).map strI)
theorem range_maps {α β γ δ : Type} (f : α → β) (g : α → γ) (h : γ → β → δ) (d1 : γ) (d2 : β) (l : List α) : ((List.range l.length).map fun k => h ((l.map g).getD k d1) ((l.map f).getD k d2)) = l.map fun a => h (g a) (f a) := by
  apply List.ext_getElem?
  intro i
  by_cases hi : i < l.length
  · rw [List.getElem?_map, List.getElem?_range hi, List.getElem?_map, List.getElem?_eq_getElem hi]
    show some (h _ _) = some _
    rw [List.getD_eq_getElem?_getD, List.getD_eq_getElem?_getD, List.getElem?_map, List.getElem?_map, List.getElem?_eq_getElem hi]
    rfl
  · rw [List.getElem?_eq_none (by rw [List.length_map, List.length_range]; omega), List.getElem?_eq_none (by rw [List.length_map]; omega)]
theorem qA_maps {α : Type} (f g : α → Str) (l : List α) (file : Option Str) : qA (l.map g) (l.map f) file = (l.map fun a => (some (g a), f a)) ++ l.map fun a => (file, f a) := by
  unfold qA
  rw [List.length_map, List.map_map]
  congr 1
  exact range_maps f g (fun x y => (some x, y)) _ _ l
noncomputable def bit01 (b : Bool) : Nat := if b then 49 else 48
theorem bits_text {α : Type} (b : α → Bool) (l : List α) : Txt.join (Str.ofString "") ((l.map fun a => if b a then (1 : Int) else 0).map strI) = ms' (l.map fun a => bit01 (b a)) := by
  apply sl_inj
  rw [sl_join0, List.map_map, List.map_map, sl_ms]
  induction l with
  | nil => rfl
  | cons a l ih =>
    rw [List.map_cons, List.flatten_cons, ih, List.map_cons]
    have : ((sl ∘ strI) ∘ fun a => if b a then (1 : Int) else 0) a = [bit01 (b a)] := by
      show sl (strI (if b a then (1 : Int) else 0)) = _
      cases b a <;> decide +kernel
    rw [this]; rfl
theorem asked_text {α : Type} {M dirs : List Str} {l : List α} {f g : α → Str} {b : α → Bool} (hn : ∀ a ∈ l, askNew M dirs (some (g a)) (f a) = if b a then 1 else 0) (hf : ∀ x ∈ l, ∀ y ∈ l, f x = f y → b x = b y)
    (hs : ∀ a ∈ l, f a ≠ Str.ofString "<string>") (file : Option Str) : askedS M dirs μ0 (l.map g) (l.map f) file = ms' ((l.map fun a => bit01 (b a)) ++ l.map fun a => bit01 (b a)) := by
  unfold askedS
  rw [qA_maps, asked_twice (an := fun a => if b a then 1 else 0) hn (fun x hx y hy e => by rw [hf x hx y hy e]) hs]
  have := bits_text b (l ++ l)
  rw [List.map_append, List.map_append (f := fun a => bit01 (b a))] at this
  exact this

/-! the boxes -/
theorem dots_cancel (t : Nat) (a b : List Nat) : (List.replicate t 46 ++ a <+: List.replicate t 46 ++ b) ↔ a <+: b := List.prefix_append_right_inj _
theorem row_ne_string {t : Nat} {p : Nat × Nat} (ht : 0 < t) : rowT t p ≠ Str.ofString "<string>" := fun e => by
  have := congrArg sl e
  rw [sl_row] at this
  obtain ⟨k, rfl⟩ : ∃ k, t = k + 1 := ⟨t - 1, by omega⟩
  rw [List.replicate_succ] at this
  have h2 : (46 : Nat) :: (List.replicate k 46 ++ tailT p) = 60 :: (sl (Str.ofString "<string>")).tail := this
  injection h2 with h3
  exact absurd h3 (by decide)
theorem box_hit {t v : Nat} {p : Nat × Nat} (hv : v < 6) (h1 : p.1 < 6) (h2 : p.2 < 6) : hitM [dotsS t ++ handS v] (rowT t p) = (p.2 == v) := by
  have k1 : ∀ v, v < 6 → ∀ u, u < 6 → ∀ w, w < 6 → decide ((sl (handS v) ++ [46]) <+: tailT (u, w)) = (w == v) := by decide +kernel
  have k2 : ∀ v, v < 6 → ∀ u, u < 6 → ∀ w, w < 6 → decide (sl (handS v) = tailT (u, w)) = false := by decide +kernel
  have e : sl (dotsS t ++ handS v) = List.replicate t 46 ++ sl (handS v) := by unfold dotsS; rw [sl_app, sl_ms]
  apply Bool.eq_iff_iff.mpr
  unfold hitM
  rw [Bool.or_eq_true, List.contains_iff_mem, List.mem_singleton, List.any_cons, List.any_nil, Bool.or_false, startswith_iff]
  rw [show sl (dotsS t ++ handS v ++ Str.ofString ".") = List.replicate t 46 ++ (sl (handS v) ++ [46]) by rw [sl_app, e]; simp; rfl, sl_row, dots_cancel]
  have q1 := k1 v hv p.1 h1 p.2 h2
  have q2 := k2 v hv p.1 h1 p.2 h2
  rw [← q1]
  constructor
  · rintro (h | h)
    · have := congrArg sl h
      rw [sl_row, e] at this
      have := List.append_cancel_left this
      have q2 := of_decide_eq_false q2
      exact absurd this.symm q2
    · exact decide_eq_true h
  · intro h
    exact .inr (of_decide_eq_true h)
noncomputable def boxS (P : List (Nat × Nat)) (h : Nat) : Str := ms' ((P.map fun p => bit01 (p.2 == h)) ++ P.map fun p => bit01 (p.2 == h))
theorem row_inj {t : Nat} {p q : Nat × Nat} (h1 : p.1 < 6) (h2 : p.2 < 6) (h3 : q.1 < 6) (h4 : q.2 < 6) (e : rowT t p = rowT t q) : p = q := by
  have k : ∀ a, a < 6 → ∀ b, b < 6 → ∀ c, c < 6 → ∀ d, d < 6 → decide (tailT (a, b) = tailT (c, d)) = (decide (a = c) && decide (b = d)) := by decide +kernel
  have := congrArg sl e
  rw [sl_row, sl_row] at this
  have h7 := k p.1 h1 p.2 h2 q.1 h3 q.2 h4
  rw [decide_eq_true (show tailT (p.1, p.2) = tailT (q.1, q.2) from List.append_cancel_left this)] at h7
  have h7 := h7.symm
  rw [Bool.and_eq_true] at h7
  exact Prod.ext (of_decide_eq_true h7.1) (of_decide_eq_true h7.2)
theorem box_text {P : List (Nat × Nat)} (hP : ∀ p ∈ P, p.1 < 6 ∧ p.2 < 6) {t v : Nat} (ht : 0 < t) (hv : v < 6) :
    askedS [dotsS t ++ handS v] [] μ0 (P.map fun _ => Str.ofString "f") (P.map (rowT t)) none = boxS P v := by
  refine asked_text (b := fun (p : Nat × Nat) => p.2 == v) (fun p hp => ?_) (fun p hp q hq e => ?_) (fun p _ => row_ne_string ht) none
  · unfold askNew
    rw [box_hit hv (hP p hp).1 (hP p hp).2]
    show (if _ then (1 : Int) else if hitD [] _ = true then 1 else 0) = _
    rfl
  · rw [row_inj (hP p hp).1 (hP p hp).2 (hP q hq).1 (hP q hq).2 e]

/-! the doors -/
noncomputable def folderT (v u : Nat) : Str := Str.ofString "/" ++ Txt.replace (handS v ++ Str.ofString "." ++ handS u) (Str.ofString ".") (Str.ofString "//")
noncomputable def fileT (v u : Nat) : Str := Str.ofString "/" ++ handS v ++ Str.ofString "/" ++ handS u ++ Str.ofString "/f"
theorem door_dirs : ∀ v, v < 6 → ∀ u, u < 6 → ∀ x, x < 6 → Txt.startswith (fileT v u) (normP (folderT v x) ++ Str.ofString "/") = (x == u) := by decide +kernel
theorem door_mods {t v u x : Nat} (hv : v < 6) (hu : u < 6) (hx : x < 6) : (rowT t (x, v) == rowT t (u, v) || Txt.startswith (rowT t (u, v)) (rowT t (x, v) ++ Str.ofString ".")) = (x == u) := by
  have k : ∀ v, v < 6 → ∀ u, u < 6 → ∀ x, x < 6 → decide ((tailT (x, v) ++ [46]) <+: tailT (u, v)) = false := by decide +kernel
  have h1 : Txt.startswith (rowT t (u, v)) (rowT t (x, v) ++ Str.ofString ".") = false := by
    rw [← Bool.not_eq_true, startswith_iff, sl_app, sl_row, sl_row]
    show ¬ (List.replicate t 46 ++ tailT (x, v) ++ [46] <+: _)
    rw [List.append_assoc, dots_cancel]
    exact of_decide_eq_false (k v hv u hu x hx)
  rw [h1, Bool.or_false]
  apply Bool.eq_iff_iff.mpr
  rw [beq_iff_eq, beq_iff_eq]
  constructor
  · intro e
    have := row_inj (p := (x, v)) (q := (u, v)) hx hv hu hv e
    exact congrArg (·.1) this
  · rintro rfl; rfl
theorem door_new {U : List Nat} (hU : ∀ u ∈ U, u < 6) (hl : U.length ≤ 40) {t v u : Nat} (hv : v < 6) (hu : u < 6) :
    askNew ((pick U (some 1) none (some 2)).map fun x => rowT t (x, v)) (((pick U none none (some 2)).map (folderT v)).map normP) (some (fileT v u)) (rowT t (u, v)) = if U.contains u then 1 else 0 := by
  have h1 : hitM ((pick U (some 1) none (some 2)).map fun x => rowT t (x, v)) (rowT t (u, v)) = (pick U (some 1) none (some 2)).any fun x => x == u := by
    apply Bool.eq_iff_iff.mpr
    unfold hitM
    rw [Bool.or_eq_true, List.contains_iff_mem, List.any_eq_true, List.any_eq_true]
    constructor
    · rintro (h | ⟨y, hy, h⟩)
      · obtain ⟨x, hx, e⟩ := List.mem_map.mp h
        refine ⟨x, hx, ?_⟩
        rw [← door_mods (t := t) hv hu (hU x (pick_mem hx)), e]; simp
      · obtain ⟨x, hx, rfl⟩ := List.mem_map.mp hy
        refine ⟨x, hx, ?_⟩
        rw [← door_mods (t := t) hv hu (hU x (pick_mem hx)), h]; simp
    · rintro ⟨x, hx, h⟩
      rw [← door_mods (t := t) hv hu (hU x (pick_mem hx)), Bool.or_eq_true] at h
      rcases h with h | h
      · exact .inl (List.mem_map.mpr ⟨x, hx, by simpa using h⟩)
      · exact .inr ⟨_, List.mem_map_of_mem hx, h⟩
  have h2 : hitD (((pick U none none (some 2)).map (folderT v)).map normP) (fileT v u) = (pick U none none (some 2)).any fun x => x == u := by
    unfold hitD
    exact any_maps normP (folderT v) (fun d => Txt.startswith (fileT v u) (d ++ Str.ofString "/")) _ _ fun x hx => door_dirs v hv u hu x (hU x (pick_mem hx))
  have h3 : U.contains u = ((pick U (some 1) none (some 2)).any (fun x => x == u) || (pick U none none (some 2)).any fun x => x == u) := by
    apply Bool.eq_iff_iff.mpr
    rw [List.contains_iff_mem, Bool.or_eq_true, List.any_eq_true, List.any_eq_true]
    constructor
    · intro h
      rcases pick_halves hl h with k | k
      · exact .inr ⟨u, k, by simp⟩
      · exact .inl ⟨u, k, by simp⟩
    · rintro (⟨x, hx, e⟩ | ⟨x, hx, e⟩)
      · rw [← (by simpa using e : x = u)]; exact pick_mem hx
      · rw [← (by simpa using e : x = u)]; exact pick_mem hx
  unfold askNew
  show (if hitM _ _ = true then (1 : Int) else if hitD _ (fileT v u) = true then 1 else 0) = _
  rw [h1, h2, h3]
  cases (pick U (some 1) none (some 2)).any fun x => x == u <;> simp
/-- whom v heard from -/
noncomputable def heardU (P : List (Nat × Nat)) (v : Nat) : List Nat := (P.filter fun p => p.2 == v).map (·.1)
theorem mem_heard {P : List (Nat × Nat)} {u v : Nat} : u ∈ heardU P v ↔ (u, v) ∈ P := by
  unfold heardU
  simp only [List.mem_map, List.mem_filter]
  constructor
  · rintro ⟨⟨a, b⟩, ⟨h, e⟩, rfl⟩
    have e : b = v := by simpa using e
    subst e; exact h
  · intro h
    exact ⟨(u, v), ⟨h, by simp⟩, rfl⟩
noncomputable def othersF (N : Net) (P : List (Nat × Nat)) (v : Nat) : List Nat := if P.any (fun p => p.2 == v) then nb N v else []
noncomputable def doorS (N : Net) (P : List (Nat × Nat)) (v : Nat) : Str := ms' (((othersF N P v).map fun u => bit01 (P.contains (u, v))) ++ (othersF N P v).map fun u => bit01 (P.contains (u, v)))
theorem others_lt {N : Net} (ok : NetOk N) {P : List (Nat × Nat)} {u v : Nat} (h : u ∈ othersF N P v) : u < 6 := by
  unfold othersF at h
  split at h
  · exact nb_lt ok (ok.sym _ _ h)
  · cases h
theorem door_text {N : Net} (ok : NetOk N) {P : List (Nat × Nat)} (hP : ∀ p ∈ P, p.1 < 6 ∧ p.2 < 6) (hl : P.length ≤ 40) {t v : Nat} (ht : 0 < t) (hv : v < 6) :
    askedS ((pick (heardU P v) (some 1) none (some 2)).map fun x => rowT t (x, v)) (((pick (heardU P v) none none (some 2)).map (folderT v)).map normP) μ0 ((othersF N P v).map (fileT v)) ((othersF N P v).map fun u => rowT t (u, v)) (some (Str.ofString "f")) = doorS N P v := by
  refine asked_text (b := fun u => P.contains (u, v)) (fun u hu => ?_) (fun x hx y hy e => ?_) (fun u _ => row_ne_string ht) _
  · rw [door_new (fun x hx => (hP _ (mem_heard.mp hx)).1) (by unfold heardU; rw [List.length_map]; exact Nat.le_trans (List.length_filter_le _ _) hl) hv (others_lt ok hu)]
    have : (heardU P v).contains u = P.contains (u, v) := by
      apply Bool.eq_iff_iff.mpr
      rw [List.contains_iff_mem, List.contains_iff_mem]; exact mem_heard
    rw [this]
  · have := row_inj (p := (x, v)) (q := (y, v)) (others_lt ok hx) hv (others_lt ok hy) hv e
    rw [show x = y from congrArg (·.1) this]
end Mine
end

section
open PySem PySem.Calls PySem.W PyProof.Rows
set_option Elab.async false
set_option maxRecDepth 100000
namespace Mine
open PySem.StrLaws
/-! the second row: the flood and the walks tell the same record -/
noncomputable def PF (N : Net) (src : Nat) : Nat → List (Nat × Nat)
  | 0 => (nb N src).map fun w => (src, w)
  | k + 1 => nextF N (PF N src k)
theorem PF_pairs {N : Net} (ok : NetOk N) (src : Nat) : ∀ k, PF N src k = pairsF N src (k + 1)
  | 0 => (pairs_one ok src).symm
  | k + 1 => by
    show nextF N (PF N src k) = _
    rw [PF_pairs ok src k, pairs_next ok]
theorem range_ante : ∀ (n : Nat) (p : Nat → Bool), (∀ k, p (k + 1) = true → p k = true) → ∃ m, m ≤ n ∧ (List.range n).filter p = List.range m ∧ (∀ k, k < n → (p k = true ↔ k < m))
  | 0, _, _ => ⟨0, Nat.le_refl _, rfl, fun k h => absurd h (Nat.not_lt_zero _)⟩
  | n + 1, p, h => by
    obtain ⟨m, h1, h2, h3⟩ := range_ante n p h
    rw [List.range_succ, List.filter_append, h2]
    by_cases hp : p n = true
    · have hm : m = n := by
        apply Nat.le_antisymm h1
        cases n with
        | zero => exact Nat.zero_le _
        | succ j => exact (h3 j (by omega)).mp (h j hp)
      subst hm
      refine ⟨m + 1, Nat.le_refl _, ?_, fun k hk => ?_⟩
      · rw [List.filter_cons_of_pos hp, List.range_succ]; rfl
      · by_cases e : k = m
        · subst e; exact ⟨fun _ => by omega, fun _ => hp⟩
        · rw [h3 k (by omega)]; omega
    · refine ⟨m, by omega, ?_, fun k hk => ?_⟩
      · rw [List.filter_cons_of_neg hp]; simp
      · by_cases e : k = n
        · subst e; exact ⟨fun q => absurd q hp, fun q => by omega⟩
        · exact h3 k (by omega)
/-- how many rounds there are -/
noncomputable def lenF (N : Net) (src : Nat) : Nat := ((List.range 12).filter fun k => !(PF N src k).isEmpty).length
theorem PF_ante {N : Net} {src k : Nat} (h : (!(PF N src (k + 1)).isEmpty) = true) : (!(PF N src k).isEmpty) = true := by
  cases hp : PF N src k with
  | nil =>
    have : PF N src (k + 1) = nextF N (PF N src k) := rfl
    rw [this, hp, next_nil] at h; cases h
  | cons p ps => rfl
theorem len_filter (N : Net) (src : Nat) : (List.range 12).filter (fun k => !(PF N src k).isEmpty) = List.range (lenF N src) ∧ lenF N src ≤ 12 ∧ ∀ k, k < 12 → (PF N src k ≠ [] ↔ k < lenF N src) := by
  obtain ⟨m, h1, h2, h3⟩ := range_ante 12 (fun k => !(PF N src k).isEmpty) fun k h => PF_ante h
  have e : lenF N src = m := by unfold lenF; rw [h2, List.length_range]
  rw [e]
  refine ⟨h2, h1, fun k hk => ?_⟩
  rw [← h3 k hk]
  cases PF N src k <;> simp
/-- the text's lines behind k rounds -/
noncomputable def stN : Nat → List (List Nat) → List (List Nat)
  | 0, L => L
  | k + 1, L => (stN k L).map st
noncomputable def recD (N : Net) (P : List (Nat × Nat)) (t : Nat) (L : List (List Nat)) : D :=
  .tuple [.str (ms' (J [13, 10] (P.map (fun p => sl (rowT t p)) ++ L))), .list (dStrs ((List.range 6).map (boxS P))), .list (dStrs ((List.range 6).map (doorS N P)))]
noncomputable def recF (N : Net) (src : Nat) (L : List (List Nat)) (k : Nat) : D := recD N (PF N src k) (k + 2) (stN (k + 1) L)
noncomputable def floodD (N : Net) (src : Nat) (L : List (List Nat)) : List D := (List.range (lenF N src)).map (recF N src L)

/-! as the walks tell it -/
noncomputable def ans01 (b : Bool) : Str := if b then Str.ofString "1" else Str.ofString "0"
noncomputable def bodyS (t : Nat) (l : Str) : Str := if Txt.slice l none (some 1) == Str.ofString "." then dotsS t ++ l else l
noncomputable def recW (N : Net) (src : Nat) (L : List (List Nat)) (k : Nat) : D :=
  .tuple [.str (Txt.join (Str.ofString "\r\n") ((pairsF N src (k + 1)).map (rowT (k + 2)) ++ (L.map ms').map (bodyS (k + 1)))),
    .list (dStrs ((List.range 6).map fun h => Txt.mul (Txt.join (Str.ofString "") ((pairsF N src (k + 1)).map fun p => ans01 (p.2 == h))) 2)),
    .list (dStrs ((List.range 6).map fun h => Txt.mul (Txt.join (Str.ofString "") (((nb N h).filter fun _ => (freshF N src (k + 1)).contains h).map fun v => ans01 ((freshF N src k).contains v))) 2))]
noncomputable def walksD (N : Net) (src : Nat) (L : List (List Nat)) : List D := ((List.range 12).filter fun k => !(pairsF N src (k + 1)).isEmpty).map (recW N src L)
theorem sl_join (z : Str) : ∀ ts : List Str, ts ≠ [] → sl (Txt.join z ts) = J (sl z) (ts.map sl)
  | [], h => absurd rfl h
  | t :: ts, _ => by
    have hJ : ∀ (ps : List (List Nat)) (p : List Nat), J (sl z) (p :: ps) = p ++ (ps.map fun q => sl z ++ q).flatten := fun ps => by
      induction ps with
      | nil => intro p; simp [J]
      | cons q ps ih => intro p; rw [J_cons, ih]; simp
    rw [List.map_cons, hJ, List.map_map]
    show (ts.foldl (fun acc p => acc ++ z.cps ++ p.cps) t.cps).toList = _
    have e : z.cps = (sl z).toArray := rfl
    rw [e, glue_fold]
    rfl
theorem mul_two (x : Str) : Txt.mul x 2 = ms' (sl x ++ sl x) := by
  unfold Txt.mul
  rw [if_neg (by decide)]
  split
  · rename_i h
    have h0 : x.length = 0 := by simpa using h
    have : sl x = [] := List.eq_nil_of_length_eq_zero (by rw [sl_len]; exact h0)
    apply sl_inj
    rw [sl_ms, this]; rfl
  · apply sl_inj
    rw [sl_ms]
    show (#[] ++ x.cps ++ x.cps).toList = _
    simp
theorem ans_text {α : Type} (b : α → Bool) (l : List α) : Txt.mul (Txt.join (Str.ofString "") (l.map fun a => ans01 (b a))) 2 = ms' ((l.map fun a => bit01 (b a)) ++ l.map fun a => bit01 (b a)) := by
  have e : sl (Txt.join (Str.ofString "") (l.map fun a => ans01 (b a))) = l.map fun a => bit01 (b a) := by
    rw [sl_join0, List.map_map]
    induction l with
    | nil => rfl
    | cons a l ih =>
      rw [List.map_cons, List.flatten_cons, ih, List.map_cons]
      have : (sl ∘ fun a => ans01 (b a)) a = [bit01 (b a)] := by
        show sl (ans01 (b a)) = _
        cases b a <;> decide +kernel
      rw [this]; rfl
  rw [mul_two, e]
theorem stN_map : ∀ (k : Nat) (L : List (List Nat)), stN k L = L.map fun x => if x.head? = some 46 then List.replicate k 46 ++ x else x
  | 0, L => by
    show L = _
    have : (fun x : List Nat => if x.head? = some 46 then List.replicate 0 46 ++ x else x) = id := by funext x; simp
    rw [this, List.map_id]
  | k + 1, L => by
    show (stN k L).map st = _
    rw [stN_map k L, List.map_map]
    apply List.map_congr_left
    intro x _
    show st (if x.head? = some 46 then List.replicate k 46 ++ x else x) = _
    split
    · rename_i h
      unfold st
      rw [if_pos]
      · rw [List.replicate_succ]; rfl
      · cases k with
        | zero => exact h
        | succ k => rw [List.replicate_succ]; rfl
    · rename_i h
      unfold st
      rw [if_neg h]
theorem stN_plain {L : List (List Nat)} (h : ∀ q ∈ L, Plain q) : ∀ k, ∀ q ∈ stN k L, Plain q
  | 0, q, hq => h q hq
  | k + 1, q, hq => by
    obtain ⟨x, hx, rfl⟩ := List.mem_map.mp hq
    exact st_plain (stN_plain h k x hx)
theorem stN_ne {L : List (List Nat)} (h : L ≠ []) : ∀ k, stN k L ≠ []
  | 0 => h
  | k + 1 => fun e => stN_ne h k (List.map_eq_nil_iff.mp e)
theorem slice_one (l : List Nat) : (Txt.slice (ms' l) none (some 1) == Str.ofString ".") = decide (l.head? = some 46) := by
  cases l with
  | nil => decide +kernel
  | cons c r =>
    have e : sl (Txt.slice (ms' (c :: r)) none (some 1)) = [c] := by
      have := sliceText_to (x := ms' (c :: r)) (j := 1) ⟨by decide, by show (1 : Int) ≤ ((c :: r).length : Int); rw [List.length_cons]; omega⟩
      have e2 : Txt.slice (ms' (c :: r)) none (some 1) = sliceText (ms' (c :: r)) none (some 1) := rfl
      rw [e2, this]; rfl
    apply Bool.eq_iff_iff.mpr
    rw [beq_iff_eq, decide_eq_true_eq]
    constructor
    · intro h
      have := congrArg sl h
      rw [e] at this
      have h2 : [c] = [46] := this
      rw [show c = 46 from by simpa using h2]; rfl
    · intro h
      have hc : c = 46 := by simpa using h
      apply sl_inj
      rw [e, hc]; rfl
theorem body_st (k : Nat) (l : List Nat) : sl (bodyS k (ms' l)) = if l.head? = some 46 then List.replicate k 46 ++ l else l := by
  unfold bodyS
  rw [slice_one]
  by_cases h : l.head? = some 46
  · rw [if_pos (decide_eq_true h), if_pos h, sl_app]; rfl
  · rw [if_neg (by simpa using h), if_neg h]; rfl
theorem rec_same {N : Net} (ok : NetOk N) {src : Nat} {L : List (List Nat)} (hL : L ≠ []) (k : Nat) : recW N src L k = recF N src L k := by
  unfold recW recF recD
  rw [PF_pairs ok]
  have e1 : Txt.join (Str.ofString "\r\n") ((pairsF N src (k + 1)).map (rowT (k + 2)) ++ (L.map ms').map (bodyS (k + 1))) = ms' (J [13, 10] ((pairsF N src (k + 1)).map (fun p => sl (rowT (k + 2) p)) ++ stN (k + 1) L)) := by
    apply sl_inj
    rw [sl_join _ _ (fun e => hL (List.map_eq_nil_iff.mp (List.map_eq_nil_iff.mp (List.append_eq_nil_iff.mp e).2))), sl_ms, List.map_append, List.map_map, List.map_map, List.map_map, stN_map]
    show J [13, 10] _ = _
    congr 2
    apply List.map_congr_left
    intro x _
    exact body_st (k + 1) x
  have e2 : ((List.range 6).map fun h => Txt.mul (Txt.join (Str.ofString "") ((pairsF N src (k + 1)).map fun p => ans01 (p.2 == h))) 2) = (List.range 6).map (boxS (pairsF N src (k + 1))) := by
    apply List.map_congr_left
    intro h _
    exact ans_text (fun p : Nat × Nat => p.2 == h) _
  have e3 : ((List.range 6).map fun h => Txt.mul (Txt.join (Str.ofString "") (((nb N h).filter fun _ => (freshF N src (k + 1)).contains h).map fun v => ans01 ((freshF N src k).contains v))) 2) = (List.range 6).map (doorS N (pairsF N src (k + 1))) := by
    apply List.map_congr_left
    intro h _
    rw [ans_text (fun v => (freshF N src k).contains v)]
    unfold doorS othersF
    rw [heard_iff ok]
    by_cases hh : h ∈ freshF N src (k + 1)
    · have hc : (freshF N src (k + 1)).contains h = true := by simpa using hh
      rw [if_pos hc, hc, filter_all]
      have : ((nb N h).map fun v => bit01 ((freshF N src k).contains v)) = (nb N h).map fun u => bit01 ((pairsF N src (k + 1)).contains (u, h)) := by
        apply List.map_congr_left
        intro u hu
        rw [door_iff ok hh hu]
      rw [this]
    · have hc : (freshF N src (k + 1)).contains h = false := by simpa using hh
      rw [hc, if_neg (by simp), show (nb N h).filter (fun _ => false) = [] from List.filter_eq_nil_iff.mpr fun _ _ => by simp]
      rfl
  rw [e1, e2, e3]
theorem flood_walks {N : Net} (ok : NetOk N) {src : Nat} {L : List (List Nat)} (hL : L ≠ []) : walksD N src L = floodD N src L := by
  unfold walksD floodD
  have e : ((List.range 12).filter fun k => !(pairsF N src (k + 1)).isEmpty) = (List.range 12).filter fun k => !(PF N src k).isEmpty := by
    apply List.filter_congr
    intro k _
    rw [PF_pairs ok]
  rw [e, (len_filter N src).1]
  apply List.map_congr_left
  intro k _
  exact rec_same ok hL k
/-- a one in a box -/
theorem box_one (P : List (Nat × Nat)) (h : Nat) : (!(Builtin.Str.occurrences (boxS P h) (Str.ofString "1") 0 (boxS P h).length 1).isEmpty) = P.any fun p => p.2 == h := by
  refine (StrLaws.found_one (boxS P h) 49).trans ?_
  apply Bool.eq_iff_iff.mpr
  rw [decide_eq_true_eq, List.any_eq_true]
  show 49 ∈ (P.map fun p => bit01 (p.2 == h)) ++ _ ↔ _
  rw [List.mem_append, or_self, List.mem_map]
  constructor
  · rintro ⟨p, hp, e⟩
    refine ⟨p, hp, ?_⟩
    cases hb : p.2 == h with
    | true => rfl
    | false => rw [hb] at e; cases e
  · rintro ⟨p, hp, e⟩
    exact ⟨p, hp, by rw [e]; rfl⟩
/-- does a letter come back -/
noncomputable def backF (N : Net) (src : Nat) : Bool := !((List.range (lenF N src)).filter fun k => (PF N src k).any fun p => p.2 == src).isEmpty
theorem law2_back {N : Net} (ok : NetOk N) {src : Nat} (hs : src < 6) : (backF N src != paintF N src) = true := by
  have key : backF N src = true ↔ ∃ t, 1 ≤ t ∧ t ≤ 12 ∧ src ∈ freshF N src t := by
    unfold backF
    rw [filter_isEmpty]
    obtain ⟨_, h2, h3⟩ := len_filter N src
    constructor
    · rintro ⟨k, hk, hp⟩
      have hk := List.mem_range.mp hk
      rw [PF_pairs ok, heard_iff ok] at hp
      exact ⟨k + 1, by omega, by omega, by simpa using hp⟩
    · rintro ⟨t, h1, ht, hm⟩
      obtain ⟨k, rfl⟩ : ∃ k, t = k + 1 := ⟨t - 1, by omega⟩
      have hp : ((PF N src k).any fun p => p.2 == src) = true := by
        rw [PF_pairs ok, heard_iff ok]; simpa using hm
      refine ⟨k, List.mem_range.mpr ((h3 k (by omega)).mp fun e => ?_), hp⟩
      rw [e] at hp; cases hp
  have := key.trans (law2_net ok hs)
  cases hb : backF N src <;> cases hpt : paintF N src <;> simp_all
end Mine
end

section
open PySem PySem.Calls PySem.W PyProof.Rows
set_option Elab.async false
set_option maxRecDepth 100000
namespace Mine
/-! the net that the bits tell -/
noncomputable def addE (N : Nat → List Nat) (v w : Nat) (b : Bool) : Nat → List Nat := fun i => if b then (if i = v then N i ++ [w] else if i = w then N i ++ [v] else N i) else N i
noncomputable def tri (w : Nat) : Nat := w * (w - 1) / 2
noncomputable def bitN (bits k : Nat) : Bool := bits / 2 ^ k % 2 == 1
noncomputable def rowN (bits w : Nat) (N : Nat → List Nat) : Nat → Nat → List Nat
  | 0 => N
  | v + 1 => addE (rowN bits w N v) v w (bitN bits (tri w + v))
noncomputable def netN (bits : Nat) : Nat → Nat → List Nat
  | 0 => fun _ => []
  | w + 1 => rowN bits w (netN bits w) w
noncomputable def netL (bits : Nat) : Net := (List.range 6).map (netN bits 6)
theorem tri_next : ∀ w, w < 6 → tri w + w = tri (w + 1) := by decide
structure NetIv (w v : Nat) (N : Nat → List Nat) : Prop where
  sym : ∀ i j, j ∈ N i → i ∈ N j
  irr : ∀ i, i ∉ N i
  len : ∀ i, (N i).length ≤ if i < w then w - 1 + (if i < v then 1 else 0) else if i = w then v else 0
theorem netIv_add {w v : Nat} {N : Nat → List Nat} (x : NetIv w v N) (h : v < w) (b : Bool) : NetIv w (v + 1) (addE N v w b) := by
  cases b with
  | false =>
    refine ⟨x.sym, x.irr, fun i => Nat.le_trans (x.len i) ?_⟩
    repeat' split
    all_goals omega
  | true =>
    have e : ∀ i j, j ∈ addE N v w true i ↔ (j ∈ N i ∨ (i = v ∧ j = w) ∨ (i = w ∧ j = v)) := fun i j => by
      unfold addE
      simp only [if_true]
      split
      · rename_i h1; subst h1
        simp only [List.mem_append, List.mem_singleton, true_and]
        constructor
        · rintro (h2 | h2)
          · exact .inl h2
          · exact .inr (.inl h2)
        · rintro (h2 | h2 | ⟨h2, _⟩)
          · exact .inl h2
          · exact .inr h2
          · omega
      · split
        · rename_i h1 h2; subst h2
          simp only [List.mem_append, List.mem_singleton, true_and]
          constructor
          · rintro (h2 | h2)
            · exact .inl h2
            · exact .inr (.inr h2)
          · rintro (h2 | ⟨h2, _⟩ | h2)
            · exact .inl h2
            · omega
            · exact .inr h2
        · rename_i h1 h2
          simp [h1, h2]
    refine ⟨fun i j hj => ?_, fun i hi => ?_, fun i => ?_⟩
    · rw [e] at hj ⊢
      rcases hj with hj | ⟨h1, h2⟩ | ⟨h1, h2⟩
      · exact .inl (x.sym _ _ hj)
      · exact .inr (.inr ⟨h2, h1⟩)
      · exact .inr (.inl ⟨h2, h1⟩)
    · rw [e] at hi
      rcases hi with hi | ⟨h1, h2⟩ | ⟨h1, h2⟩
      · exact x.irr i hi
      · omega
      · omega
    · have hl := x.len i
      unfold addE
      simp only [if_true]
      by_cases h1 : i = v
      · subst h1
        rw [if_pos rfl, List.length_append, if_pos h, if_pos (Nat.lt_succ_self _)]
        rw [if_pos h, if_neg (Nat.lt_irrefl _)] at hl
        simp only [List.length_singleton]; omega
      · by_cases h2 : i = w
        · subst h2
          rw [if_neg h1, if_pos rfl, List.length_append, if_neg (Nat.lt_irrefl _), if_pos rfl]
          rw [if_neg (Nat.lt_irrefl _), if_pos rfl] at hl
          simp only [List.length_singleton]; omega
        · rw [if_neg h1, if_neg h2]
          refine Nat.le_trans hl ?_
          repeat' split
          all_goals omega
theorem netIv_row (bits w : Nat) {N : Nat → List Nat} (x : NetIv w 0 N) : ∀ v, v ≤ w → NetIv w v (rowN bits w N v)
  | 0, _ => x
  | v + 1, h => netIv_add (netIv_row bits w x v (by omega)) (by omega) _
theorem netIv_next {w : Nat} {N : Nat → List Nat} (x : NetIv w w N) : NetIv (w + 1) 0 N :=
  ⟨x.sym, x.irr, fun i => Nat.le_trans (x.len i) (by (repeat' split) <;> omega)⟩
theorem netIv_net (bits : Nat) : ∀ w, NetIv w 0 (netN bits w)
  | 0 => ⟨fun _ _ h => (nomatch h), fun _ h => (nomatch h), fun _ => Nat.zero_le _⟩
  | w + 1 => netIv_next (netIv_row bits w (netIv_net bits w) w (Nat.le_refl _))
theorem nb_net (bits : Nat) {v : Nat} (h : v < 6) : nb (netL bits) v = netN bits 6 v := by
  unfold nb netL
  rw [List.getD_eq_getElem?_getD, List.getElem?_map, List.getElem?_range h]; rfl
theorem nb_net6 (bits : Nat) {v : Nat} (h : ¬ v < 6) : nb (netL bits) v = [] := by
  unfold nb netL
  rw [List.getD_eq_getElem?_getD, List.getElem?_eq_none (by rw [List.length_map, List.length_range]; omega)]; rfl
theorem net_ok (bits : Nat) : NetOk (netL bits) := by
  have x := netIv_net bits 6
  refine ⟨by unfold netL; rw [List.length_map, List.length_range], fun v w h => ?_, fun v h => ?_, fun v => ?_⟩
  · by_cases hv : v < 6
    · rw [nb_net bits hv] at h
      have h' := x.sym _ _ h
      by_cases hw : w < 6
      · rw [nb_net bits hw]; exact h'
      · have := x.len w
        rw [if_neg hw] at this
        have h0 : (netN bits 6 w).length ≤ 0 := by split at this <;> exact this
        rw [List.eq_nil_of_length_eq_zero (Nat.le_zero.mp h0)] at h'
        cases h'
    · rw [nb_net6 bits hv] at h; cases h
  · by_cases hv : v < 6
    · rw [nb_net bits hv] at h; exact x.irr v h
    · rw [nb_net6 bits hv] at h; cases h
  · by_cases hv : v < 6
    · rw [nb_net bits hv]
      have := x.len v
      rw [if_pos hv, if_neg (Nat.not_lt_zero _)] at this; exact this
    · rw [nb_net6 bits hv]; exact Nat.zero_le _
end Mine
end

section
open PySem PySem.Calls PySem.W PyProof.Rows
set_option Elab.async false
set_option maxRecDepth 100000
namespace Mine
noncomputable abbrev dNs (l : List Nat) : List D := l.map dN
noncomputable abbrev dL (l : List Nat) : D := .list (dNs l)
noncomputable def netD (N : Net) : D := .list (N.map dL)
noncomputable def pairD (p : Nat × Nat) : D := .tuple [dN p.1, dN p.2]
noncomputable def unpair : D → Nat × Nat
  | .tuple [a, b] => (a.n, b.n)
  | _ => (0, 0)
theorem unpair_pair (p : Nat × Nat) : unpair (pairD p) = p := by
  show ((dN p.1).n, (dN p.2).n) = p
  rw [dN_n, dN_n]
theorem mulOk' {x : Str} {k : Nat} (hk : k ≤ 1000) (hx : x.length ≤ 1000) : MulOk x (k : Int) := by
  have hp : x.length * k ≤ 1000 * 1000 := Nat.mul_le_mul hx hk
  have hline : sizeLine = 16777216 := rfl
  refine ⟨by simp; omega, fun h _ => ?_, fun _ _ => ?_⟩
  · have hk1 : (1 : Int) ≤ k := by omega
    have : (x.length : Int) ≤ (2 ^ 63 - 1) / (k : Int) := by
      rw [Int.le_ediv_iff_mul_le (by omega)]
      have : ((x.length * k : Nat) : Int) ≤ 1000 * 1000 := by omega
      rw [Int.natCast_mul] at this
      omega
    omega
  · rw [Int.toNat_natCast]
    unfold Builtin.Str.tooLong
    simp; omega
theorem replace_len (x y z : Str) : (Txt.replace x y z).length ≤ x.length + (x.length + 1) * z.length := by
  unfold Txt.replace
  split
  · exact Nat.le_add_right _ _
  · have h1 := StrLaws.occ_length_le x y 0 x.length (x.length + 1)
    have hy : (Builtin.Str.glued y (Builtin.Str.partsBetween x (Builtin.Str.occurrences x y 0 x.length (x.length + 1)) y.length)).length = x.length := by rw [StrLaws.glued_between_self]
    rw [size_glued, length_partsBetween, Nat.add_sub_cancel] at hy
    rw [size_glued, length_partsBetween, Nat.add_sub_cancel]
    have h2 := Nat.mul_le_mul_right z.length h1
    omega
theorem mul_dots : ∀ k, k ≤ 30 → Txt.mul (Str.ofString ".") ((k : Nat) : Int) = dotsS k := by decide +kernel
section
variable {prog : Program} {w : World} {h₀ : Heap} {n : Nat} {env : Env} {V : List Addr} {ρ : List (Str × D)} {B : List (List Addr × Shared)} {O O' : List (Addr × Ow)}

theorem c2_in_nats {k : Nat} {l : List Nat} : C2 prog w n V .In (dN k) (.list (dNs l)) (l.contains k) := by
  have h := c2_in_ints (prog := prog) (w := w) (n := n) (V := V) (k := (k : Int)) (l := l.map fun x : Nat => (x : Int))
  have e1 : dInts (l.map fun x : Nat => (x : Int)) = dNs l := by unfold dInts dNs; rw [List.map_map]; rfl
  have e2 : (l.map fun x : Nat => (x : Int)).any (· == (k : Int)) = l.contains k := by
    apply Bool.eq_iff_iff.mpr
    rw [List.any_map, List.any_eq_true, List.contains_iff_mem]
    constructor
    · rintro ⟨y, h1, h2⟩
      have h2 : ((y : Int) == (k : Int)) = true := h2
      have : y = k := by have := beq_iff_eq.mp h2; omega
      exact this ▸ h1
    · intro h
      exact ⟨k, h, by show ((k : Int) == (k : Int)) = true; simp⟩
  rw [e1, e2] at h; exact h
theorem c2_notin_nats {k : Nat} {l : List Nat} : C2 prog w n V .NotIn (dN k) (.list (dNs l)) (!l.contains k) := by
  have h := c2_notin_ints (prog := prog) (w := w) (n := n) (V := V) (k := (k : Int)) (l := l.map fun x : Nat => (x : Int))
  have e1 : dInts (l.map fun x : Nat => (x : Int)) = dNs l := by unfold dInts dNs; rw [List.map_map]; rfl
  have e2 : (l.map fun x : Nat => (x : Int)).any (· == (k : Int)) = l.contains k := by
    apply Bool.eq_iff_iff.mpr
    rw [List.any_map, List.any_eq_true, List.contains_iff_mem]
    constructor
    · rintro ⟨y, h1, h2⟩
      have h2 : ((y : Int) == (k : Int)) = true := h2
      have : y = k := by have := beq_iff_eq.mp h2; omega
      exact this ▸ h1
    · intro h
      exact ⟨k, h, by show ((k : Int) == (k : Int)) = true; simp⟩
  rw [e1, e2] at h; exact h

/-- the last of an or -/
theorem pts_last {e : Expr} {c : Bool} (h : PT prog w h₀ n env V ρ e c) : PTs prog w h₀ n env V ρ .Or [e] c := by
  have := pts_or h (es := []) (d := false) fun _ => pts_or_nil
  rwa [Bool.or_false] at this

/-- near[v] -/
theorem pe_nb {N : Net} (ok : NetOk N) {v : Nat} (hv : v < 6) {ne ve : Expr} {pos : Pos} (hn : PE prog w h₀ n env V ρ ne (netD N)) (hve : PE prog w h₀ n env V ρ ve (dN v))
    (hs : autoParam (∀ o i', subscripted ve false o i' = operate [o, i'] (getItem o i')) tacIntroUnf) : PE prog w h₀ n env V ρ (.Subscript ne ve pos) (dL (nb N v)) :=
  pe_at dL [] hn hve (by rw [ok.len]; exact hv) (by rw [ok.len]; decide) hs

/-- [x for x in iter if ..], over numbers -/
theorem pef_f {l : List Nat} {t : Nat → Bool} {iter : Expr} {x : Str} {pe px : Pos} {ifs : List Expr} {scope : Scope} {pos : Pos}
    (hit : IT prog w h₀ n env V ρ iter (dNs l)) (co : CompOk scope env) (hx : scope.names.lookup x = some .local ∨ scope.names.lookup x = some .cell)
    (htests : ∀ C V' v, v ∈ l → TS prog w h₀ n (cEnv scope env C) V' ((x, dN v) :: caps scope ρ) ifs (t v))
    (hsz : l.length ≤ sizeLine) (hfs : autoParam (∀ x, foldedSetIterable iter env x = pure x) tacIntroRfl) (hd : autoParam ((x == ("__debug__" : Str)) = false) tacDecide) (hc : autoParam ((x == ("__classdict__" : Str)) = false) tacDecide) :
    PEF prog w h₀ n env V ρ (.ListComp (.Name x pe) [⟨.Name x px, iter, ifs, 0⟩] scope pos) (dNs (l.filter t)) := by
  have h := pef_cf (l := l) (t := t) (f := fun v => v) (px := px) (elt := .Name x pe) (pos := pos) dN D.n dN_n dN hit co hx htests (fun C' V' v hv _ => pe_name List.lookup_cons_self hd hc) hsz hfs
  rwa [List.map_id'] at h

/-- [.. for x in iter for y in iter2 if ..], over numbers -/
theorem pef_nn {l : List Nat} {l2 : Nat → List Nat} {t : Nat → Nat → Bool} {elt iter iter2 : Expr} {x y : Str} {px py : Pos} {ifs2 : List Expr} {scope : Scope} {pos : Pos}
    (hit : IT prog w h₀ n env V ρ iter (dNs l)) (co : CompOk scope env) (hx : scope.names.lookup x = some .local ∨ scope.names.lookup x = some .cell) (hy : scope.names.lookup y = some .local ∨ scope.names.lookup y = some .cell) (hxy : (y == x) = false)
    (hit2 : ∀ C V' v, v ∈ l → IT prog w h₀ n (cEnv scope env C) V' ((x, dN v) :: caps scope ρ) iter2 (dNs (l2 v)))
    (htests : ∀ C V' v u, v ∈ l → u ∈ l2 v → TS prog w h₀ n (cEnv scope env C) V' ((y, dN u) :: (x, dN v) :: caps scope ρ) ifs2 (t v u))
    (helt : ∀ C V' v u, v ∈ l → u ∈ l2 v → PE prog w h₀ n (cEnv scope env C) V' ((y, dN u) :: (x, dN v) :: caps scope ρ) elt (pairD (v, u)))
    (hsz : l.length ≤ 1000) (hsz2 : ∀ v ∈ l, (l2 v).length ≤ 1000) (hfs : autoParam (∀ x, foldedSetIterable iter env x = pure x) tacIntroRfl) (hfs2 : autoParam (∀ (e : Env) x, foldedSetIterable iter2 e x = pure x) tacIntroUnf) :
    PEF prog w h₀ n env V ρ (.ListComp elt [⟨.Name x px, iter, [], 0⟩, ⟨.Name y py, iter2, ifs2, 0⟩] scope pos) ((l.flatMap fun v => ((l2 v).filter (t v)).map fun u => (v, u)).map pairD) := by
  have key : ((dNs l).flatMap fun d => ((dNs (l2 d.n)).filter fun d2 => t d.n d2.n).map fun d2 => pairD (d.n, d2.n)) = (l.flatMap fun v => ((l2 v).filter (t v)).map fun u => (v, u)).map pairD := by
    rw [List.flatMap_map, List.map_flatMap]
    congr 1
    funext v
    simp only [dN_n, List.filter_map, List.map_map]
    have e : ((fun d2 : D => t v d2.n) ∘ dN) = t v := by funext u; simp [dN_n]
    rw [e]
    apply List.map_congr_left
    intro u _
    simp [dN_n]
  rw [← key]
  refine pef_comp2 hit co hx hy hxy (ds2 := fun d => dNs (l2 d.n)) (t := fun d d2 => t d.n d2.n) (f := fun d d2 => pairD (d.n, d2.n)) (fun C V' d hd => ?_) (fun C V' d d2 hd hd2 => ?_) (fun C V' d d2 hd hd2 _ => ?_) (by rw [List.length_map]; exact hsz) (fun d hd => ?_) hfs hfs2
  · obtain ⟨v, hv, rfl⟩ := List.mem_map.mp hd
    rw [dN_n]; exact hit2 C V' v hv
  · obtain ⟨v, hv, rfl⟩ := List.mem_map.mp hd
    rw [dN_n] at hd2 ⊢
    obtain ⟨u, hu, rfl⟩ := List.mem_map.mp hd2
    rw [dN_n]; exact htests C V' v u hv hu
  · obtain ⟨v, hv, rfl⟩ := List.mem_map.mp hd
    rw [dN_n] at hd2 ⊢
    obtain ⟨u, hu, rfl⟩ := List.mem_map.mp hd2
    rw [dN_n]; exact helt C V' v u hv hu
  · obtain ⟨v, hv, rfl⟩ := List.mem_map.mp hd
    rw [dN_n, List.length_map]; exact hsz2 v hv

theorem pairs_key {β : Type} (e' : β → D) {l : List (Nat × Nat)} {t : Nat × Nat → Bool} {f : Nat × Nat → β} : ((l.map pairD).filter fun d => t (unpair d)).map (fun d => e' (f (unpair d))) = ((l.filter t).map f).map e' := by
  rw [List.filter_map, List.map_map, List.map_map]
  have h1 : ((fun d => t (unpair d)) ∘ pairD) = t := by funext a; simp [unpair_pair]
  rw [h1]
  apply List.map_congr_left
  intro a _
  simp [unpair_pair]
/-- [elt for x, y in iter if ..], over pairs -/
theorem pef_pp {β : Type} (e' : β → D) {l : List (Nat × Nat)} {t : Nat × Nat → Bool} {f : Nat × Nat → β} {elt iter : Expr} {x y : Str} {p1 p2 px : Pos} {k : Nat} {ifs : List Expr} {scope : Scope} {pos : Pos}
    (hit : IT prog w h₀ n env V ρ iter (l.map pairD)) (co : CompOk scope env) (hx : scope.names.lookup x = some .local ∨ scope.names.lookup x = some .cell) (hy : scope.names.lookup y = some .local ∨ scope.names.lookup y = some .cell)
    (htests : ∀ C V' p, p ∈ l → TS prog w h₀ n (cEnv scope env C) V' ((y, dN p.2) :: (x, dN p.1) :: caps scope ρ) ifs (t p))
    (helt : ∀ C V' p, p ∈ l → t p = true → PE prog w h₀ n (cEnv scope env C) V' ((y, dN p.2) :: (x, dN p.1) :: caps scope ρ) elt (e' (f p)))
    (hsz : l.length ≤ sizeLine) (hfs : autoParam (∀ x, foldedSetIterable iter env x = pure x) tacIntroRfl) :
    PEF prog w h₀ n env V ρ (.ListComp elt [⟨.Tuple [.Name x p1, .Name y p2] k px, iter, ifs, 0⟩] scope pos) (((l.filter t).map f).map e') := by
  rw [← pairs_key e']
  refine pef_compN (xs := [x, y]) (.cons (.cons .nil)) hit co (fun z hz => ?_) (fun d hd => ?_) (t := fun d => t (unpair d)) (f := fun d => e' (f (unpair d))) (fun C V' d hd => ?_) (fun C V' d hd ht => ?_) (by rw [List.length_map]; exact hsz) hfs
  · simp only [List.mem_cons, List.not_mem_nil, or_false] at hz
    rcases hz with rfl | rfl
    · exact hx
    · exact hy
  · obtain ⟨p, _, rfl⟩ := List.mem_map.mp hd
    exact ⟨_, rfl, rfl⟩
  · obtain ⟨p, hp, rfl⟩ := List.mem_map.mp hd
    rw [unpair_pair]; exact htests C V' p hp
  · obtain ⟨p, hp, rfl⟩ := List.mem_map.mp hd
    rw [unpair_pair] at ht ⊢; exact helt C V' p hp ht
/-- [elt for x, y in iter], over pairs -/
theorem pef_p {β : Type} (e' : β → D) {l : List (Nat × Nat)} {f : Nat × Nat → β} {elt iter : Expr} {x y : Str} {p1 p2 px : Pos} {k : Nat} {scope : Scope} {pos : Pos}
    (hit : IT prog w h₀ n env V ρ iter (l.map pairD)) (co : CompOk scope env) (hx : scope.names.lookup x = some .local ∨ scope.names.lookup x = some .cell) (hy : scope.names.lookup y = some .local ∨ scope.names.lookup y = some .cell)
    (helt : ∀ C V' p, p ∈ l → PE prog w h₀ n (cEnv scope env C) V' ((y, dN p.2) :: (x, dN p.1) :: caps scope ρ) elt (e' (f p)))
    (hsz : l.length ≤ sizeLine) (hfs : autoParam (∀ x, foldedSetIterable iter env x = pure x) tacIntroRfl) :
    PEF prog w h₀ n env V ρ (.ListComp elt [⟨.Tuple [.Name x p1, .Name y p2] k px, iter, [], 0⟩] scope pos) ((l.map f).map e') := by
  have h := pef_pp (t := fun _ => true) (pos := pos) (p1 := p1) (p2 := p2) (px := px) (k := k) e' hit co hx hy (fun _ _ _ _ => ts_nil) (fun C V' p hp _ => helt C V' p hp) hsz hfs
  rwa [filter_all] at h
theorem nat_beq (a b : Nat) : (((a : Int)) == ((b : Int))) = (a == b) := by
  apply Bool.eq_iff_iff.mpr
  rw [beq_iff_eq, beq_iff_eq]; omega
/-- '1' if .. else '0' -/
theorem pe_ans {t one zero : Expr} {c : Bool} {k1 k2 : Nat} {p1 p2 pos : Pos} (ht : PT prog w h₀ n env V ρ t c) (h1 : one = .Constant (.str (Str.ofString "1")) k1 p1) (h0 : zero = .Constant (.str (Str.ofString "0")) k2 p2) : PE prog w h₀ n env V ρ (.IfExp t one zero pos) (.str (ans01 c)) := by
  subst h1 h0
  exact pe_ifexp ht (fun h => by rw [h]; exact pe_str) (fun h => by rw [h]; exact pe_str)

/-- z = [elt for x, y in iter], z a local name -/
theorem bo_pp {β : Type} (e' : β → D) {l : List (Nat × Nat)} {f : Nat × Nat → β} {elt iter : Expr} {x y z : Str} {p1 p2 px pz : Pos} {k : Nat} {scope : Scope} {pos spos : Pos} {rest : List Stmt} {A : Around} {s : Shared} {E : Value → Shared → Prop} {Q : Flow → Shared → Prop} (hA : AOk n A) (b : Bo h₀ B env V ρ O s)
    (hit : IT prog w h₀ n env V ρ iter (l.map pairD)) (co : CompOk scope env) (hx : scope.names.lookup x = some .local ∨ scope.names.lookup x = some .cell) (hy : scope.names.lookup y = some .local ∨ scope.names.lookup y = some .cell)
    (helt : ∀ C V' p, p ∈ l → PE prog w h₀ n (cEnv scope env C) V' ((y, dN p.2) :: (x, dN p.1) :: caps scope ρ) elt (e' (f p)))
    (hsz : l.length ≤ sizeLine) (hk : KOk env z)
    (q : ∀ s', Bo h₀ B env V ((z, .list ((l.map f).map e')) :: ρ) O s' → wpAny (model prog w) A (execs rest env) Q E s')
    (hsw : autoParam (swapsWith (.ListComp elt [⟨.Tuple [.Name x p1, .Name y p2] k px, iter, [], 0⟩] scope pos) (some (.Name z pz)) spos.line env = pure true) tacRfl) (hfs : autoParam (∀ x, foldedSetIterable iter env x = pure x) tacIntroRfl) :
    wpAny (model prog w) A (execs (.Assign [.Name z pz] (.ListComp elt [⟨.Tuple [.Name x p1, .Name y p2] k px, iter, [], 0⟩] scope pos) spos :: rest) env) Q E s := by
  have hxs : ∀ z ∈ [x, y], scope.names.lookup z = some .local ∨ scope.names.lookup z = some .cell := fun z hz => by
    simp only [List.mem_cons, List.not_mem_nil, or_false] at hz
    rcases hz with rfl | rfl
    · exact hx
    · exact hy
  have key := pairs_key (l := l) (t := fun _ => true) (f := f) e'
  rw [filter_all, filter_all] at key
  refine bo_comp hA b hit co (tgt_tuple (xs := [x, y]) (.cons (.cons .nil)) hxs) (fun d hd => ?_) (hdis_names hxs) (t := fun _ => true) (f := fun d => e' (f (unpair d))) (fun C V' d hd => ts_nil) (fun C V' d hd ht => ?_) (by rw [List.length_map]; exact hsz) hk (fun s' b' => q s' (by rw [filter_all, key] at b'; exact b')) hsw hfs
  · obtain ⟨p, _, rfl⟩ := List.mem_map.mp hd
    exact ⟨_, rfl, rfl⟩
  · obtain ⟨p, hp, rfl⟩ := List.mem_map.mp hd
    rw [unpair_pair]; exact helt C V' p hp

/-- x = [e, ..], held as its own, whatever the items -/
theorem bo_newq {x : Str} {px pos p : Pos} {elts : List Expr} {ds : List D} {rest : List Stmt} {A : Around} {s : Shared} {E : Value → Shared → Prop} {Q : Flow → Shared → Prop} (hA : AOk n A) (b : Bo h₀ B env V ρ O s)
    (he : PEs prog w h₀ n env V ρ p elts ds) (hsz : ds.length ≤ sizeLine) (hk : KOk env x)
    (q : ∀ a s', a ∉ V → Bo h₀ B env (a :: V) ((x, .obj a) :: ρ) ((a, ol ds) :: O) s' → wpAny (model prog w) A (execs rest env) Q E s')
    (hsw : autoParam (swapsWith (.List elts p) (some (.Name x px)) pos.line env = pure false) tacRfl) : wpAny (model prog w) A (execs (.Assign [.Name x px] (.List elts p) pos :: rest) env) Q E s := by
  refine ex_cons (wpAny_Assign_Name (wpAny_List (he A s E _ hA b.in0 b.fm fun vs s₁ e₁ r₁ => ⟨r₁.length ▸ hsz, ?_⟩)) hsw)
  have b₁ := b.pure e₁
  generalize hh : s₁.heap.push { cls := .type "list", data := .seq vs.toArray } = h'
  have hf := fresh_none s₁.heap
  have ha : h'.get? s₁.heap.objs.size = some { cls := .type "list", data := .seq vs.toArray } := by rw [← hh]; exact Heap.get?_push_size _ rfl
  have e2 : Stp [] s₁ { s₁ with heap := h' } := ⟨.heap (by rw [← hh]; exact fun _ _ e => Heap.get?_push_of_some _ e), Nat.le_refl _⟩
  have hav : s₁.heap.objs.size ∉ V := Old.fresh b₁.fm.old
  have b₂ := b₁.grow e2 hf ⟨_, ha⟩
  have n0 : ∀ p ∈ B, p.2.heap.get? s₁.heap.objs.size = none := fun p hp => by
    cases e : p.2.heap.get? s₁.heap.objs.size with
    | none => rfl
    | some o => rw [(b₁.keep p hp).ext _ o (fun hm => hav (b₁.wv p hp _ hm)) e] at hf; cases hf
  have b₃ : Bo h₀ B env (s₁.heap.objs.size :: V) ρ ((s₁.heap.objs.size, ol ds) :: O) { s₁ with heap := h' } := by
    refine ⟨b₂.fm, b₂.in0, b₂.keep, b₂.newO, fun p hp => ?_, fun p hp => ?_, ?_, b₂.wv⟩
    · rcases List.mem_cons.mp hp with rfl | hp
      · exact ⟨vs.toArray, ⟨_, ha⟩, (repL_cons hf r₁).stp0 e2.toStp0⟩
      · exact b₂.own p hp
    · rcases List.mem_cons.mp hp with rfl | hp
      · exact ⟨.head _, fun h => hav (b₁.ownV h), fun p hp => .inr (n0 p hp)⟩
      · exact b₂.onew p hp
    · refine List.nodup_cons.mpr ⟨fun hm => ?_, b₂.odis⟩
      obtain ⟨p, hp, e⟩ := List.mem_map.mp hm
      exact hav (show s₁.heap.objs.size ∈ V from (show p.1 = s₁.heap.objs.size from e) ▸ (b₁.onew p hp).1)
  exact store_go b₃.in0 b₃.fm (.obj _) hk fun s' e' k' i' f' => q _ s' hav (b₃.store e' k' i' f')
end
end Mine
end

section
open PySem PySem.Calls PySem.W PyProof.Rows
set_option Elab.async false
set_option maxRecDepth 100000
namespace Mine
/-! sizes -/
theorem J_sum (sep : List Nat) : ∀ ps : List (List Nat), (ps.map (·.length)).sum + (ps.length - 1) * sep.length = (J sep ps).length
  | [] => by simp [J]
  | [p] => by simp [J]
  | p :: q :: ps => by
    have ih := J_sum sep (q :: ps)
    rw [J_cons, List.length_append, List.length_append, ← ih, List.map_cons, List.sum_cons, List.length_cons, List.length_cons]
    have e : ps.length + 1 + 1 - 1 = ps.length + 1 := by omega
    have e2 : ps.length + 1 - 1 = ps.length := by omega
    rw [e, e2, Nat.succ_mul]; omega
theorem cr1_len : ∀ (k : Nat) (l : List Nat), l.length ≤ k → (cr1 l).length ≤ l.length
  | _, [], _ => Nat.le_refl _
  | 0, _ :: _, h => by simp at h
  | k + 1, d :: r, h => by
    have ih : ∀ z : List Nat, z.length ≤ r.length → (cr1 z).length ≤ z.length := fun z hz => cr1_len k z (by simp at h; omega)
    by_cases hc : d = 13 ∧ ∃ z, r = 10 :: z
    · obtain ⟨rfl, z, rfl⟩ := hc
      have := ih z (by simp)
      show (10 :: cr1 z).length ≤ _
      simp only [List.length_cons]; omega
    · have e : cr1 (d :: r) = d :: cr1 r := by
        rw [cr1]
        intro z e1 e2
        exact hc ⟨e1, z, e2⟩
      have := ih r (Nat.le_refl _)
      rw [e]; simp only [List.length_cons]; omega
/-- lines are few and short -/
structure LinesOk (L : List (List Nat)) (k : Nat) : Prop where
  sum : (L.map (·.length)).sum + L.length ≤ k + 1
  ne : L ≠ []
  plain : ∀ q ∈ L, Plain q
theorem lines_ok (l : List Nat) : LinesOk (linesL l) l.length := by
  refine ⟨?_, lines_ne l, lines_plain l⟩
  have h := J_sum [10] (linesL l)
  have e : J [10] (linesL l) = (cr1 l).map lf := splc_J 10 _
  rw [e, List.length_map] at h
  have h2 := cr1_len l.length l (Nat.le_refl _)
  have h3 : ([10] : List Nat).length = 1 := rfl
  rw [h3] at h
  omega
theorem LinesOk.len {L : List (List Nat)} {k : Nat} (x : LinesOk L k) {q : List Nat} (h : q ∈ L) : q.length ≤ k := by
  have h1 := x.sum
  have h2 := le_sum (List.mem_map_of_mem (f := fun q : List Nat => q.length) h)
  have h3 : 0 < L.length := List.length_pos_of_mem h
  omega
theorem ms_len (l : List Nat) : (ms' l).length = l.length := by rw [← sl_len, sl_ms]
theorem hand_len : ∀ v, v < 6 → (handS v).length ≤ 3 ∧ 1 ≤ (handS v).length := by decide
theorem dots_len (k : Nat) : (dotsS k).length = k := by unfold dotsS; rw [ms_len, List.length_replicate]
theorem row_len2 {t : Nat} {p : Nat × Nat} (h1 : p.1 < 6) (h2 : p.2 < 6) : (rowT t p).length ≤ t + 7 := by
  unfold rowT
  have a := (hand_len p.1 h1).1
  have b := (hand_len p.2 h2).1
  rw [Str.length_append, Str.length_append, Str.length_append, dots_len]
  show t + (handS p.2).length + 1 + (handS p.1).length ≤ _
  omega
theorem body_len (t : Nat) (x : Str) : (bodyS t x).length ≤ t + x.length := by
  unfold bodyS
  split
  · rw [Str.length_append, dots_len]; exact Nat.le_refl _
  · omega
theorem fresh_len (N : Net) (src : Nat) : ∀ t, (freshF N src t).length ≤ 6
  | 0 => by show 1 ≤ 6; decide
  | t + 1 => Nat.le_trans (List.length_filter_le _ _) (Nat.le_trans (List.length_filter_le _ _) (by rw [List.length_range]; exact Nat.le_refl _))
theorem walk_len (N : Net) (src : Nat) : ∀ t, (walkF N src t).length ≤ 6
  | 0 => by show 1 ≤ 6; decide
  | t + 1 => Nat.le_trans (List.length_filter_le _ _) (by rw [List.length_range]; exact Nat.le_refl _)
theorem walk_lt {N : Net} {src : Nat} (hs : src < 6) : ∀ t, ∀ v ∈ walkF N src t, v < 6
  | 0, v, h => by rw [List.mem_singleton.mp h]; exact hs
  | t + 1, v, h => List.mem_range.mp (List.mem_filter.mp h).1
theorem fresh_lt {N : Net} {src : Nat} (hs : src < 6) {t v : Nat} (h : v ∈ freshF N src t) : v < 6 := walk_lt hs t v (fresh_walk h)
theorem pairs_lt {N : Net} {src : Nat} (hs : src < 6) {t : Nat} : ∀ p ∈ pairsF N src t, p.1 < 6 ∧ p.2 < 6 := fun p hp => by
  have := mem_pairs.mp (show (p.1, p.2) ∈ pairsF N src t from hp)
  exact ⟨fresh_lt hs this.1, fresh_lt hs this.2.2⟩
theorem sum_le {α : Type} (f : α → Nat) (k : Nat) : ∀ l : List α, (∀ a ∈ l, f a ≤ k) → (l.map f).sum ≤ k * l.length
  | [], _ => Nat.zero_le _
  | a :: l, h => by
    have ih := sum_le f k l fun b hb => h b (.tail _ hb)
    have := h a (.head _)
    rw [List.map_cons, List.sum_cons, List.length_cons, Nat.mul_succ]; omega
theorem join_small {ts : List Str} {k : Nat} (h : (ts.map (·.length)).sum ≤ k) (hk : k ≤ 1000) : (Txt.join (Str.ofString "") ts).length ≤ 1000 := by
  have := StrLaws.join_length_le (Str.ofString "") ts
  have e0 : (Str.ofString "").length = 0 := by decide
  rw [e0, Nat.mul_zero] at this
  have e2 : Txt.join (Str.ofString "") ts = Builtin.Str.glued (Str.ofString "") ts := rfl
  rw [e2, StrLaws.glued_eq_join]; omega
theorem flat_len' {α β : Type} (f : α → List β) (k : Nat) : ∀ l : List α, (∀ a ∈ l, (f a).length ≤ k) → (l.flatMap f).length ≤ k * l.length
  | [], _ => Nat.zero_le _
  | a :: l, h => by
    have ih := flat_len' f k l fun b hb => h b (.tail _ hb)
    have := h a (.head _)
    rw [List.flatMap_cons, List.length_append, List.length_cons, Nat.mul_succ]; omega
theorem ans_len (b : Bool) : (ans01 b).length = 1 := by cases b <;> rfl
end Mine
end

section
open PySem PySem.Calls PySem.W PyProof.Rows
set_option Elab.async false
set_option maxRecDepth 100000
namespace Mine
open PySem.StrLaws
/-! the flood's round -/
theorem range_getD {α β : Type} (g : α → β) (d : α) (l : List α) : ((List.range l.length).map fun j => g (l.getD j d)) = l.map g := by
  apply List.ext_getElem?
  intro i
  by_cases hi : i < l.length
  · rw [List.getElem?_map, List.getElem?_range hi, List.getElem?_map, List.getElem?_eq_getElem hi]
    show some (g (l.getD i d)) = _
    rw [List.getD_eq_getElem?_getD, List.getElem?_eq_getElem hi]; rfl
  · rw [List.getElem?_eq_none (by rw [List.length_map, List.length_range]; omega), List.getElem?_eq_none (by rw [List.length_map]; omega)]
theorem range_filter {α β : Type} (t : α → Bool) (g : α → β) (d : α) (l : List α) : (((List.range l.length).filter fun j => t (l.getD j d)).map fun j => g (l.getD j d)) = (l.filter t).map g := by
  have h := range_getD (fun a => if t a then [g a] else []) d l
  have e : ∀ {γ : Type} (s : γ → Bool) (f : γ → β) (m : List γ), (m.filter s).map f = (m.map fun a => if s a then [f a] else []).flatten := fun {γ} s f m => by
    induction m with
    | nil => rfl
    | cons a m ih =>
      rw [List.filter_cons, List.map_cons, List.flatten_cons, ← ih]
      cases s a <;> rfl
  rw [e, e, ← h]
theorem tail_plain : ∀ u, u < 6 → ∀ v, v < 6 → (tailT (u, v)).all (fun c => decide (c ≠ 10 ∧ c ≠ 13)) = true := by decide +kernel
theorem row_plain {t : Nat} {p : Nat × Nat} (h1 : p.1 < 6) (h2 : p.2 < 6) : Plain (sl (rowT t p)) := by
  rw [sl_row]
  exact (plain_dots t).app fun c hc => of_decide_eq_true (List.all_eq_true.mp (tail_plain p.1 h1 p.2 h2) c hc)
theorem row_cons {t : Nat} (ht : 0 < t) (p : Nat × Nat) : ∃ z, sl (rowT t p) = 46 :: z := by
  obtain ⟨k, rfl⟩ : ∃ k, t = k + 1 := ⟨t - 1, by omega⟩
  rw [sl_row, List.replicate_succ]; exact ⟨_, rfl⟩
theorem st_row {t : Nat} (ht : 0 < t) (p : Nat × Nat) : st (sl (rowT t p)) = sl (rowT (t + 1) p) := by
  have h : (sl (rowT t p)).head? = some 46 := by obtain ⟨z, hz⟩ := row_cons ht p; rw [hz]; rfl
  unfold st
  rw [if_pos h, sl_row, sl_row, List.replicate_succ]; rfl
noncomputable def textF (text : Str) (L : List (List Nat)) : Nat → Str
  | 0 => text
  | k + 1 => ms' (J [13, 10] (stN (k + 1) L))
theorem J_head {L : List (List Nat)} (hp : ∀ q ∈ L, Plain q) : (J [13, 10] L).head? ≠ some 10 := by
  cases L with
  | nil => exact fun h => nomatch h
  | cons p ps =>
    cases p with
    | nil =>
      cases ps with
      | nil => exact fun h => nomatch h
      | cons q ps => rw [J_cons]; exact fun h => nomatch h
    | cons c p =>
      have hc := (hp _ (.head _) c (.head _)).1
      cases ps with
      | nil => exact fun h => hc (Option.some.inj h)
      | cons q ps => rw [J_cons]; exact fun h => hc (Option.some.inj h)
theorem text_facts {text : Str} (h46 : (sl text).head? = some 46) (k : Nat) : (sl (textF text (linesL (sl text)) k)).head? ≠ some 10 ∧ crlf (sl (textF text (linesL (sl text)) k)) = J [13, 10] (stN k (linesL (sl text))) := by
  have hpl := lines_plain (sl text)
  cases k with
  | zero => exact ⟨by show (sl text).head? ≠ _; rw [h46]; decide, (lines_crlf _ _ (Nat.le_refl _)).symm⟩
  | succ k =>
    have := stN_plain hpl (k + 1)
    exact ⟨J_head this, crlf_J this⟩
/-- the mail of round k -/
noncomputable def sentS (P : List (Nat × Nat)) (k : Nat) (L : List (List Nat)) : Str := ms' (J [13, 10] (P.map (fun p => sl (rowT (k + 2) p)) ++ stN (k + 1) L))
noncomputable def mailS (P : List (Nat × Nat)) (k shift : Nat) (text : Str) (L : List (List Nat)) : Str :=
  Txt.join (Str.ofString "") ((List.range P.length).map fun j => (P.map (rowT (k + 1))).getD j (Str.ofString "") ++ ((List.range P.length).map fun j => endS (j + k + shift)).getD j (Str.ofString "")) ++ textF text L k
theorem flood_sent {P : List (Nat × Nat)} (hP : ∀ p ∈ P, p.1 < 6 ∧ p.2 < 6) {text : Str} (h46 : (sl text).head? = some 46) (k shift : Nat) : quoteF (mailS P k shift text (linesL (sl text))) = sentS P k (linesL (sl text)) := by
  obtain ⟨ht, hc⟩ := text_facts h46 k
  have hpl := lines_plain (sl text)
  have hne := lines_ne (sl text)
  generalize linesL (sl text) = L at *
  have hrow : ∀ j, j < P.length → ∃ p ∈ P, (P.map (rowT (k + 1))).getD j (Str.ofString "") = rowT (k + 1) p := fun j hj => by
    refine ⟨P[j], List.getElem_mem hj, ?_⟩
    rw [List.getD_eq_getElem?_getD, List.getElem?_map, List.getElem?_eq_getElem hj]; rfl
  have hend : ∀ j, j < P.length → ((List.range P.length).map fun j => endS (j + k + shift)).getD j (Str.ofString "") = endS (j + k + shift) := fun j hj => by
    rw [List.getD_eq_getElem?_getD, List.getElem?_map, List.getElem?_range hj]; rfl
  have e1 : sl (mailS P k shift text L) = (((List.range P.length).map fun j => (sl ((P.map (rowT (k + 1))).getD j (Str.ofString "")), sl (((List.range P.length).map fun j => endS (j + k + shift)).getD j (Str.ofString "")))).map fun p => p.1 ++ p.2).flatten ++ sl (textF text L k) := by
    unfold mailS
    rw [sl_app, sl_join0, List.map_map, List.map_map]
    congr 2
    apply List.map_congr_left
    intro j _
    exact sl_app _ _
  have m := mail2 (rows := (List.range P.length).map fun j => (sl ((P.map (rowT (k + 1))).getD j (Str.ofString "")), sl (((List.range P.length).map fun j => endS (j + k + shift)).getD j (Str.ofString "")))) (text := sl (textF text L k)) (L := stN k L) (fun p hp => ?_) ht (stN_ne hne k) (stN_plain hpl k) hc
  · show ms' (stuff true (crlf (sl (mailS P k shift text L)))) = _
    rw [e1, m]
    unfold sentS
    congr 2
    rw [List.map_map]
    have := range_getD (fun x : Str => st (sl x)) (Str.ofString "") (P.map (rowT (k + 1)))
    rw [List.length_map, List.map_map] at this
    congr 1
    refine Eq.trans this ?_
    apply List.map_congr_left
    intro p _
    exact st_row (by omega) p
  · obtain ⟨j, hj, rfl⟩ := List.mem_map.mp hp
    have hj := List.mem_range.mp hj
    obtain ⟨p, hp, e⟩ := hrow j hj
    refine ⟨?_, ?_, ?_⟩
    · show Plain (sl _); rw [e]; exact row_plain (hP p hp).1 (hP p hp).2
    · show sl _ ≠ []
      rw [e]; obtain ⟨z, hz⟩ := row_cons (t := k + 1) (by omega) p; rw [hz]; exact List.cons_ne_nil _ _
    · show IsEnd (sl _); rw [hend j hj]; exact end_is _
theorem sent_lines {P : List (Nat × Nat)} (hP : ∀ p ∈ P, p.1 < 6 ∧ p.2 < 6) {L : List (List Nat)} (hn : L ≠ []) (hpl : ∀ q ∈ L, Plain q) (k : Nat) :
    Txt.split (sentS P k L) (Str.ofString "\r\n") = P.map (rowT (k + 2)) ++ (stN (k + 1) L).map ms' := by
  have e : (P.map (rowT (k + 2)) ++ (stN (k + 1) L).map ms') = (P.map (fun p => sl (rowT (k + 2) p)) ++ stN (k + 1) L).map ms' := by
    rw [List.map_append, List.map_map]; rfl
  rw [e]
  have hall : ∀ q ∈ P.map (fun p => sl (rowT (k + 2) p)) ++ stN (k + 1) L, 13 ∉ q := fun q hq hm => by
    rcases List.mem_append.mp hq with h | h
    · obtain ⟨p, hp, rfl⟩ := List.mem_map.mp h
      exact (row_plain (hP p hp).1 (hP p hp).2 13 hm).2 rfl
    · exact (stN_plain hpl (k + 1) q h 13 hm).2 rfl
  have hne : P.map (fun p => sl (rowT (k + 2) p)) ++ stN (k + 1) L ≠ [] := fun h => stN_ne hn (k + 1) (List.append_eq_nil_iff.mp h).2
  unfold sentS
  generalize P.map (fun p => sl (rowT (k + 2) p)) ++ stN (k + 1) L = ps at *
  cases ps with
  | nil => exact absurd rfl hne
  | cons p ps => exact split_J (st := [10]) rfl (by decide +kernel) rfl hall
theorem text_next {L : List (List Nat)} (hn : L ≠ []) (text : Str) (k : Nat) : Txt.join (Str.ofString "\r\n") ((stN (k + 1) L).map ms') = textF text L (k + 1) := by
  apply sl_inj
  rw [sl_join _ _ (fun e => stN_ne hn (k + 1) (List.map_eq_nil_iff.mp e)), List.map_map]
  show J _ (List.map (fun q => sl (ms' q)) _) = _
  rw [show (fun q => sl (ms' q)) = (fun q : List Nat => q) from rfl, List.map_id']; rfl

/-! sizes -/
theorem stN_sum (L : List (List Nat)) : ∀ k, ((stN k L).map (·.length)).sum ≤ (L.map (·.length)).sum + k * L.length ∧ (stN k L).length = L.length
  | 0 => ⟨by show (L.map (·.length)).sum ≤ _; omega, rfl⟩
  | k + 1 => by
    obtain ⟨h1, h2⟩ := stN_sum L k
    have key : ∀ M : List (List Nat), ((M.map st).map (·.length)).sum ≤ (M.map (·.length)).sum + M.length := fun M => by
      induction M with
      | nil => exact Nat.zero_le _
      | cons x M ih =>
        have hx : (st x).length ≤ x.length + 1 := by unfold st; split <;> simp
        simp only [List.map_cons, List.sum_cons, List.length_cons] at ih ⊢; omega
    have := key (stN k L)
    refine ⟨?_, by show ((stN k L).map st).length = _; rw [List.length_map, h2]⟩
    show (((stN k L).map st).map (·.length)).sum ≤ _
    rw [Nat.succ_mul]; omega
theorem J_small {L : List (List Nat)} {n : Nat} (x : LinesOk L n) (hn : n ≤ 100) {k : Nat} (hk : k ≤ 13) : (J [13, 10] (stN k L)).length ≤ 2000 ∧ (((stN k L).map ms').map (·.length)).sum ≤ 2000 ∧ (stN k L).length ≤ 101 := by
  have h := x.sum
  obtain ⟨h1, h2⟩ := stN_sum L k
  have h3 := J_sum [13, 10] (stN k L)
  have hl : L.length ≤ 101 := by omega
  have h4 : k * L.length ≤ 13 * 101 := Nat.mul_le_mul hk hl
  have h5 : ([13, 10] : List Nat).length = 2 := rfl
  rw [h5] at h3
  have e : ((stN k L).map ms').map (·.length) = (stN k L).map (·.length) := by
    rw [List.map_map]
    apply List.map_congr_left
    intro q _
    exact ms_len q
  rw [e]
  omega
theorem rows_sum {P : List (Nat × Nat)} (hP : ∀ p ∈ P, p.1 < 6 ∧ p.2 < 6) (t : Nat) : ((P.map (rowT t)).map (·.length)).sum ≤ (t + 7) * P.length := by
  rw [List.map_map]
  exact sum_le _ (t + 7) P fun p hp => row_len2 (hP p hp).1 (hP p hp).2
theorem text_len {text : Str} (ht : text.length ≤ 100) {k : Nat} (hk : k ≤ 13) : (textF text (linesL (sl text)) k).length ≤ 2000 := by
  cases k with
  | zero => show text.length ≤ _; omega
  | succ k =>
    have := lines_ok (sl text)
    rw [sl_len] at this
    show (ms' _).length ≤ _
    rw [ms_len]; exact (J_small this ht hk).1
theorem end_len2 (j : Nat) : (endS j).length ≤ 2 := by
  have : j % 3 = 0 ∨ j % 3 = 1 ∨ j % 3 = 2 := by omega
  unfold endS
  rcases this with h | h | h <;> rw [h] <;> decide
theorem sent_len {P : List (Nat × Nat)} (hP : ∀ p ∈ P, p.1 < 6 ∧ p.2 < 6) (hl : P.length ≤ 30) {L : List (List Nat)} {n : Nat} (x : LinesOk L n) (hn : n ≤ 100) {k : Nat} (hk : k ≤ 12) : (sentS P k L).length ≤ 5000 := by
  unfold sentS
  rw [ms_len]
  have h := J_sum [13, 10] (P.map (fun p => sl (rowT (k + 2) p)) ++ stN (k + 1) L)
  obtain ⟨_, h2, h3⟩ := J_small x hn (k := k + 1) (by omega)
  have h4 := rows_sum hP (k + 2)
  have h5 : (k + 2 + 7) * P.length ≤ 21 * 30 := Nat.mul_le_mul (by omega) hl
  have e1 : (P.map (fun p => sl (rowT (k + 2) p))).map (·.length) = (P.map (rowT (k + 2))).map (·.length) := by
    rw [List.map_map, List.map_map]
    apply List.map_congr_left
    intro p _
    exact sl_len _
  have e2 : ((stN (k + 1) L).map ms').map (·.length) = (stN (k + 1) L).map (·.length) := by
    rw [List.map_map]
    apply List.map_congr_left
    intro q _
    exact ms_len q
  rw [e2] at h2
  rw [List.map_append, List.sum_append, e1, List.length_append, List.length_map] at h
  have h6 : ([13, 10] : List Nat).length = 2 := rfl
  rw [h6] at h
  omega

/-! the boxes and the doors of a round -/
theorem pick_map' {α β : Type} (f : α → β) (l : List α) (lo hi st : Option Int) : pick (l.map f) lo hi st = (pick l lo hi st).map f := by
  unfold pick
  rw [List.length_map, List.map_filterMap]
  congr 1
  funext i
  rw [List.getElem?_map]
theorem heard_rows (P : List (Nat × Nat)) (t v : Nat) : (P.filter fun p => p.2 == v).map (rowT t) = (heardU P v).map fun u => rowT t (u, v) := by
  unfold heardU
  rw [List.map_map]
  apply List.map_congr_left
  intro p hp
  have : p.2 = v := by simpa using (List.mem_filter.mp hp).2
  show rowT t p = rowT t (p.1, v)
  rw [← this]
theorem folder_row {t u v : Nat} : Str.ofString "/" ++ Txt.replace (Txt.slice (rowT t (u, v)) (some (t : Int)) none) (Str.ofString ".") (Str.ofString "//") = folderT v u := by
  unfold folderT
  congr 2
  have hl : t ≤ (rowT t (u, v)).length := by rw [← sl_len, sl_row, List.length_append, List.length_replicate]; omega
  rw [slice_from _ _ hl]
  apply sl_inj
  rw [sl_ms, sl_row, List.drop_left' (by rw [List.length_replicate]), sl_app, sl_app]
  show sl (handS v) ++ 46 :: sl (handS u) = sl (handS v) ++ [46] ++ sl (handS u)
  simp
theorem folderT_path : ∀ v, v < 6 → ∀ u, u < 6 → PathOk (folderT v u) := by
  intro v hv u hu
  have a1 : ∀ v, v < 6 → ∀ u, u < 6 → (folderT v u).length ≤ 10000 ∧ (Txt.slice (folderT v u) none (some 1) != Str.ofString "/") = false ∧ (Txt.slice (folderT v u) (some 1) (some 2) != Str.ofString "/") = true ∧
      ((Txt.split (Txt.slice (folderT v u) (some 1) none) (Str.ofString "/")).all fun c => decide (c ≠ Str.ofString "." ∧ c ≠ Str.ofString "..")) = true ∧
      ((Txt.split (Txt.slice (folderT v u) (some 1) none) (Str.ofString "/")).map (·.length)).sum + (Txt.split (Txt.slice (folderT v u) (some 1) none) (Str.ofString "/")).length ≤ 100000 ∧
      (Builtin.Str.partsBetween (Txt.slice (folderT v u) (some 1) none) (Builtin.Str.occurrences (Txt.slice (folderT v u) (some 1) none) (Str.ofString "/") 0 (Txt.slice (folderT v u) (some 1) none).length ((Txt.slice (folderT v u) (some 1) none).length + 1)) (Str.ofString "/").length).length ≤ sizeLine := by decide +kernel
  obtain ⟨b1, b2, b3, b4, b5, b6⟩ := a1 v hv u hu
  exact ⟨b1, b2, b3, fun c hc => of_decide_eq_true (List.all_eq_true.mp b4 c hc), b5, b6⟩
theorem folderT_len : ∀ v, v < 6 → ∀ u, u < 6 → (normP (folderT v u)).length + 1 ≤ 100 := by decide +kernel
theorem heard_lt {P : List (Nat × Nat)} (hP : ∀ p ∈ P, p.1 < 6 ∧ p.2 < 6) {v u : Nat} (h : u ∈ heardU P v) : u < 6 := (hP _ (mem_heard.mp h)).1
theorem heard_len (P : List (Nat × Nat)) (v : Nat) : (heardU P v).length ≤ P.length := by unfold heardU; rw [List.length_map]; exact List.length_filter_le _ _
theorem others_eq (N : Net) (P : List (Nat × Nat)) (t v : Nat) : ((nb N v).filter fun _ => !((heardU P v).map fun u => D.str (rowT t (u, v))).isEmpty) = othersF N P v := by
  unfold othersF heardU
  have e : (!(((P.filter fun p => p.2 == v).map (·.1)).map fun u => D.str (rowT t (u, v))).isEmpty) = P.any fun p => p.2 == v := by
    apply Bool.eq_iff_iff.mpr
    rw [List.any_eq_true]
    rw [List.isEmpty_map, List.isEmpty_map]
    exact filter_isEmpty
  rw [e]
  cases P.any fun p => p.2 == v
  · rw [if_neg (by decide)]; exact List.filter_eq_nil_iff.mpr fun _ _ => by simp
  · rw [if_pos rfl, filter_all]
/-- what hand v writes -/
noncomputable def outF (N : Net) (P : List (Nat × Nat)) (v : Nat) : List (Nat × Nat) := ((othersF N P v).filter fun w => !P.contains (w, v)).map fun w => (v, w)
theorem next_out (N : Net) (P : List (Nat × Nat)) : nextF N P = (List.range 6).flatMap (outF N P) := by
  unfold nextF outF othersF
  congr 1
  funext v
  split <;> rfl
theorem PF_lt {N : Net} (ok : NetOk N) {src : Nat} (hs : src < 6) (k : Nat) : ∀ p ∈ PF N src k, p.1 < 6 ∧ p.2 < 6 := by rw [PF_pairs ok]; exact pairs_lt hs
theorem PF_len {N : Net} (ok : NetOk N) (src k : Nat) : (PF N src k).length ≤ 30 := by
  rw [PF_pairs ok]
  refine Nat.le_trans (flat_len' _ 5 _ fun v _ => ?_) (Nat.mul_le_mul_left 5 (fresh_len N src k))
  rw [List.length_map]; exact Nat.le_trans (List.length_filter_le _ _) (ok.short v)
end Mine
end

section
open PySem PySem.Calls PySem.W PyProof.Rows
set_option Elab.async false
set_option maxRecDepth 100000
namespace Mine
section
variable {prog : Program} {w : World} {h₀ : Heap} {n : Nat} {env : Env} {V : List Addr} {ρ : List (Str × D)} {B : List (List Addr × Shared)} {O O' O2 : List (Addr × Ow)}

theorem szN {a b : Nat} (h : a ≤ b) (hb : autoParam (Nat.ble b 16777216 = true) tacRfl) : a ≤ sizeLine := Nat.le_trans h (Nat.le_of_ble_eq_true hb)
theorem sz_map {α β : Type} {f : α → β} {l : List α} (h : l.length ≤ sizeLine) : (l.map f).length ≤ sizeLine := by rw [List.length_map]; exact h
theorem sz_range {m : Nat} (h : m ≤ sizeLine) : (List.range m).length ≤ sizeLine := by rw [List.length_range]; exact h
theorem sz_filter {α : Type} {t : α → Bool} {l : List α} (h : l.length ≤ sizeLine) : (l.filter t).length ≤ sizeLine := Nat.le_trans (List.length_filter_le _ _) h
theorem int62 {m : Nat} (h : m ≤ sizeLine) : (m : Int) < 2 ^ 62 ∧ -(2 ^ 62) ≤ (m : Int) := by
  have : sizeLine = 16777216 := rfl
  omega
/-- a letter's row, put together -/
theorem pe_row {t : Nat} {p : Nat × Nat} {de ae be : Expr} {k : Nat} {p1 p2 p3 p4 : Pos} (ht : t ≤ 1000) (h1 : p.1 < 6) (h2 : p.2 < 6) (hd : PE prog w h₀ n env V ρ de (.str (dotsS t))) (ha : PE prog w h₀ n env V ρ ae (.str (handS p.2))) (hb : PE prog w h₀ n env V ρ be (.str (handS p.1))) :
    PE prog w h₀ n env V ρ (.BinOp (.BinOp (.BinOp de .Add ae p1) .Add (.Constant (.str (Str.ofString ".")) k p2) p3) .Add be p4) (.str (rowT t p)) := by
  have a1 := (hand_len p.1 h1).1
  have a2 := (hand_len p.2 h2).1
  have a3 := dots_len t
  have e1 : (dotsS t).length + (handS p.2).length ≤ 1003 := by omega
  have e2 : (dotsS t ++ handS p.2).length + 1 ≤ 1004 := by rw [Str.length_append]; omega
  have e3 : (dotsS t ++ handS p.2 ++ Str.ofString ".").length + (handS p.1).length ≤ 1007 := by
    rw [Str.length_append, Str.length_append]; show _ + _ + 1 + _ ≤ _; omega
  exact pe_bin (pe_bin (pe_bin hd ha (b2_cat (szN e1 rfl))) pe_str (b2_cat (szN e2 rfl))) hb (b2_cat (szN e3 rfl))
/-- a door's file, put together -/
theorem pe_file {v u : Nat} {ae be : Expr} {k1 k2 k3 : Nat} {p1 p2 p3 p4 p5 p6 p7 : Pos} (hv : v < 6) (hu : u < 6) (ha : PE prog w h₀ n env V ρ ae (.str (handS v))) (hb : PE prog w h₀ n env V ρ be (.str (handS u))) :
    PE prog w h₀ n env V ρ (.BinOp (.BinOp (.BinOp (.BinOp (.Constant (.str (Str.ofString "/")) k1 p1) .Add ae p2) .Add (.Constant (.str (Str.ofString "/")) k2 p3) p4) .Add be p5) .Add (.Constant (.str (Str.ofString "/f")) k3 p6) p7) (.str (fileT v u)) := by
  have a1 := (hand_len v hv).1
  have a2 := (hand_len u hu).1
  have e1 : 1 + (handS v).length ≤ 4 := by omega
  have e2 : (Str.ofString "/" ++ handS v).length + 1 ≤ 5 := by rw [Str.length_append]; show 1 + _ + 1 ≤ _; omega
  have e3 : (Str.ofString "/" ++ handS v ++ Str.ofString "/").length + (handS u).length ≤ 8 := by
    rw [Str.length_append, Str.length_append]; show 1 + _ + 1 + _ ≤ _; omega
  have e4 : (Str.ofString "/" ++ handS v ++ Str.ofString "/" ++ handS u).length + 2 ≤ 10 := by
    rw [Str.length_append, Str.length_append, Str.length_append]; show 1 + _ + 1 + _ + 2 ≤ _; omega
  exact pe_bin (pe_bin (pe_bin (pe_bin pe_str ha (b2_cat (szN e1 rfl))) pe_str (b2_cat (szN e2 rfl))) hb (b2_cat (szN e3 rfl))) pe_str (b2_cat (szN e4 rfl))

/-- what is owned beside stays: one thing is written -/
theorem pr_frame1 {e : Expr} {d : D} {p p' : Addr × Ow} (h : PR prog w h₀ n env V ρ (OwnP V [p]) (OwnP V [p']) [p.1] e d) (hd : ∀ q ∈ O2, q.1 ≠ p.1) :
    PR prog w h₀ n env V ρ (OwnP V (p :: O2)) (OwnP V (p' :: O2)) ((p :: O2).map (·.1)) e d := by
  intro A s E Q hA hB F pp q
  have p1 : OwnP V [p] s.heap := fun x hx => by rw [List.mem_singleton.mp hx]; exact pp p (.head _)
  have p2 : OwnP V O2 s.heap := fun x hx => pp x (.tail _ hx)
  refine h A s E Q hA hB F p1 fun v s' e' r o p' => q v s' (e'.mono fun a ha => by rw [List.mem_singleton.mp ha]; exact .head _) r o ?_
  have p2' := p2.ext e'.ext (fun a ha => by rw [List.mem_singleton.mp ha]; exact (p1 p (.head _)).1) (fun x hx hm => hd x hx (List.mem_singleton.mp hm))
  exact fun x hx => (List.mem_cons.mp hx).elim (fun e => p' x (by rw [e]; exact .head _)) (p2' x)

/-- a test that reads an owned list -/
theorem bo_testT {a : Addr} {x : Str} {l : List D} {e : Expr} {c : Bool} {A : Around} {s : Shared} {E : Value → Shared → Prop} {Q : Bool → Shared → Prop} (hA : AOk n A) (b : Bo h₀ B env V ρ O s) (hm : (a, ol l) ∈ O) (hx : ρ.lookup x = some (.obj a))
    (h : ∀ V', PT prog w h₀ n env V' ((x, .list l) :: ρ) e c) (q : ∀ s', Bo h₀ B env V ρ O s' → Q c s') : wpAny (model prog w) A (isTrue e env (eval e env)) Q E s := by
  have hno := (b.onew _ hm).2.1
  have hV : ∀ b, b ∈ V.filter (fun b => decide (b ≠ a)) ↔ b ∈ V ∧ b ≠ a := fun b => by simp
  have ow : ∀ c, Own env c → c ∈ V.filter (fun b => decide (b ≠ a)) := fun c hc => (hV c).mpr ⟨b.ownV hc, fun e => hno (e ▸ hc)⟩
  have F' := b.fm.thaw (V' := V.filter (fun b => decide (b ≠ a))) hx (b.own _ hm) (fun b hb => ((hV b).mp hb).1) (fun hb => ((hV a).mp hb).2 rfl) (ow _ (.inl rfl)) fun y c hc => ow c (.inr ⟨y, hc⟩)
  exact h _ A s E Q hA ⟨b.in0.ext, b.in0.toks, fun c hc => b.in0.new c ((hV c).mp hc).1⟩ F' fun s' e' => q s' (b.pure e')

/-- the last of an and -/
theorem pts_lastA {e : Expr} {c : Bool} (h : PT prog w h₀ n env V ρ e c) : PTs prog w h₀ n env V ρ .And [e] c := by
  have := pts_and h (es := []) (d := true) fun _ => pts_and_nil
  rwa [Bool.and_true] at this

/-- a reader is let go -/
theorem Bo.dropR {s : Shared} {g : Addr} {o : Ow} (b : Bo h₀ B env (g :: V) ρ ((g, o) :: O) s) (hw : ∀ p ∈ B, ∀ a ∈ p.1, a ∈ V) (ho : ∀ a, Own env a → a ∈ V) (hO : ∀ p ∈ O, p.1 ∈ V) : Bo h₀ B env V ρ O s :=
  (b.fewer (List.sublist_cons_self _ _)).drop hw ho hO
end
theorem not_mem_fst {g : Addr} {O : List (Addr × Ow)} (h : g ∉ O.map (·.1)) : ∀ q ∈ O, q.1 ≠ g := fun q hq e => by
  subst e; exact h (List.mem_map_of_mem hq)
theorem bits_sign {α : Type} (g : α → Bool) (d : α) (l : List α) (m : List Nat) {j : Nat} (hj : j < l.length) : (⟨#[(ms' ((l.map fun a => bit01 (g a)) ++ m)).cps.getD j 0]⟩ : Str) = ans01 (g (l.getD j d)) := by
  have e : (ms' ((l.map fun a => bit01 (g a)) ++ m)).cps.getD j 0 = bit01 (g (l.getD j d)) := by
    show (((l.map fun a => bit01 (g a)) ++ m).toArray).getD j 0 = _
    rw [List.getD_eq_getElem?_getD, List.getElem?_eq_getElem hj]
    have h2 : j < ((l.map fun a => bit01 (g a)) ++ m).length := by rw [List.length_append, List.length_map]; omega
    unfold Array.getD
    rw [dif_pos (by simpa using h2)]
    show ((l.map fun a => bit01 (g a)) ++ m)[j] = _
    rw [List.getElem_append_left (by rw [List.length_map]; exact hj), List.getElem_map]
    rfl
  rw [e]
  cases g (l.getD j d) <;> rfl
theorem ans_one (b : Bool) : (ans01 b == Str.ofString "1") = b := by cases b <;> decide
theorem ans_zero (b : Bool) : (ans01 b == Str.ofString "0") = !b := by cases b <;> decide
theorem getD_map {α β : Type} (f : α → β) (d : α) (e : β) {l : List α} {j : Nat} (hj : j < l.length) : (l.map f).getD j e = f (l.getD j d) := by
  rw [List.getD_eq_getElem?_getD, List.getElem?_map, List.getD_eq_getElem?_getD, List.getElem?_eq_getElem hj]; rfl
theorem pick_len2 {α : Type} {l : List α} {lo hi st : Option Int} (h : l.length ≤ 40) (hs : (lo = none ∨ lo = some 1) ∧ hi = none ∧ st = some 2) : (pick l lo hi st).length ≤ 40 := by
  have key : ∀ n, n ≤ 40 → (sliceRange (sliceBounds none none (some 2) n).1 (sliceBounds none none (some 2) n).2.1 (sliceBounds none none (some 2) n).2.2).length ≤ 40 ∧ (sliceRange (sliceBounds (some 1) none (some 2) n).1 (sliceBounds (some 1) none (some 2) n).2.1 (sliceBounds (some 1) none (some 2) n).2.2).length ≤ 40 := by decide +kernel
  obtain ⟨h1, rfl, rfl⟩ := hs
  unfold pick
  refine Nat.le_trans (List.length_filterMap_le _ _) ?_
  rcases h1 with rfl | rfl
  · exact (key _ h).1
  · exact (key _ h).2
end Mine
end

section
open PySem PySem.Calls PySem.W PyProof.Rows
set_option Elab.async false
set_option maxRecDepth 100000
namespace Mine
section
variable {K : Frag} {h : Heap} {mg mb : Str → Option Value}
/-- a def of the base -/
theorem fn_at {f : Addr} {oc : Value} {od : Option Addr} {osl : Array (Option Value)} {fd : FuncData} {body : List Stmt} (X : K.In h) (ho : K.lookup f = some ⟨oc, od, .func fd, osl⟩) (hc : codeIn K fd.code fd.qualname = true) (hb : fd.body = .stmts body)
    (h1 : fd.closure = []) (h2 : fd.globals = mainGlobals) (h3 : fd.builtins = builtinsNs) (h4 : fd.scope.isCoroutine = false) (h5 : fd.scope.isGenerator = false) (h6 : fd.scope.kind = .function) : Kp h (.ref f) ∧ Fn h f fd body :=
  ⟨kp_func (X _ _ ho) rfl, ⟨_, X _ _ ho, rfl⟩, hb, codeRec_of X hc, h1, h2, h3, h4, h5, h6⟩
theorem fn_glob {x : Str} {f : Addr} {oc : Value} {od : Option Addr} {osl : Array (Option Value)} {fd : FuncData} {body : List Stmt} (X : K.In h) (B : Bs h mg mb) (e : nsIn K mainGlobals x = some (some (.ref f))) (ho : K.lookup f = some ⟨oc, od, .func fd, osl⟩) (hc : codeIn K fd.code fd.qualname = true) (hb : fd.body = .stmts body)
    (h1 : fd.closure = []) (h2 : fd.globals = mainGlobals) (h3 : fd.builtins = builtinsNs) (h4 : fd.scope.isCoroutine = false) (h5 : fd.scope.isGenerator = false) (h6 : fd.scope.kind = .function) : GV h x (.ref f) ∧ Kp h (.ref f) ∧ Fn h f fd body :=
  ⟨gv_global B (mg_of X B.g e), fn_at X ho hc hb h1 h2 h3 h4 h5 h6⟩
/-- the class of the base, with its two defs -/
theorem cls_all {x : Str} {C fI fN : Addr} {cd : ClassData} {ocI ocN : Value} {odI odN : Option Addr} {oslI oslN : Array (Option Value)} {fdI fdN : FuncData} {bodyI bodyN : List Stmt} (X : K.In h) (B : Bs h mg mb) (e : nsIn K mainGlobals x = some (some (.ref C)))
    (makes : makesIn K C = true) (init : findIn K (.ref C) "__init__" = some (some (.ref fI))) (initf : typeIn K (.ref fI) = some (.type "function")) (ga : findIn K (.ref C) "__getattribute__" = some (some (.builtin "object.__getattribute__"))) (gattr : findIn K (.ref C) "__getattr__" = some none)
    (sa : findIn K (.ref C) "__setattr__" = some (some (.builtin "object.__setattr__"))) (over : plainOver K C = true) (meth : findIn K (.ref C) "names" = some (some (.ref fN))) (methf : typeIn K (.ref fN) = some (.type "function"))
    (t1 : takerIn K C "_mods" = some none) (f1 : findIn K (.ref C) "_mods" = some none) (t2 : takerIn K C "_dirs" = some none) (f2 : findIn K (.ref C) "_dirs" = some none) (t3 : takerIn K C "_ignore" = some none) (f3 : findIn K (.ref C) "_ignore" = some none)
    (hcd : clsIn K C = some cd) (hdict : cd.hasDict = true)
    (hoI : K.lookup fI = some ⟨ocI, odI, .func fdI, oslI⟩) (hcI : codeIn K fdI.code fdI.qualname = true) (hbI : fdI.body = .stmts bodyI) (h1I : fdI.closure = []) (h2I : fdI.globals = mainGlobals) (h3I : fdI.builtins = builtinsNs) (h4I : fdI.scope.isCoroutine = false) (h5I : fdI.scope.isGenerator = false) (h6I : fdI.scope.kind = .function)
    (hoN : K.lookup fN = some ⟨ocN, odN, .func fdN, oslN⟩) (hcN : codeIn K fdN.code fdN.qualname = true) (hbN : fdN.body = .stmts bodyN) (h1N : fdN.closure = []) (h2N : fdN.globals = mainGlobals) (h3N : fdN.builtins = builtinsNs) (h4N : fdN.scope.isCoroutine = false) (h5N : fdN.scope.isGenerator = false) (h6N : fdN.scope.kind = .function) :
    GV h x (.ref C) ∧ ClsOk K C fI fN ∧ Fn h fI fdI bodyI ∧ Kp h (.ref fN) ∧ Fn h fN fdN bodyN := by
  refine ⟨gv_global B (mg_of X B.g e), ⟨makes, init, initf, ga, gattr, sa, over, meth, methf, fun y hy => ?_, ?_⟩, (fn_at X hoI hcI hbI h1I h2I h3I h4I h5I h6I).2, fn_at X hoN hcN hbN h1N h2N h3N h4N h5N h6N⟩
  · simp only [fldNames, List.mem_cons, List.not_mem_nil, or_false] at hy
    rcases hy with rfl | rfl | rfl
    · exact ⟨t1, f1⟩
    · exact ⟨t2, f2⟩
    · exact ⟨t3, f3⟩
  · rw [hcd]; exact hdict
end
section
variable {prog : Program} {w : World} {h₀ : Heap} {V : List Addr}
theorem CL.mono {n m : Nat} {f : Value} {ds : List D} {d : D} (h : CL prog w h₀ n V f ds d) (hm : n ≤ m) : CL prog w h₀ m V f ds d := fun A s E Q vs hA => h A s E Q vs (hA.mono hm)
theorem MK.mono {n m : Nat} {C : Addr} (h : MK prog w h₀ C n) (hm : n ≤ m) : MK prog w h₀ C m := fun V M P A s E Q vs hA => h V M P A s E Q vs (hA.mono hm)
theorem CLW.mono {n m : Nat} {O O' : List (Addr × Ow)} {f : Value} {ds : List D} {d : D} (h : CLW prog w h₀ n V O O' f ds d) (hm : n ≤ m) : CLW prog w h₀ m V O O' f ds d := fun A s E Q vs hA => h A s E Q vs (hA.mono hm)
end
end Mine
end

section
open PySem PySem.Calls PySem.W PyProof.Rows
set_option Elab.async false
set_option maxRecDepth 100000
namespace Mine
section
variable {prog : Program} {w : World} {h₀ : Heap} {n : Nat} {env : Env} {V W : List Addr} {ρ : List (Str × D)} {s0 : Shared} {KK : Frag} {C fI fN : Addr}

theorem cl_names {f : Addr} {name qual bind : Str} {params : Arguments} {body : List Stmt} {scope : Scope} {kV doc pm cdv ct : Value} {an : Option Addr} {deco : List Expr} {tp : List TypeParam} {ts : Option Scope} {ret : Option Expr} {pos : Pos}
    (hdef : (classBody PySem.Challenge.pw_pu0003_02.main.body[10]?)[1]? = some (.FunctionDef name params body deco ret tp scope ts bind pos))
    (K : Fn h₀ f (fnOf name qual params body scope (.none) kV doc pm an cdv ct) body) (hlim : h₀.NoLimit) (X : KK.In h₀) (ok : ClsOk KK C fI fN) {tS : Tok} (gS : GV h₀ "sep" (.str (Str.ofString "/") tS)) : NC prog w h₀ C (n + 1) f := by
  injection hdef with hdef
  injection hdef with h1 h2 h3 h4 h5 h6 h7 h8 h9
  subst h1 h2 h3 h4 h5 h6 h7 h8 h9
  intro r M dirs μ k file m A s E Q vf vm hA hB R hsz rf rm q
  have hline : sizeLine = 16777216 := rfl
  have hgl := R.live r.g (.head _)
  have hold : Old [r.g] s.heap := fun a ha => by rw [List.mem_singleton.mp ha]; exact hgl
  refine wpAny_call (fn_code (n := n) (V := [r.g]) (params := ["self", "filename", "modulename"]) (ds := [.obj r.x, fileD file, .str m]) K hlim hA hB hold (fun E' Q' q' => ?_) (by decide) (by intro x hx; simp only [List.mem_cons, List.not_mem_nil, or_false] at hx; rcases hx with rfl | rfl | rfl <;> exact .inl rfl) fun L s₁ U E' hUn hU b => ?_)
  · have r2 : Rep [r.g] s.heap vf (fileD file) := rf.flat (by cases file <;> trivial)
    have r3 : Rep [r.g] s.heap vm (.str m) := rm.flat trivial
    exact wpAny_of_eq (a := ([("self", .ref r.x), ("filename", vf), ("modulename", vm)] : List (Str × Value))) rfl (q' _ s (.refl _) rfl (.cons (.obj _) (.cons r2 (.cons r3 .nil))))
  have b := b.boW hUn [(r.g, orr prog w C r M dirs μ k)] (fun p hp => by rw [List.mem_singleton.mp hp]; exact ⟨rfl, fun b hb hm => R.ne (by rw [← List.mem_singleton.mp hm]; exact hb), R⟩) (fun p hp => by rw [List.mem_singleton.mp hp]; exact .head _) hold (by simp)
  have hA := fun env : Env => hA.deeper (env := env)
  have fin : ∀ {i : Int} {t : Tok} {s' : Shared}, askF M dirs μ file m = i → Stp0 [r.g] s s' → Rdr prog w C s'.heap r M dirs (upd μ m i) (k + 1) → Q (.int i t) s' := fun h e x => by subst h; exact q _ _ e x
  -- told before
  refine bo_ift (c := (μ m).isSome) b (fun E' Q' q' => tst_memo X ok (hA _) b.in0 b.fm (b.own _ (.head _)).2.2 rfl rfl q') (fun hc s₂ b => ?_) fun hc s₂ b => ?_
  · obtain ⟨i, hi⟩ := Option.isSome_iff_exists.mp hc
    have R2 := (b.own _ (.head _)).2.2
    refine bo_recall X ok (hA _) b.in0 b.fm R2 rfl rfl hi fun t s' e' => ?_
    have hB2 := b.keep _ (.head _)
    refine fin (by unfold askF; rw [hi]; rfl) (hB2.after e') ?_
    rw [upd_same hi]
    exact (R2.ext fun a _ o ho => e'.keep a o ho).more (Nat.le_succ _)
  have hμ : μ m = none := by simpa using hc
  have ask : askF M dirs μ file m = askNew M dirs file m := by unfold askF; rw [hμ]; rfl
  refine ex_nil ?_
  -- one of the modules
  refine bo_ift (c := M.contains m) b (fun E' Q' q' => tst_mods X ok (hA _) b.in0 b.fm (b.own _ (.head _)).2.2 rfl rfl q') (fun hc s₃ b => ?_) fun hc s₃ b => ?_
  · refine bo_mark X ok (hA _) b.in0 b.fm (b.own _ (.head _)).2.2 rfl rfl hsz.k fun t s' e' R' => ?_
    have e0 := b.keep _ (.head _)
    exact fin (by rw [ask]; unfold askNew hitM; rw [hc]; rfl) ⟨e'.gens.trans e0.gens, e'.os.trans e0.os, fun a o ha x => e'.ext a o ha (e0.ext a o ha x)⟩ R'
  refine ex_nil ?_
  -- below one of the modules
  have b := b.retell (O1 := []) (O2 := []) (o' := (orr prog w C r M dirs μ k).also (∀ y, D.str y ∈ ([] : List D) → Txt.startswith m (y ++ Str.ofString ".") = false)) (fun h => ⟨h, fun _ h => nomatch h⟩)
  refine bo_forx (hA _) b (P := fun s => Rdr prog w C s.heap r M dirs μ k) (b.own _ (.head _)).1.2.2 (itx_mods X ok rfl (b.own _ (.head _)).1.2.1) (ta_name (.inl rfl)) (fun _ _ _ _ => trivial) (fun a ha => wAddr_own ha)
    (fun _ => [("self", .obj r.x), ("filename", fileD file), ("modulename", .str m)]) (fun pre => [(r.g, (orr prog w C r M dirs μ k).also (∀ y, D.str y ∈ pre → Txt.startswith m (y ++ Str.ofString ".") = false))])
    (fun x d h => h) rfl (fun pre p hp => ?_) (fun ds hds I pre d post s₄ E' hspl hI b => ?_) fun ds hds s₄ b => ?_
  · rw [List.mem_singleton.mp hp]; exact List.mem_append_right _ (.head _)
  · obtain ⟨l, rfl, hl, hlen⟩ := hds
    obtain ⟨y, hy, rfl⟩ : ∃ y ∈ l, d = .str y := by
      have : d ∈ dStrs l := by rw [hspl]; simp
      obtain ⟨y, h1, h2⟩ := List.mem_map.mp this
      exact ⟨y, h1, h2.symm⟩
    have hyM : y ∈ M := by have := (hl y).mpr hy; simpa using this
    have hys := hsz.mods y hyM
    refine bo_if (hA _) b b.in0 b.fm (pt_val (pe_meth (pe_name rfl) (mt_str F.slot_str_startswith F.type_str_startswith) (pes_cons (pe_bin (pe_name rfl) pe_str (b2_cat (by show y.length + 1 ≤ _; exact hys))) pes_nil) mc_startswith) tr_bool) (fun hc2 s₅ b => ?_) fun hc2 s₅ b => ?_
    · refine bo_mark X ok (hA _) b.in0 b.fm (b.own _ (.head _)).1.2.2 rfl rfl hsz.k fun t s' e' R' => ?_
      have e0 := b.keep ([r.g], s) (.tail _ (.head _))
      refine fin ?_ (e0.then e') R'
      rw [ask]; unfold askNew hitM
      rw [if_pos]
      rw [Bool.or_eq_true]
      exact .inr (List.any_eq_true.mpr ⟨y, hyM, hc2⟩)
    · refine ex_nil (ex_nil ?_)
      have b := b.retell (O1 := []) (O2 := []) (o' := (orr prog w C r M dirs μ k).also (∀ z, D.str z ∈ pre ++ [D.str y] → Txt.startswith m (z ++ Str.ofString ".") = false)) (fun h => ⟨h.1, fun z hz => ?_⟩)
      · refine b.names fun x d h => ?_
        exact lookup_cons_other (by intro e; subst e; exact absurd (show none = some d from h) nofun) h
      · rcases List.mem_append.mp hz with hz | hz
        · exact h.2 z hz
        · have := List.mem_singleton.mp hz; cases this; exact hc2
  obtain ⟨l, rfl, hl, hlen⟩ := hds
  have noM : hitM M m = false := by
    unfold hitM
    rw [Bool.or_eq_false_iff]
    refine ⟨hc, ?_⟩
    rw [List.any_eq_false]
    intro y hy
    have h1 : y ∈ l := (hl y).mp (by simpa using hy)
    have := (b.own _ (.head _)).2 y (List.mem_map_of_mem (f := D.str) h1)
    simp [this]
  have b := b.retell (O1 := []) (O2 := []) (o' := orr prog w C r M dirs μ k) (fun h => h.1)
  cases file with
  | none =>
    refine bo_if (hA _) b b.in0 b.fm (pt_cmp (pe_name rfl) pe_none c2_is_none) (fun hc2 s₅ b => ?_) fun hc2 => absurd hc2 nofun
    refine bo_mark X ok (hA _) b.in0 b.fm (b.own _ (.head _)).2.2 rfl rfl hsz.k fun t s' e' R' => ?_
    exact fin (by rw [ask]; unfold askNew; rw [noM]; rfl) ((b.keep _ (.head _)).then e') R'
  | some x =>
    refine bo_if (hA _) b b.in0 b.fm (pt_cmp (pe_name rfl) pe_none c2_is_none) (fun hc2 => absurd hc2 nofun) fun hc2 s₅ b => ?_
    refine ex_nil ?_
    have b := b.retell (O1 := []) (O2 := []) (o' := (orr prog w C r M dirs μ k).also (∀ y, D.str y ∈ ([] : List D) → Txt.startswith x (y ++ Str.ofString "/") = false)) (fun h => ⟨h, fun _ h => nomatch h⟩)
    refine bo_forx (hA _) b (P := fun s => Rdr prog w C s.heap r M dirs μ k) (b.own _ (.head _)).1.2.2 (itx_dirs X ok rfl (b.own _ (.head _)).1.2.1) (ta_name (.inl rfl)) (fun _ _ _ _ => trivial) (fun a ha => wAddr_own ha)
      (fun _ => [("self", .obj r.x), ("filename", .str x), ("modulename", .str m)]) (fun pre => [(r.g, (orr prog w C r M dirs μ k).also (∀ y, D.str y ∈ pre → Txt.startswith x (y ++ Str.ofString "/") = false))])
      (fun x d h => h) rfl (fun pre p hp => ?_) (fun ds hds I pre d post s₄ E' hspl hI b => ?_) fun ds hds s₄ b => ?_
    · rw [List.mem_singleton.mp hp]; exact List.mem_append_right _ (.head _)
    · subst hds
      obtain ⟨y, hy, rfl⟩ : ∃ y ∈ dirs, d = .str y := by
        have : d ∈ dStrs dirs := by rw [hspl]; simp
        obtain ⟨y, h1, h2⟩ := List.mem_map.mp this
        exact ⟨y, h1, h2.symm⟩
      have hys := hsz.dirs y hy
      refine bo_if (hA _) b b.in0 b.fm (pt_val (pe_meth (pe_name rfl) (mt_str F.slot_str_startswith F.type_str_startswith) (pes_cons (pe_bin (pe_name rfl) (pe_gstr gS) (b2_cat (by show y.length + 1 ≤ _; exact hys))) pes_nil) mc_startswith) tr_bool) (fun hc2 s₅ b => ?_) fun hc2 s₅ b => ?_
      · refine bo_mark X ok (hA _) b.in0 b.fm (b.own _ (.head _)).1.2.2 rfl rfl hsz.k fun t s' e' R' => ?_
        have e0 := b.keep ([r.g], s) (.tail _ (.head _))
        refine fin ?_ (e0.then e') R'
        rw [ask]; unfold askNew hitD
        rw [noM, if_neg (by decide)]
        exact if_pos (List.any_eq_true.mpr ⟨y, hy, hc2⟩)
      · refine ex_nil (ex_nil ?_)
        have b := b.retell (O1 := []) (O2 := []) (o' := (orr prog w C r M dirs μ k).also (∀ z, D.str z ∈ pre ++ [D.str y] → Txt.startswith x (z ++ Str.ofString "/") = false)) (fun h => ⟨h.1, fun z hz => ?_⟩)
        · refine b.names fun x d h => ?_
          exact lookup_cons_other (by intro e; subst e; exact absurd (show none = some d from h) nofun) h
        · rcases List.mem_append.mp hz with hz | hz
          · exact h.2 z hz
          · have := List.mem_singleton.mp hz; cases this; exact hc2
    · subst hds
      have R2 := (b.own _ (.head _))
      have noD : hitD dirs x = false := by
        unfold hitD
        rw [List.any_eq_false]
        intro y hy
        have := R2.2 y (List.mem_map_of_mem (f := D.str) hy)
        simp [this]
      refine bo_mark X ok (hA _) b.in0 b.fm R2.1.2.2 rfl rfl hsz.k fun t s' e' R' => ?_
      exact fin (by rw [ask]; unfold askNew; rw [noM, if_neg (by decide)]; show (if hitD dirs x = true then (1 : Int) else 0) = 0; rw [noD]; rfl) ((b.keep _ (.head _)).then e') R'
end
end Mine
end

section
open PySem PySem.Calls PySem.W PyProof.Rows
set_option Elab.async false
set_option maxRecDepth 100000
namespace Mine
section
variable {prog : Program} {w : World} {h₀ : Heap} {n : Nat} {env : Env} {V W : List Addr} {ρ : List (Str × D)} {s0 : Shared} {KK : Frag} {C fN : Addr}

set_option maxHeartbeats 4000000 in
theorem mk_reader {dT : Addr} {f : Addr} {name qual bind : Str} {params : Arguments} {body : List Stmt} {scope : Scope} {kV doc pm cdv ct : Value} {an : Option Addr} {deco : List Expr} {tp : List TypeParam} {ts : Option Scope} {ret : Option Expr} {pos : Pos}
    (hdef : (classBody PySem.Challenge.pw_pu0003_02.main.body[10]?)[0]? = some (.FunctionDef name params body deco ret tp scope ts bind pos))
    (K : Fn h₀ f (fnOf name qual params body scope (.ref dT) kV doc pm an cdv ct) body) (hlim : h₀.NoLimit) (X : KK.In h₀) (ok : ClsOk KK C f fN) (gset : GV h₀ "set" (.type "set")) {oT : Obj} {nT : Nat} (hT : h₀.get? dT = some oT) (hTd : oT.data = .seq #[.none, .none] nT) (hsys : ∃ o, h₀.get? sysModules = some o)
    {fn : Addr} (gn : GV h₀ "normpath" (.ref fn)) (kn : Kp h₀ (.ref fn)) (hn : ∀ (V : List Addr) (p : Str), PathOk p → CL prog w h₀ n V (.ref fn) [.str p] (.str (normP p))) : MK prog w h₀ C (n + 2) := by
  injection hdef with hdef
  injection hdef with h1 h2 h3 h4 h5 h6 h7 h8 h9
  subst h1 h2 h3 h4 h5 h6 h7 h8 h9
  intro V M P A s E Q vs hA hB hold hM hP hPl hr q
  obtain ⟨hh, gs, dr, tk, os⟩ := s
  have XX : KK.In hh := Frag.In.ext X hB.ext
  refine wpAny_call (make_core (makes_of XX ok.makes) (looks_findIn XX ok.init) (fun self => bind_fn XX self ok.initf) (.inl rfl) ?_)
  generalize hs1 : (⟨(hh.push emptyDict).push (instObj C hh.objs.size), gs, dr, tk, os⟩ : Shared) = s1
  have hh1 : s1.heap = (hh.push emptyDict).push (instObj C hh.objs.size) := by rw [← hs1]
  have k1 : Ext hh s1.heap := by rw [hh1]; exact fun b o e => Heap.get?_push_of_some _ (Heap.get?_push_of_some _ e)
  have e01 : Stp [] (⟨hh, gs, dr, tk, os⟩ : Shared) s1 := ⟨⟨by rw [← hs1], by rw [← hs1], fun b o _ e => k1 b o e⟩, by rw [← hs1]; exact Nat.le_refl _⟩
  have hdx : s1.heap.get? hh.objs.size = some emptyDict := by rw [hh1]; exact Heap.get?_push_of_some _ (Heap.get?_push_size _ rfl)
  have hx : s1.heap.get? (hh.objs.size + 1) = some (instObj C hh.objs.size) := by rw [hh1, ← Heap.size_push hh emptyDict]; exact Heap.get?_push_size _ rfl
  have dxn : hh.get? hh.objs.size = none := fresh_none _
  have xn : hh.get? (hh.objs.size + 1) = none := by
    cases e : hh.get? (hh.objs.size + 1) with
    | none => rfl
    | some o => exact absurd (Heap.lt_size e) (Nat.not_lt.mpr (Nat.le_succ _))
  generalize hdxe : hh.objs.size = dx at *
  generalize hxe : dx + 1 = x at *
  have hxdx : x ≠ dx := by rw [← hxe]; exact Nat.succ_ne_self _
  have hV0 : ∀ a, hh.get? a = none → a ∉ V := fun a ha hm => by obtain ⟨o, ho⟩ := hold a hm; rw [show hh.get? a = some o from ho] at ha; cases ha
  have hB1 : In0 h₀ (dx :: V) s1 := ⟨fun b o e => k1 b o (hB.ext b o e), Nat.le_trans hB.toks e01.toks, fun a ha => (List.mem_cons.mp ha).elim (fun e => by rw [e]; exact none_of_ext hB.ext dxn) (hB.new a)⟩
  have hold1 : Old (dx :: V) s1.heap := fun a ha => (List.mem_cons.mp ha).elim (fun e => by rw [e]; exact ⟨_, hdx⟩) fun h => let ⟨o, ho⟩ := hold a h; ⟨o, k1 a o ho⟩
  have hr1 : RepL (dx :: V) s1.heap vs (mkArgs M P) := (hr.shun fun a o ha ho hm => (List.mem_cons.mp hm).elim (fun e => by rw [e] at ho; rw [show hh.get? dx = some o from ho] at dxn; cases dxn) ha).stp0 e01.toStp0
  refine fn_code (n := n) (V := dx :: V) (params := ["self", "modules", "dirs"]) (ds := [.obj x, .list (dStrs M), dirsD P]) K hlim hA.make hB1 hold1 (fun E' Q' q' => ?_) (by decide) (by intro x hx; simp only [List.mem_cons, List.not_mem_nil, or_false] at hx; rcases hx with rfl | rfl | rfl <;> exact .inl rfl) fun L s₂ U E' hUn hU b => ?_
  · have hT1 := hB1.ext _ _ hT
    cases P with
    | none =>
      obtain ⟨v, rfl, rv⟩ := RepL.one hr1
      exact BindsTo.of_defaults (binds := ([("self", .ref x), ("modules", v), ("dirs", .none)] : List (Str × Value))) rfl hT1 hTd rfl rfl _ _ _ _ (q' _ s1 (.refl _) rfl (.cons (.obj _) (.cons rv (.cons .none .nil))))
    | some P =>
      obtain ⟨v, u, rfl, rv, ru⟩ := RepL.two hr1
      exact BindsTo.of_defaults (binds := ([("self", .ref x), ("modules", v), ("dirs", u)] : List (Str × Value))) rfl hT1 hTd rfl rfl _ _ _ _ (q' _ s1 (.refl _) rfl (.cons (.obj _) (.cons rv (.cons ru .nil))))
  have hA2 := fun env : Env => (hA.make (C := C) (vs := vs) (kw := [])).deeper (env := env)
  have kb0 := b.keep
  have b := b.boW hUn [(dx, otriv)] (fun p hp => by rw [List.mem_singleton.mp hp]; trivial) (fun p hp => by rw [List.mem_singleton.mp hp]; exact .head _) hold1 (by simp)
  have hno := (b.onew _ (.head _)).2.1
  have b := b.fewer (O' := []) (List.nil_sublist _)
  have dxV : dx ∈ U ++ dx :: V := List.mem_append_right _ (.head _)
  have nI : ∀ p ∈ [([dx], s1)], dx ∈ p.1 ∨ p.2.heap.get? dx = none := fun p hp => by rw [List.mem_singleton.mp hp]; exact .inl (.head _)
  have kb := b.keep ([dx], s1) (.head _)
  have xV : x ∉ U ++ dx :: V := fun hm => by
    rcases List.mem_append.mp hm with h | h
    · have := hUn x h; rw [hx] at this; cases this
    · exact (List.mem_cons.mp h).elim hxdx (hV0 x xn)
  have I0 : InsD s₂.heap x dx C [] := by
    obtain ⟨h1, h2⟩ : s₂.heap.get? x = some (instObj C dx) ∧ s₂.heap.get? dx = some emptyDict := by
      exact ⟨kb0 _ _ List.not_mem_nil hx, kb0 _ _ List.not_mem_nil hdx⟩
    exact ⟨h1, 0, h2⟩
  refine setf_go (es := []) (G := fun v s' => ∃ sa j led, v = .ref sa ∧ sa ∉ U ++ dx :: V ∧ SetS prog w s'.heap sa (fun y => M.contains y) j led ∧ (j = 0 ∨ led = ledOf w) ∧ j ≤ M.length) X ok (hA2 _) b I0 rfl (by simp [fldNames]) rfl rfl (by decide) hxdx dxV nI hno
    (fun E' Q' q' => ev_set gset rfl hM (hA2 _) b.in0 b.fm fun sa s' j led e hsa _ S hl hj => q' _ _ e ⟨sa, j, led, rfl, hsa, S, hl, hj⟩) fun v a1 a2 s₃ t1 e1 hG e2 ext3 I1 b => ?_
  obtain ⟨sa, j, led, rfl, hsa, S, hl, hj⟩ := hG
  have S3 : SetS prog w s₃.heap sa (fun y => M.contains y) j led := S.ext fun o ho => ext3 _ o (fun hm => hsa (by rw [List.mem_singleton.mp hm]; exact dxV)) (e2.keep _ o ho)
  refine setf_go (es := [ent w.params "_mods" t1 (.ref sa)]) (G := fun v s' => Rep (U ++ dx :: V) s'.heap v (.list (dStrs ((P.getD []).map normP)))) X ok (hA2 _) b I1 rfl (by simp [fldNames]) rfl rfl (by simp) hxdx dxV nI hno
    (fun E' Q' q' => ?_) fun v b1 b2 s₄ t2 f1 hG f2 ext4 I2 b => ?_
  · cases P with
    | none => exact pe_ifexp (d := .list []) (pt_not (pt_val (pe_name rfl) tr_none)) (fun _ => pe_list pes_nil (Nat.zero_le _)) (fun h => nomatch h) _ _ E' Q' (hA2 _) b.in0 b.fm q'
    | some P =>
      have hP0 : ∀ p ∈ P, PathOk p := hP
      have hPl' : (dStrs P).length ≤ sizeLine := by rw [List.length_map]; exact hPl
      refine pe_ifexp (d := .list (dStrs (P.map normP))) (pt_not (pt_val (pe_name rfl) (tr_list hPl'))) (fun h => ?_) (fun h => ?_) _ _ E' Q' (hA2 _) b.in0 b.fm q'
      · have : P = [] := by cases P with | nil => rfl | cons a l => simp at h
        subst this
        exact pe_list pes_nil (Nat.zero_le _)
      · refine (pef_c (f := normP) D.str D.s (fun _ => rfl) D.str (it_list (pe_name rfl)) (compOk_of rfl) (.inl rfl) (fun C V' p hp => ?_) hPl).pe
        exact pe_call gn kn (pes_cons (pe_name rfl) pes_nil) (hn V' p (hP0 p hp))
  have S4 : SetS prog w s₄.heap sa (fun y => M.contains y) j led := S3.ext fun o ho => ext4 _ o (fun hm => hsa (by rw [List.mem_singleton.mp hm]; exact dxV)) (f2.keep _ o (f1.keep _ o ho))
  cases hG with | @list da vd _ hda hld rld =>
  have L4 : s₄.heap.PlainList da vd := (hld.at fun o ho => f2.keep _ o ho).at fun o ho => ext4 _ o (fun hm => hda (by rw [List.mem_singleton.mp hm]; exact dxV)) ho
  have kb_s4 := b.keep ([dx], s1) (.head _)
  have hsys4 : ∃ o, s₄.heap.get? sysModules = some o := let ⟨o, ho⟩ := hsys; ⟨o, b.in0.ext _ _ ho⟩
  refine setf_go (es := [ent w.params "_mods" t1 (.ref sa), ent w.params "_dirs" t2 (.ref da)]) (G := fun v s' => ∃ t, v = .ref s₄.heap.objs.size ∧ (s₄.heap.objs.size == sysModules) = false ∧ s'.heap.DictOf (strKind prog w) s₄.heap.objs.size [(Str.ofString "<string>", .int 1 t)]) X ok (hA2 _) b I2 rfl (by simp [fldNames]) rfl rfl (by simp) hxdx dxV nI hno
    (fun E' Q' q' => ev_dict1 hsys4 fun s' t e hne hd => q' _ _ e ⟨t, rfl, hne, hd⟩) fun v c1 c2 s₅ t3 g1 hG g2 ext5 I3 b => ?_
  obtain ⟨t, rfl, hgs, hd⟩ := hG
  have gn4 : s₄.heap.get? s₄.heap.objs.size = none := fresh_none _
  have gdx : s₄.heap.objs.size ≠ dx := fun e => by obtain ⟨m, hm⟩ := I2.dict; rw [← e, gn4] at hm; cases hm
  have k45 : ∀ a, a ∉ U ++ dx :: V → ∀ o, s₄.heap.get? a = some o → s₅.heap.get? a = some o := fun a ha o ho => ext5 a o (fun hm => ha (by rw [List.mem_singleton.mp hm]; exact dxV)) (g2.keep _ _ (g1.keep _ _ ho))
  have kb4 := b.keep ([dx], s1) (.head _)
  have k15 : ∀ a o, hh.get? a = some o → s₅.heap.get? a = some o := fun a o ho => kb4.ext a o (fun hm => by rw [List.mem_singleton.mp hm] at ho; rw [dxn] at ho; cases ho) (k1 a o ho)
  have gns : hh.get? s₄.heap.objs.size = none := by
    cases e : hh.get? s₄.heap.objs.size with
    | none => rfl
    | some o =>
      have h1 := k1 _ _ e
      have h2 := kb_s4.ext _ _ (fun hm => gdx (List.mem_singleton.mp hm)) h1
      rw [gn4] at h2; cases h2
  refine ex_nil ⟨rfl, q ⟨x, dx, sa, da, s₄.heap.objs.size⟩ s₅ ⟨kb4.gens.trans e01.gens, kb4.os.trans e01.os, fun a o _ e => k15 a o e⟩ gns (fun a ha hm => ?_) ⟨⟨t1, t2, t3, I3⟩, ⟨j, led, S4.ext (k45 sa hsa), hl, hj⟩, ⟨vd, L4.at (k45 da hda), rld.strs⟩, ⟨[(Str.ofString "<string>", .int 1 t)], ?_, Nat.le_refl _, fun y => ?_⟩, hgs, fun hm => ?_⟩⟩
  · have hm' : a ∈ U ++ dx :: V := List.mem_append_right _ (.tail _ hm)
    simp only [RdA.fp, List.mem_cons, List.not_mem_nil, or_false] at ha
    rcases ha with rfl | rfl | rfl | rfl
    · exact xV hm'
    · exact hV0 _ dxn hm
    · exact hsa hm'
    · exact hda hm'
  · exact (hd.at fun o ho => g2.keep _ _ ho).at fun o ho => ext5 _ o (fun hm => gdx (List.mem_singleton.mp hm)) ho
  · show IntV (upd (fun _ => none) (Str.ofString "<string>") 1 y) _
    unfold upd valueAt
    by_cases e : y = Str.ofString "<string>"
    · subst e; rw [if_pos rfl]; exact ⟨t, by simp⟩
    · rw [if_neg e]
      have e' : ¬ Str.ofString "<string>" = y := fun q => e q.symm
      show Option.map _ _ = none
      rw [List.find?_cons_of_neg (by simpa using e')]; rfl
  · simp only [RdA.fp, List.mem_cons, List.not_mem_nil, or_false] at hm
    rcases hm with e | e | e | e
    · rw [e, I2.ins] at gn4; cases gn4
    · exact gdx e
    · obtain ⟨o, _, _, _, ho, _⟩ := S4.at_; rw [e, ho] at gn4; cases gn4
    · obtain ⟨nn, hn⟩ := L4; rw [e, hn] at gn4; cases gn4
end
end Mine
end

section
open PySem PySem.Calls PySem.W PyProof.Rows
set_option Elab.async false
set_option maxRecDepth 100000
namespace Mine
local macro_rules | `(tactic| walk_at "side") => `(tactic| first
  | assumption
  | decide
  | exact Nat.le_of_ble_eq_true rfl
  | omega
  | (simp; done)
  | (simp; omega))
local macro_rules | `(tactic| walk_at "b2") => `(tactic| first
  | exact b2_add
  | exact b2_sub
  | exact b2_mod (by walk_at "side")
  | exact b2_div (by walk_at "side") (by walk_at "side")
  | exact b2_mul (by walk_at "side")
  | exact b2_pow (by walk_at "side") (by walk_at "side") (by walk_at "side")
  | exact b2_cat (by walk_at "side")
  | exact b2_app (by walk_at "side"))
local macro_rules | `(tactic| walk_at "c2") => `(tactic| first
  | exact c2_eq_int
  | exact c2_ne_int
  | exact c2_lt_int
  | exact c2_le_int
  | exact c2_gt_int
  | exact c2_ge_int
  | exact c2_eq_str
  | exact c2_ne_str
  | exact c2_ne_bool)
local macro_rules | `(tactic| walk_at "cl") => `(tactic| first
  | exact cl_len_list (by walk_at "side")
  | exact cl_len_str (by walk_at "side")
  | exact cl_sum
  | exact cl_str_int (by walk_at "side") (by walk_at "side")
  | exact cl_chr (by walk_at "side") (by walk_at "side"))
local macro_rules | `(tactic| walk_at "kp") => `(tactic| first
  | exact kp_builtin
  | exact kp_type
  | assumption)
local macro_rules | `(tactic| walk_at "pe") => `(tactic| first
  | exact pe_int
  | exact pe_str
  | exact pe_none
  | exact pe_bool
  | exact pe_name rfl
  | (show PE _ _ _ _ _ _ _ (Expr.Tuple _ _ _) _; exact pe_tuple (by walk_at "pes") (by walk_at "side"))
  | (show PE _ _ _ _ _ _ _ (Expr.List _ _) _; exact pe_list (by walk_at "pes") (by walk_at "side"))
  | (show PE _ _ _ _ _ _ _ (Expr.BinOp _ _ _ _) _; exact pe_bin (by walk_at "pe") (by walk_at "pe") (by walk_at "b2"))
  | (show PE _ _ _ _ _ _ _ (Expr.Compare _ _ _ _) _; exact pe_cmp (by walk_at "pe") (by walk_at "pe") (by walk_at "c2"))
  | (show PE _ _ _ _ _ _ _ (Expr.UnaryOp UnaryOp.USub _ _) _; exact pe_neg (by walk_at "pe"))
  | (show PE _ _ _ _ _ _ _ (Expr.Call (Expr.Name _ _) _ _ _) _; exact pe_call (by assumption) (by walk_at "kp") (by walk_at "pes") (by walk_at "cl"))
  | (show PE _ _ _ _ _ _ _ (Expr.Subscript _ (Expr.Slice _ _ _ _) _) _; first
      | exact pe_slice_str (by walk_at "pe") (by walk_at "po") (by walk_at "po") (by walk_at "side")
      | exact pe_slice_list (by walk_at "pe") (by walk_at "po") (by walk_at "po") (by walk_at "po") (by walk_at "side") (by walk_at "side")))
local macro_rules | `(tactic| walk_at "pes") => `(tactic| first
  | (show PEs _ _ _ _ _ _ _ _ [] _; exact pes_nil)
  | (show PEs _ _ _ _ _ _ _ _ (_ :: _) _; exact pes_cons (by walk_at "pe") (by walk_at "pes")))
local macro_rules | `(tactic| walk_at "po") => `(tactic| first
  | (show PO _ _ _ _ _ _ _ none _; exact po_none)
  | (show PO _ _ _ _ _ _ _ (some _) _; exact po_some (by walk_at "pe")))
local macro_rules | `(tactic| walk_at "cmp") => `(tactic| exact pt_cmp (by walk_at "pe") (by walk_at "pe") (by walk_at "c2"))

section
section
variable {prog : Program} {w : World} {h₀ : Heap} {n : Nat} {env : Env} {V W : List Addr} {ρ : List (Str × D)} {s0 : Shared}

theorem cl_quotedata {f : Addr} {name qual bind : Str} {params : Arguments} {body : List Stmt} {scope : Scope} {kV doc pm cdv ct : Value} {an : Option Addr} {deco : List Expr} {tp : List TypeParam} {ts : Option Scope} {ret : Option Expr} {pos : Pos}
    (hdef : PySem.Challenge.pw_pu0003_02.main.body[15]? = some (.FunctionDef name params body deco ret tp scope ts bind pos))
    (K : Fn h₀ f (fnOf name qual params body scope .none kV doc pm an cdv ct) body) (hlim : h₀.NoLimit) {a1 a2 : Addr} {tC : Tok} (g1 : GV h₀ "_twin_re_1" (.ref a1)) (g2 : GV h₀ "_twin_re_2" (.ref a2)) (gC : GV h₀ "CRLF" (.str (Str.ofString "\r\n") tC)) (P1 : Pat h₀ a1 code1) (P2 : Pat h₀ a2 code2)
    {x : Str} (hx : x.length ≤ 20000) : CL prog w h₀ (n + 1) V (.ref f) [.str x] (.str ⟨(stuff true (crlf x.cps.toList)).toArray⟩) := by
  injection hdef with hdef
  injection hdef with h1 h2 h3 h4 h5 h6 h7 h8 h9
  subst h1 h2 h3 h4 h5 h6 h7 h8 h9
  refine cl_fno (params := ["data"]) K hlim (fun vals h => ?_) rfl (by decide) (by intro x hx; rw [List.mem_singleton.mp hx]; exact .inl rfl) fun A s s₁ L U E Q hA hU b q => ?_
  · obtain ⟨_, rfl⟩ := vals1 h; rfl
  have hl : ∀ l : List Nat, (crlf l).length ≤ 2 * l.length := by
    intro l
    induction l using crlf.induct <;> simp_all [crlf] <;> omega
  have hz : (Str.mk (crlf x.cps.toList).toArray).length ≤ 100000 := by
    have h1 := hl x.cps.toList
    have h2 : x.cps.toList.length ≤ 20000 := by rw [Array.length_toList]; exact hx
    show (crlf x.cps.toList).toArray.size ≤ _
    simp only [List.size_toArray]; omega
  have e1 : (crlf x.cps.toList).toArray.toList = crlf x.cps.toList := rfl
  have s2 := subs2 x.cps (by have : x.cps.size ≤ 20000 := hx; omega)
  have s1 := subs1 (crlf x.cps.toList).toArray (by have : (crlf x.cps.toList).toArray.size ≤ 100000 := hz; omega)
  refine bo_ret hA b (.head _) (pe_meth (pe_gobj g1) (mt_pat P1) (pes_cons pe_str (pes_cons (pe_meth (pe_gobj g2) (mt_pat P2) (pes_cons (pe_gstr gC) (pes_cons (pe_name rfl) pes_nil)) (mc_pat P2 (by omega) (by decide) (by decide +kernel) s2)) pes_nil)) (mc_pat P1 hz (by decide) (by decide +kernel) s1)) q

theorem cl_kind {f : Addr} {name qual bind : Str} {params : Arguments} {body : List Stmt} {scope : Scope} {kV doc pm cdv ct : Value} {an : Option Addr} {deco : List Expr} {tp : List TypeParam} {ts : Option Scope} {ret : Option Expr} {pos : Pos}
    (hdef : PySem.Challenge.pw_pu0003_02.main.body[4]? = some (.FunctionDef name params body deco ret tp scope ts bind pos))
    (K : Fn h₀ f (fnOf name qual params body scope .none kV doc pm an cdv ct) body) (hlim : h₀.NoLimit) (gt : GV h₀ "type" (.type "type")) (gs : GV h₀ "str" (.type "str")) {x y : Str} : CL prog w h₀ (n + 1) V (.ref f) [.str y, .str x] (.str (Str.ofString "")) := by
  injection hdef with hdef
  injection hdef with h1 h2 h3 h4 h5 h6 h7 h8 h9
  subst h1 h2 h3 h4 h5 h6 h7 h8 h9
  refine cl_fno (params := ["name", "x"]) K hlim (fun vals h => ?_) rfl (by decide) (by intro x hx; simp only [List.mem_cons, List.not_mem_nil, or_false] at hx; rcases hx with rfl | rfl <;> exact .inl rfl) fun A s s₁ L U E Q hA hU b q => ?_
  · obtain ⟨_, _, rfl⟩ := vals2 h; rfl
  refine bo_assign hA b (pe_call gt kp_type (by walk_at "pes") cl_type_str) (.inl rfl) fun s₂ b => ?_
  refine bo_if hA b b.in0 b.fm (pt_cmp (by walk_at "pe") (pe_gty gs) c2_is_ty) (fun hc s₄ b => ?_) fun hc => absurd hc (by decide)
  exact bo_ret hA b (.head _) (by walk_at "pe") q

theorem cl_cpath {f : Addr} {name qual bind : Str} {params : Arguments} {body : List Stmt} {scope : Scope} {kV doc pm cdv ct : Value} {an : Option Addr} {deco : List Expr} {tp : List TypeParam} {ts : Option Scope} {ret : Option Expr} {pos : Pos}
    (hdef : PySem.Challenge.pw_pu0003_02.main.body[5]? = some (.FunctionDef name params body deco ret tp scope ts bind pos))
    (K : Fn h₀ f (fnOf name qual params body scope .none kV doc pm an cdv ct) body) (hlim : h₀.NoLimit) (gl : GV h₀ "len" (.builtin "len")) {fk : Addr} (gk : GV h₀ "_kind" (.ref fk)) (kk : Kp h₀ (.ref fk)) (hk : ∀ (V : List Addr) (y x : Str), CL prog w h₀ n V (.ref fk) [.str y, .str x] (.str (Str.ofString ""))) {x y z u : Str} {a : Addr} :
    CL prog w h₀ (n + 1) V (.ref f) [.str y, .str z, .str u, .tuple [.str x], .dict0 a] (.str x) := by
  injection hdef with hdef
  injection hdef with h1 h2 h3 h4 h5 h6 h7 h8 h9
  subst h1 h2 h3 h4 h5 h6 h7 h8 h9
  refine cl_fno (params := ["name", "cname", "argname", "args", "kwargs"]) K hlim (fun vals h => ?_) rfl (by decide) (by intro x hx; simp only [List.mem_cons, List.not_mem_nil, or_false] at hx; rcases hx with rfl | rfl | rfl | rfl | rfl <;> exact .inl rfl) fun A s s₁ L U E Q hA hU b q => ?_
  · obtain ⟨_, _, _, _, _, rfl⟩ := vals5 h; rfl
  refine bo_if hA b b.in0 b.fm (pt_bool (pts_and (pt_cmp (pe_call gl kp_builtin (by walk_at "pes") (cl_len_tuple (Nat.le_of_ble_eq_true rfl))) (by walk_at "pe") c2_eq_int) fun _ => pts_and (pt_not (pt_val (by walk_at "pe") tr_dict0)) fun _ => pts_and_nil)) (fun hc s₄ b => ?_) fun hc => by exact absurd (show true = false from hc) (by decide)
  refine bo_assign hA b (pe_sub (by walk_at "pe") (by walk_at "pe") .tuple (gi_tuple (by decide) rfl (Nat.le_of_ble_eq_true rfl))) (.inl rfl) fun s₂ b => ?_
  refine ex_nil ?_
  refine bo_assign hA b (pe_call gk kk (by walk_at "pes") (hk _ _ _)) (.inl rfl) fun s₂ b => ?_
  refine bo_if hA b b.in0 b.fm (pt_val (by walk_at "pe") (tr_str (by decide))) (fun hc => absurd hc (by decide)) fun hc s₄ b => ?_
  refine ex_nil ?_
  exact bo_ret hA b (.head _) (by walk_at "pe") q

theorem cl_splitroot {f : Addr} {name qual bind : Str} {params : Arguments} {body : List Stmt} {scope : Scope} {kV doc pm cdv ct : Value} {an : Option Addr} {deco : List Expr} {tp : List TypeParam} {ts : Option Scope} {ret : Option Expr} {pos : Pos}
    (hdef : PySem.Challenge.pw_pu0003_02.main.body[6]? = some (.FunctionDef name params body deco ret tp scope ts bind pos))
    (K : Fn h₀ f (fnOf name qual params body scope .none kV doc pm an cdv ct) body) (hlim : h₀.NoLimit) {p : Str} (hp : p.length ≤ sizeLine) : CL prog w h₀ (n + 1) V (.ref f) [.str p] (splitD p) := by
  injection hdef with hdef
  injection hdef with h1 h2 h3 h4 h5 h6 h7 h8 h9
  subst h1 h2 h3 h4 h5 h6 h7 h8 h9
  refine cl_fno (params := ["p"]) K hlim (fun vals h => ?_) rfl (by decide) (by intro x hx; rw [List.mem_singleton.mp hx]; exact .inl rfl) fun A s s₁ L U E Q hA hU b q => ?_
  · obtain ⟨_, rfl⟩ := vals1 h; rfl
  refine bo_assign hA b (by walk_at "pe") (.inl rfl) fun s₂ b => ?_
  refine bo_assign hA b (by walk_at "pe") (.inl rfl) fun s₃ b => ?_
  refine bo_if hA b b.in0 b.fm (pt_cmp (by walk_at "pe") (by walk_at "pe") c2_ne_str) (fun hc s₄ b => ?_) fun hc s₄ b => ?_
  · refine bo_ret hA b (.head _) (by walk_at "pe") ?_
    unfold splitD at q
    rw [if_pos hc] at q
    exact q
  · refine bo_if hA b b.in0 b.fm (pt_bool (pts_or (pt_cmp (by walk_at "pe") (by walk_at "pe") c2_ne_str) fun _ => pts_or (pt_cmp (by walk_at "pe") (by walk_at "pe") c2_eq_str) fun _ => pts_or_nil)) (fun hc2 s₅ b => ?_) fun hc2 s₅ b => ?_
    · refine bo_ret hA b (.head _) (by walk_at "pe") ?_
      unfold splitD at q
      rw [if_neg (by rw [hc]; decide), if_pos (by simpa using hc2)] at q
      exact q
    · refine bo_ret hA b (.head _) (by walk_at "pe") ?_
      unfold splitD at q
      rw [if_neg (by rw [hc]; decide), if_neg (by simpa using hc2)] at q
      exact q

theorem cl_normpath_ {f : Addr} {name qual bind : Str} {params : Arguments} {body : List Stmt} {scope : Scope} {kV doc pm cdv ct : Value} {an : Option Addr} {deco : List Expr} {tp : List TypeParam} {ts : Option Scope} {ret : Option Expr} {pos : Pos}
    (hdef : PySem.Challenge.pw_pu0003_02.main.body[7]? = some (.FunctionDef name params body deco ret tp scope ts bind pos))
    (K : Fn h₀ f (fnOf name qual params body scope .none kV doc pm an cdv ct) body) (hlim : h₀.NoLimit) {fs : Addr} (gs : GV h₀ "_splitroot" (.ref fs)) (ks : Kp h₀ (.ref fs)) (hs : ∀ (V : List Addr) (p : Str), p.length ≤ sizeLine → CL prog w h₀ n V (.ref fs) [.str p] (splitD p)) {p : Str} (hp : PathOk p) :
    CL prog w h₀ (n + 1) V (.ref f) [.str p] (.str (normP p)) := by
  injection hdef with hdef
  injection hdef with h1 h2 h3 h4 h5 h6 h7 h8 h9
  subst h1 h2 h3 h4 h5 h6 h7 h8 h9
  have hline : sizeLine = 16777216 := rfl
  have hl := hp.len
  have hps : p.length ≤ sizeLine := by omega
  refine cl_fno (params := ["path"]) K hlim (fun vals h => ?_) rfl (by decide) (by intro x hx; rw [List.mem_singleton.mp hx]; exact .inl rfl) fun A s s₁ L U E Q hA hU b q => ?_
  · obtain ⟨_, rfl⟩ := vals1 h; rfl
  have hne : p.length ≠ 0 := fun h => by
    have e : Txt.slice p none (some 1) = Str.ofString "/" := by simpa using hp.first
    have := PyProof.Txt.length_slice_le p none (some 1)
    rw [e, h] at this
    exact absurd this (by decide)
  have hsp : splitD p = .tuple [.str (Str.ofString ""), .str (Str.ofString "/"), .str (Txt.slice p (some 1) none)] := by
    unfold splitD; rw [if_neg (by rw [hp.first]; decide), if_pos (by rw [hp.second]; rfl)]
  have hz := PyProof.Txt.length_slice_le p (some 1) none
  refine bo_assign hA b (by walk_at "pe") (.inl rfl) fun s₂ b => ?_
  refine bo_assign hA b (by walk_at "pe") (.inl rfl) fun s₂ b => ?_
  refine bo_assign hA b (by walk_at "pe") (.inl rfl) fun s₂ b => ?_
  refine bo_if hA b b.in0 b.fm (pt_not (pt_val (by walk_at "pe") (tr_str hps))) (fun hc => absurd hc (by simp [hne])) fun hc s₂ b => ?_
  refine ex_nil ?_
  have hcall := hs (U ++ V) p hps
  rw [hsp] at hcall
  refine bo_unpack (xs := ["_", "initial_slashes", "path"]) hA b (pe_call gs ks (by walk_at "pes") hcall) (.cons (.cons (.cons .nil))) rfl (by intro x hx; simp only [List.mem_cons, List.not_mem_nil, or_false] at hx; rcases hx with rfl | rfl | rfl <;> exact .inl rfl) fun s₃ b => ?_
  refine bo_assign hA b (pe_meth (by walk_at "pe") (mt_str F.slot_str_split F.type_str_split) (by walk_at "pes") (mc_split (by decide) (by omega) hp.few)) (.inl rfl) fun s₄ b => ?_
  refine bo_new hA b (.inl rfl) fun a s₅ ha hav b => ?_
  refine bo_for hA b (it_list (by walk_at "pe")) (ta_name (.inl rfl)) (fun _ _ => trivial) (fun a ha => wAddr_own ha) (fun _ => _) (fun pre => [(a, ol (pre.filter fun d => match d with | .str c => decide (c.length ≠ 0) | _ => false))]) (fun x d h => h) rfl (fun pre p hp => ?_) (fun I pre d post s₆ E' hds hI b => ?_) fun s₆ b => ?_
  · rw [List.mem_singleton.mp hp]; exact .head _
  · obtain ⟨c, hcm, rfl⟩ : ∃ c ∈ Txt.split (Txt.slice p (some 1) none) (Str.ofString "/"), d = .str c := by
      have : d ∈ dStrs (Txt.split (Txt.slice p (some 1) none) (Str.ofString "/")) := by rw [hds]; simp
      obtain ⟨c, h1, h2⟩ := List.mem_map.mp this
      exact ⟨c, h1, h2.symm⟩
    have hcl : c.length ≤ 100000 := by
      have := le_sum (List.mem_map_of_mem (f := fun c : Str => c.length) hcm)
      have := hp.small
      omega
    have hpc := hp.parts c hcm
    refine bo_if hA b b.in0 b.fm (pt_bool (pts_or (pt_not (pt_val (by walk_at "pe") (tr_str (by omega)))) fun _ => pts_or (pt_cmp (by walk_at "pe") (by walk_at "pe") c2_eq_str) fun _ => pts_or_nil)) (fun hc s₇ b => ?_) fun hc s₇ b => ?_
    · refine ex_continue ?_
      have hc0 : c.length = 0 := by
        have : (c == Str.ofString ".") = false := by simpa using hpc.1
        simpa [this] using hc
      have e : (pre ++ [D.str c]).filter (fun d => match d with | .str c => decide (c.length ≠ 0) | _ => false) = pre.filter fun d => match d with | .str c => decide (c.length ≠ 0) | _ => false := by
        rw [List.filter_append, List.filter_cons_of_neg (by simp [hc0])]; simp
      show Bo _ _ _ _ _ [(a, ol _)] _
      rw [e]
      refine b.names fun x d h => ?_
      exact lookup_cons_other (by intro e; subst e; exact absurd (show none = some d from h) nofun) h
    · have hc0 : c.length ≠ 0 := fun h => by
        rw [h] at hc
        exact absurd hc (by simp)
      have e : (pre ++ [D.str c]).filter (fun d => match d with | .str c => decide (c.length ≠ 0) | _ => false) = (pre.filter fun d => match d with | .str c => decide (c.length ≠ 0) | _ => false) ++ [.str c] := by
        rw [List.filter_append, List.filter_cons_of_pos (by simp [hc0])]; simp
      refine ex_nil ?_
      refine bo_if (c := true) hA b b.in0 b.fm (pt_bool (pts_or (c := true) (d := true) ?_ nofun)) (fun _ s₈ b => ?_) nofun
      · exact PT.to (pt_cmp (by walk_at "pe") (by walk_at "pe") c2_ne_str) (by simpa using hpc.2)
      · have hpre : pre.length ≤ 100000 := by
          have h1 : (dStrs (Txt.split (Txt.slice p (some 1) none) (Str.ofString "/"))).length = pre.length + (post.length + 1) := by rw [hds]; simp
          have h2 := hp.small
          rw [List.length_map] at h1
          omega
        refine bo_append (O1 := []) hA b rfl (by walk_at "pe") (Nat.le_trans (List.length_filter_le _ _) (by omega)) fun s₉ b => ?_
        refine ex_nil ?_
        refine ex_nil ?_
        show Bo _ _ _ _ _ [(a, ol _)] _
        rw [e]
        refine b.names fun x d h => ?_
        exact lookup_cons_other (by intro e; subst e; exact absurd (show none = some d from h) nofun) h
  · have b := b.freeze (O1 := []) (O2 := []) (x := "new_comps") (V' := U ++ V) rfl (fun c => ⟨fun h => ⟨.tail _ h, fun e => hav (e ▸ h)⟩, fun h => (List.mem_cons.mp h.1).resolve_left h.2⟩) (fun p hp => by rw [List.mem_singleton.mp hp]; exact List.not_mem_nil)
    have hfil : (dStrs (Txt.split (Txt.slice p (some 1) none) (Str.ofString "/"))).filter (fun d => match d with | .str c => decide (c.length ≠ 0) | _ => false) = dStrs (partsOf p) := by
      unfold partsOf dStrs
      rw [List.filter_map]; rfl
    rw [hfil] at b
    have hsub : (partsOf p).Sublist (Txt.split (Txt.slice p (some 1) none) (Str.ofString "/")) := List.filter_sublist
    have hsm : ((partsOf p).map (·.length)).sum + (partsOf p).length ≤ 100000 := by
      have h1 := sum_sublist (hsub.map (·.length))
      have h2 := hsub.length_le
      have h3 := hp.small
      omega
    have hj : (Txt.join (Str.ofString "/") (partsOf p)).length ≤ 100000 := by
      have := StrLaws.join_length_le (Str.ofString "/") (partsOf p)
      have e1 : (Str.ofString "/").length = 1 := by decide
      rw [e1, Nat.mul_one] at this
      show (Builtin.Str.glued (Str.ofString "/") (partsOf p)).length ≤ _
      rw [StrLaws.glued_eq_join]
      omega
    have ha : (normP p).length = 1 + (Txt.join (Str.ofString "/") (partsOf p)).length := by
      show ((Str.ofString "/").cps ++ (Txt.join (Str.ofString "/") (partsOf p)).cps).size = _
      rw [Array.size_append]; rfl
    refine bo_assign hA b (by walk_at "pe") (.inl rfl) fun s₇ b => ?_
    refine bo_assign hA b (pe_bin (by walk_at "pe") (pe_meth (by walk_at "pe") (mt_str F.slot_str_join F.type_str_join) (by walk_at "pes") (mc_join (by show _ + _ * 1 ≤ _; omega))) (b2_cat (by show 1 + _ ≤ _; omega))) (.inl rfl) fun s₈ b => ?_
    refine bo_ret hA b (.head _) (pe_or (by walk_at "pe") (tr_str ?_) (fun _ => rfl) fun h => ?_) q
    · omega
    · exact absurd h (by rw [ha]; simp)

theorem cl_normpath {f : Addr} {name qual bind : Str} {params : Arguments} {body : List Stmt} {scope : Scope} {kV doc pm cdv ct : Value} {an : Option Addr} {deco : List Expr} {tp : List TypeParam} {ts : Option Scope} {ret : Option Expr} {pos : Pos}
    (hdef : PySem.Challenge.pw_pu0003_02.main.body[8]? = some (.FunctionDef name params body deco ret tp scope ts bind pos))
    (K : Fn h₀ f (fnOf name qual params body scope .none kV doc pm an cdv ct) body) (hlim : h₀.NoLimit) (hsys : ∃ o, h₀.get? sysModules = some o) {fc fn : Addr} (gc : GV h₀ "_c_path" (.ref fc)) (kc : Kp h₀ (.ref fc)) (hc : ∀ (V : List Addr) (x y z u : Str) (a : Addr), CL prog w h₀ n V (.ref fc) [.str y, .str z, .str u, .tuple [.str x], .dict0 a] (.str x))
    (gn : GV h₀ "_normpath" (.ref fn)) (kn : Kp h₀ (.ref fn)) (hn : ∀ (V : List Addr) (p : Str), PathOk p → CL prog w h₀ n V (.ref fn) [.str p] (.str (normP p))) {p : Str} (hp : PathOk p) : CL prog w h₀ (n + 1) V (.ref f) [.str p] (.str (normP p)) := by
  injection hdef with hdef
  injection hdef with h1 h2 h3 h4 h5 h6 h7 h8 h9
  subst h1 h2 h3 h4 h5 h6 h7 h8 h9
  refine cl_fnv (pa := "args") (pk := "kwargs") K hlim hsys (fun v => rfl) (by decide) (by intro x hx; simp only [List.mem_cons, List.not_mem_nil, or_false] at hx; rcases hx with rfl | rfl <;> exact .inl rfl) fun A s s₁ L U a E Q hA hU b q => ?_
  exact bo_ret hA b (.head _) (pe_call gn kn (pes_cons (pe_call gc kc (by walk_at "pes") (hc _ _ _ _ _ _)) pes_nil) (hn _ p hp)) q
end
end

section
section
variable {prog : Program} {w : World} {h₀ : Heap} {n : Nat} {env : Env} {V W : List Addr} {ρ : List (Str × D)} {s0 : Shared} {KK : Frag} {C fI fN : Addr}

/-- what _law_asked does -/
noncomputable def AskedC (prog : Program) (w : World) (h₀ : Heap) (n : Nat) (C f : Addr) : Prop :=
  ∀ (V : List Addr) (r : RdA) (M dirs : List Str) (μ : Str → Option Int) (k : Nat) (files words : List Str) (file : Option Str), words.length ≤ 100 → files.length = words.length → Bits μ → (∀ j, j ≤ k + 2 * words.length → RdOk M dirs j) → r.g ∈ V →
    CLW prog w h₀ n V [(r.g, orr prog w C r M dirs μ k)] [(r.g, orr prog w C r M dirs (memoL M dirs μ (qA files words file)) (k + 2 * words.length))] (.ref f) [.obj r.x, .list (dStrs files), .list (dStrs words), fileD file] (.str (askedS M dirs μ files words file))

set_option maxHeartbeats 4000000 in
theorem cl_law_asked {f : Addr} {name qual bind : Str} {params : Arguments} {body : List Stmt} {scope : Scope} {kV doc pm cdv ct : Value} {an : Option Addr} {deco : List Expr} {tp : List TypeParam} {ts : Option Scope} {ret : Option Expr} {pos : Pos}
    (hdef : PySem.Challenge.pw_pu0003_02.main.body[18]? = some (.FunctionDef name params body deco ret tp scope ts bind pos))
    (K : Fn h₀ f (fnOf name qual params body scope .none kV doc pm an cdv ct) body) (hlim : h₀.NoLimit) (gr : GV h₀ "range" (.type "range")) (gl : GV h₀ "len" (.builtin "len")) (gs : GV h₀ "str" (.type "str")) (X : KK.In h₀) (ok : ClsOk KK C fI fN) (hN : NC prog w h₀ C n fN) (kN : Kp h₀ (.ref fN))
    {r : RdA} {M dirs : List Str} {μ : Str → Option Int} {k : Nat} {files words : List Str} {file : Option Str} (hw : words.length ≤ 100) (hfl : files.length = words.length) (hb : Bits μ) (hrd : ∀ j, j ≤ k + 2 * words.length → RdOk M dirs j) (hV : r.g ∈ V) :
    CLW prog w h₀ (n + 1) V [(r.g, orr prog w C r M dirs μ k)] [(r.g, orr prog w C r M dirs (memoL M dirs μ (qA files words file)) (k + 2 * words.length))] (.ref f) [.obj r.x, .list (dStrs files), .list (dStrs words), fileD file] (.str (askedS M dirs μ files words file)) := by
  injection hdef with hdef
  injection hdef with h1 h2 h3 h4 h5 h6 h7 h8 h9
  subst h1 h2 h3 h4 h5 h6 h7 h8 h9
  have hline : sizeLine = 16777216 := rfl
  refine cl_fnw (params := ["reader", "files", "words", "file"]) K hlim (fun vals h => ?_) rfl (by decide) (by intro x hx; simp only [List.mem_cons, List.not_mem_nil, or_false] at hx; rcases hx with rfl | rfl | rfl | rfl <;> exact .inr rfl) (by simp) (fun A s s₁ L U E Q hA hU b q => ?_) (fun p hp => by rw [List.mem_singleton.mp hp]; exact hV)
  · obtain ⟨_, _, _, _, rfl⟩ := vals4 h; rfl
  have hgV := (b.onew _ (.head _)).1
  have hgn := (b.onew _ (.head _)).2.1
  have hfp := (b.own _ (.head _)).2.1
  have hfn : ∀ a ∈ r.g :: r.fp, ¬ Own _ a := fun a ha h => (List.mem_cons.mp ha).elim (fun e => hgn (e ▸ h)) fun hm => hfp a hm (b.ownV h)
  generalize hq1 : ((List.range words.length).map fun k => ((some (files.getD k (Str.ofString "")), words.getD k (Str.ofString "")) : Option Str × Str)) = q1
  generalize hq2 : (words.map fun x => ((file, x) : Option Str × Str)) = q2
  have hqa : qA files words file = q1 ++ q2 := by unfold qA; rw [hq1, hq2]
  have l1 : q1.length = words.length := by rw [← hq1, List.length_map, List.length_range]
  have l2 : q2.length = words.length := by rw [← hq2, List.length_map]
  have hstay : ∀ (m : Str → Option Int) (j : Nat), Stays fun h => Rdr prog w C h r M dirs m j := fun m j h h' x e => x.ext fun a _ o ho => e a o ho
  have al1 := asksL_length M dirs q1 μ
  have al2 := asksL_length M dirs q2 (memoL M dirs μ q1)
  have bits1 := asksL_bits M dirs q1 hb
  have hbm : Bits (memoL M dirs μ q1) := Bits.memo M dirs q1 hb
  have bits2 := asksL_bits M dirs q2 hbm
  refine bo_compr dN D.str (l := List.range words.length) (outl := (asksL M dirs μ q1).map strI) (J := fun i h => Rdr prog w C h r M dirs (memoL M dirs μ (q1.take i)) (k + i)) (fp := r.g :: r.fp)
    (by rw [List.length_map, al1, l1, List.length_range]) (Rdr.keeps r M dirs _ _) hA b (fun h => (h _ (.head _)).2.2.2) (O' := [(r.g, orr prog w C r M dirs (memoL M dirs μ q1) (k + words.length))]) (fun h x p hp => ?_) rfl hfn
    (it_to (it_range1 gr (pe_len D.str gl (pe_name rfl) (by omega)) (by omega) (by omega)) (rangeZ_nat _)) (compOk_of rfl) (.inl rfl) (fun C' V' i a bb h1 h2 h3 h4 => ?_) (by rw [List.length_range]; omega) (.inl rfl) fun s₂ b => ?_
  · rw [List.mem_singleton.mp hp]
    have x : Rdr prog w C h r M dirs (memoL M dirs μ (q1.take (List.range words.length).length)) (k + (List.range words.length).length) := x
    rw [List.length_range, ← l1, List.take_length, l1] at x
    exact ⟨hgV, rfl, hfp, x⟩
  · have hi : i < words.length ∧ i = a := by
      obtain ⟨h5, h6⟩ := List.getElem?_eq_some_iff.mp h1
      rw [List.length_range] at h5; rw [List.getElem_range] at h6; exact ⟨h5, h6⟩
    obtain ⟨hi, rfl⟩ := hi
    have hq : q1[i]? = some (some (files.getD i (Str.ofString "")), words.getD i (Str.ofString "")) := by
      rw [← hq1, List.getElem?_map, List.getElem?_range hi]; rfl
    have hb' := asksL_get M dirs q1 μ i _ hq
    rw [List.getElem?_map, hb'] at h2
    cases h2
    have hbit := (Bits.memo M dirs (q1.take i) hb).ask M dirs (some (files.getD i (Str.ofString ""))) (words.getD i (Str.ofString ""))
    refine pr_call gs kp_type h4 (prs_cons h4 (PR.conv (Q1 := fun h => Rdr prog w C h r M dirs (memoL M dirs μ (q1.take (i + 1))) (k + (i + 1))) (pr_names (μ := memoL M dirs μ (q1.take i)) (k := k + i) (file := some (files.getD i (Str.ofString ""))) (m := words.getD i (Str.ofString "")) X ok hN kN (pe_name rfl) (pe_at D.str (Str.ofString "") (pe_name rfl) (pe_name rfl) (by omega) (by omega)) (pe_at D.str (Str.ofString "") (pe_name rfl) (pe_name rfl) (by omega) (by omega)) (h3 _ hgV) (hrd _ (by omega))) (fun h x => x) (fun h x => ?_)) prs_nil) (cl_str_int ?_ ?_) (hstay _ _)
    · rw [take_snoc hq, memoL_snoc]; exact x
    · rcases hbit with h | h <;> rw [h] <;> decide
    · rcases hbit with h | h <;> rw [h] <;> decide
  · have hjl : ((((asksL M dirs μ q1).map strI) ++ ((asksL M dirs (memoL M dirs μ q1) q2).map strI)).map (·.length)).sum ≤ 200 := by
      rw [List.map_append, List.sum_append, bits_sum bits1, bits_sum bits2, al1, al2, l1, l2]; omega
    have hout : askedS M dirs μ files words file = Txt.join (Str.ofString "") (((asksL M dirs μ q1).map strI) ++ ((asksL M dirs (memoL M dirs μ q1) q2).map strI)) := by
      unfold askedS; rw [hqa, asksL_app, List.map_append]
    rw [hout, hqa, memoL_app] at q
    have hW0 : WOk _ _ [r.g] := b.wok
    refine bo_retr (O' := [(r.g, orr prog w C r M dirs (memoL M dirs (memoL M dirs μ q1) q2) (k + 2 * words.length))]) hA b (.head _) (PR.conv (P := fun h => Rdr prog w C h r M dirs (memoL M dirs μ q1) (k + words.length)) (P' := fun h => Rdr prog w C h r M dirs (memoL M dirs (memoL M dirs μ q1) q2) (k + 2 * words.length))
      (pr_meth pe_str (mt_str F.slot_str_join F.type_str_join) (hstay _ _) hW0 (prs_cons hW0 (PR.to (d' := .list (dStrs (((asksL M dirs μ q1).map strI) ++ ((asksL M dirs (memoL M dirs μ q1) q2).map strI)))) (pr_bin hW0 (PE.r (pe_name rfl) (hstay _ _)) (PR.conv (pr_comp (W := [r.g]) D.str D.str (l := words) (outl := (asksL M dirs (memoL M dirs μ q1) q2).map strI) (J := fun i h => Rdr prog w C h r M dirs (memoL M dirs (memoL M dirs μ q1) (q2.take i)) (k + words.length + i)) (fp := r.g :: r.fp)
        (by rw [List.length_map, al2, l2]) (Rdr.keeps r M dirs _ _) hW0 (it_list (pe_name rfl)) (compOk_of rfl) (.inl rfl) (fun C' V' i a bb h1 h2 h3 h4 => ?_) (by omega)) (fun h x => x) (fun h x => ?_)) (b2_app ?_) (hstay _ _)) ?_) prs_nil) (mc_join ?_) (hstay _ _)) (fun h x => (x _ (.head _)).2.2.2) (fun h x p hp => ?_)) rfl q
    · have hlt : i < words.length := (List.getElem?_eq_some_iff.mp h1).1
      have hq : q2[i]? = some (file, a) := by rw [← hq2, List.getElem?_map, h1]; rfl
      have hb' := asksL_get M dirs q2 (memoL M dirs μ q1) i _ hq
      rw [List.getElem?_map, hb'] at h2
      cases h2
      have hbit := (Bits.memo M dirs (q2.take i) hbm).ask M dirs file a
      refine pr_call gs kp_type h4 (prs_cons h4 (PR.conv (Q1 := fun h => Rdr prog w C h r M dirs (memoL M dirs (memoL M dirs μ q1) (q2.take (i + 1))) (k + words.length + (i + 1))) (pr_names (μ := memoL M dirs (memoL M dirs μ q1) (q2.take i)) (k := k + words.length + i) (file := file) (m := a) X ok hN kN (pe_name rfl) (pe_name rfl) (pe_name rfl) (h3 _ hgV) (hrd _ (by omega))) (fun h x => x) (fun h x => ?_)) prs_nil) (cl_str_int ?_ ?_) (hstay _ _)
      · rw [take_snoc hq, memoL_snoc]; exact x
      · rcases hbit with h | h <;> rw [h] <;> decide
      · rcases hbit with h | h <;> rw [h] <;> decide
    · have x : Rdr prog w C h r M dirs (memoL M dirs (memoL M dirs μ q1) (q2.take words.length)) (k + words.length + words.length) := x
      rw [← l2, List.take_length, l2] at x
      rw [show k + 2 * words.length = k + words.length + words.length by omega]; exact x
    · rw [List.length_map, List.length_map, List.length_map, List.length_map, al1, al2]; omega
    · show D.list _ = D.list (dStrs (_ ++ _)); unfold dStrs; rw [List.map_append]
    · show _ + _ * 0 ≤ _; omega
    · rw [List.mem_singleton.mp hp]
      exact ⟨hgV, rfl, hfp, x⟩
end
end

section
theorem range_split {α : Type} (F : Nat → α) {k m : Nat} (h : k < m) : (List.range m).map F = (List.range k).map F ++ F k :: ((List.range (m - k - 1)).map fun i => F (k + 1 + i)) := by
  obtain ⟨j, rfl⟩ : ∃ j, m = k + (1 + j) := ⟨m - k - 1, by omega⟩
  rw [List.range_add, List.map_append, List.range_add, List.map_append, List.map_append, List.map_map, List.map_map, List.map_map]
  congr 1
  have e : k + (1 + j) - k - 1 = j := by omega
  rw [e]
  show F (k + 0) :: _ = _
  congr 1
  apply List.map_congr_left
  intro i _
  show F (k + (1 + i)) = _
  congr 1; omega
theorem range_set {α : Type} (F F' : Nat → α) {k m : Nat} (h : k < m) (hF : ∀ i, i ≠ k → F' i = F i) : (List.range k).map F ++ F' k :: ((List.range (m - k - 1)).map fun i => F (k + 1 + i)) = (List.range m).map F' := by
  rw [range_split F' h]
  congr 1
  · apply List.map_congr_left
    intro i hi
    have := List.mem_range.mp hi
    exact (hF i (by omega)).symm
  · congr 1
    apply List.map_congr_left
    intro i _
    exact (hF _ (by omega)).symm
section
variable {prog : Program} {w : World} {h₀ : Heap} {n : Nat} {env : Env} {V W : List Addr} {ρ : List (Str × D)} {s0 : Shared} {KK : Frag} {C fI fN : Addr}

/-- the lists of the hands -/
noncomputable def nO (adr : Nat → Addr) (N : Nat → List Nat) : List (Addr × Ow) := (List.range 6).map fun i => (adr i, ol (dNs (N i)))
theorem nO_split (adr : Nat → Addr) (N : Nat → List Nat) {k : Nat} (h : k < 6) : nO adr N = (List.range k).map (fun i => (adr i, ol (dNs (N i)))) ++ (adr k, ol (dNs (N k))) :: ((List.range (6 - k - 1)).map fun i => (adr (k + 1 + i), ol (dNs (N (k + 1 + i))))) := range_split _ h
theorem nO_set (adr : Nat → Addr) (N : Nat → List Nat) (x : Nat) {k : Nat} (h : k < 6) : (List.range k).map (fun i => (adr i, ol (dNs (N i)))) ++ (adr k, ol (dNs (N k) ++ [dN x])) :: ((List.range (6 - k - 1)).map fun i => (adr (k + 1 + i), ol (dNs (N (k + 1 + i))))) = nO adr (fun i => if i = k then N i ++ [x] else N i) := by
  have := range_set (fun i => (adr i, ol (dNs (N i)))) (fun i => (adr i, ol (dNs (if i = k then N i ++ [x] else N i)))) h (fun i hi => by rw [if_neg hi])
  unfold nO
  rw [← this, if_pos rfl]
  unfold dNs
  rw [List.map_append]; rfl

theorem rowN_nil (bits w : Nat) (N : Nat → List Nat) : rowN bits w N ([] : List D).length = N := rfl

/-- near[v].append(x) -/
theorem bo_nadd {ve xe : Expr} {np sp apos pos spos : Pos} {B : List (List Addr × Shared)} {adr : Nat → Addr} {N : Nat → List Nat} {v x : Nat} {rest : List Stmt} {A : Around} {s : Shared} {E : Value → Shared → Prop} {Q : Flow → Shared → Prop} (hA : AOk n A) (b : Bo h₀ B env V ρ (nO adr N) s) (hv : v < 6) (hN : (N v).length ≤ 100)
    (hn : PE prog w h₀ n env V ρ (.Name "near" np) (.list ((List.range 6).map fun i => .obj (adr i)))) (hve : PE prog w h₀ n env V ρ ve (dN v)) (hxe : PE prog w h₀ n env V ρ xe (dN x))
    (q : ∀ s', Bo h₀ B env V ρ (nO adr fun i => if i = v then N i ++ [x] else N i) s' → wpAny (model prog w) A (execs rest env) Q E s')
    (hs : autoParam (∀ o i', subscripted ve false o i' = operate [o, i'] (getItem o i')) tacIntroUnf)
    (hbase : autoParam (attributeBase (.Subscript (.Name "near" np) ve sp) "append" env (eval (.Subscript (.Name "near" np) ve sp) env) = eval (.Subscript (.Name "near" np) ve sp) env) tacRfl)
    (hst : autoParam (starEach [xe] env = [(false, eval xe env)]) tacRfl) (hi : autoParam (interactive env = false) tacRfl) (hsw : autoParam (swapsWith (.Call (.Attribute (.Subscript (.Name "near" np) ve sp) "append" apos) [xe] [] pos) none spos.line env = pure false) tacRfl) (hline : autoParam ((apos.endLine == pos.line) = true) tacRfl) :
    wpAny (model prog w) A (execs (.Expr (.Call (.Attribute (.Subscript (.Name "near" np) ve sp) "append" apos) [xe] [] pos) spos :: rest) env) Q E s := by
  have hline' : sizeLine = 16777216 := rfl
  rw [nO_split adr N hv] at b
  refine bo_appendr hA b (pe_sub hn hve .list (gi_list (by show (0 : Int) ≤ (v : Int); omega) ?_ (by rw [List.length_map, List.length_range]; omega)) hs) (PE.r hxe stays_own) (by rw [List.length_map]; omega) (fun s' b => ?_) hbase hst hi hsw hline
  · rw [Int.toNat_natCast, List.getElem?_map, List.getElem?_range hv]; rfl
  · rw [nO_set adr N x hv] at b
    exact q s' b

set_option maxHeartbeats 4000000 in
theorem cl_law_near {f : Addr} {name qual bind : Str} {params : Arguments} {body : List Stmt} {scope : Scope} {kV doc pm cdv ct : Value} {an : Option Addr} {deco : List Expr} {tp : List TypeParam} {ts : Option Scope} {ret : Option Expr} {pos : Pos}
    (hdef : PySem.Challenge.pw_pu0003_02.main.body[17]? = some (.FunctionDef name params body deco ret tp scope ts bind pos))
    (K : Fn h₀ f (fnOf name qual params body scope .none kV doc pm an cdv ct) body) (hlim : h₀.NoLimit) (gr : GV h₀ "range" (.type "range")) {bits : Nat} : CL prog w h₀ (n + 1) V (.ref f) [.int bits] (netD (netL bits)) := by
  injection hdef with hdef
  injection hdef with h1 h2 h3 h4 h5 h6 h7 h8 h9
  subst h1 h2 h3 h4 h5 h6 h7 h8 h9
  have hline : sizeLine = 16777216 := rfl
  refine cl_fno (params := ["bits"]) K hlim (fun vals h => ?_) rfl (by decide) (by intro x hx; rw [List.mem_singleton.mp hx]; exact .inl rfl) fun A s s₁ L U E Q hA hU b q => ?_
  · obtain ⟨_, rfl⟩ := vals1 h; rfl
  refine @bo_newn prog w h₀ n _ _ _ _ _ _ _ _ _ _ _ A _ E Q hA b (by intro e he; simp only [List.mem_cons, List.not_mem_nil, or_false] at he; rcases he with rfl | rfl | rfl | rfl | rfl | rfl <;> exact ⟨_, rfl⟩) (by decide) (.inl rfl) (fun as s₂ hl hn b => ?_) rfl
  have hl : as.length = 6 := hl
  obtain ⟨adr, hadr⟩ : ∃ adr : Nat → Addr, adr = fun i => as.reverse.getD i 0 := ⟨_, rfl⟩
  have hrev : as.reverse = (List.range 6).map adr := by
    apply List.ext_getElem?
    intro i
    by_cases hi : i < 6
    · rw [List.getElem?_map, List.getElem?_range hi, hadr, List.getElem?_eq_getElem (by rw [List.length_reverse, hl]; exact hi)]
      show _ = some (as.reverse.getD i 0)
      rw [List.getD_eq_getElem?_getD, List.getElem?_eq_getElem (by rw [List.length_reverse, hl]; exact hi)]; rfl
    · rw [List.getElem?_eq_none (by rw [List.length_reverse, hl]; omega), List.getElem?_eq_none (by rw [List.length_map, List.length_range]; omega)]
  have hfa : ∀ i, i < 6 → adr i ∉ U ++ V := fun i hi => hn _ (by rw [← List.mem_reverse, hrev]; exact List.mem_map_of_mem (List.mem_range.mpr hi))
  have e1 : as.reverse.map D.obj = (List.range 6).map fun i => .obj (adr i) := by rw [hrev, List.map_map]; rfl
  have e2 : (onew0 as ++ []).Perm (nO adr (netN bits 0)) := by
    rw [List.append_nil]
    have : nO adr (netN bits 0) = onew0 as.reverse := by rw [hrev]; unfold nO onew0; rw [List.map_map]; rfl
    rw [this]
    exact ((List.reverse_perm as).map _).symm
  rw [e1] at b
  have b := b.perm e2
  have hV0 : ∀ i, i < 6 → adr i ∈ as ++ (U ++ V) := fun i hi => List.mem_append_left _ (by rw [← List.mem_reverse, hrev]; exact List.mem_map_of_mem (List.mem_range.mpr hi))
  have nOV : ∀ (V' : List Addr) (N : Nat → List Nat), (∀ i, i < 6 → adr i ∈ V') → ∀ p ∈ nO adr N, p.1 ∈ V' := fun V' N h p hp => by
    obtain ⟨i, hi, rfl⟩ := List.mem_map.mp hp
    exact h i (List.mem_range.mp hi)
  refine bo_for hA b (it_to (it_range1 gr (k := 6) (by walk_at "pe") (by decide) (by decide)) (rangeZ_nat 6)) (ta_name (.inl rfl)) (fun _ _ => trivial) (fun a ha => wAddr_own ha)
    (fun pre => [("near", .list ((List.range 6).map fun i => .obj (adr i))), ("bits", .int (bits / 2 ^ tri pre.length : Nat))]) (fun pre => nO adr (netN bits pre.length)) (fun x d h => ?_) rfl (fun pre p hp => nOV _ _ hV0 p hp) (fun I pre d post s₃ E' hds hI b => ?_) fun s₃ b => ?_
  · have e : ((bits / 2 ^ tri ([] : List D).length : Nat) : Int) = (bits : Int) := by
      show ((bits / 2 ^ 0 : Nat) : Int) = _
      rw [Nat.pow_zero, Nat.div_one]
    rw [e] at h; exact h
  · obtain ⟨rfl, hlt⟩ := range_at hds
    have el : (pre ++ [dN pre.length]).length = pre.length + 1 := by simp
    simp only [el]
    generalize pre.length = wv at *
    have iv := netIv_net bits wv
    refine bo_for hA b (it_to (it_range1 gr (k := (wv : Int)) (pe_name rfl) (by omega) (by omega)) (rangeZ_nat wv)) (ta_name (.inl rfl)) (fun _ _ => trivial) (fun a ha => wAddr_own ha)
      (fun pre => [("near", .list ((List.range 6).map fun i => .obj (adr i))), ("bits", .int (bits / 2 ^ (tri wv + pre.length) : Nat)), ("w", dN wv)]) (fun pre => nO adr (rowN bits wv (netN bits wv) pre.length)) ?_ (congrArg (nO adr) (rowN_nil bits wv (netN bits wv))) (fun pre p hp => nOV _ _ (fun i hi => .tail _ (hV0 i hi)) p hp) (fun I2 pre2 d2 post2 s₄ E2 hds2 hI2 b => ?_) fun s₄ b => ?_
    · repeat (first | exact sub_nil | refine sub_cons rfl ?_)
    · obtain ⟨rfl, hlt2⟩ := range_at hds2
      have el2 : (pre2 ++ [dN pre2.length]).length = pre2.length + 1 := by simp
      simp only [el2]
      generalize pre2.length = v at *
      have ivr := netIv_row bits wv iv v (by omega)
      have hlen : ∀ i, (rowN bits wv (netN bits wv) v i).length ≤ 50 := fun i => Nat.le_trans (ivr.len i) (by (repeat' split) <;> omega)
      have hvw : v ≠ wv := by omega
      have hfm : ((bits / 2 ^ (tri wv + v) : Nat) : Int).fmod 2 = ((bits / 2 ^ (tri wv + v) % 2 : Nat) : Int) := fmodN _ 2
      have hfd : ((bits / 2 ^ (tri wv + v) : Nat) : Int).fdiv 2 = ((bits / 2 ^ (tri wv + (v + 1)) : Nat) : Int) := by
        have := fdivN (bits / 2 ^ (tri wv + v)) 2
        rw [Nat.div_div_eq_div_mul, ← Nat.pow_succ] at this
        exact this
      refine bo_ifo (c := bitN bits (tri wv + v)) hA b [("v", dN v), ("near", .list ((List.range 6).map fun i => .obj (adr i))), ("bits", .int (bits / 2 ^ (tri wv + v) : Nat)), ("w", dN wv)] (nO adr (rowN bits wv (netN bits wv) (v + 1))) (PT.to (by walk_at "cmp") ?_) (fun hc s₅ b => ?_) (fun hc s₅ b => ?_) fun s₅ b => ?_
      · rw [hfm]
        unfold bitN
        apply Bool.eq_iff_iff.mpr
        rw [beq_iff_eq, beq_iff_eq]; omega
      · refine bo_nadd (v := v) (x := wv) hA b (by omega) (by have := hlen v; omega) (pe_name rfl) (pe_name rfl) (pe_name rfl) fun s b => ?_
        refine bo_nadd (v := wv) (x := v) hA b (by omega) (by have := hlen wv; rw [if_neg (Ne.symm hvw)]; omega) (pe_name rfl) (pe_name rfl) (pe_name rfl) fun s b => ?_
        refine ex_nil ⟨rfl, ?_⟩
        have e : (fun i => if i = wv then (if i = v then rowN bits wv (netN bits wv) v i ++ [wv] else rowN bits wv (netN bits wv) v i) ++ [v] else (if i = v then rowN bits wv (netN bits wv) v i ++ [wv] else rowN bits wv (netN bits wv) v i)) = rowN bits wv (netN bits wv) (v + 1) := by
          funext i
          show _ = addE (rowN bits wv (netN bits wv) v) v wv (bitN bits (tri wv + v)) i
          rw [hc]
          unfold addE
          by_cases h1 : i = wv
          · subst h1; rw [if_pos rfl, if_neg (Ne.symm hvw), if_pos rfl, if_neg (Ne.symm hvw), if_pos rfl]
          · rw [if_neg h1]
            by_cases h2 : i = v
            · rw [if_pos h2, if_pos rfl, if_pos h2]
            · rw [if_neg h2, if_pos rfl, if_neg h2, if_neg h1]
        rw [e] at b
        exact b.names (by repeat (first | exact sub_nil | refine sub_cons rfl ?_))
      · refine ex_nil ⟨rfl, ?_⟩
        have e : rowN bits wv (netN bits wv) v = rowN bits wv (netN bits wv) (v + 1) := by
          show _ = addE (rowN bits wv (netN bits wv) v) v wv (bitN bits (tri wv + v))
          rw [hc]; rfl
        rw [e] at b
        exact b.names (by repeat (first | exact sub_nil | refine sub_cons rfl ?_))
      · refine bo_aug hA b rfl (by walk_at "pe") (i2_div (by decide) (by decide)) (.inl rfl) fun s b => ?_
        rw [hfd] at b
        exact ex_nil (b.names (by repeat (first | exact sub_nil | refine sub_cons rfl ?_)))
    · rw [List.length_map, List.length_range, tri_next wv (by omega)] at b
      exact ex_nil (b.names (by repeat (first | exact sub_nil | refine sub_cons rfl ?_)))
  · rw [List.length_map, List.length_range] at b
    have e : as ++ (U ++ V) = (as ++ U) ++ V := (List.append_assoc ..).symm
    rw [e] at b
    refine bo_retn (V' := []) (l := List.range 6) (f := adr) (g := fun i => dNs (netN bits 6 i)) hA b (.head _) rfl (fun i hi => List.mem_map_of_mem hi) (fun i hi h => hfa i (List.mem_range.mp hi) (List.mem_append_right _ h)) (fun i _ d hd => by obtain ⟨x, _, rfl⟩ := List.mem_map.mp hd; trivial) (fun v s' V' h1 h2 h3 h4 r => q v s' V' h1 h2 h3 h4 ?_) (pe_name rfl)
    unfold netD netL
    rw [List.map_map]; exact r
end
end

section
theorem reach_len (N : Net) (src : Nat) : ∀ k, (reachF N src k).length ≤ 6
  | 0 => by show 1 ≤ 6; decide
  | k + 1 => Nat.le_trans (List.length_filter_le _ _) (by rw [List.length_range]; exact Nat.le_refl _)
theorem reach_lt {N : Net} {src : Nat} (hs : src < 6) : ∀ k, ∀ v ∈ reachF N src k, v < 6
  | 0, v, h => by rw [List.mem_singleton.mp h]; exact hs
  | k + 1, v, h => List.mem_range.mp (List.mem_filter.mp h).1
section
variable {prog : Program} {w : World} {h₀ : Heap} {n : Nat} {env : Env} {V W : List Addr} {ρ : List (Str × D)} {s0 : Shared} {KK : Frag} {C fI fN : Addr}

theorem map_same {α : Type} (l : List α) : l.map (fun x => x) = l := List.map_id' l

set_option maxHeartbeats 4000000 in
theorem cl_law_painted {f : Addr} {name qual bind : Str} {params : Arguments} {body : List Stmt} {scope : Scope} {kV doc pm cdv ct : Value} {an : Option Addr} {deco : List Expr} {tp : List TypeParam} {ts : Option Scope} {ret : Option Expr} {pos : Pos}
    (hdef : PySem.Challenge.pw_pu0003_02.main.body[21]? = some (.FunctionDef name params body deco ret tp scope ts bind pos))
    (K : Fn h₀ f (fnOf name qual params body scope .none kV doc pm an cdv ct) body) (hlim : h₀.NoLimit) (gr : GV h₀ "range" (.type "range")) {N : Net} (ok : NetOk N) {src : Nat} (hs : src < 6) : CL prog w h₀ (n + 1) V (.ref f) [netD N, dN src] (.bool (paintF N src)) := by
  injection hdef with hdef
  injection hdef with h1 h2 h3 h4 h5 h6 h7 h8 h9
  subst h1 h2 h3 h4 h5 h6 h7 h8 h9
  have hline : sizeLine = 16777216 := rfl
  refine cl_fno (params := ["near", "source"]) K hlim (fun vals h => ?_) rfl (by decide) (by intro x hx; simp only [List.mem_cons, List.not_mem_nil, or_false] at hx; rcases hx with rfl | rfl; exact .inr rfl; exact .inl rfl) fun A s s₁ L U E Q hA hU b q => ?_
  · obtain ⟨_, _, rfl⟩ := vals2 h; rfl
  refine bo_assign (d := .list (dNs (reachF N src 0))) hA b (pe_list (pes_cons (pe_name rfl) pes_nil) (Nat.le_of_ble_eq_true rfl)) (.inr ⟨rfl, rfl⟩) fun s b => ?_
  refine bo_for hA b (it_to (it_range1 gr (k := 5) (by walk_at "pe") (by decide) (by decide)) (rangeZ_nat 5)) (ta_name (.inl rfl)) (fun _ _ => trivial) (fun a ha => wAddr_own ha)
    (fun pre => [("near", netD N), ("reach", .list (dNs (reachF N src pre.length)))]) (fun _ => []) (by repeat (first | exact sub_nil | refine sub_cons rfl ?_)) rfl (fun pre p hp => nomatch hp) (fun I pre d post s₃ E' hds hI b => ?_) fun s₃ b => ?_
  · obtain ⟨rfl, hlt⟩ := range_at hds
    have el : (pre ++ [dN pre.length]).length = pre.length + 1 := by simp
    simp only [el]
    generalize pre.length = k at *
    have hrl := reach_len N src k
    refine bo_assign (d := .list (dNs (reachF N src (k + 1)))) hA b (PE.to (pef_cf (l := List.range 6) (t := fun w => (reachF N src k).contains w || !((nb N w).filter fun v => (reachF N src k).contains v).isEmpty) (f := fun w => w) dN D.n dN_n dN (it_to (it_range1 gr (k := 6) (by walk_at "pe") (by decide) (by decide)) (rangeZ_nat 6)) (compOk_of rfl) (.inl rfl) (fun C' V' w hw => ts_one (pt_bool (pts_or (pt_cmp (pe_name rfl) (pe_name rfl) c2_in_nats) fun _ => pts_last ?_))) (fun C' V' w hw _ => pe_name rfl) (by decide)).pe ?_) (.inr ⟨rfl, rfl⟩) fun s b => ?_
    · have hw := List.mem_range.mp hw
      refine PT.to (pt_cmp (pef_cf (l := nb N w) (t := fun v => (reachF N src k).contains v) (f := fun v => v) dN D.n dN_n dN (it_list (pe_nb ok hw (pe_name rfl) (pe_name rfl))) (compOk_of rfl) (.inl rfl) (fun C' V' v hv => ts_one (pt_cmp (pe_name rfl) (pe_name rfl) c2_in_nats)) (fun C' V' v hv _ => pe_name rfl) (by have := ok.short w; omega)).pe (pe_list pes_nil (Nat.le_of_ble_eq_true rfl)) c2_ne_nil) ?_
      rw [map_same]
      cases (nb N w).filter fun v => (reachF N src k).contains v <;> rfl
    · rw [map_same]; rfl
    · exact ex_nil (b.names (by repeat (first | exact sub_nil | refine sub_cons rfl ?_)))
  · have e : ((List.range 5).map dN).length = 5 := by decide
    rw [e] at b
    have hrl := reach_len N src 5
    have hnb : ∀ v, (nb N v).length ≤ 5 := ok.short
    refine bo_assign (d := .list ((tiesF N src).map pairD)) hA b (pef_nn (l := reachF N src 5) (l2 := nb N) (t := fun v w => decide (v < w)) (it_list (pe_name rfl)) (compOk_of rfl) (.inl rfl) (.inl rfl) (by decide) (fun C' V' v hv => it_list (pe_nb ok (reach_lt hs 5 v hv) (pe_name rfl) (pe_name rfl))) (fun C' V' v u hv hu => ts_one (PT.to (pt_cmp (pe_name rfl) (pe_name rfl) c2_lt_int) ?_)) (fun C' V' v u hv hu => pe_tuple (pes_cons (pe_name rfl) (pes_cons (pe_name rfl) pes_nil)) (Nat.le_of_ble_eq_true rfl)) (by omega) (fun v _ => by have := hnb v; omega)).pe (.inr ⟨rfl, rfl⟩) fun s b => ?_
    · apply decide_eq_decide.mpr; omega
    have htl : (tiesF N src).length ≤ 5 * 6 := by
      unfold tiesF
      refine Nat.le_trans (flat_len _ 5 _ fun v _ => ?_) (Nat.mul_le_mul_left _ hrl)
      rw [List.length_map]; exact Nat.le_trans (List.length_filter_le _ _) (hnb v)
    have htm : ∀ p ∈ tiesF N src, p.1 < 6 ∧ p.2 < 6 := fun p hp => by
      have := mem_ties.mp (show (p.1, p.2) ∈ tiesF N src from hp)
      exact ⟨reach_lt hs 5 _ this.1, nb_lt ok (ok.sym _ _ this.2.1)⟩
    refine bo_ret hA b (.head _) (PE.to (pe_cmp (pef_cf (l := List.range 32) (t := fun c => ((tiesF N src).filter fun p => c / 2 ^ p.1 % 2 == c / 2 ^ p.2 % 2).isEmpty) (f := fun c => c) dN D.n dN_n dN (it_to (it_range1 gr (k := 32) (by walk_at "pe") (by decide) (by decide)) (rangeZ_nat 32)) (compOk_of rfl) (.inr rfl) (fun C' V' c hc => ts_one (PT.to (pt_cmp (pef_pp (l := tiesF N src) (t := fun p => c / 2 ^ p.1 % 2 == c / 2 ^ p.2 % 2) (f := fun p => p.1) dN (it_list (pe_name rfl)) (compOk_of rfl) (.inl rfl) (.inl rfl) (fun C2 V2 p hp => ts_one ?_) (fun C2 V2 p hp _ => pe_name rfl) (by omega)).pe (pe_list pes_nil (Nat.le_of_ble_eq_true rfl)) c2_eq_nil) ?_)) (fun C' V' c hc _ => pe_name rfl) (by decide)).pe (pe_list pes_nil (Nat.le_of_ble_eq_true rfl)) c2_ne_nil) ?_) q
    · have hp6 := htm p hp
      have hpow : ∀ v : Nat, v < 6 → (2 : Int) ^ ((v : Int)).toNat = ((2 ^ v : Nat) : Int) ∧ 0 < 2 ^ v ∧ 2 ^ v ≤ 32 := fun v hv => by
        refine ⟨by rw [Int.toNat_natCast, Int.natCast_pow]; rfl, Nat.pow_pos (by decide), ?_⟩
        exact Nat.le_trans (Nat.pow_le_pow_right (by decide) (show v ≤ 5 by omega)) (by decide)
      obtain ⟨a1, a2, a3⟩ := hpow p.1 hp6.1
      obtain ⟨c1, c2, c3⟩ := hpow p.2 hp6.2
      refine PT.to (pt_cmp (pe_bin (pe_bin (pe_name rfl) (pe_bin pe_int (pe_name rfl) (b2_pow (by omega) (by decide) (by omega))) (b2_div (by omega) (by omega))) pe_int (b2_mod (by decide))) (pe_bin (pe_bin (pe_name rfl) (pe_bin pe_int (pe_name rfl) (b2_pow (by omega) (by decide) (by omega))) (b2_div (by omega) (by omega))) pe_int (b2_mod (by decide))) c2_eq_int) ?_
      rw [a1, c1, fdivN, fdivN]
      have m1 := fmodN (c / 2 ^ p.1) 2
      have m2 := fmodN (c / 2 ^ p.2) 2
      apply Bool.eq_iff_iff.mpr
      rw [beq_iff_eq, beq_iff_eq]
      show ((c / 2 ^ p.1 : Nat) : Int).fmod ((2 : Nat) : Int) = ((c / 2 ^ p.2 : Nat) : Int).fmod ((2 : Nat) : Int) ↔ _
      rw [m1, m2]; omega
    · cases (tiesF N src).filter fun p => c / 2 ^ p.1 % 2 == c / 2 ^ p.2 % 2 <;> rfl
    · unfold paintF
      rw [map_same]
      cases (List.range 32).filter fun c => ((tiesF N src).filter fun p => c / 2 ^ p.1 % 2 == c / 2 ^ p.2 % 2).isEmpty <;> rfl
end
end

section
section
variable {prog : Program} {w : World} {h₀ : Heap} {n : Nat} {env : Env} {V W : List Addr} {ρ : List (Str × D)} {s0 : Shared} {KK : Frag} {C fI fN : Addr}

/-- lines stuffed by a round's dots -/
theorem lines_bound {L : List (List Nat)} {k t : Nat} (x : LinesOk L k) (hk : k ≤ 1000) : (((L.map ms').map (bodyS t)).map (·.length)).sum ≤ (t + 1000) * 1001 ∧ L.length ≤ 1001 := by
  have h1 := x.sum
  have hl : L.length ≤ 1001 := by omega
  refine ⟨?_, hl⟩
  rw [List.map_map]
  refine Nat.le_trans (sum_le _ (t + 1000) (L.map ms') fun a ha => ?_) (Nat.mul_le_mul_left _ (by rw [List.length_map]; exact hl))
  obtain ⟨q, hq, rfl⟩ := List.mem_map.mp ha
  have := x.len hq
  have h2 := body_len t (ms' q)
  rw [ms_len] at h2
  show (bodyS t (ms' q)).length ≤ _
  omega

set_option maxHeartbeats 8000000 in
theorem cl_law_walks {f : Addr} {name qual bind : Str} {params : Arguments} {body : List Stmt} {scope : Scope} {kV doc pm cdv ct : Value} {an : Option Addr} {deco : List Expr} {tp : List TypeParam} {ts : Option Scope} {ret : Option Expr} {pos : Pos}
    (hdef : PySem.Challenge.pw_pu0003_02.main.body[20]? = some (.FunctionDef name params body deco ret tp scope ts bind pos))
    (K : Fn h₀ f (fnOf name qual params body scope .none kV doc pm an cdv ct) body) (hlim : h₀.NoLimit) (gr : GV h₀ "range" (.type "range")) {N : Net} (ok : NetOk N) {src : Nat} (hs : src < 6) {text : Str} (ht : text.length ≤ 100) :
    CL prog w h₀ (n + 1) V (.ref f) [.list (dStrs handsL), netD N, dN src, .str text] (.list (walksD N src (linesL (sl text)))) := by
  injection hdef with hdef
  injection hdef with h1 h2 h3 h4 h5 h6 h7 h8 h9
  subst h1 h2 h3 h4 h5 h6 h7 h8 h9
  have hline : sizeLine = 16777216 := rfl
  refine cl_fno (params := ["hands", "near", "source", "text"]) K hlim (fun vals h => ?_) rfl (by decide) (by intro x hx; simp only [List.mem_cons, List.not_mem_nil, or_false] at hx; rcases hx with rfl | rfl | rfl | rfl <;> first | exact .inl rfl | exact .inr rfl) fun A s s₁ L U E Q hA hU b q => ?_
  · obtain ⟨_, _, _, _, rfl⟩ := vals4 h; rfl
  refine bo_newq (ds := [dL (walkF N src 0)]) hA b (pes_cons (pe_list (pes_cons (pe_name rfl) pes_nil) (Nat.le_of_ble_eq_true rfl)) pes_nil) (Nat.le_of_ble_eq_true rfl) (.inr ⟨rfl, rfl⟩) fun aw s haw b => ?_
  refine bo_newq (ds := [dL (freshF N src 0)]) hA b (pes_cons (pe_list (pes_cons (pe_name rfl) pes_nil) (Nat.le_of_ble_eq_true rfl)) pes_nil) (Nat.le_of_ble_eq_true rfl) (.inr ⟨rfl, rfl⟩) fun af s haf b => ?_
  have hno : ∀ p ∈ [(af, ol [dL (freshF N src 0)]), (aw, ol [dL (walkF N src 0)])], _ := fun p hp => (b.onew p hp).2.1
  have hnf := hno _ (.head _)
  have hnw := hno _ (.tail _ (.head _))
  have hfw : ∀ k, ((List.range (k + 1)).map fun t => dL (walkF N src t)) ++ [dL (walkF N src (k + 1))] = (List.range (k + 1 + 1)).map fun t => dL (walkF N src t) := fun k => by rw [List.range_succ (n := k + 1), List.map_append]; rfl
  have hff : ∀ k, ((List.range (k + 1)).map fun t => dL (freshF N src t)) ++ [dL (freshF N src (k + 1))] = (List.range (k + 1 + 1)).map fun t => dL (freshF N src t) := fun k => by rw [List.range_succ (n := k + 1), List.map_append]; rfl
  refine bo_for hA b (it_to (it_range1 gr (k := 12) (by walk_at "pe") (by decide) (by decide)) (rangeZ_nat 12)) (ta_name (.inr ⟨rfl, rfl⟩)) (fun _ _ => trivial) (fun a ha => wAddr_own ha)
    (fun pre => [("walks", .obj aw), ("fresh", .obj af), ("hands", .list (dStrs handsL)), ("near", netD N), ("text", .str text)]) (fun pre => [(af, ol ((List.range (pre.length + 1)).map fun t => dL (freshF N src t))), (aw, ol ((List.range (pre.length + 1)).map fun t => dL (walkF N src t)))])
    (by repeat (first | exact sub_nil | refine sub_cons rfl ?_)) rfl (fun pre p hp => ?_) (fun I pre d post s₃ E' hds hI b => ?_) fun s b => ?_
  · simp only [List.mem_cons, List.not_mem_nil, or_false] at hp
    rcases hp with rfl | rfl
    · exact .head _
    · exact .tail _ (.head _)
  · obtain ⟨rfl, hlt⟩ := range_at hds
    have el : (pre ++ [dN pre.length]).length = pre.length + 1 := by simp
    simp only [el]
    generalize pre.length = k at *
    have hnbl := ok.short
    have hwl := walk_len N src
    have zk : ∀ {F : Nat → D} (j : Nat), j ≤ 14 → ((List.range j).map F).length ≤ sizeLine := fun j hj => sz_map (sz_range (szN hj))
    have zf : ∀ {F : Nat → D}, ((List.range (k + 1)).map F).length ≤ sizeLine := zk (k + 1) (by omega)
    refine bo_appendr (O1 := [(af, _)]) (O2 := []) (d := dL (walkF N src (k + 1))) hA b (pe_name rfl) (px_thawL (x := "walks") (.tail _ (.head _)) rfl hnw (fun d hd => by obtain ⟨x, _, rfl⟩ := List.mem_map.mp hd; trivial) fun V' =>
      pef_f (l := List.range 6) (t := fun w => !((nb N w).filter fun v => (walkF N src k).contains v).isEmpty) (it_to (it_range1 gr (k := 6) (by walk_at "pe") (by decide) (by decide)) (rangeZ_nat 6)) (compOk_of rfl) (.inl rfl) (fun C' V' w hw => ts_one ?_) (by decide)) zf fun s b => ?_
    · have hw := List.mem_range.mp hw
      refine PT.to (pt_cmp (pef_f (l := nb N w) (t := fun v => (walkF N src k).contains v) (it_list (pe_nb ok hw (pe_name rfl) (pe_name rfl))) (compOk_of rfl) (.inl rfl) (fun C' V' v hv => ts_one (pt_cmp (pe_name rfl) (pe_sub (pe_name rfl) (pe_neg pe_int) .list (gi_list_neg (d := dL (walkF N src k)) (by decide) ?_ ?_ ?_)) c2_in_nats)) (szN (hnbl w))).pe (pe_list pes_nil (Nat.le_of_ble_eq_true rfl)) c2_ne_nil) ?_
      · rw [List.length_map, List.length_range]; omega
      · rw [List.length_map, List.length_range, show (-1 + ((k + 1 : Nat) : Int)).toNat = k by omega, List.getElem?_map, List.getElem?_range (by omega)]; rfl
      · exact zf
      · cases (nb N w).filter fun v => (walkF N src k).contains v <;> rfl
    rw [hfw k] at b
    refine bo_appendr (O1 := []) (O2 := [(aw, _)]) (d := dL (freshF N src (k + 1))) hA b (pe_name rfl) (px_thawL (x := "walks") (.tail _ (.head _)) rfl hnw (fun d hd => by obtain ⟨x, _, rfl⟩ := List.mem_map.mp hd; trivial) fun V' =>
      pef_f (l := walkF N src (k + 1)) (t := fun w => k == 0 || !(walkF N src (k - 1)).contains w) (it_list (pe_sub (pe_name rfl) (pe_neg pe_int) .list (gi_list_neg (d := dL (walkF N src (k + 1))) (by decide) ?_ ?_ ?_))) (compOk_of rfl) (.inl rfl) (fun C' V' w hw => ts_one (pt_bool (pts_or (PT.to (c' := k == 0) (pt_cmp (pe_name rfl) pe_int c2_eq_int) ?_) fun hk0 => pts_last (pt_cmp (pe_name rfl) (pe_sub (pe_name rfl) (pe_neg pe_int) .list (gi_list_neg (d := dL (walkF N src (k - 1))) (by decide) ?_ ?_ ?_)) c2_notin_nats)))) (szN (hwl (k + 1)))) zf fun s b => ?_
    · rw [List.length_map, List.length_range]; omega
    · rw [List.length_map, List.length_range, show (-1 + ((k + 1 + 1 : Nat) : Int)).toNat = k + 1 by omega, List.getElem?_map, List.getElem?_range (by omega)]; rfl
    · exact zk (k + 1 + 1) (by omega)
    · apply Bool.eq_iff_iff.mpr
      rw [beq_iff_eq, beq_iff_eq]; omega
    · have hk0 : k ≠ 0 := by simpa using hk0
      rw [List.length_map, List.length_range]; omega
    · have hk0 : k ≠ 0 := by simpa using hk0
      rw [List.length_map, List.length_range, show (-3 + ((k + 1 + 1 : Nat) : Int)).toNat = k - 1 by omega, List.getElem?_map, List.getElem?_range (by omega)]; rfl
    · exact zk (k + 1 + 1) (by omega)
    rw [List.nil_append, hff k] at b
    exact ex_nil (b.names (by repeat (first | exact sub_nil | refine sub_cons rfl ?_)))
  have e12 : ((List.range 12).map dN).length = 12 := by decide
  rw [e12] at b
  have b := b.freeze (O1 := []) (O2 := [(aw, _)]) (x := "fresh") (V' := aw :: (U ++ V)) rfl (fun c => ⟨fun h => ⟨.tail _ h, fun e => haf (e ▸ h)⟩, fun h => (List.mem_cons.mp h.1).resolve_left h.2⟩) (fun p hp => by rw [List.mem_singleton.mp hp]; exact List.not_mem_nil)
  have b := b.fewer (O' := []) (List.nil_sublist _)
  have hlo := lines_ok (sl text)
  rw [sl_len] at hlo
  have hr1 : (Txt.replace text (Str.ofString "\r\n") (Str.ofString "\n")).length ≤ 201 := ?_
  have hr2 : (Txt.replace (Txt.replace text (Str.ofString "\r\n") (Str.ofString "\n")) (Str.ofString "\r") (Str.ofString "\n")).length ≤ 403 := ?_
  refine bo_assign (d := .list (dStrs ((linesL (sl text)).map ms'))) hA b (PE.to (pe_meth (pe_replace (pe_replace (pe_name rfl) (by decide) (by show _ + _ * 1 ≤ _; omega)) (by decide) (by show _ + _ * 1 ≤ _; omega)) (mt_str F.slot_str_split F.type_str_split) (by walk_at "pes") (mc_split (by decide) (by omega) ?_)) (by rw [lines_py])) (.inl rfl) fun s b => ?_
  · exact Nat.le_trans (parts_le _ _ _) (by omega)
  rotate_left
  · exact Nat.le_trans (replace_len _ _ _) (by show _ + (_ + 1) * 1 ≤ _; omega)
  · exact Nat.le_trans (replace_len _ _ _) (by show _ + (_ + 1) * 1 ≤ _; omega)
  generalize hL : linesL (sl text) = LL at *
  refine bo_new hA b (.inl rfl) fun ar s _ har b => ?_
  refine bo_for hA b (it_range2 gr (j := 1) (k := 13) (by walk_at "pe") (by walk_at "pe") (by decide) (by decide) (by decide) (by decide)) (ta_name (.inr ⟨rfl, rfl⟩)) (fun _ _ => trivial) (fun a ha => wAddr_own ha)
    (fun _ => [("record", .obj ar), ("lines", .list (dStrs (LL.map ms'))), ("fresh", .list ((List.range 13).map fun t => dL (freshF N src t))), ("hands", .list (dStrs handsL)), ("near", netD N)])
    (fun pre => [(ar, ol (((List.range pre.length).filter fun k => !(pairsF N src (k + 1)).isEmpty).map (recW N src LL)))]) (by repeat (first | exact sub_nil | refine sub_cons rfl ?_)) rfl (fun pre p hp => ?_) (fun I pre d post s₃ E' hds hI b => ?_) fun s b => ?_
  · rw [List.mem_singleton.mp hp]; exact .head _
  · obtain ⟨rfl, hlt⟩ := rangeZ_at hds
    have hlt : pre.length < 12 := hlt
    have el : (pre ++ [D.int (1 + pre.length)]).length = pre.length + 1 := by simp
    simp only [el]
    clear el hds
    generalize pre.length = k at *
    have e1 : (1 + (k : Int)) = ((k + 1 : Nat) : Int) := by omega
    rw [e1] at b
    have hfl := fresh_len N src
    have hnbl := ok.short
    have fget : ∀ j, j < 13 → ((List.range 13).map fun t => dL (freshF N src t))[((j : Nat) : Int).toNat]? = some (dL (freshF N src j)) := fun j hj => by rw [Int.toNat_natCast, List.getElem?_map, List.getElem?_range hj]; rfl
    have f0 : ∀ {env : Env} {V' : List Addr} {ρ' : List (Str × D)} {e i : Expr} {pos : Pos} (j : Nat), j < 13 → PE prog w h₀ n env V' ρ' e (.list ((List.range 13).map fun t => dL (freshF N src t))) → PE prog w h₀ n env V' ρ' i (dN j) → (∀ o i', subscripted i false o i' = operate [o, i'] (getItem o i')) → PE prog w h₀ n env V' ρ' (.Subscript e i pos) (dL (freshF N src j)) := fun j hj he hi hs =>
      pe_sub he hi .list (gi_list (by show (0 : Int) ≤ (j : Int); omega) (fget j hj) (by rw [List.length_map, List.length_range]; decide)) hs
    have hm1 : (((k + 1 : Nat) : Int) - 1) = ((k : Nat) : Int) := by omega
    refine bo_assign (d := .list ((pairsF N src (k + 1)).map pairD)) hA b (pef_nn (l := freshF N src k) (l2 := nb N) (t := fun v w => (freshF N src (k + 1)).contains w) (it_list (f0 k (by omega) (pe_name rfl) (PE.to (pe_bin (pe_name rfl) pe_int b2_sub) (by rw [hm1])) (by intro _ _; with_unfolding_all rfl))) (compOk_of rfl) (.inl rfl) (.inl rfl) (by decide) (fun C' V' v hv => it_list (pe_nb ok (fresh_lt hs hv) (pe_name rfl) (pe_name rfl))) (fun C' V' v u hv hu => ts_one (pt_cmp (pe_name rfl) (f0 (k + 1) (by omega) (pe_name rfl) (pe_name rfl) (by intro _ _; with_unfolding_all rfl)) c2_in_nats)) (fun C' V' v u hv hu => pe_tuple (pes_cons (pe_name rfl) (pes_cons (pe_name rfl) pes_nil)) (Nat.le_of_ble_eq_true rfl)) (Nat.le_trans (hfl k) (by decide)) (fun v _ => Nat.le_trans (hnbl v) (by decide))).pe (.inr ⟨rfl, rfl⟩) fun s b => ?_
    have hpl : (pairsF N src (k + 1)).length ≤ 5 * 6 := by
      refine Nat.le_trans (flat_len _ 5 _ fun v _ => ?_) (Nat.mul_le_mul_left _ (hfl k))
      rw [List.length_map]; exact Nat.le_trans (List.length_filter_le _ _) (hnbl v)
    have hpm : ∀ p ∈ pairsF N src (k + 1), p.1 < 6 ∧ p.2 < 6 := pairs_lt hs
    have hrs : (List.range (k + 1)).filter (fun j => !(pairsF N src (j + 1)).isEmpty) = (List.range k).filter (fun j => !(pairsF N src (j + 1)).isEmpty) ++ if (pairsF N src (k + 1)).isEmpty then [] else [k] := by
      rw [List.range_succ, List.filter_append]
      congr 1
      cases h : (pairsF N src (k + 1)).isEmpty
      · rw [List.filter_cons_of_pos (by rw [h]; rfl)]; rfl
      · rw [List.filter_cons_of_neg (by rw [h]; decide)]; rfl
    have hrl : (((List.range k).filter fun j => !(pairsF N src (j + 1)).isEmpty).map (recW N src LL)).length ≤ 12 := by
      rw [List.length_map]; exact Nat.le_trans (List.length_filter_le _ _) (by rw [List.length_range]; omega)
    rw [hrs]
    have hrec : recW N src LL k = .tuple [.str (Txt.join (Str.ofString "\r\n") ((pairsF N src (k + 1)).map (rowT (k + 2)) ++ (LL.map ms').map (bodyS (k + 1)))), .list (dStrs ((List.range 6).map fun h => Txt.mul (Txt.join (Str.ofString "") ((pairsF N src (k + 1)).map fun p => ans01 (p.2 == h))) 2)), .list (dStrs ((List.range 6).map fun h => Txt.mul (Txt.join (Str.ofString "") (((nb N h).filter fun _ => (freshF N src (k + 1)).contains h).map fun v => ans01 ((freshF N src k).contains v))) 2))] := rfl
    generalize hP : pairsF N src (k + 1) = P at *
    refine bo_ifo (c := !(P.map pairD).isEmpty) hA b [("record", .obj ar), ("lines", .list (dStrs (LL.map ms'))), ("fresh", .list ((List.range 13).map fun t => dL (freshF N src t))), ("hands", .list (dStrs handsL)), ("near", netD N)] [(ar, ol (((List.range k).filter (fun j => !(pairsF N src (j + 1)).isEmpty) ++ if P.isEmpty then [] else [k]).map (recW N src LL)))]
      (pt_cmp (pe_name rfl) (pe_list pes_nil (Nat.le_of_ble_eq_true rfl)) c2_ne_nil) (fun hc s b => ?_) (fun hc s b => ?_) fun s b => ?_
    · have hpe : P.isEmpty = false := by cases P with | nil => simp at hc | cons => rfl
      rw [hpe, if_neg (by decide), List.map_append]
      have hk2 : k + 2 ≤ 1000 := by omega
      have hk1 : k + 1 ≤ 1000 := by omega
      have hdot : ∀ j, j ≤ 30 → Txt.mul (Str.ofString ".") ((j : Nat) : Int) = dotsS j := mul_dots
      refine bo_pp D.str (l := P) (f := rowT (k + 2)) hA b (it_list (pe_name rfl)) (compOk_of rfl) (.inl rfl) (.inl rfl) (fun C' V' p hp => ?_) (by omega) (.inl rfl) fun s b => ?_
      · obtain ⟨h1, h2⟩ := hpm p hp
        exact pe_row (p := p) hk2 h1 h2 (PE.to (c' := .str (dotsS (k + 2))) (pe_bin pe_str (PE.to (c' := dN (k + 2)) (pe_bin (pe_name rfl) pe_int b2_add) (by show D.int _ = D.int _; congr 1)) (b2_smul (mulOk' hk2 (by decide)))) (by rw [hdot (k + 2) (by omega)])) (pe_at D.str (Str.ofString "") (pe_name rfl) (pe_name rfl) h2 (by decide)) (pe_at D.str (Str.ofString "") (pe_name rfl) (pe_name rfl) h1 (by decide))
      refine bo_cc (l := LL.map ms') (f := bodyS (k + 1)) D.str D.s (fun _ => rfl) D.str hA b (it_list (pe_name rfl)) (compOk_of rfl) (.inl rfl) (fun C' V' l hl => ?_) (by have := hlo.sum; rw [List.length_map]; omega) (.inl rfl) fun s b => ?_
      · obtain ⟨q, hq, rfl⟩ := List.mem_map.mp hl
        have hql := hlo.len hq
        have hml := ms_len q
        refine pe_ifexp (d := .str (bodyS (k + 1) (ms' q))) (c := Txt.slice (ms' q) none (some 1) == Str.ofString ".") (pt_cmp (pe_slice_str (pe_name rfl) po_none (po_some pe_int) (by omega)) pe_str c2_eq_str) (fun hc => PE.to (pe_bin (PE.to (c' := .str (dotsS (k + 1))) (pe_bin pe_str (pe_name rfl) (b2_smul (mulOk' (k := k + 1) hk1 (by decide)))) (by rw [hdot (k + 1) (by omega)])) (pe_name rfl) (b2_cat ?_)) ?_) (fun hc => PE.to (pe_name rfl) ?_)
        · rw [dots_len]; omega
        · unfold bodyS; rw [if_pos hc]
        · unfold bodyS; rw [if_neg (by rw [hc]; decide)]
      refine bo_cc (l := List.range 6) (f := fun h => Txt.mul (Txt.join (Str.ofString "") (P.map fun p => ans01 (p.2 == h))) 2) dN D.n dN_n D.str hA b (it_to (it_range1 gr (k := 6) (by walk_at "pe") (by decide) (by decide)) (rangeZ_nat 6)) (compOk_of rfl) (.inr rfl) (fun C' V' h hh => ?_) (by decide) (.inl rfl) fun s b => ?_
      · have hsum : ((P.map fun p => ans01 (p.2 == h)).map (·.length)).sum ≤ 1 * P.length := by
          rw [List.map_map]; exact sum_le _ 1 P fun p _ => Nat.le_of_eq (ans_len _)
        exact pe_bin pe_int (pe_meth pe_str (mt_str F.slot_str_join F.type_str_join) (pes_cons (pef_p (l := P) (f := fun p => ans01 (p.2 == h)) D.str (it_list (pe_name rfl)) (compOk_of rfl) (.inl rfl) (.inl rfl) (fun C2 V2 p hp => pe_ans ((pt_cmp (pe_name rfl) (pe_name rfl) c2_eq_int).to (nat_beq _ _)) rfl rfl) (by omega)).pe pes_nil) (mc_join (by show _ + _ * 0 ≤ _; omega))) (b2_imul (mulOk' (k := 2) (by decide) (join_small hsum (by omega))))
      refine bo_cc (l := List.range 6) (f := fun h => Txt.mul (Txt.join (Str.ofString "") (((nb N h).filter fun _ => (freshF N src (k + 1)).contains h).map fun v => ans01 ((freshF N src k).contains v))) 2) dN D.n dN_n D.str hA b (it_to (it_range1 gr (k := 6) (by walk_at "pe") (by decide) (by decide)) (rangeZ_nat 6)) (compOk_of rfl) (.inr rfl) (fun C' V' h hh => ?_) (by decide) (.inl rfl) fun s b => ?_
      · have hh := List.mem_range.mp hh
        have hnl : ((nb N h).filter fun _ => (freshF N src (k + 1)).contains h).length ≤ 5 := Nat.le_trans (List.length_filter_le _ _) (hnbl h)
        have hsum : ((((nb N h).filter fun _ => (freshF N src (k + 1)).contains h).map fun v => ans01 ((freshF N src k).contains v)).map (·.length)).sum ≤ 1 * ((nb N h).filter fun _ => (freshF N src (k + 1)).contains h).length := by
          rw [List.map_map]; exact sum_le _ 1 _ fun p _ => Nat.le_of_eq (ans_len _)
        exact pe_bin pe_int (pe_meth pe_str (mt_str F.slot_str_join F.type_str_join) (pes_cons (pef_cf (l := nb N h) (t := fun _ => (freshF N src (k + 1)).contains h) (f := fun v => ans01 ((freshF N src k).contains v)) dN D.n dN_n D.str (it_list (pe_nb ok hh (pe_name rfl) (pe_name rfl))) (compOk_of rfl) (.inl rfl) (fun C2 V2 v hv => ts_one (pt_cmp (pe_name rfl) (f0 (k + 1) (by omega) (pe_name rfl) (pe_name rfl) (by intro _ _; with_unfolding_all rfl)) c2_in_nats)) (fun C2 V2 v hv _ => pe_ans (pt_cmp (pe_name rfl) (f0 k (by omega) (pe_name rfl) (PE.to (pe_bin (pe_name rfl) pe_int b2_sub) (by rw [hm1])) (by intro _ _; with_unfolding_all rfl)) c2_in_nats) rfl rfl) (szN (hnbl h))).pe pes_nil) (mc_join (by show _ + _ * 0 ≤ _; omega))) (b2_imul (mulOk' (k := 2) (by decide) (join_small hsum (by omega))))
      refine bo_append (O1 := []) (O2 := []) (d := recW N src LL k) hA b rfl (PE.to (pe_tuple (pes_cons (d := .str (Txt.join (Str.ofString "\r\n") (P.map (rowT (k + 2)) ++ (LL.map ms').map (bodyS (k + 1))))) (pe_meth pe_str (mt_str F.slot_str_join F.type_str_join) (pes_cons (PE.to (c' := .list (dStrs (P.map (rowT (k + 2)) ++ (LL.map ms').map (bodyS (k + 1))))) (pe_bin (pe_name rfl) (pe_name rfl) (b2_app ?_)) ?_) pes_nil) (mc_join ?_)) (pes_cons (pe_name rfl) (pes_cons (pe_name rfl) pes_nil))) (Nat.le_of_ble_eq_true rfl)) hrec.symm) (by omega) fun s b => ?_
      · have := (lines_bound (t := k + 1) hlo (by omega)).2
        rw [List.length_map, List.length_map, List.length_map, List.length_map, List.length_map]; omega
      · show D.list _ = D.list (dStrs (_ ++ _)); unfold dStrs; rw [List.map_append]
      · have h1 := lines_bound (t := k + 1) hlo (by omega)
        have h2 : ((P.map (rowT (k + 2))).map (·.length)).sum ≤ 21 * P.length := by
          rw [List.map_map]; exact sum_le _ 21 P fun p hp => Nat.le_trans (row_len2 (hpm p hp).1 (hpm p hp).2) (by omega)
        rw [List.map_append, List.sum_append, List.length_append, List.length_map, List.length_map, List.length_map]
        show _ + _ * 2 ≤ _
        omega
      rw [List.nil_append] at b
      exact ex_nil ⟨rfl, b.names (by repeat (first | exact sub_nil | refine sub_cons rfl ?_))⟩
    · have hpe : P.isEmpty = true := by cases P with | nil => rfl | cons => simp at hc
      rw [hpe, if_pos rfl, List.append_nil]
      exact ex_nil ⟨rfl, b.names (by repeat (first | exact sub_nil | refine sub_cons rfl ?_))⟩
    · exact ex_nil b
  · have e : (dInts (rangeZ 1 13)).length = 12 := by decide
    rw [e] at b
    have b := b.freeze (O1 := []) (O2 := []) (x := "record") (V' := aw :: (U ++ V)) rfl (fun c => ⟨fun h => ⟨.tail _ h, fun e => har (e ▸ h)⟩, fun h => (List.mem_cons.mp h.1).resolve_left h.2⟩) (fun p hp => by rw [List.mem_singleton.mp hp]; exact List.not_mem_nil)
    exact bo_ret (U := aw :: U) hA b (.head _) (pe_name rfl) q
end
end

section
section
variable {prog : Program} {w : World} {h₀ : Heap} {n : Nat} {env : Env} {V W : List Addr} {ρ : List (Str × D)} {s0 : Shared} {KK : Frag} {C fI fN : Addr}

theorem end_pick (j : Nat) : ([D.str (Str.ofString "\r"), .str (Str.ofString "\n"), .str (Str.ofString "\r\n")])[j % 3]? = some (.str (endS j)) := by
  have : j % 3 = 0 ∨ j % 3 = 1 ∨ j % 3 = 2 := by omega
  unfold endS
  rcases this with h | h | h <;> rw [h] <;> rfl

set_option maxHeartbeats 16000000 in
theorem cl_law_flood {f : Addr} {name qual bind : Str} {params : Arguments} {body : List Stmt} {scope : Scope} {kV doc pm cdv ct : Value} {an : Option Addr} {deco : List Expr} {tp : List TypeParam} {ts : Option Scope} {ret : Option Expr} {pos : Pos}
    (hdef : PySem.Challenge.pw_pu0003_02.main.body[19]? = some (.FunctionDef name params body deco ret tp scope ts bind pos))
    (K : Fn h₀ f (fnOf name qual params body scope .none kV doc pm an cdv ct) body) (hlim : h₀.NoLimit) (gr : GV h₀ "range" (.type "range")) (gl : GV h₀ "len" (.builtin "len")) (X : KK.In h₀) (ok : ClsOk KK C fI fN) (gC : GV h₀ "_Ignore" (.ref C)) (mk : MK prog w h₀ C n)
    {fa fq : Addr} (ga : GV h₀ "_law_asked" (.ref fa)) (ka : Kp h₀ (.ref fa)) (hask : AskedC prog w h₀ n C fa)
    (gq : GV h₀ "quotedata" (.ref fq)) (kq : Kp h₀ (.ref fq)) (hq : ∀ (V : List Addr) (x : Str), x.length ≤ 20000 → CL prog w h₀ n V (.ref fq) [.str x] (.str (quoteF x)))
    {N : Net} (okN : NetOk N) {src shift : Nat} (hs : src < 6) {text : Str} (ht : text.length ≤ 100) (h46 : (sl text).head? = some 46) :
    CL prog w h₀ (n + 1) V (.ref f) [.list (dStrs handsL), netD N, dN src, .str text, dN shift] (.list (floodD N src (linesL (sl text)))) := by
  injection hdef with hdef
  injection hdef with h1 h2 h3 h4 h5 h6 h7 h8 h9
  subst h1 h2 h3 h4 h5 h6 h7 h8 h9
  have hline : sizeLine = 16777216 := rfl
  have hsb : scanBound = 4096 := rfl
  refine cl_fno (params := ["hands", "near", "source", "text", "shift"]) K hlim (fun vals h => ?_) rfl (by decide) (by intro x hx; simp only [List.mem_cons, List.not_mem_nil, or_false] at hx; rcases hx with rfl | rfl | rfl | rfl | rfl <;> first | exact .inl rfl | exact .inr rfl) fun A s s₁ L U E Q hA hU b q => ?_
  · obtain ⟨_, _, _, _, _, rfl⟩ := vals5 h; rfl
  have hsl := (hand_len src hs).1
  have hnbl := okN.short
  have hnlt : ∀ {v w : Nat}, w ∈ nb N v → w < 6 := fun h => nb_lt okN (okN.sym _ _ h)
  refine bo_assign (d := .list (dStrs ((PF N src 0).map (rowT 1)))) hA b (PE.to (pef_c (l := nb N src) (f := fun w => rowT 1 (src, w)) dN D.n dN_n D.str (it_list (pe_nb okN hs (pe_name rfl) (pe_name rfl))) (compOk_of rfl) (.inl rfl) (fun C' V' w hw => ?_) (szN (hnbl src))).pe ?_) (.inr ⟨rfl, rfl⟩) fun s₂ b => ?_
  · exact pe_row (by decide) hs (hnlt hw) (pe_str.to (by rw [show dotsS 1 = Str.ofString "." by decide])) (pe_at D.str (Str.ofString "") (pe_name rfl) (pe_name rfl) (hnlt hw) (by decide)) (pe_at D.str (Str.ofString "") (pe_name rfl) (pe_name rfl) hs (by decide))
  · show D.list (((nb N src).map fun w => rowT 1 (src, w)).map D.str) = D.list ((((nb N src).map fun w => (src, w)).map (rowT 1)).map D.str)
    rw [List.map_map (f := fun w => (src, w)) (g := rowT 1)]; rfl
  refine bo_new hA b (.inr ⟨rfl, rfl⟩) fun ar s₂ _ har b => ?_
  have hlo := lines_ok (sl text)
  rw [sl_len] at hlo
  generalize hLL : linesL (sl text) = LL at *
  refine ex_while (fun m s' => ∃ k : Nat, m = 13 - k ∧ k ≤ 12 ∧ (∀ j, j < k → PF N src j ≠ []) ∧ Bo h₀ [([], s)] _ (ar :: (U ++ V)) [("rows", .list (dStrs ((PF N src k).map (rowT (k + 1))))), ("text", .str (textF text LL k)), ("record", .obj ar), ("hands", .list (dStrs handsL)), ("near", netD N), ("shift", dN shift)] [(ar, ol ((List.range k).map (recF N src LL)))] s')
    13 ⟨0, rfl, by omega, fun j hj => absurd hj (Nat.not_lt_zero _), b.names (by repeat (first | exact sub_nil | refine sub_cons rfl ?_))⟩ fun m s₃ E' hInv => ?_
  obtain ⟨k, rfl, hk, hne, b⟩ := hInv
  have hP := PF_lt okN hs k
  have hl := PF_len okN src k
  have hrec : recF N src LL k = .tuple [.str (sentS (PF N src k) k LL), .list (dStrs ((List.range 6).map (boxS (PF N src k)))), .list (dStrs ((List.range 6).map (doorS N (PF N src k))))] := rfl
  have hnext : PF N src (k + 1) = (List.range 6).flatMap (outF N (PF N src k)) := next_out N _
  have hlen := len_filter N src
  have hstop : ¬ (PF N src k ≠ [] ∧ k < 12) → lenF N src = k := fun h => by
    obtain ⟨_, h2, h3⟩ := hlen
    have hge : k ≤ lenF N src := by
      cases k with
      | zero => exact Nat.zero_le _
      | succ j => exact (h3 j (by omega)).mp (hne j (by omega))
    by_cases e : k < 12
    · have : ¬ k < lenF N src := fun hh => h ⟨(h3 k e).mpr hh, e⟩
      omega
    · omega
  have hno := (b.onew _ (.head _)).2.1
  generalize hPP : PF N src k = P at *
  have hrl : ∀ t, (P.map (rowT t)).length = P.length := fun t => List.length_map ..
  have hRl : ((List.range k).map (recF N src LL)).length = k := by rw [List.length_map, List.length_range]
  generalize hRR : (List.range k).map (recF N src LL) = R at *
  have z0 : P.length ≤ sizeLine := szN hl
  have zr : ∀ t, (P.map (rowT t)).length ≤ sizeLine := fun t => sz_map z0
  have zg : (List.range P.length).length ≤ sizeLine := sz_range z0
  obtain ⟨zi1, zi2⟩ := int62 z0
  have zR : R.length ≤ sizeLine := by rw [hRl]; exact szN hk
  refine bo_testT (x := "record") (l := R) (c := !P.isEmpty && decide (k < 12)) hA b (.head _) rfl (fun V' => pt_bool (pts_and (PT.to (pt_cmp (pe_name rfl) (pe_list pes_nil (Nat.le_of_ble_eq_true rfl)) c2_ne_nil) ?_) fun _ => pts_lastA (PT.to (pt_cmp (pe_call gl kp_builtin (pes_cons (pe_name rfl) pes_nil) (cl_len_list (ds := R) zR)) pe_int c2_lt_int) ?_))) fun s₄ b => ?_
  · rw [List.isEmpty_map, List.isEmpty_map]
  · rw [hRl]; apply decide_eq_decide.mpr; omega
  by_cases hgo : P ≠ [] ∧ k < 12
  · have hc : (!P.isEmpty && decide (k < 12)) = true := by
      rw [Bool.and_eq_true, decide_eq_true_eq]
      exact ⟨by cases hP2 : P with | nil => exact absurd hP2 hgo.1 | cons => rfl, hgo.2⟩
    rw [hc, if_pos rfl]
    have hk12 := hgo.2
    refine bo_assignr (d := .list (dStrs ((List.range P.length).map fun j => endS (j + k + shift)))) hA b (px_thawL (x := "record") (.head _) rfl hno (fun d hd => by obtain ⟨x, _, rfl⟩ := List.mem_map.mp hd; trivial) fun V' => pef_c (l := List.range P.length) (f := fun j => endS (j + k + shift)) dN D.n dN_n D.str (it_to (it_range1 gr (k := (P.length : Int)) (PE.to (pe_len D.str gl (pe_name rfl) (zr _)) (by rw [hrl])) zi1 zi2) (rangeZ_nat _)) (compOk_of rfl) (.inl rfl) (fun C' V' j hj => ?_) zg) rfl (.inr ⟨rfl, rfl⟩) fun s₅ b => ?_
    · refine pe_sub (by walk_at "pe") (PE.to (c' := dN ((j + k + shift) % 3)) (pe_bin (pe_bin (pe_bin (pe_name rfl) (PE.to (c' := dN k) (pe_call gl kp_builtin (pes_cons (pe_name rfl) pes_nil) (cl_len_list (ds := R) zR)) (by rw [hRl])) b2_add) (pe_name rfl) b2_add) pe_int (b2_mod (by decide))) ?_) .tuple (gi_tuple (d := .str (endS (j + k + shift))) (by show (0 : Int) ≤ ((_ : Nat) : Int); omega) ?_ (Nat.le_of_ble_eq_true rfl))
      · have e : ((j : Int) + (k : Int) + (shift : Int)) = ((j + k + shift : Nat) : Int) := by omega
        rw [e]
        exact congrArg D.int (fmodN (j + k + shift) 3)
      · rw [Int.toNat_natCast]; exact end_pick _
    have hrow : ∀ t j, j < P.length → ∃ p ∈ P, (P.map (rowT t)).getD j (Str.ofString "") = rowT t p := fun t j hj => ⟨P.getD j (0, 0), by rw [List.getD_eq_getElem?_getD, List.getElem?_eq_getElem hj]; exact List.getElem_mem hj, getD_map _ _ _ hj⟩
    have hend : ∀ j, j < P.length → ((List.range P.length).map fun j => endS (j + k + shift)).getD j (Str.ofString "") = endS (j + k + shift) := fun j hj => by
      rw [List.getD_eq_getElem?_getD, List.getElem?_map, List.getElem?_range hj]; rfl
    have hEl : ((List.range P.length).map fun j => endS (j + k + shift)).length = P.length := by rw [List.length_map, List.length_range]
    have hil : ∀ j, j < P.length → ((P.map (rowT (k + 1))).getD j (Str.ofString "")).length + (((List.range P.length).map fun j => endS (j + k + shift)).getD j (Str.ofString "")).length ≤ 30 := fun j hj => by
      obtain ⟨p, hp, e⟩ := hrow (k + 1) j hj
      have := row_len2 (t := k + 1) (hP p hp).1 (hP p hp).2
      have := end_len2 (j + k + shift)
      rw [e, hend j hj]; omega
    have hml : (mailS P k shift text LL).length ≤ 20000 ∧ (((List.range P.length).map fun j => (P.map (rowT (k + 1))).getD j (Str.ofString "") ++ ((List.range P.length).map fun j => endS (j + k + shift)).getD j (Str.ofString "")).map (·.length)).sum ≤ 900 := by
      have h1 : (((List.range P.length).map fun j => (P.map (rowT (k + 1))).getD j (Str.ofString "") ++ ((List.range P.length).map fun j => endS (j + k + shift)).getD j (Str.ofString "")).map (·.length)).sum ≤ 30 * (List.range P.length).length := by
        rw [List.map_map]
        refine sum_le _ 30 _ fun j hj => ?_
        show (_ ++ _ : Str).length ≤ _
        rw [Str.length_append]; exact hil j (List.mem_range.mp hj)
      rw [List.length_range] at h1
      have h1' : (((List.range P.length).map fun j => (P.map (rowT (k + 1))).getD j (Str.ofString "") ++ ((List.range P.length).map fun j => endS (j + k + shift)).getD j (Str.ofString "")).map (·.length)).sum ≤ 900 := by omega
      have h2 := join_small h1' (by decide)
      have h3 := text_len ht (k := k) (by omega)
      rw [hLL] at h3
      refine ⟨?_, h1'⟩
      unfold mailS
      rw [Str.length_append]; omega
    have hsl2 := sent_len hP hl hlo ht (k := k) (by omega)
    have hfs := flood_sent hP h46 k shift
    rw [hLL] at hfs
    refine bo_assign (d := .str (sentS P k LL)) hA b (PE.to (c := .str (quoteF (mailS P k shift text LL))) (pe_call gq kq (pes_cons (pe_bin (pe_meth pe_str (mt_str F.slot_str_join F.type_str_join) (pes_cons (pef_c (l := List.range P.length) (f := fun j => (P.map (rowT (k + 1))).getD j (Str.ofString "") ++ ((List.range P.length).map fun j => endS (j + k + shift)).getD j (Str.ofString "")) dN D.n dN_n D.str (it_to (it_range1 gr (k := (P.length : Int)) (PE.to (pe_len D.str gl (pe_name rfl) (zr _)) (by rw [hrl])) zi1 zi2) (rangeZ_nat _)) (compOk_of rfl) (.inl rfl) (fun C' V' j hj => ?_) zg).pe pes_nil) (mc_join ?_)) (pe_name rfl) (b2_cat ?_)) pes_nil) (hq _ _ hml.1)) (by rw [hfs])) (.inl rfl) fun s₆ b => ?_
    · have hj := List.mem_range.mp hj
      exact pe_bin (pe_at D.str (Str.ofString "") (pe_name rfl) (pe_name rfl) (by rw [hrl]; exact hj) (zr _)) (pe_at D.str (Str.ofString "") (pe_name rfl) (pe_name rfl) (by rw [hEl]; exact hj) (sz_map zg)) (b2_cat (by have := hil j hj; omega))
    · have := hml.2
      show _ + _ * 0 ≤ _; omega
    · have := hml.1
      unfold mailS at this
      rw [Str.length_append] at this
      omega
    have hjs := J_small hlo ht (k := k + 1) (by omega)
    have hsplit := sent_lines hP hlo.ne hlo.plain k
    refine bo_assign (d := .list (dStrs (P.map (rowT (k + 2)) ++ (stN (k + 1) LL).map ms'))) hA b (PE.to (pe_meth (pe_name rfl) (mt_str F.slot_str_split F.type_str_split) (by walk_at "pes") (mc_split (by decide) (by omega) ?_)) (by rw [hsplit])) (.inl rfl) fun s₆ b => ?_
    · exact Nat.le_trans (parts_le _ _ _) (by omega)
    have hll : (dStrs (P.map (rowT (k + 2)) ++ (stN (k + 1) LL).map ms')).length ≤ 200 := by
      rw [List.length_map, List.length_append, hrl, List.length_map]; have := hjs.2.2; omega
    refine bo_assign (d := .list (dStrs (P.map (rowT (k + 2))))) hA b (PE.to (pe_slice_list (u := some (P.length : Int)) (pe_name rfl) po_none (po_some (PE.to (pe_len D.str gl (pe_name rfl) (zr _)) (by rw [hrl]))) po_none (by decide) (by omega)) ?_) (.inr ⟨rfl, rfl⟩) fun s₆ b => ?_
    · rw [pick_take]
      unfold dStrs
      rw [← List.map_take, List.take_left' (hrl _)]
    have htn := text_next hlo.ne text k
    refine bo_assign (d := .str (textF text LL (k + 1))) hA b (PE.to (pe_meth pe_str (mt_str F.slot_str_join F.type_str_join) (pes_cons (PE.to (c' := .list (dStrs ((stN (k + 1) LL).map ms'))) (pe_slice_list (l := some (P.length : Int)) (pe_name rfl) (po_some (PE.to (pe_len D.str gl (pe_name rfl) (zr _)) (by rw [hrl]))) po_none po_none (by decide) (by omega)) ?_) pes_nil) (mc_join ?_)) (by rw [htn])) (.inl rfl) fun s₆ b => ?_
    · rw [pick_drop]
      unfold dStrs
      rw [← List.map_drop, List.drop_left' (hrl _)]
    · have h1 := hjs.2.1
      have h2 := hjs.2.2
      rw [List.length_map]; show _ + _ * 2 ≤ _; omega
    have hdl := dots_len (k + 2)
    refine bo_assignr (d := .str (dotsS (k + 2))) hA b (px_thaw (x := "record") (.head _) rfl hno trivial fun V' => PE.to (pe_bin pe_str (PE.to (c' := dN (k + 2)) (pe_bin (pe_call gl kp_builtin (pes_cons (pe_name rfl) pes_nil) (cl_len_list (ds := R) zR)) pe_int b2_add) (by rw [hRl]; show D.int _ = D.int _; congr 1)) (b2_smul (mulOk' (k := k + 2) (by omega) (by decide)))) (by rw [mul_dots (k + 2) (by omega)])) rfl (.inr ⟨rfl, rfl⟩) fun s₆ b => ?_
    refine bo_assign (d := .list (dStrs (((List.range 0).flatMap (outF N P)).map (rowT (k + 2))))) hA b (pe_list pes_nil (Nat.le_of_ble_eq_true rfl)) (.inr ⟨rfl, rfl⟩) fun s₆ b => ?_
    refine bo_new hA b (.inl rfl) fun ab s₆ _ hab b => ?_
    refine bo_new hA b (.inl rfl) fun ad s₆ _ had b => ?_
    refine bo_for hA b (it_to (it_range1 gr (k := 6) (by walk_at "pe") (by decide) (by decide)) (rangeZ_nat 6)) (ta_name (.inr ⟨rfl, rfl⟩)) (fun _ _ => trivial) (fun a ha => wAddr_own ha)
      (fun pre => [("doors", .obj ad), ("boxes", .obj ab), ("rows", .list (dStrs (((List.range pre.length).flatMap (outF N P)).map (rowT (k + 2))))), ("dots", .str (dotsS (k + 2))), ("text", .str (textF text LL (k + 1))), ("heads", .list (dStrs (P.map (rowT (k + 2))))), ("sent", .str (sentS P k LL)), ("record", .obj ar), ("hands", .list (dStrs handsL)), ("near", netD N), ("shift", dN shift)])
      (fun pre => [(ad, ol ((List.range pre.length).map fun h => .str (doorS N P h))), (ab, ol ((List.range pre.length).map fun h => .str (boxS P h))), (ar, ol R)])
      (by repeat (first | exact sub_nil | refine sub_cons rfl ?_)) rfl (fun pre p hp => ?_) (fun I pre d post s₇ E2 hds hI b => ?_) fun s₇ b => ?_
    · simp only [List.mem_cons, List.not_mem_nil, or_false] at hp
      rcases hp with rfl | rfl | rfl
      · exact .head _
      · exact .tail _ (.head _)
      · exact .tail _ (.tail _ (.head _))
    · obtain ⟨rfl, hlt⟩ := range_at hds
      have el : (pre ++ [dN pre.length]).length = pre.length + 1 := by simp
      simp only [el]
      clear el hds
      generalize pre.length = v at *
      have hwv := b.wv
      have hov := fun a h => b.ownV (a := a) h
      have hoV := fun p hp => (b.onew p hp).1
      have hvl := (hand_len v hlt).1
      have hbc : (dotsS (k + 2)).length + (handS v).length ≤ sizeLine := by
        rw [hdl]; exact szN (Nat.add_le_add (show k + 2 ≤ 14 by omega) (hand_len v hlt).1) rfl
      refine bo_make (M := [dotsS (k + 2) ++ handS v]) (P := none) gC (kp_cls X ok) mk hA b (pes_cons (d := .list (dStrs [dotsS (k + 2) ++ handS v])) (pe_list (pes_cons (pe_bin (pe_name rfl) (pe_at D.str (Str.ofString "") (pe_name rfl) (pe_name rfl) hlt (by decide)) (b2_cat hbc)) pes_nil) (Nat.le_of_ble_eq_true rfl)) pes_nil) (by rw [hsb]; show 2 < 4096; decide) (fun p hp => nomatch hp) (Nat.zero_le _) (.inl rfl) fun r1 s₈ hr1 b => ?_
      have hff : (P.map (rowT (k + 2))).map (fun _ => Str.ofString "f") = P.map fun _ => Str.ofString "f" := List.map_map
      have hask1 := hask (r1.g :: I :: ad :: ab :: ar :: (U ++ V)) r1 [dotsS (k + 2) ++ handS v] [] μ0 1 (P.map fun _ => Str.ofString "f") (P.map (rowT (k + 2))) none (by rw [hrl]; omega) (by rw [List.length_map, hrl]) bits0 (fun j hj => ⟨fun y hy => by rw [List.mem_singleton.mp hy, Str.length_append]; omega, (fun y hy => nomatch hy), by rw [hrl] at hj; omega⟩) (.head _)
      rw [box_text hP (by omega) hlt] at hask1
      have hnr := (List.nodup_cons.mp b.odis).1
      refine bo_assignr (d := .str (boxS P v)) hA b (pr_frame1 (pr_callw ga ka (pes_cons (pe_name rfl) (pes_cons (PE.to (c' := .list (dStrs (P.map fun _ => Str.ofString "f"))) (pef_c (l := P.map (rowT (k + 2))) (f := fun _ => Str.ofString "f") D.str D.s (fun _ => rfl) D.str (it_list (pe_name rfl)) (compOk_of rfl) (.inl rfl) (fun C' V' x hx => pe_str) (zr _)).pe (by rw [hff])) (pes_cons (pe_name rfl) (pes_cons pe_none pes_nil)))) hask1) (not_mem_fst hnr)) rfl (.inr ⟨rfl, rfl⟩) fun s₈ b => ?_
      have b := b.dropR hwv hov hoV
      have hbs : ∀ j, j < P.length → (⟨#[(boxS P v).cps.getD j 0]⟩ : Str) = ans01 ((P.getD j (0, 0)).2 == v) := fun j hj => bits_sign (fun p : Nat × Nat => p.2 == v) (0, 0) P _ hj
      have hbl : (boxS P v).length = P.length + P.length := by unfold boxS; rw [ms_len, List.length_append, List.length_map]
      have hut : ∀ u ∈ heardU P v, u < 6 := fun u hu => heard_lt hP hu
      have hul := heard_len P v
      refine bo_assign (d := .list (dStrs ((heardU P v).map fun u => rowT (k + 2) (u, v)))) hA b (PE.to (pef_cf (l := List.range P.length) (t := fun j => (P.getD j (0, 0)).2 == v) (f := fun j => rowT (k + 2) (P.getD j (0, 0))) dN D.n dN_n D.str (it_to (it_range1 gr (k := (P.length : Int)) (PE.to (pe_len D.str gl (pe_name rfl) (zr _)) (by rw [hrl])) zi1 zi2) (rangeZ_nat _)) (compOk_of rfl) (.inl rfl) (fun C' V' j hj => ts_one (PT.to (pt_cmp (pe_sign (k := j) (pe_name rfl) (pe_name rfl) (by rw [hbl]; have := List.mem_range.mp hj; omega) (by rw [hbl]; omega)) pe_str c2_eq_str) ?_)) (fun C' V' j hj _ => PE.to (pe_at D.str (Str.ofString "") (pe_name rfl) (pe_name rfl) (by rw [hrl]; exact List.mem_range.mp hj) (zr _)) ?_) zg).pe ?_) (.inr ⟨rfl, rfl⟩) fun s₈ b => ?_
      · rw [hbs j (List.mem_range.mp hj), ans_one]
      · exact congrArg D.str (getD_map _ _ _ (List.mem_range.mp hj))
      · rw [range_filter (fun p : Nat × Nat => p.2 == v) (rowT (k + 2)) (0, 0) P, heard_rows]
      generalize hHU : heardU P v = HU at *
      have hp1 := pick_len2 (l := HU) (lo := none) (hi := none) (st := some 2) (by omega) ⟨.inl rfl, rfl, rfl⟩
      have hp2 := pick_len2 (l := HU) (lo := some 1) (hi := none) (st := some 2) (by omega) ⟨.inr rfl, rfl, rfl⟩
      have hrow6 : ∀ u, u < 6 → (rowT (k + 2) (u, v)).length ≤ 30 := fun u hu => Nat.le_trans (row_len2 (p := (u, v)) hu hlt) (by omega)
      refine bo_cc (l := (pick HU none none (some 2)).map fun u => rowT (k + 2) (u, v)) (f := fun h => Str.ofString "/" ++ Txt.replace (Txt.slice h (some ((k + 2 : Nat) : Int)) none) (Str.ofString ".") (Str.ofString "//")) D.str D.s (fun _ => rfl) D.str hA b (it_to (it_list (pe_slice_list (k := some 2) (pe_name rfl) po_none po_none (po_some pe_int) (by decide) ?_)) ?_) (compOk_of rfl) (.inl rfl) (fun C' V' h hh => ?_) ?_ (.inl rfl) fun s₈ b => ?_
      · rw [List.length_map, List.length_map]; omega
      · unfold dStrs; rw [pick_map', pick_map']
      · obtain ⟨u, hu, rfl⟩ := List.mem_map.mp hh
        have hu6 := hut u (pick_mem hu)
        have hr := hrow6 u hu6
        have hsl3 := PyProof.Txt.length_slice_le (rowT (k + 2) (u, v)) (some ((k + 2 : Nat) : Int)) none
        have hrp := replace_len (Txt.slice (rowT (k + 2) (u, v)) (some ((k + 2 : Nat) : Int)) none) (Str.ofString ".") (Str.ofString "//")
        have h2 : (Str.ofString "//").length = 2 := by decide
        rw [h2] at hrp
        refine pe_bin pe_str (pe_replace (pe_slice_str (pe_name rfl) (po_some (PE.to (c' := dN (k + 2)) (pe_call gl kp_builtin (pes_cons (pe_name rfl) pes_nil) (cl_len_str (x := dotsS (k + 2)) (by omega))) (by rw [hdl]))) po_none (by omega)) (by decide) ?_) (b2_cat ?_)
        · rw [h2]; omega
        · show 1 + _ ≤ _; omega
      · rw [List.length_map]; omega
      have hfold : (((pick HU none none (some 2)).map fun u => rowT (k + 2) (u, v)).map fun h => Str.ofString "/" ++ Txt.replace (Txt.slice h (some ((k + 2 : Nat) : Int)) none) (Str.ofString ".") (Str.ofString "//")) = (pick HU none none (some 2)).map (folderT v) := by
        rw [List.map_map]; exact List.map_congr_left fun u _ => folder_row
      rw [hfold] at b
      refine bo_make (M := (pick HU (some 1) none (some 2)).map fun x => rowT (k + 2) (x, v)) (P := some ((pick HU none none (some 2)).map (folderT v))) gC (kp_cls X ok) mk hA b (pes_cons (PE.to (c' := .list (dStrs ((pick HU (some 1) none (some 2)).map fun x => rowT (k + 2) (x, v)))) (pe_slice_list (l := some 1) (k := some 2) (pe_name rfl) (po_some pe_int) po_none (po_some pe_int) (by decide) ?_) ?_) (pes_cons (pe_name rfl) pes_nil)) ?_ ?_ ?_ (.inl rfl) fun r2 s₈ hr2 b => ?_
      · rw [List.length_map, List.length_map]; omega
      · unfold dStrs; rw [pick_map', pick_map']
      · rw [List.length_map, hsb]; omega
      · intro p hp
        obtain ⟨u, hu, rfl⟩ := List.mem_map.mp hp
        exact folderT_path v hlt u (hut u (pick_mem hu))
      · show ((pick HU none none (some 2)).map (folderT v)).length ≤ _
        rw [List.length_map]; omega
      have hol : (othersF N P v).length ≤ 5 := by
        unfold othersF
        split
        · exact hnbl v
        · exact Nat.zero_le _
      have hot : ∀ u ∈ othersF N P v, u < 6 := fun u hu => others_lt okN hu
      have hoe := others_eq N P (k + 2) v
      rw [hHU] at hoe
      refine bo_assign (d := .list (dStrs ((othersF N P v).map handS))) hA b (PE.to (pef_cf (l := nb N v) (t := fun _ => !(HU.map fun u => D.str (rowT (k + 2) (u, v))).isEmpty) (f := handS) dN D.n dN_n D.str (it_list (pe_nb okN hlt (pe_name rfl) (pe_name rfl))) (compOk_of rfl) (.inl rfl) (fun C' V' w hw => ts_one (PT.to (pt_cmp (pe_name rfl) (pe_list pes_nil (Nat.le_of_ble_eq_true rfl)) c2_ne_nil) ?_)) (fun C' V' w hw _ => pe_at D.str (Str.ofString "") (pe_name rfl) (pe_name rfl) (hnlt hw) (by decide)) (szN (hnbl v))).pe ?_) (.inr ⟨rfl, rfl⟩) fun s₈ b => ?_
      · rw [List.isEmpty_map, List.isEmpty_map, List.isEmpty_map]
      · rw [hoe]
      generalize hOO : othersF N P v = OO at *
      refine bo_cc (l := OO.map handS) (f := fun o => Str.ofString "/" ++ handS v ++ Str.ofString "/" ++ o ++ Str.ofString "/f") D.str D.s (fun _ => rfl) D.str hA b (it_list (pe_name rfl)) (compOk_of rfl) (.inl rfl) (fun C' V' o ho => ?_) (sz_map (szN hol)) (.inl rfl) fun s₈ b => ?_
      · obtain ⟨u, hu, rfl⟩ := List.mem_map.mp ho
        exact pe_file hlt (hot u hu) (pe_at D.str (Str.ofString "") (pe_name rfl) (pe_name rfl) hlt (by decide)) (pe_name rfl)
      have hk2 : k + 2 ≤ 1000 := Nat.le_trans (Nat.add_le_add_right hk 2) (by decide)
      have hfiles : ((OO.map handS).map fun o => Str.ofString "/" ++ handS v ++ Str.ofString "/" ++ o ++ Str.ofString "/f") = OO.map (fileT v) := by rw [List.map_map]; rfl
      rw [hfiles] at b
      have hwords : ((OO.map handS).map fun o => dotsS (k + 2) ++ handS v ++ Str.ofString "." ++ o) = OO.map fun u => rowT (k + 2) (u, v) := by rw [List.map_map]; rfl
      have hask2 := hask (r2.g :: I :: ad :: ab :: ar :: (U ++ V)) r2 ((pick HU (some 1) none (some 2)).map fun x => rowT (k + 2) (x, v)) (((pick HU none none (some 2)).map (folderT v)).map normP) μ0 1 (OO.map (fileT v)) (OO.map fun u => rowT (k + 2) (u, v)) (some (Str.ofString "f")) (by rw [List.length_map]; omega) (by rw [List.length_map, List.length_map]) bits0 (fun j hj => ⟨fun y hy => ?_, fun y hy => ?_, by rw [List.length_map] at hj; omega⟩) (.head _)
      rotate_left
      · obtain ⟨u, hu, rfl⟩ := List.mem_map.mp hy
        have := hrow6 u (hut u (pick_mem hu)); omega
      · obtain ⟨z, hz, rfl⟩ := List.mem_map.mp hy
        obtain ⟨u, hu, rfl⟩ := List.mem_map.mp hz
        have := folderT_len v hlt u (hut u (pick_mem hu)); omega
      have hdt := door_text okN hP (by omega) (t := k + 2) (by omega) hlt
      rw [hHU, hOO] at hdt
      rw [hdt] at hask2
      have hnr := (List.nodup_cons.mp b.odis).1
      refine bo_assignr (d := .str (doorS N P v)) hA b (pr_frame1 (pr_callw ga ka (pes_cons (pe_name rfl) (pes_cons (pe_name rfl) (pes_cons (PE.to (c' := .list (dStrs (OO.map fun u => rowT (k + 2) (u, v)))) (pef_c (l := OO.map handS) (f := fun o => dotsS (k + 2) ++ handS v ++ Str.ofString "." ++ o) D.str D.s (fun _ => rfl) D.str (it_list (pe_name rfl)) (compOk_of rfl) (.inl rfl) (fun C' V' o ho => ?_) (sz_map (szN hol))).pe (by rw [hwords])) (pes_cons pe_str pes_nil)))) hask2) (not_mem_fst hnr)) rfl (.inr ⟨rfl, rfl⟩) fun s₈ b => ?_
      · obtain ⟨u, hu, rfl⟩ := List.mem_map.mp ho
        exact pe_row (p := (u, v)) hk2 (hot u hu) hlt (pe_name rfl) (pe_at D.str (Str.ofString "") (pe_name rfl) (pe_name rfl) hlt (by decide)) (pe_name rfl)
      have b := b.dropR hwv hov hoV
      have hds : ∀ j, j < OO.length → (⟨#[(doorS N P v).cps.getD j 0]⟩ : Str) = ans01 (P.contains (OO.getD j 0, v)) := fun j hj => by
        have := bits_sign (fun u : Nat => P.contains (u, v)) 0 OO (OO.map fun u => bit01 (P.contains (u, v))) hj
        rw [← this]
        unfold doorS; rw [hOO]
      have hdl2 : (doorS N P v).length = OO.length + OO.length := by unfold doorS; rw [hOO, ms_len, List.length_append, List.length_map]
      have zo : OO.length ≤ sizeLine := szN hol
      obtain ⟨zo1, zo2⟩ := int62 zo
      have hOl : (OO.map handS).length = OO.length := List.length_map ..
      have hout : outF N P v = (OO.filter fun w => !P.contains (w, v)).map fun w => (v, w) := by unfold outF; rw [hOO]
      have hrl2 : (((List.range v).flatMap (outF N P)).map (rowT (k + 2))).length ≤ 5 * 6 := by
        rw [List.length_map]
        refine Nat.le_trans (flat_len _ 5 _ fun u _ => ?_) (Nat.mul_le_mul_left 5 (by rw [List.length_range]; omega))
        unfold outF othersF
        rw [List.length_map]
        refine Nat.le_trans (List.length_filter_le _ _) ?_
        split
        · exact hnbl u
        · exact Nat.zero_le _
      refine bo_assign (d := .list (dStrs (((List.range (v + 1)).flatMap (outF N P)).map (rowT (k + 2))))) hA b (PE.to (pe_bin (pe_name rfl) (pef_cf (l := List.range OO.length) (t := fun j => !P.contains (OO.getD j 0, v)) (f := fun j => rowT (k + 2) (v, OO.getD j 0)) dN D.n dN_n D.str (it_to (it_range1 gr (k := (OO.length : Int)) (PE.to (pe_len D.str gl (pe_name rfl) (sz_map zo)) (by rw [hOl])) zo1 zo2) (rangeZ_nat _)) (compOk_of rfl) (.inl rfl) (fun C' V' j hj => ts_one (PT.to (pt_cmp (pe_sign (k := j) (pe_name rfl) (pe_name rfl) (by rw [hdl2]; have := List.mem_range.mp hj; omega) (by rw [hdl2]; omega)) pe_str c2_eq_str) ?_)) (fun C' V' j hj _ => ?_) (sz_range zo)).pe (b2_app ?_)) ?_) (.inr ⟨rfl, rfl⟩) fun s₈ b => ?_
      · rw [hds j (List.mem_range.mp hj), ans_zero]
      · have hj := List.mem_range.mp hj
        have hm : OO.getD j 0 ∈ OO := by rw [List.getD_eq_getElem?_getD, List.getElem?_eq_getElem hj]; exact List.getElem_mem hj
        have hg : (OO.map handS).getD j (Str.ofString "") = handS (OO.getD j 0) := getD_map _ _ _ hj
        exact pe_row (p := (v, OO.getD j 0)) hk2 hlt (hot _ hm) (pe_name rfl) (PE.to (c' := .str (handS (OO.getD j 0))) (pe_at D.str (Str.ofString "") (pe_name rfl) (pe_name rfl) (by rw [hOl]; exact hj) (sz_map zo)) (by rw [hg])) (pe_at D.str (Str.ofString "") (pe_name rfl) (pe_name rfl) hlt (by decide))
      · have := List.length_filter_le (fun j => !P.contains (OO.getD j 0, v)) (List.range OO.length)
        rw [List.length_range] at this
        simp only [List.length_map] at hrl2 ⊢
        omega
      · have hE : ((List.range (v + 1)).flatMap (outF N P)).map (rowT (k + 2)) = ((List.range v).flatMap (outF N P)).map (rowT (k + 2)) ++ (OO.filter fun u => !P.contains (u, v)).map fun u => rowT (k + 2) (v, u) := by
          rw [List.range_succ, List.flatMap_append, List.map_append, List.flatMap_cons, List.flatMap_nil, List.append_nil, hout, List.map_map (f := fun w => (v, w))]; rfl
        rw [range_filter (fun u => !P.contains (u, v)) (fun u => rowT (k + 2) (v, u)) 0 OO, hE]
        exact congrArg D.list List.map_append.symm
      refine bo_append (O1 := [(ad, _)]) (O2 := [(ar, _)]) (d := .str (boxS P v)) hA b rfl (pe_name rfl) (by rw [List.length_map, List.length_range]; omega) fun s₈ b => ?_
      refine bo_append (O1 := []) (O2 := [(ab, _), (ar, _)]) (d := .str (doorS N P v)) hA b rfl (pe_name rfl) (by rw [List.length_map, List.length_range]; omega) fun s₈ b => ?_
      have e1 : ((List.range v).map fun h => D.str (boxS P h)) ++ [.str (boxS P v)] = (List.range (v + 1)).map fun h => D.str (boxS P h) := by rw [List.range_succ, List.map_append]; rfl
      have e2 : ((List.range v).map fun h => D.str (doorS N P h)) ++ [.str (doorS N P v)] = (List.range (v + 1)).map fun h => D.str (doorS N P h) := by rw [List.range_succ, List.map_append]; rfl
      rw [e1, e2] at b
      exact ex_nil (b.names (by repeat (first | exact sub_nil | refine sub_cons rfl ?_)))
    · have e6 : ((List.range 6).map dN).length = 6 := by decide
      rw [e6, ← hnext] at b
      have b := b.freeze (O1 := []) (O2 := [(ab, _), (ar, _)]) (x := "doors") (V' := ab :: ar :: (U ++ V)) rfl (fun c => ⟨fun h => ⟨.tail _ h, fun e => had (e ▸ h)⟩, fun h => (List.mem_cons.mp h.1).resolve_left h.2⟩) (fun p hp => by rw [List.mem_singleton.mp hp]; exact List.not_mem_nil)
      have b := b.freeze (O1 := []) (O2 := [(ar, _)]) (x := "boxes") (V' := ar :: (U ++ V)) rfl (fun c => ⟨fun h => ⟨.tail _ h, fun e => hab (e ▸ h)⟩, fun h => (List.mem_cons.mp h.1).resolve_left h.2⟩) (fun p hp => by rw [List.mem_singleton.mp hp]; exact List.not_mem_nil)
      refine bo_append (O1 := []) (O2 := []) (d := recF N src LL k) hA b rfl (PE.to (pe_tuple (pes_cons (pe_name rfl) (pes_cons (pe_name rfl) (pes_cons (pe_name rfl) pes_nil))) (Nat.le_of_ble_eq_true rfl)) ?_) (by omega) fun s₈ b => ?_
      · rw [hrec]; unfold dStrs; rw [List.map_map, List.map_map]; rfl
      have eR : R ++ [recF N src LL k] = (List.range (k + 1)).map (recF N src LL) := by rw [← hRR, List.range_succ, List.map_append]; rfl
      rw [List.nil_append, eR] at b
      exact ex_nil ⟨13 - (k + 1), by omega, k + 1, rfl, by omega, fun j hj => (Nat.lt_succ_iff_lt_or_eq.mp hj).elim (hne j) (fun e => by rw [e, hPP]; exact hgo.1), b.names (by repeat (first | exact sub_nil | refine sub_cons rfl ?_))⟩
  · have hc : (!P.isEmpty && decide (k < 12)) = false := by
      rw [← Bool.not_eq_true, Bool.and_eq_true, decide_eq_true_eq]
      rintro ⟨h1, h2⟩
      exact hgo ⟨fun e => by rw [e] at h1; exact absurd h1 (by decide), h2⟩
    rw [hc, if_neg (by decide)]
    have b := b.freeze (O1 := []) (O2 := []) (x := "record") (V' := U ++ V) rfl (fun c => ⟨fun h => ⟨.tail _ h, fun e => har (e ▸ h)⟩, fun h => (List.mem_cons.mp h.1).resolve_left h.2⟩) (fun p hp => by rw [List.mem_singleton.mp hp]; exact List.not_mem_nil)
    refine bo_ret hA b (.head _) (PE.to (pe_name rfl) ?_) q
    unfold floodD
    rw [hstop hgo, hRR]
end
end

section
theorem depth_strs : ∀ l : List Str, D.depthL (dStrs l) = 0
  | [] => rfl
  | x :: l => by
    show max (D.str x).depth (D.depthL (dStrs l)) = 0
    rw [depth_strs l]; rfl
theorem depth_flood (N : Net) (src : Nat) (L : List (List Nat)) : ∀ l : List Nat, D.depthL (l.map (recF N src L)) ≤ 2
  | [] => Nat.zero_le _
  | k :: l => by
    show max (recF N src L k).depth (D.depthL (l.map (recF N src L))) ≤ 2
    have h1 := depth_flood N src L l
    have h2 : (recF N src L k).depth ≤ 2 := by
      show max 0 (max (D.depthL (dStrs _) + 1) (max (D.depthL (dStrs _) + 1) 0)) + 1 ≤ 2
      rw [depth_strs, depth_strs]; decide
    omega
/-- is there a one in a hand's box -/
noncomputable def oneIn (src : Nat) : D → Bool
  | .tuple [_, .list bs, _] => match bs[src]? with | some (.str x) => !(Builtin.Str.occurrences x (Str.ofString "1") 0 x.length 1).isEmpty | _ => false
  | _ => false
theorem one_rec {N : Net} {src : Nat} (hs : src < 6) (L : List (List Nat)) (k : Nat) : oneIn src (recF N src L k) = (PF N src k).any fun p => p.2 == src := by
  rw [← box_one]
  show (match (dStrs ((List.range 6).map (boxS (PF N src k))))[src]? with | some (.str x) => !(Builtin.Str.occurrences x (Str.ofString "1") 0 x.length 1).isEmpty | _ => false) = _
  have e : (dStrs ((List.range 6).map (boxS (PF N src k))))[src]? = some (.str (boxS (PF N src k) src)) := by
    unfold dStrs; rw [List.getElem?_map, List.getElem?_map, List.getElem?_range hs]; rfl
  rw [e]
theorem back_eq {N : Net} {src : Nat} (hs : src < 6) (L : List (List Nat)) : (!((floodD N src L).filter (oneIn src)).isEmpty) = backF N src := by
  unfold floodD backF
  rw [List.filter_map, List.isEmpty_map]
  congr 2
  apply List.filter_congr
  intro k _
  exact one_rec hs L k
noncomputable def firstsG : List Nat := [16423, 3, 948264]
noncomputable def drawJ (ns : List Int) (k : Nat) : Int := ((pick ns (some (k : Int)) none (some 3)).sum + (firstsG.getD k 0 : Nat)).fmod (10 ^ 6)
noncomputable def drawG (ns : List Int) (k : Nat) : Nat := (drawJ ns k).toNat
theorem drawG_nat (ns : List Int) (k : Nat) : drawJ ns k = (drawG ns k : Int) := by
  unfold drawG
  rw [Int.toNat_of_nonneg]
  unfold drawJ
  exact Int.fmod_nonneg_of_pos _ (by decide)
theorem drawG_lt (ns : List Int) (k : Nat) : drawG ns k < 1000000 := by
  have := Int.fmod_lt_of_pos ((pick ns (some (k : Int)) none (some 3)).sum + (firstsG.getD k 0 : Nat)) (show (0 : Int) < 10 ^ 6 by decide)
  have h2 := drawG_nat ns k
  unfold drawJ at h2
  omega
noncomputable def signF (c j : Nat) : Str := [Str.ofString "\r", Str.ofString "\n", Str.ofString ".", Str.ofString "a", ⟨#[c]⟩].getD j (Str.ofString "")
theorem sign_pick {c j : Nat} (h : j < 5) : ([D.str (Str.ofString "\r"), .str (Str.ofString "\n"), .str (Str.ofString "."), .str (Str.ofString "a"), .str ⟨#[c]⟩])[j]? = some (.str (signF c j)) := by
  have : j = 0 ∨ j = 1 ∨ j = 2 ∨ j = 3 ∨ j = 4 := by omega
  rcases this with rfl | rfl | rfl | rfl | rfl <;> rfl
theorem sign_len {c j : Nat} (h : j < 5) : (signF c j).length = 1 := by
  have : j = 0 ∨ j = 1 ∨ j = 2 ∨ j = 3 ∨ j = 4 := by omega
  rcases this with rfl | rfl | rfl | rfl | rfl <;> rfl
noncomputable def textG (c d : Nat) : Str := Str.ofString "." ++ Txt.join (Str.ofString "") ((List.range 8).map fun k => signF c (d / 5 ^ k % 5)) ++ Str.ofString "\n\n\rb."
theorem textG_sum (c d : Nat) : (((List.range 8).map fun k => signF c (d / 5 ^ k % 5)).map (·.length)).sum ≤ 8 := by
  rw [List.map_map]
  refine Nat.le_trans (sum_le _ 1 _ fun k _ => Nat.le_of_eq (sign_len (Nat.mod_lt _ (by decide)))) (by rw [List.length_range]; decide)
theorem textG_join (c d : Nat) : (Txt.join (Str.ofString "") ((List.range 8).map fun k => signF c (d / 5 ^ k % 5))).length ≤ 8 := by
  have h := textG_sum c d
  generalize ((List.range 8).map fun k => signF c (d / 5 ^ k % 5)) = ts at *
  have := StrLaws.join_length_le (Str.ofString "") ts
  have e0 : (Str.ofString "").length = 0 := by decide
  rw [e0, Nat.mul_zero] at this
  have e2 : Txt.join (Str.ofString "") ts = Builtin.Str.glued (Str.ofString "") ts := rfl
  rw [e2, StrLaws.glued_eq_join]; omega
theorem textG_len (c d : Nat) : (textG c d).length ≤ 100 := by
  have := textG_join c d
  unfold textG
  rw [Str.length_append, Str.length_append]
  show 1 + _ + 5 ≤ _; omega
theorem textG_head (c d : Nat) : (sl (textG c d)).head? = some 46 := by
  unfold textG
  rw [sl_app, sl_app]; rfl
section
variable {prog : Program} {w : World} {h₀ : Heap} {n : Nat} {env : Env} {V W : List Addr} {ρ : List (Str × D)} {s0 : Shared}

set_option maxHeartbeats 4000000 in
theorem cl_law2 {f : Addr} {name qual bind : Str} {params : Arguments} {body : List Stmt} {scope : Scope} {kV doc pm cdv ct : Value} {an : Option Addr} {deco : List Expr} {tp : List TypeParam} {ts : Option Scope} {ret : Option Expr} {pos : Pos}
    (hdef : PySem.Challenge.pw_pu0003_02.main.body[22]? = some (.FunctionDef name params body deco ret tp scope ts bind pos))
    (K : Fn h₀ f (fnOf name qual params body scope .none kV doc pm an cdv ct) body) (hlim : h₀.NoLimit) (gr : GV h₀ "range" (.type "range")) (gsum : GV h₀ "sum" (.builtin "sum")) (gchr : GV h₀ "chr" (.builtin "chr"))
    {fn ff fw fp : Addr} (gn : GV h₀ "_law_near" (.ref fn)) (kn : Kp h₀ (.ref fn)) (hn : ∀ (V : List Addr) (bits : Nat), CL prog w h₀ n V (.ref fn) [.int bits] (netD (netL bits)))
    (gf : GV h₀ "_law_flood" (.ref ff)) (kf : Kp h₀ (.ref ff)) (hf : ∀ (V : List Addr) (N : Net) (src shift : Nat) (text : Str), NetOk N → src < 6 → text.length ≤ 100 → (sl text).head? = some 46 → CL prog w h₀ n V (.ref ff) [.list (dStrs handsL), netD N, dN src, .str text, dN shift] (.list (floodD N src (linesL (sl text)))))
    (gw : GV h₀ "_law_walks" (.ref fw)) (kw : Kp h₀ (.ref fw)) (hw : ∀ (V : List Addr) (N : Net) (src : Nat) (text : Str), NetOk N → src < 6 → text.length ≤ 100 → CL prog w h₀ n V (.ref fw) [.list (dStrs handsL), netD N, dN src, .str text] (.list (walksD N src (linesL (sl text)))))
    (gp : GV h₀ "_law_painted" (.ref fp)) (kp : Kp h₀ (.ref fp)) (hp : ∀ (V : List Addr) (N : Net) (src : Nat), NetOk N → src < 6 → CL prog w h₀ n V (.ref fp) [netD N, dN src] (.bool (paintF N src)))
    {ns : List Int} (hns : ns.length ≤ 10000) : CL prog w h₀ (n + 1) V (.ref f) [.list (dInts ns)] (.bool true) := by
  injection hdef with hdef
  injection hdef with h1 h2 h3 h4 h5 h6 h7 h8 h9
  subst h1 h2 h3 h4 h5 h6 h7 h8 h9
  have hline : sizeLine = 16777216 := rfl
  refine cl_fno (params := ["script"]) K hlim (fun vals h => ?_) rfl (by decide) (by intro x hx; rw [List.mem_singleton.mp hx]; exact .inr rfl) fun A s s₁ L U E Q hA hU b q => ?_
  · obtain ⟨_, rfl⟩ := vals1 h; rfl
  refine bo_assign (d := .list (dNs ((List.range 3).map (drawG ns)))) hA b (pef_c (l := List.range 3) (f := drawG ns) dN D.n dN_n dN (it_to (it_range1 gr (k := 3) (by walk_at "pe") (by decide) (by decide)) (rangeZ_nat 3)) (compOk_of rfl) (.inl rfl) (fun C' V' k hk => ?_) (by decide)).pe (.inr ⟨rfl, rfl⟩) fun s b => ?_
  · have hk := List.mem_range.mp hk
    refine PE.to (pe_bin (pe_bin (pe_call gsum kp_builtin (pes_cons (PE.to (c' := .list (dInts (pick ns (some (k : Int)) none (some 3)))) (pe_slice_list (pe_name rfl) (po_some (pe_name rfl)) po_none (po_some pe_int) (by decide) (by rw [List.length_map]; omega)) (by rw [pick_map'])) pes_nil) cl_sum) (pe_sub (by walk_at "pe") (pe_name rfl) .tuple (gi_tuple (d := .int (firstsG.getD k 0 : Nat)) (by omega) ?_ (Nat.le_of_ble_eq_true rfl))) b2_add) (pe_bin pe_int pe_int (b2_pow (by decide) (by decide) (by decide))) (b2_mod (by decide))) ?_
    · rw [Int.toNat_natCast]
      have : k = 0 ∨ k = 1 ∨ k = 2 := by omega
      rcases this with rfl | rfl | rfl <;> rfl
    · exact congrArg D.int (drawG_nat ns k)
  have hdl : ((List.range 3).map (drawG ns)).length = 3 := by rw [List.length_map, List.length_range]
  have dget : ∀ k, k < 3 → ((List.range 3).map (drawG ns)).getD k 0 = drawG ns k := fun k hk => by
    rw [List.getD_eq_getElem?_getD, List.getElem?_map, List.getElem?_range hk]; rfl
  have g0 := dget 0 (by decide)
  have g1 := dget 1 (by decide)
  have g2 := dget 2 (by decide)
  clear dget
  have hd1 := drawG_lt ns 1
  have hd2 := drawG_lt ns 2
  generalize drawG ns 0 = d0 at *
  generalize drawG ns 1 = d1 at *
  generalize drawG ns 2 = d2 at *
  generalize (List.range 3).map (drawG ns) = draws at *
  have okN := net_ok d0
  have hs6 : d1 % 6 < 6 := Nat.mod_lt _ (by decide)
  have hc : d2 % 55296 < 55296 := Nat.mod_lt _ (by decide)
  have htl := textG_len (d2 % 55296) d2
  have hth := textG_head (d2 % 55296) d2
  have htj := textG_join (d2 % 55296) d2
  have hts := textG_sum (d2 % 55296) d2
  refine bo_assign (d := .list (dStrs handsL)) hA b (pe_list (by walk_at "pes") (Nat.le_of_ble_eq_true rfl)) (.inl rfl) fun s b => ?_
  refine bo_assign (d := netD (netL d0)) hA b (pe_call gn kn (pes_cons (PE.to (c' := .int d0) (pe_at dN 0 (k := 0) (pe_name rfl) pe_int (by omega) (by omega)) (by rw [g0])) pes_nil) (hn _ d0)) (.inl rfl) fun s b => ?_
  refine bo_assign (d := dN (d1 % 6)) hA b (PE.to (pe_bin (pe_at dN 0 (k := 1) (pe_name rfl) pe_int (by omega) (by omega)) pe_int (b2_mod (by decide))) (by rw [g1]; exact congrArg D.int (fmodN d1 6))) (.inr ⟨rfl, rfl⟩) fun s b => ?_
  refine bo_assign (d := .tuple [.str (Str.ofString "\r"), .str (Str.ofString "\n"), .str (Str.ofString "."), .str (Str.ofString "a"), .str ⟨#[d2 % 55296]⟩]) hA b (pe_tuple (pes_cons pe_str (pes_cons pe_str (pes_cons pe_str (pes_cons pe_str (pes_cons (PE.to (c := .str ⟨#[((d2 % 55296 : Nat) : Int).toNat]⟩) (pe_call gchr kp_builtin (pes_cons (PE.to (c' := .int (d2 % 55296 : Nat)) (pe_bin (pe_at dN 0 (k := 2) (pe_name rfl) pe_int (by omega) (by omega)) pe_int (b2_mod (by decide))) (by rw [g2]; exact congrArg D.int (fmodN d2 55296))) pes_nil) (cl_chr (by omega) (by omega))) (by rw [Int.toNat_natCast])) pes_nil))))) (Nat.le_of_ble_eq_true rfl)) (.inr ⟨rfl, rfl⟩) fun s b => ?_
  refine bo_assign (d := .str (textG (d2 % 55296) d2)) hA b (pe_bin (pe_bin pe_str (pe_meth pe_str (mt_str F.slot_str_join F.type_str_join) (pes_cons (pef_c (l := List.range 8) (f := fun k => signF (d2 % 55296) (d2 / 5 ^ k % 5)) dN D.n dN_n D.str (it_to (it_range1 gr (k := 8) (by walk_at "pe") (by decide) (by decide)) (rangeZ_nat 8)) (compOk_of rfl) (.inl rfl) (fun C' V' k hk => ?_) (by decide)).pe pes_nil) (mc_join ?_)) (b2_cat ?_)) pe_str (b2_cat ?_)) (.inl rfl) fun s b => ?_
  · have hk := List.mem_range.mp hk
    have hpow : (5 : Int) ^ ((k : Int)).toNat = ((5 ^ k : Nat) : Int) := by rw [Int.toNat_natCast, Int.natCast_pow]; rfl
    have hle : 5 ^ k ≤ 5 ^ 8 := Nat.pow_le_pow_right (by decide) (by omega)
    have hpos : 0 < 5 ^ k := Nat.pow_pos (by decide)
    have hm : d2 / 5 ^ k % 5 < 5 := Nat.mod_lt _ (by decide)
    refine pe_sub (pe_name rfl) (PE.to (c' := dN (d2 / 5 ^ k % 5)) (pe_bin (pe_bin (pe_at dN 0 (k := 2) (pe_name rfl) pe_int (by omega) (by omega)) (pe_bin pe_int (pe_name rfl) (b2_pow (by omega) (by decide) (by omega))) (b2_div ?_ ?_)) pe_int (b2_mod (by decide))) ?_) .tuple (gi_tuple (d := .str (signF (d2 % 55296) (d2 / 5 ^ k % 5))) (by show (0 : Int) ≤ ((_ : Nat) : Int); omega) ?_ (Nat.le_of_ble_eq_true rfl))
    · rw [hpow]; omega
    · rw [hpow]; omega
    · rw [g2, hpow, fdivN]
      exact congrArg D.int (fmodN (d2 / 5 ^ k) 5)
    · rw [Int.toNat_natCast]; exact sign_pick hm
  · show _ + _ * 0 ≤ _; omega
  · show 1 + _ ≤ _; omega
  · show (Str.ofString "." ++ Txt.join (Str.ofString "") ((List.range 8).map fun k => signF (d2 % 55296) (d2 / 5 ^ k % 5))).length + 5 ≤ _
    rw [Str.length_append]; show 1 + _ + 5 ≤ _; omega
  generalize textG (d2 % 55296) d2 = text at *
  generalize d1 % 6 = src at *
  generalize netL d0 = N at *
  have hfl : (floodD N src (linesL (sl text))).length ≤ 12 := by unfold floodD; rw [List.length_map, List.length_range]; exact (len_filter N src).2.1
  have hwd := flood_walks okN (src := src) (L := linesL (sl text)) (lines_ne _)
  have hdep : D.depthL (floodD N src (linesL (sl text))) ≤ 60 := Nat.le_trans (depth_flood N src _ _) (by decide)
  have hback := back_eq (N := N) hs6 (linesL (sl text))
  have hmem : ∀ d ∈ floodD N src (linesL (sl text)), ∃ k, d = recF N src (linesL (sl text)) k := fun d hd => by obtain ⟨k, _, rfl⟩ := List.mem_map.mp hd; exact ⟨k, rfl⟩
  refine bo_assign (d := .list (floodD N src (linesL (sl text)))) hA b (pe_call gf kf (pes_cons (pe_name rfl) (pes_cons (pe_name rfl) (pes_cons (pe_name rfl) (pes_cons (pe_name rfl) (pes_cons (PE.to (c' := dN (d1 / 6)) (pe_bin (pe_at dN 0 (k := 1) (pe_name rfl) pe_int (by omega) (by omega)) pe_int (b2_div (by decide) (by decide))) (by rw [g1]; exact congrArg D.int (fdivN d1 6))) pes_nil))))) (hf _ N src (d1 / 6) text okN hs6 htl hth)) (.inl rfl) fun s b => ?_
  refine bo_if (c := false) hA b b.in0 b.fm (pt_cmp (pe_name rfl) (PE.to (c' := .list (floodD N src (linesL (sl text)))) (pe_call gw kw (pes_cons (pe_name rfl) (pes_cons (pe_name rfl) (pes_cons (pe_name rfl) (pes_cons (pe_name rfl) pes_nil)))) (hw _ N src text okN hs6 htl)) (by rw [hwd])) (c2_ne_same hdep)) (fun h => nomatch h) fun _ s b => ?_
  refine ex_nil ?_
  refine bo_assign (d := .bool (backF N src)) hA b (PE.to (pe_cmp (pef_comp1 (ds := floodD N src (linesL (sl text))) (t := oneIn src) (f := fun d => d) (it_list (pe_name rfl)) (compOk_of rfl) (.inl rfl) (fun C' V' d hd => ts_one ?_) (fun C' V' d hd _ => pe_name rfl) (by omega)).pe (pe_list pes_nil (Nat.le_of_ble_eq_true rfl)) c2_ne_nil) ?_) (.inl rfl) fun s b => ?_
  · obtain ⟨k, rfl⟩ := hmem d hd
    refine PT.to (pt_cmp pe_str (pe_sub (pe_sub (pe_name rfl) pe_int .tuple (gi_tuple (d := .list (dStrs ((List.range 6).map (boxS (PF N src k))))) (by decide) rfl (Nat.le_of_ble_eq_true rfl))) (pe_name rfl) .list (gi_list (d := .str (boxS (PF N src k) src)) (by show (0 : Int) ≤ (src : Int); omega) ?_ (by rw [List.length_map, List.length_map, List.length_range]; decide))) c2_in_str) ?_
    · unfold dStrs; rw [Int.toNat_natCast, List.getElem?_map, List.getElem?_map, List.getElem?_range hs6]; rfl
    · rw [one_rec hs6, ← box_one]
  · rw [List.map_id', hback]
  have hfin := law2_back okN hs6
  exact bo_ret hA b (.head _) (PE.to (pe_cmp (pe_name rfl) (pe_call gp kp (pes_cons (pe_name rfl) (pes_cons (pe_name rfl) pes_nil)) (hp _ N src okN hs6)) c2_ne_bool) (by rw [hfin])) q
end
end
end Mine
end

open PySem PySem.Calls PySem.W PySem.W.X PyProof.Rows Mine
set_option Elab.async false
set_option maxRecDepth 100000
set_option maxHeartbeats 8000000 in
theorem PySem.Challenge.cw_pu0003_02_holds : PySem.Challenge.rw_pu0003_02.Holds := by
  w_on; o_law; z_head; (case hw => w_witness2)
  k_fill
  intro w s₀ s₁ mg mb G y fa o pm cd doc dV kV ho hd hcd hD hmg hg args vals as L hpre hlay hrd hwl hlo
  z_open y L KX ZH ZN ZT
  refine Ground.open G ?_
  intro T B D TE TW
  wrow_args hpre hlay hrd hwl hlo
  obtain ⟨hat, hsz⟩ := script_at L
  have htk := script_toks L ZT
  rw [ZN] at hat hsz
  subst hat
  rename Heap.IsList _ _ _ => hLs
  rename IntsAre _ _ => hI
  have hobj := script_obj L hLs
  have Bs0 : Bs s₁.heap mg mb := ⟨T.g, T.b, T.nolimit, T.builtins⟩
  have gr : GV s₁.heap "range" (.type "range") := gv_builtin Bs0 (mg_none_of KX T.g (by k_is)) (by boot_by_name) (by decide)
  have gl : GV s₁.heap "len" (.builtin "len") := gv_builtin Bs0 (mg_none_of KX T.g (by k_is)) (by boot_by_name) (by decide)
  have gsum : GV s₁.heap "sum" (.builtin "sum") := gv_builtin Bs0 (mg_none_of KX T.g (by k_is)) (by boot_by_name) (by decide)
  have gchr : GV s₁.heap "chr" (.builtin "chr") := gv_builtin Bs0 (mg_none_of KX T.g (by k_is)) (by boot_by_name) (by decide)
  have gstr : GV s₁.heap "str" (.type "str") := gv_builtin Bs0 (mg_none_of KX T.g (by k_is)) (by boot_by_name) (by decide)
  have gset : GV s₁.heap "set" (.type "set") := gv_builtin Bs0 (mg_none_of KX T.g (by k_is)) (by boot_by_name) (by decide)
  have gtype : GV s₁.heap "type" (.type "type") := gv_builtin Bs0 (mg_none_of KX T.g (by k_is)) (by boot_by_name) (by decide)
  have hsys : ∃ o, s₁.heap.get? sysModules = some o := ⟨_, KX _ _ (by k_is)⟩
  have gsep := gv_global (x := "sep") Bs0 (mg_of KX T.g (by k_is))
  have gcrlf := gv_global (x := "CRLF") Bs0 (mg_of KX T.g (by k_is))
  have g1 := gv_global (x := "_twin_re_1") Bs0 (mg_of KX T.g (by k_is))
  have g2 := gv_global (x := "_twin_re_2") Bs0 (mg_of KX T.g (by k_is))
  have fq := fn_glob (x := "quotedata") KX Bs0 (by k_is) (by k_is) (by k_is) (by rfl) (by rfl) (by rfl) (by rfl) (by rfl) (by rfl) (by rfl)
  have fkind := fn_glob (x := "_kind") KX Bs0 (by k_is) (by k_is) (by k_is) (by rfl) (by rfl) (by rfl) (by rfl) (by rfl) (by rfl) (by rfl)
  have fcp := fn_glob (x := "_c_path") KX Bs0 (by k_is) (by k_is) (by k_is) (by rfl) (by rfl) (by rfl) (by rfl) (by rfl) (by rfl) (by rfl)
  have fsr := fn_glob (x := "_splitroot") KX Bs0 (by k_is) (by k_is) (by k_is) (by rfl) (by rfl) (by rfl) (by rfl) (by rfl) (by rfl) (by rfl)
  have fnp_ := fn_glob (x := "_normpath") KX Bs0 (by k_is) (by k_is) (by k_is) (by rfl) (by rfl) (by rfl) (by rfl) (by rfl) (by rfl) (by rfl)
  have fnp := fn_glob (x := "normpath") KX Bs0 (by k_is) (by k_is) (by k_is) (by rfl) (by rfl) (by rfl) (by rfl) (by rfl) (by rfl) (by rfl)
  have fnear := fn_glob (x := "_law_near") KX Bs0 (by k_is) (by k_is) (by k_is) (by rfl) (by rfl) (by rfl) (by rfl) (by rfl) (by rfl) (by rfl)
  have fask := fn_glob (x := "_law_asked") KX Bs0 (by k_is) (by k_is) (by k_is) (by rfl) (by rfl) (by rfl) (by rfl) (by rfl) (by rfl) (by rfl)
  have fflo := fn_glob (x := "_law_flood") KX Bs0 (by k_is) (by k_is) (by k_is) (by rfl) (by rfl) (by rfl) (by rfl) (by rfl) (by rfl) (by rfl)
  have fwal := fn_glob (x := "_law_walks") KX Bs0 (by k_is) (by k_is) (by k_is) (by rfl) (by rfl) (by rfl) (by rfl) (by rfl) (by rfl) (by rfl)
  have fpai := fn_glob (x := "_law_painted") KX Bs0 (by k_is) (by k_is) (by k_is) (by rfl) (by rfl) (by rfl) (by rfl) (by rfl) (by rfl) (by rfl)
  have flaw := fn_glob (x := "law") KX Bs0 (by k_is) (by k_is) (by k_is) (by rfl) (by rfl) (by rfl) (by rfl) (by rfl) (by rfl) (by rfl)
  have cC := cls_all (x := "_Ignore") KX Bs0 (by k_is) (by k_is) (by k_is) (by k_is) (by k_is) (by k_is) (by k_is) (by k_is) (by k_is) (by k_is) (by k_is) (by k_is) (by k_is) (by k_is) (by k_is) (by k_is) (by k_is) (by rfl)
    (by k_is) (by k_is) (by rfl) (by rfl) (by rfl) (by rfl) (by rfl) (by rfl) (by rfl) (by k_is) (by k_is) (by rfl) (by rfl) (by rfl) (by rfl) (by rfl) (by rfl) (by rfl)
  have hcI := (mg_of (n := "law") KX T.g (by k_is)).symm.trans hmg
  injection hcI with hcI
  injection hcI with hcI
  subst hcI
  have hlim := T.nolimit
  have P1 : Pat s₁.heap 105 code1 := ⟨_, _, _, KX _ _ (by k_is), by rfl, by rfl, by rfl, by rfl, by rfl, by rfl, _, _, _, KX _ _ (by k_is), by rfl, by decide +kernel⟩
  have P2 : Pat s₁.heap 110 code2 := ⟨_, _, _, KX _ _ (by k_is), by rfl, by rfl, by rfl, by rfl, by rfl, by rfl, _, _, _, KX _ _ (by k_is), by rfl, by decide +kernel⟩
  have kq := fun (V : List Addr) (x : Str) (hx : x.length ≤ 20000) => CL.mono (cl_quotedata (prog := PySem.Challenge.rw_pu0003_02.row.prog) (w := w) (n := 0) (V := V) rfl fq.2.2 hlim g1 g2 gcrlf P1 P2 hx) (show 1 ≤ 6 by decide)
  have kkind := fun (V : List Addr) (y x : Str) => cl_kind (prog := PySem.Challenge.rw_pu0003_02.row.prog) (w := w) (n := 0) (V := V) (x := x) (y := y) rfl fkind.2.2 hlim gtype gstr
  have kcp := fun (V : List Addr) (x y z u : Str) (a : Addr) => cl_cpath (prog := PySem.Challenge.rw_pu0003_02.row.prog) (w := w) (n := 1) (V := V) (x := x) (y := y) (z := z) (u := u) (a := a) rfl fcp.2.2 hlim gl fkind.1 fkind.2.1 kkind
  have ksr := fun (V : List Addr) (p : Str) (hp : p.length ≤ sizeLine) => cl_splitroot (prog := PySem.Challenge.rw_pu0003_02.row.prog) (w := w) (n := 0) (V := V) rfl fsr.2.2 hlim hp
  have knp_ := fun (V : List Addr) (p : Str) (hp : PathOk p) => cl_normpath_ (prog := PySem.Challenge.rw_pu0003_02.row.prog) (w := w) (n := 1) (V := V) rfl fnp_.2.2 hlim fsr.1 fsr.2.1 ksr hp
  have knp := fun (V : List Addr) (p : Str) (hp : PathOk p) => cl_normpath (prog := PySem.Challenge.rw_pu0003_02.row.prog) (w := w) (n := 2) (V := V) rfl fnp.2.2 hlim hsys fcp.1 fcp.2.1 kcp fnp_.1 fnp_.2.1 knp_ hp
  have kN := cl_names (prog := PySem.Challenge.rw_pu0003_02.row.prog) (w := w) (n := 0) rfl cC.2.2.2.2 hlim KX cC.2.1 gsep
  have kMK := mk_reader (prog := PySem.Challenge.rw_pu0003_02.row.prog) (w := w) (n := 3) rfl cC.2.2.1 hlim KX cC.2.1 gset (KX _ _ (by k_is)) (by rfl) hsys fnp.1 fnp.2.1 knp
  have knear := fun (V : List Addr) (bits : Nat) => CL.mono (cl_law_near (prog := PySem.Challenge.rw_pu0003_02.row.prog) (w := w) (n := 0) (V := V) (bits := bits) rfl fnear.2.2 hlim gr) (show 1 ≤ 7 by decide)
  have kask : AskedC PySem.Challenge.rw_pu0003_02.row.prog w s₁.heap 6 _ _ := fun V r M dirs μ k files words file a1 a2 a3 a4 a5 => CLW.mono (cl_law_asked (prog := PySem.Challenge.rw_pu0003_02.row.prog) (w := w) (n := 1) (V := V) rfl fask.2.2 hlim gr gl gstr KX cC.2.1 kN cC.2.2.2.1 a1 a2 a3 a4 a5) (show 2 ≤ 6 by decide)
  have kflo := fun (V : List Addr) (N : Net) (src shift : Nat) (text : Str) (h1 : NetOk N) (h2 : src < 6) (h3 : text.length ≤ 100) (h4 : (sl text).head? = some 46) => cl_law_flood (prog := PySem.Challenge.rw_pu0003_02.row.prog) (w := w) (n := 6) (V := V) (shift := shift) rfl fflo.2.2 hlim gr gl KX cC.2.1 cC.1 (kMK.mono (by decide)) fask.1 fask.2.1 kask fq.1 fq.2.1 kq h1 h2 h3 h4
  have kwal := fun (V : List Addr) (N : Net) (src : Nat) (text : Str) (h1 : NetOk N) (h2 : src < 6) (h3 : text.length ≤ 100) => CL.mono (cl_law_walks (prog := PySem.Challenge.rw_pu0003_02.row.prog) (w := w) (n := 0) (V := V) rfl fwal.2.2 hlim gr h1 h2 h3) (show 1 ≤ 7 by decide)
  have kpai := fun (V : List Addr) (N : Net) (src : Nat) (h1 : NetOk N) (h2 : src < 6) => CL.mono (cl_law_painted (prog := PySem.Challenge.rw_pu0003_02.row.prog) (w := w) (n := 0) (V := V) rfl fpai.2.2 hlim gr h1 h2) (show 1 ≤ 7 by decide)
  have klaw := fun (ns : List Int) (hns : ns.length ≤ 10000) => cl_law2 (prog := PySem.Challenge.rw_pu0003_02.row.prog) (w := w) (n := 7) (V := []) rfl flaw.2.2 hlim gr gsum gchr fnear.1 fnear.2.1 knear fflo.1 fflo.2.1 kflo fwal.1 fwal.2.1 kwal fpai.1 fpai.2.1 kpai hns
  refine klaw _ (by omega) callerA s₁ _ _ [.ref 150] ⟨rfl, by decide, by decide⟩ ⟨fun _ _ e => e, Nat.le_trans (by decide) htk, fun _ h => nomatch h⟩ (fun _ h => nomatch h) (.cons (.list (vs := _) (fun h => nomatch h) ⟨_, hobj⟩ (.ofInts hI)) .nil) fun x s' e r => ?_
  cases r
  refine GoodW.toG ⟨.inl ⟨_, .bool true, [], rfl, raisesW_false ?_, .bool true, ?_, unshared_nil⟩, fun b o q => e.ext b o (fun h => nomatch h) q, e.os, e.gens.trans hg⟩
  · wrow_none_raised
  · wrow_post
