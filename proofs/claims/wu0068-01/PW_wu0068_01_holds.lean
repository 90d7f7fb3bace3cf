import PyProof.Rows.All
import Wide.All
import OpenK.AllK
import Wide.FinOn
import PySem.Challenge.RW_wu0068_01
set_option maxRecDepth 100000
set_option Elab.async false
set_option linter.unusedVariables false
set_option compiler.extract_closed false
set_option genSizeOf false
set_option genInjectivity false
namespace Urn
/-! UrnCore -/
section
set_option genSizeOf false
set_option genInjectivity false
open PySem

inductive All2 {α β : Type} (R : α → β → Prop) : List α → List β → Prop
  | nil : All2 R [] []
  | cons {x y xs ys} : R x y → All2 R xs ys → All2 R (x :: xs) (y :: ys)
namespace All2
variable {α β : Type} {R R' : α → β → Prop}
theorem uncons {x : α} {y : β} {xs : List α} {ys : List β} (h : All2 R (x :: xs) (y :: ys)) : R x y ∧ All2 R xs ys := by
  cases h with
  | cons a r => exact ⟨a, r⟩
theorem imp (h : ∀ x y, R x y → R' x y) {xs : List α} {ys : List β} (r : All2 R xs ys) : All2 R' xs ys := by
  induction r with
  | nil => exact .nil
  | cons a _ ih => exact .cons (h _ _ a) ih
theorem length {xs : List α} {ys : List β} (r : All2 R xs ys) : xs.length = ys.length := by
  induction r with
  | nil => rfl
  | cons _ _ ih => exact congrArg (· + 1) ih
theorem get {xs : List α} {ys : List β} (r : All2 R xs ys) : ∀ {i : Nat} {x}, xs[i]? = some x → ∃ y, ys[i]? = some y ∧ R x y := by
  induction r with
  | nil => intro i x e; cases e
  | cons a _ ih =>
    intro i x e
    cases i with
    | zero => cases e; exact ⟨_, rfl, a⟩
    | succ i => exact ih (i := i) e
theorem get' {xs : List α} {ys : List β} (r : All2 R xs ys) : ∀ {i : Nat} {y}, ys[i]? = some y → ∃ x, xs[i]? = some x ∧ R x y := by
  induction r with
  | nil => intro i x e; cases e
  | cons a _ ih =>
    intro i x e
    cases i with
    | zero => cases e; exact ⟨_, rfl, a⟩
    | succ i => exact ih (i := i) e
theorem set {xs : List α} {ys : List β} (r : All2 R xs ys) : ∀ (i : Nat) {x y}, R x y → All2 R (xs.set i x) (ys.set i y) := by
  induction r with
  | nil => exact fun _ _ _ _ => .nil
  | cons a r ih =>
    intro i x y h
    cases i with
    | zero => exact .cons h r
    | succ i => exact .cons a (ih i h)
theorem append {xs xs' : List α} {ys ys' : List β} (r : All2 R xs ys) (h : All2 R xs' ys') : All2 R (xs ++ xs') (ys ++ ys') := by
  induction r with
  | nil => exact h
  | cons a _ ih => exact .cons a ih
theorem take {xs : List α} {ys : List β} (r : All2 R xs ys) : ∀ n, All2 R (xs.take n) (ys.take n) := by
  induction r with
  | nil => intro n; cases n <;> exact .nil
  | cons a _ ih =>
    intro n
    cases n with
    | zero => exact .nil
    | succ n => exact .cons a (ih n)
theorem drop {xs : List α} {ys : List β} (r : All2 R xs ys) : ∀ n, All2 R (xs.drop n) (ys.drop n) := by
  induction r with
  | nil => intro n; cases n <;> exact .nil
  | cons a r ih =>
    intro n
    cases n with
    | zero => exact .cons a r
    | succ n => exact ih n
theorem mem {xs : List α} {ys : List β} (r : All2 R xs ys) : ∀ {x}, x ∈ xs → ∃ y, y ∈ ys ∧ R x y := by
  induction r with
  | nil => intro x h; cases h
  | cons a _ ih =>
    intro x h
    cases h with
    | head => exact ⟨_, List.mem_cons_self, a⟩
    | tail _ h =>
      obtain ⟨y, hy, hr⟩ := ih h
      exact ⟨y, List.mem_cons_of_mem _ hy, hr⟩
theorem impMem {xs : List α} {ys : List β} (r : All2 R xs ys) : (∀ x y, x ∈ xs → R x y → R' x y) → All2 R' xs ys := by
  induction r with
  | nil => exact fun _ => .nil
  | cons a _ ih => exact fun h => .cons (h _ _ List.mem_cons_self a) (ih fun x y m => h x y (List.mem_cons_of_mem _ m))
end All2

set_option genInjectivity true in
inductive At where
  | none
  | bool (b : Bool)
  | int (i : Int)
  | str (s : Str)
  deriving DecidableEq
set_option genInjectivity true in
inductive PV where
  | av (a : At)
  | tup (xs : List At)
  | dct (es : List (Str × Str))
  | lst (k : Nat)
  | fls (ns : List Int)

noncomputable abbrev Fz := Addr → Option Obj
/-- what the walk knows of the heap: the tuples and tables that never turn, what stands still for a while, the lists -/
structure Gh where
  im : Fz
  fz : Fz
  ls : List Addr

inductive AR : At → Value → Prop
  | none : AR .none .none
  | bool (b : Bool) : AR (.bool b) (.bool b)
  | int (i : Int) (t : Tok) : AR (.int i) (.int i t)
  | str (x : Str) (t : Tok) : AR (.str x) (.str x t)

noncomputable abbrev tupObj (vs : List Value) (n : Nat) : Obj := ⟨.type "tuple", none, .seq vs.toArray n, #[]⟩
noncomputable abbrev lstObj (vs : List Value) (n : Nat) : Obj := ⟨.type "list", none, .seq vs.toArray n, #[]⟩

structure PW where
  prog : Program
  w : World
/-- a written dict of texts -/
noncomputable def DR (es : List (Str × Str)) (kvs : List (Str × Value)) : Prop := All2 (fun p q => p.1 = q.1 ∧ ∃ t, q.2 = Value.str p.2 t) es kvs

inductive VI (P : PW) (fz : Fz) : PV → Value → Prop
  | av {a v} : AR a v → VI P fz (.av a) v
  | tup {xs vs a n} : fz a = some (tupObj vs n) → All2 AR xs vs → VI P fz (.tup xs) (.ref a)
  | dct {es kvs a o} : fz a = some o → o.IsDictOf (strKind P.prog P.w) kvs → (a == sysModules) = false → DR es kvs → VI P fz (.dct es) (.ref a)
  | fls {ns : List Int} {vs : List Value} {a o n} : fz a = some o → o.cls = .type "list" → o.data = .seq vs.toArray n → All2 (fun i v => AR (.int i) v) ns vs → VI P fz (.fls ns) (.ref a)

inductive VR (P : PW) (g : Gh) : PV → Value → Prop
  | i {v x} : VI P g.im v x → VR P g v x
  | lst {k a} : g.ls[k]? = some a → VR P g (.lst k) (.ref a)

/-- an address of which nothing is said -/
noncomputable def Gh.off (g : Gh) (a : Addr) : Prop := g.im a = none ∧ g.fz a = none
structure Gh.Le (g g' : Gh) : Prop where
  im : ∀ a o, g.im a = some o → g'.im a = some o
  fz : ∀ a o, g.fz a = some o → g'.fz a = some o
  ls : ∃ r, g'.ls = g.ls ++ r
theorem Gh.Le.refl (g : Gh) : g.Le g := ⟨fun _ _ e => e, fun _ _ e => e, [], by simp⟩
theorem Gh.Le.trans {a b c : Gh} (x : a.Le b) (y : b.Le c) : a.Le c := by
  obtain ⟨r, hr⟩ := x.ls; obtain ⟨q, hq⟩ := y.ls
  exact ⟨fun p o e => y.im p o (x.im p o e), fun p o e => y.fz p o (x.fz p o e), r ++ q, by rw [hq, hr, List.append_assoc]⟩
theorem VI.mono {P : PW} {fz fz' : Fz} {v x} (h : VI P fz v x) (hs : ∀ a o, fz a = some o → fz' a = some o) : VI P fz' v x := by
  cases h with
  | av h => exact .av h
  | tup e h => exact .tup (hs _ _ e) h
  | dct e h1 h2 h => exact .dct (hs _ _ e) h1 h2 h
  | fls e h1 h2 h => exact .fls (hs _ _ e) h1 h2 h
theorem VR.mono {P : PW} {g g' : Gh} {v x} (h : VR P g v x) (l : g.Le g') : VR P g' v x := by
  cases h with
  | i h => exact .i (h.mono l.im)
  | lst e =>
    obtain ⟨r, hr⟩ := l.ls
    refine .lst ?_
    rw [hr, List.getElem?_append_left (List.getElem?_eq_some_iff.mp e).1]; exact e

/-- the fixed ground: the top's heap -/
structure Base where
  prog : Program
  w : World
  s : Shared
  mg : Str → Option Value
  mb : Str → Option Value
noncomputable abbrev Base.pw (B : Base) : PW := ⟨B.prog, B.w⟩
structure BaseOk (B : Base) : Prop where
  g : B.s.heap.Ns mainGlobals B.mg
  b : B.s.heap.Ns builtinsNs B.mb
  nolimit : B.s.heap.NoLimit
  mb : ∀ x : Str, x ≠ "__name__" → B.mb x = bootBuiltins x
  nodigits : ∃ mc, B.s.heap.Ns cStatics mc ∧ mc "sys.int_max_str_digits" = none

structure Rep0 (B : Base) (g : Gh) (S : List (List PV)) (s : Shared) : Prop where
  base : ∀ a o, B.s.heap.get? a = some o → g.fz a = some o
  keep : ∀ a o, g.fz a = some o → s.heap.get? a = some o
  imm : ∀ a o, g.im a = some o → s.heap.get? a = some o
  apart : ∀ a o, g.fz a = some o → B.s.heap.get? a = none → g.im a = none
  lists : All2 (fun a xs => ∃ vs n, s.heap.get? a = some (lstObj vs n) ∧ All2 (VI B.pw g.im) xs vs) g.ls S
  nodup : g.ls.Nodup
  off : ∀ a ∈ g.ls, g.off a
  gens : s.gens = B.s.gens
  drawn : s.drawn = B.s.drawn
  os : s.os = B.s.os

/-- where a name's value lies -/
inductive Loc where
  | dict
  | cell (c : Addr)
  | free (c : Addr)
structure Frm where
  env : Env
  N : List (Str × Loc)
  G : List Str

noncomputable def locOk (env : Env) (p : Str × Loc) : Prop := (p.1 == ("__debug__" : Str)) = false ∧ (p.1 == ("__classdict__" : Str)) = false ∧ match p.2 with
  | .dict => env.kindOf p.1 = some .local
  | .cell c => env.kindOf p.1 = some .cell ∧ env.cells.lookup p.1 = some c
  | .free c => (env.kindOf p.1 = some .free ∨ env.kindOf p.1 = some .cell) ∧ env.cells.lookup p.1 = some c
noncomputable def cellsOf : List (Str × Loc) → List Addr
  | [] => []
  | (_, .cell c) :: r => c :: cellsOf r
  | _ :: r => cellsOf r
structure FrmOk (fr : Frm) : Prop where
  kind : fr.env.scope.kind = .function
  globals : fr.env.globals = mainGlobals
  builtins : fr.env.builtins = builtinsNs
  loc : ∀ p ∈ fr.N, locOk fr.env p
  nodup : (fr.N.map (·.1)).Nodup
  cnodup : (fr.env.locals :: cellsOf fr.N).Nodup
  glo : ∀ x ∈ fr.G, (x == ("__debug__" : Str)) = false ∧ fr.env.kindOf x = some .globalImplicit

set_option genInjectivity true in
structure AS where
  vs : List (Option PV)
  S : List (List PV)

noncomputable def SlotR (P : PW) (h : Heap) (g : Gh) (m : Str → Option Value) (p : Str × Loc) (o : Option PV) : Prop := match p.2 with
  | .dict => ∀ v, o = some v → ∃ x, m p.1 = some x ∧ VR P g v x
  | .cell c => g.off c ∧ c ∉ g.ls ∧ ∃ vo, h.IsCell c vo ∧ ∀ v, o = some v → ∃ x, vo = some x ∧ VR P g v x
  | .free c => ∃ ob x, g.fz c = some ob ∧ ob.data = .cell (some x) ∧ ∀ v, o = some v → VR P g v x

structure Rep (B : Base) (fr : Frm) (g : Gh) (σ : AS) (s : Shared) : Prop where
  r0 : Rep0 B g σ.S s
  ns : ∃ m, s.heap.Ns fr.env.locals m ∧ All2 (SlotR B.pw s.heap g m) fr.N σ.vs
  lfz : g.off fr.env.locals
  lls : fr.env.locals ∉ g.ls

structure AOk (k : Nat) (A : Around) : Prop where
  handled : A.handled = none
  depth : A.depth + k < recursionLimit
  units : A.units + 16 * k + 64 < cLine

structure Scene (B : Base) where
  fr : Frm
  A : Around
  k : Nat
  bok : BaseOk B
  fok : FrmOk fr
  aok : AOk k A

variable {B : Base}
/-- the judgement: from every state that stands for σ the tree ends, and stands for a state of K -/
noncomputable def W (X : Scene B) {α β : Type} (rel : Gh → β → α → Prop) (t : Sem α) (g : Gh) (σ : AS) (K : β → AS → Prop) : Prop :=
  ∀ s Q E, Rep B X.fr g σ s → 1 ≤ s.toks → (∀ g' s' b a σ', g.Le g' → Rep B X.fr g' σ' s' → rel g' b a → K b σ' → 1 ≤ s'.toks → Q a s') → wpAny (model B.prog B.w) X.A t Q E s
theorem W.mk {X : Scene B} {α β : Type} {rel : Gh → β → α → Prop} {t : Sem α} {g : Gh} {σ : AS} {K : β → AS → Prop}
    (h : ∀ s Q E, Rep B X.fr g σ s → (∀ g' s' b a σ', g.Le g' → Rep B X.fr g' σ' s' → rel g' b a → K b σ' → Q a s') → wpAny (model B.prog B.w) X.A t Q E s) : W X rel t g σ K :=
  fun s Q E r ht c => wpAny_with_toks ht (h s _ _ r fun g' s' b a σ' l r' hr hK hn => c g' s' b a σ' l r' hr hK hn)

noncomputable abbrev vrel (B : Base) : Gh → PV → Value → Prop := fun g v x => VR B.pw g v x
inductive Fl where
  | next | brk | cont
  | ret (v : PV)
inductive FR (P : PW) (g : Gh) : Fl → Flow → Prop
  | next : FR P g .next .next
  | brk : FR P g .brk .brk
  | cont : FR P g .cont .cont
  | ret {v x} : VR P g v x → FR P g (.ret v) (.ret x)
noncomputable abbrev frel (B : Base) : Gh → Fl → Flow → Prop := fun g v x => FR B.pw g v x
noncomputable abbrev brel : Gh → Bool → Bool → Prop := fun _ a b => a = b
noncomputable abbrev urel : Gh → Unit → Unit → Prop := fun _ _ _ => True
noncomputable abbrev lrel (B : Base) : Gh → List PV → List Value → Prop := fun g vs xs => All2 (VR B.pw g) vs xs

noncomputable def WE (X : Scene B) (e : Expr) (σ : AS) (K : PV → AS → Prop) : Prop := ∀ g, W X (vrel B) (eval e X.fr.env) g σ K
noncomputable def WT (X : Scene B) (e : Expr) (σ : AS) (K : Bool → AS → Prop) : Prop := ∀ g, W X brel (isTrue e X.fr.env (eval e X.fr.env)) g σ K
noncomputable def WL (X : Scene B) (pos : Pos) (es : List Expr) (σ : AS) (K : List PV → AS → Prop) : Prop := ∀ g, W X (lrel B) (spliced (backTo pos (starEach es X.fr.env))) g σ K
noncomputable def WX (X : Scene B) (st : Stmt) (σ : AS) (K : Fl → AS → Prop) : Prop := ∀ g, W X (frel B) (exec st X.fr.env) g σ K
noncomputable def WS (X : Scene B) (sts : List Stmt) (σ : AS) (K : Fl → AS → Prop) : Prop := ∀ g, W X (frel B) (execs sts X.fr.env) g σ K
section
variable {X : Scene B} {α β γ δ : Type} {rel : Gh → β → α → Prop} {rel' : Gh → δ → γ → Prop} {g : Gh} {σ : AS}
theorem W.mono {t : Sem α} {K K' : β → AS → Prop} (h : W X rel t g σ K) (hk : ∀ b σ', K b σ' → K' b σ') : W X rel t g σ K' :=
  fun s Q E r ht c => h s Q E r ht fun g' s' b a σ' l r' hr hK => c g' s' b a σ' l r' hr (hk _ _ hK)
end
end
/-! UrnRules1 -/
section
open PySem
variable {B : Base}

theorem Rep0.ext {g : Gh} {S : List (List PV)} {s : Shared} {a : Addr} {h' : Heap} {tk : Nat} (r : Rep0 B g S s) (hf : g.off a) (hl : a ∉ g.ls) (hk : Heap.ExtBut a s.heap h') :
    Rep0 B g S { s with heap := h', toks := tk } where
  base := r.base
  keep b o e := hk b o (by rintro rfl; rw [hf.2] at e; cases e) (r.keep b o e)
  imm b o e := hk b o (by rintro rfl; rw [hf.1] at e; cases e) (r.imm b o e)
  apart := r.apart
  lists := r.lists.impMem fun b xs hb ⟨vs, n, e, h⟩ => ⟨vs, n, hk b _ (by rintro rfl; exact hl hb) e, h⟩
  nodup := r.nodup
  off := r.off
  gens := r.gens
  drawn := r.drawn
  os := r.os
theorem Rep0.keeps {g : Gh} {S : List (List PV)} {s : Shared} {h' : Heap} {tk : Nat} (r : Rep0 B g S s) (hk : ∀ b o, s.heap.get? b = some o → h'.get? b = some o) :
    Rep0 B g S { s with heap := h', toks := tk } where
  base := r.base
  keep b o e := hk b o (r.keep b o e)
  imm b o e := hk b o (r.imm b o e)
  apart := r.apart
  lists := r.lists.imp fun b xs ⟨vs, n, e, h⟩ => ⟨vs, n, hk b _ e, h⟩
  nodup := r.nodup
  off := r.off
  gens := r.gens
  drawn := r.drawn
  os := r.os

theorem cellsOf_mem : ∀ {N : List (Str × Loc)} {x : Str} {c : Addr}, (x, Loc.cell c) ∈ N → c ∈ cellsOf N
  | (y, l) :: r, x, c, h => by
    rcases List.mem_cons.mp h with e | h
    · cases e; exact List.mem_cons_self
    · have := cellsOf_mem h
      cases l <;> simp [cellsOf, this]

section
variable {fr : Frm} {g g' : Gh} {σ : AS} {s : Shared} {P : PW}
theorem Rep.Llt (r : Rep B fr g σ s) : ∃ o, s.heap.get? fr.env.locals = some o := by
  obtain ⟨m, ⟨o, _, _, ho, _⟩, _⟩ := r.ns; exact ⟨o, ho⟩
theorem All2.slot {m} {N : List (Str × Loc)} {vs : List (Option PV)} (r : All2 (SlotR P s.heap g m) N vs) {x c} (h : (x, Loc.cell c) ∈ N) : g.off c ∧ c ∉ g.ls ∧ ∃ o, s.heap.get? c = some o := by
  obtain ⟨_, _, h1, h2, _, ⟨o, ho, _⟩, _⟩ := r.mem h
  exact ⟨h1, h2, o, ho⟩
theorem mem_cellsOf {N : List (Str × Loc)} {c : Addr} (h : c ∈ cellsOf N) : ∃ x, (x, Loc.cell c) ∈ N := by
  induction N with
  | nil => cases h
  | cons p r ih =>
    obtain ⟨y, l⟩ := p
    have t : c ∈ cellsOf r → ∃ x, (x, Loc.cell c) ∈ (y, l) :: r := fun h => (ih h).imp fun _ hx => .tail _ hx
    cases l with
    | cell d =>
      rcases List.mem_cons.mp h with e | h
      · subst e; exact ⟨y, List.mem_cons_self⟩
      · exact t h
    | _ => exact t h
theorem Rep.cell (r : Rep B fr g σ s) {c : Addr} (hc : c ∈ cellsOf fr.N) : g.off c ∧ c ∉ g.ls ∧ ∃ o, s.heap.get? c = some o := by
  obtain ⟨m, _, h⟩ := r.ns
  obtain ⟨x, hx⟩ := mem_cellsOf hc
  exact h.slot hx

theorem Rep.change (r : Rep B fr g σ s) {S' : List (List PV)} {h' : Heap} {tk : Nat} (l : g.Le g') (r0' : Rep0 B g' S' { s with heap := h', toks := tk })
    (hL : ∀ a ∈ fr.env.locals :: cellsOf fr.N, (∀ o, s.heap.get? a = some o → h'.get? a = some o) ∧ g'.off a ∧ a ∉ g'.ls) :
    Rep B fr g' { σ with S := S' } { s with heap := h', toks := tk } where
  r0 := r0'
  ns := by
    obtain ⟨m, hm, h⟩ := r.ns
    refine ⟨m, hm.at' (hL _ List.mem_cons_self).1, h.impMem fun p o hp ho => ?_⟩
    obtain ⟨x, loc⟩ := p
    cases loc with
    | dict => exact fun v e => let ⟨y, hy, hv⟩ := ho v e; ⟨y, hy, hv.mono l⟩
    | cell c =>
      obtain ⟨h1, h2, vo, ⟨ob, hob, hd⟩, h4⟩ := ho
      have z := hL c (List.mem_cons_of_mem _ (cellsOf_mem hp))
      exact ⟨z.2.1, z.2.2, vo, ⟨ob, z.1 _ hob, hd⟩, fun v e => let ⟨y, hy, hv⟩ := h4 v e; ⟨y, hy, hv.mono l⟩⟩
    | free c =>
      obtain ⟨ob, y, h1, h2, h3⟩ := ho
      exact ⟨ob, y, l.fz _ _ h1, h2, fun v e => (h3 v e).mono l⟩
  lfz := (hL _ List.mem_cons_self).2.1
  lls := (hL _ List.mem_cons_self).2.2

theorem Rep.old (r : Rep B fr g σ s) {a : Addr} (ha : a ∈ fr.env.locals :: cellsOf fr.N) : g.off a ∧ a ∉ g.ls ∧ ∃ o, s.heap.get? a = some o := by
  rcases List.mem_cons.mp ha with rfl | h
  · exact ⟨r.lfz, r.lls, r.Llt⟩
  · exact r.cell h
theorem Rep.keeps (r : Rep B fr g σ s) {h' : Heap} {tk : Nat} (hk : ∀ b o, s.heap.get? b = some o → h'.get? b = some o) : Rep B fr g σ { s with heap := h', toks := tk } :=
  r.change (.refl g) (r.r0.keeps hk) fun a ha => ⟨hk a, (r.old ha).1, (r.old ha).2.1⟩
theorem Rep.tok (r : Rep B fr g σ s) {tk : Nat} : Rep B fr g σ { s with toks := tk } := r.keeps (h' := s.heap) fun _ _ e => e

/-- a new object that will never turn -/
noncomputable def Gh.put (g : Gh) (a : Addr) (o : Obj) : Gh := ⟨fun b => if b = a then some o else g.im b, g.fz, g.ls⟩
theorem Gh.put_self (g : Gh) (a : Addr) (o : Obj) : (g.put a o).im a = some o := by simp [Gh.put]
theorem Gh.le_put {g : Gh} {a : Addr} {o : Obj} (h : g.off a) : g.Le (g.put a o) :=
  ⟨fun b p e => by
    by_cases hb : b = a
    · subst hb; rw [h.1] at e; cases e
    · simp [Gh.put, hb, e], fun _ _ e => e, [], by simp [Gh.put]⟩
theorem Gh.off_put {g : Gh} {a b : Addr} {o : Obj} (h : g.off b) (hb : b ≠ a) : (g.put a o).off b := ⟨by simp only [Gh.put, hb, if_false]; exact h.1, h.2⟩
theorem Rep0.fresh {S : List (List PV)} (r : Rep0 B g S s) : g.off s.heap.objs.size := by
  constructor
  · cases h : g.im s.heap.objs.size with
    | none => rfl
    | some o => exact absurd (Heap.lt_size (r.imm _ _ h)) (Nat.lt_irrefl _)
  · cases h : g.fz s.heap.objs.size with
    | none => rfl
    | some o => exact absurd (Heap.lt_size (r.keep _ _ h)) (Nat.lt_irrefl _)
theorem Rep0.lt {S : List (List PV)} (r : Rep0 B g S s) {a : Addr} (h : a ∈ g.ls) : ∃ o, s.heap.get? a = some o := by
  obtain ⟨xs, _, vs, n, e, _⟩ := r.lists.mem h; exact ⟨_, e⟩
theorem Rep0.fresh' {S : List (List PV)} (r : Rep0 B g S s) : s.heap.objs.size ∉ g.ls := fun h => by
  obtain ⟨o, e⟩ := r.lt h; exact absurd (Heap.lt_size e) (Nat.lt_irrefl _)
theorem Rep0.alloc {S : List (List PV)} (r : Rep0 B g S s) {o : Obj} {tk : Nat} (hf : o.isFreed = false) : Rep0 B (g.put s.heap.objs.size o) S { s with heap := s.heap.push o, toks := tk } where
  base a o e := r.base a o e
  keep a p e := Heap.get?_push_of_some _ (r.keep a p e)
  imm a p e := by
    by_cases ha : a = s.heap.objs.size
    · subst ha; rw [Gh.put_self] at e; cases e; exact Heap.get?_push_size _ hf
    · simp only [Gh.put, ha, if_false] at e; exact Heap.get?_push_of_some _ (r.imm a p e)
  apart b p e := by
    have e : g.fz b = some p := e
    have : b ≠ s.heap.objs.size := by rintro rfl; rw [r.fresh.2] at e; cases e
    simp only [Gh.put, this, if_false]; exact r.apart b p e
  lists := r.lists.imp fun b xs ⟨vs, n, e, h⟩ => ⟨vs, n, Heap.get?_push_of_some _ e, h.imp fun _ _ h => h.mono (Gh.le_put r.fresh).im⟩
  nodup := r.nodup
  off a ha := Gh.off_put (r.off a ha) (by rintro rfl; exact r.fresh' ha)
  gens := r.gens
  drawn := r.drawn
  os := r.os
theorem Rep.ne_size (r : Rep B fr g σ s) {a : Addr} (ha : a ∈ fr.env.locals :: cellsOf fr.N) : a ≠ s.heap.objs.size := by
  obtain ⟨_, _, o, e⟩ := r.old ha
  exact Nat.ne_of_lt (Heap.lt_size e)
theorem Rep.alloc (r : Rep B fr g σ s) {o : Obj} {tk : Nat} (hf : o.isFreed = false) : Rep B fr (g.put s.heap.objs.size o) σ { s with heap := s.heap.push o, toks := tk } :=
  r.change (Gh.le_put r.r0.fresh) (r.r0.alloc hf) fun a ha => ⟨fun _ e => Heap.get?_push_of_some _ e, Gh.off_put (r.old ha).1 (r.ne_size ha), (r.old ha).2.1⟩

/-- a new list -/
noncomputable def Gh.add (g : Gh) (a : Addr) : Gh := ⟨g.im, g.fz, g.ls ++ [a]⟩
theorem Gh.le_add {g : Gh} {a : Addr} : g.Le (g.add a) := ⟨fun _ _ e => e, fun _ _ e => e, [a], rfl⟩
theorem Rep0.newList {S : List (List PV)} (r : Rep0 B g S s) {vs : List Value} {xs : List PV} {n tk : Nat} (h : All2 (VI B.pw g.im) xs vs) :
    Rep0 B (g.add s.heap.objs.size) (S ++ [xs]) { s with heap := s.heap.push (lstObj vs n), toks := tk } where
  base := r.base
  keep a o e := Heap.get?_push_of_some _ (r.keep a o e)
  imm a o e := Heap.get?_push_of_some _ (r.imm a o e)
  apart := r.apart
  lists := (r.lists.imp fun b xs ⟨vs, n, e, h⟩ => ⟨vs, n, Heap.get?_push_of_some _ e, h⟩).append (.cons ⟨vs, n, Heap.get?_push_size _ rfl, h⟩ .nil)
  nodup := by
    show (g.ls ++ [_]).Nodup
    rw [List.nodup_append]
    refine ⟨r.nodup, by simp, fun a ha b hb => ?_⟩
    rw [List.mem_singleton.mp hb]; rintro rfl; exact r.fresh' ha
  off a ha := by
    rcases List.mem_append.mp ha with h | h
    · exact r.off a h
    · rw [List.mem_singleton.mp h]; exact r.fresh
  gens := r.gens
  drawn := r.drawn
  os := r.os
theorem Rep.newList (r : Rep B fr g σ s) {vs : List Value} {xs : List PV} {n tk : Nat} (h : All2 (VI B.pw g.im) xs vs) :
    Rep B fr (g.add s.heap.objs.size) { σ with S := σ.S ++ [xs] } { s with heap := s.heap.push (lstObj vs n), toks := tk } :=
  r.change Gh.le_add (r.r0.newList h) fun a ha => ⟨fun _ e => Heap.get?_push_of_some _ e, (r.old ha).1, fun h => by
    rcases List.mem_append.mp h with h | h
    · exact (r.old ha).2.1 h
    · exact r.ne_size ha (List.mem_singleton.mp h)⟩
theorem VR_new (g : Gh) {S : List (List PV)} (r : Rep0 B g S s) : VR P (g.add s.heap.objs.size) (.lst S.length) (.ref s.heap.objs.size) :=
  .lst (by rw [← r.lists.length]; simp [Gh.add])

/-- a list that turns -/
theorem nodup_get {l : List Addr} (h : l.Nodup) {i j : Nat} {a : Addr} (hi : l[i]? = some a) (hj : l[j]? = some a) : i = j := by
  obtain ⟨h1, e1⟩ := List.getElem?_eq_some_iff.mp hi
  obtain ⟨h2, e2⟩ := List.getElem?_eq_some_iff.mp hj
  exact (List.getElem_inj h).mp (e1.trans e2.symm)
theorem All2.setList {l : List Addr} {S : List (List PV)} {R R' : Addr → List PV → Prop} (h : All2 R l S) {k : Nat} {a : Addr} {xs : List PV} (hd : l.Nodup) (hk : l[k]? = some a)
    (h1 : ∀ b ys, b ≠ a → R b ys → R' b ys) (h2 : R' a xs) : All2 R' l (S.set k xs) := by
  induction h generalizing k with
  | nil => simp at hk
  | cons hr r ih =>
    rename_i b ys l' S'
    cases k with
    | zero =>
      simp at hk; subst hk
      refine .cons h2 (r.impMem fun c zs hc => h1 c zs ?_)
      rintro rfl; exact (List.nodup_cons.mp hd).1 hc
    | succ k =>
      simp at hk
      refine .cons (h1 _ _ ?_ hr) (ih (List.nodup_cons.mp hd).2 hk)
      rintro rfl; exact (List.nodup_cons.mp hd).1 (List.mem_of_getElem? hk)
theorem Rep0.setList {S : List (List PV)} (r : Rep0 B g S s) {k : Nat} {a : Addr} {vs : List Value} {xs : List PV} {n tk : Nat} {h' : Heap} (hk : g.ls[k]? = some a)
    (hs : Heap.SameBut a s.heap h') (he : h'.get? a = some (lstObj vs n)) (h : All2 (VI B.pw g.im) xs vs) : Rep0 B g (S.set k xs) { s with heap := h', toks := tk } where
  base := r.base
  keep b o e := (hs.2 b (by rintro rfl; rw [(r.off _ (List.mem_of_getElem? hk)).2] at e; cases e)).trans (r.keep b o e)
  imm b o e := (hs.2 b (by rintro rfl; rw [(r.off _ (List.mem_of_getElem? hk)).1] at e; cases e)).trans (r.imm b o e)
  apart := r.apart
  lists := r.lists.setList r.nodup hk (fun b ys hb ⟨vs, n, e, h⟩ => ⟨vs, n, (hs.2 b hb).trans e, h⟩) ⟨vs, n, he, h⟩
  nodup := r.nodup
  off := r.off
  gens := r.gens
  drawn := r.drawn
  os := r.os
theorem Rep.setList (r : Rep B fr g σ s) {k : Nat} {a : Addr} {vs : List Value} {xs : List PV} {n tk : Nat} {h' : Heap} (hk : g.ls[k]? = some a)
    (hs : Heap.SameBut a s.heap h') (he : h'.get? a = some (lstObj vs n)) (h : All2 (VI B.pw g.im) xs vs) : Rep B fr g { σ with S := σ.S.set k xs } { s with heap := h', toks := tk } :=
  r.change (.refl g) (r.r0.setList hk hs he h) fun b hb => ⟨fun o e => (hs.2 b (by rintro rfl; exact (r.old hb).2.1 (List.mem_of_getElem? hk))).trans e, (r.old hb).1, (r.old hb).2.1⟩
theorem Rep0.list {S : List (List PV)} (r : Rep0 B g S s) {k : Nat} {xs : List PV} (h : S[k]? = some xs) : ∃ a vs n, g.ls[k]? = some a ∧ s.heap.get? a = some (lstObj vs n) ∧ All2 (VI B.pw g.im) xs vs := by
  obtain ⟨a, ha, vs, n, e, h⟩ := r.lists.get' h
  exact ⟨a, vs, n, ha, e, h⟩
theorem Rep0.at {S : List (List PV)} (r : Rep0 B g S s) {g₀ : Gh} (l : g₀.Le g) {k a : Nat} {xs : List PV} (hk : g₀.ls[k]? = some a) (h : S[k]? = some xs) : ∃ vs n, s.heap.get? a = some (lstObj vs n) ∧ All2 (VI B.pw g.im) xs vs := by
  obtain ⟨a', vs, n, h1, h2, h3⟩ := r.list h
  obtain ⟨q, hq⟩ := l.ls
  rw [hq, List.getElem?_append_left (List.getElem?_eq_some_iff.mp hk).1, hk] at h1
  cases h1
  exact ⟨vs, n, h2, h3⟩
theorem VR.list {S : List (List PV)} (r : Rep0 B g S s) {k : Nat} {xs : List PV} {x : Value} (h : S[k]? = some xs) (hv : VR B.pw g (.lst k) x) :
    ∃ a vs n, x = .ref a ∧ g.ls[k]? = some a ∧ s.heap.get? a = some (lstObj vs n) ∧ All2 (VI B.pw g.im) xs vs := by
  obtain ⟨a, vs, n, h1, h2, h3⟩ := r.list h
  cases hv with
  | i hv => cases hv
  | lst e => rw [h1] at e; cases e; exact ⟨a, vs, n, rfl, h1, h2, h3⟩
theorem VR.at {a : At} {x : Value} (hv : VR P g (.av a) x) : AR a x := by
  cases hv with | i hv => cases hv with | av h => exact h
theorem VR.int {i : Int} {x : Value} (hv : VR P g (.av (.int i)) x) : ∃ t, x = .int i t := by
  cases hv.at; exact ⟨_, rfl⟩
theorem VR.str {i : Str} {x : Value} (hv : VR P g (.av (.str i)) x) : ∃ t, x = .str i t := by
  cases hv.at; exact ⟨_, rfl⟩
theorem VR.none {x : Value} (hv : VR P g (.av .none) x) : x = .none := by
  cases hv.at; rfl
theorem VR.tup {xs : List At} {x : Value} (hv : VR P g (.tup xs) x) : ∃ a vs n, x = .ref a ∧ g.im a = some (tupObj vs n) ∧ All2 AR xs vs := by
  cases hv with | i hv => cases hv with | tup e h => exact ⟨_, _, _, rfl, e, h⟩
theorem VI.tup' {fz : Fz} {xs : List At} {x : Value} (hv : VI P fz (.tup xs) x) : ∃ a vs n, x = .ref a ∧ fz a = some (tupObj vs n) ∧ All2 AR xs vs := by
  cases hv with | tup e h => exact ⟨_, _, _, rfl, e, h⟩
theorem vint (g : Gh) (i : Int) (t : Tok) : VR P g (.av (.int i)) (.int i t) := .i (.av (.int i t))
theorem vstr (g : Gh) (i : Str) (t : Tok) : VR P g (.av (.str i)) (.str i t) := .i (.av (.str i t))
theorem vbool (g : Gh) (b : Bool) : VR P g (.av (.bool b)) (.bool b) := .i (.av (.bool b))
theorem vnone (g : Gh) : VR P g (.av .none) .none := .i (.av .none)
end

/-! names -/
inductive Ix : List (Str × Loc) → List (Option PV) → Str → PV → Prop
  | here {x l N v vs} : Ix ((x, l) :: N) (some v :: vs) x v
  | there {p N o vs x v} : Ix N vs x v → Ix (p :: N) (o :: vs) x v
inductive Sx : List (Str × Loc) → List (Option PV) → Str → PV → List (Option PV) → Prop
  | dict {x N o v vs} : Sx ((x, .dict) :: N) (o :: vs) x v (some v :: vs)
  | cell {x c N o v vs} : Sx ((x, .cell c) :: N) (o :: vs) x v (some v :: vs)
  | there {p N o vs x v vs'} : Sx N vs x v vs' → Sx (p :: N) (o :: vs) x v (o :: vs')
theorem Ix.slot {R : Str × Loc → Option PV → Prop} {x : Str} {v : PV} {N vs} (h : Ix N vs x v) (r : All2 R N vs) : ∃ l, (x, l) ∈ N ∧ R (x, l) (some v) := by
  induction h with
  | here => exact ⟨_, List.mem_cons_self, r.uncons.1⟩
  | there _ ih =>
    obtain ⟨l, m, q⟩ := ih r.uncons.2
    exact ⟨l, .tail _ m, q⟩
theorem slot_here {R : Str × Loc → Option PV → Prop} {x : Str} {l : Loc} {o : Option PV} {v : PV} {N : List (Str × Loc)} {vs : List (Option PV)} (r : All2 R ((x, l) :: N) (o :: vs)) (hd : (((x, l) :: N).map (·.1)).Nodup) (R' : Str × Loc → Option PV → Prop)
    (h1 : ∀ p o, p ∈ (x, l) :: N → p.1 ≠ x → R p o → R' p o) (h2 : R' (x, l) (some v)) : All2 R' ((x, l) :: N) (some v :: vs) :=
  .cons h2 (r.uncons.2.impMem fun p o hp => h1 p o (.tail _ hp) fun e => (List.nodup_cons.mp hd).1 (e ▸ List.mem_map_of_mem (f := (·.1)) hp))
theorem Sx.slot {R : Str × Loc → Option PV → Prop} {x : Str} {v : PV} {N vs vs'} (h : Sx N vs x v vs') (r : All2 R N vs) (hd : (N.map (·.1)).Nodup) :
    ∃ l, (x, l) ∈ N ∧ (l = .dict ∨ ∃ c, l = .cell c) ∧ (∃ o, R (x, l) o) ∧ ∀ R' : Str × Loc → Option PV → Prop, (∀ p o, p ∈ N → p.1 ≠ x → R p o → R' p o) → R' (x, l) (some v) → All2 R' N vs' := by
  induction h with
  | dict => exact ⟨_, List.mem_cons_self, .inl rfl, ⟨_, r.uncons.1⟩, slot_here r hd⟩
  | cell => exact ⟨_, List.mem_cons_self, .inr ⟨_, rfl⟩, ⟨_, r.uncons.1⟩, slot_here r hd⟩
  | there _ ih =>
    obtain ⟨l, m, k, e, f⟩ := ih r.uncons.2 (List.nodup_cons.mp hd).2
    exact ⟨l, .tail _ m, k, e, fun R' h1 h2 => .cons (h1 _ _ List.mem_cons_self (fun e => (List.nodup_cons.mp hd).1 (List.mem_map.mpr ⟨_, m, e.symm⟩)) r.uncons.1) (f R' (fun p o hp => h1 p o (.tail _ hp)) h2)⟩
theorem cells_inj {N : List (Str × Loc)} {x y : Str} {c : Addr} (hd : (cellsOf N).Nodup) (h1 : (x, Loc.cell c) ∈ N) (h2 : (y, Loc.cell c) ∈ N) : x = y := by
  induction N with
  | nil => cases h1
  | cons p r ih =>
    obtain ⟨z, l⟩ := p
    cases l with
    | cell d =>
      have hd' := List.nodup_cons.mp (show (d :: cellsOf r).Nodup from hd)
      cases h1 with
      | head =>
        cases h2 with
        | head => rfl
        | tail _ h2 => exact absurd (cellsOf_mem h2) hd'.1
      | tail _ h1 =>
        cases h2 with
        | head => exact absurd (cellsOf_mem h1) hd'.1
        | tail _ h2 => exact ih hd'.2 h1 h2
    | _ =>
      cases h1 with
      | tail _ h1 => cases h2 with
        | tail _ h2 => exact ih hd h1 h2

section
variable {X : Scene B} {g : Gh} {σ : AS}
theorem w_loadName {x : Str} {v : PV} {K : PV → AS → Prop} (hx : Ix X.fr.N σ.vs x v) (h : K v σ) : W X (vrel B) (loadName X.fr.env x) g σ K := by
  refine .mk fun s Q E r c => ?_
  obtain ⟨m, hm, hs⟩ := r.ns
  obtain ⟨l, hl, hq⟩ := hx.slot hs
  have ok := X.fok.loc _ hl
  have fin : ∀ y, VR B.pw g v y → Q y s := fun y hy => c g s v y σ (.refl g) r hy h
  cases l with
  | dict =>
    obtain ⟨y, hy, hv⟩ := hq v rfl
    exact wpAny_loadName_local X.fok.kind ok.2.2 hm hy (fin y hv)
  | cell ca =>
    obtain ⟨_, _, vo, hc, hv⟩ := hq
    obtain ⟨y, rfl, hv'⟩ := hv v rfl
    exact wpAny_loadName_cell X.fok.kind ok.2.2.1 ok.2.2.2 hc (fin y hv')
  | free ca =>
    obtain ⟨ob, y, h1, h2, h3⟩ := hq
    rcases ok.2.2.1 with hk | hk
    · exact wpAny_loadName_free X.fok.kind hk ok.2.2.2 ⟨ob, r.r0.keep _ _ h1, h2⟩ (fin y (h3 v rfl)) ok.2.1
    · exact wpAny_loadName_cell X.fok.kind hk ok.2.2.2 ⟨ob, r.r0.keep _ _ h1, h2⟩ (fin y (h3 v rfl))

theorem w_storeName {x : Str} {v : PV} {val : Value} {vs' : List (Option PV)} {K : AS → Prop} (hx : Sx X.fr.N σ.vs x v vs') (hv : VR B.pw g v val) (h : K { σ with vs := vs' }) :
    W X urel (storeName X.fr.env x val) g σ fun _ σ' => K σ' := by
  refine .mk fun s Q E r c => ?_
  obtain ⟨m, hm, hs⟩ := r.ns
  obtain ⟨l, hl, hk, ⟨o, ho⟩, hf⟩ := hx.slot hs X.fok.nodup
  have ok := X.fok.loc _ hl
  rcases hk with rfl | ⟨ca, rfl⟩
  · refine wpAny_storeName_local ok.2.2 hm (fun h' hn hsb => c g _ () () { σ with vs := vs' } (.refl g) ?_ trivial h) (by rw [X.fok.kind]; rfl)
    refine ⟨r.r0.ext r.lfz r.lls hsb.extBut, ⟨_, hn, hf _ (fun p o hp hne hq => ?_) ?_⟩, r.lfz, r.lls⟩
    · obtain ⟨y, loc⟩ := p
      have hne' : y ≠ x := hne
      cases loc with
      | dict =>
        intro v e
        obtain ⟨z, hz, hq⟩ := hq v e
        exact ⟨z, by simp only [hne', if_false]; exact hz, hq⟩
      | cell c' =>
        obtain ⟨h1, h2, vo, h3, h4⟩ := hq
        refine ⟨h1, h2, vo, h3.sameBut hsb ?_, h4⟩
        rintro rfl
        exact (List.nodup_cons.mp X.fok.cnodup).1 (cellsOf_mem hp)
      | free c' => exact hq
    · intro v' e; cases e
      exact ⟨val, by simp, hv⟩
  · obtain ⟨h1, h2, vo, h3, h4⟩ := ho
    refine wpAny_storeName_cell X.fok.kind ok.2.2.1 ok.2.2.2 h3 fun h' hc hsb => c g _ () () { σ with vs := vs' } (.refl g) ?_ trivial h
    have hLc : X.fr.env.locals ≠ ca := by rintro e; exact (List.nodup_cons.mp X.fok.cnodup).1 (e ▸ cellsOf_mem hl)
    refine ⟨r.r0.ext h1 h2 hsb.extBut, ⟨m, hm.sameBut hsb hLc, hf _ (fun p o hp hne hq => ?_) ⟨h1, h2, some val, hc, fun v' e => by cases e; exact ⟨val, rfl, hv⟩⟩⟩, r.lfz, r.lls⟩
    obtain ⟨y, loc⟩ := p
    cases loc with
    | dict => exact hq
    | cell c' =>
      obtain ⟨h1, h2, vo, h3, h4⟩ := hq
      refine ⟨h1, h2, vo, h3.sameBut hsb ?_, h4⟩
      rintro rfl
      exact hne (cells_inj (List.nodup_cons.mp X.fok.cnodup).2 hp hl)
    | free c' => exact hq
end
end
/-! UrnRules2 -/
section
open PySem PyProof.Rows
variable {B : Base} {X : Scene B} {σ : AS}

/-! statements -/
theorem ws_nil {K : Fl → AS → Prop} (h : K .next σ) : WS X [] σ K := fun g => .mk fun s Q E r c => wpAny_execs_nil (c g s _ _ σ (.refl g) r .next h)
noncomputable def Then (X : Scene B) (rest : List Stmt) (K : Fl → AS → Prop) : Fl → AS → Prop
  | .next => fun σ => WS X rest σ K
  | .brk => K .brk
  | .cont => K .cont
  | .ret v => K (.ret v)
theorem ws_cons {st : Stmt} {rest : List Stmt} {K : Fl → AS → Prop} (h : WX X st σ (Then X rest K)) : WS X (st :: rest) σ K := fun g s Q E r ht c => by
  refine wpAny_execs_cons (h g s _ E r ht fun g' s' b a σ' l r' hr hK ht' => ?_)
  cases hr with
  | next => exact hK g' s' Q E r' ht' fun g'' s'' b a σ'' l' r'' hr' hK' => c g'' s'' b a σ'' (l.trans l') r'' hr' hK'
  | brk => exact c _ _ _ _ _ l r' .brk hK ht'
  | cont => exact c _ _ _ _ _ l r' .cont hK ht'
  | ret hv => exact c _ _ _ _ _ l r' (.ret hv) hK ht'
theorem then_next {rest : List Stmt} {K : Fl → AS → Prop} (h : WS X rest σ K) : Then X rest K .next σ := h
theorem then_ret {rest : List Stmt} {v : PV} {K : Fl → AS → Prop} (h : K (.ret v) σ) : Then X rest K (.ret v) σ := h
theorem then_brk {rest : List Stmt} {K : Fl → AS → Prop} (h : K .brk σ) : Then X rest K .brk σ := h

theorem wx_return {e : Expr} {pos : Pos} {K : Fl → AS → Prop} (h : WE X e σ fun v σ' => K (.ret v) σ') : WX X (.Return (some e) pos) σ K := fun g s Q E r ht c =>
  wpAny_Return_some (h g s _ E r ht fun g' s' b a σ' l r' hr hK ht' => c g' s' _ _ σ' l r' (.ret hr) hK ht')
theorem wx_break {pos : Pos} {K : Fl → AS → Prop} (h : K .brk σ) : WX X (.Break pos) σ K := fun g => .mk fun s Q E r c => wpAny_Break (c g s _ _ σ (.refl g) r .brk h)

theorem wx_if {test : Expr} {body orelse : List Stmt} {pos : Pos} {K : Fl → AS → Prop}
    (h : WT X test σ fun b σ' => (b = true → WS X body σ' K) ∧ (b = false → WS X orelse σ' K)) : WX X (.If test body orelse pos) σ K := fun g s Q E r ht c =>
  wpAny_If (h g s _ E r ht fun g' s' b a σ' l r' hr hK ht' => by
    cases hr
    have c' := fun g'' s'' b a σ'' (l' : g'.Le g'') r'' hr' hK' => c g'' s'' b a σ'' (l.trans l') r'' hr' hK'
    cases b with
    | true => exact hK.1 rfl g' s' Q E r' ht' c'
    | false => exact hK.2 rfl g' s' Q E r' ht' c')
theorem yes_no {P Q : Prop} (h : P) : ((true : Bool) = true → P) ∧ ((true : Bool) = false → Q) := ⟨fun _ => h, fun e => by cases e⟩
theorem no_yes {P Q : Prop} (h : Q) : ((false : Bool) = true → P) ∧ ((false : Bool) = false → Q) := ⟨fun e => (by cases e), fun _ => h⟩

noncomputable def WhileK (X : Scene B) (test : Expr) (body : List Stmt) (K : Fl → AS → Prop) : Nat → AS → Prop
  | 0, _ => False
  | n + 1, σ => WT X test σ fun b σ₁ => (b = true → WS X body σ₁ fun fl σ₂ => match fl with
      | .next | .cont => WhileK X test body K n σ₂
      | .brk => K .next σ₂
      | .ret v => K (.ret v) σ₂) ∧ (b = false → K .next σ₁)
theorem wx_while (n : Nat) {test : Expr} {body : List Stmt} {pos : Pos} {K : Fl → AS → Prop} (h : WhileK X test body K n σ) : WX X (.While test body [] pos) σ K := fun g s Q E r ht c => by
  refine wpAny_While (codeAny_whileLoop (fun n s => 1 ≤ s.toks ∧ ∃ g' σ', g.Le g' ∧ Rep B X.fr g' σ' s ∧ WhileK X test body K n σ') ?_ n ⟨ht, g, σ, .refl g, r, h⟩)
  rintro n s ⟨ht₁, g₁, σ₁, l₁, r₁, hK⟩
  cases n with
  | zero => exact hK.elim
  | succ n =>
    refine hK g₁ s _ _ r₁ ht₁ fun g₂ s₂ b a σ₂ l₂ r₂ hr h₂ ht₂ => ?_
    cases hr
    cases b with
    | false => exact wpAny_execs_nil (c g₂ s₂ _ _ σ₂ (l₁.trans l₂) r₂ .next (h₂.2 rfl) ht₂)
    | true =>
      refine h₂.1 rfl g₂ s₂ _ _ r₂ ht₂ fun g₃ s₃ fl f σ₃ l₃ r₃ hr h₃ ht₃ => ?_
      cases hr with
      | next => exact ⟨n, Nat.lt_succ_self _, ht₃, g₃, σ₃, (l₁.trans l₂).trans l₃, r₃, h₃⟩
      | cont => exact ⟨n, Nat.lt_succ_self _, ht₃, g₃, σ₃, (l₁.trans l₂).trans l₃, r₃, h₃⟩
      | brk => exact c g₃ s₃ _ _ σ₃ ((l₁.trans l₂).trans l₃) r₃ .next h₃ ht₃
      | ret hv => exact c g₃ s₃ _ _ σ₃ ((l₁.trans l₂).trans l₃) r₃ (.ret hv) h₃ ht₃

/-- a value under a name -/
noncomputable def Asg (N : List (Str × Loc)) (x : Str) (K : Fl → AS → Prop) (v : PV) (σ : AS) : Prop := ∃ vs', Sx N σ.vs x v vs' ∧ K .next ⟨vs', σ.S⟩
theorem asg {N : List (Str × Loc)} {x : Str} {v : PV} {vs vs' : List (Option PV)} {S : List (List PV)} {K : Fl → AS → Prop} (h : Sx N vs x v vs') (k : K .next ⟨vs', S⟩) : Asg N x K v ⟨vs, S⟩ := ⟨vs', h, k⟩
theorem wx_assign {N : List (Str × Loc)} {x : Str} {e : Expr} {p pos : Pos} {K : Fl → AS → Prop} (hN : X.fr.N = N) (h : WE X e σ (Asg N x K))
    (hs : ∀ env : Env, swapsWith e (some (.Name x p)) pos.line env = pure false := by intro _; rfl) : WX X (.Assign [.Name x p] e pos) σ K := fun g s Q E r ht c =>
  wpAny_Assign_Name (h g s _ E r ht fun g' s' b a σ' l r' hr ⟨vs', hx, hk⟩ ht' =>
    w_storeName (hN ▸ hx) hr (K := fun σ' => K .next σ') hk s' _ E r' ht' fun g'' s'' _ _ σ'' l' r'' _ hK => c g'' s'' _ _ σ'' (l.trans l') r'' .next hK) (hs _)

/-- a call that hands back None -/
theorem wx_expr {e : Expr} {pos : Pos} {K : Fl → AS → Prop} (h : WE X e σ fun v σ' => v = .av .none ∧ K .next σ')
    (hs : ∀ env : Env, swapsWith e none pos.line env = pure false := by intro _; rfl) : WX X (.Expr e pos) σ K := fun g s Q E r ht c =>
  wpAny_Expr (h g s _ E r ht fun g' s' b a σ' l r' hr ⟨e, hk⟩ ht' => by
    subst e
    rw [hr.none]
    exact c g' s' _ _ σ' l r' .next hk ht') (by unfold interactive; rw [X.fok.kind]; rfl) (hs _)

/-! expressions -/
theorem we_int {i : Int} {k : Nat} {pos : Pos} {K : PV → AS → Prop} (h : K (.av (.int i)) σ) : WE X (.Constant (.int i) k pos) σ K := fun g => .mk fun s Q E r c => wpAny_Constant_int (c g _ _ _ σ (.refl g) r.tok (vint ..) h)
theorem we_str {x : Str} {k : Nat} {pos : Pos} {K : PV → AS → Prop} (h : K (.av (.str x)) σ) : WE X (.Constant (.str x) k pos) σ K := fun g => .mk fun s Q E r c => wpAny_Constant_str (c g _ _ _ σ (.refl g) r.tok (vstr ..) h)
theorem we_none {k : Nat} {pos : Pos} {K : PV → AS → Prop} (h : K (.av .none) σ) : WE X (.Constant .none k pos) σ K := fun g => .mk fun s Q E r c => wpAny_Constant_none (c g _ _ _ σ (.refl g) r (vnone ..) h)
theorem we_bool {b : Bool} {k : Nat} {pos : Pos} {K : PV → AS → Prop} (h : K (.av (.bool b)) σ) : WE X (.Constant (.bool b) k pos) σ K := fun g => .mk fun s Q E r c => wpAny_Constant_bool (c g _ _ _ σ (.refl g) r (vbool ..) h)
theorem Ix.ok {R : Str × Loc → Prop} {x : Str} {v : PV} : ∀ {N vs}, Ix N vs x v → (∀ p ∈ N, R p) → ∃ l, (x, l) ∈ N ∧ R (x, l) := by
  intro N vs i
  induction i with
  | here => exact fun h => ⟨_, List.mem_cons_self, h _ List.mem_cons_self⟩
  | there _ ih =>
    intro h
    obtain ⟨l, m, q⟩ := ih fun p hp => h p (.tail _ hp)
    exact ⟨l, .tail _ m, q⟩
theorem we_name {N : List (Str × Loc)} {x : Str} {v : PV} {vs : List (Option PV)} {S : List (List PV)} {pos : Pos} {K : PV → AS → Prop} (hN : X.fr.N = N) (hx : Ix N vs x v) (h : K v ⟨vs, S⟩) : WE X (.Name x pos) ⟨vs, S⟩ K := fun g s Q E r ht c => by
  obtain ⟨l, _, hd, _⟩ := (hN ▸ hx : Ix X.fr.N vs x v).ok X.fok.loc
  exact wpAny_Name (w_loadName (σ := ⟨vs, S⟩) (hN ▸ hx) h s Q E r ht c) hd

noncomputable def BK (X : Scene B) (op : Operator) (a b : PV) (σ : AS) (K : PV → AS → Prop) : Prop :=
  ∀ g x y, VR B.pw g a x → VR B.pw g b y → W X (vrel B) (binaryOp op x y) g σ K
theorem we_binop {l r : Expr} {op : Operator} {pos : Pos} {K : PV → AS → Prop} (h : WE X l σ fun a σ₁ => WE X r σ₁ fun b σ₂ => BK X op a b σ₂ K) : WE X (.BinOp l op r pos) σ K := fun g s Q E r ht c =>
  wpAny_BinOp (h g s _ E r ht fun g₁ s₁ a x σ₁ l₁ r₁ v₁ h₁ ht₁ => h₁ g₁ s₁ _ E r₁ ht₁ fun g₂ s₂ b y σ₂ l₂ r₂ v₂ h₂ ht₂ =>
    h₂ g₂ x y (v₁.mono l₂) v₂ s₂ Q E r₂ ht₂ fun g₃ s₃ b a σ₃ l₃ r₃ hr hK => c g₃ s₃ b a σ₃ ((l₁.trans l₂).trans l₃) r₃ hr hK)
theorem bk_add {i j : Int} {K : PV → AS → Prop} (h : K (.av (.int (i + j))) σ) : BK X .Add (.av (.int i)) (.av (.int j)) σ K := fun g x y hx hy => .mk fun s Q E r c => by
  obtain ⟨t, rfl⟩ := hx.int; obtain ⟨u, rfl⟩ := hy.int
  exact add_int (c g _ _ _ σ (.refl g) r.tok (vint ..) h)
theorem bk_sub {i j : Int} {K : PV → AS → Prop} (h : K (.av (.int (i - j))) σ) : BK X .Sub (.av (.int i)) (.av (.int j)) σ K := fun g x y hx hy => .mk fun s Q E r c => by
  obtain ⟨t, rfl⟩ := hx.int; obtain ⟨u, rfl⟩ := hy.int
  exact sub_int (c g _ _ _ σ (.refl g) r.tok (vint ..) h)
theorem bk_mul {i j : Int} {K : PV → AS → Prop} (hb : -(2 ^ 63) ≤ j ∧ j < 2 ^ 63) (h : K (.av (.int (i * j))) σ) : BK X .Mult (.av (.int i)) (.av (.int j)) σ K := fun g x y hx hy => .mk fun s Q E r c => by
  obtain ⟨t, rfl⟩ := hx.int; obtain ⟨u, rfl⟩ := hy.int
  exact mul_int (c g _ _ _ σ (.refl g) r.tok (vint ..) h) (IntMulOk.of_right (intBits_le_64 (by lia) (by lia)))
theorem bk_mod {i j : Int} {K : PV → AS → Prop} (hj : j ≠ 0) (h : K (.av (.int (i.fmod j))) σ) : BK X .Mod (.av (.int i)) (.av (.int j)) σ K := fun g x y hx hy => .mk fun s Q E r c => by
  obtain ⟨t, rfl⟩ := hx.int; obtain ⟨u, rfl⟩ := hy.int
  exact mod_int' hj (c g _ _ _ σ (.refl g) r.tok (vint ..) h)
theorem bk_div {i j : Int} {K : PV → AS → Prop} (hj : j ≠ 0 ∧ j.natAbs < 1073741824) (h : K (.av (.int (i.fdiv j))) σ) : BK X .FloorDiv (.av (.int i)) (.av (.int j)) σ K := fun g x y hx hy => .mk fun s Q E r c => by
  obtain ⟨t, rfl⟩ := hx.int; obtain ⟨u, rfl⟩ := hy.int
  exact floordiv_int hj.1 (c g _ _ _ σ (.refl g) r.tok (vint ..) h) (.inl (PyProof.noPylong_small hj.2))

/-- a comparison -/
noncomputable def CK (X : Scene B) (op : CmpOp) (a b : PV) (σ : AS) (K : Bool → AS → Prop) : Prop :=
  ∀ g x y, VR B.pw g a x → VR B.pw g b y → W X (fun _ (b : Bool) v => v = .bool b) (compareOp op x y) g σ K
theorem wt_compare {l r : Expr} {op : CmpOp} {pos : Pos} {K : Bool → AS → Prop} (h : WE X l σ fun a σ₁ => WE X r σ₁ fun b σ₂ => CK X op a b σ₂ K)
    (hm : behindInMarks op r = false := by with_unfolding_all rfl) : WT X (.Compare l [op] [r] pos) σ K := fun g s Q E r ht c =>
  wpAny_isTrue_Compare1 (h g s _ E r ht fun g₁ s₁ a x σ₁ l₁ r₁ v₁ h₁ ht₁ => h₁ g₁ s₁ _ E r₁ ht₁ fun g₂ s₂ b y σ₂ l₂ r₂ v₂ h₂ ht₂ =>
    h₂ g₂ x y (v₁.mono l₂) v₂ s₂ _ E r₂ ht₂ fun g₃ s₃ b a σ₃ l₃ r₃ hr hK ht₃ => by
      subst hr
      exact wpAny_truthy_bool (c g₃ s₃ b b σ₃ ((l₁.trans l₂).trans l₃) r₃ rfl hK ht₃)) hm
theorem ck_lt {i j : Int} {K : Bool → AS → Prop} (h : K (decide (i < j)) σ) : CK X .Lt (.av (.int i)) (.av (.int j)) σ K := fun g x y hx hy => .mk fun s Q E r c => by
  obtain ⟨t, rfl⟩ := hx.int; obtain ⟨u, rfl⟩ := hy.int
  exact lt_int (c g _ _ _ σ (.refl g) r rfl h)
theorem ck_le {i j : Int} {K : Bool → AS → Prop} (h : K (decide (i ≤ j)) σ) : CK X .LtE (.av (.int i)) (.av (.int j)) σ K := fun g x y hx hy => .mk fun s Q E r c => by
  obtain ⟨t, rfl⟩ := hx.int; obtain ⟨u, rfl⟩ := hy.int
  exact le_int (c g _ _ _ σ (.refl g) r rfl h)
theorem ck_ge {i j : Int} {K : Bool → AS → Prop} (h : K (decide (j ≤ i)) σ) : CK X .GtE (.av (.int i)) (.av (.int j)) σ K := fun g x y hx hy => .mk fun s Q E r c => by
  obtain ⟨t, rfl⟩ := hx.int; obtain ⟨u, rfl⟩ := hy.int
  exact ge_int (c g _ _ _ σ (.refl g) r rfl h)
theorem ck_eq {i j : Int} {K : Bool → AS → Prop} (h : K (i == j) σ) : CK X .Eq (.av (.int i)) (.av (.int j)) σ K := fun g x y hx hy => .mk fun s Q E r c => by
  obtain ⟨t, rfl⟩ := hx.int; obtain ⟨u, rfl⟩ := hy.int
  exact eq_int (c g _ _ _ σ (.refl g) r rfl h)
theorem ck_ne {i j : Int} {K : Bool → AS → Prop} (h : K (i != j) σ) : CK X .NotEq (.av (.int i)) (.av (.int j)) σ K := fun g x y hx hy => .mk fun s Q E r c => by
  obtain ⟨t, rfl⟩ := hx.int; obtain ⟨u, rfl⟩ := hy.int
  exact ne_int (c g _ _ _ σ (.refl g) r rfl h)
noncomputable def At.isNone : At → Bool
  | .none => true
  | _ => false
theorem ck_is {a : At} {K : Bool → AS → Prop} (h : K a.isNone σ) : CK X .Is (.av a) (.av .none) σ K := fun g x y hx hy => .mk fun s Q E r c => by
  cases hy.none
  refine is_none (c g _ _ _ σ (.refl g) r ?_ h)
  cases hx.at <;> rfl
theorem ck_eqs {i j : Str} {K : Bool → AS → Prop} (h : K (i == j) σ) : CK X .Eq (.av (.str i)) (.av (.str j)) σ K := fun g x y hx hy => .mk fun s Q E r c => by
  obtain ⟨t, rfl⟩ := hx.str; obtain ⟨u, rfl⟩ := hy.str
  exact eq_str (c g _ _ _ σ (.refl g) r rfl h)
theorem ck_nes {i j : Str} {K : Bool → AS → Prop} (h : K (i != j) σ) : CK X .NotEq (.av (.str i)) (.av (.str j)) σ K := fun g x y hx hy => .mk fun s Q E r c => by
  obtain ⟨t, rfl⟩ := hx.str; obtain ⟨u, rfl⟩ := hy.str
  exact ne_str (c g _ _ _ σ (.refl g) r rfl h)
theorem ck_ins {i j : Str} {K : Bool → AS → Prop} (h : K (Txt.contains j i) σ) : CK X .In (.av (.str i)) (.av (.str j)) σ K := fun g x y hx hy => .mk fun s Q E r c => by
  obtain ⟨t, rfl⟩ := hx.str; obtain ⟨u, rfl⟩ := hy.str
  exact SB.contains (c g _ _ _ σ (.refl g) r rfl h)

theorem we_ifexp {test body orelse : Expr} {pos : Pos} {K : PV → AS → Prop} (h : WT X test σ fun b σ' => (b = true → WE X body σ' K) ∧ (b = false → WE X orelse σ' K)) : WE X (.IfExp test body orelse pos) σ K := fun g s Q E r ht c =>
  wpAny_IfExp (h g s _ E r ht fun g' s' b a σ' l r' hr hK ht' => by
    cases hr
    have c' := fun g'' s'' b a σ'' (l' : g'.Le g'') r'' hr' hK' => c g'' s'' b a σ'' (l.trans l') r'' hr' hK'
    cases b with
    | true => exact hK.1 rfl g' s' Q E r' ht' c'
    | false => exact hK.2 rfl g' s' Q E r' ht' c')
noncomputable def OrK (X : Scene B) (K : Bool → AS → Prop) : List Expr → AS → Prop
  | [], σ => K false σ
  | e :: r, σ => WT X e σ fun b σ' => (b = true → K true σ') ∧ (b = false → OrK X K r σ')
theorem wt_or {es : List Expr} {pos : Pos} {K : Bool → AS → Prop} (h : OrK X K es σ) : WT X (.BoolOp .Or es pos) σ K := fun g s Q E r ht c => by
  refine wpAny_isTrue_BoolOp ?_
  have key : ∀ (es : List Expr) (σ : AS) (g₁ : Gh) (s : Shared), OrK X K es σ → Rep B X.fr g₁ σ s → 1 ≤ s.toks → g.Le g₁ → wpAny (model B.prog B.w) X.A (allTrue .Or es X.fr.env) Q E s := by
    intro es
    induction es with
    | nil => intro σ g₁ s h r ht l; exact wpAny_allTrue_Or_nil (c g₁ s false false σ l r rfl h ht)
    | cons e es ih =>
      intro σ g₁ s h r ht l
      refine wpAny_allTrue_Or_cons (h g₁ s _ E r ht fun g' s' b a σ' l' r' hr hK ht' => ?_)
      cases hr
      cases b with
      | true => exact c g' s' true true σ' (l.trans l') r' rfl (hK.1 rfl) ht'
      | false => exact ih σ' g' s' (hK.2 rfl) r' ht' (l.trans l')
  exact key es σ g s h r ht (.refl g)

/-! subscripts -/
noncomputable def SubK (X : Scene B) (value slice : Expr) (a i : PV) (σ : AS) (K : PV → AS → Prop) : Prop :=
  ∀ g x y, VR B.pw g a x → VR B.pw g i y → W X (vrel B) (subscriptTail value slice x y) g σ K
theorem we_sub {value slice : Expr} {pos : Pos} {K : PV → AS → Prop} (h : WE X value σ fun a σ₁ => WE X slice σ₁ fun i σ₂ => SubK X value slice a i σ₂ K) : WE X (.Subscript value slice pos) σ K := fun g s Q E r ht c =>
  Subscript_ (h g s _ E r ht fun g₁ s₁ a x σ₁ l₁ r₁ v₁ h₁ ht₁ => h₁ g₁ s₁ _ E r₁ ht₁ fun g₂ s₂ b y σ₂ l₂ r₂ v₂ h₂ ht₂ =>
    h₂ g₂ x y (v₁.mono l₂) v₂ s₂ Q E r₂ ht₂ fun g₃ s₃ b a σ₃ l₃ r₃ hr hK => c g₃ s₃ b a σ₃ ((l₁.trans l₂).trans l₃) r₃ hr hK)
theorem sub_list {value slice : Expr} {k : Nat} {i : Int} {xs : List PV} {v : PV} {vs : List (Option PV)} {S : List (List PV)} {K : PV → AS → Prop} (hS : S[k]? = some xs) (h0 : 0 ≤ i ∧ i < 2 ^ 63) (hx : xs[i.toNat]? = some v) (h : K v ⟨vs, S⟩)
    (hs : ∀ a u, subscripted slice false (.ref a) (.int i u) = operate [.ref a, .int i u] (getItem (.ref a) (.int i u)) := by intro _ _; with_unfolding_all rfl) :
    SubK X value slice (.lst k) (.av (.int i)) ⟨vs, S⟩ K := fun g x y hx' hy => .mk fun s Q E r c => by
  obtain ⟨u, rfl⟩ := hy.int
  obtain ⟨a, ws, n, rfl, hk, ha, hv⟩ := hx'.list r.r0 hS
  obtain ⟨y, hy1, hy2⟩ := hv.get hx
  have hl : s.heap.IsList a ws.toArray := ⟨_, ha, rfl, n, rfl⟩
  exact tail_any hl.typeIs slot_list_getitem.lookup (wpAny_getItem_list hl h0.1 h0.2 (by simpa using hy1) (c g s v y _ (.refl g) r (.i hy2) h)) (hs _ _)
theorem sub_tup {value slice : Expr} {i : Nat} {xs : List At} {v : At} {K : PV → AS → Prop} (hx : xs[i]? = some v) (h : K (.av v) σ)
    (hs : ∀ a u, subscripted slice false (.ref a) (.int (i : Int) u) = operate [.ref a, .int (i : Int) u] (getItem (.ref a) (.int (i : Int) u)) := by intro _ _; with_unfolding_all rfl) (hi : i < 1000 := by decide) :
    SubK X value slice (.tup xs) (.av (.int (i : Int))) σ K := fun g x y hx' hy => .mk fun s Q E r c => by
  obtain ⟨u, rfl⟩ := hy.int
  obtain ⟨a, ws, n, rfl, ha, hv⟩ := hx'.tup
  obtain ⟨y, hy1, hy2⟩ := hv.get hx
  have hlt := (List.getElem?_eq_some_iff.mp hy1).1
  refine item_tupleT (l := ws) (j := i) ⟨_, r.r0.imm _ _ ha, rfl, n, rfl⟩ (by lia) (by lia) ?_ hy1 (c g s _ y _ (.refl g) r (.i (.av hy2)) h) (hs _ _)
  unfold seqIndex?
  simp only [show ¬ ((i : Int) < 0) from by lia, if_false]
  split <;> first | (simp; done) | (exfalso; lia) | skip
  all_goals (simp_all; try lia)
end
/-! UrnCall -/
section
open PySem PyProof.Rows
variable {B : Base} {X : Scene B} {σ : AS}

/-- what stands still while a def runs -/
noncomputable def Gh.freeze (g : Gh) (h : Heap) (as : List Addr) : Gh := ⟨g.im, fun b => if b ∈ as then h.get? b else g.fz b, g.ls⟩
noncomputable def Gh.thaw (g : Gh) (as : List Addr) : Gh := ⟨g.im, fun b => if b ∈ as then none else g.fz b, g.ls⟩
theorem Gh.le_freeze {g : Gh} {h : Heap} {as : List Addr} (ha : ∀ a ∈ as, g.off a) : g.Le (g.freeze h as) :=
  ⟨fun _ _ e => e, fun a o e => by
    by_cases hm : a ∈ as
    · rw [(ha a hm).2] at e; cases e
    · simp [Gh.freeze, hm, e], [], by simp [Gh.freeze]⟩
theorem Gh.le_thaw {g g' : Gh} {h : Heap} {as : List Addr} (ha : ∀ a ∈ as, g.off a) (l : (g.freeze h as).Le g') : g.Le (g'.thaw as) :=
  ⟨l.im, fun a o e => by
    by_cases hm : a ∈ as
    · rw [(ha a hm).2] at e; cases e
    · simp only [Gh.thaw, hm, if_false]; exact l.fz a o (by simp [Gh.freeze, hm, e]), l.ls⟩
theorem Rep0.freeze {g : Gh} {S : List (List PV)} {s : Shared} {as : List Addr} (r : Rep0 B g S s) (hl : ∀ a ∈ as, g.off a ∧ a ∉ g.ls) : Rep0 B (g.freeze s.heap as) S s where
  base a o e := (Gh.le_freeze fun a h => (hl a h).1).fz a o (r.base a o e)
  keep a o e := by
    by_cases hm : a ∈ as
    · simpa [Gh.freeze, hm] using e
    · simp only [Gh.freeze, hm, if_false] at e; exact r.keep a o e
  imm := r.imm
  apart b p e hb := by
    by_cases hm : b ∈ as
    · exact (hl b hm).1.1
    · simp only [Gh.freeze, hm, if_false] at e; exact r.apart b p e hb
  lists := r.lists
  nodup := r.nodup
  off a ha := ⟨(r.off a ha).1, by
    have : a ∉ as := fun h => (hl a h).2 ha
    simp only [Gh.freeze, this, if_false]; exact (r.off a ha).2⟩
  gens := r.gens
  drawn := r.drawn
  os := r.os
theorem Rep0.thaw {g : Gh} {S : List (List PV)} {s : Shared} {as : List Addr} (r : Rep0 B g S s) (hb : ∀ a ∈ as, B.s.heap.get? a = none) : Rep0 B (g.thaw as) S s where
  base a o e := by
    by_cases hm : a ∈ as
    · rw [hb a hm] at e; cases e
    · simp only [Gh.thaw, hm, if_false]; exact r.base a o e
  keep a o e := by
    by_cases hm : a ∈ as
    · simp [Gh.thaw, hm] at e
    · simp only [Gh.thaw, hm, if_false] at e; exact r.keep a o e
  imm := r.imm
  apart b p e := by
    by_cases hm : b ∈ as
    · simp [Gh.thaw, hm] at e
    · simp only [Gh.thaw, hm, if_false] at e; exact r.apart b p e
  lists := r.lists
  nodup := r.nodup
  off a ha := ⟨(r.off a ha).1, by
    by_cases hm : a ∈ as
    · simp [Gh.thaw, hm]
    · simp only [Gh.thaw, hm, if_false]; exact (r.off a ha).2⟩
  gens := r.gens
  drawn := r.drawn
  os := r.os

/-- what a def of the text answers: args, the store before; value, the store behind -/
noncomputable def Spec (B : Base) (k : Nat) (name : Str) (args : List PV) (S : List (List PV)) (K : PV → List (List PV) → Prop) : Prop :=
  ∀ a, B.mg name = some (.ref a) → ∀ (A : Around) g s Q E vals, AOk k A → Rep0 B g S s → 1 ≤ s.toks → All2 (VR B.pw g) args vals →
    (∀ g' s' v x S', g.Le g' → Rep0 B g' S' s' → VR B.pw g' v x → K v S' → 1 ≤ s'.toks → Q x s') → wpAny (model B.prog B.w) A (call (.ref a) vals) Q E s
theorem AOk.le {k k' : Nat} {A : Around} (h : AOk k A) (hk : k' ≤ k) : AOk k' A := ⟨h.handled, by have := h.depth; lia, by have := h.units; lia⟩
theorem AOk.deeper {k : Nat} {A : Around} {env : Env} (h : AOk (k + 1) A) : AOk k (A.deeper env) := ⟨h.handled, by have := h.depth; show A.depth + 1 + k < _; lia, by have := h.units; show A.units + 3 + 16 * k + 64 < _; lia⟩

/-- the def of that name -/
structure FnAt (B : Base) (name : Str) (params : Arguments) (body : List Stmt) (scope : Scope) (a : Addr) (fd : FuncData) : Prop where
  mg : B.mg name = some (.ref a)
  obj : ∃ o, B.s.heap.get? a = some o ∧ o.data = .func fd
  params : fd.params = params
  body : fd.body = .stmts body
  scope : fd.scope = scope
  closure : fd.closure = []
  globals : fd.globals = mainGlobals
  builtins : fd.builtins = builtinsNs
  code : B.s.heap.CodeRec fd.code fd.qualname
noncomputable def IsFn (B : Base) (name : Str) : Prop := ∃ a o fd, B.mg name = some (.ref a) ∧ B.s.heap.get? a = some o ∧ o.data = .func fd
theorem FnAt.is {name params body scope a fd} (F : FnAt B name params body scope a fd) : IsFn B name := let ⟨o, h1, h2⟩ := F.obj; ⟨a, o, fd, F.mg, h1, h2⟩

/-- the list of a call's arguments -/
theorem wl_nil {pos : Pos} {K : List PV → AS → Prop} (h : K [] σ) : WL X pos [] σ K := fun g s Q E r ht c => wpAny_items_nil (c g s [] [] σ (.refl g) r .nil h ht)
theorem wl_cons {pos : Pos} {e : Expr} {es : List Expr} {K : List PV → AS → Prop} (h : WE X e σ fun v σ₁ => WL X pos es σ₁ fun vs σ₂ => K (v :: vs) σ₂)
    (he : ∀ env, starEach (e :: es) env = (false, eval e env) :: starEach es env := by intro _; rfl) : WL X pos (e :: es) σ K := fun g s Q E r ht c =>
  wpAny_items_cons (h g s _ E r ht fun g₁ s₁ a x σ₁ l₁ r₁ v₁ h₁ ht₁ => h₁ g₁ s₁ _ E r₁ ht₁ fun g₂ s₂ b y σ₂ l₂ r₂ v₂ h₂ ht₂ =>
    c g₂ s₂ _ _ σ₂ (l₁.trans l₂) r₂ (.cons (v₁.mono l₂) v₂) h₂ ht₂) (he _)

theorem Rep.baseNone {fr : Frm} {g : Gh} {s : Shared} (r : Rep B fr g σ s) {a : Addr} (ha : a ∈ fr.env.locals :: cellsOf fr.N) : B.s.heap.get? a = none := by
  cases h : B.s.heap.get? a with
  | none => rfl
  | some o => have := r.r0.base a o h; rw [(r.old ha).1.2] at this; cases this

/-- a def called at a state -/
theorem w_spec {k : Nat} {name : Str} {a : Addr} {args : List PV} {vals : List Value} {g : Gh} {K : PV → AS → Prop} (hm : B.mg name = some (.ref a)) (hk : k ≤ X.k) (hv : All2 (VR B.pw g) args vals)
    (h : Spec B k name args σ.S fun v S' => K v { σ with S := S' }) : W X (vrel B) (call (.ref a) vals) g σ K := fun s Q E r ht c => by
  have hof : ∀ b ∈ X.fr.env.locals :: cellsOf X.fr.N, g.off b ∧ b ∉ g.ls := fun b hb => ⟨(r.old hb).1, (r.old hb).2.1⟩
  have l₁ : g.Le (g.freeze s.heap (X.fr.env.locals :: cellsOf X.fr.N)) := Gh.le_freeze fun b hb => (hof b hb).1
  refine h a hm X.A (g.freeze s.heap (X.fr.env.locals :: cellsOf X.fr.N)) s Q E vals (X.aok.le hk) (r.r0.freeze hof) ht (hv.imp fun _ _ h => h.mono l₁) fun g' s' v x S' l r' hx hK ht' => ?_
  have l₂ := Gh.le_thaw (fun b hb => (hof b hb).1) l
  have r₂ : Rep0 B (g'.thaw (X.fr.env.locals :: cellsOf X.fr.N)) S' s' := r'.thaw fun b hb => r.baseNone hb
  have e : s' = { s with heap := s'.heap, toks := s'.toks } := by
    have h1 := r'.gens.trans r.r0.gens.symm
    have h2 := r'.drawn.trans r.r0.drawn.symm
    have h3 := r'.os.trans r.r0.os.symm
    cases s'; cases s; simp_all
  rw [e] at r₂ ht' ⊢
  refine c _ _ v x { σ with S := S' } l₂ (r.change l₂ r₂ fun b hb => ⟨fun o ho => r'.keep b o (l.fz b o (by simp only [Gh.freeze, hb, if_true]; exact ho)), ?_, ?_⟩) ?_ hK ht'
  · refine ⟨?_, by simp only [Gh.thaw, hb, if_true]⟩
    obtain ⟨_, _, o, ho⟩ := r.old hb
    exact r'.apart b o (l.fz b o (by simp only [Gh.freeze, hb, if_true]; exact ho)) (r.baseNone hb)
  · intro hm
    have z := (r'.off b hm).2
    obtain ⟨_, _, o, ho⟩ := r.old hb
    have := l.fz b o (by simp only [Gh.freeze, hb, if_true]; exact ho)
    rw [z] at this; cases this
  · cases hx with
    | i h => exact .i h
    | lst e => exact .lst e

/-- the arguments of a call -/
theorem evalArgs_of {f : Value} {pos : Pos} {e : Expr} {es : List Expr} {g : Gh} {s : Shared} {Q : Args → Shared → Prop} {E : Value → Shared → Prop} {K : List PV → AS → Prop} (h : WL X pos (e :: es) σ K) (r : Rep B X.fr g σ s) (ht : 1 ≤ s.toks)
    (c : ∀ g' s' vs xs σ', g.Le g' → Rep B X.fr g' σ' s' → All2 (VR B.pw g') vs xs → K vs σ' → 1 ≤ s'.toks → Q ⟨xs, []⟩ s')
    (he : ∀ env, starEach (e :: es) env = (false, eval e env) :: starEach es env := by intro _; rfl) :
    wpAny (model B.prog B.w) X.A (evalArgs f true (backTo pos (starEach (e :: es) X.fr.env)) []) Q E s := by
  have z := h g s (fun xs s' => Q ⟨xs, []⟩ s') E r ht fun g' s' vs xs σ' l r' hv hK ht' => c g' s' vs xs σ' l r' hv hK ht'
  rw [he] at z ⊢
  exact Calls.evalArgs_plain z
theorem we_call {k : Nat} {name : Str} {p pos : Pos} {e : Expr} {es : List Expr} {G : List Str} {K : PV → AS → Prop} (hG : X.fr.G = G) (hg : name ∈ G) (F : IsFn B name) (hk : k ≤ X.k)
    (h : WL X pos (e :: es) σ fun vs σ₁ => Spec B k name vs σ₁.S fun v S' => K v { σ₁ with S := S' })
    (he : ∀ env, starEach (e :: es) env = (false, eval e env) :: starEach es env := by intro _; rfl) (hp : ∀ env, (backTo pos (starEach (e :: es) env)).any (·.1) = false := by intro _; rfl) :
    WE X (.Call (.Name name p) (e :: es) [] pos) σ K := fun g s Q E r ht c => by
  obtain ⟨a, o, fd, hm, ho, hd⟩ := F
  obtain ⟨hd1, hd2⟩ := X.fok.glo name (hG ▸ hg)
  refine wpAny_Call_Name_kw (Calls.Name_function_global X.fok.kind hd2 (Calls.loadGlobal_global (mg := B.mg) ?_ hm ?_) hd1)
  · rw [X.fok.globals]; exact X.bok.g.at' fun o e => r.r0.keep _ _ (r.r0.base _ _ e)
  refine Calls.callWith_function (o := o) (fd := fd) (evalArgs_of h r ht (fun g' s' vs xs σ' l r' hv hK ht' => ⟨⟨r'.r0.keep _ _ (r'.r0.base _ _ ho), hd⟩, ?_⟩) he)
  exact w_spec hm hk hv hK s' Q E r' ht' fun g'' s'' b a σ'' l' r'' => c g'' s'' b a σ'' (l.trans l') r''

/-- a built-in called -/
noncomputable def BC (X : Scene B) (f : Value) (vs : List PV) (σ : AS) (K : PV → AS → Prop) : Prop :=
  ∀ g xs, All2 (VR B.pw g) vs xs → W X (vrel B) (call f xs) g σ K
inductive Plain : Value → Prop
  | builtin (id : String) : Plain (.builtin id)
  | type (T : String) : Plain (.type T)
theorem we_bcall {name : Str} {f : Value} {p pos : Pos} {e : Expr} {es : List Expr} {G : List Str} {K : PV → AS → Prop} (hG : X.fr.G = G) (hg : name ∈ G) (hm : B.mg name = none) (hb : B.mb name = some f) (hf : Plain f)
    (h : WL X pos (e :: es) σ fun vs σ₁ => BC X f vs σ₁ K)
    (he : ∀ env, starEach (e :: es) env = (false, eval e env) :: starEach es env := by intro _; rfl) (hp : ∀ env, (backTo pos (starEach (e :: es) env)).any (·.1) = false := by intro _; rfl) :
    WE X (.Call (.Name name p) (e :: es) [] pos) σ K := fun g s Q E r ht c => by
  obtain ⟨hd1, hd2⟩ := X.fok.glo name (hG ▸ hg)
  refine wpAny_Call_Name_kw (Calls.Name_function_global X.fok.kind hd2 (Calls.loadGlobal_builtin (mg := B.mg) (mb := B.mb) ?_ hm ?_ hb ?_) hd1)
  · rw [X.fok.globals]; exact X.bok.g.at' fun o e => r.r0.keep _ _ (r.r0.base _ _ e)
  · rw [X.fok.builtins]; exact X.bok.b.at' fun o e => r.r0.keep _ _ (r.r0.base _ _ e)
  have fin := fun (g' : Gh) s' (vs : List PV) xs (σ' : AS) (l : g.Le g') r' hv (hK : BC X f vs σ' K) ht' => hK g' xs hv s' Q E r' ht' fun g'' s'' b a σ'' l' r'' => c g'' s'' b a σ'' (l.trans l') r''
  cases hf with
  | builtin id => exact Calls.callWith_builtin (hp _) (evalArgs_of h r ht fin he)
  | type T => exact PySem.callWith_type (hp _) (evalArgs_of h r ht fin he)

/-! a def entered -/
noncomputable def chkScope (scope : Scope) (ns gs : List Str) : Bool :=
  scope.kind == .function && !scope.isCoroutine && !scope.isGenerator && scope.names.all (fun x => x.2 != .cell) &&
  ns.all (fun x => scope.names.lookup x == some .local && !(x == ("__debug__" : Str)) && !(x == ("__classdict__" : Str))) &&
  gs.all (fun x => scope.names.lookup x == some .globalImplicit && !(x == ("__debug__" : Str))) && decide ns.Nodup
noncomputable abbrev dictN (ns : List Str) : List (Str × Loc) := ns.map fun x => (x, Loc.dict)
theorem cells_dictN (ns : List Str) : cellsOf (dictN ns) = [] := by
  induction ns with
  | nil => rfl
  | cons x r ih => exact ih
noncomputable def Leave (n : Nat) (K : PV → List (List PV) → Prop) : PV → List (List PV) → Prop
  | .lst j, S' => if j < n then K (.lst j) (S'.take n) else ∃ xs, S'[j]? = some xs ∧ K (.lst n) (S'.take n ++ [xs])
  | v, S' => K v (S'.take n)
/-- how a def's body ends -/
noncomputable def Ends (n : Nat) (K : PV → List (List PV) → Prop) : Fl → AS → Prop
  | .ret v, σ => Leave n K v σ.S
  | .next, σ => K (.av .none) (σ.S.take n)
  | _, _ => False

theorem Rep0.cut {g g' : Gh} {S S' : List (List PV)} {s s' : Shared} (r : Rep0 B g S s) (r' : Rep0 B g' S' s') (l : g.Le g') :
    Rep0 B ⟨g'.im, g'.fz, g.ls⟩ (S'.take S.length) s' ∧ g.Le ⟨g'.im, g'.fz, g.ls⟩ := by
  obtain ⟨q, hq⟩ := l.ls
  have e : g'.ls.take S.length = g.ls := by rw [hq, ← r.lists.length]; simp
  refine ⟨⟨r'.base, r'.keep, r'.imm, r'.apart, e ▸ r'.lists.take S.length, r.nodup, fun a ha => r'.off a (by rw [hq]; exact List.mem_append_left _ ha), r'.gens, r'.drawn, r'.os⟩, l.im, l.fz, [], by simp⟩
theorem Rep0.cutL {g g' : Gh} {S S' : List (List PV)} {s s' : Shared} {j : Nat} {a : Addr} {xs : List PV} (r : Rep0 B g S s) (r' : Rep0 B g' S' s') (l : g.Le g') (hj : S.length ≤ j) (ha : g'.ls[j]? = some a) (hx : S'[j]? = some xs) :
    Rep0 B ⟨g'.im, g'.fz, g.ls ++ [a]⟩ (S'.take S.length ++ [xs]) s' ∧ g.Le ⟨g'.im, g'.fz, g.ls ++ [a]⟩ := by
  obtain ⟨q, hq⟩ := l.ls
  have e : g'.ls.take S.length = g.ls := by rw [hq, ← r.lists.length]; simp
  have hin : a ∉ g.ls := by
    intro hm
    obtain ⟨i, hi, e'⟩ := List.mem_iff_getElem.mp hm
    have h1 : g'.ls[i]? = some a := by rw [hq, List.getElem?_append_left hi]; exact List.getElem?_eq_some_iff.mpr ⟨hi, e'⟩
    have h2 := nodup_get r'.nodup h1 ha
    have h3 := r.lists.length
    lia
  obtain ⟨xs', hx', hr⟩ := r'.lists.get ha
  rw [hx] at hx'; cases hx'
  refine ⟨⟨r'.base, r'.keep, r'.imm, r'.apart, (e ▸ r'.lists.take S.length).append (.cons hr .nil), ?_, ?_, r'.gens, r'.drawn, r'.os⟩, l.im, l.fz, [a], rfl⟩
  · show (g.ls ++ [a]).Nodup
    rw [List.nodup_append]
    refine ⟨r.nodup, by simp, fun b hb c hc => ?_⟩
    rw [List.mem_singleton.mp hc]; rintro rfl; exact hin hb
  · intro b hb
    show g'.off b
    rcases List.mem_append.mp hb with h | h
    · exact r'.off b (by rw [hq]; exact List.mem_append_left _ h)
    · rw [List.mem_singleton.mp h]; exact r'.off a (List.mem_of_getElem? ha)
theorem leave_of {g g' : Gh} {S S' : List (List PV)} {s s' : Shared} {v : PV} {x : Value} {K : PV → List (List PV) → Prop} (r : Rep0 B g S s) (r' : Rep0 B g' S' s') (l : g.Le g') (hv : VR B.pw g' v x) (h : Leave S.length K v S') :
    ∃ g'' v' S'', g.Le g'' ∧ Rep0 B g'' S'' s' ∧ VR B.pw g'' v' x ∧ K v' S'' := by
  cases hv with
  | i hi =>
    obtain ⟨r₁, l₁⟩ := r.cut r' l
    exact ⟨_, v, _, l₁, r₁, .i hi, by cases hi <;> exact h⟩
  | lst e =>
    rename_i j a
    have h : if j < S.length then K (.lst j) (S'.take S.length) else ∃ xs, S'[j]? = some xs ∧ K (.lst S.length) (S'.take S.length ++ [xs]) := h
    by_cases hj : j < S.length
    · rw [if_pos hj] at h
      obtain ⟨r₁, l₁⟩ := r.cut r' l
      obtain ⟨q, hq⟩ := l.ls
      refine ⟨_, _, _, l₁, r₁, .lst ?_, h⟩
      rw [hq, List.getElem?_append_left (by rw [r.lists.length]; exact hj)] at e
      exact e
    · rw [if_neg hj] at h
      obtain ⟨xs, hx, hK⟩ := h
      obtain ⟨r₁, l₁⟩ := r.cutL r' l (Nat.le_of_not_lt hj) e hx
      refine ⟨_, _, _, l₁, r₁, .lst ?_, hK⟩
      show (g.ls ++ [a])[S.length]? = some a
      rw [← r.lists.length]; simp

/-- the frame that a def's call lays -/
noncomputable abbrev newFrm (fd : FuncData) (L a : Addr) (ns gs : List Str) : Frm := ⟨callEnv fd L a, dictN ns, gs⟩
theorem newFrm_ok {fd : FuncData} {L a : Addr} {ns gs : List Str} (hg : fd.globals = mainGlobals) (hb : fd.builtins = builtinsNs) (h : chkScope fd.scope ns gs = true) : FrmOk (newFrm fd L a ns gs) := by
  unfold chkScope at h
  simp only [Bool.and_eq_true, Bool.not_eq_true', List.all_eq_true, beq_iff_eq, decide_eq_true_eq] at h
  obtain ⟨⟨⟨⟨⟨⟨h1, _⟩, _⟩, _⟩, h5⟩, h6⟩, h7⟩ := h
  refine ⟨h1, hg, hb, fun p hp => ?_, ?_, ?_, fun x hx => ⟨(h6 x hx).2, (h6 x hx).1⟩⟩
  · obtain ⟨x, hx, rfl⟩ := List.mem_map.mp hp
    exact ⟨(h5 x hx).1.2, (h5 x hx).2, (h5 x hx).1.1⟩
  · rw [show (dictN ns).map (·.1) = ns from by rw [dictN, List.map_map]; exact List.map_id _]; exact h7
  · show (_ :: cellsOf (dictN ns)).Nodup
    rw [cells_dictN]; simp

/-- what the binding of a call's arguments says -/
noncomputable def Binds (B : Base) (fd : FuncData) (args : List PV) (bnd : List (Str × PV)) : Prop :=
  ∀ g S s vals, Rep0 B g S s → All2 (VR B.pw g) args vals → ∃ binds : List (Str × Value), BindsTo s fd ⟨vals, []⟩ binds ∧ All2 (fun p q => p.1 = q.1 ∧ VR B.pw g p.2 q.2) bnd binds

theorem named {R : PV → Value → Prop} {bnd : List (Str × PV)} {binds : List (Str × Value)} (r : All2 (fun p q => p.1 = q.1 ∧ R p.2 q.2) bnd binds) : bnd.map (·.1) = binds.map (·.1) := by
  induction r with
  | nil => rfl
  | cons a _ ih => rw [List.map_cons, List.map_cons, a.1, ih]
theorem lookup_rev {R : PV → Value → Prop} {bnd : List (Str × PV)} {binds : List (Str × Value)} (r : All2 (fun p q => p.1 = q.1 ∧ R p.2 q.2) bnd binds) : (bnd.map (·.1)).Nodup →
    ∀ x v, (x, v) ∈ bnd → ∃ y, binds.reverse.lookup x = some y ∧ R v y := by
  induction r with
  | nil => intro _ _ _ h; cases h
  | @cons p q bnd binds a r ih =>
    intro hd x v h
    obtain ⟨px, pv⟩ := p
    obtain ⟨qx, qv⟩ := q
    obtain ⟨rfl, a⟩ : px = qx ∧ R pv qv := a
    rw [List.reverse_cons, List.lookup_append]
    have hd' := List.nodup_cons.mp hd
    cases h with
    | head =>
      have : binds.reverse.lookup x = none := by
        refine List.lookup_eq_none_iff.mpr fun z hz => bne_iff_ne.mpr fun e => hd'.1 ?_
        show x ∈ _
        rw [named r, e]
        exact List.mem_map_of_mem (List.mem_reverse.mp hz)
      rw [this]
      exact ⟨qv, by simp, a⟩
    | tail _ h =>
      obtain ⟨y, hy, hr⟩ := ih hd'.2 x v h
      exact ⟨y, by rw [hy]; rfl, hr⟩

theorem slots_init {P : PW} {h : Heap} {g : Gh} {m : Str → Option Value} : ∀ (l : List (Str × PV)), (∀ p ∈ l, ∃ y, m p.1 = some y ∧ VR P g p.2 y) → All2 (SlotR P h g m) (dictN (l.map (·.1))) (l.map fun p => some p.2)
  | [], _ => .nil
  | p :: l, hp => .cons (fun v e => by cases e; exact hp p (.head _)) (slots_init l fun q hq => hp q (.tail _ hq))
theorem slots_none {P : PW} {h : Heap} {g : Gh} {m : Str → Option Value} : ∀ (l : List Str), All2 (SlotR P h g m) (dictN l) (l.map fun _ => none)
  | [] => .nil
  | x :: l => .cons (fun v e => nomatch e) (slots_none l)
theorem spec_enter {name : Str} {params : Arguments} {body : List Stmt} {scope : Scope} {a : Addr} {fd : FuncData} {k : Nat} {args : List PV} {S : List (List PV)} {K : PV → List (List PV) → Prop} (bok : BaseOk B) (F : FnAt B name params body scope a fd)
    (bnd : List (Str × PV)) (oth gs : List Str) (hc : chkScope scope (bnd.map (·.1) ++ oth) gs = true) (hb : Binds B fd args bnd)
    (h : ∀ X : Scene B, X.k = k → X.fr.N = dictN (bnd.map (·.1) ++ oth) → X.fr.G = gs → WS X body ⟨bnd.map (fun p => some p.2) ++ oth.map (fun _ => none), S⟩ (Ends S.length K)) : Spec B (k + 1) name args S K := by
  intro a' ha A g s Q E vals hA r ht hv c
  rw [F.mg] at ha; cases ha
  obtain ⟨o, ho, hd⟩ := F.obj
  obtain ⟨binds, hbt, hbr⟩ := hb g S s vals r hv
  have hc' : chkScope fd.scope (bnd.map (·.1) ++ oth) gs = true := F.scope ▸ hc
  have parts := hc'
  unfold chkScope at parts
  simp only [Bool.and_eq_true, Bool.not_eq_true', List.all_eq_true, beq_iff_eq, decide_eq_true_eq, bne_iff_ne] at parts
  obtain ⟨⟨⟨⟨⟨⟨p1, p2⟩, p3⟩, p4⟩, p5⟩, p6⟩, p7⟩ := parts
  refine wpAny_call (codeAny_call_def (fd := fd) (body := body) (binds := binds) (by have := hA.depth; lia) (r.keep _ _ (r.base _ _ ho)) hd
    (bok.nolimit.keeps fun b o e => r.keep _ _ (r.base _ _ e)) (F.code.keeps fun b o e => r.keep _ _ (r.base _ _ e)) F.body hbt p4 ?_ ?_ p2 p3 p1)
  · intro y hy
    obtain ⟨i, hi, e⟩ := List.mem_iff_getElem.mp hy
    obtain ⟨z, hz1, hz2, _⟩ := hbr.get' (i := i) (y := y) (by simp [hi, e])
    rw [← hz2]
    exact (p5 _ (List.mem_append_left _ (List.mem_map_of_mem (f := (·.1)) (List.mem_of_getElem? hz1)))).1.1
  · intro h₀ hn hk
    have fok := newFrm_ok (L := s.heap.objs.size) (a := a) F.globals F.builtins hc'
    let X : Scene B := ⟨newFrm fd s.heap.objs.size a (bnd.map (·.1) ++ oth) gs, A.deeper (callEnv fd s.heap.objs.size a), k, bok, fok, hA.deeper⟩
    have hr : Rep B X.fr g ⟨bnd.map (fun p => some p.2) ++ oth.map (fun _ => none), S⟩ { s with heap := h₀, toks := s.toks + binds.length } := by
      refine ⟨r.keeps hk, ⟨_, hn, ?_⟩, r.fresh, r.fresh'⟩
      show All2 _ (dictN (bnd.map (·.1) ++ oth)) _
      rw [dictN, List.map_append]
      have hnd : (bnd.map (·.1)).Nodup := (List.nodup_append.mp p7).1
      exact (slots_init bnd fun p hp => lookup_rev (R := VR B.pw g) hbr hnd p.1 p.2 hp).append (slots_none oth)
    refine h X rfl rfl rfl g _ _ _ hr (by show 1 ≤ s.toks + binds.length; lia) fun g' s' fl f σ' l r' hfl hK ht' => ?_
    cases hfl with
    | next =>
      obtain ⟨r₁, l₁⟩ := r.cut r'.r0 l
      exact c _ s' (.av .none) .none _ l₁ r₁ (vnone _) hK ht'
    | brk => exact hK.elim
    | cont => exact hK.elim
    | ret hv =>
      obtain ⟨g'', v', S'', l'', r'', hv'', hK''⟩ := leave_of r r'.r0 l hv hK
      exact c g'' s' v' _ S'' l'' r'' hv'' hK'' ht'
end
/-! UrnRules3 -/
section
open PySem PyProof.Rows
variable {B : Base} {X : Scene B} {σ : AS}

noncomputable def isIt : PV → Bool
  | .lst _ => false
  | _ => true
theorem VR.it {P : PW} {g : Gh} {v : PV} {x : Value} (h : VR P g v x) (hi : isIt v = true) : VI P g.im v x := by
  cases h with
  | i h => exact h
  | lst e => cases hi
theorem size_ok {n : Nat} (h : n < 1000000) : n ≤ sizeLine := by rw [sizeLine_eq]; lia
theorem all2_one {α β : Type} {R : α → β → Prop} {v : α} {xs : List β} (h : All2 R [v] xs) : ∃ x, xs = [x] ∧ R v x := by
  cases h with | cons a r => cases r; exact ⟨_, rfl, a⟩
theorem all2_two {α β : Type} {R : α → β → Prop} {v u : α} {xs : List β} (h : All2 R [v, u] xs) : ∃ x y, xs = [x, y] ∧ R v x ∧ R u y := by
  cases h with | cons a r => obtain ⟨y, rfl, b⟩ := all2_one r; exact ⟨_, _, rfl, a, b⟩
theorem all2_three {α β : Type} {R : α → β → Prop} {v u w : α} {xs : List β} (h : All2 R [v, u, w] xs) : ∃ x y z, xs = [x, y, z] ∧ R v x ∧ R u y ∧ R w z := by
  cases h with | cons a r => obtain ⟨y, z, rfl, b, c⟩ := all2_two r; exact ⟨_, _, _, rfl, a, b, c⟩

/-! built-ins -/
theorem bc_len_list {k : Nat} {xs : List PV} {vs : List (Option PV)} {S : List (List PV)} {K : PV → AS → Prop} (hS : S[k]? = some xs) (hn : xs.length < 1000000) (h : K (.av (.int xs.length)) ⟨vs, S⟩) : BC X (.builtin "len") [.lst k] ⟨vs, S⟩ K := fun g ys hy => .mk fun s Q E r c => by
  obtain ⟨x, rfl, hx⟩ := all2_one hy
  obtain ⟨a, ws, n, rfl, hk, ha, hv⟩ := hx.list r.r0 hS
  have e : ws.toArray.size = xs.length := by simp [hv.length]
  refine Calls.call_len_list (items := ws.toArray) ⟨_, ha, rfl, n, rfl⟩ (by lia) (c g _ (.av (.int xs.length)) _ _ (.refl g) r.tok ?_ h)
  rw [e]; exact vint ..
theorem bc_len_str {x : Str} {K : PV → AS → Prop} (hn : x.length < 1000000) (h : K (.av (.int x.length)) σ) : BC X (.builtin "len") [.av (.str x)] σ K := fun g ys hy => .mk fun s Q E r c => by
  obtain ⟨y, rfl, hz⟩ := all2_one hy
  obtain ⟨t, rfl⟩ := hz.str
  exact P.len_str (by lia) (c g _ _ _ σ (.refl g) r.tok (vint ..) h)
theorem ints_items {P : PW} {fz : Fz} {ns : List Int} {ws : List Value} (h : All2 (VI P fz) (ns.map fun i => .av (.int i)) ws) : ∃ xs : List (Int × Tok), ws = xs.map (fun p => .int p.1 p.2) ∧ xs.map (·.1) = ns := by
  induction ns generalizing ws with
  | nil => cases h; exact ⟨[], rfl, rfl⟩
  | cons i ns ih =>
    cases h with
    | cons a r =>
      obtain ⟨xs, rfl, e⟩ := ih r
      cases a with | av a => cases a with | int _ t => exact ⟨(i, t) :: xs, rfl, congrArg (i :: ·) e⟩
theorem bc_sum {k : Nat} {ns : List Int} {vs : List (Option PV)} {S : List (List PV)} {K : PV → AS → Prop} (hS : S[k]? = some (ns.map fun i => .av (.int i))) (h : K (.av (.int ns.sum)) ⟨vs, S⟩) : BC X (.builtin "sum") [.lst k] ⟨vs, S⟩ K := fun g ys hy => .mk fun s Q E r c => by
  obtain ⟨x, rfl, hx⟩ := all2_one hy
  obtain ⟨a, ws, n, rfl, hk, ha, hv⟩ := hx.list r.r0 hS
  obtain ⟨xs, rfl, e⟩ := ints_items hv
  refine sum_intListG (xs := xs.toArray) X.aok.handled ⟨_, ha, rfl, n, by simp [intItems]⟩ fun h' tk t' hk => ?_
  have e2 : preSum (numAt xs.toArray) xs.toArray.size = ns.sum := by
    rw [preSum_eq, List.take_of_length_le (by simp)]
    have : numsOf (intItems xs.toArray).toList = ns := by rw [nums_intItems]; simpa using e
    first | (rw [← this]; simp [nums_intItems]; done) | (rw [← e]; simp)
  rw [e2]
  exact c g _ _ _ ⟨vs, S⟩ (.refl g) (r.keeps hk) (vint ..) h
theorem bc_str {i : Int} {K : PV → AS → Prop} (hi : i.natAbs < 2 ^ 1000) (h : K (.av (.str (Str.ofString (toString i)))) σ) : BC X (.type "str") [.av (.int i)] σ K := fun g ys hy => .mk fun s Q E r c => by
  obtain ⟨y, rfl, hz⟩ := all2_one hy
  obtain ⟨t, rfl⟩ := hz.int
  have : i.natAbs.log2 < 1920 := by
    by_cases h0 : i.natAbs = 0
    · rw [h0]; decide
    · have := (Nat.log2_lt h0).mpr hi; lia
  exact P.str_of_int this (c g _ _ _ σ (.refl g) r.tok (vstr ..) h)
theorem bc_int {n : Int} {K : PV → AS → Prop} (h0 : 0 ≤ n) (h1 : n < 10 ^ 10) (h : K (.av (.int n)) σ) : BC X (.type "int") [.av (.str (Str.ofString (toString n)))] σ K := fun g ys hy => .mk fun s Q E r c => by
  obtain ⟨y, rfl, hz⟩ := all2_one hy
  obtain ⟨t, rfl⟩ := hz.str
  exact W.KIN.call_num h0 h1 (c g _ _ _ σ (.refl g) r.tok (vint ..) h)

/-! methods -/
inductive HasT : String → PV → Prop
  | str (x : Str) : HasT "str" (.av (.str x))
  | lst (k : Nat) : HasT "list" (.lst k)
  | dct (es : List (Str × Str)) : HasT "dict" (.dct es)
theorem HasT.is {T : String} {a : PV} (h : HasT T a) {fr : Frm} {g : Gh} {s : Shared} {x : Value} (r : Rep B fr g σ s) (hv : VR B.pw g a x) : s.TypeIs x T ∧ ∀ ad, x = .ref ad → ∃ o, s.heap.get? ad = some o ∧ o.dict = none := by
  cases h with
  | str y => obtain ⟨t, rfl⟩ := hv.str; exact ⟨typeIs_str _ _ _, fun _ e => nomatch e⟩
  | lst k =>
    cases hv with
    | i h => cases h
    | lst e =>
      rename_i a
      obtain ⟨xs, hx, vs, n, ho, _⟩ := r.r0.lists.get e
      exact ⟨⟨_, ho, rfl⟩, fun ad e => by cases e; exact ⟨_, ho, rfl⟩⟩
  | dct es =>
    cases hv with
    | i h =>
      cases h with
      | dct e h1 h2 h => exact ⟨⟨_, r.r0.imm _ _ e, by obtain ⟨_, _, hx, _⟩ := h1; exact hx.1⟩, fun ad e' => by cases e'; exact ⟨_, r.r0.imm _ _ e, by obtain ⟨_, _, hx, _⟩ := h1; exact hx.2.1⟩⟩
theorem we_meth {T id : String} {name : Str} {o e : Expr} {es : List Expr} {apos pos : Pos} {K : PV → AS → Prop} (pa : PlainAttrs T) (slot : Slot T name id) (hty : typeOf (.builtin id) = pure (.type "method_descriptor"))
    (h : WE X o σ fun a σ₁ => HasT T a ∧ WL X pos (e :: es) σ₁ fun vs σ₂ => BC X (.builtin id) (a :: vs) σ₂ K)
    (hbase : ∀ env, attributeBase o name env (eval o env) = eval o env := by intro _; rfl) (hline : (apos.endLine == pos.line) = true := by rfl)
    (hfew : ∀ env, ((backTo pos (starEach (e :: es) env)).all (fun x => !x.1) && (backToKw pos (keywordEach [] env)).all (fun x => x.1.isSome)
      && decide ((e :: es).length + ([] : List Keyword).length + (if ([] : List Keyword).isEmpty then 0 else 1) < 30)) = true := by intro _; rfl)
    (he : ∀ env, starEach (e :: es) env = (false, eval e env) :: starEach es env := by intro _; rfl) (hp : ∀ env, (backTo pos (starEach (e :: es) env)).any (·.1) = false := by intro _; rfl) :
    WE X (.Call (.Attribute o name apos) (e :: es) [] pos) σ K := fun g s Q E r ht c =>
  wpAny_Call_method_lateS (hbase _) (hfew _) hline (h g s _ E r ht fun g₁ s₁ a x σ₁ l₁ r₁ hx ⟨hT, h₁⟩ ht₁ =>
    ⟨T, id, pa, slot, hty, (hT.is r₁ hx).1, (hT.is r₁ hx).2, Calls.callWith_builtin (hp _) (evalArgs_of h₁ r₁ ht₁ (fun g₂ s₂ vs xs σ₂ l₂ r₂ hv hK ht₂ =>
      hK g₂ (x :: xs) (.cons (hx.mono l₂) hv) s₂ Q E r₂ ht₂ fun g₃ s₃ b a σ₃ l₃ r₃ => c g₃ s₃ b a σ₃ ((l₁.trans l₂).trans l₃) r₃) he)⟩)

theorem mapSeq_obj (f : Array Value → Array Value) (vs : List Value) (n : Nat) : ∃ m, Obj.mapSeq f (lstObj vs n) = lstObj (f vs.toArray).toList m := by
  refine ⟨if (f vs.toArray).size == vs.toArray.size then n else n + 1, ?_⟩
  show (⟨_, _, Data.seq (f vs.toArray) _, _⟩ : Obj) = ⟨_, _, Data.seq (f vs.toArray).toList.toArray _, _⟩
  rw [Array.toArray_toList]
/-- a list turned in place by a built-in -/
theorem turn_list {k : Nat} {a : Addr} {ws : List Value} {n : Nat} {xs : List PV} {g : Gh} {s : Shared} {f : Array Value → Array Value} {tk : Nat} (r : Rep B X.fr g σ s) (hk : g.ls[k]? = some a) (ha : s.heap.get? a = some (lstObj ws n))
    (h : All2 (VI B.pw g.im) xs (f ws.toArray).toList) : Rep B X.fr g { σ with S := σ.S.set k xs } { s with heap := s.heap.update a (Obj.mapSeq f), toks := tk } := by
  obtain ⟨m, hm⟩ := mapSeq_obj f ws n
  exact r.setList hk (Heap.SameBut.update ..) (by rw [← hm]; exact Heap.get?_update_self _ ha (by rw [hm]; rfl)) h
theorem bc_append {k : Nat} {xs : List PV} {v : PV} {vs : List (Option PV)} {S : List (List PV)} {K : PV → AS → Prop} (hS : S[k]? = some xs) (hn : xs.length < 1000000) (hi : isIt v = true) (h : K (.av .none) ⟨vs, S.set k (xs ++ [v])⟩) :
    BC X (.builtin "list.append") [.lst k, v] ⟨vs, S⟩ K := fun g ys hy => .mk fun s Q E r c => by
  obtain ⟨x, y, rfl, hx, hv⟩ := all2_two hy
  obtain ⟨a, ws, n, rfl, hk, ha, hw⟩ := hx.list r.r0 hS
  refine call_meets F.slot_list_append ⟨_, ha, rfl⟩ F.entry_list_append (F.args_list_append_2 _ _) (list_append a ws.toArray n y (size_ok (by simpa [hw.length] using hn))) ⟨ha, ?_⟩
  exact c g _ _ _ ⟨vs, S.set k (xs ++ [v])⟩ (.refl g) (turn_list (σ := ⟨vs, S⟩) r hk ha (by simpa using hw.append (.cons (hv.it hi) .nil))) (vnone _) h
theorem erase_all2 {R : PV → Value → Prop} : ∀ {xs : List PV} {ys : List Value}, All2 R xs ys → ∀ i, All2 R (xs.eraseIdx i) (ys.eraseIdx i) := by
  intro xs ys r
  induction r with
  | nil => exact fun _ => .nil
  | cons a r ih =>
    intro i
    cases i with
    | zero => exact r
    | succ i => exact .cons a (ih i)
theorem bc_pop {k : Nat} {i : Int} {xs : List PV} {v : PV} {vs : List (Option PV)} {S : List (List PV)} {K : PV → AS → Prop} (hS : S[k]? = some xs) (hn : xs.length < 1000000) (h0 : 0 ≤ i) (hx : xs[i.toNat]? = some v) (h : K v ⟨vs, S.set k (xs.eraseIdx i.toNat)⟩) :
    BC X (.builtin "list.pop") [.lst k, .av (.int i)] ⟨vs, S⟩ K := fun g ys hy => .mk fun s Q E r c => by
  obtain ⟨x, y, rfl, hx', hv⟩ := all2_two hy
  obtain ⟨u, rfl⟩ := hv.int
  obtain ⟨a, ws, n, rfl, hk, ha, hw⟩ := hx'.list r.r0 hS
  obtain ⟨y, hy1, hy2⟩ := hw.get hx
  have hlt := (List.getElem?_eq_some_iff.mp hx).1
  have hl := hw.length
  refine call_meets F.slot_list_pop ⟨_, ha, rfl⟩ F.entry_list_pop (F.args_list_pop_2 _ _) (MeetsSeq.list_pop_at a ws.toArray n i u i.toNat y ?_ ?_ (by simpa using hy1) (size_ok (by simpa [hl] using hn))) ⟨ha, ?_⟩
  · unfold Builtin.List.listFitsIndex
    simp only [Bool.and_eq_true, decide_eq_true_eq]
    first | lia | (constructor <;> lia)
  · unfold seqIndex?
    have : ¬ i < 0 := by lia
    simp only [this, if_false, List.size_toArray]
    rw [if_pos (by simp only [Bool.and_eq_true, decide_eq_true_eq]; lia)]
  · refine c g _ _ _ ⟨vs, S.set k (xs.eraseIdx i.toNat)⟩ (.refl g) (turn_list (σ := ⟨vs, S⟩) r hk ha ?_) (.i hy2) h
    have e : (ws.toArray.eraseIdxIfInBounds i.toNat).toList = ws.eraseIdx i.toNat := by simp
    rw [e]; exact erase_all2 hw _
theorem bc_insert {k : Nat} {i : Int} {xs : List PV} {v : PV} {vs : List (Option PV)} {S : List (List PV)} {K : PV → AS → Prop} (hS : S[k]? = some xs) (hn : xs.length < 1000000) (h0 : 0 ≤ i) (h1 : i.toNat ≤ xs.length) (hi : isIt v = true) (h : K (.av .none) ⟨vs, S.set k (xs.take i.toNat ++ v :: xs.drop i.toNat)⟩) :
    BC X (.builtin "list.insert") [.lst k, .av (.int i), v] ⟨vs, S⟩ K := fun g ys hy => .mk fun s Q E r c => by
  obtain ⟨x, y, z, rfl, hx', hy, hv⟩ := all2_three hy
  obtain ⟨u, rfl⟩ := hy.int
  obtain ⟨a, ws, n, rfl, hk, ha, hw⟩ := hx'.list r.r0 hS
  have hl := hw.length
  refine call_meets F.slot_list_insert ⟨_, ha, rfl⟩ F.entry_list_insert (F.args_list_insert_3 _ _ _) (AutoSeq1.list_insert_list_int_val_1 a ws.toArray n i u z ?_ (size_ok (by simpa [hl] using hn))) ⟨ha, ?_⟩
  · unfold Builtin.List.listFitsIndex
    simp only [Bool.not_eq_true', Bool.not_eq_false, Bool.and_eq_true, decide_eq_true_eq]
    first | lia | (constructor <;> lia) | (simp; lia)
  · refine c g _ _ _ ⟨vs, S.set k (xs.take i.toNat ++ v :: xs.drop i.toNat)⟩ (.refl g) (turn_list (σ := ⟨vs, S⟩) r hk ha ?_) (vnone _) h
    have hi' : ¬ i < 0 := by lia
    have e : (((ws.toArray.extract 0 (min i.toNat ws.toArray.size)).push z ++ ws.toArray.extract (min i.toNat ws.toArray.size)) : Array Value).toList = ws.take i.toNat ++ z :: ws.drop i.toNat := by
      have : min i.toNat ws.length = i.toNat := by lia
      simp [this]
      exact List.take_of_length_le (by simp)
    simp only [hi', if_false]
    rw [e]
    exact (hw.take _).append (.cons (hv.it hi) (hw.drop _))
theorem bc_find {x y : Str} {K : PV → AS → Prop} (h : K (.av (.int (Txt.find x y))) σ) : BC X (.builtin "str.find") [.av (.str x), .av (.str y)] σ K := fun g ys hy => .mk fun s Q E r c => by
  obtain ⟨a, b, rfl, ha, hb⟩ := all2_two hy
  obtain ⟨t, rfl⟩ := ha.str; obtain ⟨u, rfl⟩ := hb.str
  exact SC.find (c g _ _ _ σ (.refl g) r.tok (vint ..) h)
theorem bc_find3 {x y : Str} {i : Int} {K : PV → AS → Prop} (h : K (.av (.int (Txt.find3 x y i))) σ) : BC X (.builtin "str.find") [.av (.str x), .av (.str y), .av (.int i)] σ K := fun g ys hy => .mk fun s Q E r c => by
  obtain ⟨a, b, d, rfl, ha, hb, hd⟩ := all2_three hy
  obtain ⟨t, rfl⟩ := ha.str; obtain ⟨u, rfl⟩ := hb.str; obtain ⟨v, rfl⟩ := hd.int
  exact SC.find3 (c g _ _ _ σ (.refl g) r.tok (vint ..) h)
theorem bc_count {x y : Str} {K : PV → AS → Prop} (h : K (.av (.int (Txt.count x y))) σ) : BC X (.builtin "str.count") [.av (.str x), .av (.str y)] σ K := fun g ys hy => .mk fun s Q E r c => by
  obtain ⟨a, b, rfl, ha, hb⟩ := all2_two hy
  obtain ⟨t, rfl⟩ := ha.str; obtain ⟨u, rfl⟩ := hb.str
  exact SC.count (c g _ _ _ σ (.refl g) r.tok (vint ..) h)
theorem strs_items {P : PW} {fz : Fz} {ns : List Str} {ws : List Value} (h : All2 (VI P fz) (ns.map fun i => .av (.str i)) ws) : ∃ xs : List (Str × Tok), ws = strValues xs ∧ xs.map (·.1) = ns := by
  induction ns generalizing ws with
  | nil => cases h; exact ⟨[], rfl, rfl⟩
  | cons i ns ih =>
    cases h with
    | cons a r =>
      obtain ⟨xs, rfl, e⟩ := ih r
      cases a with | av a => cases a with | str _ t => exact ⟨(i, t) :: xs, rfl, congrArg (i :: ·) e⟩
theorem bc_join {x : Str} {k : Nat} {ts : List Str} {vs : List (Option PV)} {S : List (List PV)} {K : PV → AS → Prop} (hS : S[k]? = some (ts.map fun i => .av (.str i))) (hok : JoinOk x ts = true) (h : K (.av (.str (Txt.join x ts))) ⟨vs, S⟩) :
    BC X (.builtin "str.join") [.av (.str x), .lst k] ⟨vs, S⟩ K := fun g ys hy => .mk fun s Q E r c => by
  obtain ⟨a, b, rfl, ha, hb⟩ := all2_two hy
  obtain ⟨t, rfl⟩ := ha.str
  obtain ⟨a, ws, n, rfl, hk, ha, hw⟩ := hb.list r.r0 hS
  obtain ⟨xs, rfl, e⟩ := strs_items hw
  exact SC.join ⟨_, ha, rfl, n, rfl⟩ e hok fun t' k => c g _ _ _ ⟨vs, S⟩ (.refl g) r.tok (vstr ..) h
end
/-! UrnProg -/
section
open PySem
noncomputable def theStmt (i : Nat) : Stmt := Challenge.pw_wu0068_01.main.body.getD i (.Pass ⟨0, 0, 0, 0⟩)
noncomputable def fnBody : Stmt → List Stmt
  | .FunctionDef _ _ body _ _ _ _ _ _ _ => body
  | _ => []
noncomputable def fnScope : Stmt → Scope
  | .FunctionDef _ _ _ _ _ _ scope _ _ _ => scope
  | _ => { kind := .module, names := [], isGenerator := false, isCoroutine := false }
noncomputable def fnArgs : Stmt → Arguments
  | .FunctionDef _ args _ _ _ _ _ _ _ _ => args
  | _ => ⟨[], [], none, [], [], none, []⟩
end
/-! UrnLoop -/
section
open PySem PyProof.Rows
variable {B : Base} {X : Scene B} {σ : AS}

theorem VR.thaw {P : PW} {g : Gh} {v : PV} {x : Value} {as : List Addr} (h : VR P g v x) : VR P (g.thaw as) v x := by
  cases h with
  | i h => exact .i h
  | lst e => exact .lst e
theorem VR.freeze {P : PW} {g : Gh} {v : PV} {x : Value} {hp : Heap} {as : List Addr} (h : VR P g v x) : VR P (g.freeze hp as) v x := by
  cases h with
  | i h => exact .i h
  | lst e => exact .lst e
/-- addresses of which the ghost says nothing -/
noncomputable def Apart (B : Base) (fr : Frm) (g : Gh) (as : List Addr) : Prop := ∀ a ∈ as, g.off a ∧ a ∉ g.ls ∧ a ∉ fr.env.locals :: cellsOf fr.N ∧ B.s.heap.get? a = none
theorem Rep.freeze {fr : Frm} {g : Gh} {s : Shared} {as : List Addr} (r : Rep B fr g σ s) (h : Apart B fr g as) : Rep B fr (g.freeze s.heap as) σ s where
  r0 := r.r0.freeze fun a ha => ⟨(h a ha).1, (h a ha).2.1⟩
  ns := by
    obtain ⟨m, hm, hs⟩ := r.ns
    have l := Gh.le_freeze (h := s.heap) fun a ha => (h a ha).1
    refine ⟨m, hm, hs.impMem fun p o hp ho => ?_⟩
    obtain ⟨x, loc⟩ := p
    cases loc with
    | dict => exact fun v e => let ⟨y, hy, hv⟩ := ho v e; ⟨y, hy, hv.mono l⟩
    | cell c =>
      obtain ⟨h1, h2, vo, h3, h4⟩ := ho
      have hc : c ∉ as := fun hc => (h c hc).2.2.1 (List.mem_cons_of_mem _ (cellsOf_mem hp))
      exact ⟨⟨h1.1, by simp only [Gh.freeze, hc, if_false]; exact h1.2⟩, h2, vo, h3, fun v e => let ⟨y, hy, hv⟩ := h4 v e; ⟨y, hy, hv.mono l⟩⟩
    | free c =>
      obtain ⟨ob, y, h1, h2, h3⟩ := ho
      exact ⟨ob, y, l.fz _ _ h1, h2, fun v e => (h3 v e).mono l⟩
  lfz := ⟨r.lfz.1, by
    have hL : fr.env.locals ∉ as := fun hc => (h _ hc).2.2.1 List.mem_cons_self
    simp only [Gh.freeze, hL, if_false]; exact r.lfz.2⟩
  lls := r.lls
theorem Rep.thaw {fr : Frm} {g : Gh} {s : Shared} {as : List Addr} (r : Rep B fr g σ s) (hb : ∀ a ∈ as, B.s.heap.get? a = none) (hf : ∀ x c, (x, Loc.free c) ∈ fr.N → c ∉ as) : Rep B fr (g.thaw as) σ s where
  r0 := r.r0.thaw hb
  ns := by
    obtain ⟨m, hm, hs⟩ := r.ns
    refine ⟨m, hm, hs.impMem fun p o hp ho => ?_⟩
    obtain ⟨x, loc⟩ := p
    cases loc with
    | dict => exact fun v e => let ⟨y, hy, hv⟩ := ho v e; ⟨y, hy, hv.thaw⟩
    | cell c =>
      obtain ⟨h1, h2, vo, h3, h4⟩ := ho
      refine ⟨⟨h1.1, ?_⟩, h2, vo, h3, fun v e => let ⟨y, hy, hv⟩ := h4 v e; ⟨y, hy, hv.thaw⟩⟩
      by_cases hc : c ∈ as
      · simp [Gh.thaw, hc]
      · simp only [Gh.thaw, hc, if_false]; exact h1.2
    | free c =>
      obtain ⟨ob, y, h1, h2, h3⟩ := ho
      exact ⟨ob, y, by simp only [Gh.thaw, hf x c hp, if_false]; exact h1, h2, fun v e => (h3 v e).thaw⟩
  lfz := ⟨r.lfz.1, by
    by_cases hc : fr.env.locals ∈ as
    · simp [Gh.thaw, hc]
    · simp only [Gh.thaw, hc, if_false]; exact r.lfz.2⟩
  lls := r.lls
theorem Rep.freeNe {fr : Frm} {g : Gh} {s : Shared} {as : List Addr} (r : Rep B fr g σ s) (h : ∀ a ∈ as, g.off a) : ∀ x c, (x, Loc.free c) ∈ fr.N → c ∉ as := fun x c hp hc => by
  obtain ⟨m, _, hs⟩ := r.ns
  obtain ⟨o, _, hq⟩ := hs.mem hp
  obtain ⟨ob, y, h1, _⟩ := hq
  rw [(h c hc).2] at h1; cases h1
/-- behind a run that left the frozen standing -/
theorem Apart.after {fr : Frm} {g g' : Gh} {s s' : Shared} {σ' : AS} {as : List Addr} (h : Apart B fr g as) (ho : ∀ a ∈ as, ∃ o, s.heap.get? a = some o) (l : (g.freeze s.heap as).Le g') (r' : Rep B fr g' σ' s') : Apart B fr (g'.thaw as) as := fun a ha => by
  obtain ⟨o, e⟩ := ho a ha
  have e' : g'.fz a = some o := l.fz a o (by simp only [Gh.freeze, ha, if_true]; exact e)
  refine ⟨⟨r'.r0.apart a o e' (h a ha).2.2.2, by simp only [Gh.thaw, ha, if_true]⟩, fun hm => ?_, (h a ha).2.2.1, (h a ha).2.2.2⟩
  rw [(r'.r0.off a hm).2] at e'; cases e'
theorem kept_after {g g' : Gh} {s s' : Shared} {fr : Frm} {σ' : AS} {as : List Addr} (l : (g.freeze s.heap as).Le g') (r' : Rep B fr g' σ' s') : ∀ a ∈ as, ∀ o, s.heap.get? a = some o → s'.heap.get? a = some o := fun a ha o e =>
  r'.r0.keep a o (l.fz a o (by simp only [Gh.freeze, ha, if_true]; exact e))

/-- a source of items: its iterator, what it stands on -/
structure Source (B : Base) (A : Around) (target : Expr) where
  I : Addr
  fp : List Addr
  all : List PV
  g₀ : Gh
  It : Nat → Heap → Prop
  Ok : List (List PV) → Prop
  obj : ∀ i h, It i h → ∀ a ∈ fp, ∃ o, h.get? a = some o
  frame : ∀ i h h', It i h → (∀ a ∈ fp, ∀ o, h.get? a = some o → h'.get? a = some o) → It i h'
  turn : ∀ fr g σ s i v (Q : Value → Shared → Prop) E, g₀.Le g → Rep B fr g σ s → Ok σ.S → It i s.heap → Apart B fr g fp → all[i]? = some v →
    (∀ g' h' tk x, g.Le g' → Rep B fr g' σ { s with heap := h', toks := tk } → It (i + 1) h' → Apart B fr g' fp → VR B.pw g' v x → Q x { s with heap := h', toks := tk }) →
    wpAny (model B.prog B.w) A (pyNext (.ref I)) (fun r s₁ => match r with | none => False | some x => wpAny (model B.prog B.w) A (letOwnedTupleGo target (.ref I) x) (fun _ s₂ => Q x s₂) E s₁) E s
  done : ∀ fr g σ s (Q : Option Value → Shared → Prop) E, g₀.Le g → Rep B fr g σ s → Ok σ.S → It all.length s.heap → Apart B fr g fp →
    (∀ h' tk, Rep B fr g σ { s with heap := h', toks := tk } → Q none { s with heap := h', toks := tk }) → wpAny (model B.prog B.w) A (pyNext (.ref I)) Q E s
  self : ∀ i (s : Shared) (Q : Value → Shared → Prop) E, It i s.heap → Q (.ref I) s → wpAny (model B.prog B.w) A (pyIter (.ref I)) Q E s
theorem Source.turn_toks {A : Around} {target : Expr} (Sr : Source B A target) {fr g σ} {s : Shared} {i v} {Q : Value → Shared → Prop} {R : Option Value → Shared → Prop} {E : Value → Shared → Prop} (ht : 1 ≤ s.toks) (hle : Sr.g₀.Le g) (r : Rep B fr g σ s) (ok : Sr.Ok σ.S) (hit : Sr.It i s.heap) (ap : Apart B fr g Sr.fp) (hv : Sr.all[i]? = some v)
    (hQ : ∀ g' h' tk x, g.Le g' → Rep B fr g' σ { s with heap := h', toks := tk } → Sr.It (i + 1) h' → Apart B fr g' Sr.fp → VR B.pw g' v x → 1 ≤ tk → Q x { s with heap := h', toks := tk })
    (hR : ∀ x s₁, wpAny (model B.prog B.w) A (letOwnedTupleGo target (.ref Sr.I) x) (fun _ s₂ => Q x s₂) E s₁ → R (some x) s₁) : wpAny (model B.prog B.w) A (pyNext (.ref Sr.I)) R E s := by
  refine wpAny_mono (wpAny_toks_of ht (Sr.turn fr g σ s i v (fun x s' => 1 ≤ s'.toks → Q x s') E hle r ok hit ap hv fun g' h' tk x l r' hit' ap' hx ht' => hQ g' h' tk x l r' hit' ap' hx ht')) (fun x s₁ ⟨h1, h2⟩ => ?_) fun _ _ h => h.2
  cases x with
  | none => exact h2.elim
  | some x => exact hR x s₁ (wpAny_with_toks h1 (wpAny_mono h2 (fun _ _ h => h) fun _ _ h _ => h))

/-- a value stored under a target -/
noncomputable def WA (X : Scene B) (t : Expr) (v : PV) (σ : AS) (K : AS → Prop) : Prop := ∀ g val, VR B.pw g v val → W X urel (assign t X.fr.env val) g σ fun _ σ' => K σ'
theorem wa_name {N : List (Str × Loc)} {x : Str} {p : Pos} {v : PV} {vs vs' : List (Option PV)} {S : List (List PV)} {K : AS → Prop} (hN : X.fr.N = N) (hx : Sx N vs x v vs') (h : K ⟨vs', S⟩) : WA X (.Name x p) v ⟨vs, S⟩ K := fun g val hv s Q E r ht c =>
  wpAny_assign_Name (w_storeName (σ := ⟨vs, S⟩) (hN ▸ hx) hv h s Q E r ht c)
theorem wa_two {N : List (Str × Loc)} {x y : Str} {p q pos : Pos} {k : Nat} {a b : At} {vs vs' vs'' : List (Option PV)} {S : List (List PV)} {K : AS → Prop} (hN : X.fr.N = N) (hx : Sx N vs x (.av a) vs') (hy : Sx N vs' y (.av b) vs'') (h : K ⟨vs'', S⟩) :
    WA X (.Tuple [.Name x p, .Name y q] k pos) (.tup [a, b]) ⟨vs, S⟩ K := fun g val hv s Q E r ht c => by
  obtain ⟨t, ws, n, rfl, ha, hw⟩ := hv.tup
  obtain ⟨u, w, rfl, ha1, hb1⟩ := all2_two hw
  refine assign_Tuple_tuple (items := #[u, w]) X.aok.handled ⟨_, r.r0.imm _ _ ha, rfl, n, rfl⟩ rfl rfl fun h' he => ?_
  have hk : ∀ b o, s.heap.get? b = some o → h'.get? b = some o := fun b o e => he b o (Nat.ne_of_lt (Heap.lt_size e)) e
  have r' : Rep B X.fr g ⟨vs, S⟩ { s with heap := h' } := r.keeps (tk := s.toks) hk
  show wpAny _ _ (assignInOrder [fun v => assign (.Name x p) X.fr.env v, fun v => assign (.Name y q) X.fr.env v] [u, w]) Q E _
  unfold assignInOrder
  refine wpAny_bind (wpAny_holding (wpAny_assign_Name (w_storeName (σ := ⟨vs, S⟩) (K := fun σ' => σ' = ⟨vs', S⟩) (hN ▸ hx) (.i (.av ha1)) rfl _ _ E r' ht fun g₁ s₁ _ _ σ₁ l₁ r₁ _ e₁ ht₁ => ?_)))
  subst e₁
  unfold assignInOrder
  refine wpAny_bind (wpAny_holding (wpAny_assign_Name (w_storeName (σ := ⟨vs', S⟩) (K := K) (hN ▸ hy) (.i (.av hb1)) h _ _ E r₁ ht₁ fun g₂ s₂ _ _ σ₂ l₂ r₂ _ e₂ ht₂ => ?_)))
  unfold assignInOrder
  exact wpAny_pure (c g₂ s₂ () () σ₂ (l₁.trans l₂) r₂ trivial e₂ ht₂)
theorem wa_three {N : List (Str × Loc)} {x y z : Str} {p q q' pos : Pos} {k : Nat} {a b d : At} {vs vs' vs'' vs₃ : List (Option PV)} {S : List (List PV)} {K : AS → Prop} (hN : X.fr.N = N) (hx : Sx N vs x (.av a) vs') (hy : Sx N vs' y (.av b) vs'') (hz : Sx N vs'' z (.av d) vs₃) (h : K ⟨vs₃, S⟩) :
    WA X (.Tuple [.Name x p, .Name y q, .Name z q'] k pos) (.tup [a, b, d]) ⟨vs, S⟩ K := fun g val hv s Q E r ht c => by
  obtain ⟨t, ws, n, rfl, ha, hw⟩ := hv.tup
  obtain ⟨u, w, w', rfl, ha1, hb1, hd1⟩ := all2_three hw
  refine assign_Tuple_tuple (items := #[u, w, w']) X.aok.handled ⟨_, r.r0.imm _ _ ha, rfl, n, rfl⟩ rfl rfl fun h' he => ?_
  have hk : ∀ b o, s.heap.get? b = some o → h'.get? b = some o := fun b o e => he b o (Nat.ne_of_lt (Heap.lt_size e)) e
  have r' : Rep B X.fr g ⟨vs, S⟩ { s with heap := h' } := r.keeps (tk := s.toks) hk
  show wpAny _ _ (assignInOrder [fun v => assign (.Name x p) X.fr.env v, fun v => assign (.Name y q) X.fr.env v, fun v => assign (.Name z q') X.fr.env v] [u, w, w']) Q E _
  unfold assignInOrder
  refine wpAny_bind (wpAny_holding (wpAny_assign_Name (w_storeName (σ := ⟨vs, S⟩) (K := fun σ' => σ' = ⟨vs', S⟩) (hN ▸ hx) (.i (.av ha1)) rfl _ _ E r' ht fun g₁ s₁ _ _ σ₁ l₁ r₁ _ e₁ ht₁ => ?_)))
  subst e₁
  unfold assignInOrder
  refine wpAny_bind (wpAny_holding (wpAny_assign_Name (w_storeName (σ := ⟨vs', S⟩) (K := fun σ' => σ' = ⟨vs'', S⟩) (hN ▸ hy) (.i (.av hb1)) rfl _ _ E r₁ ht₁ fun g₂ s₂ _ _ σ₂ l₂ r₂ _ e₂ ht₂ => ?_)))
  subst e₂
  unfold assignInOrder
  refine wpAny_bind (wpAny_holding (wpAny_assign_Name (w_storeName (σ := ⟨vs'', S⟩) (K := K) (hN ▸ hz) (.i (.av hd1)) h _ _ E r₂ ht₂ fun g₃ s₃ _ _ σ₃ l₃ r₃ _ e₃ ht₃ => ?_)))
  unfold assignInOrder
  exact wpAny_pure (c g₃ s₃ () () σ₃ ((l₁.trans l₂).trans l₃) r₃ trivial e₃ ht₃)

theorem forLoop_any {prog : Program} {w : World} {A : Around} {s : Shared} {R : Result → Shared → Prop} {target : Expr} {it : Value} {body : List Stmt} {env : Env} (I : Nat → Shared → Prop)
    (turn : ∀ n s, I n s → wpAny (model prog w) A (pyNext it) (fun r s₁ => match r with
      | none => R (.ok .next) s₁
      | some v => wpAny (model prog w) A (letOwnedTupleGo target it v) (fun _ s₂ => wpAny (model prog w) A (assign target env v) (fun _ s₃ => wpAny (model prog w) A (execs body env) (fun f s₄ => match f with
          | .next | .cont => ∃ m, m < n ∧ I m s₄
          | .brk => R (.ok .next) s₄
          | .ret v => R (.ok (.ret v)) s₄) (notedBy (model prog w) A env fun e s' => R (.error e) s') s₃) (notedBy (model prog w) A env fun e s' => R (.error e) s') s₂) (notedBy (model prog w) A env fun e s' => R (.error e) s') s₁)
      (notedBy (model prog w) A env fun e s' => R (.error e) s') s)
    (n : Nat) (h : I n s) : codeAny (model prog w) A (.forLoop target it body [] env) R s := by
  refine codeAny_loop' rfl I (fun n s hI => ?_) n h
  show wpAny _ A ((forTurn target it body [] env).onRaise (fun x => do noteFrame x env; theTreesLotGoes x)) _ _ s
  refine wpAny_noted ?_
  simp only [forTurn]
  refine wpAny_bind (wpAny_standAt (wpAny_bind (wpAny_onRaise (wpAny_mono (turn n s hI) (fun r s₁ h₁ => ?_) fun _ _ h' => wpAny_standAt h'))))
  cases r with
  | none => exact wpAny_pure (.inr ⟨rfl, codeAny_block (wpAny_execs_nil h₁)⟩)
  | some v =>
    refine wpAny_bind (wpAny_mono h₁ (fun _ s₂ h₂ => ?_) fun _ _ h' => h')
    refine wpAny_bind (wpAny_mono h₂ (fun _ s₃ h₃ => wpAny_bind (wpAny_mono h₃ (fun f s₄ h₄ => ?_) fun _ _ h' => h')) fun _ _ h' => h')
    cases f with
    | next => exact wpAny_pure (.inl ⟨rfl, h₄⟩)
    | cont => exact wpAny_pure (.inl ⟨rfl, h₄⟩)
    | brk => exact wpAny_pure h₄
    | ret v => exact wpAny_pure h₄

noncomputable def LoopK (X : Scene B) (target : Expr) (body : List Stmt) (Ok : List (List PV) → Prop) (K : Fl → AS → Prop) : List PV → AS → Prop
  | [], σ => Ok σ.S ∧ K .next σ
  | v :: r, σ => Ok σ.S ∧ WA X target v σ fun σ₁ => WS X body σ₁ fun fl σ₂ => match fl with
      | .next | .cont => LoopK X target body Ok K r σ₂
      | .brk => K .next σ₂
      | .ret v => K (.ret v) σ₂
theorem for_source {target : Expr} (Sr : Source B X.A target) {body : List Stmt} {g : Gh} {s : Shared} {Q : Flow → Shared → Prop} {E : Value → Shared → Prop} {K : Fl → AS → Prop}
    (hle : Sr.g₀.Le g) (r : Rep B X.fr g σ s) (ht : 1 ≤ s.toks) (hit : Sr.It 0 s.heap) (ap : Apart B X.fr g Sr.fp) (h : LoopK X target body Sr.Ok K Sr.all σ)
    (c : ∀ g' s' fl f σ', g.Le g' → Rep B X.fr g' σ' s' → FR B.pw g' fl f → K fl σ' → 1 ≤ s'.toks → Q f s') :
    codeAny (model B.prog B.w) X.A (.forLoop target (.ref Sr.I) body [] X.fr.env) (fun r s' => match r with | .ok f => Q f s' | .error e => cameBackBy (model B.prog B.w) X.A X.fr.env E e s') s := by
  refine forLoop_any (fun n s => 1 ≤ s.toks ∧ ∃ g' σ' i rest, g.Le g' ∧ Rep B X.fr g' σ' s ∧ Sr.It i s.heap ∧ Apart B X.fr g' Sr.fp ∧ Sr.all.drop i = rest ∧ i ≤ Sr.all.length ∧ LoopK X target body Sr.Ok K rest σ' ∧ n = Sr.all.length + 1 - i) ?_ (Sr.all.length + 1)
    ⟨ht, g, σ, 0, Sr.all, .refl g, r, hit, ap, rfl, Nat.zero_le _, h, rfl⟩
  rintro n s₁ ⟨ht₁, g₁, σ₁, i, rest, l₁, r₁, hit₁, ap₁, hr, hi, hK, rfl⟩
  cases rest with
  | nil =>
    have hi' : i = Sr.all.length := by
      have := congrArg List.length hr
      simp at this; omega
    subst hi'
    refine wpAny_with_toks (n := 1) ht₁ (Sr.done X.fr g₁ σ₁ s₁ _ _ (hle.trans l₁) r₁ hK.1 hit₁ ap₁ fun h' tk r₂ ht₂ => ?_)
    exact c g₁ _ .next .next σ₁ l₁ r₂ .next hK.2 ht₂
  | cons v rest =>
    have hlt : i < Sr.all.length := by
      have := congrArg List.length hr
      simp at this; omega
    have hv : Sr.all[i]? = some v := by rw [← List.head?_drop, hr]; rfl
    have hrest : Sr.all.drop (i + 1) = rest := by rw [← List.tail_drop, hr]; rfl
    refine Sr.turn_toks ht₁ (hle.trans l₁) r₁ hK.1 hit₁ ap₁ hv (Q := fun x s₂ => _) (fun g₂ h' tk x l₂ r₂ hit₂ ap₂ hx ht₂ => ?_) (fun x s₁ h => h)
    have ho := Sr.obj (i + 1) _ hit₂
    have r₃ := r₂.freeze ap₂
    have l₃ : g₂.Le (g₂.freeze h' Sr.fp) := Gh.le_freeze fun a ha => (ap₂ a ha).1
    refine hK.2 _ x hx.freeze _ _ _ r₃ ht₂ fun g₄ s₄ _ _ σ₄ l₄ r₄ _ hK₄ ht₄ => ?_
    refine hK₄ g₄ s₄ _ _ r₄ ht₄ fun g₅ s₅ fl f σ₅ l₅ r₅ hfl hK₅ ht₅ => ?_
    have l₄₅ := l₄.trans l₅
    have lt := l₂.trans (Gh.le_thaw (fun a ha => (ap₂ a ha).1) l₄₅)
    have rt : Rep B X.fr (g₅.thaw Sr.fp) σ₅ s₅ := r₅.thaw (fun a ha => (ap₂ a ha).2.2.2) (r₂.freeNe fun a ha => (ap₂ a ha).1)
    have step : LoopK X target body Sr.Ok K rest σ₅ → ∃ m, m < Sr.all.length + 1 - i ∧ 1 ≤ s₅.toks ∧ ∃ g' σ' i' rest, g.Le g' ∧ Rep B X.fr g' σ' s₅ ∧ Sr.It i' s₅.heap ∧ Apart B X.fr g' Sr.fp ∧ Sr.all.drop i' = rest ∧ i' ≤ Sr.all.length ∧ LoopK X target body Sr.Ok K rest σ' ∧ m = Sr.all.length + 1 - i' := fun hK' =>
      ⟨Sr.all.length + 1 - (i + 1), by omega, ht₅, g₅.thaw Sr.fp, σ₅, i + 1, rest, l₁.trans lt, rt, Sr.frame _ _ _ hit₂ (kept_after (s := { s₁ with heap := h', toks := tk }) l₄₅ r₅), Apart.after (s := { s₁ with heap := h', toks := tk }) ap₂ ho l₄₅ r₅, hrest, hlt, hK', rfl⟩
    cases hfl with
    | next => exact step hK₅
    | cont => exact step hK₅
    | brk => exact c _ s₅ .next .next σ₅ (l₁.trans lt) rt .next hK₅ ht₅
    | ret hv => exact c _ s₅ _ _ σ₅ (l₁.trans lt) rt (.ret hv.thaw) hK₅ ht₅

/-! a list -/
theorem Rep.extNew {fr : Frm} {g : Gh} {s : Shared} {I : Addr} {h' : Heap} {tk : Nat} (r : Rep B fr g σ s) (ap : Apart B fr g [I]) (he : Heap.ExtBut I s.heap h') : Rep B fr g σ { s with heap := h', toks := tk } := by
  have z := ap I List.mem_cons_self
  exact r.change (.refl g) (r.r0.ext z.1 z.2.1 he) fun a ha => ⟨fun o e => he a o (by rintro rfl; exact z.2.2.1 ha) e, (r.old ha).1, (r.old ha).2.1⟩
theorem wpAny_go_listiter {prog : Program} {w : World} {A : Around} {E : Value → Shared → Prop} {s : Shared} {target : Expr} {I l : Addr} {i : Nat} {v : Value} {Q : Unit → Shared → Prop} (hit : s.heap.IsListIter I l i) (hQ : Q () s) :
    wpAny (model prog w) A (letOwnedTupleGo target (.ref I) v) Q E s := by
  have key : ∀ es k pos, wpAny (model prog w) A (letOwnedTupleGo (.Tuple es k pos) (.ref I) v) Q E s := by
    intro es k pos
    cases v with
    | ref T => exact wpAny_letOwnedTupleGo_listiter hit hQ
    | _ => exact wpAny_pure hQ
  cases target with
  | Tuple es k pos => exact key es k pos
  | List es pos => exact key es 0 pos
  | _ => exact wpAny_pure hQ
noncomputable def listSource (A : Around) (hA : A.handled = none) (target : Expr) (I a : Addr) (k : Nat) (all : List PV) (g₀ : Gh) (hk : g₀.ls[k]? = some a) : Source B A target where
  I := I
  fp := [I]
  all := all
  g₀ := g₀
  It i h := h.IsListIter I a i
  Ok S := S[k]? = some all
  obj i h hit b hb := by rw [List.mem_singleton.mp hb]; obtain ⟨o, ho, _⟩ := hit; exact ⟨o, ho⟩
  frame i h h' hit hf := by obtain ⟨o, ho, q⟩ := hit; exact ⟨o, hf I List.mem_cons_self o ho, q⟩
  turn fr g σ s i v Q E l r hok hit ap hv hQ := by
    obtain ⟨ws, n, h2, h3⟩ := r.r0.at l hk hok
    obtain ⟨x, hx1, hx2⟩ := h3.get hv
    refine wpAny_pyNext_list_item (items := ws.toArray) hit ⟨_, h2, rfl, n, rfl⟩ ((List.getElem?_toArray ..).trans hx1) fun h' hit' hs => ?_
    exact wpAny_go_listiter hit' (hQ g h' s.toks x (.refl g) (r.extNew ap hs.extBut) hit' ap (.i hx2))
  done fr g σ s Q E l r hok hit ap hQ := by
    obtain ⟨ws, n, h2, h3⟩ := r.r0.at l hk hok
    refine wpAny_pyNext_list_end (items := ws.toArray) hA hit ⟨_, h2, rfl, n, rfl⟩ ((List.getElem?_toArray ..).trans (List.getElem?_eq_none (Nat.le_of_eq h3.length.symm))) fun h' he => ?_
    exact hQ h' s.toks (r.extNew ap he)
  self i s Q E hit hQ := wpAny_pyIter_listiter hit hQ
theorem Rep.apartGe {fr : Frm} {g : Gh} {s : Shared} {as : List Addr} (r : Rep B fr g σ s) (h : ∀ a ∈ as, s.heap.objs.size ≤ a) : Apart B fr g as := fun a ha => by
  have hn : s.heap.get? a = none := Heap.get?_none_of_le (h a ha)
  have no : ∀ {f : Addr → Option Obj}, (∀ o, f a = some o → s.heap.get? a = some o) → f a = none := fun {f} q => by
    cases e : f a with
    | none => rfl
    | some o => rw [q o e] at hn; cases hn
  refine ⟨⟨no fun o e => r.r0.imm _ _ e, no fun o e => r.r0.keep _ _ e⟩, fun hm => ?_, fun hm => ?_, no fun o e => r.r0.keep _ _ (r.r0.base _ _ e)⟩
  · obtain ⟨o, e⟩ := r.r0.lt hm; rw [e] at hn; cases hn
  · obtain ⟨_, _, o, e⟩ := r.old hm; rw [e] at hn; cases hn
theorem Rep.apartNew {fr : Frm} {g : Gh} {s : Shared} {o : Obj} {tk : Nat} (r : Rep B fr g σ s) : Apart B fr g [s.heap.objs.size] := r.apartGe fun a ha => Nat.le_of_eq (List.mem_singleton.mp ha).symm
theorem Rep.push {fr : Frm} {g : Gh} {s : Shared} {o : Obj} {tk : Nat} (r : Rep B fr g σ s) : Rep B fr g σ { s with heap := s.heap.push o, toks := tk } := r.keeps fun _ _ e => Heap.get?_push_of_some _ e

/-- for over a list of the store -/
theorem wx_for {target iter : Expr} {body : List Stmt} {pos : Pos} {K : Fl → AS → Prop}
    (h : WE X iter σ fun v σ₁ => ∃ k all, v = .lst k ∧ σ₁.S[k]? = some all ∧ LoopK X target body (fun S => S[k]? = some all) K all σ₁)
    (hs : ∀ env x, foldedSetIterable iter env x = pure x := by intro _ _; rfl) : WX X (.For target iter body [] pos) σ K := fun g s Q E r ht c =>
  wpAny_For (h g s _ E r ht fun g₁ s₁ v x σ₁ l₁ r₁ hv ⟨k, all, e, hS, hK⟩ ht₁ => by
    subst e
    obtain ⟨a, ws, n, rfl, hk, ha, hw⟩ := hv.list r₁.r0 hS
    refine wpAny_pyIter_list (items := ws.toArray) ⟨_, ha, rfl, n, rfl⟩ ?_
    have hin : ({ cls := .type "list_iterator", data := .fields #[.ref a, .int 0 0] } : Obj).isFreed = false := rfl
    refine for_source (listSource X.A X.aok.handled target s₁.heap.objs.size a k all g₁ hk) (.refl g₁) (r₁.push (tk := s₁.toks)) ht₁ ⟨_, Heap.get?_push_size _ hin, rfl, rfl⟩ (r₁.apartNew (o := default) (tk := 0)) hK ?_
    exact fun g' s' fl f σ' l r' => c g' s' fl f σ' (l₁.trans l) r') (hs _)
end
/-! UrnLoop2 -/
section
open PySem PyProof.Rows
variable {B : Base} {X : Scene B} {σ : AS}

theorem go_any {prog : Program} {w : World} {A : Around} {E : Value → Shared → Prop} {s : Shared} {target : Expr} {I : Addr} {o : Obj} {v : Value} {Q : Unit → Shared → Prop} (ho : s.heap.get? I = some o)
    (hc : ∀ n, o.cls = .type n → (["enumerate", "zip", "dict_itemiterator", "dict_reverseitemiterator", "odict_iterator", "itertools.zip_longest", "itertools.pairwise"].contains n) = false) (hQ : Q () s) :
    wpAny (model prog w) A (letOwnedTupleGo target (.ref I) v) Q E s := by
  have key : ∀ t : Expr, (∃ es k pos, t = .Tuple es k pos) ∨ (∃ es pos, t = .List es pos) → wpAny (model prog w) A (letOwnedTupleGo t (.ref I) v) Q E s := by
    intro t ht
    cases v with
    | ref T =>
      have e : letOwnedTupleGo t (.ref I) (.ref T) = (load I >>= fun o => match o.cls, o.data with
        | .type n, .fields vs =>
          if (["enumerate", "zip", "dict_itemiterator", "dict_reverseitemiterator", "odict_iterator", "itertools.zip_longest", "itertools.pairwise"].contains n && vs[0]? == some (rawInt T)) = true then
            (do rule "for.unpacks-the-owned-tuple"; updateField I 0 .none) else pure ()
        | _, _ => pure ()) := by
        rcases ht with ⟨es, k, pos, rfl⟩ | ⟨es, pos, rfl⟩ <;> rfl
      rw [e]
      refine wpAny_bind (wpAny_load ho ?_)
      obtain ⟨cls, d, dt, sl⟩ := o
      cases cls <;> first | exact wpAny_pure hQ | skip
      cases dt <;> first | exact wpAny_pure hQ | skip
      rename_i n vs
      have := hc n rfl
      dsimp only
      rw [this]
      exact wpAny_pure hQ
    | _ => rcases ht with ⟨es, k, pos, rfl⟩ | ⟨es, pos, rfl⟩ <;> exact wpAny_pure hQ
  cases target with
  | Tuple es k pos => exact key _ (.inl ⟨es, k, pos, rfl⟩)
  | List es pos => exact key _ (.inr ⟨es, pos, rfl⟩)
  | _ => exact wpAny_pure hQ

/-- a source whose iterator walks by itself and hands on immutable values -/
noncomputable def walkSource (A : Around) (target : Expr) (I : Addr) (all : List PV) (g₀ : Gh) (P : Nat → Value → Prop) (St : Nat → Heap → Prop) (W : Walks B.prog B.w A I [I] [I] all.length P St)
    (hP : ∀ i x v, P i x → all[i]? = some v → ∀ g, VR B.pw g v x)
    (ho : ∀ i h, St i h → ∃ o, h.get? I = some o ∧ ∀ n, o.cls = .type n → (["enumerate", "zip", "dict_itemiterator", "dict_reverseitemiterator", "odict_iterator", "itertools.zip_longest", "itertools.pairwise"].contains n) = false) : Source B A target where
  I := I
  fp := [I]
  all := all
  g₀ := g₀
  It := St
  Ok _ := True
  obj i h hit b hb := by rw [List.mem_singleton.mp hb]; obtain ⟨o, h1, _⟩ := ho i h hit; exact ⟨o, h1⟩
  frame i h h' hit hf := W.frame i h h' hit hf
  turn fr g σ s i v Q E l r hok hit ap hv hQ := by
    refine W.item i s _ E (List.getElem?_eq_some_iff.mp hv).1 hit fun x h' tk hx hst hk => ?_
    obtain ⟨o, h1, h2⟩ := ho (i + 1) _ hst
    exact go_any h1 h2 (hQ g h' tk x (.refl g) (r.extNew ap fun b o hb e => hk b o (by simpa using hb) e) hst ap (hP i x v hx hv g))
  done fr g σ s Q E l r hok hit ap hQ := W.done s Q E hit fun h' tk hk => hQ h' tk (r.extNew ap fun b o hb e => hk b o (by simpa using hb) e)
  self i s Q E hit hQ := W.self i s Q E hit hQ

noncomputable abbrev intsTo (n : Nat) : List PV := (List.range n).map fun (i : Nat) => PV.av (.int (i : Int))
/-- for over range(e) -/
theorem wx_for_range {target e : Expr} {body : List Stmt} {p pos ip : Pos} {G : List Str} {K : Fl → AS → Prop} (hG : X.fr.G = G) (hg : Str.ofString "range" ∈ G) (hm : B.mg "range" = none)
    (h : WE X e σ fun v σ₁ => ∃ n : Nat, v = .av (.int (n : Int)) ∧ n < 1000000 ∧ LoopK X target body (fun _ => True) K (intsTo n) σ₁)
    (he : ∀ env, starEach [e] env = [(false, eval e env)] := by intro _; rfl) (hp : ∀ env, (backTo ip (starEach [e] env)).any (·.1) = false := by intro _; rfl)
    (hs : ∀ env x, foldedSetIterable (.Call (.Name (Str.ofString "range") p) [e] [] ip) env x = pure x := by intro _ _; rfl) : WX X (.For target (.Call (.Name (Str.ofString "range") p) [e] [] ip) body [] pos) σ K := fun g s Q E r ht c => by
  obtain ⟨hd1, hd2⟩ := X.fok.glo (Str.ofString "range") (hG ▸ hg)
  refine wpAny_For (wpAny_Call_Name_kw (Calls.Name_function_global X.fok.kind hd2 (Calls.loadGlobal_builtin (mg := B.mg) (mb := B.mb) ?_ hm ?_ ((X.bok.mb _ (by decide)).trans boot_range) ?_) hd1)) (hs _)
  · rw [X.fok.globals]; exact X.bok.g.at' fun o e => r.r0.keep _ _ (r.r0.base _ _ e)
  · rw [X.fok.builtins]; exact X.bok.b.at' fun o e => r.r0.keep _ _ (r.r0.base _ _ e)
  refine PySem.callWith_type (hp _) ?_
  have hw : WL X ip [e] σ fun vs σ₁ => ∃ v, vs = [v] ∧ ∃ n : Nat, v = .av (.int (n : Int)) ∧ n < 1000000 ∧ LoopK X target body (fun _ => True) K (intsTo n) σ₁ :=
    wl_cons (fun g => (h g).mono fun v σ' hv => wl_nil ⟨v, rfl, hv⟩) (by intro env; rw [he]; rfl)
  refine evalArgs_of hw r ht (fun g₁ s₁ vs xs σ₁ l₁ r₁ hv ⟨v, e1, n, e2, hn, hK⟩ ht₁ => ?_) (by intro env; rw [he]; rfl)
  subst e1 e2
  obtain ⟨x, rfl, hx⟩ := all2_one hv
  obtain ⟨t, rfl⟩ := hx.int
  refine call_range_1 ?_
  have r₂ : Rep B X.fr g₁ σ₁ { s₁ with heap := s₁.heap.push { cls := .type "range", data := .fields #[.int 0 s₁.toks, .int n t, .int 1 (s₁.toks + 1)] }, toks := s₁.toks + 1 + 1 } := r₁.push
  refine wpAny_pyIter_range (IsRange.new ..) (small_one (by lia) (by lia) (by lia) (by lia)) ?_
  have hsz : Builtin.Range.rangeSize 0 (n : Int) 1 = ((n : Nat) : Int) := by rw [rangeSize_one]; split <;> lia
  have W := (Walks.range (prog := B.prog) (w := B.w) X.aok.handled (s₁.heap.push { cls := .type "range", data := .fields #[.int 0 s₁.toks, .int n t, .int 1 (s₁.toks + 1)] }).objs.size 0 1 n)
  have hl : (intsTo n).length = n := by simp
  refine for_source (walkSource X.A target _ (intsTo n) g₁ _ _ (by rw [hl]; exact W) ?_ ?_) (.refl g₁) (r₂.push (tk := s₁.toks + 1 + 1)) (Nat.le_succ_of_le (Nat.le_succ_of_le ht₁)) ?_ (r₂.apartNew (o := default) (tk := 0)) hK ?_
  · rintro i x v ⟨t, rfl⟩ hv g
    simp only [intsTo, List.getElem?_map] at hv
    obtain ⟨j, hj, rfl⟩ := Option.map_eq_some_iff.mp hv
    have : j = i := by
      have := (List.getElem?_eq_some_iff.mp hj).2
      simpa using this.symm
    subst this
    rw [show (0 : Int) + (j : Nat) * 1 = (j : Int) by lia]
    exact vint ..
  · intro i h hst
    exact ⟨_, hst, fun m e => by cases e; decide⟩
  · show IsRangeIter _ _ _ _ _
    rw [hsz, show (0 : Int) + ((0 : Nat) : Int) * 1 = 0 by lia, show ((n : Int) - ((0 : Nat) : Int)) = n by lia]
    exact Heap.get?_push_size _ rfl
  · exact fun g' s' fl f σ' l r' => c g' s' fl f σ' (l₁.trans l) r'
end
/-! UrnComp -/
section
open PySem PyProof.Rows
variable {B : Base} {X : Scene B} {σ : AS}

noncomputable def closeL (env : Env) : List (Str × NameKind) → List (Str × Addr) → List (Str × Addr)
  | [], acc => acc
  | (n, k) :: r, acc => if (k == NameKind.free) = true then closeL env r ((n, (env.cells.lookup n).getD 0) :: acc) else closeL env r acc
theorem closureFor_eq {scope : Scope} {env : Env} (h : ∀ n, (n, NameKind.free) ∈ scope.names → (env.cells.lookup n).isSome = true) : closureFor scope env = pure (closeL env scope.names []) := by
  unfold closureFor
  have key : ∀ (names : List (Str × NameKind)) (acc : List (Str × Addr)), (∀ n, (n, NameKind.free) ∈ names → (env.cells.lookup n).isSome = true) →
      (forIn names acc fun x (cs : List (Str × Addr)) => (match x with | (name, kind) => if (kind == NameKind.free) = true then (do let c ← cellOf env name; pure (ForInStep.yield ((name, c) :: cs))) else pure (ForInStep.yield cs) : Sem (ForInStep (List (Str × Addr))))) = pure (closeL env names acc) := by
    intro names
    induction names with
    | nil => intro acc _; rfl
    | cons x r ih =>
      intro acc hn
      obtain ⟨n, k⟩ := x
      have hr := fun m hm => hn m (List.mem_cons_of_mem _ hm)
      rw [List.forIn_cons]
      unfold closeL
      dsimp only
      cases hk : (k == NameKind.free) with
      | false =>
        simp only [Bool.false_eq_true, if_false, pure_bind]
        exact ih acc hr
      | true =>
        have hf : k = .free := by simpa using hk
        obtain ⟨c, hc⟩ := Option.isSome_iff_exists.mp (hn n (by rw [← hf]; exact List.mem_cons_self))
        have e : cellOf env n = pure c := by unfold cellOf; rw [hc]
        simp only [if_true, e, pure_bind, hc, Option.getD_some]
        exact ih _ hr
  have := key scope.names [] h
  refine Eq.trans ?_ (congrArg (· >>= pure) this)
  rfl

/-- the scope that a comprehension runs in -/
noncomputable def compScope (scope : Scope) (env : Env) : Scope := { scope with names := scope.names.map fun (n, k) => if (k == NameKind.free && env.scope.kind == .function && env.kindOf n == some .cell) = true then (n, .cell) else (n, k) }

section
variable {M : Model} {A : Around} {E : Value → Shared → Prop} {s : Shared} {env : Env}
theorem wpAny_compr {e : Expr} {scope : Scope} {pos : Pos} {newAcc first : Sem Value} {g : Comprehension} {gs : List Comprehension} {Q : Value → Shared → Prop}
    (hcl : clausesOf e = g :: gs) (hs : ∀ x, foldedSetIterable g.iter env x = pure x)
    (hfree : ∀ n, (n, NameKind.free) ∈ scope.names → (env.cells.lookup n).isSome = true) (hkind : scope.kind = .function) (hnames : ∀ x ∈ scope.names, x.2 = .local → (compScope scope env).names.lookup x.1 = some .local)
    (h : wpAny M A first (fun x s₁ => wpAny M A (pyIter x) (fun it s₂ => wpAny M A newAcc (fun acc s₃ =>
      wpAny M A (newFunctionEnv scope env.globals (closeL env scope.names []) [] env.qual none .none (some env)) (fun cenv s₄ =>
        codeAny M A (.compStart e 0 it acc { cenv with scope := compScope scope env }) (fun r s' => ∃ m, s'.heap.Ns cenv.locals m ∧ ∀ h', Heap.SameBut cenv.locals s'.heap h' →
          match r with | .ok _ => Q acc { s' with heap := h' } | .error _ => False) s₄) E s₃) E s₂) E s₁) E s) :
    wpAny M A (comprehension e scope env pos newAcc false first) Q E s := by
  unfold comprehension
  rw [closureFor_eq hfree, hcl]
  refine wpAny_bind (wpAny_mono h (fun x s₁ h₁ => wpAny_bind (wpAny_standAt (wpAny_bind (wpAny_of_eq (hs x) (wpAny_bind (wpAny_holding (wpAny_mono h₁ (fun it s₂ h₂ =>
    wpAny_standIf (wpAny_bind (wpAny_mono h₂ (fun acc s₃ h₃ => wpAny_bind (wpAny_pure (wpAny_bind (wpAny_mono h₃ (fun cenv s₄ h₄ => ?_) fun _ _ h' => h')))) fun _ _ h' => h')))
      fun _ _ h' => h'))))))) fun _ _ h' => h')
  dsimp only
  have hv : ∀ x ∈ (scope.names.filter fun x => (x.2 == .local || x.2 == .cell) && x.1 != (".0" : Str)).reverse, x.2 = .local →
      Env.kindOf { cenv with scope := compScope scope env } x.1 = some .local := fun x hx hl => hnames x (List.mem_filter.mp (List.mem_reverse.mp hx)).1 hl
  refine wpAny_holding (wpAny_bind (wpAny_attempt (wpAny_holding (wpAny_run (codeAny_mono h₄ fun r s' hr => ?_)))))
  obtain ⟨m, hn, hr⟩ := hr
  cases r with
  | ok f => exact wpAny_bind (wpAny_holding (wpAny_comp_letGo (cenv := { cenv with scope := compScope scope env }) hkind _ s' m hv hn fun h' m' _ hs' => wpAny_pure (hr h' hs')))
  | error x => exact (hr _ (Heap.SameBut.refl ..)).elim

theorem wpAny_compr_use {e : Expr} {scope : Scope} {pos : Pos} {newAcc first : Sem Value} {g : Comprehension} {gs : List Comprehension} {u : Value → Sem Unit} {Q : Value → Shared → Prop}
    (hcl : clausesOf e = g :: gs) (hs : ∀ x, foldedSetIterable g.iter env x = pure x)
    (hfree : ∀ n, (n, NameKind.free) ∈ scope.names → (env.cells.lookup n).isSome = true) (hkind : scope.kind = .function) (hnames : ∀ x ∈ scope.names, x.2 = .local → (compScope scope env).names.lookup x.1 = some .local)
    (h : wpAny M A first (fun x s₁ => wpAny M A (pyIter x) (fun it s₂ => wpAny M A newAcc (fun acc s₃ =>
      wpAny M A (newFunctionEnv scope env.globals (closeL env scope.names []) [] env.qual none .none (some env)) (fun cenv s₄ =>
        codeAny M A (.compStart e 0 it acc { cenv with scope := compScope scope env }) (fun r s' => match r with
          | .ok _ => wpAny M A (u acc) (fun _ s'' => ∃ m, s''.heap.Ns cenv.locals m ∧ ∀ h', Heap.SameBut cenv.locals s''.heap h' → Q .none { s'' with heap := h' }) E s'
          | .error _ => False) s₄) E s₃) E s₂) E s₁) E s) :
    wpAny M A (comprehension e scope env pos newAcc false first (some u)) Q E s := by
  unfold comprehension
  rw [closureFor_eq hfree, hcl]
  refine wpAny_bind (wpAny_mono h (fun x s₁ h₁ => wpAny_bind (wpAny_standAt (wpAny_bind (wpAny_of_eq (hs x) (wpAny_bind (wpAny_holding (wpAny_mono h₁ (fun it s₂ h₂ =>
    wpAny_standIf (wpAny_bind (wpAny_mono h₂ (fun acc s₃ h₃ => wpAny_bind (wpAny_pure (wpAny_bind (wpAny_mono h₃ (fun cenv s₄ h₄ => ?_) fun _ _ h' => h')))) fun _ _ h' => h')))
      fun _ _ h' => h'))))))) fun _ _ h' => h')
  dsimp only
  have hv : ∀ x ∈ (scope.names.filter fun x => (x.2 == .local || x.2 == .cell) && x.1 != (".0" : Str)).reverse, x.2 = .local →
      Env.kindOf { cenv with scope := compScope scope env } x.1 = some .local := fun x hx hl => hnames x (List.mem_filter.mp (List.mem_reverse.mp hx)).1 hl
  have hv' : ∀ x ∈ (scope.names.filter fun x => (x.2 == .local || x.2 == .cell) && x.1 != (".0" : Str)).reverse.drop 1 ++ (scope.names.filter fun x => (x.2 == .local || x.2 == .cell) && x.1 != (".0" : Str)).reverse.take 1,
      x.2 = .local → Env.kindOf { cenv with scope := compScope scope env } x.1 = some .local := fun x hx hl => by
    rcases List.mem_append.mp hx with h1 | h1
    · exact hv x (List.mem_of_mem_drop h1) hl
    · exact hv x (List.mem_of_mem_take h1) hl
  refine wpAny_holding (wpAny_bind (wpAny_attempt (wpAny_holding (wpAny_run (codeAny_mono h₄ fun r s' hr => ?_)))))
  cases r with
  | ok f =>
    refine wpAny_bind (wpAny_rule (wpAny_bind (wpAny_holding (wpAny_mono hr (fun _ s'' hr' => ?_) fun _ _ h' => h'))))
    obtain ⟨m, hn, hr'⟩ := hr'
    exact wpAny_bind (wpAny_comp_letGo (cenv := { cenv with scope := compScope scope env }) hkind _ s'' m hv' hn fun h' m' _ hs' => wpAny_pure (hr' h' hs'))
  | error x => exact hr.elim
end
end
/-! UrnComp2 -/
section
open PySem PyProof.Rows
variable {B : Base} {X : Scene B} {σ : AS}

noncomputable def turnTree (target iter : Expr) (ifs : List Expr) (it : Value) (env : Env) (M : Sem Unit) (c : Code) : Sem Fin := do
  standAt iter.pos
  match ← pyNext it with
  | none => pure (.done .next)
  | some v =>
    letOwnedTupleGo target it v
    assign target env v
    let mut ok := true
    for c in ifs do
      if ok then ok ← isTrue c env (eval c env)
    if ok then M
    again c
noncomputable def emitTree (elt : Expr) (env : Env) (acc : Value) : Sem Unit := do let _ ← call (.builtin "list.append") [acc, ← eval elt env]
theorem turn_one (elt target iter : Expr) (ifs : List Expr) (scope : Scope) (pos : Pos) (it acc : Value) (env : Env) :
    compTurn (.ListComp elt [⟨target, iter, ifs, 0⟩] scope pos) 0 it acc env = turnTree target iter ifs it env (emitTree elt env acc) (.compLoop (.ListComp elt [⟨target, iter, ifs, 0⟩] scope pos) 0 it acc env) := by rfl
theorem turn_two (elt target iter t₂ i₂ : Expr) (ifs ifs₂ : List Expr) (scope : Scope) (pos : Pos) (it acc : Value) (env : Env) :
    compTurn (.ListComp elt [⟨target, iter, ifs, 0⟩, ⟨t₂, i₂, ifs₂, 0⟩] scope pos) 1 it acc env = turnTree t₂ i₂ ifs₂ it env (emitTree elt env acc) (.compLoop (.ListComp elt [⟨target, iter, ifs, 0⟩, ⟨t₂, i₂, ifs₂, 0⟩] scope pos) 1 it acc env) := by rfl
theorem turn_head (elt target iter t₂ i₂ : Expr) (ifs ifs₂ : List Expr) (scope : Scope) (pos : Pos) (it acc : Value) (env : Env) :
    compTurn (.ListComp elt [⟨target, iter, ifs, 0⟩, ⟨t₂, i₂, ifs₂, 0⟩] scope pos) 0 it acc env = turnTree target iter ifs it env (do
      let x ← eval i₂ env
      standAt i₂.pos
      let x ← foldedSetIterable i₂ env x
      let _ ← runOwn (.compStart (.ListComp elt [⟨target, iter, ifs, 0⟩, ⟨t₂, i₂, ifs₂, 0⟩] scope pos) 1 (← holding [x] (pyIter x)) acc env) env) (.compLoop (.ListComp elt [⟨target, iter, ifs, 0⟩, ⟨t₂, i₂, ifs₂, 0⟩] scope pos) 0 it acc env) := by
  unfold turnTree
  simp only [bind_assoc, pure_bind]
  rfl

theorem codeAny_turn {prog : Program} {w : World} {A : Around} {R : Result → Shared → Prop} {s : Shared} {elt target iter : Expr} {gens : List Comprehension} {d : Nat} {ifs : List Expr} {scope : Scope} {pos : Pos} {it acc : Value} {env : Env} {M : Sem Unit}
    (heq : compTurn (.ListComp elt gens scope pos) d it acc env = turnTree target iter ifs it env M (.compLoop (.ListComp elt gens scope pos) d it acc env)) (I : Nat → Shared → Prop)
    (turn : ∀ n s, I n s → wpAny (model prog w) A (pyNext it) (fun r s₁ => match r with
      | none => R (.ok .next) s₁
      | some v => wpAny (model prog w) A (letOwnedTupleGo target it v) (fun _ s₁' => wpAny (model prog w) A (assign target env v) (fun _ s₂ =>
          wpAny (model prog w) A (forIn ifs true fun c r => if r = true then do let ok ← isTrue c env (eval c env); pure (ForInStep.yield ok) else pure (ForInStep.yield r)) (fun ok s₃ =>
            if ok = true then wpAny (model prog w) A M (fun _ s₅ => ∃ m, m < n ∧ I m s₅) (notedBy (model prog w) A env fun e s' => R (.error e) s') s₃
            else ∃ m, m < n ∧ I m s₃) (notedBy (model prog w) A env fun e s' => R (.error e) s') s₂) (notedBy (model prog w) A env fun e s' => R (.error e) s') s₁') (notedBy (model prog w) A env fun e s' => R (.error e) s') s₁) (notedBy (model prog w) A env fun e s' => R (.error e) s') s)
    (n : Nat) (h : I n s) : codeAny (model prog w) A (.compLoop (.ListComp elt gens scope pos) d it acc env) R s := by
  refine codeAny_loop rfl I (fun n s hI => ?_) n h
  show wpAny _ A ((compTurn (.ListComp elt gens scope pos) d it acc env).onRaise (fun x => do noteFrame x env; theTreesLotGoes x)) _ _ s
  refine wpAny_noted ?_
  rw [heq]
  refine wpAny_bind (wpAny_standAt (wpAny_bind (wpAny_mono (turn n s hI) (fun r s₁ h₁ => ?_) fun _ _ h' => h')))
  cases r with
  | none => exact wpAny_pure h₁
  | some v =>
    refine wpAny_bind (wpAny_mono h₁ (fun _ s₁' h₁' => ?_) fun _ _ h' => h')
    refine wpAny_bind (wpAny_mono h₁' (fun _ s₂ h₂ => wpAny_bind (wpAny_mono h₂ (fun ok s₃ h₃ => ?_) fun _ _ h' => h')) fun _ _ h' => h')
    cases ok with
    | false => exact wpAny_pure ⟨rfl, h₃⟩
    | true => exact wpAny_bind (wpAny_mono h₃ (fun _ s₅ h₅ => wpAny_pure ⟨rfl, h₅⟩) fun _ _ h' => h')

noncomputable def IfsK (X : Scene B) : List Expr → AS → (Bool → AS → Prop) → Prop
  | [], σ, K => K true σ
  | [c], σ, K => WT X c σ K
  | _, _, _ => False
noncomputable def TurnsK (X : Scene B) (target : Expr) (ifs : List Expr) (inner : AS → (AS → Prop) → Prop) (Ok : List (List PV) → Prop) (K : AS → Prop) : List PV → AS → Prop
  | [], σ => Ok σ.S ∧ K σ
  | v :: r, σ => Ok σ.S ∧ WA X target v σ fun σ₁ => IfsK X ifs σ₁ fun b σ₂ => (b = true → inner σ₂ fun σ₃ => TurnsK X target ifs inner Ok K r σ₃) ∧ (b = false → TurnsK X target ifs inner Ok K r σ₂)
noncomputable def EmitK (X : Scene B) (elt : Expr) (k : Nat) (σ : AS) (K : AS → Prop) : Prop := WE X elt σ fun v σ₁ => isIt v = true ∧ ∃ xs, σ₁.S[k]? = some xs ∧ xs.length < 1000000 ∧ K ⟨σ₁.vs, σ₁.S.set k (xs ++ [v])⟩
noncomputable def InnerOf (X : Scene B) (g₀ : Gh) (inner : AS → (AS → Prop) → Prop) (M : Sem Unit) : Prop := ∀ g σ s K Q E, g₀.Le g → inner σ K → Rep B X.fr g σ s → 1 ≤ s.toks →
  (∀ g' s' σ', g.Le g' → Rep B X.fr g' σ' s' → K σ' → 1 ≤ s'.toks → Q () s') → wpAny (model B.prog B.w) X.A M Q E s

theorem ifs_of {ifs : List Expr} {g : Gh} {s : Shared} {K : Bool → AS → Prop} {Q : Bool → Shared → Prop} {E : Value → Shared → Prop} (r : Rep B X.fr g σ s) (ht : 1 ≤ s.toks) (h : IfsK X ifs σ K) (c : ∀ g' s' b σ', g.Le g' → Rep B X.fr g' σ' s' → K b σ' → 1 ≤ s'.toks → Q b s') :
    wpAny (model B.prog B.w) X.A (forIn ifs true fun c r => if r = true then do let ok ← isTrue c X.fr.env (eval c X.fr.env); pure (ForInStep.yield ok) else pure (ForInStep.yield r)) Q E s := by
  match ifs, h with
  | [], h => exact wpAny_tests_nil (c g s true σ (.refl g) r h ht)
  | [e], h => exact wpAny_tests_one (h g s Q E r ht fun g' s' b a σ' l r' hr hK ht' => by cases hr; exact c g' s' b σ' l r' hK ht')

theorem emit_inner {elt : Expr} {k : Nat} {a : Addr} {g₀ : Gh} (hk : g₀.ls[k]? = some a) : InnerOf X g₀ (EmitK X elt k) (emitTree elt X.fr.env (.ref a)) := fun g σ s K Q E l h r ht c => by
  refine wpAny_bind (h g s _ E r ht fun g₁ s₁ v x σ₁ l₁ r₁ hv ⟨hi, xs, hS, hn, hK⟩ ht₁ => ?_)
  obtain ⟨q, hq⟩ := (l.trans l₁).ls
  have hl : VR B.pw g₁ (.lst k) (.ref a) := .lst (by rw [hq, List.getElem?_append_left (List.getElem?_eq_some_iff.mp hk).1]; exact hk)
  obtain ⟨vs₁, S₁⟩ := σ₁
  exact wpAny_bind (bc_append (X := X) (K := fun _ σ' => K σ') hS hn hi hK g₁ _ (.cons hl (.cons hv .nil)) s₁ _ E r₁ ht₁ fun g₂ s₂ b a σ₂ l₂ r₂ _ hK₂ ht₂ => wpAny_pure (c g₂ s₂ σ₂ (l₁.trans l₂) r₂ hK₂ ht₂))

theorem loop_source {elt target iter : Expr} {gens : List Comprehension} {d : Nat} {ifs : List Expr} {scope : Scope} {pos : Pos} {acc : Value} {M : Sem Unit} (Sr : Source B X.A target)
    (heq : compTurn (.ListComp elt gens scope pos) d (.ref Sr.I) acc X.fr.env = turnTree target iter ifs (.ref Sr.I) X.fr.env M (.compLoop (.ListComp elt gens scope pos) d (.ref Sr.I) acc X.fr.env))
    {inner : AS → (AS → Prop) → Prop} {g : Gh} (hin : InnerOf X g inner M) {s : Shared} {R : Result → Shared → Prop} {K : AS → Prop}
    (hle : Sr.g₀.Le g) (r : Rep B X.fr g σ s) (ht : 1 ≤ s.toks) (hit : Sr.It 0 s.heap) (ap : Apart B X.fr g Sr.fp) (h : TurnsK X target ifs inner Sr.Ok K Sr.all σ)
    (c : ∀ g' s' σ', g.Le g' → Rep B X.fr g' σ' s' → K σ' → 1 ≤ s'.toks → R (.ok .next) s') : codeAny (model B.prog B.w) X.A (.compLoop (.ListComp elt gens scope pos) d (.ref Sr.I) acc X.fr.env) R s := by
  refine codeAny_turn heq (fun n s => 1 ≤ s.toks ∧ ∃ g' σ' i rest, g.Le g' ∧ Rep B X.fr g' σ' s ∧ Sr.It i s.heap ∧ Apart B X.fr g' Sr.fp ∧ Sr.all.drop i = rest ∧ i ≤ Sr.all.length ∧ TurnsK X target ifs inner Sr.Ok K rest σ' ∧ n = Sr.all.length + 1 - i) ?_ (Sr.all.length + 1)
    ⟨ht, g, σ, 0, Sr.all, .refl g, r, hit, ap, rfl, Nat.zero_le _, h, rfl⟩
  rintro n s₁ ⟨ht₁, g₁, σ₁, i, rest, l₁, r₁, hit₁, ap₁, hr, hi, hK, rfl⟩
  cases rest with
  | nil =>
    have hi' : i = Sr.all.length := by
      have := congrArg List.length hr
      simp at this; lia
    subst hi'
    refine wpAny_with_toks (n := 1) ht₁ (Sr.done X.fr g₁ σ₁ s₁ _ _ (hle.trans l₁) r₁ hK.1 hit₁ ap₁ fun h' tk r₂ ht₂ => ?_)
    exact c g₁ _ σ₁ l₁ r₂ hK.2 ht₂
  | cons v rest =>
    have hlt : i < Sr.all.length := by
      have := congrArg List.length hr
      simp at this; lia
    have hv : Sr.all[i]? = some v := by rw [← List.head?_drop, hr]; rfl
    have hrest : Sr.all.drop (i + 1) = rest := by rw [← List.tail_drop, hr]; rfl
    refine Sr.turn_toks ht₁ (hle.trans l₁) r₁ hK.1 hit₁ ap₁ hv (Q := fun x s₂ => _) (fun g₂ h' tk x l₂ r₂ hit₂ ap₂ hx ht₂ => ?_) (fun x s₁ h => h)
    have ho := Sr.obj (i + 1) _ hit₂
    have r₃ := r₂.freeze ap₂
    have l₃ : g₂.Le (g₂.freeze h' Sr.fp) := Gh.le_freeze fun a ha => (ap₂ a ha).1
    refine hK.2 _ x hx.freeze _ _ _ r₃ ht₂ fun g₄ s₄ _ _ σ₄ l₄ r₄ _ hK₄ ht₄ => ?_
    have step : ∀ {g₅ s₅ σ₅}, g₄.Le g₅ → Rep B X.fr g₅ σ₅ s₅ → 1 ≤ s₅.toks → TurnsK X target ifs inner Sr.Ok K rest σ₅ → ∃ m, m < Sr.all.length + 1 - i ∧ 1 ≤ s₅.toks ∧ ∃ g' σ' i' rest, g.Le g' ∧ Rep B X.fr g' σ' s₅ ∧ Sr.It i' s₅.heap ∧ Apart B X.fr g' Sr.fp ∧ Sr.all.drop i' = rest ∧ i' ≤ Sr.all.length ∧ TurnsK X target ifs inner Sr.Ok K rest σ' ∧ m = Sr.all.length + 1 - i' := by
      intro g₅ s₅ σ₅ l₅ r₅ ht₅ hK'
      have l₄₅ := l₄.trans l₅
      have lt := l₂.trans (Gh.le_thaw (fun a ha => (ap₂ a ha).1) l₄₅)
      have rt : Rep B X.fr (g₅.thaw Sr.fp) σ₅ s₅ := r₅.thaw (fun a ha => (ap₂ a ha).2.2.2) (r₂.freeNe fun a ha => (ap₂ a ha).1)
      exact ⟨Sr.all.length + 1 - (i + 1), by lia, ht₅, g₅.thaw Sr.fp, σ₅, i + 1, rest, l₁.trans lt, rt, Sr.frame _ _ _ hit₂ (kept_after (s := { s₁ with heap := h', toks := tk }) l₄₅ r₅), Apart.after (s := { s₁ with heap := h', toks := tk }) ap₂ ho l₄₅ r₅, hrest, hlt, hK', rfl⟩
    refine ifs_of r₄ ht₄ hK₄ fun g₅ s₅ b σ₅ l₅ r₅ hK₅ ht₅ => ?_
    cases b with
    | false => exact step l₅ r₅ ht₅ (hK₅.2 rfl)
    | true =>
      refine hin g₅ σ₅ s₅ _ _ _ ((l₁.trans l₂).trans ((l₃.trans l₄).trans l₅)) (hK₅.1 rfl) r₅ ht₅ fun g₆ s₆ σ₆ l₆ r₆ hK₆ ht₆ => ?_
      exact step (l₅.trans l₆) r₆ ht₆ hK₆

/-- the second clause of a comprehension, over a list of the store -/
noncomputable def SecondK (X : Scene B) (elt t₂ i₂ : Expr) (ifs₂ : List Expr) (k : Nat) (σ : AS) (K : AS → Prop) : Prop :=
  WE X i₂ σ fun v σ₁ => ∃ j all, v = .lst j ∧ σ₁.S[j]? = some all ∧ TurnsK X t₂ ifs₂ (EmitK X elt k) (fun S => S[j]? = some all) K all σ₁
theorem second_inner {elt target iter t₂ i₂ : Expr} {ifs ifs₂ : List Expr} {scope : Scope} {pos : Pos} {k : Nat} {a : Addr} {g₀ : Gh} (hk : g₀.ls[k]? = some a) (hs : ∀ env x, foldedSetIterable i₂ env x = pure x) :
    InnerOf X g₀ (SecondK X elt t₂ i₂ ifs₂ k) (do
      let x ← eval i₂ X.fr.env
      standAt i₂.pos
      let x ← foldedSetIterable i₂ X.fr.env x
      let _ ← runOwn (.compStart (.ListComp elt [⟨target, iter, ifs, 0⟩, ⟨t₂, i₂, ifs₂, 0⟩] scope pos) 1 (← holding [x] (pyIter x)) (.ref a) X.fr.env) X.fr.env) := fun g σ s K Q E l h r ht c => by
  refine wpAny_bind (h g s _ E r ht fun g₁ s₁ v x σ₁ l₁ r₁ hv ⟨j, all, e, hS, hK⟩ ht₁ => ?_)
  subst e
  refine wpAny_bind (wpAny_standAt (wpAny_bind (wpAny_of_eq (hs _ _) ?_)))
  obtain ⟨b, ws, n, rfl, hj, hb, hw⟩ := hv.list r₁.r0 hS
  refine wpAny_bind (wpAny_holding (wpAny_pyIter_list (items := ws.toArray) ⟨_, hb, rfl, n, rfl⟩ ?_))
  have hin : ({ cls := .type "list_iterator", data := .fields #[.ref b, .int 0 0] } : Obj).isFreed = false := rfl
  refine wpAny_bind (wpAny_runOwn ?_)
  rw [Around.mark_none]
  have lp : ∀ s₂ : Shared, s₂ = { s₁ with heap := s₁.heap.push { cls := .type "list_iterator", data := .fields #[.ref b, .int 0 0] } } → codeAny (model B.prog B.w) X.A (.compLoop (.ListComp elt [⟨target, iter, ifs, 0⟩, ⟨t₂, i₂, ifs₂, 0⟩] scope pos) 1 (.ref s₁.heap.objs.size) (.ref a) X.fr.env)
      (fun r s' => match r with | .ok f => (fun _ s' => wpAny (model B.prog B.w) X.A (pure ()) Q E s') f s' | .error e => cameBackBy (model B.prog B.w) X.A X.fr.env E e s') s₂ := by
    rintro s₂ rfl
    refine loop_source (listSource X.A X.aok.handled t₂ s₁.heap.objs.size b j all g₁ hj) (turn_two ..) (g := g₁) (emit_inner ?_) (.refl g₁) (r₁.push (tk := s₁.toks)) ht₁ ⟨_, Heap.get?_push_size _ hin, rfl, rfl⟩ (r₁.apartNew (o := default) (tk := 0)) hK ?_
    · obtain ⟨q, hq⟩ := (l.trans l₁).ls
      rw [hq, List.getElem?_append_left (List.getElem?_eq_some_iff.mp hk).1]; exact hk
    · exact fun g' s' σ' l' r' hK' ht' => wpAny_pure (c g' s' σ' (l₁.trans l') r' hK' ht')
  refine codeAny_of_tree ?_
  show wpAny _ _ ((compStart (.ListComp elt [⟨target, iter, ifs, 0⟩, ⟨t₂, i₂, ifs₂, 0⟩] scope pos) 1 (.ref s₁.heap.objs.size) (.ref a) X.fr.env).onRaise (fun x => do noteFrame x X.fr.env; standAt theWindowsPlace)) _ _ _
  refine wpAny_notedAt ?_
  unfold compStart
  show wpAny _ _ (ask >>= _) _ _ _
  refine wpAny_bind (wpAny_askSetting (wpAny_ite ?_))
  have hit : Heap.IsListIter (s₁.heap.push { cls := .type "list_iterator", data := .fields #[.ref b, .int 0 0] }) s₁.heap.objs.size b 0 := ⟨_, Heap.get?_push_size _ hin, rfl, rfl⟩
  split
  · first
      | exact wpAny_bind (wpAny_pure (wpAny_pure (And.intro rfl (lp _ rfl))))
      | exact wpAny_pure (And.intro rfl (lp _ rfl))
  · first
      | exact wpAny_bind (wpAny_rule (wpAny_bind (wpAny_standAt (wpAny_bind (wpAny_pyIter_listiter hit (wpAny_pure (And.intro rfl (lp _ rfl))))))))
      | (refine wpAny_bind (wpAny_rule ?_); show wpAny _ _ (standAt i₂.pos >>= _) _ _ _; exact wpAny_bind (wpAny_standAt (wpAny_bind (wpAny_pyIter_listiter hit (wpAny_pure (And.intro rfl (lp _ rfl)))))))
end
/-! UrnComp3 -/
section
open PySem PyProof.Rows
variable {B : Base} {X : Scene B} {σ : AS}

theorem Rep.back {g : Gh} {s : Shared} (r : Rep B X.fr g σ s) {g' : Gh} {S' : List (List PV)} {s' : Shared} (l : (g.freeze s.heap (X.fr.env.locals :: cellsOf X.fr.N)).Le g') (r' : Rep0 B g' S' s') :
    Rep B X.fr (g'.thaw (X.fr.env.locals :: cellsOf X.fr.N)) ⟨σ.vs, S'⟩ s' ∧ g.Le (g'.thaw (X.fr.env.locals :: cellsOf X.fr.N)) := by
  have hof : ∀ b ∈ X.fr.env.locals :: cellsOf X.fr.N, g.off b ∧ b ∉ g.ls := fun b hb => ⟨(r.old hb).1, (r.old hb).2.1⟩
  have l₂ := Gh.le_thaw (fun b hb => (hof b hb).1) l
  have r₂ : Rep0 B (g'.thaw (X.fr.env.locals :: cellsOf X.fr.N)) S' s' := r'.thaw fun b hb => r.baseNone hb
  have e : s' = { s with heap := s'.heap, toks := s'.toks } := by
    have h1 := r'.gens.trans r.r0.gens.symm
    have h2 := r'.drawn.trans r.r0.drawn.symm
    have h3 := r'.os.trans r.r0.os.symm
    cases s'; cases s; simp_all
  rw [e] at r₂ ⊢
  refine ⟨r.change l₂ r₂ fun b hb => ⟨fun o ho => r'.keep b o (l.fz b o (by simp only [Gh.freeze, hb, if_true]; exact ho)), ?_, ?_⟩, l₂⟩
  · refine ⟨?_, by simp only [Gh.thaw, hb, if_true]⟩
    obtain ⟨_, _, o, ho⟩ := r.old hb
    exact r'.apart b o (l.fz b o (by simp only [Gh.freeze, hb, if_true]; exact ho)) (r.baseNone hb)
  · intro hm
    have z := (r'.off b hm).2
    obtain ⟨_, _, o, ho⟩ := r.old hb
    have := l.fz b o (by simp only [Gh.freeze, hb, if_true]; exact ho)
    rw [z] at this; cases this

noncomputable def chkComp (scope : Scope) (ns fs : List Str) : Bool :=
  scope.kind == .function && scope.names.all (fun x => x.2 != .cell) &&
  ns.all (fun x => scope.names.lookup x == some .local && !(x == ("__debug__" : Str)) && !(x == ("__classdict__" : Str))) &&
  fs.all (fun x => scope.names.lookup x == some .free && !(x == ("__debug__" : Str)) && !(x == ("__classdict__" : Str))) &&
  scope.names.all (fun x => x.2 != .local || scope.names.lookup x.1 == some .local) && scope.names.all (fun x => x.2 != .free || fs.any (fun y => y == x.1)) && decide (ns ++ fs).Nodup
noncomputable def cellAt (fr : Frm) (x : Str) : Addr := (fr.env.cells.lookup x).getD 0
noncomputable abbrev freeN (fr : Frm) (fs : List Str) : List (Str × Loc) := fs.map fun x => (x, Loc.free (cellAt fr x))
theorem cells_freeN (fr : Frm) (fs : List Str) : cellsOf (freeN fr fs) = [] := by
  induction fs with
  | nil => rfl
  | cons x r ih => exact ih
theorem cells_app : ∀ (a b : List (Str × Loc)), cellsOf (a ++ b) = cellsOf a ++ cellsOf b
  | [], _ => rfl
  | (_, .dict) :: r, b => cells_app r b
  | (_, .free _) :: r, b => cells_app r b
  | (_, .cell c) :: r, b => congrArg (c :: ·) (cells_app r b)
/-- a name of a cell of the frame, its value -/
inductive Cx : List (Str × Loc) → List (Option PV) → Str → PV → Prop
  | here {x c N v vs} : Cx ((x, .cell c) :: N) (some v :: vs) x v
  | there {p N o vs x v} : Cx N vs x v → Cx (p :: N) (o :: vs) x v
theorem Cx.slot {R : Str × Loc → Option PV → Prop} {x : Str} {v : PV} : ∀ {N vs}, Cx N vs x v → All2 R N vs → ∃ c, (x, Loc.cell c) ∈ N ∧ R (x, .cell c) (some v) := by
  intro N vs h
  induction h with
  | here => exact fun r => ⟨_, List.mem_cons_self, r.uncons.1⟩
  | there _ ih =>
    intro r
    obtain ⟨l, m, q⟩ := ih r.uncons.2
    exact ⟨l, .tail _ m, q⟩

theorem closeL_mem {env : Env} : ∀ {names : List (Str × NameKind)} {acc : List (Str × Addr)} {n : Str} {c : Addr}, (n, c) ∈ closeL env names acc → (n, c) ∈ acc ∨ c = (env.cells.lookup n).getD 0
  | [], acc, n, c, h => .inl h
  | (m, k) :: r, acc, n, c, h => by
    unfold closeL at h
    split at h
    · rcases closeL_mem h with h | h
      · rcases List.mem_cons.mp h with e | h
        · cases e; exact .inr rfl
        · exact .inl h
      · exact .inr h
    · exact closeL_mem h
theorem closeL_keep {env : Env} : ∀ {names : List (Str × NameKind)} {acc : List (Str × Addr)} {n : Str} {c : Addr}, (n, c) ∈ acc → (n, c) ∈ closeL env names acc
  | [], acc, n, c, h => h
  | (m, k) :: r, acc, n, c, h => by
    unfold closeL
    split
    · exact closeL_keep (.tail _ h)
    · exact closeL_keep h
theorem closeL_has {env : Env} : ∀ {names : List (Str × NameKind)} {acc : List (Str × Addr)} {n : Str}, (n, NameKind.free) ∈ names → (n, (env.cells.lookup n).getD 0) ∈ closeL env names acc
  | (m, k) :: r, acc, n, h => by
    unfold closeL
    rcases List.mem_cons.mp h with e | h
    · cases e
      exact closeL_keep List.mem_cons_self
    · split
      · exact closeL_has h
      · exact closeL_has h
theorem lookup_mem {α β : Type} [BEq α] [LawfulBEq α] : ∀ {l : List (α × β)} {x : α} {y : β}, l.lookup x = some y → (x, y) ∈ l
  | (a, b) :: r, x, y, h => by
    rw [List.lookup_cons] at h
    split at h
    · rename_i e
      have : x = a := by simpa using e
      subst this; cases h; exact List.mem_cons_self
    · exact .tail _ (lookup_mem h)
theorem lookup_some {α β : Type} [BEq α] [LawfulBEq α] : ∀ {l : List (α × β)} {x : α} {y : β}, (x, y) ∈ l → ∃ z, l.lookup x = some z
  | (a, b) :: r, x, y, h => by
    rw [List.lookup_cons]
    split
    · exact ⟨_, rfl⟩
    · rename_i e
      rcases List.mem_cons.mp h with e' | h
      · cases e'; simp at e
      · exact lookup_some h
theorem closeL_lookup {env : Env} {names : List (Str × NameKind)} {n : Str} (h : (n, NameKind.free) ∈ names) : (closeL env names []).lookup n = some ((env.cells.lookup n).getD 0) := by
  obtain ⟨z, hz⟩ := lookup_some (closeL_has (acc := []) (env := env) h)
  rw [hz]
  rcases closeL_mem (lookup_mem hz) with h | h
  · cases h
  · rw [h]
theorem lookup_relabel_free {env : Env} (hk : env.scope.kind = .function) : ∀ {names : List (Str × NameKind)} {x : Str}, names.lookup x = some .free → env.kindOf x = some .cell →
    (names.map fun (n, k) => if (k == NameKind.free && env.scope.kind == .function && env.kindOf n == some .cell) then (n, NameKind.cell) else (n, k)).lookup x = some .cell
  | [], _, h, _ => by simp at h
  | (n, k) :: r, x, h, hx => by
    have ih := @lookup_relabel_free env hk r x
    show List.lookup x ((if (k == NameKind.free && env.scope.kind == .function && env.kindOf n == some .cell) = true then (n, NameKind.cell) else (n, k)) :: _) = _
    cases hxn : x == n with
    | true =>
      have e : x = n := by simpa using hxn
      subst e
      simp only [List.lookup_cons, hxn] at h
      cases h
      have : (NameKind.free == NameKind.free && env.scope.kind == .function && env.kindOf x == some .cell) = true := by rw [hk, hx]; rfl
      rw [if_pos this]
      simp only [List.lookup_cons, hxn]
    | false =>
      simp only [List.lookup_cons, hxn] at h
      have ih := ih h hx
      split
      · simp only [List.lookup_cons, hxn]; exact ih
      · simp only [List.lookup_cons, hxn]; exact ih

/-- the frame of a comprehension -/
noncomputable abbrev compFrm (fr : Frm) (scope : Scope) (C : Addr) (ns fs : List Str) : Frm :=
  ⟨{ newEnv scope C fr.env.globals (closeL fr.env scope.names []) fr.env.qual none .none (some fr.env) fr.env.builtins with scope := compScope scope fr.env }, dictN ns ++ freeN fr fs, []⟩
theorem compFrm_ok {scope : Scope} {C : Addr} {ns fs : List Str} (h : chkComp scope ns fs = true) (hf : ∀ x ∈ fs, ∃ c, (x, Loc.cell c) ∈ X.fr.N) : FrmOk (compFrm X.fr scope C ns fs) := by
  unfold chkComp at h
  simp only [Bool.and_eq_true, Bool.not_eq_true', List.all_eq_true, beq_iff_eq, decide_eq_true_eq] at h
  obtain ⟨⟨⟨⟨⟨⟨h1, h2⟩, h3⟩, h4⟩, h5⟩, h6⟩, h7⟩ := h
  refine ⟨h1, X.fok.globals, X.fok.builtins, fun p hp => ?_, ?_, ?_, fun x hx => nomatch hx⟩
  · rcases List.mem_append.mp hp with hp | hp
    · obtain ⟨x, hx, rfl⟩ := List.mem_map.mp hp
      exact ⟨(h3 x hx).1.2, (h3 x hx).2, lookup_relabel_local (h3 x hx).1.1⟩
    · obtain ⟨x, hx, rfl⟩ := List.mem_map.mp hp
      obtain ⟨c, hc⟩ := hf x hx
      have ok := X.fok.loc _ hc
      exact ⟨(h4 x hx).1.2, (h4 x hx).2, .inr (lookup_relabel_free X.fok.kind (h4 x hx).1.1 ok.2.2.1), closeL_lookup (lookup_mem (h4 x hx).1.1)⟩
  · rw [show (dictN ns ++ freeN X.fr fs).map (·.1) = ns ++ fs from by
      rw [List.map_append, dictN, freeN, List.map_map, List.map_map]
      exact (congrArg (· ++ _) (List.map_id ns)).trans (congrArg (ns ++ ·) (List.map_id fs))]
    exact h7
  · show (_ :: cellsOf (dictN ns ++ freeN X.fr fs)).Nodup
    rw [cells_app, cells_dictN, cells_freeN]; simp

theorem slots_free {P : PW} {h : Heap} {g : Gh} {m : Str → Option Value} {fr : Frm} : ∀ {fs : List Str} {fvs : List PV}, All2 (fun x v => ∃ ob y, g.fz (cellAt fr x) = some ob ∧ ob.data = .cell (some y) ∧ VR P g v y) fs fvs → All2 (SlotR P h g m) (freeN fr fs) (fvs.map some) := by
  intro fs fvs r
  induction r with
  | nil => exact .nil
  | cons a _ ih =>
    obtain ⟨ob, y, h1, h2, h3⟩ := a
    exact .cons ⟨ob, y, h1, h2, fun v e => by cases e; exact h3⟩ ih

theorem comp_run {elt target iter : Expr} {ifs : List Expr} {rest : List Comprehension} {scope : Scope} {pos : Pos} {ns fs : List Str} (hc : chkComp scope ns fs = true) (Sr : Source B X.A target) {g : Gh} {s : Shared}
    (hle : Sr.g₀.Le g) (r : Rep B X.fr g σ s) (ht : 1 ≤ s.toks) (hit : Sr.It 0 s.heap) (ap : Apart B X.fr g Sr.fp) {fvs : List PV} (hf : All2 (Cx X.fr.N σ.vs) fs fvs)
    {inner : Scene B → AS → (AS → Prop) → Prop} {M : Env → Value → Sem Unit}
    (heq : ∀ env acc, compTurn (.ListComp elt (⟨target, iter, ifs, 0⟩ :: rest) scope pos) 0 (.ref Sr.I) acc env = turnTree target iter ifs (.ref Sr.I) env (M env acc) (.compLoop (.ListComp elt (⟨target, iter, ifs, 0⟩ :: rest) scope pos) 0 (.ref Sr.I) acc env))
    (hin : ∀ (X' : Scene B) (g : Gh) (a : Addr), g.ls[σ.S.length]? = some a → InnerOf X' g (inner X') (M X'.fr.env (.ref a)))
    {K : AS → Prop} (h : ∀ X' : Scene B, X'.k = X.k → X'.fr.N = dictN ns ++ freeN X.fr fs → X'.fr.G = [] → TurnsK X' target ifs (inner X') Sr.Ok K Sr.all ⟨ns.map (fun _ => none) ++ fvs.map some, σ.S ++ [[]]⟩)
    {RR : Value → Addr → Result → Shared → Prop} {E : Value → Shared → Prop}
    (c : ∀ D C g' s' σ', g.Le g' → Rep B X.fr g' ⟨σ.vs, σ'.S⟩ s' → VR B.pw g' (.lst σ.S.length) D → K σ' → 1 ≤ s'.toks → Apart B X.fr g' [C] → (∃ m, s'.heap.Ns C m) → RR D C (.ok .next) s') :
    wpAny (model B.prog B.w) X.A (newList []) (fun acc s₃ => wpAny (model B.prog B.w) X.A (newFunctionEnv scope X.fr.env.globals (closeL X.fr.env scope.names []) [] X.fr.env.qual none .none (some X.fr.env)) (fun cenv s₄ =>
      codeAny (model B.prog B.w) X.A (.compStart (.ListComp elt (⟨target, iter, ifs, 0⟩ :: rest) scope pos) 0 (.ref Sr.I) acc { cenv with scope := compScope scope X.fr.env }) (RR acc cenv.locals) s₄) E s₃) E s := by
  have hc' := hc
  unfold chkComp at hc'
  simp only [Bool.and_eq_true, Bool.not_eq_true', List.all_eq_true, beq_iff_eq, decide_eq_true_eq, bne_iff_ne] at hc'
  obtain ⟨⟨⟨⟨⟨⟨h1, h2⟩, h3⟩, h4⟩, h5⟩, h6⟩, h7⟩ := hc'
  refine wpAny_newList ?_
  have r₃ : Rep B X.fr (g.add s.heap.objs.size) ⟨σ.vs, σ.S ++ [[]]⟩ { s with heap := s.heap.push (lstObj [] 0), toks := s.toks } := r.newList (vs := []) (xs := []) (n := 0) .nil
  refine wpAny_newFunctionEnv h2 (by intro y hy; simp at hy) (fun h₁ hns₁ hsb₁ => ?_) h1
  generalize hs₃ : (Shared.mk (s.heap.push { cls := .type "list", data := .seq ([] : List Value).toArray }) s.gens s.drawn s.toks s.os) = s₃ at *
  have hs₃' : s₃ = { s with heap := s.heap.push (lstObj [] 0), toks := s.toks } := hs₃.symm
  have r₃' : Rep B X.fr (g.add s.heap.objs.size) ⟨σ.vs, σ.S ++ [[]]⟩ s₃ := hs₃' ▸ r₃
  have hC : s₃.heap.objs.size = s.heap.objs.size + 1 := by rw [hs₃']; exact Heap.size_push ..
  have old₃ : ∀ b o, s₃.heap.get? b = some o → h₁.get? b = some o := fun b o e => hsb₁.extBut b o (Nat.ne_of_lt (Heap.lt_size e)) (Heap.get?_push_of_some _ e)
  have old : ∀ b o, s.heap.get? b = some o → h₁.get? b = some o := fun b o e => old₃ b o (by rw [hs₃']; exact Heap.get?_push_of_some _ e)
  have r₄ : Rep B X.fr (g.add s.heap.objs.size) ⟨σ.vs, σ.S ++ [[]]⟩ { s₃ with heap := h₁, toks := s₃.toks + ([] : List (Str × Value)).length } := r₃'.keeps old₃
  have hCn : ∀ g', g' = g.add s.heap.objs.size → g'.off s₃.heap.objs.size ∧ s₃.heap.objs.size ∉ g'.ls := by
    rintro _ rfl
    exact ⟨r₃'.r0.fresh, r₃'.r0.fresh'⟩
  have fok : FrmOk (compFrm X.fr scope s₃.heap.objs.size ns fs) := compFrm_ok hc fun x hx => by
    obtain ⟨v, _, hcx⟩ := hf.mem hx
    obtain ⟨m, _, hs⟩ := r.ns
    obtain ⟨ca, hm, _⟩ := hcx.slot hs
    exact ⟨ca, hm⟩
  let X' : Scene B := ⟨compFrm X.fr scope s₃.heap.objs.size ns fs, X.A, X.k, X.bok, fok, X.aok⟩
  have hof : ∀ b ∈ X.fr.env.locals :: cellsOf X.fr.N, (g.add s.heap.objs.size).off b ∧ b ∉ (g.add s.heap.objs.size).ls := fun b hb => ⟨(r₄.old hb).1, (r₄.old hb).2.1⟩
  have hCas : s₃.heap.objs.size ∉ X.fr.env.locals :: cellsOf X.fr.N := fun hm => by
    obtain ⟨_, _, o, ho⟩ := r₃'.old hm
    exact absurd (Heap.lt_size ho) (Nat.lt_irrefl _)
  have hB : ∀ a, B.s.heap.get? a = none ∨ ∃ o, s.heap.get? a = some o := fun a => by
    cases e : B.s.heap.get? a with
    | none => exact .inl rfl
    | some o => exact .inr ⟨o, r.r0.keep _ _ (r.r0.base _ _ e)⟩
  have l₄ : (g.add s.heap.objs.size).Le ((g.add s.heap.objs.size).freeze h₁ (X.fr.env.locals :: cellsOf X.fr.N)) := Gh.le_freeze fun b hb => (hof b hb).1
  have l₀ : g.Le (g.add s.heap.objs.size) := Gh.le_add
  have r₅ : Rep B X'.fr ((g.add s.heap.objs.size).freeze h₁ (X.fr.env.locals :: cellsOf X.fr.N)) ⟨ns.map (fun _ => none) ++ fvs.map some, σ.S ++ [[]]⟩ { s₃ with heap := h₁, toks := s₃.toks + ([] : List (Str × Value)).length } := by
    refine ⟨r₄.r0.freeze hof, ⟨_, hns₁, ?_⟩, ?_, (hCn _ rfl).2⟩
    · refine (slots_none ns).append (slots_free (hf.impMem fun x v hx hcx => ?_))
      obtain ⟨m, _, hs⟩ := r.ns
      obtain ⟨ca, hm, hq⟩ := hcx.slot hs
      obtain ⟨q1, q2, vo, ⟨ob, q3, q3'⟩, q4⟩ := hq
      obtain ⟨y, rfl, hy⟩ := q4 v rfl
      have ok := X.fok.loc _ hm
      have hca : cellAt X.fr x = ca := by show (X.fr.env.cells.lookup x).getD 0 = ca; rw [ok.2.2.2]; rfl
      rw [hca]
      refine ⟨ob, y, ?_, q3', (hy.mono l₀).mono l₄⟩
      have : ca ∈ X.fr.env.locals :: cellsOf X.fr.N := .tail _ (cellsOf_mem hm)
      simp only [Gh.freeze, this, if_true]
      exact old _ _ q3
    · exact ⟨(hCn _ rfl).1.1, by
        have h := (hCn _ rfl).1.2
        exact (if_neg hCas).trans h⟩
  have ap₅ : Apart B X'.fr ((g.add s.heap.objs.size).freeze h₁ (X.fr.env.locals :: cellsOf X.fr.N)) Sr.fp := fun a ha => by
    obtain ⟨o, ho⟩ := Sr.obj _ _ hit a ha
    obtain ⟨z1, z2, z3, z4⟩ := ap a ha
    refine ⟨⟨z1.1, (if_neg z3).trans z1.2⟩, fun hm => ?_, fun hm => ?_, z4⟩
    · rcases List.mem_append.mp hm with hm | hm
      · exact z2 hm
      · rw [List.mem_singleton.mp hm] at ho; exact absurd (Heap.lt_size ho) (Nat.lt_irrefl _)
    · have hm : a ∈ s₃.heap.objs.size :: cellsOf (dictN ns ++ freeN X.fr fs) := hm
      rw [cells_app, cells_dictN, cells_freeN] at hm
      have e := List.mem_singleton.mp hm
      have z := Heap.lt_size ho
      rw [e, hC] at z
      exact absurd z (Nat.not_lt.mpr (Nat.le_succ _))
  have lp : codeAny (model B.prog B.w) X'.A (.compLoop (.ListComp elt (⟨target, iter, ifs, 0⟩ :: rest) scope pos) 0 (.ref Sr.I) (.ref s.heap.objs.size) X'.fr.env) (RR (.ref s.heap.objs.size) s₃.heap.objs.size) { s₃ with heap := h₁, toks := s₃.toks + ([] : List (Str × Value)).length } := by
    refine loop_source (X := X') Sr (heq _ _) (hin X' _ _ ?_) (hle.trans (l₀.trans l₄)) r₅ ?_ (Sr.frame _ _ _ hit fun a ha o e => old a o e) ap₅ (h X' rfl rfl rfl) fun g' s' σ' l' r' hK ht' => ?_
    · show (g.ls ++ [s.heap.objs.size])[σ.S.length]? = _
      rw [← r.r0.lists.length]; simp
    · show 1 ≤ s₃.toks + _
      rw [hs₃']; show 1 ≤ s.toks + _; omega
    · obtain ⟨rb, lb⟩ := r₄.back l' r'.r0
      refine c _ _ _ _ σ' (l₀.trans lb) rb ?_ hK ht' (fun a ha => ?_) ?_
      · refine .lst ?_
        obtain ⟨q, hq⟩ := (l₀.trans lb).ls
        obtain ⟨q', hq'⟩ := lb.ls
        rw [hq', List.getElem?_append_left (by show _ < (g.ls ++ [_]).length; rw [← r.r0.lists.length]; simp)]
        show (g.ls ++ [s.heap.objs.size])[σ.S.length]? = _
        rw [← r.r0.lists.length]; simp
      · rw [List.mem_singleton.mp ha]
        refine ⟨⟨r'.lfz.1, ?_⟩, r'.lls, hCas, ?_⟩
        · exact (if_neg hCas).trans r'.lfz.2
        · rcases hB s₃.heap.objs.size with e | ⟨o, e⟩
          · exact e
          · have z := Heap.lt_size e
            rw [hC] at z
            exact absurd z (Nat.not_lt.mpr (Nat.le_succ _))
      · obtain ⟨m, hm, _⟩ := r'.ns
        exact ⟨m, hm⟩
  exact codeAny_compStart_list lp (Sr.self 0 _ _ _ (Sr.frame _ _ _ hit fun a ha o e => old a o e) lp)
end
/-! UrnComp4 -/
section
open PySem PyProof.Rows
variable {B : Base} {X : Scene B} {σ : AS}

/-- the source of a loop: its items -/
noncomputable def SrcE (X : Scene B) (target iter : Expr) (σ : AS) (K : List PV → (List (List PV) → Prop) → AS → Prop) : Prop := ∀ g s (Q : Value → Shared → Prop) E, Rep B X.fr g σ s → 1 ≤ s.toks →
  (∀ g₁ s₁ σ₁ (Sr : Source B X.A target), g.Le g₁ → Rep B X.fr g₁ σ₁ s₁ → Sr.g₀.Le g₁ → Sr.It 0 s₁.heap → Apart B X.fr g₁ Sr.fp → K Sr.all Sr.Ok σ₁ → 1 ≤ s₁.toks → Q (.ref Sr.I) s₁) →
  wpAny (model B.prog B.w) X.A (eval iter X.fr.env) (fun x s₁ => wpAny (model B.prog B.w) X.A (pyIter x) Q E s₁) E s
theorem src_list {target iter : Expr} {K : List PV → (List (List PV) → Prop) → AS → Prop} (h : WE X iter σ fun v σ₁ => ∃ k all, v = .lst k ∧ σ₁.S[k]? = some all ∧ K all (fun S => S[k]? = some all) σ₁) : SrcE X target iter σ K := fun g s Q E r ht c =>
  h g s _ E r ht fun g₁ s₁ v x σ₁ l₁ r₁ hv ⟨k, all, e, hS, hK⟩ ht₁ => by
    subst e
    obtain ⟨a, ws, n, rfl, hk, ha, hw⟩ := hv.list r₁.r0 hS
    refine wpAny_pyIter_list (items := ws.toArray) ⟨_, ha, rfl, n, rfl⟩ ?_
    have hin : ({ cls := .type "list_iterator", data := .fields #[.ref a, .int 0 0] } : Obj).isFreed = false := rfl
    exact c g₁ _ σ₁ (listSource X.A X.aok.handled target s₁.heap.objs.size a k all g₁ hk) l₁ (r₁.push (tk := s₁.toks)) (.refl g₁) ⟨_, Heap.get?_push_size _ hin, rfl, rfl⟩ (r₁.apartNew (o := default) (tk := 0)) hK ht₁

section
variable {elt target iter : Expr} {ifs : List Expr} {rest : List Comprehension} {scope : Scope} {pos : Pos} {ns fs : List Str} {N : List (Str × Loc)}
theorem comp_side (hc : chkComp scope ns fs = true) (hN : X.fr.N = N) (hfs : ∀ x ∈ fs, ∃ c, (x, Loc.cell c) ∈ N) :
    (∀ n, (n, NameKind.free) ∈ scope.names → (X.fr.env.cells.lookup n).isSome = true) ∧ scope.kind = .function ∧ ∀ x ∈ scope.names, x.2 = .local → (compScope scope X.fr.env).names.lookup x.1 = some .local := by
  unfold chkComp at hc
  simp only [Bool.and_eq_true, Bool.not_eq_true', List.all_eq_true, beq_iff_eq, decide_eq_true_eq, bne_iff_ne] at hc
  obtain ⟨⟨⟨⟨⟨⟨h1, h2⟩, h3⟩, h4⟩, h5⟩, h6⟩, h7⟩ := hc
  refine ⟨fun n hn => ?_, h1, fun x hx hl => ?_⟩
  · have := h6 _ hn
    simp only [bne_self_eq_false, Bool.false_or, List.any_eq_true, beq_iff_eq] at this
    obtain ⟨y, hy, e⟩ := this
    obtain ⟨c, hc⟩ := hfs y hy
    have e : y = n := e
    subst e
    have ok := X.fok.loc _ (hN ▸ hc)
    rw [ok.2.2.2]; rfl
  · have := h5 _ hx
    rw [hl] at this
    simp only [bne_self_eq_false, Bool.false_or, beq_iff_eq] at this
    exact lookup_relabel_local this

theorem comp_gen {inner : Scene B → Nat → AS → (AS → Prop) → Prop} {M : Env → Value → Sem Unit} {K : PV → AS → Prop} (hc : chkComp scope ns fs = true) (hN : X.fr.N = N) (hfs : ∀ x ∈ fs, ∃ c, (x, Loc.cell c) ∈ N)
    (heq : ∀ it env acc, compTurn (.ListComp elt (⟨target, iter, ifs, 0⟩ :: rest) scope pos) 0 it acc env = turnTree target iter ifs it env (M env acc) (.compLoop (.ListComp elt (⟨target, iter, ifs, 0⟩ :: rest) scope pos) 0 it acc env))
    (hin : ∀ (X' : Scene B) (g : Gh) (a : Addr) k, g.ls[k]? = some a → InnerOf X' g (inner X' k) (M X'.fr.env (.ref a)))
    (h : SrcE X target iter σ fun all Ok σ₁ => ∃ fvs, All2 (Cx N σ₁.vs) fs fvs ∧ ∀ X' : Scene B, X'.k = X.k → X'.fr.N = dictN ns ++ freeN X.fr fs → X'.fr.G = [] →
      TurnsK X' target ifs (inner X' σ₁.S.length) Ok (fun σ' => K (.lst σ₁.S.length) ⟨σ₁.vs, σ'.S⟩) all ⟨ns.map (fun _ => none) ++ fvs.map some, σ₁.S ++ [[]]⟩)
    (hs : ∀ env x, foldedSetIterable iter env x = pure x) : WE X (.ListComp elt (⟨target, iter, ifs, 0⟩ :: rest) scope pos) σ K := fun g s Q E r ht c => by
  obtain ⟨s1, s2, s3⟩ := comp_side hc hN hfs
  rw [eval_ListComp]
  refine wpAny_compr rfl (hs _) s1 s2 s3 (h g s _ E r ht fun g₁ s₁ σ₁ Sr l₁ r₁ hle hit ap ⟨fvs, hf, hK⟩ ht₁ => ?_)
  refine comp_run (RR := fun acc L r s' => ∃ m, s'.heap.Ns L m ∧ ∀ h', Heap.SameBut L s'.heap h' → match r with | .ok _ => Q acc { s' with heap := h' } | .error _ => False) (pos := pos) hc Sr hle r₁ ht₁ hit ap (hN ▸ hf) (heq _) (fun X' g a hk => hin X' g a _ hk) hK fun D C g' s' σ' l' r' hv hK' ht' apC hm => ?_
  obtain ⟨m, hm⟩ := hm
  refine ⟨m, hm, fun h' hsb => ?_⟩
  exact c g' _ _ D _ (l₁.trans l') (r'.extNew (tk := s'.toks) apC hsb.extBut) hv hK' ht'

theorem assign_gen {y : Str} {py spos : Pos} {inner : Scene B → Nat → AS → (AS → Prop) → Prop} {M : Env → Value → Sem Unit} {K : Fl → AS → Prop} (hc : chkComp scope ns fs = true) (hN : X.fr.N = N) (hfs : ∀ x ∈ fs, ∃ c, (x, Loc.cell c) ∈ N)
    (heq : ∀ it env acc, compTurn (.ListComp elt (⟨target, iter, ifs, 0⟩ :: rest) scope pos) 0 it acc env = turnTree target iter ifs it env (M env acc) (.compLoop (.ListComp elt (⟨target, iter, ifs, 0⟩ :: rest) scope pos) 0 it acc env))
    (hin : ∀ (X' : Scene B) (g : Gh) (a : Addr) k, g.ls[k]? = some a → InnerOf X' g (inner X' k) (M X'.fr.env (.ref a)))
    (hy : (y, Loc.dict) ∈ N) (hline : (py.line == spos.line) = true ∧ (py.line == pos.line) = true) (hny : (scope.names.any fun (n, k) => n == y && (k == .local || k == .cell)) = false)
    (h : SrcE X target iter σ fun all Ok σ₁ => ∃ fvs, All2 (Cx N σ₁.vs) fs fvs ∧ ∀ X' : Scene B, X'.k = X.k → X'.fr.N = dictN ns ++ freeN X.fr fs → X'.fr.G = [] →
      TurnsK X' target ifs (inner X' σ₁.S.length) Ok (fun σ' => Asg N y K (.lst σ₁.S.length) ⟨σ₁.vs, σ'.S⟩) all ⟨ns.map (fun _ => none) ++ fvs.map some, σ₁.S ++ [[]]⟩)
    (hs : ∀ env x, foldedSetIterable iter env x = pure x) : WX X (.Assign [.Name y py] (.ListComp elt (⟨target, iter, ifs, 0⟩ :: rest) scope pos) spos) σ K := fun g s Q E r ht c => by
  obtain ⟨s1, s2, s3⟩ := comp_side hc hN hfs
  have hsw : swapsWith (.ListComp elt (⟨target, iter, ifs, 0⟩ :: rest) scope pos) (some (.Name y py)) spos.line X.fr.env = pure true := by
    have hk := (X.fok.loc _ (hN ▸ hy : (y, Loc.dict) ∈ X.fr.N)).2.2
    have hb : X.fr.env.blockKind = .function := by unfold Env.blockKind; rw [X.fok.kind]; rfl
    unfold swapsWith
    dsimp only [Expr.pos]
    have hk' : X.fr.env.kindOf y = some .local := hk
    rw [hb, hk', hny, hline.2]
    rfl
  rw [exec_Assign_Name_used _ _ _ _ hsw]
  refine wpAny_bind (wpAny_standAt (wpAny_bind ?_))
  show wpAny _ X.A (do let _ ← comprehension (.ListComp elt (⟨target, iter, ifs, 0⟩ :: rest) scope pos) scope X.fr.env _ (newList []) false (eval iter X.fr.env) (some (assign (.Name y py) X.fr.env))) _ _ s
  refine wpAny_bind (wpAny_mono (wpAny_compr_use (Q := fun _ s' => Q .next s') rfl (hs _) s1 s2 s3 (h g s _ E r ht fun g₁ s₁ σ₁ Sr l₁ r₁ hle hit ap ⟨fvs, hf, hK⟩ ht₁ => ?_)) (fun _ s' hq => wpAny_pure (wpAny_pure hq)) fun _ _ e => e)
  refine comp_run (RR := fun acc L r s' => match r with | .ok _ => wpAny (model B.prog B.w) X.A (assign (.Name y py) X.fr.env acc) (fun _ s'' => ∃ m, s''.heap.Ns L m ∧ ∀ h', Heap.SameBut L s''.heap h' → Q .next { s'' with heap := h' }) E s' | .error _ => False) (pos := pos) hc Sr hle r₁ ht₁ hit ap (hN ▸ hf) (heq _) (fun X' g a hk => hin X' g a _ hk) hK fun D C g' s' σ' l' r' hv hK' ht' apC hm => ?_
  obtain ⟨m, hm⟩ := hm
  obtain ⟨vs', hx, hk⟩ := hK'
  have rf := r'.freeze apC
  have lf : g'.Le (g'.freeze s'.heap [C]) := Gh.le_freeze fun a ha => (apC a ha).1
  refine wa_name hN hx hk _ D hv.freeze s' _ E rf ht' fun g₂ s₂ _ _ σ₂ l₂ r₂ _ hK₂ ht₂ => ?_
  have lt := Gh.le_thaw (fun a ha => (apC a ha).1) l₂
  have rt : Rep B X.fr (g₂.thaw [C]) σ₂ s₂ := r₂.thaw (fun a ha => (apC a ha).2.2.2) (r'.freeNe fun a ha => (apC a ha).1)
  have ho : ∃ o, s'.heap.get? C = some o := by obtain ⟨o, _, _, ho, _⟩ := hm; exact ⟨o, ho⟩
  have apC' := Apart.after (s := s') apC (fun a ha => by rw [List.mem_singleton.mp ha]; exact ho) l₂ r₂
  refine ⟨m, hm.at' fun o e => kept_after (s := s') l₂ r₂ C List.mem_cons_self o e, fun h' hsb => ?_⟩
  exact c _ _ .next .next σ₂ ((l₁.trans l').trans lt) (rt.extNew (tk := s₂.toks) apC' hsb.extBut) .next hK₂ ht₂
end

/-- what a comprehension of one clause asks -/
noncomputable def Comp1 (X : Scene B) (N : List (Str × Loc)) (ns fs : List Str) (elt target : Expr) (ifs : List Expr) (K : PV → AS → Prop) (all : List PV) (Ok : List (List PV) → Prop) (σ₁ : AS) : Prop :=
  ∃ fvs, All2 (Cx N σ₁.vs) fs fvs ∧ ∀ X' : Scene B, X'.k = X.k → X'.fr.N = dictN ns ++ freeN X.fr fs → X'.fr.G = [] →
    TurnsK X' target ifs (EmitK X' elt σ₁.S.length) Ok (fun σ' => K (.lst σ₁.S.length) ⟨σ₁.vs, σ'.S⟩) all ⟨ns.map (fun _ => none) ++ fvs.map some, σ₁.S ++ [[]]⟩
noncomputable def Comp2 (X : Scene B) (N : List (Str × Loc)) (ns fs : List Str) (elt target t₂ i₂ : Expr) (ifs ifs₂ : List Expr) (K : PV → AS → Prop) (all : List PV) (Ok : List (List PV) → Prop) (σ₁ : AS) : Prop :=
  ∃ fvs, All2 (Cx N σ₁.vs) fs fvs ∧ ∀ X' : Scene B, X'.k = X.k → X'.fr.N = dictN ns ++ freeN X.fr fs → X'.fr.G = [] →
    TurnsK X' target ifs (SecondK X' elt t₂ i₂ ifs₂ σ₁.S.length) Ok (fun σ' => K (.lst σ₁.S.length) ⟨σ₁.vs, σ'.S⟩) all ⟨ns.map (fun _ => none) ++ fvs.map some, σ₁.S ++ [[]]⟩
section
variable {elt target iter t₂ i₂ : Expr} {ifs ifs₂ : List Expr} {scope : Scope} {pos : Pos} {N : List (Str × Loc)}
theorem we_comp1 (ns fs : List Str) {K : PV → AS → Prop} (hc : chkComp scope ns fs = true) (hN : X.fr.N = N) (hfs : ∀ x ∈ fs, ∃ c, (x, Loc.cell c) ∈ N) (h : SrcE X target iter σ (Comp1 X N ns fs elt target ifs K))
    (hs : ∀ env x, foldedSetIterable iter env x = pure x := by intro _ _; rfl) : WE X (.ListComp elt [⟨target, iter, ifs, 0⟩] scope pos) σ K :=
  comp_gen (inner := fun X' k => EmitK X' elt k) (M := fun env acc => emitTree elt env acc) hc hN hfs (fun it env acc => turn_one ..) (fun X' g a k hk => emit_inner hk) h hs
theorem wx_assign_comp1 (ns fs : List Str) {y : Str} {py spos : Pos} {K : Fl → AS → Prop} (hc : chkComp scope ns fs = true) (hN : X.fr.N = N) (hfs : ∀ x ∈ fs, ∃ c, (x, Loc.cell c) ∈ N)
    (hy : (y, Loc.dict) ∈ N) (hny : (scope.names.any fun (n, k) => n == y && (k == .local || k == .cell)) = false) (h : SrcE X target iter σ (Comp1 X N ns fs elt target ifs (Asg N y K)))
    (hline : (py.line == spos.line) = true ∧ (py.line == pos.line) = true := by exact ⟨rfl, rfl⟩) (hs : ∀ env x, foldedSetIterable iter env x = pure x := by intro _ _; rfl) : WX X (.Assign [.Name y py] (.ListComp elt [⟨target, iter, ifs, 0⟩] scope pos) spos) σ K :=
  assign_gen (inner := fun X' k => EmitK X' elt k) (M := fun env acc => emitTree elt env acc) hc hN hfs (fun it env acc => turn_one ..) (fun X' g a k hk => emit_inner hk) hy hline hny h hs
theorem wx_assign_comp2 (ns fs : List Str) {y : Str} {py spos : Pos} {K : Fl → AS → Prop} (hc : chkComp scope ns fs = true) (hN : X.fr.N = N) (hfs : ∀ x ∈ fs, ∃ c, (x, Loc.cell c) ∈ N)
    (hy : (y, Loc.dict) ∈ N) (hny : (scope.names.any fun (n, k) => n == y && (k == .local || k == .cell)) = false) (h : SrcE X target iter σ (Comp2 X N ns fs elt target t₂ i₂ ifs ifs₂ (Asg N y K)))
    (hline : (py.line == spos.line) = true ∧ (py.line == pos.line) = true := by exact ⟨rfl, rfl⟩) (hs : ∀ env x, foldedSetIterable iter env x = pure x := by intro _ _; rfl) (hs₂ : ∀ env x, foldedSetIterable i₂ env x = pure x := by intro _ _; rfl) : WX X (.Assign [.Name y py] (.ListComp elt [⟨target, iter, ifs, 0⟩, ⟨t₂, i₂, ifs₂, 0⟩] scope pos) spos) σ K :=
  assign_gen (inner := fun X' k => SecondK X' elt t₂ i₂ ifs₂ k) hc hN hfs (fun it env acc => turn_head elt target iter t₂ i₂ ifs ifs₂ scope pos it acc env) (fun X' g a k hk => second_inner hk hs₂) hy hline hny h hs
end
end
/-! UrnRules4 -/
section
open PySem PyProof.Rows
variable {B : Base} {X : Scene B} {σ : AS}

/-! texts -/
theorem bk_adds {x y : Str} {K : PV → AS → Prop} (hn : x.length + y.length < 1000000) (h : K (.av (.str (x ++ y))) σ) : BK X .Add (.av (.str x)) (.av (.str y)) σ K := fun g a b hx hy => .mk fun s Q E r c => by
  obtain ⟨t, rfl⟩ := hx.str; obtain ⟨u, rfl⟩ := hy.str
  exact SB.add (fun t' k => c g _ _ _ σ (.refl g) r.tok (vstr ..) h) (size_ok hn)
theorem bk_muls {x : Str} {n : Int} {K : PV → AS → Prop} (hn : MulOk x n) (h : K (.av (.str (Txt.mul x n))) σ) : BK X .Mult (.av (.str x)) (.av (.int n)) σ K := fun g a b hx hy => .mk fun s Q E r c => by
  obtain ⟨t, rfl⟩ := hx.str; obtain ⟨u, rfl⟩ := hy.int
  exact SB.mul hn (fun t' k => c g _ _ _ σ (.refl g) r.tok (vstr ..) h)
theorem sub_str {value slice : Expr} {x : Str} {i : Int} {K : PV → AS → Prop} (h1 : -(x.length : Int) ≤ i) (h2 : i < x.length) (hn : x.length < 1000000) (h : K (.av (.str (Txt.item x i))) σ)
    (hs : ∀ t u, subscripted slice false (.str x t) (.int i u) = operate [.str x t, .int i u] (getItem (.str x t) (.int i u)) := by intro _ _; with_unfolding_all rfl)
    (hg : ∀ t r, letTemporaryGo value (.str x t) r = pure () := by intro _ _; with_unfolding_all rfl) : SubK X value slice (.av (.str x)) (.av (.int i)) σ K := fun g a b hx hy => .mk fun s Q E r c => by
  obtain ⟨t, rfl⟩ := hx.str; obtain ⟨u, rfl⟩ := hy.int
  exact item_str (fitsSsize_of (N := 1000000) (by lia) (by lia) (by decide)) h1 h2 (fun _ => c g _ _ _ σ (.refl g) r.tok (vstr ..) h) (hs _ _) (hg _)

noncomputable def PartK (X : Scene B) : Option Expr → AS → (Option Int → AS → Prop) → Prop
  | none, σ, K => K none σ
  | some e, σ, K => WE X e σ fun v σ' => ∃ i, v = .av (.int i) ∧ K (some i) σ'
theorem pt_none {K : Option Int → AS → Prop} (h : K none σ) : PartK X none σ K := h
theorem pt_some {e : Expr} {K : Option Int → AS → Prop} (h : WE X e σ fun v σ' => ∃ i, v = .av (.int i) ∧ K (some i) σ') : PartK X (some e) σ K := h
theorem part_of {e : Option Expr} {g : Gh} {s : Shared} {K : Option Int → AS → Prop} {Q : Value → Shared → Prop} {E : Value → Shared → Prop} (h : PartK X e σ K) (r : Rep B X.fr g σ s) (ht : 1 ≤ s.toks)
    (c : ∀ g' s' i v σ', g.Le g' → Rep B X.fr g' σ' s' → (match i with | none => v = .none | some i => ∃ t, v = .int i t) → K i σ' → 1 ≤ s'.toks → Q v s') : wpAny (model B.prog B.w) X.A (evalPart e X.fr.env) Q E s := by
  cases e with
  | none => exact wpAny_pure (c g s none .none σ (.refl g) r rfl h ht)
  | some e =>
    exact h g s Q E r ht fun g' s' b a σ' l r' hr ⟨i, e, hK⟩ ht' => by
      subst e
      exact c g' s' (some i) a σ' l r' hr.int hK ht'
theorem we_slice {value : Expr} {lo hi : Option Expr} {p pos : Pos} {K : PV → AS → Prop} (h : WE X value σ fun a σ₁ => ∃ x : Str, a = .av (.str x) ∧ x.length < 1000000 ∧ PartK X lo σ₁ fun i σ₂ => PartK X hi σ₂ fun j σ₃ => K (.av (.str (Txt.slice x i j))) σ₃)
    (hg : ∀ (x : Str) t r, letTemporaryGo value (.str x t) r = pure () := by intro _ _ _; with_unfolding_all rfl) : WE X (.Subscript value (.Slice lo hi none p) pos) σ K := fun g s Q E r ht c =>
  Subscript_ (h g s _ E r ht fun g₁ s₁ a v σ₁ l₁ r₁ hv ⟨x, e, hn, h₁⟩ ht₁ => by
    subst e
    obtain ⟨t, rfl⟩ := hv.str
    refine wpAny_Slice (part_of h₁ r₁ ht₁ fun g₂ s₂ i vi σ₂ l₂ r₂ hi h₂ ht₂ => part_of h₂ r₂ ht₂ fun g₃ s₃ j vj σ₃ l₃ r₃ hj h₃ ht₃ => wpAny_pure ?_)
    have kept : KeptH fun h => ∀ tk, Rep B X.fr g₃ σ₃ { s₃ with heap := h, toks := tk } := fun h o hp tk => (hp tk).push (s := { s₃ with heap := h, toks := tk })
    have base : ∀ tk, Rep B X.fr g₃ σ₃ { s₃ with heap := s₃.heap, toks := tk } := fun tk => r₃.tok
    have fin : ∀ y h' t' k, 1 ≤ k → (∀ tk, Rep B X.fr g₃ σ₃ { s₃ with heap := h', toks := tk }) → y = Txt.slice x i j → Q (.str y t') { s₃ with heap := h', toks := k } := fun y h' t' k hk hp e => by
      subst e
      exact c g₃ _ _ _ σ₃ ((l₁.trans l₂).trans l₃) (hp k) (vstr ..) h₃ hk
    refine wpAny_with_toks (n := 1) (by exact ht₃) ?_
    cases i with
    | none =>
      have hi : vi = .none := hi
      subst hi
      cases j with
      | none =>
        have hj : vj = .none := hj
        subst hj
        exact tail_of_ItemOn (SBH.sliceItem_nn kept base (fun h' t' k hp hk => fin _ h' t' k hk hp rfl) (size_ok hn)) (by with_unfolding_all rfl) (hg x t)
      | some j =>
        obtain ⟨u, hj⟩ : ∃ t, vj = .int j t := hj
        subst hj
        exact tail_of_ItemOn (SBH.sliceItem_ns kept base (fun h' t' k hp hk => fin _ h' t' k hk hp rfl) (size_ok hn)) (by with_unfolding_all rfl) (hg x t)
    | some i =>
      obtain ⟨u, hi⟩ : ∃ t, vi = .int i t := hi
      subst hi
      cases j with
      | none =>
        have hj : vj = .none := hj
        subst hj
        exact tail_of_ItemOn (SBH.sliceItem_sn kept base (fun h' t' k hp hk => fin _ h' t' k hk hp rfl) (size_ok hn)) (by with_unfolding_all rfl) (hg x t)
      | some j =>
        obtain ⟨u', hj⟩ : ∃ t, vj = .int j t := hj
        subst hj
        exact tail_of_ItemOn (SBH.sliceItem_ss kept base (fun h' t' k hp hk => fin _ h' t' k hk hp rfl) (size_ok hn)) (by with_unfolding_all rfl) (hg x t))

/-! displays -/
noncomputable def atomsOf : List PV → Option (List At)
  | [] => some []
  | .av a :: r => (atomsOf r).map (a :: ·)
  | _ :: _ => none
theorem ats_of {P : PW} {g : Gh} : ∀ {vs : List PV} {as : List At} {xs : List Value}, atomsOf vs = some as → All2 (VR P g) vs xs → All2 AR as xs := by
  intro vs as xs e r
  induction r generalizing as with
  | nil => cases e; exact .nil
  | cons h t ih =>
    rename_i v _ _ _
    cases v with
    | av a =>
      simp only [atomsOf, Option.map_eq_some_iff] at e
      obtain ⟨bs, e, rfl⟩ := e
      exact .cons h.at (ih e)
    | _ => cases e
theorem we_tuple {es : List Expr} {k : Nat} {pos : Pos} {K : PV → AS → Prop} (h : WL X pos es σ fun vs σ' => vs.length < 1000 ∧ ∃ as, atomsOf vs = some as ∧ K (.tup as) σ') : WE X (.Tuple es k pos) σ K := fun g s Q E r ht c =>
  PySem.wpAny_Tuple (h g s _ E r ht fun g₁ s₁ vs xs σ₁ l₁ r₁ hv ⟨hn, as, he, hK⟩ ht₁ => ⟨by rw [← hv.length]; exact size_ok (by lia), by
    refine c (g₁.put s₁.heap.objs.size (tupObj xs 0)) _ (.tup as) _ σ₁ (l₁.trans (Gh.le_put r₁.r0.fresh)) (r₁.alloc (tk := s₁.toks) rfl) ?_ hK ht₁
    exact .i (.tup (n := 0) (Gh.put_self ..) (ats_of he hv))⟩)
theorem its_of {P : PW} {g : Gh} : ∀ {vs : List PV} {xs : List Value}, vs.all isIt = true → All2 (VR P g) vs xs → All2 (VI P g.im) vs xs := by
  intro vs xs e r
  induction r with
  | nil => exact .nil
  | cons h t ih =>
    have e := Bool.and_eq_true_iff.mp e
    exact .cons (h.it e.1) (ih e.2)
theorem we_list {es : List Expr} {pos : Pos} {K : PV → AS → Prop} (h : WL X pos es σ fun vs σ' => vs.length < 1000 ∧ vs.all isIt = true ∧ K (.lst σ'.S.length) ⟨σ'.vs, σ'.S ++ [vs]⟩) : WE X (.List es pos) σ K := fun g s Q E r ht c =>
  PySem.wpAny_List (h g s _ E r ht fun g₁ s₁ vs xs σ₁ l₁ r₁ hv ⟨hn, he, hK⟩ ht₁ => ⟨by rw [← hv.length]; exact size_ok (by lia), by
    refine c (g₁.add s₁.heap.objs.size) _ (.lst σ₁.S.length) _ ⟨σ₁.vs, σ₁.S ++ [vs]⟩ (l₁.trans Gh.le_add) (r₁.newList (tk := s₁.toks) (n := 0) (its_of he hv)) (VR_new g₁ r₁.r0) hK ht₁⟩)

/-! an item stored in a list -/
theorem setItem_at {prog : Program} {w : World} {A : Around} {E : Value → Shared → Prop} {s : Shared} {l : Addr} {ws : List Value} {n : Nat} {k : Int} {t : Tok} {v : Value} {Q : Unit → Shared → Prop} (ho : s.heap.get? l = some (lstObj ws n)) (h0 : 0 ≤ k) (hj : k < ws.length) (hfit : k < 2 ^ 63)
    (hQ : ∀ h' n', h'.get? l = some (lstObj (ws.set k.toNat v) n') → Heap.SameBut l s.heap h' → Q () { s with heap := h' }) : wpAny (model prog w) A (setItem (.ref l) (.int k t) v) Q E s := by
  have hT : s.TypeIs (.ref l) "list" := ⟨_, ho, rfl⟩
  unfold setItem
  try with_reducible refine wpAny_holding ?_
  first | refine wpAny_bind (wpAny_pure ?_) | skip
  refine wpAny_bind (wpAny_sequenceKey hT (by decide) ?_)
  refine wpAny_bind (wpAny_callSpecial?_slot (name := Str.ofString "__setitem__") hT slot_list_setitem (wpAny_call_entry slot_list_setitem hT entry_list_setitem ?_ (args_list_setitem _ _ _)))
  show wpAny _ _ (Builtin.List.listSubscript? (.int k t) >>= _) _ _ s
  refine wpAny_bind (wpAny_listSubscript_int (fitsIndex_of h0 hfit) ?_)
  clear hfit
  obtain ⟨j, rfl⟩ := Int.eq_ofNat_of_zero_le h0
  have hj : j < ws.length := by lia
  show wpAny _ _ ((seqItemAt l j >>= fun r => pure (r.map (j, ·))) >>= _) _ _ s
  refine wpAny_bind (wpAny_bind (wpAny_seqItemAt ho rfl (wpAny_pure ?_)))
  have hx : ws.toArray[j]? = some ws[j] := by simp [hj]
  rw [hx]
  show wpAny _ _ (setSeqItemAt l j v >>= _) _ _ s
  obtain ⟨m, hm⟩ := mapSeq_obj (·.setIfInBounds j v) ws n
  have he : (s.heap.update l (Obj.mapSeq (·.setIfInBounds j v))).get? l = some (lstObj (ws.set j v) m) := by
    rw [Heap.get?_update_self _ ho (by rw [hm]; rfl), hm]; simp
  have fin := hQ _ m he (Heap.SameBut.update ..)
  refine wpAny_bind (wpAny_setSeqItemAt ho rfl ?_)
  first
    | exact wpAny_bind (wpAny_pure (wpAny_pure ⟨.none, rfl, wpAny_pure fin⟩))
    | exact wpAny_pure ⟨.none, rfl, wpAny_pure fin⟩
theorem wx_setitem {value o i : Expr} {p pos : Pos} {K : Fl → AS → Prop} (h : WE X value σ fun v σ₁ => isIt v = true ∧ WE X o σ₁ fun a σ₂ => ∃ k, a = .lst k ∧ WE X i σ₂ fun b σ₃ => ∃ n : Int, b = .av (.int n) ∧ ∃ xs, σ₃.S[k]? = some xs ∧ 0 ≤ n ∧ n < xs.length ∧ xs.length < 1000000 ∧ K .next ⟨σ₃.vs, σ₃.S.set k (xs.set n.toNat v)⟩)
    (hs : ∀ env : Env, swapsWith value (some (.Subscript o i p)) pos.line env = pure false := by intro _; rfl) : WX X (.Assign [.Subscript o i p] value pos) σ K := fun g s Q E r ht c =>
  wpAny_Assign_Subscript (h g s _ E r ht fun g₁ s₁ v x σ₁ l₁ r₁ hv ⟨hit, h₁⟩ ht₁ => h₁ g₁ s₁ _ E r₁ ht₁ fun g₂ s₂ a y σ₂ l₂ r₂ ha ⟨k, e, h₂⟩ ht₂ => h₂ g₂ s₂ _ E r₂ ht₂ fun g₃ s₃ b z σ₃ l₃ r₃ hb ⟨n, e', xs, hS, h0, hn, hsz, hK⟩ ht₃ => by
    subst e e'
    obtain ⟨u, rfl⟩ := hb.int
    obtain ⟨ad, ws, m, rfl, hk, had, hw⟩ := (ha.mono l₃).list r₃.r0 hS
    have hl := hw.length
    refine setItem_at had h0 (by lia) (by lia) fun h' m' he hsb => ?_
    exact c g₃ _ .next .next ⟨σ₃.vs, σ₃.S.set k (xs.set n.toNat v)⟩ ((l₁.trans l₂).trans l₃) (r₃.setList (tk := s₃.toks) hk hsb he (hw.set _ (((hv.mono l₂).mono l₃).it hit))) .next hK ht₃) (hs _)
end
/-! UrnRules5 -/
section
open PySem PyProof.Rows
variable {B : Base} {X : Scene B} {σ : AS}

/-! statements -/
theorem wx_try {body : List Stmt} {h₀ : ExceptHandler} {hs : List ExceptHandler} {pos : Pos} {K : Fl → AS → Prop} (h : WS X body σ fun fl σ' => match fl with | .next => WS X [] σ' K | fl => K fl σ') : WX X (.Try body (h₀ :: hs) [] [] pos) σ K := fun g s Q E r ht c =>
  wpAny_Try_except (h g s _ _ r ht fun g₁ s₁ fl f σ₁ l₁ r₁ hfl hK ht₁ => by
    cases hfl with
    | next => exact hK g₁ s₁ Q E r₁ ht₁ fun g₂ s₂ b a σ₂ l₂ => c g₂ s₂ b a σ₂ (l₁.trans l₂)
    | brk => exact c g₁ s₁ _ _ σ₁ l₁ r₁ .brk hK ht₁
    | cont => exact c g₁ s₁ _ _ σ₁ l₁ r₁ .cont hK ht₁
    | ret hv => exact c g₁ s₁ _ _ σ₁ l₁ r₁ (.ret hv) hK ht₁)
theorem wx_unpack {t : Expr} {es : List Expr} {k : Nat} {tp : Pos} {value : Expr} {pos : Pos} {K : Fl → AS → Prop} (ht : t = .Tuple es k tp) (h : WE X value σ fun v σ₁ => WA X t v σ₁ fun σ₂ => K .next σ₂)
    (hs : ∀ env : Env, swapsWithSole [t] value pos.line env = pure false := by intro _; rfl) (hw : ∀ env : Env, swappedStores [t] value env = pure none := by intro _; rfl) : WX X (.Assign [t] value pos) σ K := fun g s Q E r ht' c => by
  subst ht
  exact PyProof.Rows.Assign_Tuple (h g s _ E r ht' fun g₁ s₁ v x σ₁ l₁ r₁ hv hK ht₁ => hK g₁ x hv s₁ _ E r₁ ht₁ fun g₂ s₂ _ _ σ₂ l₂ r₂ _ hK₂ ht₂ => c g₂ s₂ .next .next σ₂ (l₁.trans l₂) r₂ .next hK₂ ht₂) (hs _) (hw _)

/-- a chain of two comparisons -/
theorem wt_chain {l r₁ r₂ : Expr} {op₁ op₂ : CmpOp} {pos : Pos} {K : Bool → AS → Prop}
    (h : WE X l σ fun a σ₁ => WE X r₁ σ₁ fun b σ₂ => CK X op₁ a b σ₂ fun t σ₃ => (t = false → K false σ₃) ∧ (t = true → WE X r₂ σ₃ fun d σ₄ => CK X op₂ b d σ₄ K))
    (hm : lastMarks [op₁, op₂] [r₁, r₂] = false := by with_unfolding_all rfl) : WT X (.Compare l [op₁, op₂] [r₁, r₂] pos) σ K := fun g s Q E r ht c =>
  isTrue_chain (h g s _ E r ht fun g₁ s₁ a x σ₁ l₁ r₁ v₁ h₁ ht₁ => test_link (h₁ g₁ s₁ _ E r₁ ht₁ fun g₂ s₂ b y σ₂ l₂ r₂ v₂ h₂ ht₂ =>
    h₂ g₂ x y (v₁.mono l₂) v₂ s₂ _ E r₂ ht₂ fun g₃ s₃ t v σ₃ l₃ r₃ hr hK ht₃ => by
      subst hr
      refine wpAny_truthy_bool ?_
      cases t with
      | false => exact c g₃ s₃ false false σ₃ ((l₁.trans l₂).trans l₃) r₃ rfl (hK.1 rfl) ht₃
      | true => exact test_last (hK.2 rfl g₃ s₃ _ E r₃ ht₃ fun g₄ s₄ d z σ₄ l₄ r₄ v₄ h₄ ht₄ => h₄ g₄ y z ((v₂.mono l₃).mono l₄) v₄ s₄ _ E r₄ ht₄ fun g₅ s₅ t v σ₅ l₅ r₅ hr hK₅ ht₅ => by
          subst hr
          exact wpAny_truthy_bool (c g₅ s₅ t t σ₅ ((((l₁.trans l₂).trans l₃).trans l₄).trans l₅) r₅ rfl hK₅ ht₅)))) hm

/-! a list of ints that stands -/
theorem VR.fls {P : PW} {g : Gh} {ns : List Int} {x : Value} (hv : VR P g (.fls ns) x) : ∃ a vs o n, x = .ref a ∧ g.im a = some o ∧ o.cls = .type "list" ∧ o.data = .seq vs.toArray n ∧ All2 (fun i v => AR (.int i) v) ns vs := by
  cases hv with | i hv => cases hv with | fls e h1 h2 h => exact ⟨_, _, _, _, rfl, e, h1, h2, h⟩
theorem ints_are : ∀ {ns : List Int} {vs : List Value}, All2 (fun i v => AR (.int i) v) ns vs → IntsAre vs ns := by
  intro ns vs r
  induction r with
  | nil => exact .nil
  | cons a _ ih => cases a; exact .cons _ _ ih
theorem are_ints : ∀ {ns : List Int} {vs : List Value}, IntsAre vs ns → All2 (fun i v => AR (.int i) v) ns vs := by
  intro ns vs r
  induction r with
  | nil => exact .nil
  | cons i t _ ih => exact .cons (.int i t) ih
theorem ints_pair : ∀ {ns : List Int} {vs : List Value}, All2 (fun i v => AR (.int i) v) ns vs → ∃ xs : List (Int × Tok), vs = xs.map (fun p => .int p.1 p.2) ∧ xs.map (·.1) = ns := by
  intro ns vs r
  induction r with
  | nil => exact ⟨[], rfl, rfl⟩
  | cons a _ ih =>
    cases a
    obtain ⟨xs, rfl, e⟩ := ih
    exact ⟨(_, _) :: xs, rfl, by rw [List.map_cons, e]⟩
theorem bc_sum_fls {ns : List Int} {K : PV → AS → Prop} (h : K (.av (.int ns.sum)) σ) : BC X (.builtin "sum") [.fls ns] σ K := fun g ys hy => .mk fun s Q E r c => by
  obtain ⟨x, rfl, hx⟩ := all2_one hy
  obtain ⟨a, ws, o, n, rfl, ha, hc, hd, hv⟩ := hx.fls
  obtain ⟨xs, rfl, e⟩ := ints_pair hv
  refine sum_intListG (xs := xs.toArray) X.aok.handled ⟨_, r.r0.imm _ _ ha, hc, n, by rw [hd]; simp [intItems]⟩ fun h' tk t' hk => ?_
  have e2 : preSum (numAt xs.toArray) xs.toArray.size = ns.sum := by
    rw [preSum_eq, List.take_of_length_le (by simp)]
    have : numsOf (intItems xs.toArray).toList = ns := by rw [nums_intItems]; simpa using e
    first | (rw [← this]; simp [nums_intItems]; done) | (rw [← e]; simp)
  rw [e2]
  exact c g _ _ _ σ (.refl g) (r.keeps hk) (vint ..) h
noncomputable abbrev nums (ns : List Int) : List PV := ns.map fun i => PV.av (.int i)
theorem ints_vi {P : PW} {fz : Fz} : ∀ {ns : List Int} {vs : List Value}, All2 (fun i v => AR (.int i) v) ns vs → All2 (VI P fz) (nums ns) vs := by
  intro ns vs r
  induction r with
  | nil => exact .nil
  | cons h _ ih => exact .cons (.av h) ih
theorem we_slice_fls {value : Expr} {ns : List Int} {k j : Nat} {p q pos : Pos} {K : PV → AS → Prop} (hn : ns.length < 1000000) (h : WE X value σ fun a σ₁ => a = .fls ns ∧ K (.lst σ₁.S.length) ⟨σ₁.vs, σ₁.S ++ [nums (ns.take k)]⟩)
    (hg : ∀ l r, letTemporaryGo value (.ref l) r = pure () := by intro _ _; with_unfolding_all rfl) : WE X (.Subscript value (.Slice none (some (.Constant (.int (k : Int)) j q)) none p) pos) σ K := fun g s Q E r ht c =>
  Subscript_ (h g s _ E r ht fun g₁ s₁ a v σ₁ l₁ r₁ hv ⟨e, hK⟩ ht₁ => by
    subst e
    obtain ⟨a, ws, o, n, rfl, ha, hc, hd, hw⟩ := hv.fls
    have hl : s₁.heap.IsList a ws.toArray := ⟨_, r₁.r0.imm _ _ ha, hc, n, hd⟩
    refine wpAny_Slice (wpAny_pure (wpAny_Constant_int (pos := q) (k := j) (wpAny_pure ?_)))
    refine wpAny_with_toks (n := 1) (Nat.le_succ_of_le ht₁) ?_
    refine subscriptTail_ops (T := "list") (Heap.IsList.typeIs (hl.push _)) list_getitem_lookup
      (wpAny_getItem_list_slice (lo := none) (hi := some (k : Int)) (st := none) (hl.push _) (Heap.IsSliceOf.new ..) .none (.int _ _) .none (by simp) (fun ht₂ => ?_) (by have := hw.length; rw [List.size_toArray]; exact size_ok (by lia))) (by with_unfolding_all rfl) (hg a)
    have r₂ : Rep B X.fr g₁ σ₁ { s₁ with heap := s₁.heap.push { cls := .type "slice", data := .fields #[.none, .int k s₁.toks, .none] }, toks := s₁.toks + 1 } := r₁.push
    have hp : All2 (VI B.pw g₁.im) (nums (ns.take k)) (slicePick ws.toArray none (some (k : Int)) none).toList := ints_vi (are_ints (slice_ints_uptoW (ints_are hw) (Int.natCast_nonneg k)))
    have r₃ := r₂.newList (tk := s₁.toks + 1) (n := 0) hp
    exact c (g₁.add _) _ (.lst σ₁.S.length) _ ⟨σ₁.vs, σ₁.S ++ [nums (ns.take k)]⟩ (l₁.trans Gh.le_add) r₃ (VR_new g₁ r₂.r0) hK ht₂)

/-- two lists put together -/
theorem bk_addl {k j : Nat} {xs ys : List PV} {vs : List (Option PV)} {S : List (List PV)} {K : PV → AS → Prop} (hx : S[k]? = some xs) (hy : S[j]? = some ys) (hn : xs.length + ys.length < 1000000) (h : K (.lst S.length) ⟨vs, S ++ [xs ++ ys]⟩) :
    BK X .Add (.lst k) (.lst j) ⟨vs, S⟩ K := fun g a b ha hb => .mk fun s Q E r c => by
  obtain ⟨a, ws, n, rfl, _, ha, hw⟩ := ha.list r.r0 hx
  obtain ⟨b, us, m, rfl, _, hb, hu⟩ := hb.list r.r0 hy
  refine P.add_list ha hb ?_ (by have := hw.length; have := hu.length; rw [List.size_toArray, List.size_toArray]; exact size_ok (by lia))
  have r₃ := r.newList (tk := s.toks) (n := 0) (hw.append hu)
  have e : lstObj (ws ++ us) 0 = { cls := .type "list", data := .seq (ws.toArray ++ us.toArray) } := by simp [lstObj]
  rw [e] at r₃
  exact c (g.add _) _ (.lst S.length) _ ⟨vs, S ++ [xs ++ ys]⟩ Gh.le_add r₃ (VR_new g r.r0) h

/-! dicts -/
noncomputable def lookD (es : List (Str × Str)) (x d : Str) : Str := ((es.find? fun e => e.1 = x).map (·.2)).getD d
theorem dict_get {es : List (Str × Str)} {kvs : List (Str × Value)} (h : DR es kvs) (x d : Str) (t : Tok) : ∃ u, (valueAt kvs x).getD (.str d t) = .str (lookD es x d) u := by
  unfold valueAt lookD
  induction h with
  | nil => exact ⟨t, rfl⟩
  | cons a r ih =>
    obtain ⟨e, u, hu⟩ := a
    rename_i p q _ _
    obtain ⟨p1, p2⟩ := p
    obtain ⟨q1, q2⟩ := q
    simp only at e hu
    subst e hu
    by_cases hx : p1 = x
    · subst hx
      refine ⟨u, ?_⟩
      simp [List.find?]
    · simpa [List.find?, hx] using ih
theorem VR.dct {P : PW} {g : Gh} {es : List (Str × Str)} {x : Value} (hv : VR P g (.dct es) x) : ∃ a kvs o, x = .ref a ∧ g.im a = some o ∧ o.IsDictOf (PySem.strKind P.prog P.w) kvs ∧ (a == sysModules) = false ∧ DR es kvs := by
  cases hv with | i hv => cases hv with | dct e h1 h2 h => exact ⟨_, _, _, rfl, e, h1, h2, h⟩
theorem bc_dget {es : List (Str × Str)} {x d : Str} {K : PV → AS → Prop} (h : K (.av (.str (lookD es x d))) σ) : BC X (.builtin "dict.get") [.dct es, .av (.str x), .av (.str d)] σ K := fun g ys hy => .mk fun s Q E r c => by
  obtain ⟨a, b, e, rfl, ha, hb, he⟩ := all2_three hy
  obtain ⟨t, rfl⟩ := hb.str; obtain ⟨u, rfl⟩ := he.str
  obtain ⟨a, kvs, o, rfl, him, hd, hs, hr⟩ := ha.dct
  have hdo : s.heap.DictOf (PySem.strKind B.prog B.w) a kvs := Heap.dictOf_iff.mpr ⟨o, r.r0.imm _ _ him, hd⟩
  refine call_meetsIn PySem.F.slot_dict_get hdo.typeIs PySem.F.entry_dict_get (PySem.F.args_dict_get_3 _ _ _) (meets_dict_get_default (PySem.strKind B.prog B.w) a (k := x) (by simp [PySem.strKind, Value.isStrOf]) hs (.str d u)) ⟨_, hdo.mapOf, ?_⟩
  obtain ⟨t', e⟩ := dict_get hr x d u
  rw [e]
  exact c g _ _ _ σ (.refl g) r.tok (vstr ..) h

/-- a written dict of texts -/
inductive DictIs : List (Option Expr) → List Expr → List (Str × Str) → Prop
  | nil : DictIs [] [] []
  | cons {x y a b p q ks vs es} : DictIs ks vs es → DictIs (some (.Constant (.str x) a p) :: ks) (.Constant (.str y) b q :: vs) ((x, y) :: es)
theorem DictIs.all {ks : List (Option Expr)} {vs : List Expr} {es : List (Str × Str)} (h : DictIs ks vs es) : ks.all (·.isSome) = true ∧ ks.length = vs.length ∧ ks.length = es.length := by
  induction h with
  | nil => exact ⟨rfl, rfl, rfl⟩
  | cons _ ih => exact ⟨by simpa using ih.1, by simp [ih.2.1], by simp [ih.2.2]⟩
theorem pairs_of {env : Env} {pos : Pos} {ks : List (Option Expr)} {vs : List Expr} {es : List (Str × Str)} (e : DictIs ks vs es) : ∀ {s : Shared} {Q : List (Value × Value) → Shared → Prop} {E : Value → Shared → Prop},
    (∀ (ps : List (Value × Value)) tk, s.toks ≤ tk → All2 (fun e p => (∃ t, p.1 = Value.str e.1 t) ∧ ∃ t, p.2 = Value.str e.2 t) es ps → Q ps { s with toks := tk }) → wpAny (model B.prog B.w) X.A (evalPairs (pairTrees ks vs env pos)) Q E s := by
  induction e with
  | nil => intro s Q E h; exact pairTrees_nil_walk (h [] s.toks (Nat.le_refl _) .nil)
  | cons e ih =>
    intro s Q E h
    refine pairTrees_cons_walk (wpAny_Constant_str (wpAny_Constant_str (ih fun ps tk hk hp => ?_)))
    exact h _ tk (Nat.le_trans (Nat.le_add_right _ 2) hk) (.cons ⟨⟨_, rfl⟩, ⟨_, rfl⟩⟩ hp)
theorem kvs_of : ∀ {es : List (Str × Str)} {ps : List (Value × Value)}, All2 (fun e p => (∃ t, p.1 = Value.str e.1 t) ∧ ∃ t, p.2 = Value.str e.2 t) es ps → ∃ kvs : List (Str × Value), Carries (PySem.strKind B.prog B.w) ps kvs ∧ DR es kvs ∧ kvs.map (·.1) = es.map (·.1) := by
  intro es ps r
  induction r with
  | nil => exact ⟨[], trivial, .nil, rfl⟩
  | cons a _ ih =>
    rename_i e p _ _ _
    obtain ⟨⟨t, h1⟩, ⟨u, h2⟩⟩ := a
    obtain ⟨kvs, c1, c2, c3⟩ := ih
    obtain ⟨p1, p2⟩ := p
    simp only at h1 h2
    subst h1 h2
    exact ⟨(e.1, .str e.2 u) :: kvs, ⟨by simp [PySem.strKind, Value.isStrOf], rfl, c1⟩, .cons ⟨rfl, u, rfl⟩ c2, by simp [c3]⟩
theorem merged_nodup : ∀ (kvs acc : List (Str × Value)), ((acc ++ kvs).map (·.1)).Nodup → merged acc kvs = acc ++ kvs
  | [], acc, _ => by simp [merged]
  | (k, v) :: r, acc, h => by
    have hs : stored acc k v = acc ++ [(k, v)] := by
      unfold stored
      have : (acc.any fun kv => decide (kv.1 = k)) = false := by
        rw [List.any_eq_false]
        intro z hz hk
        have hk' : z.1 = k := by simpa using hk
        rw [List.map_append, List.nodup_append] at h
        exact h.2.2 z.1 (List.mem_map_of_mem (f := (·.1)) hz) k (by simp) hk'
      rw [this]; rfl
    show merged (stored acc k v) r = _
    rw [hs]
    have := merged_nodup r (acc ++ [(k, v)]) (by simpa using h)
    rw [this]; simp
theorem Rep.put {fr : Frm} {g : Gh} {s : Shared} {D : Addr} {o : Obj} (r : Rep B fr g σ s) (ho : s.heap.get? D = some o) (ap : Apart B fr g [D]) : Rep B fr (g.put D o) σ s := by
  obtain ⟨a1, a2, a3, a4⟩ := ap D List.mem_cons_self
  have r0 : Rep0 B (g.put D o) σ.S s := {
    base := r.r0.base
    keep := r.r0.keep
    imm := fun a p e => by
      by_cases ha : a = D
      · subst ha; rw [Gh.put_self] at e; cases e; exact ho
      · simp only [Gh.put, ha, if_false] at e; exact r.r0.imm a p e
    apart := fun b p e hb => by
      have e : g.fz b = some p := e
      have : b ≠ D := by intro q; rw [q, a1.2] at e; cases e
      simp only [Gh.put, this, if_false]; exact r.r0.apart b p e hb
    lists := r.r0.lists.imp fun b xs ⟨vs, n, e, h⟩ => ⟨vs, n, e, h.imp fun _ _ h => h.mono (Gh.le_put a1).im⟩
    nodup := r.r0.nodup
    off := fun a ha => Gh.off_put (r.r0.off a ha) (by rintro rfl; exact a2 ha)
    gens := r.r0.gens
    drawn := r.r0.drawn
    os := r.r0.os }
  exact r.change (h' := s.heap) (tk := s.toks) (Gh.le_put a1) r0 fun a ha => ⟨fun _ e => e, Gh.off_put (r.old ha).1 (by rintro rfl; exact a3 ha), (r.old ha).2.1⟩
theorem BaseOk.size {g : Gh} {fr : Frm} {s : Shared} (bok : BaseOk B) (r : Rep B fr g σ s) : (s.heap.objs.size == sysModules) = false := by
  obtain ⟨mc, ⟨o, _, _, ho, _⟩, _⟩ := bok.nodigits
  have h := Heap.lt_size (r.r0.keep _ _ (r.r0.base _ _ ho))
  have h : 2 < s.heap.objs.size := h
  have : s.heap.objs.size ≠ sysModules := by show _ ≠ 1; lia
  simpa using this
theorem we_dict {ks : List (Option Expr)} {vs : List Expr} {pos : Pos} {es : List (Str × Str)} {K : PV → AS → Prop} (he : DictIs ks vs es) (hnd : (es.map (·.1)).Nodup) (h0 : es ≠ []) (hlen : es.length ≤ 15)
    (h : K (.dct es) σ) : WE X (.Dict ks vs pos) σ K := fun g s Q E r ht c => by
  obtain ⟨e1, e2, e3⟩ := he.all
  refine wpAny_Dict_walk (knd := PySem.strKind B.prog B.w) e1 e2 (by rintro rfl; exact h0 (List.length_eq_zero_iff.mp e3.symm)) (by lia) (pairs_of he fun ps tk hk hp => ?_)
  obtain ⟨kvs, hc, hr, hm⟩ := kvs_of (B := B) hp
  have hnew : (s.heap.push { cls := .type "dict", data := .dict #[] }).get? s.heap.objs.size = some { cls := .type "dict", data := .dict #[] } := Heap.get?_push_size _ rfl
  refine ⟨kvs, hc, ⟨_, #[], 0, hnew, ⟨rfl, rfl, rfl⟩, rfl, ?_, ?_, List.nodup_nil⟩, fun h' hd hsb => ?_⟩
  · first | exact trivial | (intro e hx; simp at hx; done) | (simp [KeysOf]; done)
  · first | exact trivial | exact .nil | (simp [Pairs]; done)
  · rw [merged_nodup kvs [] (by rw [List.nil_append, hm]; exact hnd)] at hd
    obtain ⟨o, ho, hd⟩ := Heap.dictOf_iff.mp hd
    have hkeep : ∀ b p, s.heap.get? b = some p → h'.get? b = some p := fun b p e => hsb.extBut b p (Nat.ne_of_lt (Heap.lt_size e)) (Heap.get?_push_of_some _ e)
    have r₁ : Rep B X.fr g σ { s with heap := h', toks := tk + ps.length } := r.keeps hkeep
    have r₂ := r₁.put ho (r.apartNew (o := default) (tk := 0))
    refine c _ _ (.dct es) _ σ (Gh.le_put r.r0.fresh) r₂ ?_ h (Nat.le_trans ht (Nat.le_trans hk (Nat.le_add_right _ _)))
    exact .i (.dct (Gh.put_self ..) hd (X.bok.size r) hr)
end
/-! UrnTup -/
section
open PySem PyProof.Rows PySem.W
variable {B : Base} {X : Scene B} {σ : AS}

section
open Builtin Builtin.Tuple SeqAt MeetsSeq
theorem tuple_lt_strs (l b : Addr) (x y : Str) (t u : Tok) (v z : Value) (n n2 : Nat) (hne : (x == y) = false) :
    Meets (Builtin.«tuple.__lt__» ⟨[.ref l, .ref b], []⟩)
      (fun A R s => s.heap.get? l = some { cls := .type "tuple", dict := none, data := .seq #[.str x t, v] n, slots := #[] } ∧ s.heap.get? b = some { cls := .type "tuple", dict := none, data := .seq #[.str y u, z] n2, slots := #[] } ∧
        R (.ok (.ret (.bool (decide (x.cps.toList < y.cps.toList))))) s) :=
  .of_wp fun prog w A R s h => by
    obtain ⟨hp, g, d, tk, os⟩ := s; obtain ⟨hl, hb, h⟩ := h
    have f2 := AutoSeq1.sub_tuple_tuple
    have turn1 : ∀ (A : Around) (E : Value → Shared → Prop) (Q : Bool → Shared → Prop) s, Q false s → wpAny (model prog w) A (eqBool (.str x t) (.str y u)) Q E s := fun A E Q s hq => by
      have := EqAt.str_str (A := A) (s := s) x t y u prog w E Q
      rw [hne] at this
      exact this hq
    wp_walk using wpAny_loadPart' hl, wpAny_loadPart' hb, wpAny_forIn_list _ (fun rest b s' => b.1 = none ∧ s' = ⟨hp, g, d, tk, os⟩ ∧ (rest = [(.str x t, .str y u), (v, z)])) _
    case turn =>
      rintro ⟨p, q⟩ rest b s' ⟨hb', rfl, e⟩
      injection e with e1 e2
      injection e1 with e3 e4
      subst e3 e4
      refine wpAny_bind (turn1 _ _ _ _ ?_)
      simp only [Bool.not_false, if_true]
      refine wpAny_bind (wpAny_rule (wpAny_bind ?_))
      have lt := PyProof.Rows.lt_str (prog := prog) (w := w) (A := A.in1) (E := fun e s' => R (.error e) s') (s := ⟨hp, g, d, tk, os⟩) (x := x) (y := y) (t := t) (u := u)
        (Q := fun v s' => v = .bool (decide (x.cps.toList < y.cps.toList)) ∧ s' = ⟨hp, g, d, tk, os⟩) ⟨rfl, rfl⟩
      refine wpAny_mono (show wpAny (model prog w) A.in1 (richCompare .Lt (.str x t) (.str y u)) _ _ _ from lt) (fun r s' hr => ?_) fun _ _ e => e
      obtain ⟨rfl, rfl⟩ := hr
      refine wpAny_bind (wpAny_pure (wpAny_pure (wpAny_pure ?_)))
      exact ⟨_, rfl, h⟩
    case fin =>
      rintro b s' ⟨_, _, e⟩
      cases e
    case h => exact ⟨rfl, rfl, rfl⟩
theorem lt_tuple {prog : Program} {w : World} {A : Around} {E : Value → Shared → Prop} {s : Shared} {l b : Addr} {x y : Str} {t u : Tok} {v z : Value} {n n2 : Nat} {Q : Value → Shared → Prop} (hl : s.heap.get? l = some (tupObj [.str x t, v] n)) (hb : s.heap.get? b = some (tupObj [.str y u, z] n2))
    (hne : (x == y) = false) (hu : A.units < cLine) (h : Q (.bool (decide (x.cps.toList < y.cps.toList))) s) : wpAny (model prog w) A (compareOp .Lt (.ref l) (.ref b)) Q E s := by
  show wpAny _ _ (richCompare .Lt _ _) _ _ _
  exact richCompare_meets_room (op := .Lt) ⟨_, hl, rfl⟩ ⟨_, hb, rfl⟩ F.slot_tuple_lt F.entry_tuple_lt (F.args_tuple_lt_2 _ _) (tuple_lt_strs l b x y t u v z n n2 hne)
    ⟨hl, hb, show _ ∧ _ from ⟨(fun e => nomatch e), h⟩⟩ hu
theorem ne_tuple {prog : Program} {w : World} {A : Around} {E : Value → Shared → Prop} {s : Shared} {l b : Addr} {i j p q : Int} {t u t' u' : Tok} {n n2 : Nat} {Q : Value → Shared → Prop} (hl : s.heap.get? l = some (tupObj [.int i t, .int p t'] n)) (hb : s.heap.get? b = some (tupObj [.int j u, .int q u'] n2))
    (hu : A.units < cLine) (h : Q (.bool (!(i == j && p == q))) s) : wpAny (model prog w) A (compareOp .NotEq (.ref l) (.ref b)) Q E s := by
  show wpAny _ _ (richCompare .NotEq _ _) _ _ _
  refine RcNeAt.tuples (A := A) (s := s) (items := #[.int i t, .int p t']) (items2 := #[.int j u, .int q u']) (e := fun k => if k = 0 then i == j else p == q) ⟨_, hl, rfl, n, rfl⟩ ⟨_, hb, rfl, n2, rfl⟩ hu (fun k h1 h2 => ?_) prog w E Q ?_
  · match k, h1, h2 with
    | 0, _, _ => exact EqAt.int_int i t j u
    | 1, _, _ => exact EqAt.int_int p t' q u'
    | k + 2, h1, _ => simp at h1; lia
  · have e : (!((List.range (min (#[Value.int i t, Value.int p t'] : Array Value).size (#[Value.int j u, Value.int q u'] : Array Value).size)).all (fun k => if k = 0 then i == j else p == q) && (#[Value.int i t, Value.int p t'] : Array Value).size == (#[Value.int j u, Value.int q u'] : Array Value).size)) = (!(i == j && p == q)) := by
      simp [List.range, List.range.loop]
    rw [e]; exact h
end

theorem ck_lt_tup {x y : Str} {a b : At} {K : Bool → AS → Prop} (hne : (x == y) = false) (h : K (decide (x.cps.toList < y.cps.toList)) σ) : CK X .Lt (.tup [.str x, a]) (.tup [.str y, b]) σ K := fun g u v hu hv => .mk fun s Q E r c => by
  obtain ⟨l, ws, n, rfl, hl, hw⟩ := hu.tup
  obtain ⟨m, us, n2, rfl, hm, hu'⟩ := hv.tup
  obtain ⟨w1, w2, rfl, h1, h2⟩ := all2_two hw
  obtain ⟨u1, u2, rfl, h3, h4⟩ := all2_two hu'
  cases h1; cases h3
  exact lt_tuple (r.r0.imm _ _ hl) (r.r0.imm _ _ hm) hne (by have := X.aok.units; lia) (c g _ _ _ σ (.refl g) r rfl h)
theorem ck_ne_tup {i j p q : Int} {K : Bool → AS → Prop} (h : K (!(i == j && p == q)) σ) : CK X .NotEq (.tup [.int i, .int p]) (.tup [.int j, .int q]) σ K := fun g u v hu hv => .mk fun s Q E r c => by
  obtain ⟨l, ws, n, rfl, hl, hw⟩ := hu.tup
  obtain ⟨m, us, n2, rfl, hm, hu'⟩ := hv.tup
  obtain ⟨w1, w2, rfl, h1, h2⟩ := all2_two hw
  obtain ⟨u1, u2, rfl, h3, h4⟩ := all2_two hu'
  cases h1; cases h3; cases h2; cases h4
  exact ne_tuple (r.r0.imm _ _ hl) (r.r0.imm _ _ hm) (by have := X.aok.units; lia) (c g _ _ _ σ (.refl g) r rfl h)

/-! replace, split -/
theorem we_replace {o : Expr} {y z : Str} {j k : Nat} {p q apos pos : Pos} {K : PV → AS → Prop} (hyz : (y == z) = false) (h : WE X o σ fun a σ₁ => ∃ x : Str, a = .av (.str x) ∧ x.length + (x.length + 1) * z.length ≤ 16777216 ∧ K (.av (.str (Txt.replace x y z))) σ₁)
    (hbase : ∀ env, attributeBase o (Str.ofString "replace") env (eval o env) = eval o env := by intro _; rfl) (hline : (apos.endLine == pos.line) = true := by rfl) :
    WE X (.Call (.Attribute o (Str.ofString "replace") apos) [.Constant (.str y) j p, .Constant (.str z) k q] [] pos) σ K := fun g s Q E r ht c =>
  wpAny_Call_method_lateS (hbase _) rfl hline (h g s _ E r ht fun g₁ s₁ a v σ₁ l₁ r₁ hv ⟨x, e, hb, hK⟩ ht₁ => by
    subst e
    obtain ⟨t, rfl⟩ := hv.str
    refine ⟨"str", "str.replace", PySem.F.plainAttrs_str, PySem.F.slot_str_replace, PySem.F.type_str_replace, typeIs_str _ _ _, fun a e => (nomatch e), ?_⟩
    refine Calls.callWith_builtin rfl (Calls.evalArgs_plain (Calls.spliced_cons (wpAny_Constant_str (pos := p) (k := j) (Calls.spliced_cons (wpAny_Constant_str (pos := q) (k := k) (Calls.spliced_nil ?_))))))
    refine wpAny_with_toks (n := 1) (Nat.le_succ_of_le (Nat.le_succ_of_le ht₁)) ?_
    have h0 : s₁.toks ≠ 0 := by lia
    have h1 : s₁.toks + 1 ≠ 0 := by lia
    have h2 : s₁.toks ≠ s₁.toks + 1 := by lia
    exact SC.replace h0 h1 h2 hyz hb fun t' k hk => c g₁ _ _ _ σ₁ l₁ r₁.tok (vstr ..) hK hk)
theorem strsFrom_vi {P : PW} {fz : Fz} : ∀ (xs : List Str) (k : Nat), All2 (VI P fz) (xs.map fun x => .av (.str x)) (strsFrom k xs)
  | [], k => .nil
  | x :: r, k => .cons (.av (.str x k)) (strsFrom_vi r (k + 1))
theorem bc_split {x y : Str} {vs : List (Option PV)} {S : List (List PV)} {K : PV → AS → Prop} (h1 : (decide (x.length < y.length) || decide (Builtin.Str.strKind x < Builtin.Str.strKind y)) = false) (hy : (y.length == 0) = false)
    (hf : (Builtin.Str.occurrences x y 0 x.length (x.length + 1)).isEmpty = false) (hx : x.length < 1000000) (hn : (Txt.split x y).length < 1000000) (h : K (.lst S.length) ⟨vs, S ++ [(Txt.split x y).map fun x => .av (.str x)]⟩) :
    BC X (.builtin "str.split") [.av (.str x), .av (.str y)] ⟨vs, S⟩ K := fun g ys hys => .mk fun s Q E r c => by
  obtain ⟨a, b, rfl, ha, hb⟩ := all2_two hys
  obtain ⟨t, rfl⟩ := ha.str; obtain ⟨u, rfl⟩ := hb.str
  have e : Txt.split x y = Builtin.Str.partsBetween x (Builtin.Str.occurrences x y 0 x.length (x.length + 1)) y.length := by
    unfold Txt.split; rw [h1, hf]; rfl
  rw [e] at hn h
  refine call_meets PySem.F.slot_str_split (typeIs_str _ _ _) PySem.F.entry_str_split (PySem.F.args_str_split_2 _ _) (meets_str_split_sep x y t u h1 hy hf (size_ok hx) (size_ok hn)) ?_
  have r₂ := r.newList (tk := s.toks + (Builtin.Str.partsBetween x (Builtin.Str.occurrences x y 0 x.length (x.length + 1)) y.length).length) (n := 0) (strsFrom_vi (P := B.pw) (fz := g.im) (Builtin.Str.partsBetween x (Builtin.Str.occurrences x y 0 x.length (x.length + 1)) y.length) s.toks)
  exact c (g.add _) _ (.lst S.length) _ ⟨vs, S ++ [_]⟩ Gh.le_add r₂ (VR_new g r.r0) h
end
/-! UrnSort -/
section
open PySem PyProof.Rows PySem.W
variable {B : Base} {X : Scene B} {σ : AS}

noncomputable abbrev noHeap : Heap := {}
theorem noHeap_none (a : Addr) : noHeap.get? a = none := by
  cases h : noHeap.get? a with
  | none => rfl
  | some o => exact absurd (Heap.lt_size h) (by simp)
/-- the ledger of all that lies on a heap but one address -/
noncomputable def allBut (h : Heap) (L : Addr) : List (Addr × Obj) := ((List.range h.objs.size).filter fun a => a ≠ L).filterMap fun a => (h.get? a).map fun o => (a, o)
theorem mem_allBut {h : Heap} {L a : Addr} {o : Obj} : (a, o) ∈ allBut h L ↔ h.get? a = some o ∧ a ≠ L := by
  unfold allBut
  simp only [List.mem_filterMap, List.mem_filter, List.mem_range, decide_eq_true_eq]
  constructor
  · rintro ⟨b, ⟨h1, h2⟩, e⟩
    obtain ⟨p, hp, e⟩ := Option.map_eq_some_iff.mp e
    cases e; exact ⟨hp, h2⟩
  · rintro ⟨h1, h2⟩
    exact ⟨a, ⟨Heap.lt_size h1, h2⟩, by rw [h1]; rfl⟩
theorem news_allBut (h : Heap) (L : Addr) : News noHeap L h (allBut h L) := fun p hp => by
  obtain ⟨a, o⟩ := p
  obtain ⟨h1, h2⟩ := mem_allBut.mp hp
  exact ⟨h1, h2, noHeap_none _⟩
theorem Rep.back' {fr : Frm} {g : Gh} {s : Shared} {h' : Heap} {tk : Nat} (r : Rep B fr g σ s) {m : Str → Option Value} (hm : s.heap.Ns fr.env.locals m) (hs : All2 (SlotR B.pw s.heap g m) fr.N σ.vs) (hm' : h'.Ns fr.env.locals m) (hk : ∀ a o, a ≠ fr.env.locals → s.heap.get? a = some o → h'.get? a = some o) (fok : FrmOk fr) :
    Rep B fr g σ { s with heap := h', toks := tk } where
  r0 := r.r0.ext r.lfz r.lls fun a o hne e => hk a o hne e
  ns := by
    refine ⟨m, hm', hs.impMem fun p o hp ho => ?_⟩
    obtain ⟨x, loc⟩ := p
    cases loc with
    | dict => exact ho
    | cell c =>
      obtain ⟨h1, h2, vo, ⟨ob, hob, hd⟩, h4⟩ := ho
      have hc : c ≠ fr.env.locals := by
        rintro rfl
        exact (List.nodup_cons.mp fok.cnodup).1 (cellsOf_mem hp)
      exact ⟨h1, h2, vo, ⟨ob, hk c ob hc hob, hd⟩, h4⟩
    | free c => exact ho
  lfz := r.lfz
  lls := r.lls
/-- a list that lies on the heap comes into the store -/
theorem Rep.addList {fr : Frm} {g : Gh} {s : Shared} {D : Addr} {vs : List Value} {xs : List PV} {n : Nat} (r : Rep B fr g σ s) (ho : s.heap.get? D = some (lstObj vs n)) (ap : Apart B fr g [D]) (h : All2 (VI B.pw g.im) xs vs) :
    Rep B fr (g.add D) ⟨σ.vs, σ.S ++ [xs]⟩ s := by
  obtain ⟨a1, a2, a3, a4⟩ := ap D List.mem_cons_self
  have r0 : Rep0 B (g.add D) (σ.S ++ [xs]) s := {
    base := r.r0.base
    keep := r.r0.keep
    imm := r.r0.imm
    apart := r.r0.apart
    lists := (r.r0.lists.imp fun b xs ⟨vs, n, e, h⟩ => ⟨vs, n, e, h⟩).append (.cons ⟨vs, n, ho, h⟩ .nil)
    nodup := by
      show (g.ls ++ [_]).Nodup
      rw [List.nodup_append]
      refine ⟨r.r0.nodup, by simp, fun a ha b hb => ?_⟩
      rw [List.mem_singleton.mp hb]; rintro rfl; exact a2 ha
    off := fun a ha => by
      rcases List.mem_append.mp ha with h | h
      · exact r.r0.off a h
      · rw [List.mem_singleton.mp h]; exact a1
    gens := r.r0.gens
    drawn := r.r0.drawn
    os := r.r0.os }
  exact r.change (h' := s.heap) (tk := s.toks) Gh.le_add r0 fun a ha => ⟨fun _ e => e, (r.old ha).1, fun hm => by
    rcases List.mem_append.mp hm with h | h
    · exact (r.old ha).2.1 h
    · exact a3 (List.mem_singleton.mp h ▸ ha)⟩

theorem kas3 {cmp : Nat → Nat → (Bool → Shared → Prop) → Shared → Prop} {C : Array Nat → Shared → Prop} {s : Shared} (h10 : ∀ Q : Bool → Shared → Prop, Q false s → cmp 1 0 Q s) (h21 : ∀ Q : Bool → Shared → Prop, Q false s → cmp 2 1 Q s) (hC : C #[0, 1, 2] s) : KasT.kasWp cmp (kas_sort 3) C s := by
  show cmp 1 0 _ s
  refine h10 _ ?_
  show cmp 2 1 _ s
  refine h21 _ ?_
  exact hC
theorem keyLt_two {prog : Program} {w : World} {A : Around} {s : Shared} {a b : Addr} {x y : Str} {t u : Tok} {v z : Value} {n n2 : Nat} {Q : Bool → Shared → Prop} (hl : s.heap.get? a = some (tupObj [.str x t, v] n)) (hb : s.heap.get? b = some (tupObj [.str y u, z] n2))
    (hne : x ≠ y) (hlt : ¬ x.cps.toList < y.cps.toList) (h : Q false s) : wpAny (model prog w) A (keyLt' (tuples' true) (.ref a) (.ref b)) Q (fun _ _ => False) s := by
  refine kat_lt hl rfl hb rfl ?_
  show KatLex prog w A true _ Q [(.str x t, .str y u), (v, z)] 0 s
  refine kat_cons (wpAny_eqBool_str ?_)
  rw [decide_eq_false hne]
  refine kat_no (oneLt_str ?_)
  rw [decide_eq_false hlt]
  exact h
/-- three pairs in order, sorted -/
theorem bc_sorted3 {k : Nat} {x y z : Str} {a b d : At} {vs : List (Option PV)} {S : List (List PV)} {K : PV → AS → Prop} (hS : S[k]? = some [.tup [.str x, a], .tup [.str y, b], .tup [.str z, d]])
    (hxy : x ≠ y ∧ ¬ y.cps.toList < x.cps.toList) (hyz : y ≠ z ∧ ¬ z.cps.toList < y.cps.toList) (h : K (.lst S.length) ⟨vs, S ++ [[.tup [.str x, a], .tup [.str y, b], .tup [.str z, d]]]⟩) :
    BC X (.builtin "sorted") [.lst k] ⟨vs, S⟩ K := fun g ys hy => .mk fun s Q E r c => by
  obtain ⟨x', rfl, hx⟩ := all2_one hy
  obtain ⟨l, ws, n, rfl, hk, hl, hw⟩ := hx.list r.r0 hS
  obtain ⟨v1, v2, v3, rfl, i1, i2, i3⟩ := all2_three hw
  obtain ⟨l1, w1, n1, rfl, hl1, hw1⟩ := i1.tup'
  obtain ⟨l2, w2, n2, rfl, hl2, hw2⟩ := i2.tup'
  obtain ⟨l3, w3, n3, rfl, hl3, hw3⟩ := i3.tup'
  obtain ⟨p1, q1, rfl, f1, f1'⟩ := all2_two hw1
  obtain ⟨p2, q2, rfl, f2, f2'⟩ := all2_two hw2
  obtain ⟨p3, q3, rfl, f3, f3'⟩ := all2_two hw3
  cases f1; rename_i t1
  cases f2; rename_i t2
  cases f3; rename_i t3
  obtain ⟨m, hm, hs⟩ := r.ns
  have F : Fr noHeap X.fr.env.locals s.heap m := ⟨hm, fun b o e => absurd e (by rw [noHeap_none]; simp), Nat.zero_le _⟩
  have N := news_allBut s.heap X.fr.env.locals
  have imm : ∀ {a o}, g.im a = some o → ∀ {h' nw}, News noHeap X.fr.env.locals h' nw → (∀ p ∈ allBut s.heap X.fr.env.locals, p ∈ nw) → h'.get? a = some o := fun {a o} e {h' nw} N' hsub =>
    N'.get (hsub _ (mem_allBut.mpr ⟨r.r0.imm _ _ e, fun q => by rw [q, r.lfz.1] at e; cases e⟩))
  refine kat_sorted F N (vs := [.ref l1, .ref l2, .ref l3]) ⟨_, hl, rfl, n, rfl⟩ (by simp) (by simp) fun D e1 h' F' N' hD => ?_
  have sub : ∀ p ∈ allBut s.heap X.fr.env.locals, p ∈ (D, seqObj "list" #[] e1) :: allBut s.heap X.fr.env.locals := fun p hp => .tail _ hp
  have g1 := imm hl1 N' sub
  have g2 := imm hl2 N' sub
  have g3 := imm hl3 N' sub
  refine kat_kind (T := .type "str") (fs := [.str x t1, .str y t2, .str z t3]) (.cons g1 rfl rfl rfl (.cons g2 rfl rfl rfl (.cons g3 rfl rfl rfl .nil))) (by simp) (fun v hv => ?_) (by decide) ?_
  · rcases List.mem_cons.mp hv with rfl | hv
    · exact Looks.of_pure rfl
    rcases List.mem_cons.mp hv with rfl | hv
    · exact Looks.of_pure rfl
    rcases List.mem_cons.mp hv with rfl | hv
    · exact Looks.of_pure rfl
    · cases hv
  show KasT.kasWp _ (kas_sort 3) _ _
  refine kas3 (fun Q hq => keyLt_two (s := { s with heap := h' }) g2 g1 (Ne.symm hxy.1) hxy.2 hq) (fun Q hq => keyLt_two (s := { s with heap := h' }) g3 g2 (Ne.symm hyz.1) hyz.2 hq) ?_
  refine KasFin.intro F' N' (.head fun q hq => Nat.ne_of_lt (hD q hq)) fun h₂ c' F₂ N₂ => ?_
  have kp : ∀ a o, a ≠ X.fr.env.locals → s.heap.get? a = some o → h₂.get? a = some o := fun a o hne e => N₂.get (.tail _ (mem_allBut.mpr ⟨e, hne⟩))
  have r₂ : Rep B X.fr g ⟨vs, S⟩ { s with heap := h₂ } := r.back' (tk := s.toks) hm hs F₂.ns kp X.fok
  have hDn : ∀ o, s.heap.get? D = some o → False := fun o e => by
    by_cases hL : D = X.fr.env.locals
    · exact (N' _ List.mem_cons_self).2.1 hL
    · exact absurd (hD _ (mem_allBut.mpr ⟨e, hL⟩)) (Nat.lt_irrefl _)
  have ap : Apart B X.fr g [D] := fun a ha => by
    rw [List.mem_singleton.mp ha]
    refine ⟨⟨?_, ?_⟩, fun hm => ?_, fun hm => ?_, ?_⟩
    · cases q : g.im D with
      | none => rfl
      | some o => exact (hDn o (r.r0.imm _ _ q)).elim
    · cases q : g.fz D with
      | none => rfl
      | some o => exact (hDn o (r.r0.keep _ _ q)).elim
    · obtain ⟨o, e⟩ := r.r0.lt hm; exact hDn o e
    · obtain ⟨_, _, o, e⟩ := r.old hm; exact hDn o e
    · cases q : B.s.heap.get? D with
      | none => rfl
      | some o => exact (hDn o (r.r0.keep _ _ (r.r0.base _ _ q))).elim
  have hgD : h₂.get? D = some (lstObj [.ref l1, .ref l2, .ref l3] c') := N₂.get List.mem_cons_self
  have r₃ := r₂.addList hgD ap (xs := [.tup [.str x, a], .tup [.str y, b], .tup [.str z, d]]) (.cons i1 (.cons i2 (.cons i3 .nil)))
  exact c (g.add D) _ (.lst S.length) _ ⟨vs, S ++ [_]⟩ Gh.le_add r₃ (.lst (by rw [← r.r0.lists.length]; simp [Gh.add])) h
end
/-! UrnSrc -/
section
open PySem PyProof.Rows
variable {B : Base} {X : Scene B} {σ : AS}

theorem Rep.extMany {fr : Frm} {g : Gh} {s : Shared} {as : List Addr} {h' : Heap} {tk : Nat} (r : Rep B fr g σ s) (ap : Apart B fr g as) (hk : ∀ c o, c ∉ as → s.heap.get? c = some o → h'.get? c = some o) : Rep B fr g σ { s with heap := h', toks := tk } := by
  have r0 : Rep0 B g σ.S { s with heap := h', toks := tk } := {
    base := r.r0.base
    keep := fun b o e => hk b o (fun hm => by rw [(ap b hm).1.2] at e; cases e) (r.r0.keep b o e)
    imm := fun b o e => hk b o (fun hm => by rw [(ap b hm).1.1] at e; cases e) (r.r0.imm b o e)
    apart := r.r0.apart
    lists := r.r0.lists.impMem fun b xs hb ⟨vs, n, e, h⟩ => ⟨vs, n, hk b _ (fun hm => (ap b hm).2.1 hb) e, h⟩
    nodup := r.r0.nodup
    off := r.r0.off
    gens := r.r0.gens
    drawn := r.r0.drawn
    os := r.r0.os }
  exact r.change (.refl g) r0 fun a ha => ⟨fun o e => hk a o (fun hm => (ap a hm).2.2.1 ha) e, (r.old ha).1, (r.old ha).2.1⟩

noncomputable abbrev ats (as : List At) : List PV := as.map PV.av
theorem ats_vi {P : PW} {fz : Fz} {as : List At} {vs : List Value} (h : All2 (VI P fz) (ats as) vs) : All2 AR as vs := by
  induction as generalizing vs with
  | nil => cases h; exact .nil
  | cons a as ih =>
    cases h with
    | cons p r =>
      cases p with
      | av q => exact .cons q (ih r)
noncomputable abbrev pairs (as bs : List At) : List PV := (as.zip bs).map fun p => PV.tup [p.1, p.2]

theorem all5 {P : Addr → Prop} {a b c d e : Addr} (h1 : P a) (h2 : P b) (h3 : P c) (h4 : P d) (h5 : P e) : ∀ x ∈ [a, b, c, d, e], P x := by
  intro x h
  simp only [List.mem_cons, List.not_mem_nil, or_false] at h
  rcases h with rfl | rfl | rfl | rfl | rfl <;> assumption
theorem not5 {x a b c d e : Addr} (h : x ∉ [a, b, c, d, e]) : x ≠ a ∧ x ≠ b ∧ x ≠ c ∧ x ≠ d ∧ x ≠ e := by
  simp only [List.mem_cons, List.not_mem_nil, or_false, not_or] at h
  exact h
noncomputable abbrev ZipIt (z TI TO i1 i2 l1 l2 : Addr) (i : Nat) (h : Heap) : Prop := IsZip h z TI TO .none ∧ IsPair h TI (.ref i1) (.ref i2) ∧ (∃ a b, IsPair h TO a b) ∧ h.IsListIter i1 l1 i ∧ h.IsListIter i2 l2 i
theorem zip_obj {z TI TO i1 i2 l1 l2 : Addr} {i : Nat} {h : Heap} (H : ZipIt z TI TO i1 i2 l1 l2 i h) : ∀ a ∈ [z, TI, TO, i1, i2], ∃ o, h.get? a = some o := by
  obtain ⟨h1, h2, ⟨_, _, h3⟩, ⟨_, h4, _⟩, ⟨_, h5, _⟩⟩ := H
  exact all5 ⟨_, h1⟩ ⟨_, h2⟩ ⟨_, h3⟩ ⟨_, h4⟩ ⟨_, h5⟩
theorem zip_frame {z TI TO i1 i2 l1 l2 : Addr} {i : Nat} {h h' : Heap} (H : ZipIt z TI TO i1 i2 l1 l2 i h) (hk : ∀ a ∈ [z, TI, TO, i1, i2], ∀ o, h.get? a = some o → h'.get? a = some o) : ZipIt z TI TO i1 i2 l1 l2 i h' := by
  obtain ⟨h1, h2, ⟨a, b, h3⟩, h4, h5⟩ := H
  have m0 := List.mem_cons_self (a := z) (l := [TI, TO, i1, i2])
  have m1 : TI ∈ [z, TI, TO, i1, i2] := .tail _ (.head _)
  have m2 : TO ∈ [z, TI, TO, i1, i2] := .tail _ (.tail _ (.head _))
  have m3 : i1 ∈ [z, TI, TO, i1, i2] := .tail _ (.tail _ (.tail _ (.head _)))
  have m4 : i2 ∈ [z, TI, TO, i1, i2] := .tail _ (.tail _ (.tail _ (.tail _ (.head _))))
  exact ⟨hk z m0 _ h1, hk TI m1 _ h2, ⟨a, b, hk TO m2 _ h3⟩, h4.at (hk i1 m3), h5.at (hk i2 m4)⟩
theorem zip_turn {A : Around} {elts : List Expr} {kk : Nat} {tp : Pos} {z TI TO i1 i2 l1 l2 : Addr} (D : ZipApart z TI TO i1 i2 l1 l2) {fr : Frm} {g : Gh} {s : Shared} {i : Nat} {ws1 ws2 : List Value} {n1 n2 : Nat} {x y : Value} {a b : At} {Q : Value → Shared → Prop} {E : Value → Shared → Prop}
    (r : Rep B fr g σ s) (hit : ZipIt z TI TO i1 i2 l1 l2 i s.heap) (ap : Apart B fr g [z, TI, TO, i1, i2]) (hl1 : s.heap.get? l1 = some (lstObj ws1 n1)) (hl2 : s.heap.get? l2 = some (lstObj ws2 n2)) (hx1 : ws1[i]? = some x) (hy1 : ws2[i]? = some y) (hx2 : AR a x) (hy2 : AR b y)
    (hQ : ∀ g' h' tk x, g.Le g' → Rep B fr g' σ { s with heap := h', toks := tk } → ZipIt z TI TO i1 i2 l1 l2 (i + 1) h' → Apart B fr g' [z, TI, TO, i1, i2] → VR B.pw g' (.tup [a, b]) x → Q x { s with heap := h', toks := tk }) :
    wpAny (model B.prog B.w) A (pyNext (.ref z)) (fun r s₁ => match r with | none => False | some x => wpAny (model B.prog B.w) A (letOwnedTupleGo (.Tuple elts kk tp) (.ref z) x) (fun _ s₂ => Q x s₂) E s₁) E s := by
  have ob := zip_obj hit
  obtain ⟨hz, hTI, ⟨p, q, hTO⟩, h1, h2⟩ := hit
  refine wpAny_pyNext_zip_item (xs := ws1.toArray) (ys := ws2.toArray) (x := x) (y := y) D hz hTI hTO h1 h2 ⟨_, hl1, rfl, n1, rfl⟩ ⟨_, hl2, rfl, n2, rfl⟩ ((List.getElem?_toArray ..).trans hx1) ((List.getElem?_toArray ..).trans hy1) fun h' c1 c2 c3 c4 c5 c6 hk => ?_
  refine wpAny_letOwnedTupleGo_zip c1 fun h'' hz'' hsb => ?_
  have hT'' : h''.get? s.heap.objs.size = some (tupObj [x, y] 0) := hsb.extBut _ _ (Nat.ne_of_gt (Heap.lt_size hz)) c5
  have r₃ := (r.extMany (h' := h'') (tk := s.toks) ap fun c o hc e => by
    obtain ⟨d1, _, d2, d3, d4⟩ := not5 hc
    exact hsb.extBut _ _ d1 (hk c o d1 d2 d3 d4 e)).put hT'' (r.apartNew (o := default) (tk := 0))
  refine hQ _ h'' s.toks _ (Gh.le_put r.r0.fresh) r₃ ⟨hz'', hsb.extBut _ _ D.TIz (hk _ _ D.TIz D.TITO D.TIi1 D.TIi2 hTI), ⟨_, _, hsb.extBut _ _ D.TOz c2⟩, c3.extBut hsb.extBut D.i1z, c4.extBut hsb.extBut D.i2z⟩ (fun c hc => ?_) (.i (.tup (n := 0) (Gh.put_self ..) (.cons hx2 (.cons hy2 .nil))))
  obtain ⟨z1, z2, z3, z4⟩ := ap c hc
  obtain ⟨o, e⟩ := ob c hc
  exact ⟨Gh.off_put z1 (Nat.ne_of_lt (Heap.lt_size e)), z2, z3, z4⟩
theorem zip_none {vs : List Value} {n : Nat} (h : vs.length ≤ n) : vs.toArray[n]? = none := (List.getElem?_toArray ..).trans (List.getElem?_eq_none h)
theorem zip_end {as bs : List At} {vs ws : List Value} (h1 : as.length = vs.length) (h2 : bs.length = ws.length) : vs.toArray[(pairs as bs).length]? = none ∨ ws.toArray[(pairs as bs).length]? = none := by
  rw [List.length_map, List.length_zip]
  rcases Nat.le_total as.length bs.length with h | h
  · exact .inl (zip_none (by lia))
  · exact .inr (zip_none (by lia))

noncomputable def zipSource (A : Around) (hA : A.handled = none) (elts : List Expr) (kk : Nat) (tp : Pos) (z TI TO i1 i2 l1 l2 : Addr) (D : ZipApart z TI TO i1 i2 l1 l2) (k1 k2 : Nat) (as bs : List At) (g₀ : Gh) (hk1 : g₀.ls[k1]? = some l1) (hk2 : g₀.ls[k2]? = some l2) : Source B A (.Tuple elts kk tp) where
  I := z
  fp := [z, TI, TO, i1, i2]
  all := pairs as bs
  g₀ := g₀
  It := ZipIt z TI TO i1 i2 l1 l2
  Ok S := S[k1]? = some (ats as) ∧ S[k2]? = some (ats bs)
  obj _ _ hit := zip_obj hit
  frame _ _ _ hit hk := zip_frame hit hk
  turn fr g σ s i v Q E l r hok hit ap hv hQ := by
    obtain ⟨ws1, n1, hl1, hw1⟩ := r.r0.at l hk1 hok.1
    obtain ⟨ws2, n2, hl2, hw2⟩ := r.r0.at l hk2 hok.2
    rw [List.getElem?_map] at hv
    obtain ⟨⟨a, b⟩, hp, rfl⟩ := Option.map_eq_some_iff.mp hv
    obtain ⟨ha, hb⟩ := List.getElem?_zip_eq_some.mp hp
    obtain ⟨x, hx1, hx2⟩ := (ats_vi hw1).get ha
    obtain ⟨y, hy1, hy2⟩ := (ats_vi hw2).get hb
    exact zip_turn D r hit ap hl1 hl2 hx1 hy1 hx2 hy2 hQ
  done fr g σ s Q E l r hok hit ap hQ := by
    obtain ⟨hz, hTI, ⟨p, q, hTO⟩, h1, h2⟩ := hit
    obtain ⟨ws1, n1, hl1, hw1⟩ := r.r0.at l hk1 hok.1
    obtain ⟨ws2, n2, hl2, hw2⟩ := r.r0.at l hk2 hok.2
    exact wpAny_pyNext_zip_end hA D hz hTI hTO h1 h2 ⟨_, hl1, rfl, n1, rfl⟩ ⟨_, hl2, rfl, n2, rfl⟩ (zip_end (ats_vi hw1).length (ats_vi hw2).length) fun h' hk => hQ h' s.toks (r.extMany ap fun c o hc e => by
      obtain ⟨d1, _, d2, d3, d4⟩ := not5 hc
      exact hk c o d1 d2 d3 d4 e)
  self i s Q E hit hQ := wpAny_pyIter_zip hit.1 hQ

theorem zipApart_of {n l1 l2 : Nat} (h1 : l1 < n) (h2 : l2 < n) : ZipApart (n + 4) (n + 2) (n + 3) n (n + 1) l1 l2 := by
  constructor <;> (show (_ : Nat) ≠ _) <;> lia
theorem src_zip {elts : List Expr} {kk : Nat} {tp p pos : Pos} {e₁ e₂ : Expr} {G : List Str} {K : List PV → (List (List PV) → Prop) → AS → Prop} (hG : X.fr.G = G) (hg : Str.ofString "zip" ∈ G) (hm : B.mg "zip" = none)
    (h : WL X pos [e₁, e₂] σ fun vs σ₁ => ∃ k1 k2 as bs, vs = [.lst k1, .lst k2] ∧ σ₁.S[k1]? = some (ats as) ∧ σ₁.S[k2]? = some (ats bs) ∧ K (pairs as bs) (fun S => S[k1]? = some (ats as) ∧ S[k2]? = some (ats bs)) σ₁)
    (he : ∀ env, starEach [e₁, e₂] env = (false, eval e₁ env) :: starEach [e₂] env := by intro _; rfl) (hp : ∀ env, (backTo pos (starEach [e₁, e₂] env)).any (·.1) = false := by intro _; rfl) :
    SrcE X (.Tuple elts kk tp) (.Call (.Name (Str.ofString "zip") p) [e₁, e₂] [] pos) σ K := fun g s Q E r ht c => by
  obtain ⟨hd1, hd2⟩ := X.fok.glo (Str.ofString "zip") (hG ▸ hg)
  refine wpAny_Call_Name_kw (Calls.Name_function_global X.fok.kind hd2 (Calls.loadGlobal_builtin (mg := B.mg) (mb := B.mb) ?_ hm ?_ ((X.bok.mb _ (by decide)).trans boot_zip) ?_) hd1)
  · rw [X.fok.globals]; exact X.bok.g.at' fun o e => r.r0.keep _ _ (r.r0.base _ _ e)
  · rw [X.fok.builtins]; exact X.bok.b.at' fun o e => r.r0.keep _ _ (r.r0.base _ _ e)
  refine PySem.callWith_type (hp _) (evalArgs_of h r ht (fun g₁ s₁ vs xs σ₁ l₁ r₁ hv ⟨k1, k2, as, bs, e, hS1, hS2, hK⟩ ht₁ => ?_) he)
  subst e
  obtain ⟨x, y, rfl, hx, hy⟩ := all2_two hv
  obtain ⟨l1, ws1, n1, rfl, hk1, hl1, hw1⟩ := hx.list r₁.r0 hS1
  obtain ⟨l2, ws2, n2, rfl, hk2, hl2, hw2⟩ := hy.list r₁.r0 hS2
  refine call_zip_2 (xs := ws1.toArray) (ys := ws2.toArray) ⟨_, hl1, rfl, n1, rfl⟩ ⟨_, hl2, rfl, n2, rfl⟩ fun h' a1 a2 a3 a4 a5 a6 hk => ?_
  refine wpAny_pyIter_zip a1 ?_
  have lt1 := Heap.lt_size hl1
  have lt2 := Heap.lt_size hl2
  have D := zipApart_of lt1 lt2
  refine c g₁ _ σ₁ (zipSource X.A X.aok.handled elts kk tp _ _ _ _ _ l1 l2 D k1 k2 as bs g₁ hk1 hk2) l₁ (r₁.keeps (tk := s₁.toks) hk) (.refl g₁) ⟨a1, a2, ⟨_, _, a3⟩, a4, a5⟩ (r₁.apartGe (all5 (Nat.le_add_right _ _) (Nat.le_add_right _ _) (Nat.le_add_right _ _) (Nat.le_refl _) (Nat.le_add_right _ _))) hK ht₁

/-- the signs of a text -/
noncomputable abbrev signsPV (x : Str) : List PV := x.cps.toList.map fun c => PV.av (.str ⟨#[c]⟩)
theorem src_text {target iter : Expr} {K : List PV → (List (List PV) → Prop) → AS → Prop} (h : WE X iter σ fun v σ₁ => ∃ x : Str, v = .av (.str x) ∧ x.cps.all (· < 128) = true ∧ K (signsPV x) (fun _ => True) σ₁) : SrcE X target iter σ K := fun g s Q E r ht c =>
  h g s _ E r ht fun g₁ s₁ v y σ₁ l₁ r₁ hv ⟨x, e, ha, hK⟩ ht₁ => by
    subst e
    obtain ⟨t, rfl⟩ := hv.str
    refine wpAny_pyIter_ascii ha ?_
    have W := Walks.strAscii (prog := B.prog) (w := B.w) X.aok.handled s₁.heap.objs.size x t
    have hl : (signsPV x).length = x.cps.size := by simp
    refine c g₁ _ σ₁ (walkSource X.A target s₁.heap.objs.size (signsPV x) g₁ _ _ (by rw [hl]; exact W) ?_ ?_) l₁ (r₁.push (tk := s₁.toks)) (.refl g₁) ?_ (r₁.apartNew (o := default) (tk := 0)) hK ht₁
    · rintro i y v ⟨d, u, hd, rfl⟩ hv g
      rw [List.getElem?_map] at hv
      obtain ⟨d', hd', rfl⟩ := Option.map_eq_some_iff.mp hv
      have : d' = d := by
        rw [Array.getElem?_toList] at hd'
        rw [hd] at hd'; cases hd'; rfl
      subst this
      exact vstr ..
    · rintro i h ⟨o, ho, hc, _⟩
      exact ⟨o, ho, fun n e => by rw [hc] at e; cases e; decide⟩
    · exact ⟨_, Heap.get?_push_size _ rfl, rfl, rfl⟩
end
/-! UrnEnter -/
section
open PySem PyProof.Rows
variable {B : Base}

noncomputable def chkCell (scope : Scope) (ns : List Str) (y : Str) (gs : List Str) : Bool :=
  scope.kind == .function && !scope.isCoroutine && !scope.isGenerator &&
  ns.all (fun x => scope.names.lookup x == some .local && !(x == ("__debug__" : Str)) && !(x == ("__classdict__" : Str))) &&
  (scope.names.lookup y == some .cell && !(y == ("__debug__" : Str)) && !(y == ("__classdict__" : Str))) &&
  gs.all (fun x => scope.names.lookup x == some .globalImplicit && !(x == ("__debug__" : Str))) && decide (ns ++ [y]).Nodup
theorem bindL_out {kindOf : Str → Option NameKind} : ∀ {binds : List (Str × Value)} {m : Str → Option Value} {x : Str}, (∀ p ∈ binds, p.1 ≠ x) → bindL kindOf binds m x = m x
  | [], m, x, _ => rfl
  | (n, v) :: r, m, x, h => by
    unfold bindL
    rw [bindL_out fun p hp => h p (.tail _ hp)]
    have : x ≠ n := fun e => h (n, v) (.head _) e.symm
    split
    · simp [this]
    · rfl
theorem bindL_in {R : PV → Value → Prop} {kindOf : Str → Option NameKind} {bnd : List (Str × PV)} {binds : List (Str × Value)} (r : All2 (fun p q => p.1 = q.1 ∧ R p.2 q.2) bnd binds) : ∀ {m : Str → Option Value}, (bnd.map (·.1)).Nodup → (∀ p ∈ bnd, kindOf p.1 = some .local) →
    ∀ p ∈ bnd, ∃ y, bindL kindOf binds m p.1 = some y ∧ R p.2 y := by
  induction r with
  | nil => intro _ _ _ _ h; cases h
  | @cons a b bnd binds q r ih =>
    intro m hd hk p h
    obtain ⟨b1, b2⟩ := b
    obtain ⟨e, hr⟩ : a.1 = b1 ∧ R a.2 b2 := q
    have hd' := List.nodup_cons.mp hd
    unfold bindL
    cases h with
    | head =>
      refine ⟨b2, ?_, hr⟩
      rw [bindL_out fun q hq => ?_]
      · rw [← e, if_pos (hk _ (.head _))]; simp
      · intro e2
        refine hd'.1 ?_
        rw [named r]
        show a.1 ∈ _
        rw [← e2]
        exact List.mem_map_of_mem hq
    | tail _ h => exact ih hd'.2 (fun q hq => hk q (.tail _ hq)) p h
theorem spec_enter_cell {name : Str} {params : Arguments} {body : List Stmt} {scope : Scope} {a : Addr} {fd : FuncData} {k : Nat} {args : List PV} {S : List (List PV)} {K : PV → List (List PV) → Prop} (bok : BaseOk B) (F : FnAt B name params body scope a fd)
    (bnd : List (Str × PV)) (oth : List Str) (y : Str) (gs : List Str) (hc : chkCell scope (bnd.map (·.1) ++ oth) y gs = true) (hcl : ∀ n, cellsFrom n scope.names [] = [(y, n)]) (hb : Binds B fd args bnd)
    (h : ∀ (X : Scene B) (c : Addr), X.k = k → X.fr.N = dictN (bnd.map (·.1) ++ oth) ++ [(y, .cell c)] → X.fr.G = gs → WS X body ⟨bnd.map (fun p => some p.2) ++ oth.map (fun _ => none) ++ [none], S⟩ (Ends S.length K)) : Spec B (k + 1) name args S K := by
  intro a' ha A g s Q E vals hA r ht hv c
  rw [F.mg] at ha; cases ha
  obtain ⟨o, ho, hd⟩ := F.obj
  obtain ⟨binds, hbt, hbr⟩ := hb g S s vals r hv
  have hc' : chkCell fd.scope (bnd.map (·.1) ++ oth) y gs = true := F.scope ▸ hc
  have hcl' : ∀ n, cellsFrom n fd.scope.names [] = [(y, n)] := F.scope ▸ hcl
  have parts := hc'
  unfold chkCell at parts
  simp only [Bool.and_eq_true, Bool.not_eq_true', List.all_eq_true, beq_iff_eq, decide_eq_true_eq] at parts
  obtain ⟨⟨⟨⟨⟨⟨p1, p2⟩, p3⟩, p5⟩, p4⟩, p6⟩, p7⟩ := parts
  have hlim : s.heap.NoLimit := bok.nolimit.keeps fun b o e => r.keep _ _ (r.base _ _ e)
  have loc : ∀ p ∈ bnd, fd.scope.names.lookup p.1 = some .local := fun p hp => (p5 _ (List.mem_append_left _ (List.mem_map_of_mem (f := (·.1)) hp))).1.1
  refine wpAny_call (codeAny_call_function (by have := hA.depth; lia) (r.keep _ _ (r.base _ _ ho)) hd p2 p3 F.body (F.code.keeps fun b o e => r.keep _ _ (r.base _ _ e)) ?_)
  refine hbt _ _ _ _ ?_
  rw [F.closure]
  refine wpAny_with_toks ht (wpAny_newFunctionEnv_cells p1 (fun x hx => .inl ?_) fun env he s' x ht' => ?_)
  · obtain ⟨i, hi, e⟩ := List.mem_iff_getElem.mp hx
    obtain ⟨z, hz1, hz2, _⟩ := hbr.get' (i := i) (y := x) (by simp [hi, e])
    rw [← hz2]
    exact loc _ (List.mem_of_getElem? hz1)
  have he' : env = callEnvC fd s.heap.objs.size a := he
  subst he'
  have kp := x.toInCall.keep
  refine ⟨hlim.keeps kp, codeAny_func ?_⟩
  have hcells : (callEnvC fd s.heap.objs.size a).cells = [(y, s.heap.objs.size + 1)] := hcl' _
  have hL : (callEnvC fd s.heap.objs.size a).locals = s.heap.objs.size := rfl
  obtain ⟨h₀, tk, e, hk⟩ := x.done
  subst e
  have fok : FrmOk ⟨callEnvC fd s.heap.objs.size a, dictN (bnd.map (·.1) ++ oth) ++ [(y, .cell (s.heap.objs.size + 1))], gs⟩ := by
    refine ⟨p1, F.globals, F.builtins, fun p hp => ?_, ?_, ?_, fun z hz => ⟨(p6 z hz).2, (p6 z hz).1⟩⟩
    · rcases List.mem_append.mp hp with hp | hp
      · obtain ⟨z, hz, rfl⟩ := List.mem_map.mp hp
        exact ⟨(p5 z hz).1.2, (p5 z hz).2, (p5 z hz).1.1⟩
      · rw [List.mem_singleton.mp hp]
        refine ⟨p4.1.2, p4.2, p4.1.1, ?_⟩
        rw [hcells]; simp
    · rw [List.map_append, show (dictN (bnd.map (·.1) ++ oth)).map (·.1) = bnd.map (·.1) ++ oth from by rw [dictN, List.map_map]; exact List.map_id _]; exact p7
    · show (s.heap.objs.size :: cellsOf (dictN (bnd.map (·.1) ++ oth) ++ [(y, .cell (s.heap.objs.size + 1))])).Nodup
      rw [cells_app, cells_dictN]
      show [s.heap.objs.size, s.heap.objs.size + 1].Nodup
      simp
  let X : Scene B := ⟨⟨callEnvC fd s.heap.objs.size a, dictN (bnd.map (·.1) ++ oth) ++ [(y, .cell (s.heap.objs.size + 1))], gs⟩, A.deeper (callEnvC fd s.heap.objs.size a), k, bok, fok, hA.deeper⟩
  have new : ∀ b, s.heap.objs.size ≤ b → g.off b ∧ b ∉ g.ls := fun b hb => by
    have hn : s.heap.get? b = none := Heap.get?_none_of_le hb
    refine ⟨⟨?_, ?_⟩, fun hm => ?_⟩
    · cases q : g.im b with
      | none => rfl
      | some o => rw [r.imm _ _ q] at hn; cases hn
    · cases q : g.fz b with
      | none => rfl
      | some o => rw [r.keep _ _ q] at hn; cases hn
    · obtain ⟨o, e⟩ := r.lt hm; rw [e] at hn; cases hn
  have hr : Rep B X.fr g ⟨bnd.map (fun p => some p.2) ++ oth.map (fun _ => none) ++ [none], S⟩ { s with heap := h₀, toks := tk } := by
    refine ⟨r.keeps hk, ⟨_, x.toInCall.ns, ?_⟩, (new _ (Nat.le_refl _)).1, (new _ (Nat.le_refl _)).2⟩
    show All2 _ (dictN (bnd.map (·.1) ++ oth) ++ [(y, .cell (s.heap.objs.size + 1))]) _
    rw [dictN, List.map_append]
    have hnd : (bnd.map (·.1)).Nodup := (List.nodup_append.mp (List.nodup_append.mp p7).1).1
    refine ((slots_init bnd fun p hp => ?_).append (slots_none oth)).append (.cons ?_ .nil)
    · exact bindL_in (R := VR B.pw g) hbr hnd (fun q hq => loc q hq) p hp
    · have z := new (s.heap.objs.size + 1) (Nat.le_succ _)
      have hce := x.cell y (s.heap.objs.size + 1) (by rw [hcells]; simp)
      exact ⟨z.1, z.2, _, hce, fun v e => nomatch e⟩
  refine h X _ rfl rfl rfl g _ _ _ hr ht' fun g' s' fl f σ' l r' hfl hK ht'' => ?_
  cases hfl with
  | next =>
    obtain ⟨r₁, l₁⟩ := r.cut r'.r0 l
    exact c _ s' (.av .none) .none _ l₁ r₁ (vnone _) hK ht''
  | brk => exact hK.elim
  | cont => exact hK.elim
  | ret hv =>
    obtain ⟨g'', v', S'', l'', r'', hv'', hK''⟩ := leave_of r r'.r0 l hv hK
    exact c g'' s' v' _ S'' l'' r'' hv'' hK'' ht''
end
/-! UrnBinds -/
section
open PySem PyProof.Rows
variable {B : Base}

theorem wpAny_eq {α : Type} {M : Model} {A : Around} {E : Value → Shared → Prop} {s : Shared} {t t' : Sem α} {Q : α → Shared → Prop} (h : t = t') (hQ : wpAny M A t' Q E s) : wpAny M A t Q E s := h ▸ hQ
noncomputable def Dfl0 (fd : FuncData) : Prop := fd.defaults = .none ∧ fd.kwdefaults = .none
noncomputable def Dfl2 (B : Base) (fd : FuncData) : Prop := ∃ T D o n t mk, fd.defaults = .ref T ∧ B.s.heap.get? T = some o ∧ o.data = .seq #[.int 0 t, .none] n ∧ fd.kwdefaults = .ref D ∧ B.s.heap.Ns D mk ∧ mk "key" = some .none

theorem all2_four {α β : Type} {R : α → β → Prop} {v u w z : α} {xs : List β} (h : All2 R [v, u, w, z] xs) : ∃ x y z' z'', xs = [x, y, z', z''] ∧ R v x ∧ R u y ∧ R w z' ∧ R z z'' := by
  cases h with | cons a r => obtain ⟨y, z, w, rfl, b, c, d⟩ := all2_three r; exact ⟨_, _, _, _, rfl, a, b, c, d⟩
theorem binds1 {fd : FuncData} {p : Arguments} {x : Str} (hp : fd.params = p) (hd : Dfl0 fd) (he : ∀ (fd : FuncData) (v : Value), fd.params = p → fd.defaults = .none → bindArgs fd ⟨[v], []⟩ = pure [(x, v)]) (v : PV) : Binds B fd [v] [(x, v)] := fun g S s vals r h => by
  obtain ⟨a, rfl, ha⟩ := all2_one h
  exact ⟨_, .of_eq (he fd a hp hd.1), .cons ⟨rfl, ha⟩ .nil⟩
theorem binds2 {fd : FuncData} {p : Arguments} {x y : Str} (hp : fd.params = p) (hd : Dfl0 fd) (he : ∀ (fd : FuncData) (v u : Value), fd.params = p → fd.defaults = .none → bindArgs fd ⟨[v, u], []⟩ = pure [(x, v), (y, u)]) (v u : PV) : Binds B fd [v, u] [(x, v), (y, u)] := fun g S s vals r h => by
  obtain ⟨a, b, rfl, ha, hb⟩ := all2_two h
  exact ⟨_, .of_eq (he fd a b hp hd.1), .cons ⟨rfl, ha⟩ (.cons ⟨rfl, hb⟩ .nil)⟩
theorem binds4 {fd : FuncData} {p : Arguments} {x y z w : Str} (hp : fd.params = p) (hd : Dfl0 fd) (he : ∀ (fd : FuncData) (v u a b : Value), fd.params = p → fd.defaults = .none → bindArgs fd ⟨[v, u, a, b], []⟩ = pure [(x, v), (y, u), (z, a), (w, b)]) (v u a b : PV) :
    Binds B fd [v, u, a, b] [(x, v), (y, u), (z, a), (w, b)] := fun g S s vals r h => by
  obtain ⟨a, b, c, d, rfl, ha, hb, hc, hd'⟩ := all2_four h
  exact ⟨_, .of_eq (he fd a b c d hp hd.1), .cons ⟨rfl, ha⟩ (.cons ⟨rfl, hb⟩ (.cons ⟨rfl, hc⟩ (.cons ⟨rfl, hd'⟩ .nil)))⟩
theorem bind_law_rise : ∀ (fd : FuncData) (v u : Value), fd.params = fnArgs (theStmt 17) → fd.defaults = .none → bindArgs fd ⟨[v, u], []⟩ = pure [((("start" : Str)), v), (("many" : Str), u)] := by
  rintro ⟨name, qn, params, body, scope, gl, cl, df, kdf, doc, md, an, code, ct, bi⟩ v u hp hd
  simp only at hp hd
  subst hp hd
  rfl
theorem bind_urn : ∀ (fd : FuncData) (v0 : Value), fd.params = fnArgs (theStmt 16) → fd.defaults = .none → bindArgs fd ⟨[v0], []⟩ = pure [(("sums" : Str), v0)] := by
  rintro ⟨name, qn, params, body, scope, gl, cl, df, kdf, doc, md, an, code, ct, bi⟩ v0 hp hd
  simp only at hp hd
  subst hp hd
  rfl
theorem bind_drawn : ∀ (fd : FuncData) (v0 v1 v2 v3 : Value), fd.params = fnArgs (theStmt 18) → fd.defaults = .none → bindArgs fd ⟨[v0, v1, v2, v3], []⟩ = pure [(("urn" : Str), v0), (("length" : Str), v1), (("number" : Str), v2), (("room" : Str), v3)] := by
  rintro ⟨name, qn, params, body, scope, gl, cl, df, kdf, doc, md, an, code, ct, bi⟩ v0 v1 v2 v3 hp hd
  simp only at hp hd
  subst hp hd
  rfl
theorem bind_written : ∀ (fd : FuncData) (v0 v1 : Value), fd.params = fnArgs (theStmt 19) → fd.defaults = .none → bindArgs fd ⟨[v0, v1], []⟩ = pure [(("text" : Str), v0), (("which" : Str), v1)] := by
  rintro ⟨name, qn, params, body, scope, gl, cl, df, kdf, doc, md, an, code, ct, bi⟩ v0 v1 hp hd
  simp only at hp hd
  subst hp hd
  rfl
theorem bind_spelled : ∀ (fd : FuncData) (v0 v1 : Value), fd.params = fnArgs (theStmt 20) → fd.defaults = .none → bindArgs fd ⟨[v0, v1], []⟩ = pure [(("text" : Str), v0), (("which" : Str), v1)] := by
  rintro ⟨name, qn, params, body, scope, gl, cl, df, kdf, doc, md, an, code, ct, bi⟩ v0 v1 hp hd
  simp only at hp hd
  subst hp hd
  rfl
theorem bind_p229 : ∀ (fd : FuncData) (v0 v1 : Value), fd.params = fnArgs (theStmt 8) → fd.defaults = .none → bindArgs fd ⟨[v0, v1], []⟩ = pure [(("resp" : Str), v0), (("peer" : Str), v1)] := by
  rintro ⟨name, qn, params, body, scope, gl, cl, df, kdf, doc, md, an, code, ct, bi⟩ v0 v1 hp hd
  simp only at hp hd
  subst hp hd
  rfl
theorem bind_p257 : ∀ (fd : FuncData) (v0 : Value), fd.params = fnArgs (theStmt 9) → fd.defaults = .none → bindArgs fd ⟨[v0], []⟩ = pure [(("resp" : Str), v0)] := by
  rintro ⟨name, qn, params, body, scope, gl, cl, df, kdf, doc, md, an, code, ct, bi⟩ v0 hp hd
  simp only at hp hd
  subst hp hd
  rfl
theorem bind_html : ∀ (fd : FuncData) (v0 : Value), fd.params = fnArgs (theStmt 12) → fd.defaults = .none → bindArgs fd ⟨[v0], []⟩ = pure [(("text" : Str), v0)] := by
  rintro ⟨name, qn, params, body, scope, gl, cl, df, kdf, doc, md, an, code, ct, bi⟩ v0 hp hd
  simp only at hp hd
  subst hp hd
  rfl
theorem bind_cdata : ∀ (fd : FuncData) (v0 : Value), fd.params = fnArgs (theStmt 13) → fd.defaults = .none → bindArgs fd ⟨[v0], []⟩ = pure [(("text" : Str), v0)] := by
  rintro ⟨name, qn, params, body, scope, gl, cl, df, kdf, doc, md, an, code, ct, bi⟩ v0 hp hd
  simp only at hp hd
  subst hp hd
  rfl
theorem bind_attrib : ∀ (fd : FuncData) (v0 : Value), fd.params = fnArgs (theStmt 14) → fd.defaults = .none → bindArgs fd ⟨[v0], []⟩ = pure [(("text" : Str), v0)] := by
  rintro ⟨name, qn, params, body, scope, gl, cl, df, kdf, doc, md, an, code, ct, bi⟩ v0 hp hd
  simp only at hp hd
  subst hp hd
  rfl
/-- a call of a bisection by two values -/
noncomputable abbrev args5 (p q r s k d e f : Pos) : Arguments := ⟨[], [⟨"a", none, p⟩, ⟨"x", none, q⟩, ⟨"lo", none, r⟩, ⟨"hi", none, s⟩], none, [⟨"key", none, k⟩], [some (.Constant .none 0 d)], none, [.Constant (.int 0) 0 e, .Constant .none 0 f]⟩
noncomputable def Is5 (a : Arguments) : Prop := ∃ p q r s k d e f, a = args5 p q r s k d e f
theorem is5_1 : Is5 (fnArgs (theStmt 1)) := ⟨_, _, _, _, _, _, _, _, rfl⟩
theorem is5_2 : Is5 (fnArgs (theStmt 2)) := ⟨_, _, _, _, _, _, _, _, rfl⟩
theorem is5_3 : Is5 (fnArgs (theStmt 3)) := ⟨_, _, _, _, _, _, _, _, rfl⟩
theorem binds_bis {fd : FuncData} {p : Arguments} (hp : fd.params = p) (hd : Dfl2 B fd) (h : Is5 p) (v u : PV) :
    Binds B fd [v, u] [("a", v), ("x", u), ("lo", .av (.int 0)), ("hi", .av .none), ("key", .av .none)] := fun g S s vals r hv => by
  obtain ⟨a, b, rfl, ha, hb⟩ := all2_two hv
  obtain ⟨T, D, o, n, t, mk, h1, h2, h3, h4, h5, h6⟩ := hd
  refine ⟨[("a", a), ("x", b), ("lo", .int 0 t), ("hi", .none), ("key", .none)], fun M A E Q hq => ?_, .cons ⟨rfl, ha⟩ (.cons ⟨rfl, hb⟩ (.cons ⟨rfl, vint ..⟩ (.cons ⟨rfl, vnone _⟩ (.cons ⟨rfl, vnone _⟩ .nil))))⟩
  have hT := r.keep _ _ (r.base _ _ h2)
  have hD : s.heap.Ns D mk := h5.at' fun o e => r.keep _ _ (r.base _ _ e)
  obtain ⟨name, qn, params, body, scope, gl, cl, df, kdf, doc, md, an, code, ct, bi⟩ := fd
  obtain ⟨p1, p2, p3, p4, p5, p6, p7, p8, h⟩ := h
  simp only at hp h1 h4
  subst h1 h4 hp
  subst h
  refine wpAny_eq (t' := seqItems? (.ref T) >>= _) rfl (wpAny_bind (wpAny_seqItems hT h3 ?_))
  first
    | refine wpAny_eq (t' := (nsGet D "key" >>= _) >>= _) rfl (wpAny_bind (wpAny_bind (wpAny_nsGet hD ?_)))
    | refine wpAny_eq (t' := ((nsGet D "key" >>= _) >>= _) >>= _) rfl (wpAny_bind (wpAny_bind (wpAny_bind (wpAny_nsGet hD ?_))))
    | refine wpAny_eq (t' := (((nsGet D "key" >>= _) >>= _) >>= _) >>= _) rfl (wpAny_bind (wpAny_bind (wpAny_bind (wpAny_bind (wpAny_nsGet hD ?_)))))
  rw [h6]
  first
    | exact wpAny_eq (t' := pure _) rfl (wpAny_pure (wpAny_eq (t' := pure _) rfl (wpAny_pure hq)))
    | exact wpAny_eq (t' := pure _) rfl (wpAny_pure (wpAny_eq (t' := pure _) rfl (wpAny_pure (wpAny_eq (t' := pure _) rfl (wpAny_pure hq)))))
theorem binds_bis4 {fd : FuncData} {p : Arguments} (hp : fd.params = p) (hd : Dfl2 B fd) (h : Is5 p) (v u x y : PV) :
    Binds B fd [v, u, x, y] [("a", v), ("x", u), ("lo", x), ("hi", y), ("key", .av .none)] := fun g S s vals r hv => by
  obtain ⟨a, b, c, d, rfl, ha, hb, hc, hd'⟩ := all2_four hv
  obtain ⟨T, D, o, n, t, mk, h1, h2, h3, h4, h5, h6⟩ := hd
  refine ⟨[("a", a), ("x", b), ("lo", c), ("hi", d), ("key", .none)], fun M A E Q hq => ?_, .cons ⟨rfl, ha⟩ (.cons ⟨rfl, hb⟩ (.cons ⟨rfl, hc⟩ (.cons ⟨rfl, hd'⟩ (.cons ⟨rfl, vnone _⟩ .nil))))⟩
  have hT := r.keep _ _ (r.base _ _ h2)
  have hD : s.heap.Ns D mk := h5.at' fun o e => r.keep _ _ (r.base _ _ e)
  obtain ⟨name, qn, params, body, scope, gl, cl, df, kdf, doc, md, an, code, ct, bi⟩ := fd
  obtain ⟨p1, p2, p3, p4, p5, p6, p7, p8, h⟩ := h
  simp only at hp h1 h4
  subst h1 h4 hp
  subst h
  refine wpAny_eq (t' := seqItems? (.ref T) >>= _) rfl (wpAny_bind (wpAny_seqItems hT h3 ?_))
  first
    | refine wpAny_eq (t' := (nsGet D "key" >>= _) >>= _) rfl (wpAny_bind (wpAny_bind (wpAny_nsGet hD ?_)))
    | refine wpAny_eq (t' := ((nsGet D "key" >>= _) >>= _) >>= _) rfl (wpAny_bind (wpAny_bind (wpAny_bind (wpAny_nsGet hD ?_))))
    | refine wpAny_eq (t' := (((nsGet D "key" >>= _) >>= _) >>= _) >>= _) rfl (wpAny_bind (wpAny_bind (wpAny_bind (wpAny_bind (wpAny_nsGet hD ?_)))))
  rw [h6]
  first
    | exact wpAny_eq (t' := pure _) rfl (wpAny_pure (wpAny_eq (t' := pure _) rfl (wpAny_pure hq)))
    | exact wpAny_eq (t' := pure _) rfl (wpAny_pure (wpAny_eq (t' := pure _) rfl (wpAny_pure (wpAny_eq (t' := pure _) rfl (wpAny_pure hq)))))

theorem spec_in {name : Str} {params : Arguments} {body : List Stmt} {scope : Scope} {a : Addr} {fd : FuncData} {k : Nat} {args : List PV} {S : List (List PV)} {K : PV → List (List PV) → Prop} (bok : BaseOk B) (F : FnAt B name params body scope a fd)
    (bnd : List (Str × PV)) (oth gs ns : List Str) (hns : bnd.map (·.1) ++ oth = ns) (vs : List (Option PV)) (hvs : bnd.map (fun p => some p.2) ++ oth.map (fun _ => none) = vs) (hc : chkScope scope ns gs = true) (hb : Binds B fd args bnd)
    (h : ∀ X : Scene B, X.k = k → X.fr.N = dictN ns → X.fr.G = gs → WS X body ⟨vs, S⟩ (Ends S.length K)) : Spec B (k + 1) name args S K := by
  subst hns hvs
  exact spec_enter bok F bnd oth gs hc hb h
theorem spec_in_cell {name : Str} {params : Arguments} {body : List Stmt} {scope : Scope} {a : Addr} {fd : FuncData} {k : Nat} {args : List PV} {S : List (List PV)} {K : PV → List (List PV) → Prop} (bok : BaseOk B) (F : FnAt B name params body scope a fd)
    (bnd : List (Str × PV)) (oth : List Str) (y : Str) (gs ns : List Str) (hns : bnd.map (·.1) ++ oth = ns) (vs : List (Option PV)) (hvs : bnd.map (fun p => some p.2) ++ oth.map (fun _ => none) ++ [none] = vs) (hc : chkCell scope ns y gs = true) (hcl : ∀ n, cellsFrom n scope.names [] = [(y, n)]) (hb : Binds B fd args bnd)
    (h : ∀ (X : Scene B) (c : Addr), X.k = k → X.fr.N = dictN ns ++ [(y, .cell c)] → X.fr.G = gs → WS X body ⟨vs, S⟩ (Ends S.length K)) : Spec B (k + 1) name args S K := by
  subst hns hvs
  exact spec_enter_cell bok F bnd oth y gs hc hcl hb h
theorem or_cons {X : Scene B} {K : Bool → AS → Prop} {e : Expr} {r : List Expr} {σ : AS} (h : WT X e σ fun b σ' => (b = true → K true σ') ∧ (b = false → OrK X K r σ')) : OrK X K (e :: r) σ := h
theorem or_nil {X : Scene B} {K : Bool → AS → Prop} {σ : AS} (h : K false σ) : OrK X K [] σ := h
theorem and_true {b : Bool} {P Q : Prop} (hb : b = true) (h : P) : (b = true → P) ∧ (b = false → Q) := ⟨fun _ => h, fun e => by rw [hb] at e; cases e⟩
theorem and_false {b : Bool} {P Q : Prop} (hb : b = false) (h : Q) : (b = true → P) ∧ (b = false → Q) := ⟨fun e => (by rw [hb] at e; cases e), fun _ => h⟩
noncomputable def Turn (I : Nat → AS → Prop) (n : Nat) (K : Fl → AS → Prop) : Fl → AS → Prop
  | .next, σ | .cont, σ => ∃ m, m < n ∧ I m σ
  | .brk, σ => K .next σ
  | .ret v, σ => K (.ret v) σ
theorem turn_next {I : Nat → AS → Prop} {n : Nat} {K : Fl → AS → Prop} {σ : AS} (h : ∃ m, m < n ∧ I m σ) : Turn I n K .next σ := h
theorem turn_brk {I : Nat → AS → Prop} {n : Nat} {K : Fl → AS → Prop} {σ : AS} (h : K .next σ) : Turn I n K .brk σ := h
theorem wx_while_inv {X : Scene B} {test : Expr} {body : List Stmt} {pos : Pos} {σ : AS} {K : Fl → AS → Prop} (I : Nat → AS → Prop) (n : Nat) (h0 : I n σ)
    (h : ∀ n σ, I n σ → WT X test σ fun b σ₁ => (b = true → WS X body σ₁ (Turn I n K)) ∧ (b = false → K .next σ₁)) : WX X (.While test body [] pos) σ K := by
  have key : ∀ (N n : Nat) (σ : AS), n < N → I n σ → WhileK X test body K N σ := by
    intro N
    induction N with
    | zero => intro n σ hn; lia
    | succ N ih =>
      intro n σ hn hI
      refine fun g => (h n σ hI g).mono fun b σ₁ hb => ⟨fun e g' => (hb.1 e g').mono fun fl σ₂ hf => ?_, hb.2⟩
      cases fl with
      | next => obtain ⟨m, hm, hI'⟩ := hf; exact ih m σ₂ (by lia) hI'
      | cont => obtain ⟨m, hm, hI'⟩ := hf; exact ih m σ₂ (by lia) hI'
      | brk => exact hf
      | ret v => exact hf
  exact wx_while (n + 1) (key _ n σ (Nat.lt_succ_self _) h0)
noncomputable def LTurn (I : Nat → AS → Prop) (n : Nat) (K : Fl → AS → Prop) : Fl → AS → Prop
  | .next, σ | .cont, σ => I n σ
  | .brk, σ => K .next σ
  | .ret v, σ => K (.ret v) σ
theorem lturn_next {I : Nat → AS → Prop} {n : Nat} {K : Fl → AS → Prop} {σ : AS} (h : I n σ) : LTurn I n K .next σ := h
theorem loop_inv {X : Scene B} {target : Expr} {body : List Stmt} {Ok : List (List PV) → Prop} {K : Fl → AS → Prop} {all : List PV} {σ : AS} (I : Nat → AS → Prop) (h0 : I 0 σ) (hOk : ∀ i σ, I i σ → Ok σ.S)
    (hstep : ∀ i v σ, all[i]? = some v → I i σ → WA X target v σ fun σ₁ => WS X body σ₁ (LTurn I (i + 1) K)) (hend : ∀ σ, I all.length σ → K .next σ) : LoopK X target body Ok K all σ := by
  have key : ∀ (rest : List PV) (i : Nat) (σ : AS), all.drop i = rest → i ≤ all.length → I i σ → LoopK X target body Ok K rest σ := by
    intro rest
    induction rest with
    | nil =>
      intro i σ hr hi hI
      have : i = all.length := by
        have := congrArg List.length hr
        simp at this; lia
      subst this
      exact ⟨hOk _ _ hI, hend σ hI⟩
    | cons v rest ih =>
      intro i σ hr hi hI
      have hlt : i < all.length := by
        have := congrArg List.length hr
        simp at this; lia
      have hv : all[i]? = some v := by rw [← List.head?_drop, hr]; rfl
      have hrest : all.drop (i + 1) = rest := by rw [← List.tail_drop, hr]; rfl
      refine ⟨hOk _ _ hI, fun g x hx => (hstep i v σ hv hI g x hx).mono fun _ σ₁ h₁ g' => (h₁ g').mono fun fl σ₂ h₂ => ?_⟩
      cases fl with
      | next => exact ih (i + 1) σ₂ hrest hlt h₂
      | cont => exact ih (i + 1) σ₂ hrest hlt h₂
      | brk => exact h₂
      | ret v => exact h₂
  exact key all 0 σ rfl (Nat.zero_le _) h0
theorem IfsK.mono {X : Scene B} {ifs : List Expr} {σ : AS} {K K' : Bool → AS → Prop} (h : IfsK X ifs σ K) (hk : ∀ b σ, K b σ → K' b σ) : IfsK X ifs σ K' := by
  match ifs, h with
  | [], h => exact hk _ _ h
  | [e], h => exact fun g => (h g).mono hk
noncomputable def InMono (inner : AS → (AS → Prop) → Prop) : Prop := ∀ σ (K K' : AS → Prop), (∀ σ, K σ → K' σ) → inner σ K → inner σ K'
theorem turns_inv {X : Scene B} {target : Expr} {ifs : List Expr} {inner : AS → (AS → Prop) → Prop} {Ok : List (List PV) → Prop} {K : AS → Prop} {all : List PV} {σ : AS} (hm : InMono inner) (I : Nat → AS → Prop) (h0 : I 0 σ) (hOk : ∀ i σ, I i σ → Ok σ.S)
    (hstep : ∀ i v σ, all[i]? = some v → I i σ → WA X target v σ fun σ₁ => IfsK X ifs σ₁ fun b σ₂ => (b = true → inner σ₂ (I (i + 1))) ∧ (b = false → I (i + 1) σ₂)) (hend : ∀ σ, I all.length σ → K σ) : TurnsK X target ifs inner Ok K all σ := by
  have key : ∀ (rest : List PV) (i : Nat) (σ : AS), all.drop i = rest → i ≤ all.length → I i σ → TurnsK X target ifs inner Ok K rest σ := by
    intro rest
    induction rest with
    | nil =>
      intro i σ hr hi hI
      have : i = all.length := by
        have := congrArg List.length hr
        simp at this; lia
      subst this
      exact ⟨hOk _ _ hI, hend σ hI⟩
    | cons v rest ih =>
      intro i σ hr hi hI
      have hlt : i < all.length := by
        have := congrArg List.length hr
        simp at this; lia
      have hv : all[i]? = some v := by rw [← List.head?_drop, hr]; rfl
      have hrest : all.drop (i + 1) = rest := by rw [← List.tail_drop, hr]; rfl
      exact ⟨hOk _ _ hI, fun g x hx => (hstep i v σ hv hI g x hx).mono fun _ σ₁ h₁ => h₁.mono fun b σ₂ h₂ => ⟨fun e => hm _ _ _ (fun σ₃ h₃ => ih (i + 1) σ₃ hrest hlt h₃) (h₂.1 e), fun e => ih (i + 1) σ₂ hrest hlt (h₂.2 e)⟩⟩
  exact key all 0 σ rfl (Nat.zero_le _) h0
theorem emitk {X : Scene B} {elt : Expr} {k : Nat} {σ : AS} {K : AS → Prop} (h : WE X elt σ fun v σ₁ => isIt v = true ∧ ∃ xs, σ₁.S[k]? = some xs ∧ xs.length < 1000000 ∧ K ⟨σ₁.vs, σ₁.S.set k (xs ++ [v])⟩) : EmitK X elt k σ K := h
theorem emit_mono {X : Scene B} {elt : Expr} {k : Nat} : InMono (EmitK X elt k) := fun σ K K' hk h => fun g => (h g).mono fun v σ₁ ⟨h1, xs, h2, h3, h4⟩ => ⟨h1, xs, h2, h3, hk _ h4⟩
theorem TurnsK.mono {X : Scene B} {target : Expr} {ifs : List Expr} {inner : AS → (AS → Prop) → Prop} {Ok : List (List PV) → Prop} {K K' : AS → Prop} (hm : InMono inner) (hk : ∀ σ, K σ → K' σ) : ∀ {all : List PV} {σ : AS}, TurnsK X target ifs inner Ok K all σ → TurnsK X target ifs inner Ok K' all σ
  | [], σ, h => ⟨h.1, hk _ h.2⟩
  | v :: r, σ, h => ⟨h.1, fun g x hx => (h.2 g x hx).mono fun _ σ₁ h₁ => h₁.mono fun b σ₂ h₂ => ⟨fun e => hm _ _ _ (fun σ₃ h₃ => TurnsK.mono hm hk h₃) (h₂.1 e), fun e => TurnsK.mono hm hk (h₂.2 e)⟩⟩
theorem second_mono {X : Scene B} {elt t₂ i₂ : Expr} {ifs₂ : List Expr} {k : Nat} : InMono (SecondK X elt t₂ i₂ ifs₂ k) := fun σ K K' hk h => fun g => (h g).mono fun v σ₁ ⟨j, all, h1, h2, h3⟩ => ⟨j, all, h1, h2, h3.mono emit_mono hk⟩
/-- the store, its last lists -/
theorem st0 {S : List (List PV)} {a : List PV} {r : List (List PV)} : (S ++ a :: r)[S.length]? = some a := by simp
theorem st1 {S : List (List PV)} {a b : List PV} {r : List (List PV)} : (S ++ a :: b :: r)[S.length + 1]? = some b := by simp
theorem sx0 {S : List (List PV)} {a x : List PV} {r : List (List PV)} : (S ++ a :: r).set S.length x = S ++ x :: r := by simp
theorem sx1 {S : List (List PV)} {a b x : List PV} {r : List (List PV)} : (S ++ a :: b :: r).set (S.length + 1) x = S ++ a :: x :: r := by simp
theorem sold {S T : List (List PV)} {k : Nat} {a : List PV} (h : S[k]? = some a) : (S ++ T)[k]? = some a := by
  rw [List.getElem?_append_left (List.getElem?_eq_some_iff.mp h).1]; exact h
/-- what stands at the top -/
structure Ctx (B : Base) : Prop where
  bok : BaseOk B
  len : B.mg "len" = none
  sum : B.mg "sum" = none
  sorted : B.mg "sorted" = none
  range : B.mg "range" = none
  zip : B.mg "zip" = none
  str : B.mg "str" = none
  int : B.mg "int" = none
  bisr : ∃ a fd, FnAt B "bisect_right" (fnArgs (theStmt 1)) (fnBody (theStmt 1)) (fnScope (theStmt 1)) a fd ∧ Dfl2 B fd
  ins : ∃ a fd, FnAt B "insort_left" (fnArgs (theStmt 2)) (fnBody (theStmt 2)) (fnScope (theStmt 2)) a fd ∧ Dfl2 B fd
  bisl : ∃ a fd, FnAt B "bisect_left" (fnArgs (theStmt 3)) (fnBody (theStmt 3)) (fnScope (theStmt 3)) a fd ∧ Dfl2 B fd
  p229 : ∃ a fd, FnAt B "parse229" (fnArgs (theStmt 8)) (fnBody (theStmt 8)) (fnScope (theStmt 8)) a fd ∧ Dfl0 fd
  p257 : ∃ a fd, FnAt B "parse257" (fnArgs (theStmt 9)) (fnBody (theStmt 9)) (fnScope (theStmt 9)) a fd ∧ Dfl0 fd
  html : ∃ a fd, FnAt B "_escape_attrib_html" (fnArgs (theStmt 12)) (fnBody (theStmt 12)) (fnScope (theStmt 12)) a fd ∧ Dfl0 fd
  cdata : ∃ a fd, FnAt B "_escape_cdata_c14n" (fnArgs (theStmt 13)) (fnBody (theStmt 13)) (fnScope (theStmt 13)) a fd ∧ Dfl0 fd
  attrib : ∃ a fd, FnAt B "_escape_attrib_c14n" (fnArgs (theStmt 14)) (fnBody (theStmt 14)) (fnScope (theStmt 14)) a fd ∧ Dfl0 fd
  urn : ∃ a fd, FnAt B "_law_urn" (fnArgs (theStmt 16)) (fnBody (theStmt 16)) (fnScope (theStmt 16)) a fd ∧ Dfl0 fd
  rise : ∃ a fd, FnAt B "_law_rise" (fnArgs (theStmt 17)) (fnBody (theStmt 17)) (fnScope (theStmt 17)) a fd ∧ Dfl0 fd
  drawn : ∃ a fd, FnAt B "_law_drawn" (fnArgs (theStmt 18)) (fnBody (theStmt 18)) (fnScope (theStmt 18)) a fd ∧ Dfl0 fd
  written : ∃ a fd, FnAt B "_law_written" (fnArgs (theStmt 19)) (fnBody (theStmt 19)) (fnScope (theStmt 19)) a fd ∧ Dfl0 fd
  spelled : ∃ a fd, FnAt B "_law_spelled" (fnArgs (theStmt 20)) (fnBody (theStmt 20)) (fnScope (theStmt 20)) a fd ∧ Dfl0 fd
end
section
open PySem PyProof.Rows
end
local macro_rules | `(tactic| walk_at "IX") => `(tactic| repeat' (first | with_reducible exact Ix.here | with_reducible apply Ix.there))
local macro_rules | `(tactic| walk_at "SX") => `(tactic| repeat' (first | with_reducible exact Sx.dict | with_reducible exact Sx.cell | with_reducible apply Sx.there))
local macro_rules | `(tactic| walk_at "CX") => `(tactic| repeat' (first | with_reducible exact Cx.here | with_reducible apply Cx.there))
local macro_rules | `(tactic| walk_at "GX") => `(tactic| repeat' (first | with_reducible exact List.mem_cons_self | with_reducible apply List.mem_cons_of_mem))
local macro_rules | `(tactic| walk_at "AW") => `(tactic| first
  | with_reducible first | refine ws_cons ?_ | refine ws_nil ?_ | refine then_next ?_ | refine then_ret ?_ | refine then_brk ?_ | refine wx_if ?_ | refine wx_return ?_ | refine wx_break ?_ | refine wx_try ?_ | refine we_int ?_ | refine we_str ?_ | refine we_none ?_ | refine we_bool ?_ | refine we_binop ?_ | refine we_slice ?_ | refine we_sub ?_ | refine we_ifexp ?_ | refine we_tuple ?_ | refine we_list ?_ | refine wt_compare ?_ | refine wt_chain ?_ | refine wt_or ?_ | refine or_cons ?_ | refine or_nil ?_ | refine pt_none ?_ | refine pt_some ?_ | refine bk_add ?_ | refine bk_sub ?_ | refine ck_lt ?_ | refine ck_le ?_ | refine ck_ge ?_ | refine ck_eq ?_ | refine ck_ne ?_ | refine ck_is ?_ | refine ck_eqs ?_ | refine ck_nes ?_ | refine ck_ins ?_ | refine ck_ne_tup ?_ | refine wl_nil ?_ | refine lturn_next ?_ | refine turn_next ?_ | refine turn_brk ?_ | refine yes_no ?_ | refine no_yes ?_
  | ((with_reducible refine' wx_assign ?hN ?_ ?hs); (case hN => assumption); (case hs => (intro _; rfl)))
  | ((with_reducible refine' wx_expr ?_ ?hs); (case hs => (intro _; rfl)))
  | ((with_reducible refine' we_name ?hN ?hx ?_); (case hN => assumption); (case hx => walk_at "IX"))
  | ((with_reducible refine' wl_cons ?_ ?he); (case he => (intro _; rfl)))
  | ((with_reducible refine' asg ?hx ?_); (case hx => walk_at "SX"))
  | ((with_reducible refine' and_true ?hb ?_); (case hb => exact (rfl : (true : Bool) = true)))
  | ((with_reducible refine' and_false ?hb ?_); (case hb => exact (rfl : (false : Bool) = false)))
  | ((with_reducible refine' wa_name ?hN ?hx ?_); (case hN => assumption); (case hx => walk_at "SX")))
/-! UrnBis -/
section
open PySem PyProof.Rows
variable {B : Base}



/-- where a number lies among others -/
noncomputable def Cut (xs : List Int) (x : Int) (p : Nat) : Prop := p ≤ xs.length ∧ (∀ i v, i < p → xs[i]? = some v → v ≤ x) ∧ ∀ i v, p ≤ i → xs[i]? = some v → x < v
noncomputable def StmtsOf : Stmt → List Stmt
  | .While _ body _ _ => body
  | .For _ _ body _ _ => body
  | .If _ body _ _ => body
  | _ => []
theorem fdiv2 {i j : Int} (h0 : 0 ≤ i) (h : i < j) : i ≤ (i + j).fdiv 2 ∧ (i + j).fdiv 2 < j := by
  have e : (i + j).fdiv 2 = (i + j) / 2 := Int.fdiv_eq_ediv_of_nonneg _ (by lia)
  rw [e]
  lia
theorem spec_bisr (C : Ctx B) {k : Nat} {xs : List Int} {x : Int} {p : Nat} {S : List (List PV)} {K : PV → List (List PV) → Prop} (hS : S[k]? = some (nums xs)) (hn : xs.length < 1000000) (hc : Cut xs x p) (h : K (.av (.int p)) S) :
    Spec B 1 "bisect_right" [.lst k, .av (.int x)] S K := by
  obtain ⟨a, fd, F, hd⟩ := C.bisr
  refine spec_in (k := 0) C.bok F [("a", .lst k), ("x", .av (.int x)), ("lo", .av (.int 0)), ("hi", .av .none), ("key", .av .none)] ["mid"] ["ValueError", "len"] ["a", "x", "lo", "hi", "key", "mid"] rfl _ rfl (by decide +kernel) (binds_bis F.params hd is5_1 _ _) fun X hk hN hG => ?_
  simp only [dictN, List.map_cons, List.map_nil] at hN
  show WS X (fnBody (theStmt 1)) ⟨[some (.lst k), some (.av (.int x)), some (.av (.int 0)), some (.av .none), some (.av .none), none], S⟩ (Ends S.length K)
  refine ws_cons ?_
  repeat (walk_at "AW")
  refine we_bcall (f := .builtin "len") hG (by walk_at "GX") C.len ((C.bok.mb _ (by decide)).trans boot_len) (.builtin _) ?_
  repeat (walk_at "AW")
  refine bc_len_list hS (by simpa using hn) ?_
  repeat (walk_at "AW")
  obtain ⟨c1, c2, c3⟩ := hc
  refine wx_while_inv (fun n σ => ∃ (lo hi : Nat) (m : Option PV), σ = ⟨[some (.lst k), some (.av (.int x)), some (.av (.int lo)), some (.av (.int hi)), some (.av .none), m], S⟩ ∧ n = hi - lo ∧ lo ≤ p ∧ p ≤ hi ∧ hi ≤ xs.length) xs.length
    ⟨0, xs.length, none, by simp, rfl, Nat.zero_le _, c1, Nat.le_refl _⟩ ?_
  rintro n σ ⟨lo, hi, m, rfl, rfl, h1, h2, h3⟩
  repeat (walk_at "AW")
  refine ⟨fun hb => ?_, fun hb => ?_⟩
  · have hb : (lo : Int) < hi := by simpa using hb
    have hm := fdiv2 (Int.natCast_nonneg lo) hb
    obtain ⟨mid, hmid⟩ := Int.eq_ofNat_of_zero_le (show 0 ≤ ((lo : Int) + hi).fdiv 2 by lia)
    repeat (walk_at "AW")
    refine bk_div (by decide) ?_
    rw [hmid] at hm ⊢
    repeat (walk_at "AW")
    have hlt : mid < xs.length := by lia
    refine sub_list hS ⟨Int.natCast_nonneg _, by lia⟩ (v := .av (.int xs[mid])) (by simp [hlt]) ?_
    repeat (walk_at "AW")
    refine ⟨fun hx => ?_, fun hx => ?_⟩
    · have hx : x < xs[mid] := by simpa using hx
      repeat (walk_at "AW")
      refine ⟨mid - lo, by lia, lo, mid, _, rfl, rfl, h1, ?_, by lia⟩
      rcases Nat.lt_or_ge mid p with hq | hq
      · have := c2 mid xs[mid] hq (by simp [hlt]); lia
      · exact hq
    · have hx : ¬ x < xs[mid] := by simpa using hx
      repeat (walk_at "AW")
      refine ⟨hi - (mid + 1), by lia, mid + 1, hi, some (.av (.int mid)), by simp, rfl, ?_, h2, h3⟩
      rcases Nat.lt_or_ge mid p with hq | hq
      · exact hq
      · have := c3 mid xs[mid] hq (by simp [hlt]); lia
  · have hb : ¬ (lo : Int) < hi := by simpa using hb
    have e : lo = p := by lia
    subst e
    repeat (walk_at "AW")
    simpa [Ends, Leave] using h

/-- the signs' order -/
noncomputable def slt (x y : Str) : Prop := x.cps.toList < y.cps.toList
noncomputable abbrev encP (e : Str × Int) : PV := .tup [.str e.1, .int e.2]
noncomputable abbrev encU (u : List (Str × Int)) : List PV := u.map encP
noncomputable def CutU (xs : List (Str × Int)) (x : Str) (p : Nat) : Prop := p ≤ xs.length ∧ (∀ i v, i < p → xs[i]? = some v → slt v.1 x) ∧ (∀ i v, p ≤ i → xs[i]? = some v → ¬ slt v.1 x) ∧ ∀ e ∈ xs, e.1 ≠ x
theorem spec_bisl (C : Ctx B) {k : Nat} {xs : List (Str × Int)} {x : Str} {m : Int} {p : Nat} {S : List (List PV)} {K : PV → List (List PV) → Prop} (hS : S[k]? = some (encU xs)) (hn : xs.length < 1000000) (hc : CutU xs x p) (h : K (.av (.int p)) S) :
    Spec B 1 "bisect_left" [.lst k, encP (x, m), .av (.int 0), .av .none] S K := by
  obtain ⟨a, fd, F, hd⟩ := C.bisl
  refine spec_in (k := 0) C.bok F [("a", .lst k), ("x", encP (x, m)), ("lo", .av (.int 0)), ("hi", .av .none), ("key", .av .none)] ["mid"] ["ValueError", "len"] ["a", "x", "lo", "hi", "key", "mid"] rfl _ rfl (by decide +kernel) (binds_bis4 F.params hd is5_3 _ _ _ _) fun X hk hN hG => ?_
  simp only [dictN, List.map_cons, List.map_nil] at hN
  show WS X (fnBody (theStmt 3)) ⟨[some (.lst k), some (.tup [.str x, .int m]), some (.av (.int 0)), some (.av .none), some (.av .none), none], S⟩ (Ends S.length K)
  refine ws_cons ?_
  repeat (walk_at "AW")
  refine we_bcall (f := .builtin "len") hG (by walk_at "GX") C.len ((C.bok.mb _ (by decide)).trans boot_len) (.builtin _) ?_
  repeat (walk_at "AW")
  refine bc_len_list hS (by simpa using hn) ?_
  repeat (walk_at "AW")
  obtain ⟨c1, c2, c3, c4⟩ := hc
  refine wx_while_inv (fun n σ => ∃ (lo hi : Nat) (mo : Option PV), σ = ⟨[some (.lst k), some (.tup [.str x, .int m]), some (.av (.int lo)), some (.av (.int hi)), some (.av .none), mo], S⟩ ∧ n = hi - lo ∧ lo ≤ p ∧ p ≤ hi ∧ hi ≤ xs.length) xs.length
    ⟨0, xs.length, none, by simp, rfl, Nat.zero_le _, c1, Nat.le_refl _⟩ ?_
  rintro n σ ⟨lo, hi, mo, rfl, rfl, h1, h2, h3⟩
  repeat (walk_at "AW")
  refine ⟨fun hb => ?_, fun hb => ?_⟩
  · have hb : (lo : Int) < hi := by simpa using hb
    have hm := fdiv2 (Int.natCast_nonneg lo) hb
    obtain ⟨mid, hmid⟩ := Int.eq_ofNat_of_zero_le (show 0 ≤ ((lo : Int) + hi).fdiv 2 by lia)
    repeat (walk_at "AW")
    refine bk_div (by decide) ?_
    rw [hmid] at hm ⊢
    repeat (walk_at "AW")
    have hlt : mid < xs.length := by lia
    refine sub_list hS ⟨Int.natCast_nonneg _, by lia⟩ (v := encP xs[mid]) (by simp [hlt]) ?_
    repeat (walk_at "AW")
    have hne : (xs[mid].1 == x) = false := by
      have := c4 xs[mid] (List.getElem_mem hlt)
      simpa using this
    refine ck_lt_tup hne ?_
    refine ⟨fun hx => ?_, fun hx => ?_⟩
    · have hx : slt xs[mid].1 x := by simpa [slt] using hx
      repeat (walk_at "AW")
      refine ⟨hi - (mid + 1), by lia, mid + 1, hi, some (.av (.int mid)), by simp, rfl, ?_, h2, h3⟩
      rcases Nat.lt_or_ge mid p with hq | hq
      · exact hq
      · exact absurd hx (c3 mid xs[mid] hq (by simp [hlt]))
    · have hx : ¬ slt xs[mid].1 x := by simpa [slt] using hx
      repeat (walk_at "AW")
      refine ⟨mid - lo, by lia, lo, mid, some (.av (.int mid)), rfl, rfl, h1, ?_, by lia⟩
      rcases Nat.lt_or_ge mid p with hq | hq
      · exact absurd (c2 mid xs[mid] hq (by simp [hlt])) hx
      · exact hq
  · have hb : ¬ (lo : Int) < hi := by simpa using hb
    have e : lo = p := by lia
    subst e
    repeat (walk_at "AW")
    simpa [Ends, Leave] using h
theorem spec_ins (C : Ctx B) {k : Nat} {xs : List (Str × Int)} {x : Str} {m : Int} {p : Nat} {S : List (List PV)} {K : PV → List (List PV) → Prop} (hS : S[k]? = some (encU xs)) (hn : xs.length < 1000000) (hc : CutU xs x p)
    (h : K (.av .none) (S.set k (encU (xs.take p ++ (x, m) :: xs.drop p)))) : Spec B 2 "insort_left" [.lst k, encP (x, m)] S K := by
  obtain ⟨a, fd, F, hd⟩ := C.ins
  refine spec_in (k := 1) C.bok F [("a", .lst k), ("x", encP (x, m)), ("lo", .av (.int 0)), ("hi", .av .none), ("key", .av .none)] [] ["bisect_left"] ["a", "x", "lo", "hi", "key"] rfl _ rfl (by decide +kernel) (binds_bis F.params hd is5_2 _ _) fun X hk hN hG => ?_
  simp only [dictN, List.map_cons, List.map_nil] at hN
  show WS X (fnBody (theStmt 2)) ⟨[some (.lst k), some (.tup [.str x, .int m]), some (.av (.int 0)), some (.av .none), some (.av .none)], S⟩ (Ends S.length K)
  refine ws_cons ?_
  repeat (walk_at "AW")
  obtain ⟨a', fd', F', hd'⟩ := C.bisl
  refine we_call hG (by walk_at "GX") F'.is (by rw [hk]; exact Nat.le_refl 1) ?_
  repeat (walk_at "AW")
  refine spec_bisl C hS hn hc ?_
  dsimp only
  repeat (walk_at "AW")
  refine we_meth PySem.F.plainAttrs_list PySem.F.slot_list_insert PySem.F.type_list_insert ?_
  repeat (walk_at "AW")
  refine ⟨.lst _, ?_⟩
  repeat (walk_at "AW")
  refine bc_insert hS (by simpa using hn) (Int.natCast_nonneg _) (by simpa using hc.1) rfl ?_
  refine ⟨rfl, ?_⟩
  repeat (walk_at "AW")
  have hl : k < S.length := (List.getElem?_eq_some_iff.mp hS).1
  have e : (encU xs).take (p : Int).toNat ++ PV.tup [.str x, .int m] :: (encU xs).drop (p : Int).toNat = encU (xs.take p ++ (x, m) :: xs.drop p) := by simp [encU, encP]
  rw [e]
  show K _ ((S.set k _).take S.length)
  rw [List.take_of_length_le (by simp)]
  exact h
end
/-! UrnMade -/
section
open PySem PyProof.Rows
variable {B : Base}



noncomputable def rise (s : Nat) : Nat → Nat
  | 0 => 1
  | m + 1 => rise s m * (s + m)
theorem spec_rise (C : Ctx B) {s m : Nat} {S : List (List PV)} {K : PV → List (List PV) → Prop} (hs : s < 1000000) (hm : m < 1000000) (h : K (.av (.int (rise s m))) S) : Spec B 1 "_law_rise" [.av (.int s), .av (.int m)] S K := by
  obtain ⟨a, fd, F, hd⟩ := C.rise
  refine spec_in (k := 0) C.bok F [("start", .av (.int s)), ("many", .av (.int m))] ["made", "k"] ["range"] ["start", "many", "made", "k"] rfl _ rfl (by decide +kernel) (binds2 F.params hd bind_law_rise _ _) fun X hk hN hG => ?_
  simp only [dictN, List.map_cons, List.map_nil] at hN
  show WS X (fnBody (theStmt 17)) ⟨[some (.av (.int s)), some (.av (.int m)), none, none], S⟩ (Ends S.length K)
  refine ws_cons ?_
  repeat (walk_at "AW")
  refine wx_for_range hG (by walk_at "GX") C.range ?_
  repeat (walk_at "AW")
  refine ⟨m, rfl, hm, ?_⟩
  refine loop_inv (fun i σ => ∃ o, σ = ⟨[some (.av (.int s)), some (.av (.int m)), some (.av (.int (rise s i))), o], S⟩) ⟨_, rfl⟩ (fun _ _ _ => trivial) ?_ ?_
  · rintro i v σ hv ⟨o, rfl⟩
    have hi : i < m := by simpa using (List.getElem?_eq_some_iff.mp hv).1
    have hv' : v = .av (.int (i : Int)) := by
      simp [intsTo, List.getElem?_map, List.getElem?_range hi] at hv
      exact hv.symm
    subst hv'
    repeat (walk_at "AW")
    refine bk_mul ⟨by lia, by lia⟩ ?_
    repeat (walk_at "AW")
    exact ⟨some (.av (.int (i : Int))), by simp [rise]⟩
  · rintro σ ⟨o, rfl⟩
    have e : (intsTo m).length = m := by simp
    rw [e]
    repeat (walk_at "AW")
    simpa [Ends, Leave] using h

noncomputable def alphabet : List Str := ["\t", "\n", "\r", "\"", "&", "<", ">", "a"]
structure UrnOk (u : List (Str × Int)) : Prop where
  len : u.length = 3
  sorted : u.Pairwise fun a b => slt a.1 b.1
  mem : ∀ e ∈ u, e.1 ∈ alphabet ∧ 1 ≤ e.2 ∧ e.2 ≤ 3
theorem slt_trans {x y z : Str} (h : slt x y) (h' : slt y z) : slt x z := List.lt_trans h h'
theorem slt_irrefl {x : Str} : ¬ slt x x := List.lt_irrefl _
theorem slt_total {x y : Str} (h : x ≠ y) : slt x y ∨ slt y x := by
  by_cases h1 : slt x y
  · exact .inl h1
  · by_cases h2 : slt y x
    · exact .inr h2
    · exfalso; apply h
      have e : x.cps.toList = y.cps.toList := List.le_antisymm (List.not_lt.mp h2) (List.not_lt.mp h1)
      cases x; cases y
      simp only [Str.mk.injEq]
      exact Array.toList_inj.mp e
/-- where a sign lies in an urn in order -/
theorem cut_of {u : List (Str × Int)} {x : Str} (hs : u.Pairwise fun a b => slt a.1 b.1) (hx : ∀ e ∈ u, e.1 ≠ x) : ∃ p, CutU u x p := by
  induction u with
  | nil => exact ⟨0, Nat.le_refl _, fun i v h => by lia, fun i v _ h => by simp at h, fun e h => nomatch h⟩
  | cons a r ih =>
    have hs' := List.pairwise_cons.mp hs
    obtain ⟨p, c1, c2, c3, c4⟩ := ih hs'.2 fun e he => hx e (.tail _ he)
    by_cases ha : slt a.1 x
    · refine ⟨p + 1, by simpa using c1, fun i v hi hv => ?_, fun i v hi hv => ?_, hx⟩
      · cases i with
        | zero => simp at hv; subst hv; exact ha
        | succ i => exact c2 i v (by lia) (by simpa using hv)
      · cases i with
        | zero => lia
        | succ i => exact c3 i v (by lia) (by simpa using hv)
    · refine ⟨0, Nat.zero_le _, fun i v hi => by lia, fun i v hi hv => ?_, hx⟩
      cases i with
      | zero => simp at hv; subst hv; exact ha
      | succ i =>
        intro hvx
        have hm : v ∈ r := List.mem_of_getElem? (by simpa using hv)
        exact ha (slt_trans (hs'.1 v hm) hvx)
theorem cut_sorted {u : List (Str × Int)} {x : Str} {m : Int} {p : Nat} (hs : u.Pairwise fun a b => slt a.1 b.1) (hc : CutU u x p) : (u.take p ++ (x, m) :: u.drop p).Pairwise fun a b => slt a.1 b.1 := by
  obtain ⟨c1, c2, c3, c4⟩ := hc
  have hlt : ∀ e ∈ u.take p, slt e.1 x := fun e he => by
    obtain ⟨i, hi, rfl⟩ := List.mem_iff_getElem.mp he
    have hi' : i < p := by simp at hi; lia
    exact c2 i _ hi' (by rw [List.getElem_take]; exact List.getElem?_eq_getElem _)
  have hgt : ∀ e ∈ u.drop p, slt x e.1 := fun e he => by
    obtain ⟨i, hi, rfl⟩ := List.mem_iff_getElem.mp he
    simp at hi
    have hg : u[p + i]? = some ((u.drop p)[i]'(by simp; lia)) := by simp [List.getElem_drop]
    have h := c3 (p + i) _ (by lia) hg
    rcases slt_total (c4 _ (List.mem_of_getElem? hg)) with h' | h'
    · exact absurd h' h
    · exact h'
  rw [List.pairwise_append]
  refine ⟨hs.sublist (List.take_sublist _ _), List.pairwise_cons.mpr ⟨fun e he => hgt e he, hs.sublist (List.drop_sublist _ _)⟩, fun a ha b hb => ?_⟩
  rcases List.mem_cons.mp hb with rfl | hb
  · exact hlt a ha
  · exact slt_trans (hlt a ha) (hgt b hb)
theorem fmod_range {z : Int} {n : Nat} (hn : 0 < n) : ∃ i : Nat, z.fmod (n : Int) = i ∧ i < n := by
  have h1 := Int.fmod_nonneg_of_pos z (show (0 : Int) < n by lia)
  have h2 := Int.fmod_lt_of_pos z (show (0 : Int) < n by lia)
  obtain ⟨i, hi⟩ := Int.eq_ofNat_of_zero_le h1
  exact ⟨i, hi, by lia⟩
theorem map_erase {α β : Type} (f : α → β) : ∀ (l : List α) (i : Nat), (l.map f).eraseIdx i = (l.eraseIdx i).map f
  | [], _ => rfl
  | _ :: _, 0 => rfl
  | a :: l, i + 1 => congrArg (f a :: ·) (map_erase f l i)
set_option maxHeartbeats 1000000 in
theorem spec_urn (C : Ctx B) {k : Nat} {zs : List Int} {S : List (List PV)} {K : PV → List (List PV) → Prop} (hS : S[k]? = some (nums zs)) (hz : zs.length = 3) (h : ∀ u, UrnOk u → K (.lst S.length) (S ++ [encU u])) :
    Spec B 3 "_law_urn" [.lst k] S K := by
  obtain ⟨a, fd, F, hd⟩ := C.urn
  refine spec_in (k := 2) C.bok F [("sums", .lst k)] ["left", "urn", "z", "sign"] ["len", "insort_left"] ["sums", "left", "urn", "z", "sign"] rfl _ rfl (by decide +kernel) (binds1 F.params hd bind_urn _) fun X hk hN hG => ?_
  simp only [dictN, List.map_cons, List.map_nil] at hN
  show WS X (fnBody (theStmt 16)) ⟨[some (.lst k), none, none, none, none], S⟩ (Ends S.length K)
  refine ws_cons ?_
  repeat (walk_at "AW")
  refine ⟨by decide, rfl, ?_⟩
  repeat (walk_at "AW")
  refine ⟨by decide, rfl, ?_⟩
  repeat (walk_at "AW")
  refine wx_for ?_
  repeat (walk_at "AW")
  have e0 : (S ++ [[PV.av (.str "\t"), .av (.str "\n"), .av (.str "\r"), .av (.str "\""), .av (.str "&"), .av (.str "<"), .av (.str ">"), .av (.str "a")]]).length = S.length + 1 := by simp
  have e1 : ∀ x y : List PV, S ++ [x] ++ [y] = S ++ [x, y] := by simp
  simp only [e0, e1]
  refine ⟨k, nums zs, rfl, sold hS, ?_⟩
  refine loop_inv (fun i σ => ∃ (left : List Str) (u : List (Str × Int)) (o1 o2 : Option PV), σ = ⟨[some (.lst k), some (.lst S.length), some (.lst (S.length + 1)), o1, o2], S ++ [left.map fun x => PV.av (.str x), encU u]⟩ ∧ left.length = 8 - i ∧ left.Nodup ∧ (∀ x ∈ left, x ∈ alphabet) ∧ u.length = i ∧
      (u.Pairwise fun a b => slt a.1 b.1) ∧ ∀ e ∈ u, (e.1 ∈ alphabet ∧ 1 ≤ e.2 ∧ e.2 ≤ 3) ∧ e.1 ∉ left) ⟨alphabet, [], none, none, rfl, rfl, by decide, fun _ h => h, rfl, .nil, fun e h => nomatch h⟩ ?_ ?_ ?_
  · rintro i σ ⟨left, u, o1, o2, rfl, _⟩
    exact sold hS
  · rintro i v σ hv ⟨left, u, o1, o2, rfl, h1, h2, h3, h4, h5, h6⟩
    have hi : i < 3 := by have := (List.getElem?_eq_some_iff.mp hv).1; simpa [hz] using this
    rw [List.getElem?_map] at hv
    obtain ⟨z, hzv, rfl⟩ := Option.map_eq_some_iff.mp hv
    repeat (walk_at "AW")
    refine we_meth PySem.F.plainAttrs_list PySem.F.slot_list_pop PySem.F.type_list_pop ?_
    repeat (walk_at "AW")
    refine ⟨.lst _, ?_⟩
    repeat (walk_at "AW")
    refine we_bcall (f := .builtin "len") hG (by walk_at "GX") C.len ((C.bok.mb _ (by decide)).trans boot_len) (.builtin _) ?_
    repeat (walk_at "AW")
    refine bc_len_list st0 (by simp; lia) ?_
    refine bk_mod (by simp only [List.length_map]; lia) ?_
    have hl8 : ((left.map fun x => PV.av (.str x)).length : Int) = (left.length : Int) := by simp
    rw [hl8]
    obtain ⟨j, hj, hjl⟩ := fmod_range (z := z) (n := left.length) (by lia)
    rw [hj]
    repeat (walk_at "AW")
    have hlt : j < left.length := hjl
    refine bc_pop st0 (by simp; lia) (Int.natCast_nonneg _) (v := .av (.str left[j])) (by simp [hlt]) ?_
    simp only [Int.toNat_natCast, sx0]
    repeat (walk_at "AW")
    obtain ⟨a', fd', F', hd'⟩ := C.ins
    refine we_call hG (by walk_at "GX") F'.is (by rw [hk]; exact Nat.le_refl 2) ?_
    repeat (walk_at "AW")
    refine bk_div (by decide) ?_
    repeat (walk_at "AW")
    refine bk_mod (by decide) ?_
    repeat (walk_at "AW")
    refine ⟨by simp, _, rfl, ?_⟩
    repeat (walk_at "AW")
    have hnot : ∀ e ∈ u, e.1 ≠ left[j] := fun e he q => (h6 e he).2 (q ▸ List.getElem_mem hlt)
    obtain ⟨p, hp⟩ := cut_of h5 hnot
    refine spec_ins C st1 (by lia) hp ?_
    refine ⟨rfl, ?_⟩
    repeat (walk_at "AW")
    simp only [sx1]
    have hb := fmod_range (z := z.fdiv 8) (n := 3) (by decide)
    obtain ⟨q, hq, hq3⟩ := hb
    have hq' : (z.fdiv 8).fmod 3 = (q : Int) := hq
    have hnd : left[j] ∉ left.eraseIdx j := fun hm => by
      rw [List.mem_eraseIdx_iff_getElem] at hm
      obtain ⟨i', hi', hne, e⟩ := hm
      exact hne ((List.getElem_inj h2).mp e)
    refine ⟨left.eraseIdx j, u.take p ++ (left[j], 1 + (z.fdiv 8).fmod 3) :: u.drop p, some (.av (.int z)), some (.av (.str left[j])), by rw [map_erase], ?_, h2.sublist (List.eraseIdx_sublist _ _), fun x hx => h3 x (List.mem_of_mem_eraseIdx hx), ?_, cut_sorted h5 hp, ?_⟩
    · rw [List.length_eraseIdx]; simp [hlt]; lia
    · have := hp.1; simp; lia
    · intro e he
      have he' : e ∈ u ∨ e = (left[j], 1 + (z.fdiv 8).fmod 3) := by
        rcases List.mem_append.mp he with he | he
        · exact .inl (List.mem_of_mem_take he)
        · rcases List.mem_cons.mp he with he | he
          · exact .inr he
          · exact .inl (List.mem_of_mem_drop he)
      rcases he' with he' | rfl
      · exact ⟨(h6 e he').1, fun hm => (h6 e he').2 (List.mem_of_mem_eraseIdx hm)⟩
      · refine ⟨⟨h3 _ (List.getElem_mem hlt), ?_, ?_⟩, hnd⟩
        · show (1 : Int) ≤ 1 + _; rw [hq']; lia
        · show 1 + _ ≤ (3 : Int); rw [hq']; lia
  · rintro σ ⟨left, u, o1, o2, rfl, h1, h2, h3, h4, h5, h6⟩
    have e : (nums zs).length = 3 := by simpa using hz
    rw [e] at h4
    repeat (walk_at "AW")
    have := h u ⟨h4, h5, fun e he => (h6 e he).1⟩
    have hnl : ¬ (S.length + 1 < S.length) := by lia
    simpa [Ends, Leave, hnl] using this
end
/-! UrnText -/
section
open PySem PyProof.Rows

/-- a text by its signs' numbers -/
noncomputable def T (l : List Nat) : Str := ⟨l.toArray⟩
theorem T_cps (l : List Nat) : (T l).cps.toList = l := rfl
theorem T_len (l : List Nat) : (T l).length = l.length := by simp [T, Str.length]
theorem T_of (x : Str) : T x.cps.toList = x := by cases x; simp [T]
theorem T_inj {a b : List Nat} (h : T a = T b) : a = b := by
  have := congrArg (fun x : Str => x.cps.toList) h
  exact this
theorem T_add (a b : List Nat) : T a ++ T b = T (a ++ b) := by
  show Str.append _ _ = _
  simp [T, Str.append]
theorem T_eq (a b : List Nat) : (T a == T b) = decide (a = b) := by
  rw [Bool.eq_iff_iff, beq_iff_eq, decide_eq_true_eq]
  exact ⟨T_inj, fun h => h ▸ rfl⟩
theorem contains_T (l : List Nat) (c : Nat) : Txt.contains (T l) (T [c]) = decide (c ∈ l) := StrLaws.found_one (T l) c
theorem slice_T (l : List Nat) {i j : Nat} (hij : i ≤ j) (hj : j ≤ l.length) : Txt.slice (T l) (some (i : Int)) (some (j : Int)) = T ((l.drop i).take (j - i)) := by
  have h := StrLaws.sliceText_plain (x := T l) (i := (i : Int)) (j := (j : Int)) ⟨by lia, by lia, by rw [T_cps]; lia⟩
  rw [show Txt.slice (T l) (some (i : Int)) (some (j : Int)) = StrLaws.sliceText (T l) (some (i : Int)) (some (j : Int)) from rfl, h, T_cps]
  have e1 : ((i : Nat) : Int).toNat = i := by lia
  have e2 : ((j : Int) - (i : Int)).toNat = j - i := by lia
  rw [e1, e2]; rfl
theorem slice_T0 (l : List Nat) {j : Nat} (hj : j ≤ l.length) : Txt.slice (T l) none (some (j : Int)) = T (l.take j) := by
  have e : Txt.slice (T l) none (some (j : Int)) = Txt.slice (T l) (some ((0 : Nat) : Int)) (some (j : Int)) := by
    unfold Txt.slice
    rw [StrLaws.sliceIdx_none_lo]; rfl
  rw [e, slice_T l (Nat.zero_le _) hj]; simp
theorem item_T (l : List Nat) {i : Nat} {c : Nat} (h : l[i]? = some c) : Txt.item (T l) (i : Int) = T [c] := by
  unfold Txt.item Txt.charAt
  rw [StrLaws.at_nonneg (x := T l) (n := c) (Int.natCast_nonneg i) (by simpa [T] using h)]
  rfl
/-- texts glued -/
noncomputable def glue (z : List Nat) : List (List Nat) → List Nat
  | [] => []
  | [a] => a
  | a :: b :: r => a ++ z ++ glue z (b :: r)
theorem join_T (z : List Nat) : ∀ ps : List (List Nat), Str.join (T z) (ps.map T) = T (glue z ps)
  | [] => rfl
  | [a] => rfl
  | a :: b :: r => by
    show T a ++ T z ++ Str.join (T z) (T b :: r.map T) = _
    have := join_T z (b :: r)
    rw [show (T b :: r.map T) = (b :: r).map T from rfl, this, T_add, T_add]
    rfl
theorem split_T (l : List Nat) (c : Nat) : ∃ ps : List (List Nat), Txt.split (T l) (T [c]) = ps.map T ∧ ps ≠ [] ∧ (∀ p ∈ ps, c ∉ p) ∧ glue [c] ps = l := by
  refine ⟨(Txt.split (T l) (T [c])).map fun x => x.cps.toList, ?_, ?_, ?_, ?_⟩
  · rw [List.map_map]
    exact (List.map_id'' (fun x => T_of x) _).symm
  · intro h
    have h := List.map_eq_nil_iff.mp h
    unfold Txt.split at h
    split at h
    · cases h
    · split at h
      · cases h
      · rename_i hne
        rw [StrLaws.partsBetween_eq] at h
        revert h
        cases occ : Builtin.Str.occurrences (T l) (T [c]) 0 (T l).length ((T l).length + 1) with
        | nil => rw [occ] at hne; simp at hne
        | cons a r => intro h; simp [StrLaws.partsFrom] at h
  · intro p hp
    obtain ⟨x, hx, rfl⟩ := List.mem_map.mp hp
    exact StrLaws.split_free (T l) c x hx
  · have h := StrLaws.join_split (T l) (T [c])
    have e : Txt.split (T l) (T [c]) = ((Txt.split (T l) (T [c])).map fun x => x.cps.toList).map T := by
      rw [List.map_map]
      exact (List.map_id'' (fun x => T_of x) _).symm
    rw [e, join_T] at h
    exact T_inj h
/-- one sign written otherwise -/
noncomputable def rep (c : Nat) (z : List Nat) (l : List Nat) : List Nat := l.flatMap fun d => if d = c then z else [d]
theorem rep_free {c : Nat} {z l : List Nat} (h : c ∉ l) : rep c z l = l := by
  induction l with
  | nil => rfl
  | cons d r ih =>
    have h1 : d ≠ c := fun e => h (e ▸ List.mem_cons_self)
    have h2 : c ∉ r := fun e => h (.tail _ e)
    simp only [rep, List.flatMap_cons, h1, if_false] at ih ⊢
    rw [ih h2]; rfl
theorem rep_glue {c : Nat} {z : List Nat} : ∀ {ps : List (List Nat)}, (∀ p ∈ ps, c ∉ p) → rep c z (glue [c] ps) = glue z ps
  | [], _ => rfl
  | [a], h => rep_free (h a List.mem_cons_self)
  | a :: b :: r, h => by
    have ih := rep_glue (z := z) (ps := b :: r) fun p hp => h p (.tail _ hp)
    have ea := rep_free (z := z) (h a List.mem_cons_self)
    show rep c z (a ++ [c] ++ glue [c] (b :: r)) = a ++ z ++ glue z (b :: r)
    have app : ∀ x y : List Nat, rep c z (x ++ y) = rep c z x ++ rep c z y := fun x y => by simp [rep]
    rw [app, app, ea, ih]
    simp [rep]
theorem replace_T (l : List Nat) (c : Nat) (z : List Nat) : Txt.replace (T l) (T [c]) (T z) = T (rep c z l) := by
  obtain ⟨ps, h1, h2, h3, h4⟩ := split_T l c
  have h := StrLaws.replace_one (T l) (T z) c
  have h1' : Txt.split (T l) ⟨#[c]⟩ = ps.map T := h1
  rw [h1', join_T, ← rep_glue h3, h4] at h
  exact h
/-- texts free of a sign, glued by it, are told by the whole -/
theorem glue_inj {c : Nat} : ∀ {ps qs : List (List Nat)}, ps ≠ [] → qs ≠ [] → (∀ p ∈ ps, c ∉ p) → (∀ p ∈ qs, c ∉ p) → glue [c] ps = glue [c] qs → ps = qs := by
  have head : ∀ (a b r s : List Nat), c ∉ a → c ∉ b → a ++ c :: r = b ++ c :: s → a = b ∧ r = s := by
    intro a
    induction a with
    | nil =>
      intro b r s _ hb e
      cases b with
      | nil => simp at e; exact ⟨rfl, e⟩
      | cons d b => simp at e; exact absurd (e.1 ▸ List.mem_cons_self) hb
    | cons d a ih =>
      intro b r s ha hb e
      cases b with
      | nil => simp at e; exact absurd (e.1 ▸ List.mem_cons_self) ha
      | cons d' b =>
        simp at e
        obtain ⟨h1, h2⟩ := ih b r s (fun h => ha (.tail _ h)) (fun h => hb (.tail _ h)) e.2
        exact ⟨by rw [e.1, h1], h2⟩
  intro ps
  induction ps with
  | nil => intro qs h; exact absurd rfl h
  | cons a ps ih =>
    intro qs _ hq h1 h2 e
    cases qs with
    | nil => exact absurd rfl hq
    | cons b qs =>
      have ha := h1 a List.mem_cons_self
      have hb := h2 b List.mem_cons_self
      cases ps with
      | nil =>
        cases qs with
        | nil => simp [glue] at e; rw [e]
        | cons b' qs =>
          simp only [glue] at e
          exact absurd (by rw [e]; simp) ha
      | cons a' ps =>
        cases qs with
        | nil =>
          simp only [glue] at e
          exact absurd (by rw [← e]; simp) hb
        | cons b' qs =>
          simp only [glue, List.append_assoc, List.singleton_append, List.cons_append, List.nil_append] at e
          obtain ⟨e1, e2⟩ := head a b _ _ ha hb e
          rw [e1, ih (by simp) (by simp) (fun p hp => h1 p (.tail _ hp)) (fun p hp => h2 p (.tail _ hp)) e2]
end
/-! UrnEsc -/
section
open PySem PyProof.Rows
variable {B : Base}



theorem rep_len {c : Nat} {z : List Nat} {m : Nat} (hz : z.length ≤ m) (hm : 1 ≤ m) (l : List Nat) : (rep c z l).length ≤ m * l.length := by
  induction l with
  | nil => simp [rep]
  | cons d r ih =>
    have e : rep c z (d :: r) = (if d = c then z else [d]) ++ rep c z r := by simp [rep]
    rw [e, List.length_append, List.length_cons, Nat.mul_succ]
    split
    · lia
    · simp; lia
/-- one sign of the name text written otherwise -/
theorem wx_rep {X : Scene B} {y zs : Str} {c : Nat} {z l : List Nat} {S : List (List PV)} {K : Fl → AS → Prop} {k0 k1 k2 : Nat} {p0 p1 p2 p3 p4 p5 p6 p7 p8 p9 pa : Pos} (hN : X.fr.N = [(Str.ofString "text", .dict)]) (hy : y = T [c]) (hz : zs = T z) (hyz : [c] ≠ z) (hb : l.length + (l.length + 1) * z.length ≤ 16777216)
    (hline : (p5.endLine == p8.line) = true) (h : K .next ⟨[some (.av (.str (T (rep c z l))))], S⟩) :
    WX X (.If (.Compare (.Constant (.str y) k0 p0) [.In] [.Name (Str.ofString "text") p1] p2) [.Assign [.Name (Str.ofString "text") p3] (.Call (.Attribute (.Name (Str.ofString "text") p4) (Str.ofString "replace") p5) [.Constant (.str y) k1 p6, .Constant (.str zs) k2 p7] [] p8) p9] [] pa)
      ⟨[some (.av (.str (T l)))], S⟩ K := by
  subst hy hz
  repeat (walk_at "AW")
  rw [contains_T]
  refine ⟨fun hc => ?_, fun hc => ?_⟩
  · have hc : c ∈ l := by simpa using hc
    refine ws_cons ?_
    refine wx_assign hN ?_ (by intro _; rfl)
    refine we_replace ?_ ?_ (by intro _; rfl) hline
    · rw [T_eq]; simpa using hyz
    repeat (walk_at "AW")
    refine ⟨T l, rfl, by rw [T_len, T_len]; exact hb, ?_⟩
    rw [replace_T]
    repeat (walk_at "AW")
    exact h
  · have hc : c ∉ l := by simpa using hc
    rw [rep_free hc] at h
    repeat (walk_at "AW")
    exact h
noncomputable def esc_html (l : List Nat) : List Nat := rep 34 [38, 113, 117, 111, 116, 59] (rep 62 [38, 103, 116, 59] (rep 38 [38, 97, 109, 112, 59] (l)))
theorem spec_html (C : Ctx B) {l : List Nat} {S : List (List PV)} {K : PV → List (List PV) → Prop} (hl : l.length ≤ 10) (h : K (.av (.str (T (esc_html l)))) S) : Spec B 1 "_escape_attrib_html" [.av (.str (T l))] S K := by
  obtain ⟨a, fd, F, hd⟩ := C.html
  refine spec_in (k := 0) C.bok F [("text", .av (.str (T l)))] [] [] ["text"] rfl _ rfl (by decide +kernel) (binds1 F.params hd bind_html _) fun X hk hN hG => ?_
  simp only [dictN, List.map_cons, List.map_nil] at hN
  show WS X (fnBody (theStmt 12)) ⟨[some (.av (.str (T l)))], S⟩ (Ends S.length K)
  refine ws_cons ?_
  refine wx_try ?_
  refine ws_cons ?_
  refine wx_rep hN (c := 38) (z := [38, 97, 109, 112, 59]) (by decide +kernel) (by decide +kernel) (by decide) ?_ rfl ?_
  · simp only [List.length_cons, List.length_nil]; lia
  refine then_next ?_
  have h0 := rep_len (c := 38) (z := [38, 97, 109, 112, 59]) (m := 6) (by decide) (by decide) (l)
  generalize hE0 : rep 38 [38, 97, 109, 112, 59] (l) = l0 at *
  refine ws_cons ?_
  refine wx_rep hN (c := 62) (z := [38, 103, 116, 59]) (by decide +kernel) (by decide +kernel) (by decide) ?_ rfl ?_
  · simp only [List.length_cons, List.length_nil]; lia
  refine then_next ?_
  have h1 := rep_len (c := 62) (z := [38, 103, 116, 59]) (m := 6) (by decide) (by decide) (l0)
  generalize hE1 : rep 62 [38, 103, 116, 59] (l0) = l1 at *
  refine ws_cons ?_
  refine wx_rep hN (c := 34) (z := [38, 113, 117, 111, 116, 59]) (by decide +kernel) (by decide +kernel) (by decide) ?_ rfl ?_
  · simp only [List.length_cons, List.length_nil]; lia
  refine then_next ?_
  have h2 := rep_len (c := 34) (z := [38, 113, 117, 111, 116, 59]) (m := 6) (by decide) (by decide) (l1)
  generalize hE2 : rep 34 [38, 113, 117, 111, 116, 59] (l1) = l2 at *
  repeat (walk_at "AW")
  subst hE0 hE1 hE2
  simpa [Ends, Leave, esc_html] using h
noncomputable def esc_cdata (l : List Nat) : List Nat := rep 13 [38, 35, 120, 68, 59] (rep 62 [38, 103, 116, 59] (rep 60 [38, 108, 116, 59] (rep 38 [38, 97, 109, 112, 59] (l))))
theorem spec_cdata (C : Ctx B) {l : List Nat} {S : List (List PV)} {K : PV → List (List PV) → Prop} (hl : l.length ≤ 10) (h : K (.av (.str (T (esc_cdata l)))) S) : Spec B 1 "_escape_cdata_c14n" [.av (.str (T l))] S K := by
  obtain ⟨a, fd, F, hd⟩ := C.cdata
  refine spec_in (k := 0) C.bok F [("text", .av (.str (T l)))] [] [] ["text"] rfl _ rfl (by decide +kernel) (binds1 F.params hd bind_cdata _) fun X hk hN hG => ?_
  simp only [dictN, List.map_cons, List.map_nil] at hN
  show WS X (fnBody (theStmt 13)) ⟨[some (.av (.str (T l)))], S⟩ (Ends S.length K)
  refine ws_cons ?_
  refine wx_try ?_
  refine ws_cons ?_
  refine wx_rep hN (c := 38) (z := [38, 97, 109, 112, 59]) (by decide +kernel) (by decide +kernel) (by decide) ?_ rfl ?_
  · simp only [List.length_cons, List.length_nil]; lia
  refine then_next ?_
  have h0 := rep_len (c := 38) (z := [38, 97, 109, 112, 59]) (m := 6) (by decide) (by decide) (l)
  generalize hE0 : rep 38 [38, 97, 109, 112, 59] (l) = l0 at *
  refine ws_cons ?_
  refine wx_rep hN (c := 60) (z := [38, 108, 116, 59]) (by decide +kernel) (by decide +kernel) (by decide) ?_ rfl ?_
  · simp only [List.length_cons, List.length_nil]; lia
  refine then_next ?_
  have h1 := rep_len (c := 60) (z := [38, 108, 116, 59]) (m := 6) (by decide) (by decide) (l0)
  generalize hE1 : rep 60 [38, 108, 116, 59] (l0) = l1 at *
  refine ws_cons ?_
  refine wx_rep hN (c := 62) (z := [38, 103, 116, 59]) (by decide +kernel) (by decide +kernel) (by decide) ?_ rfl ?_
  · simp only [List.length_cons, List.length_nil]; lia
  refine then_next ?_
  have h2 := rep_len (c := 62) (z := [38, 103, 116, 59]) (m := 6) (by decide) (by decide) (l1)
  generalize hE2 : rep 62 [38, 103, 116, 59] (l1) = l2 at *
  refine ws_cons ?_
  refine wx_rep hN (c := 13) (z := [38, 35, 120, 68, 59]) (by decide +kernel) (by decide +kernel) (by decide) ?_ rfl ?_
  · simp only [List.length_cons, List.length_nil]; lia
  refine then_next ?_
  have h3 := rep_len (c := 13) (z := [38, 35, 120, 68, 59]) (m := 6) (by decide) (by decide) (l2)
  generalize hE3 : rep 13 [38, 35, 120, 68, 59] (l2) = l3 at *
  repeat (walk_at "AW")
  subst hE0 hE1 hE2 hE3
  simpa [Ends, Leave, esc_cdata] using h
noncomputable def esc_attrib (l : List Nat) : List Nat := rep 13 [38, 35, 120, 68, 59] (rep 10 [38, 35, 120, 65, 59] (rep 9 [38, 35, 120, 57, 59] (rep 34 [38, 113, 117, 111, 116, 59] (rep 60 [38, 108, 116, 59] (rep 38 [38, 97, 109, 112, 59] (l))))))
theorem spec_attrib (C : Ctx B) {l : List Nat} {S : List (List PV)} {K : PV → List (List PV) → Prop} (hl : l.length ≤ 10) (h : K (.av (.str (T (esc_attrib l)))) S) : Spec B 1 "_escape_attrib_c14n" [.av (.str (T l))] S K := by
  obtain ⟨a, fd, F, hd⟩ := C.attrib
  refine spec_in (k := 0) C.bok F [("text", .av (.str (T l)))] [] [] ["text"] rfl _ rfl (by decide +kernel) (binds1 F.params hd bind_attrib _) fun X hk hN hG => ?_
  simp only [dictN, List.map_cons, List.map_nil] at hN
  show WS X (fnBody (theStmt 14)) ⟨[some (.av (.str (T l)))], S⟩ (Ends S.length K)
  refine ws_cons ?_
  refine wx_try ?_
  refine ws_cons ?_
  refine wx_rep hN (c := 38) (z := [38, 97, 109, 112, 59]) (by decide +kernel) (by decide +kernel) (by decide) ?_ rfl ?_
  · simp only [List.length_cons, List.length_nil]; lia
  refine then_next ?_
  have h0 := rep_len (c := 38) (z := [38, 97, 109, 112, 59]) (m := 6) (by decide) (by decide) (l)
  generalize hE0 : rep 38 [38, 97, 109, 112, 59] (l) = l0 at *
  refine ws_cons ?_
  refine wx_rep hN (c := 60) (z := [38, 108, 116, 59]) (by decide +kernel) (by decide +kernel) (by decide) ?_ rfl ?_
  · simp only [List.length_cons, List.length_nil]; lia
  refine then_next ?_
  have h1 := rep_len (c := 60) (z := [38, 108, 116, 59]) (m := 6) (by decide) (by decide) (l0)
  generalize hE1 : rep 60 [38, 108, 116, 59] (l0) = l1 at *
  refine ws_cons ?_
  refine wx_rep hN (c := 34) (z := [38, 113, 117, 111, 116, 59]) (by decide +kernel) (by decide +kernel) (by decide) ?_ rfl ?_
  · simp only [List.length_cons, List.length_nil]; lia
  refine then_next ?_
  have h2 := rep_len (c := 34) (z := [38, 113, 117, 111, 116, 59]) (m := 6) (by decide) (by decide) (l1)
  generalize hE2 : rep 34 [38, 113, 117, 111, 116, 59] (l1) = l2 at *
  refine ws_cons ?_
  refine wx_rep hN (c := 9) (z := [38, 35, 120, 57, 59]) (by decide +kernel) (by decide +kernel) (by decide) ?_ rfl ?_
  · simp only [List.length_cons, List.length_nil]; lia
  refine then_next ?_
  have h3 := rep_len (c := 9) (z := [38, 35, 120, 57, 59]) (m := 6) (by decide) (by decide) (l2)
  generalize hE3 : rep 9 [38, 35, 120, 57, 59] (l2) = l3 at *
  refine ws_cons ?_
  refine wx_rep hN (c := 10) (z := [38, 35, 120, 65, 59]) (by decide +kernel) (by decide +kernel) (by decide) ?_ rfl ?_
  · simp only [List.length_cons, List.length_nil]; lia
  refine then_next ?_
  have h4 := rep_len (c := 10) (z := [38, 35, 120, 65, 59]) (m := 6) (by decide) (by decide) (l3)
  generalize hE4 : rep 10 [38, 35, 120, 65, 59] (l3) = l4 at *
  refine ws_cons ?_
  refine wx_rep hN (c := 13) (z := [38, 35, 120, 68, 59]) (by decide +kernel) (by decide +kernel) (by decide) ?_ rfl ?_
  · simp only [List.length_cons, List.length_nil]; lia
  refine then_next ?_
  have h5 := rep_len (c := 13) (z := [38, 35, 120, 68, 59]) (m := 6) (by decide) (by decide) (l4)
  generalize hE5 : rep 13 [38, 35, 120, 68, 59] (l4) = l5 at *
  repeat (walk_at "AW")
  subst hE0 hE1 hE2 hE3 hE4 hE5
  simpa [Ends, Leave, esc_attrib] using h
end
/-! UrnSpell -/
section
open PySem PyProof.Rows
variable {B : Base}



noncomputable def escW : Nat → List Nat → List Nat
  | 0 => esc_attrib
  | 1 => esc_html
  | _ => esc_cdata
theorem lt3 {w : Nat} (h : w < 3) : w = 0 ∨ w = 1 ∨ w = 2 := by lia
theorem spec_written (C : Ctx B) {l : List Nat} {w : Nat} {S : List (List PV)} {K : PV → List (List PV) → Prop} (hl : l.length ≤ 10) (hw : w < 3) (h : K (.av (.str (T (escW w l)))) S) : Spec B 2 "_law_written" [.av (.str (T l)), .av (.int w)] S K := by
  obtain ⟨a, fd, F, hd⟩ := C.written
  refine spec_in (k := 1) C.bok F [("text", .av (.str (T l))), ("which", .av (.int w))] [] ["_escape_attrib_c14n", "_escape_attrib_html", "_escape_cdata_c14n"] ["text", "which"] rfl _ rfl (by decide +kernel) (binds2 F.params hd bind_written _ _) fun X hk hN hG => ?_
  simp only [dictN, List.map_cons, List.map_nil] at hN
  show WS X (fnBody (theStmt 19)) ⟨[some (.av (.str (T l))), some (.av (.int w))], S⟩ (Ends S.length K)
  obtain ⟨_, _, F1, _⟩ := C.attrib
  obtain ⟨_, _, F2, _⟩ := C.html
  obtain ⟨_, _, F3, _⟩ := C.cdata
  rcases lt3 hw with rfl | rfl | rfl
  · refine ws_cons ?_
    repeat (walk_at "AW")
    refine we_call hG (by walk_at "GX") F1.is (by rw [hk]; exact Nat.le_refl 1) ?_
    repeat (walk_at "AW")
    refine spec_attrib C hl ?_
    repeat (walk_at "AW")
    simpa [Ends, Leave, escW] using h
  · refine ws_cons ?_
    repeat (walk_at "AW")
    refine we_call hG (by walk_at "GX") F2.is (by rw [hk]; exact Nat.le_refl 1) ?_
    repeat (walk_at "AW")
    refine spec_html C hl ?_
    repeat (walk_at "AW")
    simpa [Ends, Leave, escW] using h
  · refine ws_cons ?_
    repeat (walk_at "AW")
    refine we_call hG (by walk_at "GX") F3.is (by rw [hk]; exact Nat.le_refl 1) ?_
    repeat (walk_at "AW")
    refine spec_cdata C hl ?_
    repeat (walk_at "AW")
    simpa [Ends, Leave, escW] using h

noncomputable def table : Nat → List (Str × Str)
  | 0 => [("&", "&amp;"), ("<", "&lt;"), ("\"", "&quot;"), ("\t", "&#x9;"), ("\n", "&#xA;"), ("\r", "&#xD;")]
  | 1 => [("&", "&amp;"), (">", "&gt;"), ("\"", "&quot;")]
  | _ => [("&", "&amp;"), ("<", "&lt;"), (">", "&gt;"), ("\r", "&#xD;")]
noncomputable def spellC (w c : Nat) : List Nat := (lookD (table w) (T [c]) (T [c])).cps.toList
noncomputable def spell (w : Nat) (l : List Nat) : List Nat := l.flatMap (spellC w)
theorem glue_nil : ∀ ps : List (List Nat), glue [] ps = ps.flatten
  | [] => rfl
  | [a] => by simp [glue]
  | a :: b :: r => by simp [glue, glue_nil (b :: r)]
theorem txt_join (ts : List Str) : Txt.join (T []) ts = T (ts.map fun x => x.cps.toList).flatten := by
  have e : ts = (ts.map fun x => x.cps.toList).map T := by
    rw [List.map_map]
    exact (List.map_id'' (fun x => T_of x) _).symm
  show Builtin.Str.glued (T []) ts = _
  rw [StrLaws.glued_eq_join]
  conv => lhs; rw [e, join_T, glue_nil]
theorem lookD_len {w : Nat} {x d : Str} (hd : d.length ≤ 6) : (lookD (table w) x d).length ≤ 6 := by
  have key : ∀ es : List (Str × Str), (∀ e ∈ es, e.2.length ≤ 6) → (lookD es x d).length ≤ 6 := by
    intro es hes
    unfold lookD
    cases h : es.find? fun e => e.1 = x with
    | none => exact hd
    | some e => exact hes e (List.mem_of_find?_eq_some h)
  match w with
  | 0 => exact key _ (by decide +kernel)
  | 1 => exact key _ (by decide +kernel)
  | w + 2 => exact key [("&", "&amp;"), ("<", "&lt;"), (">", "&gt;"), ("\r", "&#xD;")] (by decide +kernel)
theorem spell_join (w : Nat) (l : List Nat) : Txt.join (Str.ofString "") (l.map fun c => lookD (table w) (T [c]) (T [c])) = T (spell w l) := by
  have e : (Str.ofString "") = T [] := by decide +kernel
  rw [e, txt_join, List.map_map, spell, List.flatMap_def]
  rfl
theorem joinOk_of {sep : Str} {ts : List Str} {n : Nat} (hB : ∀ y ∈ ts, y.length ≤ n) (h : ts.length * n + ts.length * sep.length ≤ 16777216) : JoinOk sep ts = true := by
  unfold JoinOk
  rw [StrLaws.joinFits hB h]; rfl
/-- the text of a spelling, its last row -/
theorem spelled_end {X : Scene B} {c : Addr} {l : List Nat} {w : Nat} {S : List (List PV)} {K : PV → List (List PV) → Prop} (hN : X.fr.N = [(Str.ofString "text", .dict), (Str.ofString "which", .dict), (Str.ofString "table", .cell c)]) (hl : l.length ≤ 10) (ha : ∀ d ∈ l, d < 128) (v : PV)
    (h : K (.av (.str (T (spell w l)))) S) : WS X ((fnBody (theStmt 20)).drop 1) ⟨[some (.av (.str (T l))), some v, some (.dct (table w))], S⟩ (Ends S.length K) := by
  refine ws_cons ?_
  repeat (walk_at "AW")
  refine we_meth PySem.F.plainAttrs_str PySem.F.slot_str_join PySem.F.type_str_join ?_
  repeat (walk_at "AW")
  refine ⟨.str _, ?_⟩
  repeat (walk_at "AW")
  refine we_comp1 ["sign"] ["table"] (by decide +kernel) hN (by intro x hx; rw [List.mem_singleton.mp hx]; exact ⟨c, by simp⟩) ?_
  refine src_text ?_
  repeat (walk_at "AW")
  refine ⟨T l, rfl, by rw [Array.all_eq_true']; intro d hd; simpa using ha d (by simpa [T] using hd), [.dct (table w)], .cons (by walk_at "CX") .nil, fun X' hk' hN' hG' => ?_⟩
  simp only [dictN, freeN, List.map_cons, List.map_nil, List.cons_append, List.nil_append] at hN' ⊢
  refine turns_inv emit_mono (fun i σ => ∃ o, σ = ⟨[o, some (.dct (table w))], S ++ [((l.take i).map fun c => lookD (table w) (T [c]) (T [c])).map fun x => PV.av (.str x)]⟩) ⟨none, by simp⟩ (fun _ _ _ => trivial) ?_ ?_
  · rintro i v' σ hv ⟨o, rfl⟩
    have hi : i < l.length := by have := (List.getElem?_eq_some_iff.mp hv).1; simpa [T] using this
    have hv' : v' = .av (.str (T [l[i]])) := by
      simp only [signsPV, T_cps, List.getElem?_map, List.getElem?_eq_getElem hi, Option.map_some, Option.some.injEq] at hv
      exact hv.symm
    subst hv'
    repeat (walk_at "AW")
    refine ⟨fun _ => ?_, fun e => by cases e⟩
    refine we_meth PySem.F.plainAttrs_dict PySem.F.slot_dict_get PySem.F.type_dict_get ?_
    repeat (walk_at "AW")
    refine ⟨.dct _, ?_⟩
    repeat (walk_at "AW")
    refine bc_dget ?_
    refine ⟨rfl, _, st0, by simp; lia, some (.av (.str (T [l[i]]))), ?_⟩
    rw [sx0]
    have e : ((l.take i).map fun c => lookD (table w) (T [c]) (T [c])).map (fun x => PV.av (.str x)) ++ [PV.av (.str (lookD (table w) (T [l[i]]) (T [l[i]])))] = ((l.take (i + 1)).map fun c => lookD (table w) (T [c]) (T [c])).map fun x => PV.av (.str x) := by
      rw [List.take_add_one, List.getElem?_eq_getElem hi, List.map_append, List.map_append]; rfl
    rw [e]
  · rintro σ ⟨o, rfl⟩
    have e : (signsPV (T l)).length = l.length := by simp [T]
    rw [e, List.take_length]
    repeat (walk_at "AW")
    refine bc_join st0 (joinOk_of (n := 6) ?_ ?_) ?_
    · intro y hy
      obtain ⟨d, _, rfl⟩ := List.mem_map.mp hy
      exact lookD_len (by rw [T_len]; simp)
    · rw [List.length_map]
      have : (Str.ofString "").length = 0 := by decide +kernel
      rw [this]; lia
    rw [spell_join]
    repeat (walk_at "AW")
    simpa [Ends, Leave] using h
set_option maxHeartbeats 2000000 in
theorem spec_spelled (C : Ctx B) {l : List Nat} {w : Nat} {S : List (List PV)} {K : PV → List (List PV) → Prop} (hl : l.length ≤ 10) (ha : ∀ d ∈ l, d < 128) (hw : w < 3) (h : K (.av (.str (T (spell w l)))) S) : Spec B 1 "_law_spelled" [.av (.str (T l)), .av (.int w)] S K := by
  obtain ⟨a, fd, F, hd⟩ := C.spelled
  refine spec_in_cell (k := 0) C.bok F [("text", .av (.str (T l))), ("which", .av (.int w))] [] "table" [] ["text", "which"] rfl _ rfl (by decide +kernel) (fun n => rfl) (binds2 F.params hd bind_spelled _ _) fun X c hk hN hG => ?_
  simp only [dictN, List.map_cons, List.map_nil, List.cons_append, List.nil_append] at hN
  show WS X (fnBody (theStmt 20)) ⟨[some (.av (.str (T l))), some (.av (.int w)), none], S⟩ (Ends S.length K)
  rcases lt3 hw with rfl | rfl | rfl
  · refine ws_cons ?_
    repeat (walk_at "AW")
    with_reducible refine we_dict (es := table 0) ?hd ?nd ?ne ?len ?_
    case nd => decide +kernel
    case ne => exact List.cons_ne_nil _ _
    case len => decide
    case hd =>
      show DictIs _ _ [(_, _), (_, _), (_, _), (_, _), (_, _), (_, _)]
      with_reducible exact .cons (.cons (.cons (.cons (.cons (.cons .nil)))))
    iterate 4 (walk_at "AW")
    exact spelled_end (w := 0) hN hl ha _ h
  · refine ws_cons ?_
    repeat (walk_at "AW")
    with_reducible refine we_dict (es := table 1) ?hd ?nd ?ne ?len ?_
    case nd => decide +kernel
    case ne => exact List.cons_ne_nil _ _
    case len => decide
    case hd =>
      show DictIs _ _ [(_, _), (_, _), (_, _)]
      with_reducible exact .cons (.cons (.cons .nil))
    iterate 6 (walk_at "AW")
    exact spelled_end (w := 1) hN hl ha _ h
  · refine ws_cons ?_
    repeat (walk_at "AW")
    with_reducible refine we_dict (es := table 2) ?hd ?nd ?ne ?len ?_
    case nd => decide +kernel
    case ne => exact List.cons_ne_nil _ _
    case len => decide
    case hd =>
      show DictIs _ _ [(_, _), (_, _), (_, _), (_, _)]
      with_reducible exact .cons (.cons (.cons (.cons .nil)))
    iterate 6 (walk_at "AW")
    exact spelled_end (w := 2) hN hl ha _ h
end
/-! UrnText2 -/
section
open PySem PyProof.Rows

theorem getD_T (l : List Nat) (k : Nat) : (T l).cps.getD k 0 = l.getD k 0 := by
  simp [T, Array.getD_eq_getD_getElem?, List.getD_eq_getElem?_getD]
theorem find3_T {l : List Nat} {c k i : Nat} (hi : i ≤ k) (hk : l[k]? = some c) (hn : ∀ v, i ≤ v → v < k → l[v]? ≠ some c) : Txt.find3 (T l) (T [c]) (i : Int) = (k : Int) := by
  have hkl := (List.getElem?_eq_some_iff.mp hk).1
  have hf : fromIndex (T l).length (i : Int) = i := by
    unfold fromIndex
    have h0 : ¬ ((i : Int) < 0) := by lia
    rw [if_neg h0]
    lia
  rcases StrLaws.find3_spec (T l) c (i : Int) with ⟨_, h⟩ | ⟨m, h0, h1, h2, h3, h4⟩
  · exfalso
    have := h k (by rw [hf]; exact hi) (by rw [T_len]; exact hkl)
    rw [getD_T] at this
    exact this (by simp [List.getD_eq_getElem?_getD, hk])
  · have h0' : Txt.find3 (T l) (T [c]) (i : Int) = (m : Int) := h0
    rw [h0']
    rw [hf] at h1 h4
    rw [T_len] at h2
    rw [getD_T] at h3
    have hm : l[m]? = some c := by
      rw [List.getD_eq_getElem?_getD, List.getElem?_eq_getElem h2] at h3
      rw [List.getElem?_eq_getElem h2]; simpa using h3
    rcases Nat.lt_trichotomy m k with h | h | h
    · exact absurd hm (hn m h1 h)
    · rw [h]
    · have := h4 k hi h
      rw [getD_T] at this
      exact absurd (by simp [List.getD_eq_getElem?_getD, hk]) this
theorem find_T {l : List Nat} {c k : Nat} (hk : l[k]? = some c) (hn : ∀ v, v < k → l[v]? ≠ some c) : Txt.find (T l) (T [c]) = (k : Int) := by
  have h := find3_T (i := 0) (Nat.zero_le _) hk fun v _ => hn v
  rw [← h]
  unfold Txt.find Txt.find3
  have : fromIndex (T l).length ((0 : Nat) : Int) = 0 := by unfold fromIndex; simp
  rw [this]
  cases Builtin.Str.occurrences (T l) (T [c]) 0 (T l).length 1 <;> rfl
theorem rep_count {c : Nat} {z : List Nat} : ∀ l : List Nat, (rep c z l).length + l.count c = l.length + l.count c * z.length
  | [] => by simp [rep]
  | d :: r => by
    have ih := rep_count (c := c) (z := z) r
    have e : rep c z (d :: r) = (if d = c then z else [d]) ++ rep c z r := by simp [rep]
    rw [e, List.length_append, List.count_cons, List.length_cons]
    by_cases h : d = c
    · subst h; simp [Nat.add_mul]; lia
    · have : (d == c) = false := by simpa using h
      simp [h]; lia
theorem glue_len {z : List Nat} : ∀ {ps : List (List Nat)}, ps ≠ [] → (glue z ps).length + z.length = (ps.map List.length).sum + ps.length * z.length
  | [], h => absurd rfl h
  | [a], _ => by simp [glue]
  | a :: b :: r, _ => by
    have ih := glue_len (z := z) (ps := b :: r) (by simp)
    show (a ++ z ++ glue z (b :: r)).length + z.length = _
    simp only [List.length_append, List.map_cons, List.sum_cons, List.length_cons, Nat.succ_mul] at ih ⊢
    lia
theorem parts_len (x : Str) (w : Nat) : ∀ (cuts : List Nat) (a : Nat), (StrLaws.partsFrom x w a cuts).length = cuts.length + 1
  | [], a => rfl
  | c :: r, a => by
    have := parts_len x w r (c + w)
    simp [StrLaws.partsFrom, this]
theorem count_T (l : List Nat) (c : Nat) : Txt.count (T l) (T [c]) = (l.count c : Int) := by
  unfold Txt.count
  have hr := fun z => replace_T l c z
  unfold Txt.replace at hr
  cases h : (Builtin.Str.occurrences (T l) (T [c]) 0 (T l).length ((T l).length + 1)).isEmpty with
  | true =>
    have e := T_inj ((hr [0, 0]).symm.trans (by rw [h]; rfl))
    have hc := rep_count (c := c) (z := [0, 0]) l
    rw [e] at hc
    have h0 : l.count c = 0 := by simp at hc; lia
    have : Builtin.Str.occurrences (T l) (T [c]) 0 (T l).length ((T l).length + 1) = [] := List.isEmpty_iff.mp h
    rw [this, h0]; rfl
  | false =>
    have e := hr [0, 0]
    have h1 : ((T [c]).length == 0) = false := rfl
    rw [h, h1] at e
    simp only [Bool.false_or, Bool.false_and, Bool.false_eq_true, if_false] at e
    have e0 := hr []
    rw [h, h1] at e0
    simp only [Bool.false_or, Bool.false_and, Bool.false_eq_true, if_false] at e0
    rw [StrLaws.glued_eq_join, StrLaws.partsBetween_eq] at e e0
    have hps : StrLaws.partsFrom (T l) (T [c]).length 0 (Builtin.Str.occurrences (T l) (T [c]) 0 (T l).length ((T l).length + 1)) = ((StrLaws.partsFrom (T l) (T [c]).length 0 (Builtin.Str.occurrences (T l) (T [c]) 0 (T l).length ((T l).length + 1))).map fun x => x.cps.toList).map T := by
      rw [List.map_map]
      exact (List.map_id'' (fun x => T_of x) _).symm
    have hne : (StrLaws.partsFrom (T l) (T [c]).length 0 (Builtin.Str.occurrences (T l) (T [c]) 0 (T l).length ((T l).length + 1))).map (fun x => x.cps.toList) ≠ [] := by
      intro q
      have := congrArg List.length q
      rw [List.length_map, parts_len] at this
      simp at this
    have hlen := parts_len (T l) (T [c]).length (Builtin.Str.occurrences (T l) (T [c]) 0 (T l).length ((T l).length + 1)) 0
    generalize hP : StrLaws.partsFrom (T l) (T [c]).length 0 (Builtin.Str.occurrences (T l) (T [c]) 0 (T l).length ((T l).length + 1)) = P at *
    rw [hps, join_T] at e e0
    have e := T_inj e
    have e0 := T_inj e0
    have g1 := glue_len (z := [0, 0]) hne
    have g0 := glue_len (z := []) hne
    have c1 := rep_count (c := c) (z := [0, 0]) l
    have c0 := rep_count (c := c) (z := []) l
    rw [← e] at c1
    rw [← e0] at c0
    simp only [List.length_map, List.length_cons, List.length_nil] at g1 g0 c1 c0
    lia
end
/-! UrnP229 -/
section
open PySem PyProof.Rows
variable {B : Base}



noncomputable def pre229 : List Nat := [50, 50, 57, 32, 69, 120, 116, 101, 110, 100, 101, 100, 32, 40]
theorem pre229_is : Str.ofString "229 Extended (" = T pre229 := by decide +kernel
noncomputable def reply229 (m : Nat) (D : List Nat) : List Nat := pre229 ++ ([m, m, m] ++ (D ++ [m, 41]))
structure MarkOk (m : Nat) (D : List Nat) : Prop where
  le : m < 256
  m40 : m ≠ 40
  m41 : m ≠ 41
  d : ∀ d ∈ D, d ≠ 41 ∧ d ≠ m
  len : D.length ≤ 20
theorem strKind_pos (x : Str) : 1 ≤ Builtin.Str.strKind x := by
  unfold Builtin.Str.strKind
  split
  · decide
  · split <;> decide
theorem split_marks {m : Nat} {D : List Nat} (h : MarkOk m D) : Txt.split (T ([m, m, m] ++ (D ++ [m]))) (T [m]) = [[], [], [], D, []].map T := by
  obtain ⟨ps, h1, h2, h3, h4⟩ := split_T ([m, m, m] ++ (D ++ [m])) m
  rw [h1]
  have hD : m ∉ D := fun hm => (h.d m hm).2 rfl
  have : ps = [[], [], [], D, []] := glue_inj h2 (by simp) h3 (by simpa using hD) (by rw [h4]; simp [glue])
  rw [this]
theorem split_side {m : Nat} {D : List Nat} (h : MarkOk m D) : (decide ((T ([m, m, m] ++ (D ++ [m]))).length < (T [m]).length) || decide (Builtin.Str.strKind (T ([m, m, m] ++ (D ++ [m]))) < Builtin.Str.strKind (T [m]))) = false ∧
    (Builtin.Str.occurrences (T ([m, m, m] ++ (D ++ [m]))) (T [m]) 0 (T ([m, m, m] ++ (D ++ [m]))).length ((T ([m, m, m] ++ (D ++ [m]))).length + 1)).isEmpty = false := by
  have hk : Builtin.Str.strKind (T [m]) = 1 := by
    unfold Builtin.Str.strKind
    have : (T [m]).cps.all (· < 256) = true := by simp [T, h.le]
    rw [this]; rfl
  have h1 : (decide ((T ([m, m, m] ++ (D ++ [m]))).length < (T [m]).length) || decide (Builtin.Str.strKind (T ([m, m, m] ++ (D ++ [m]))) < Builtin.Str.strKind (T [m]))) = false := by
    rw [hk, T_len, T_len]
    have := strKind_pos (T ([m, m, m] ++ (D ++ [m])))
    simp only [Bool.or_eq_false_iff, decide_eq_false_iff_not]
    refine ⟨by simp, by lia⟩
  refine ⟨h1, ?_⟩
  cases e : (Builtin.Str.occurrences (T ([m, m, m] ++ (D ++ [m]))) (T [m]) 0 (T ([m, m, m] ++ (D ++ [m]))).length ((T ([m, m, m] ++ (D ++ [m]))).length + 1)).isEmpty with
  | false => rfl
  | true =>
    have hs := split_marks h
    unfold Txt.split at hs
    rw [h1, e] at hs
    simp at hs
theorem r229_13 {m : Nat} {D : List Nat} (h : MarkOk m D) : (reply229 m D)[13]? = some 40 ∧ ∀ v, v < 13 → (reply229 m D)[v]? ≠ some 40 := by
  refine ⟨rfl, fun v hv => ?_⟩
  have hp : ∀ v, v < 13 → pre229[v]? ≠ some 40 := by decide
  unfold reply229
  rw [List.getElem?_append_left (by show v < 14; lia)]
  exact hp v hv
theorem r229_14 {m : Nat} {D : List Nat} : (reply229 m D)[14]? = some m := rfl
theorem r229_len {m : Nat} {D : List Nat} : (reply229 m D).length = 19 + D.length := by simp [reply229, pre229]; lia
theorem r229_mid {m : Nat} {D : List Nat} : ((reply229 m D).drop 14).take (4 + D.length) = [m, m, m] ++ (D ++ [m]) := by
  show (([m, m, m] ++ (D ++ [m, 41])) : List Nat).take (4 + D.length) = _
  have e : ([m, m, m] ++ (D ++ [m, 41]) : List Nat) = ([m, m, m] ++ (D ++ [m])) ++ [41] := by simp
  rw [e, List.take_append_of_le_length (by simp; lia), List.take_of_length_le (by simp; lia)]
theorem r229_at {m : Nat} {D : List Nat} (k : Nat) : (reply229 m D)[14 + k]? = ([m, m, m] ++ (D ++ [m, 41]))[k]? := by
  unfold reply229
  rw [List.getElem?_append_right (by show 14 ≤ 14 + k; lia)]
  congr 1
  show 14 + k - 14 = k
  lia
theorem r229_end {m : Nat} {D : List Nat} (h : MarkOk m D) : (reply229 m D)[18 + D.length]? = some 41 ∧ (reply229 m D)[17 + D.length]? = some m ∧ ∀ v, 14 ≤ v → v < 18 + D.length → (reply229 m D)[v]? ≠ some 41 := by
  refine ⟨?_, ?_, fun v h1 h2 => ?_⟩
  · rw [show 18 + D.length = 14 + (D.length + 4) by lia, r229_at]
    show (D ++ [m, 41])[D.length + 1]? = some 41
    simp
  · rw [show 17 + D.length = 14 + (D.length + 3) by lia, r229_at]
    show (D ++ [m, 41])[D.length]? = some m
    simp
  · obtain ⟨k, rfl⟩ : ∃ k, v = 14 + k := ⟨v - 14, by lia⟩
    rw [r229_at]
    intro e
    have hk : k < 4 + D.length := by lia
    have e2 : ([m, m, m] ++ (D ++ [m, 41]) : List Nat) = ([m, m, m] ++ (D ++ [m])) ++ [41] := by simp
    rw [e2, List.getElem?_append_left (by simp; lia)] at e
    have hm := List.mem_of_getElem? e
    simp only [List.mem_append, List.mem_cons, List.not_mem_nil, or_false] at hm
    rcases hm with (hm | hm | hm) | hm | hm
    · exact h.m41 hm.symm
    · exact h.m41 hm.symm
    · exact h.m41 hm.symm
    · exact (h.d _ hm).1 rfl
    · exact h.m41 hm.symm
theorem ofs_paren : Str.ofString "(" = T [40] ∧ Str.ofString ")" = T [41] ∧ Str.ofString "229" = T [50, 50, 57] := by decide +kernel
set_option maxHeartbeats 1000000 in
theorem spec_229 (C : Ctx B) {m : Nat} {D : List Nat} {n len : Int} {S : List (List PV)} {K : PV → List (List PV) → Prop} (h : MarkOk m D) (hD : T D = Str.ofString (toString n)) (h0 : 0 ≤ n) (h1 : n < 10 ^ 10) (hK : K (.tup [.int len, .int n]) S) :
    Spec B 1 "parse229" [.av (.str (T (reply229 m D))), .tup [.int len, .int 21]] S K := by
  obtain ⟨a, fd, F, hd⟩ := C.p229
  refine spec_in (k := 0) C.bok F [("resp", .av (.str (T (reply229 m D)))), ("peer", .tup [.int len, .int 21])] ["left", "right", "parts", "host", "port"] ["error_reply", "error_proto", "len", "int"] ["resp", "peer", "left", "right", "parts", "host", "port"] rfl _ rfl (by decide +kernel) (binds2 F.params hd bind_p229 _ _) fun X hk hN hG => ?_
  simp only [dictN, List.map_cons, List.map_nil] at hN
  show WS X (fnBody (theStmt 8)) ⟨[some (.av (.str (T (reply229 m D)))), some (.tup [.int len, .int 21]), none, none, none, none, none], S⟩ (Ends S.length K)
  have hlen := r229_len (m := m) (D := D)
  have hlD := h.len
  have hn : (T (reply229 m D)).length < 1000000 := by rw [T_len]; lia
  obtain ⟨p1, p2, p3⟩ := ofs_paren
  refine ws_cons ?_
  repeat (walk_at "AW")
  refine ⟨_, rfl, hn, ?_⟩
  repeat (walk_at "AW")
  refine ⟨_, rfl, ?_⟩
  rw [show Txt.slice (T (reply229 m D)) none (some 3) = T [50, 50, 57] from slice_T0 (j := 3) _ (by lia)]
  repeat (walk_at "AW")
  refine we_meth PySem.F.plainAttrs_str PySem.F.slot_str_find PySem.F.type_str_find ?_
  repeat (walk_at "AW")
  refine ⟨.str _, ?_⟩
  repeat (walk_at "AW")
  refine bc_find ?_
  rw [p1, find_T (r229_13 h).1 (r229_13 h).2]
  repeat (walk_at "AW")
  refine we_meth PySem.F.plainAttrs_str PySem.F.slot_str_find PySem.F.type_str_find ?_
  repeat (walk_at "AW")
  refine ⟨.str _, ?_⟩
  repeat (walk_at "AW")
  refine bc_find3 ?_
  have hr := r229_end h
  rw [p2, show ((13 : Nat) : Int) + 1 = ((14 : Nat) : Int) from rfl, find3_T (k := 18 + D.length) (by lia) hr.1 hr.2.2]
  repeat (walk_at "AW")
  refine sub_str (by rw [T_len]; lia) (by rw [T_len]; lia) hn ?_
  rw [show ((13 : Nat) : Int) + 1 = ((14 : Nat) : Int) from rfl, item_T _ r229_14]
  repeat (walk_at "AW")
  refine sub_str (by rw [T_len]; lia) (by rw [T_len]; lia) hn ?_
  rw [show ((18 + D.length : Nat) : Int) - 1 = ((17 + D.length : Nat) : Int) by lia, item_T _ hr.2.1]
  repeat (walk_at "AW")
  refine and_false (by simp) ?_
  repeat (walk_at "AW")
  refine we_meth PySem.F.plainAttrs_str PySem.F.slot_str_split PySem.F.type_str_split ?_
  repeat (walk_at "AW")
  refine ⟨_, rfl, hn, ?_⟩
  repeat (walk_at "AW")
  refine ⟨_, rfl, ?_⟩
  repeat (walk_at "AW")
  refine ⟨_, rfl, ?_⟩
  rw [show ((13 : Nat) : Int) + 1 = ((14 : Nat) : Int) from rfl, slice_T (reply229 m D) (i := 14) (j := 18 + D.length) (by lia) (by lia), show 18 + D.length - 14 = 4 + D.length by lia, r229_mid]
  refine ⟨.str _, ?_⟩
  repeat (walk_at "AW")
  refine sub_str (by rw [T_len]; lia) (by rw [T_len]; lia) hn ?_
  rw [show ((13 : Nat) : Int) + 1 = ((14 : Nat) : Int) from rfl, item_T _ r229_14]
  repeat (walk_at "AW")
  obtain ⟨q1, q2⟩ := split_side h
  refine bc_split q1 rfl q2 (by rw [T_len]; simp; lia) (by rw [split_marks h]; simp) ?_
  rw [split_marks h]
  repeat (walk_at "AW")
  refine we_bcall (f := .builtin "len") hG (by walk_at "GX") C.len ((C.bok.mb _ (by decide)).trans boot_len) (.builtin _) ?_
  repeat (walk_at "AW")
  refine bc_len_list st0 (by simp) ?_
  repeat (walk_at "AW")
  refine sub_tup (i := 0) rfl ?_
  repeat (walk_at "AW")
  refine we_bcall (f := .type "int") hG (by walk_at "GX") C.int ((C.bok.mb _ (by decide)).trans boot_int) (.type _) ?_
  repeat (walk_at "AW")
  refine sub_list (v := .av (.str (T D))) st0 (by decide) rfl ?_
  repeat (walk_at "AW")
  rw [hD]
  refine bc_int h0 h1 ?_
  repeat (walk_at "AW")
  refine ⟨by simp, _, rfl, ?_⟩
  repeat (walk_at "AW")
  simpa [Ends, Leave] using hK
end
/-! UrnP257 -/
section
open PySem PyProof.Rows
variable {B : Base}



noncomputable abbrev dq (w : List Nat) : List Nat := rep 34 [34, 34] w
noncomputable def pre257 : List Nat := [50, 53, 55, 32, 34]
theorem pre257_is : Str.ofString "257 \"" = T pre257 ∧ Str.ofString "257" = T [50, 53, 55] ∧ Str.ofString " \"" = T [32, 34] ∧ Str.ofString "\"" = T [34] ∧ Str.ofString "" = T [] := by decide +kernel
noncomputable def reply257 (w tail : List Nat) : List Nat := pre257 ++ (dq w ++ 34 :: tail)
theorem dq_app (a b : List Nat) : dq (a ++ b) = dq a ++ dq b := by simp [dq, rep]
theorem r257_at {w tail : List Nat} {j : Nat} (hj : j ≤ w.length) (k : Nat) : (reply257 w tail)[5 + (dq (w.take j)).length + k]? = (dq (w.drop j) ++ 34 :: tail)[k]? := by
  have e : reply257 w tail = (pre257 ++ dq (w.take j)) ++ (dq (w.drop j) ++ 34 :: tail) := by
    unfold reply257
    conv => lhs; rw [← List.take_append_drop j w, dq_app]
    simp
  have hl : (pre257 ++ dq (w.take j)).length = 5 + (dq (w.take j)).length := by simp [pre257]; lia
  rw [e, List.getElem?_append_right (by rw [hl]; lia), hl]
  congr 1
  lia
theorem r257_len {w tail : List Nat} : (reply257 w tail).length = 6 + (dq w).length + tail.length := by simp [reply257, pre257]; lia
theorem dq_step {w : List Nat} {j : Nat} (hj : j < w.length) : dq (w.take (j + 1)) = dq (w.take j) ++ (if w[j] = 34 then [34, 34] else [w[j]]) ∧ dq (w.drop j) = (if w[j] = 34 then [34, 34] else [w[j]]) ++ dq (w.drop (j + 1)) := by
  constructor
  · rw [List.take_add_one, List.getElem?_eq_getElem hj, dq_app]; simp [dq, rep]
  · rw [List.drop_eq_getElem_cons hj]; unfold dq rep; rw [List.flatMap_cons]
theorem dq_le (w : List Nat) (j : Nat) : (dq (w.take j)).length ≤ (dq w).length := by
  conv => rhs; rw [← List.take_append_drop j w, dq_app]
  simp
set_option maxHeartbeats 2000000 in
theorem spec_257 (C : Ctx B) {w tail : List Nat} {S : List (List PV)} {K : PV → List (List PV) → Prop} (hw : w.length ≤ 10) (ht : tail.length ≤ 20) (hh : ∀ d, tail[0]? = some d → d ≠ 34) (hK : K (.av (.str (T w))) S) :
    Spec B 1 "parse257" [.av (.str (T (reply257 w tail)))] S K := by
  obtain ⟨a, fd, F, hd⟩ := C.p257
  refine spec_in (k := 0) C.bok F [("resp", .av (.str (T (reply257 w tail))))] ["dirname", "i", "n", "c"] ["error_reply", "len"] ["resp", "dirname", "i", "n", "c"] rfl _ rfl (by decide +kernel) (binds1 F.params hd bind_p257 _) fun X hk hN hG => ?_
  simp only [dictN, List.map_cons, List.map_nil] at hN
  show WS X (fnBody (theStmt 9)) ⟨[some (.av (.str (T (reply257 w tail)))), none, none, none, none], S⟩ (Ends S.length K)
  have hlen := r257_len (w := w) (tail := tail)
  have hdq : (dq w).length ≤ 20 := by have : (dq w).length ≤ 2 * w.length := rep_len (c := 34) (z := [34, 34]) (m := 2) (by decide) (by decide) w; lia
  have hn : (T (reply257 w tail)).length < 1000000 := by rw [T_len]; lia
  obtain ⟨p0, p1, p2, p3, p4⟩ := pre257_is
  refine ws_cons ?_
  repeat (walk_at "AW")
  refine ⟨_, rfl, hn, ?_⟩
  repeat (walk_at "AW")
  refine ⟨_, rfl, ?_⟩
  rw [show Txt.slice (T (reply257 w tail)) none (some 3) = T [50, 53, 55] from slice_T0 (j := 3) _ (by lia)]
  repeat (walk_at "AW")
  refine ⟨_, rfl, hn, ?_⟩
  repeat (walk_at "AW")
  refine ⟨_, rfl, ?_⟩
  repeat (walk_at "AW")
  refine ⟨_, rfl, ?_⟩
  rw [show Txt.slice (T (reply257 w tail)) (some 3) (some 5) = T [32, 34] from slice_T (i := 3) (j := 5) _ (by lia) (by lia)]
  repeat (walk_at "AW")
  refine we_bcall (f := .builtin "len") hG (by walk_at "GX") C.len ((C.bok.mb _ (by decide)).trans boot_len) (.builtin _) ?_
  repeat (walk_at "AW")
  refine bc_len_str hn ?_
  repeat (walk_at "AW")
  rw [p4, T_len]
  refine wx_while_inv (fun m σ => ∃ (j : Nat) (o : Option PV), σ = ⟨[some (.av (.str (T (reply257 w tail)))), some (.av (.str (T (w.take j)))), some (.av (.int ((5 + (dq (w.take j)).length : Nat) : Int))), some (.av (.int ((reply257 w tail).length : Nat))), o], S⟩ ∧ j ≤ w.length ∧ m = w.length - j) w.length ⟨0, none, by simp [dq, rep], Nat.zero_le _, rfl⟩ ?_
  rintro m σ ⟨j, o, rfl, hj, rfl⟩
  have hjl := dq_le w j
  repeat (walk_at "AW")
  refine and_true (decide_eq_true (by lia)) ?_
  repeat (walk_at "AW")
  rcases Nat.lt_or_ge j w.length with hlt | hge
  · obtain ⟨e1, e2⟩ := dq_step hlt
    have h0 := r257_at (w := w) (tail := tail) hj 0
    have h1 := r257_at (w := w) (tail := tail) hj 1
    have hl1 := dq_le w (j + 1)
    by_cases hq : w[j] = 34
    · rw [if_pos hq] at e1 e2
      rw [e2] at h0 h1
      have h0 : (reply257 w tail)[5 + (dq (w.take j)).length]? = some 34 := h0
      have h1 : (reply257 w tail)[5 + (dq (w.take j)).length + 1]? = some 34 := h1
      rw [e1, List.length_append] at hl1
      simp only [List.length_cons, List.length_nil] at hl1
      refine sub_str (by rw [T_len]; lia) (by rw [T_len]; lia) hn ?_
      rw [item_T _ h0]
      repeat (walk_at "AW")
      refine and_false (decide_eq_false (by lia)) ?_
      repeat (walk_at "AW")
      refine sub_str (by rw [T_len]; lia) (by rw [T_len]; lia) hn ?_
      rw [show ((5 + (dq (w.take j)).length : Nat) : Int) + 1 = ((5 + (dq (w.take j)).length + 1 : Nat) : Int) from rfl, item_T _ h1]
      repeat (walk_at "AW")
      refine bk_adds (by rw [T_len, T_len]; simp; lia) ?_
      repeat (walk_at "AW")
      refine ⟨w.length - (j + 1), by lia, j + 1, some (.av (.str (T [34]))), ?_, hlt, rfl⟩
      rw [T_add, e1, List.take_add_one, List.getElem?_eq_getElem hlt, hq, List.length_append]
      rfl
    · rw [if_neg hq] at e1 e2
      rw [e2] at h0
      have h0 : (reply257 w tail)[5 + (dq (w.take j)).length]? = some w[j] := h0
      refine sub_str (by rw [T_len]; lia) (by rw [T_len]; lia) hn ?_
      rw [item_T _ h0]
      repeat (walk_at "AW")
      refine and_false (by rw [p3, T_eq]; simpa using hq) ?_
      repeat (walk_at "AW")
      refine bk_adds (by rw [T_len, T_len]; simp; lia) ?_
      repeat (walk_at "AW")
      refine ⟨w.length - (j + 1), by lia, j + 1, some (.av (.str (T [w[j]]))), ?_, hlt, rfl⟩
      rw [T_add, e1, List.take_add_one, List.getElem?_eq_getElem hlt, List.length_append]
      rfl
  · have ej : j = w.length := by lia
    subst ej
    have h0 := r257_at (w := w) (tail := tail) (Nat.le_refl _) 0
    have h1 := r257_at (w := w) (tail := tail) (Nat.le_refl _) 1
    have e3 : dq (w.drop w.length) = [] := by simp [dq, rep]
    rw [e3] at h0 h1
    have h0 : (reply257 w tail)[5 + (dq (w.take w.length)).length]? = some 34 := h0
    have h1 : (reply257 w tail)[5 + (dq (w.take w.length)).length + 1]? = tail[0]? := by rw [h1]; cases tail <;> rfl
    have e4 : w.take w.length = w := List.take_length
    refine sub_str (by rw [T_len]; lia) (by rw [T_len]; lia) hn ?_
    rw [item_T _ h0]
    repeat (walk_at "AW")
    rw [e4] at h0 h1 ⊢
    cases ht0 : tail with
    | nil =>
      subst ht0
      refine and_true (decide_eq_true (by simp at hlen; lia)) ?_
      repeat (walk_at "AW")
      simpa [Ends, Leave] using hK
    | cons d r =>
      subst ht0
      refine and_false (decide_eq_false (by simp at hlen; lia)) ?_
      repeat (walk_at "AW")
      simp only [List.length_cons] at hlen
      refine sub_str (by rw [T_len]; lia) (by rw [T_len]; lia) hn ?_
      rw [show ((5 + (dq w).length : Nat) : Int) + 1 = ((5 + (dq w).length + 1 : Nat) : Int) from rfl, item_T _ h1]
      repeat (walk_at "AW")
      have hd34 := hh d rfl
      refine and_true (by rw [p3]; simp [bne, T_eq, hd34]) ?_
      repeat (walk_at "AW")
      simpa [Ends, Leave] using hK
end
/-! UrnPlain -/
section
open PySem

theorem rise_front (s : Nat) : ∀ m, rise s (m + 1) = s * rise (s + 1) m
  | 0 => by simp [rise]
  | m + 1 => by
    have ih := rise_front s m
    show rise s (m + 1) * (s + (m + 1)) = s * (rise (s + 1) m * (s + 1 + m))
    rw [ih, Nat.mul_assoc, show s + (m + 1) = s + 1 + m by lia]
noncomputable abbrev at0 (b : List Nat) (p : Nat) : Nat := b.getD p 0
noncomputable def inc (b : List Nat) (p : Nat) : List Nat := b.set p (at0 b p + 1)
/-- the size of a word's share, its beginning: as it is drawn -/
noncomputable def sz : List Nat → Nat → List Nat → Nat
  | _, c, [] => c
  | b, c, p :: w => sz (inc b p) (c * at0 b p) w
noncomputable def st : List Nat → Nat → List Nat → Nat
  | _, _, [] => 0
  | b, c, p :: w => c * rise (b.sum + 1) w.length * (b.take p).sum + st (inc b p) (c * at0 b p) w
theorem inc_len (b : List Nat) (p : Nat) : (inc b p).length = b.length := by simp [inc]
theorem sum_set : ∀ (b : List Nat) (p v : Nat), p < b.length → (b.set p v).sum + at0 b p = b.sum + v
  | [], _, _, h => by simp at h
  | a :: b, 0, v, _ => by simp [at0]; lia
  | a :: b, p + 1, v, h => by
    have := sum_set b p v (by simpa using h)
    simp [at0] at this ⊢
    lia
theorem inc_sum {b : List Nat} {p : Nat} (h : p < b.length) : (inc b p).sum = b.sum + 1 := by
  have := sum_set b p (at0 b p + 1) h
  unfold inc; lia
theorem take_succ_sum : ∀ (b : List Nat) (p : Nat), (b.take (p + 1)).sum = (b.take p).sum + at0 b p
  | [], p => by simp [at0]
  | a :: b, 0 => by simp [at0]
  | a :: b, p + 1 => by
    have := take_succ_sum b p
    simp [at0] at this ⊢
    lia
theorem take_le : ∀ (b : List Nat) {i j : Nat}, i ≤ j → (b.take i).sum ≤ (b.take j).sum
  | [], i, j, _ => by simp
  | a :: b, 0, j, _ => by simp
  | a :: b, i + 1, 0, h => by lia
  | a :: b, i + 1, j + 1, h => by
    have := take_le b (i := i) (j := j) (by lia)
    simp; lia
theorem take_le_all (b : List Nat) (i : Nat) : (b.take i).sum ≤ b.sum := by
  rcases Nat.le_total i b.length with h | h
  · have := take_le b h; simpa using this
  · rw [List.take_of_length_le h]; exact Nat.le_refl _
theorem share_in (w : List Nat) : ∀ (b : List Nat) (c : Nat), (∀ p ∈ w, p < b.length) → st b c w + sz b c w ≤ c * rise b.sum w.length := by
  induction w with
  | nil => intro b c _; simp [st, sz, rise]
  | cons p w ih =>
    intro b c h
    have hp := h p List.mem_cons_self
    have ih' := ih (inc b p) (c * at0 b p) fun q hq => by rw [inc_len]; exact h q (.tail _ hq)
    rw [inc_sum hp] at ih'
    show c * rise (b.sum + 1) w.length * (b.take p).sum + st (inc b p) (c * at0 b p) w + sz (inc b p) (c * at0 b p) w ≤ c * rise b.sum (w.length + 1)
    rw [rise_front]
    have h1 : c * at0 b p * rise (b.sum + 1) w.length = c * rise (b.sum + 1) w.length * at0 b p := by
      rw [Nat.mul_assoc, Nat.mul_comm (at0 b p), ← Nat.mul_assoc]
    have h2 : c * (b.sum * rise (b.sum + 1) w.length) = c * rise (b.sum + 1) w.length * b.sum := by
      rw [Nat.mul_comm b.sum, ← Nat.mul_assoc]
    rw [h1] at ih'
    rw [h2]
    have h3 : (b.take p).sum + at0 b p ≤ b.sum := by rw [← take_succ_sum]; exact take_le_all b _
    have h4 := Nat.mul_le_mul_left (c * rise (b.sum + 1) w.length) h3
    rw [Nat.mul_add] at h4
    lia
/-- what a turn needs to know -/
theorem turn_in {b : List Nat} {c p : Nat} {w : List Nat} {n : Nat} (h : ∀ q ∈ p :: w, q < b.length) (h1 : st b c (p :: w) ≤ n) (h2 : n < st b c (p :: w) + sz b c (p :: w)) :
    let r := c * rise (b.sum + 1) w.length
    r * (b.take p).sum ≤ n ∧ n < r * (b.take (p + 1)).sum ∧ st (inc b p) (c * at0 b p) w ≤ n - r * (b.take p).sum ∧ n - r * (b.take p).sum < st (inc b p) (c * at0 b p) w + sz (inc b p) (c * at0 b p) w := by
  intro r
  have hp := h p List.mem_cons_self
  have hin := share_in w (inc b p) (c * at0 b p) fun q hq => by rw [inc_len]; exact h q (.tail _ hq)
  rw [inc_sum hp] at hin
  have e1 : st b c (p :: w) = r * (b.take p).sum + st (inc b p) (c * at0 b p) w := rfl
  have e2 : sz b c (p :: w) = sz (inc b p) (c * at0 b p) w := rfl
  have e3 : c * at0 b p * rise (b.sum + 1) w.length = r * at0 b p := by
    show _ = c * rise (b.sum + 1) w.length * at0 b p
    rw [Nat.mul_assoc, Nat.mul_comm (at0 b p), ← Nat.mul_assoc]
  rw [e3] at hin
  rw [e1] at h1 h2
  rw [e2] at h2
  rw [take_succ_sum, Nat.mul_add]
  lia

/-- the words over n signs, as the law makes them -/
noncomputable def wordsOn (n : Nat) : Nat → List (List Nat)
  | 0 => [[]]
  | L + 1 => (wordsOn n L).flatMap fun w => (List.range n).map fun p => w ++ [p]
/-- the same, sign by sign from the front -/
noncomputable def wordsFr (n : Nat) : Nat → List (List Nat)
  | 0 => [[]]
  | L + 1 => (List.range n).flatMap fun p => (wordsFr n L).map (p :: ·)
theorem wordsFr_snoc (n : Nat) : ∀ L, wordsFr n (L + 1) = (wordsFr n L).flatMap fun w => (List.range n).map fun p => w ++ [p]
  | 0 => by
    simp only [wordsFr, List.map_cons, List.map_nil, List.flatMap_cons, List.flatMap_nil, List.append_nil, List.nil_append]
    exact (List.map_eq_flatMap ..).symm
  | L + 1 => by
    have ih := wordsFr_snoc n L
    show (List.range n).flatMap (fun p => (wordsFr n (L + 1)).map (p :: ·)) = ((List.range n).flatMap fun p => (wordsFr n L).map (p :: ·)).flatMap fun w => (List.range n).map fun p => w ++ [p]
    rw [List.flatMap_assoc]
    congr 1
    funext p
    rw [ih, List.map_flatMap, List.flatMap_map]
    congr 1
    funext w
    rw [List.map_map]
    rfl
theorem words_eq (n : Nat) : ∀ L, wordsOn n L = wordsFr n L
  | 0 => rfl
  | L + 1 => by rw [wordsFr_snoc, ← words_eq n L]; rfl
/-- shares one behind another -/
noncomputable def cum (f : List Nat → Nat) : Nat → List (List Nat) → List (Nat × Nat × List Nat)
  | _, [] => []
  | e, w :: ws => (e, e + f w, w) :: cum f (e + f w) ws
theorem cum_app (f : List Nat → Nat) : ∀ (xs ys : List (List Nat)) (e : Nat), cum f e (xs ++ ys) = cum f e xs ++ cum f (e + (xs.map f).sum) ys
  | [], ys, e => by simp [cum]
  | x :: xs, ys, e => by
    simp only [List.cons_append, cum, cum_app f xs ys, List.map_cons, List.sum_cons]
    congr 3
    lia
theorem cum_map (f : List Nat → Nat) (g : List Nat → List Nat) : ∀ (xs : List (List Nat)) (e : Nat), cum f e (xs.map g) = (cum (fun w => f (g w)) e xs).map fun x => (x.1, x.2.1, g x.2.2)
  | [], e => rfl
  | x :: xs, e => by simp [cum, cum_map f g xs]
theorem cum_has (f : List Nat → Nat) : ∀ (xs : List (List Nat)) (e n : Nat), e ≤ n → n < e + (xs.map f).sum → ∃ x ∈ cum f e xs, x.1 ≤ n ∧ n < x.2.1
  | [], e, n, h1, h2 => by simp at h2; lia
  | x :: xs, e, n, h1, h2 => by
    by_cases h : n < e + f x
    · exact ⟨_, List.mem_cons_self, h1, h⟩
    · obtain ⟨y, hy, h3⟩ := cum_has f xs (e + f x) n (by lia) (by simp at h2; lia)
      exact ⟨y, .tail _ hy, h3⟩
theorem part_sum (L : Nat) (ih : ∀ (b : List Nat) (c : Nat), ((wordsFr b.length L).map (sz b c)).sum = c * rise b.sum L) (b : List Nat) (c : Nat) : ∀ k, k ≤ b.length →
    (((List.range k).flatMap fun p => (wordsFr b.length L).map (p :: ·)).map (sz b c)).sum = c * rise (b.sum + 1) L * (b.take k).sum := by
  intro k
  induction k with
  | zero => intro _; simp
  | succ k ihk =>
    intro hk
    rw [List.range_succ, List.flatMap_append, List.map_append, List.sum_append, ihk (by lia), take_succ_sum, Nat.mul_add]
    congr 1
    simp only [List.flatMap_cons, List.flatMap_nil, List.append_nil, List.map_map]
    have e : (sz b c ∘ fun w => k :: w) = sz (inc b k) (c * at0 b k) := by funext w; rfl
    have := ih (inc b k) (c * at0 b k)
    rw [inc_len, inc_sum (by lia)] at this
    rw [e, this, Nat.mul_assoc, Nat.mul_comm (at0 b k), ← Nat.mul_assoc]
theorem sum_words (L : Nat) : ∀ (b : List Nat) (c : Nat), ((wordsFr b.length L).map (sz b c)).sum = c * rise b.sum L := by
  induction L with
  | zero => intro b c; simp [wordsFr, sz, rise]
  | succ L ih =>
    intro b c
    have := part_sum L ih b c b.length (Nat.le_refl _)
    rw [List.take_length] at this
    show (((List.range b.length).flatMap fun p => (wordsFr b.length L).map (p :: ·)).map (sz b c)).sum = _
    rw [this, rise_front, Nat.mul_comm b.sum, ← Nat.mul_assoc]
theorem cum_words (L : Nat) : ∀ (b : List Nat) (c e : Nat), ∀ x ∈ cum (sz b c) e (wordsFr b.length L), x.2.2.length = L ∧ (∀ p ∈ x.2.2, p < b.length) ∧ x.1 = e + st b c x.2.2 ∧ x.2.1 = x.1 + sz b c x.2.2 := by
  induction L with
  | zero =>
    intro b c e x hx
    simp [wordsFr, cum] at hx
    subst hx
    simp [st, sz]
  | succ L ih =>
    intro b c e
    have key : ∀ k, k ≤ b.length → ∀ x ∈ cum (sz b c) e ((List.range k).flatMap fun p => (wordsFr b.length L).map (p :: ·)), x.2.2.length = L + 1 ∧ (∀ p ∈ x.2.2, p < b.length) ∧ x.1 = e + st b c x.2.2 ∧ x.2.1 = x.1 + sz b c x.2.2 := by
      intro k
      induction k with
      | zero => intro _ x hx; simp [cum] at hx
      | succ k ihk =>
        intro hk x hx
        rw [List.range_succ, List.flatMap_append, cum_app] at hx
        rcases List.mem_append.mp hx with hx | hx
        · exact ihk (by lia) x hx
        · have hsum : (((List.range k).flatMap fun p => (wordsFr b.length L).map (p :: ·)).map (sz b c)).sum = c * rise (b.sum + 1) L * (b.take k).sum := by
            exact part_sum L (fun b c => sum_words L b c) b c k (by lia)
          rw [hsum] at hx
          simp only [List.flatMap_cons, List.flatMap_nil, List.append_nil] at hx
          rw [cum_map] at hx
          obtain ⟨y, hy, rfl⟩ := List.mem_map.mp hx
          have e' : (fun w => sz b c (k :: w)) = sz (inc b k) (c * at0 b k) := by funext w; rfl
          rw [e', ← inc_len b k] at hy
          obtain ⟨h1, h2, h3, h4⟩ := ih (inc b k) (c * at0 b k) _ y hy
          rw [inc_len] at h2
          refine ⟨by simp [h1], fun p hp => ?_, ?_, ?_⟩
          · rcases List.mem_cons.mp hp with rfl | hp
            · lia
            · exact h2 p hp
          · show y.1 = e + (c * rise (b.sum + 1) y.2.2.length * (b.take k).sum + st (inc b k) (c * at0 b k) y.2.2)
            rw [h1, h3]; lia
          · exact h4
    exact key b.length (Nat.le_refl _)
/-- the product of the signs' own rises -/
noncomputable def prodR : List Nat → Nat → List Nat → Nat
  | [], _, _ => 1
  | a :: b, i, w => rise a (w.count i) * prodR b (i + 1) w
theorem prodR_nil : ∀ (b : List Nat) (i : Nat), prodR b i [] = 1
  | [], _ => rfl
  | a :: b, i => by simp [prodR, prodR_nil b, rise]
theorem prodR_low : ∀ (b : List Nat) (i p : Nat) (w : List Nat), p < i → prodR b i (p :: w) = prodR b i w
  | [], _, _, _, _ => rfl
  | a :: b, i, p, w, h => by
    have h1 : (p == i) = false := by simp; lia
    simp only [prodR, List.count_cons, h1, prodR_low b (i + 1) p w (by lia)]
    simp
theorem prodR_cons : ∀ (b : List Nat) (i p : Nat) (w : List Nat), p < b.length → prodR b i ((i + p) :: w) = at0 b p * prodR (inc b p) i w
  | [], _, _, _, h => by simp at h
  | a :: b, i, 0, w, _ => by
    have h1 : (i == i) = true := by simp
    show rise a ((i :: w).count i) * prodR b (i + 1) (i :: w) = a * (rise (a + 1) (w.count i) * prodR b (i + 1) w)
    rw [prodR_low b (i + 1) i w (by lia), List.count_cons_self, rise_front, Nat.mul_assoc]
  | a :: b, i, p + 1, w, h => by
    have ih := prodR_cons b (i + 1) p w (by simpa using h)
    have h1 : (i + (p + 1) == i) = false := by simp
    have e : inc (a :: b) (p + 1) = a :: inc b p := rfl
    rw [e]
    show rise a (((i + (p + 1)) :: w).count i) * prodR b (i + 1) ((i + (p + 1)) :: w) = at0 b p * (rise a (w.count i) * prodR (inc b p) (i + 1) w)
    rw [show i + (p + 1) = i + 1 + p by lia] at h1 ⊢
    rw [ih, List.count_cons, h1]
    simp only [Bool.false_eq_true, if_false, Nat.add_zero]
    rw [← Nat.mul_assoc, ← Nat.mul_assoc, Nat.mul_comm (rise a _)]
theorem sz_eq (w : List Nat) : ∀ (b : List Nat) (c : Nat), (∀ p ∈ w, p < b.length) → sz b c w = c * prodR b 0 w := by
  induction w with
  | nil => intro b c _; simp [sz, prodR_nil]
  | cons p w ih =>
    intro b c h
    have hp := h p List.mem_cons_self
    have e := prodR_cons b 0 p w hp
    rw [Nat.zero_add] at e
    rw [e]
    show sz (inc b p) (c * at0 b p) w = _
    rw [ih _ _ fun q hq => by rw [inc_len]; exact h q (.tail _ hq), Nat.mul_assoc]
end
/-! UrnDrawn -/
section
open PySem PyProof.Rows
variable {B : Base}



noncomputable abbrev encB (b : List Nat) : List PV := nums (b.map fun x : Nat => (x : Int))
theorem sum_cast : ∀ b : List Nat, (b.map fun x : Nat => (x : Int)).sum = ((b.sum : Nat) : Int)
  | [] => rfl
  | a :: b => by simp [sum_cast b]
theorem fdiv_cast (a b : Nat) : ((a : Int)).fdiv (b : Int) = ((a / b : Nat) : Int) := by
  rw [Int.fdiv_eq_ediv_of_nonneg _ (by lia)]; simp
theorem stE {S : List (List PV)} {x : List PV} : (S ++ [x])[S.length]? = some x := by simp
theorem sxE {S : List (List PV)} {x y : List PV} : (S ++ [x]).set S.length y = S ++ [y] := by simp
theorem getU {u : List (Str × Int)} {p : Nat} (h : p < u.length) : (encU u)[p]? = some (encP u[p]) := by simp [encU, h]
theorem encB_get {b : List Nat} {p : Nat} (h : p < b.length) : (encB b)[p]? = some (.av (.int (at0 b p : Nat))) := by
  simp [encB, nums, at0, List.getD_eq_getElem?_getD, h]
/-- the sums of the balls, so many times the room -/
noncomputable def endsOf (r : Nat) (b : List Nat) (i : Nat) : List Int := (List.range i).map fun j => ((r * (b.take (j + 1)).sum : Nat) : Int)
theorem endsOf_get {r : Nat} {b : List Nat} {i j : Nat} (h : j < i) : (endsOf r b i)[j]? = some ((r * (b.take (j + 1)).sum : Nat) : Int) := by
  simp [endsOf, h]
theorem ends_cut {r n p : Nat} {b : List Nat} (hp : p < b.length) (h1 : r * (b.take p).sum ≤ n) (h2 : n < r * (b.take (p + 1)).sum) : Cut (endsOf r b b.length) (n : Int) p := by
  refine ⟨by simp [endsOf]; lia, fun i v hi hv => ?_, fun i v hi hv => ?_⟩
  · rw [endsOf_get (by lia)] at hv
    cases hv
    have := Nat.mul_le_mul_left r (take_le b (i := i + 1) (j := p) (by lia))
    lia
  · have hib : i < b.length := by have := (List.getElem?_eq_some_iff.mp hv).1; simpa [endsOf] using this
    rw [endsOf_get hib] at hv
    cases hv
    have := Nat.mul_le_mul_left r (take_le b (i := p + 1) (j := i + 1) (by lia))
    lia
theorem take_snoc {α β : Type} (f : α → β) {l : List α} {i : Nat} (h : i < l.length) : (l.take i).map f ++ [f l[i]] = (l.take (i + 1)).map f := by
  rw [List.take_add_one, List.getElem?_eq_getElem h, List.map_append]; rfl
noncomputable def signAt (u : List (Str × Int)) (p : Nat) : Str := (u.getD p (Str.empty, 0)).1
/-- how many balls a sign has -/
structure BallsOf (u : List (Str × Int)) (b : List Nat) : Prop where
  eq : u.map (·.2) = b.map fun x : Nat => (x : Int)
theorem BallsOf.len {u b} (h : BallsOf u b) : u.length = b.length := by
  have := congrArg List.length h.eq
  simpa using this
set_option maxHeartbeats 4000000 in
theorem spec_drawn (C : Ctx B) {k : Nat} {u : List (Str × Int)} {b : List Nat} {w : List Nat} {n : Nat} {S : List (List PV)} {K : PV → List (List PV) → Prop} (hS : S[k]? = some (encU u)) (hb : BallsOf u b) (hbl : b.length < 1000) (hw : ∀ p ∈ w, p < b.length) (hwl : w.length < 1000)
    (h0 : 0 < b.sum) (hsum : b.sum < 1000000) (h1 : st b 1 w ≤ n) (h2 : n < st b 1 w + sz b 1 w) (hK : K (.lst S.length) (S ++ [w.map fun p => .av (.str (signAt u p))])) :
    Spec B 2 "_law_drawn" [.lst k, .av (.int (w.length : Nat)), .av (.int (n : Nat)), .av (.int (rise b.sum w.length : Nat))] S K := by
  obtain ⟨a, fd, F, hd⟩ := C.drawn
  refine spec_in (k := 1) C.bok F [("urn", .lst k), ("length", .av (.int (w.length : Nat))), ("number", .av (.int (n : Nat))), ("room", .av (.int (rise b.sum w.length : Nat)))] ["many", "balls", "drawn", "turn", "end", "ends", "place"] ["range", "sum", "bisect_right"]
    ["urn", "length", "number", "room", "many", "balls", "drawn", "turn", "end", "ends", "place"] rfl _ rfl (by decide +kernel) (binds4 F.params hd bind_drawn _ _ _ _) fun X hk hN hG => ?_
  simp only [dictN, List.map_cons, List.map_nil] at hN
  show WS X (fnBody (theStmt 18)) ⟨[some (.lst k), some (.av (.int (w.length : Nat))), some (.av (.int (n : Nat))), some (.av (.int (rise b.sum w.length : Nat))), none, none, none, none, none, none, none], S⟩ (Ends S.length K)
  refine ws_cons ?_
  refine wx_assign_comp1 ["sign", "many"] [] (by decide +kernel) hN (by intro x hx; cases hx) (by walk_at "GX") (by decide +kernel) ?_
  refine src_list ?_
  repeat (walk_at "AW")
  refine ⟨k, encU u, rfl, hS, [], .nil, fun X' hk' hN' hG' => ?_⟩
  simp only [dictN, freeN, List.map_cons, List.map_nil, List.cons_append, List.nil_append] at hN' ⊢
  refine turns_inv emit_mono (fun i σ => ∃ o1 o2, σ = ⟨[o1, o2], S ++ [encB (b.take i)]⟩) ⟨none, none, by simp⟩ (by rintro i σ ⟨_, _, rfl⟩; exact sold hS) ?_ ?_
  · rintro i v σ hv ⟨o1, o2, rfl⟩
    have hi : i < u.length := by have := (List.getElem?_eq_some_iff.mp hv).1; simpa using this
    have hib : i < b.length := by rw [← hb.len]; exact hi
    rw [getU hi] at hv
    cases hv
    have hbi : u[i].2 = (b[i] : Int) := by
      have := congrArg (·[i]?) hb.eq
      simpa [hi, hib] using this
    refine wa_two hN' (by walk_at "SX") (by walk_at "SX") ?_
    refine ⟨fun _ => emitk ?_, fun e => by cases e⟩
    repeat (walk_at "AW")
    refine ⟨rfl, _, stE, by simp; lia, some (.av (.str u[i].1)), some (.av (.int u[i].2)), ?_⟩
    rw [sxE, hbi]
    have e : encB (b.take i) ++ [PV.av (.int (b[i] : Int))] = encB (b.take (i + 1)) := by
      simp only [encB, nums, List.map_map]
      exact take_snoc _ hib
    rw [e]
  rintro σ ⟨o1, o2, rfl⟩
  have e0 : (encU u).length = b.length := by rw [← hb.len]; simp
  rw [e0, List.take_length]
  repeat (walk_at "AW")
  refine ⟨by decide, rfl, ?_⟩
  repeat (walk_at "AW")
  refine wx_for_range hG (by walk_at "GX") C.range ?_
  repeat (walk_at "AW")
  refine ⟨w.length, rfl, by lia, ?_⟩
  have e1 : (S ++ [encB b]).length = S.length + 1 := by simp
  have e2 : S ++ [encB b] ++ [[]] = S ++ encB b :: [] :: [] := by simp
  rw [e1, e2]
  refine loop_inv (fun i σ => ∃ (bt : List Nat) (c nt : Nat) (G : List (List PV)) (o1 o2 o3 o4 o5 : Option PV), σ = ⟨[some (.lst k), some (.av (.int (w.length : Nat))), some (.av (.int (nt : Nat))), some (.av (.int ((c * rise bt.sum (w.length - i) : Nat) : Int))), o1, some (.lst S.length), some (.lst (S.length + 1)), o2, o3, o4, o5],
      S ++ encB bt :: ((w.take i).map fun p => PV.av (.str (signAt u p))) :: G⟩ ∧ bt.length = b.length ∧ bt.sum = b.sum + i ∧ i ≤ w.length ∧ st bt c (w.drop i) ≤ nt ∧ nt < st bt c (w.drop i) + sz bt c (w.drop i))
    ⟨b, 1, n, [], none, none, none, none, none, by simp, rfl, by simp, Nat.zero_le _, by simpa using h1, by simpa using h2⟩ (fun _ _ _ => trivial) ?_ ?_
  · rintro i v σ hv ⟨bt, c, nt, G, o1, o2, o3, o4, o5, rfl, hl, hs, hi', ha, hz⟩
    have hi : i < w.length := by simpa using (List.getElem?_eq_some_iff.mp hv).1
    have hv' : v = .av (.int (i : Int)) := by
      simp [intsTo, List.getElem?_map, List.getElem?_range hi] at hv
      exact hv.symm
    subst hv'
    have hdrop : w.drop i = w[i] :: w.drop (i + 1) := List.drop_eq_getElem_cons hi
    rw [hdrop] at ha hz
    have hin : ∀ q ∈ w[i] :: w.drop (i + 1), q < bt.length := fun q hq => by
      rw [hl]; apply hw; rw [← hdrop] at hq; exact List.mem_of_mem_drop hq
    obtain ⟨t1, t2, t3, t4⟩ := turn_in hin ha hz
    have hpb : w[i] < bt.length := hin _ List.mem_cons_self
    have hlen' : (w.drop (i + 1)).length = w.length - i - 1 := by simp; lia
    rw [hlen'] at t1 t2 t3 t4
    have hroom : c * rise bt.sum (w.length - i) / bt.sum = c * rise (bt.sum + 1) (w.length - i - 1) := by
      have : w.length - i = (w.length - i - 1) + 1 := by lia
      rw [this, rise_front, Nat.add_sub_cancel]
      have e : c * (bt.sum * rise (bt.sum + 1) (w.length - i - 1)) = bt.sum * (c * rise (bt.sum + 1) (w.length - i - 1)) := by
        rw [← Nat.mul_assoc, Nat.mul_comm c, Nat.mul_assoc]
      rw [e, Nat.mul_div_cancel_left _ (by lia)]
    generalize hr : c * rise (bt.sum + 1) (w.length - i - 1) = r at t1 t2 t3 t4 hroom
    repeat (walk_at "AW")
    refine we_bcall (f := .builtin "sum") hG (by walk_at "GX") C.sum ((C.bok.mb _ (by decide)).trans boot_sum) (.builtin _) ?_
    repeat (walk_at "AW")
    refine bc_sum (ns := bt.map fun x : Nat => (x : Int)) st0 ?_
    rw [sum_cast]
    refine bk_div ⟨by lia, by lia⟩ ?_
    rw [fdiv_cast, hroom]
    repeat (walk_at "AW")
    refine ⟨by decide, rfl, ?_⟩
    repeat (walk_at "AW")
    refine wx_for ?_
    repeat (walk_at "AW")
    refine ⟨S.length, encB bt, rfl, sold st0, ?_⟩
    generalize hT : S ++ encB bt :: ((w.take i).map fun p => PV.av (.str (signAt u p))) :: G = TT
    have hT0 : TT[S.length]? = some (encB bt) := by rw [← hT]; exact st0
    refine loop_inv (fun j σ => ∃ o1, σ = ⟨[some (.lst k), some (.av (.int (w.length : Nat))), some (.av (.int (nt : Nat))), some (.av (.int (r : Nat))), o1, some (.lst S.length), some (.lst (S.length + 1)), some (.av (.int (i : Nat))), some (.av (.int ((r * (bt.take j).sum : Nat) : Int))), some (.lst TT.length), o5], TT ++ [nums (endsOf r bt j)]⟩)
      ⟨o1, by simp [endsOf]⟩ (by rintro j σ ⟨_, rfl⟩; exact sold hT0) ?_ ?_
    · rintro j v σ hv ⟨o1', rfl⟩
      have hj : j < bt.length := by have := (List.getElem?_eq_some_iff.mp hv).1; simpa using this
      rw [encB_get hj] at hv
      cases hv
      have hle : at0 bt j ≤ bt.sum := by
        have h3 := take_succ_sum bt j
        have h4 := take_le_all bt (j + 1)
        lia
      repeat (walk_at "AW")
      refine bk_mul ⟨by lia, by lia⟩ ?_
      repeat (walk_at "AW")
      refine we_meth PySem.F.plainAttrs_list PySem.F.slot_list_append PySem.F.type_list_append ?_
      repeat (walk_at "AW")
      refine ⟨.lst _, ?_⟩
      repeat (walk_at "AW")
      refine bc_append stE (by simp [endsOf]; lia) rfl ?_
      rw [sxE]
      refine ⟨rfl, ?_⟩
      repeat (walk_at "AW")
      refine ⟨some (.av (.int (at0 bt j : Nat))), ?_⟩
      have e3 : ((r * (bt.take j).sum : Nat) : Int) + ((r : Nat) : Int) * ((at0 bt j : Nat) : Int) = ((r * (bt.take (j + 1)).sum : Nat) : Int) := by
        rw [take_succ_sum, Nat.mul_add]; simp
      rw [e3]
      have e4 : nums (endsOf r bt j) ++ [PV.av (.int ((r * (bt.take (j + 1)).sum : Nat) : Int))] = nums (endsOf r bt (j + 1)) := by
        simp [endsOf, nums, List.range_succ]
      rw [e4]
    · rintro σ ⟨o1', rfl⟩
      have e5 : (encB bt).length = bt.length := by simp
      rw [e5]
      obtain ⟨a', fd', F', hd'⟩ := C.bisr
      repeat (walk_at "AW")
      refine we_call hG (by walk_at "GX") F'.is (by rw [hk]; exact Nat.le_refl 1) ?_
      repeat (walk_at "AW")
      refine spec_bisr C stE (by simp [endsOf]; lia) (ends_cut hpb t1 t2) ?_
      dsimp only
      repeat (walk_at "AW")
      have hps : (w[i] : Int) < 2 ^ 63 := by lia
      refine sub_list stE ⟨Int.natCast_nonneg _, hps⟩ (v := .av (.int ((r * (bt.take (w[i] + 1)).sum : Nat) : Int))) (by simp [endsOf, hpb]) ?_
      repeat (walk_at "AW")
      refine sub_list (sold hT0) ⟨Int.natCast_nonneg _, hps⟩ (v := .av (.int (at0 bt w[i] : Nat))) (encB_get hpb) ?_
      have hle : at0 bt w[i] ≤ bt.sum := by
        have h3 := take_succ_sum bt w[i]
        have h4 := take_le_all bt (w[i] + 1)
        lia
      refine bk_mul ⟨by lia, by lia⟩ ?_
      repeat (walk_at "AW")
      refine sub_list (sold hT0) ⟨Int.natCast_nonneg _, hps⟩ (v := .av (.int (at0 bt w[i] : Nat))) (encB_get hpb) ?_
      refine bk_mul ⟨by lia, by lia⟩ ?_
      repeat (walk_at "AW")
      have hpu : w[i] < u.length := by rw [hb.len, ← hl]; exact hpb
      have e6 : TT ++ [nums (endsOf r bt bt.length)] = S ++ encB bt :: ((w.take i).map fun p => PV.av (.str (signAt u p))) :: (G ++ [nums (endsOf r bt bt.length)]) := by rw [← hT]; simp
      rw [e6]
      refine wx_setitem ?_
      repeat (walk_at "AW")
      refine sub_list st0 ⟨Int.natCast_nonneg _, hps⟩ (v := .av (.int (at0 bt w[i] : Nat))) (encB_get hpb) ?_
      repeat (walk_at "AW")
      refine ⟨rfl, ?_⟩
      repeat (walk_at "AW")
      refine ⟨_, rfl, ?_⟩
      repeat (walk_at "AW")
      refine ⟨_, rfl, _, st0, Int.natCast_nonneg _, by simp [hpb], by simp; lia, ?_⟩
      rw [sx0]
      repeat (walk_at "AW")
      refine we_meth PySem.F.plainAttrs_list PySem.F.slot_list_append PySem.F.type_list_append ?_
      repeat (walk_at "AW")
      refine ⟨.lst _, ?_⟩
      repeat (walk_at "AW")
      refine sub_list (sold hS) ⟨Int.natCast_nonneg _, hps⟩ (v := encP u[w[i]]) (getU hpu) ?_
      repeat (walk_at "AW")
      refine sub_tup (i := 0) rfl ?_
      repeat (walk_at "AW")
      refine bc_append st1 (by simp; lia) rfl ?_
      rw [sx1]
      refine ⟨rfl, ?_⟩
      repeat (walk_at "AW")
      have e7 : (encB bt).set w[i] (PV.av (.int (((at0 bt w[i] : Nat) : Int) + 1))) = encB (inc bt w[i]) := by
        simp [encB, nums, inc, List.map_set]
      have e8 : ((w.take i).map fun p => PV.av (.str (signAt u p))) ++ [PV.av (.str u[w[i]].1)] = (w.take (i + 1)).map fun p => PV.av (.str (signAt u p)) := by
        have : u[w[i]].1 = signAt u w[i] := by simp [signAt, List.getD_eq_getElem?_getD, hpu]
        rw [this]
        exact take_snoc (fun p => PV.av (.str (signAt u p))) hi
      have e9 : ((nt : Nat) : Int) - ((r * (bt.take (w[i] + 1)).sum : Nat) : Int) + ((r : Nat) : Int) * ((at0 bt w[i] : Nat) : Int) = ((nt - r * (bt.take w[i]).sum : Nat) : Int) := by
        have h5 : r * (bt.take (w[i] + 1)).sum = r * (bt.take w[i]).sum + r * at0 bt w[i] := by rw [take_succ_sum, Nat.mul_add]
        have h6 : ((r : Nat) : Int) * ((at0 bt w[i] : Nat) : Int) = ((r * at0 bt w[i] : Nat) : Int) := by simp
        rw [h6, h5]; lia
      have e10 : ((r : Nat) : Int) * ((at0 bt w[i] : Nat) : Int) = ((c * at0 bt w[i] * rise (inc bt w[i]).sum (w.length - (i + 1)) : Nat) : Int) := by
        rw [inc_sum hpb, ← hr, show w.length - (i + 1) = w.length - i - 1 by lia]
        rw [Nat.mul_assoc, Nat.mul_comm (at0 bt w[i]), ← Nat.mul_assoc]
        simp
      have e11 : ((w[i] : Nat) : Int).toNat = w[i] := by lia
      rw [e11, e7, e8, e9, e10]
      exact ⟨inc bt w[i], c * at0 bt w[i], nt - r * (bt.take w[i]).sum, G ++ [nums (endsOf r bt bt.length)], _, _, _, _, _, rfl, by rw [inc_len, hl], by rw [inc_sum hpb, hs]; lia, hi, t3, t4⟩
  · rintro σ ⟨bt, c, nt, G, o1, o2, o3, o4, o5, rfl, hl, hs, hi', ha, hz⟩
    have e : (intsTo w.length).length = w.length := by simp
    rw [e, List.take_length]
    repeat (walk_at "AW")
    have hnl : ¬ (S.length + 1 < S.length) := by lia
    simpa [Ends, Leave, hnl] using hK
end
/-! UrnLaw0 -/
section
open PySem PyProof.Rows
variable {B : Base}

noncomputable def codes : List Nat := [9, 10, 13, 34, 38, 60, 62, 97]
theorem rep_flat (c : Nat) (z : List Nat) (l : List Nat) (f : Nat → List Nat) : rep c z (l.flatMap f) = l.flatMap fun d => rep c z (f d) := by
  unfold rep; rw [List.flatMap_assoc]
theorem flat_one (l : List Nat) : l = l.flatMap fun d => [d] := by
  induction l with
  | nil => rfl
  | cons a l ih => rw [List.flatMap_cons, ← ih]; rfl
theorem esc_flat (w : Nat) (l : List Nat) : escW w l = l.flatMap fun d => escW w [d] := by
  match w with
  | 0 =>
    show esc_attrib l = l.flatMap fun d => esc_attrib [d]
    unfold esc_attrib
    conv => lhs; rw [flat_one l]
    simp only [rep_flat]
  | 1 =>
    show esc_html l = l.flatMap fun d => esc_html [d]
    unfold esc_html
    conv => lhs; rw [flat_one l]
    simp only [rep_flat]
  | w + 2 =>
    show esc_cdata l = l.flatMap fun d => esc_cdata [d]
    unfold esc_cdata
    conv => lhs; rw [flat_one l]
    simp only [rep_flat]
theorem esc_code : ∀ w ∈ [0, 1, 2], ∀ d ∈ codes, escW w [d] = spellC w d := by decide +kernel
theorem esc_spell {w : Nat} (hw : w < 3) {l : List Nat} (hl : ∀ d ∈ l, d ∈ codes) : escW w l = spell w l := by
  rw [esc_flat]
  unfold spell
  have hw' : w ∈ [0, 1, 2] := by simp; lia
  induction l with
  | nil => rfl
  | cons a l ih =>
    rw [List.flatMap_cons, List.flatMap_cons, ih fun d hd => hl d (.tail _ hd), esc_code w hw' a (hl a List.mem_cons_self)]
/-- the number of a place's sign -/
noncomputable def codeAt (u : List (Str × Int)) (p : Nat) : Nat := (signAt u p).cps.toList.headD 0
theorem alpha_code : ∀ x ∈ alphabet, x = T [x.cps.toList.headD 0] ∧ x.cps.toList.headD 0 ∈ codes := by decide +kernel
theorem sign_code {u : List (Str × Int)} (hu : UrnOk u) {p : Nat} (hp : p < 3) : signAt u p = T [codeAt u p] ∧ codeAt u p ∈ codes := by
  have hp' : p < u.length := by rw [hu.len]; exact hp
  have e : signAt u p = u[p].1 := by simp [signAt, List.getD_eq_getElem?_getD, hp']
  have := alpha_code _ (hu.mem _ (List.getElem_mem hp')).1
  rw [← e] at this
  exact this
theorem code_inj {u : List (Str × Int)} (hu : UrnOk u) {p q : Nat} (hp : p < 3) (hq : q < 3) (h : codeAt u p = codeAt u q) : p = q := by
  have e : signAt u p = signAt u q := by rw [(sign_code hu hp).1, (sign_code hu hq).1, h]
  have hp' : p < u.length := by rw [hu.len]; exact hp
  have hq' : q < u.length := by rw [hu.len]; exact hq
  have e1 : signAt u p = u[p].1 := by simp [signAt, List.getD_eq_getElem?_getD, hp']
  have e2 : signAt u q = u[q].1 := by simp [signAt, List.getD_eq_getElem?_getD, hq']
  rw [e1, e2] at e
  have hs := List.pairwise_iff_getElem.mp hu.sorted
  rcases Nat.lt_trichotomy p q with h | h | h
  · exact absurd (hs p q hp' hq' h) (by rw [e]; exact slt_irrefl)
  · exact h
  · exact absurd (hs q p hq' hp' h) (by rw [e]; exact slt_irrefl)
theorem code_count {u : List (Str × Int)} (hu : UrnOk u) {p : Nat} (hp : p < 3) : ∀ {w : List Nat}, (∀ q ∈ w, q < 3) → (w.map (codeAt u)).count (codeAt u p) = w.count p
  | [], _ => rfl
  | q :: w, h => by
    have ih := code_count hu hp (w := w) fun r hr => h r (.tail _ hr)
    have hq := h q List.mem_cons_self
    rw [List.map_cons, List.count_cons, List.count_cons, ih]
    congr 1
    by_cases e : q = p
    · simp [e]
    · have : codeAt u q ≠ codeAt u p := fun h => e (code_inj hu hq hp h)
      simp [e, this]
noncomputable def digitsOf (a : Nat) : List Nat := (Str.ofString (toString (a : Int))).cps.toList
theorem digits_T (a : Nat) : T (digitsOf a) = Str.ofString (toString (a : Int)) := T_of _
noncomputable def marks : List Nat := [124, 33, 59, 47]
theorem markOk {m a : Nat} (hm : m ∈ marks) (ha : a < 1000000) : MarkOk m (digitsOf a) := by
  have free : ∀ k, (k ≠ 45 ∧ (k < 48 ∨ 57 < k)) → k ∉ digitsOf a := fun k hk => int_text_free' k hk (a : Int)
  have hm' : m = 124 ∨ m = 33 ∨ m = 59 ∨ m = 47 := by simpa [marks] using hm
  refine ⟨by lia, by lia, by lia, fun d hd => ⟨fun e => free 41 (by lia) (e ▸ hd), fun e => free m (by lia) (e ▸ hd)⟩, ?_⟩
  have h1 := int_text_length_le10 (a := (a : Int)) (k := 6) (by decide) (by have : (10 : Nat) ^ 6 = 1000000 := by decide
                                                                            lia)
  have h2 : (digitsOf a).length = (Str.ofString (toString (a : Int))).length := by simp [digitsOf, Str.length]
  rw [h2, PySem.ofString_length]
  lia
noncomputable def tails : List (List Nat) := [[], [32, 105, 115, 32, 100, 114, 97, 119, 110], [44, 32, 34, 115, 111, 34, 32, 105, 116, 32, 105, 115]]
theorem tails_ok : ∀ t ∈ tails, t.length ≤ 20 ∧ ∀ d, t[0]? = some d → d ≠ 34 := by
  intro t ht
  have : t = [] ∨ t = [32, 105, 115, 32, 100, 114, 97, 119, 110] ∨ t = [44, 32, 34, 115, 111, 34, 32, 105, 116, 32, 105, 115] := by simpa [tails] using ht
  rcases this with rfl | rfl | rfl
  · exact ⟨by decide, fun d hd => by simp at hd⟩
  · exact ⟨by decide, fun d hd => by simp at hd; lia⟩
  · exact ⟨by decide, fun d hd => by simp at hd; lia⟩
theorem rise_small : ∀ s ∈ List.range 10, ∀ L ∈ List.range 5, rise s L < 20000 := by decide +kernel
theorem rise_lt {s L : Nat} (hs : s ≤ 9) (hL : L ≤ 4) : rise s L < 20000 := rise_small s (by simp; lia) L (by simp; lia)
theorem of_three {α : Type} {l : List α} (h : l.length = 3) : ∃ a b c, l = [a, b, c] := by
  cases l with
  | nil => cases h
  | cons a l =>
    cases l with
    | nil => cases h
    | cons b l =>
      cases l with
      | nil => cases h
      | cons c l =>
        cases l with
        | nil => exact ⟨a, b, c, rfl⟩
        | cons d l => cases h
theorem urn_balls {u : List (Str × Int)} (hu : UrnOk u) : ∃ b : List Nat, BallsOf u b ∧ b.length = 3 ∧ 1 ≤ b.sum ∧ b.sum ≤ 9 := by
  obtain ⟨h1, _, h3⟩ := hu
  obtain ⟨e0, e1, e2, rfl⟩ := of_three h1
  · have a0 := (h3 e0 (by simp)).2
    have a1 := (h3 e1 (by simp)).2
    have a2 := (h3 e2 (by simp)).2
    refine ⟨[e0.2.toNat, e1.2.toNat, e2.2.toNat], ⟨?_⟩, rfl, ?_, ?_⟩
    · simp; lia
    · simp; lia
    · simp; lia
theorem mul_two (d : Nat) : MulOk (T [d]) 2 ∧ Txt.mul (T [d]) 2 = T [d, d] := by
  refine ⟨⟨by decide, fun _ _ => ?_, fun _ _ => ?_⟩, ?_⟩
  · rw [T_len, show [d].length = 1 from rfl]; decide +kernel
  · rw [T_len, show [d].length = 1 from rfl]; decide +kernel
  · rfl
theorem mul_three (d : Nat) : MulOk (T [d]) 3 ∧ Txt.mul (T [d]) 3 = T [d, d, d] := by
  refine ⟨⟨by decide, fun _ _ => ?_, fun _ _ => ?_⟩, ?_⟩
  · rw [T_len, show [d].length = 1 from rfl]; decide +kernel
  · rw [T_len, show [d].length = 1 from rfl]; decide +kernel
  · rfl
end
/-! UrnAsked -/
section
open PySem PyProof.Rows
variable {B : Base}



noncomputable abbrev lawN (c1 c2 : Addr) : List (Str × Loc) := [(Str.ofString "script", .dict), (Str.ofString "sums", .dict), (Str.ofString "urn", .dict), (Str.ofString "kinds", .cell c1), (Str.ofString "length", .dict), (Str.ofString "which", .dict), (Str.ofString "sign", .dict), (Str.ofString "many", .dict), (Str.ofString "room", .dict), (Str.ofString "words", .dict), (Str.ofString "turn", .dict), (Str.ofString "word", .dict), (Str.ofString "shares", .dict), (Str.ofString "end", .dict), (Str.ofString "share", .dict), (Str.ofString "z", .dict), (Str.ofString "number", .cell c2), (Str.ofString "first", .dict), (Str.ofString "behind", .dict), (Str.ofString "due", .dict), (Str.ofString "mark", .dict), (Str.ofString "tail", .dict), (Str.ofString "asked", .dict), (Str.ofString "told", .dict), (Str.ofString "drawn", .dict), (Str.ofString "reply", .dict)]
noncomputable abbrev lawG : List Str := [Str.ofString "zip", Str.ofString "_law_urn", Str.ofString "sorted", Str.ofString "sum", Str.ofString "_law_rise", Str.ofString "range", Str.ofString "_law_spelled", Str.ofString "parse229", Str.ofString "str", Str.ofString "_law_drawn", Str.ofString "_law_written", Str.ofString "parse257"]
noncomputable def lawBody : List Stmt := fnBody (theStmt 21)
noncomputable def stmtAt (b : List Stmt) (i : Nat) : Stmt := b.getD i (.Pass ⟨0, 0, 0, 0⟩)
noncomputable def zBody : List Stmt := StmtsOf (stmtAt lawBody 11)
noncomputable def aBody : List Stmt := StmtsOf (stmtAt zBody 5)
/-- a word of places -/
structure WordOk (u : List (Str × Int)) (b : List Nat) (L : Nat) (w : List Nat) : Prop where
  uok : UrnOk u
  balls : BallsOf u b
  blen : b.length = 3
  bpos : 1 ≤ b.sum
  ble : b.sum ≤ 9
  Lle : L ≤ 4
  len : w.length = L
  mem : ∀ p ∈ w, p < 3
theorem WordOk.codes {u b L w} (h : WordOk u b L w) : ∀ d ∈ w.map (codeAt u), d ∈ codes := fun d hd => by
  obtain ⟨p, hp, rfl⟩ := List.mem_map.mp hd
  exact (sign_code h.uok (h.mem p hp)).2
theorem codes_ascii : ∀ d ∈ codes, d < 128 := by decide
theorem WordOk.share {u b L w} (h : WordOk u b L w) : st b 1 w + sz b 1 w ≤ rise b.sum L ∧ rise b.sum L < 20000 := by
  have := share_in w b 1 fun p hp => by rw [h.blen]; exact h.mem p hp
  rw [h.len, Nat.one_mul] at this
  exact ⟨this, rise_lt h.ble h.Lle⟩
noncomputable abbrev quo (d : Nat) : List Nat := if d = 34 then [34, 34] else [d]
theorem quo_join (w : List Nat) (f : Nat → Nat) : Txt.join (T []) (w.map fun p => T (quo (f p))) = T (dq (w.map f)) := by
  rw [txt_join, List.map_map, dq, rep, List.flatMap_map, List.flatMap_def]
  rfl
set_option maxHeartbeats 8000000 in
theorem law_asked (C : Ctx B) {X : Scene B} (hk : 3 ≤ X.k) {c1 c2 : Addr} (hN : X.fr.N = lawN c1 c2) (hG : X.fr.G = lawG) {u : List (Str × Int)} {b w tl : List Nat} {L m wh a ku : Nat} (H : WordOk u b L w) (hm : m ∈ marks) (htl : tl ∈ tails) (hwh : wh < 3)
    (h1 : st b 1 w ≤ a) (h2 : a < st b 1 w + sz b 1 w) {S : List (List PV)} (hS : S[ku]? = some (encU u)) {K : Fl → AS → Prop} {o0 o1 o3 o6 o7 o9 o10 o11 o12 o13 o14 o15 o16 o17 o18 o23 o24 o25 : Option PV}
    (hK : ∀ G p1 p2 p3, K .next ⟨[o0, o1, some (.lst ku), o3, some (.av (.int ((L : Nat) : Int))), some (.av (.int ((wh : Nat) : Int))), o6, o7, some (.av (.int ((rise b.sum L : Nat) : Int))), o9, o10, o11, o12, o13, o14, o15, o16, o17, o18, some (.av (.str (T (spell wh (w.map (codeAt u)))))), some (.av (.str (T [m]))), some (.av (.str (T tl))), some (.av (.int ((a : Nat) : Int))), p1, p2, p3], S ++ G⟩) : WS X aBody ⟨[o0, o1, some (.lst ku), o3, some (.av (.int ((L : Nat) : Int))), some (.av (.int ((wh : Nat) : Int))), o6, o7, some (.av (.int ((rise b.sum L : Nat) : Int))), o9, o10, o11, o12, o13, o14, o15, o16, o17, o18, some (.av (.str (T (spell wh (w.map (codeAt u)))))), some (.av (.str (T [m]))), some (.av (.str (T tl))), some (.av (.int ((a : Nat) : Int))), o23, o24, o25], S⟩ K := by
  obtain ⟨s1, s2⟩ := H.share
  have ha : a < 20000 := by lia
  obtain ⟨q1, q2, q3, q4, q5⟩ := pre257_is
  have h1000 : (2 : Nat) ^ 1000 > 20000 := by decide +kernel
  have h10 : (10 : Int) ^ 10 = 10000000000 := by decide
  have hL := H.len
  subst hL
  have hmk := markOk hm (a := a) (by lia)
  have hdl := hmk.len
  obtain ⟨ht1, ht2⟩ := tails_ok tl htl
  refine ws_cons ?_
  obtain ⟨_, _, F1, _⟩ := C.p229
  refine wx_assign hN ?_ (by intro _; rfl)
  refine we_call hG (by walk_at "GX") F1.is (by lia : 1 ≤ X.k) ?_
  repeat (walk_at "AW")
  refine bk_muls (mul_three m).1 ?_
  rw [(mul_three m).2, pre229_is]
  refine bk_adds (by rw [T_len, T_len]; simp [pre229]) ?_
  rw [T_add]
  repeat (walk_at "AW")
  refine we_bcall (f := .type "str") hG (by walk_at "GX") C.str ((C.bok.mb _ (by decide)).trans boot_str) (.type _) ?_
  repeat (walk_at "AW")
  refine bc_str (by lia) ?_
  rw [← digits_T]
  refine bk_adds (by rw [T_len, T_len]; simp [pre229]; lia) ?_
  rw [T_add]
  repeat (walk_at "AW")
  refine bk_adds (by rw [T_len, T_len]; simp [pre229]; lia) ?_
  rw [T_add]
  repeat (walk_at "AW")
  rw [ofs_paren.2.1]
  refine bk_adds (by rw [T_len, T_len]; simp [pre229]; lia) ?_
  rw [T_add]
  repeat (walk_at "AW")
  refine ⟨by simp, _, rfl, ?_⟩
  repeat (walk_at "AW")
  have e1 : pre229 ++ [m, m, m] ++ digitsOf a ++ [m] ++ [41] = reply229 m (digitsOf a) := by simp [reply229]
  rw [e1]
  refine spec_229 C hmk (digits_T a) (Int.natCast_nonneg _) (by lia) ?_
  dsimp only
  repeat (walk_at "AW")
  refine ⟨by simp, _, rfl, ?_⟩
  repeat (walk_at "AW")
  refine and_false (by simp) ?_
  repeat (walk_at "AW")
  obtain ⟨_, _, F2, _⟩ := C.drawn
  refine we_call hG (by walk_at "GX") F2.is (by lia : 2 ≤ X.k) ?_
  repeat (walk_at "AW")
  refine sub_tup (i := 0) rfl ?_
  repeat (walk_at "AW")
  refine sub_tup (i := 1) rfl ?_
  repeat (walk_at "AW")
  refine spec_drawn C hS H.balls (by rw [H.blen]; decide) (fun p hp => by rw [H.blen]; exact H.mem p hp) (by have := H.Lle; lia) H.bpos (by have := H.ble; lia) h1 h2 ?_
  dsimp only
  repeat (walk_at "AW")
  rw [pre257_is.1]
  refine we_meth PySem.F.plainAttrs_str PySem.F.slot_str_join PySem.F.type_str_join ?_
  repeat (walk_at "AW")
  refine ⟨.str _, ?_⟩
  repeat (walk_at "AW")
  refine we_comp1 ["sign"] [] (by decide +kernel) hN (by intro x hx; cases hx) ?_
  refine src_list ?_
  repeat (walk_at "AW")
  refine ⟨S.length, _, rfl, stE, [], .nil, fun X' hk' hN' hG' => ?_⟩
  simp only [dictN, freeN, List.map_cons, List.map_nil, List.cons_append, List.nil_append] at hN' ⊢
  generalize hTT : S ++ [w.map fun p => PV.av (.str (signAt u p))] = TT
  have hTT0 : TT[S.length]? = some (w.map fun p => PV.av (.str (signAt u p))) := by rw [← hTT]; exact stE
  refine turns_inv emit_mono (fun i σ => ∃ o1, σ = ⟨[o1], TT ++ [((w.take i).map fun p => T (quo (codeAt u p))).map fun x => PV.av (.str x)]⟩) ⟨none, by simp⟩ (by rintro i σ ⟨_, rfl⟩; exact sold hTT0) ?_ ?_
  · rintro i v σ hv ⟨o1, rfl⟩
    have hi : i < w.length := by have := (List.getElem?_eq_some_iff.mp hv).1; simpa using this
    rw [List.getElem?_map, List.getElem?_eq_getElem hi] at hv
    have hc := (sign_code H.uok (H.mem _ (List.getElem_mem hi))).1
    have hv' : v = .av (.str (T [codeAt u w[i]])) := by rw [← hc]; exact (Option.some.inj hv).symm
    subst hv'
    repeat (walk_at "AW")
    refine ⟨fun _ => emitk ?_, fun e => by cases e⟩
    repeat (walk_at "AW")
    rw [q4, T_eq]
    have fin : ∃ o1, (⟨[some (.av (.str (T [codeAt u w[i]])))], (TT ++ [((w.take i).map fun p => T (quo (codeAt u p))).map fun x => PV.av (.str x)]).set TT.length (((w.take i).map fun p => T (quo (codeAt u p))).map (fun x => PV.av (.str x)) ++ [PV.av (.str (T (quo (codeAt u w[i]))))])⟩ : AS) = ⟨[o1], TT ++ [((w.take (i + 1)).map fun p => T (quo (codeAt u p))).map fun x => PV.av (.str x)]⟩ := by
      refine ⟨some (.av (.str (T [codeAt u w[i]]))), ?_⟩
      rw [sxE]
      have e : ((w.take i).map fun p => T (quo (codeAt u p))).map (fun x => PV.av (.str x)) ++ [PV.av (.str (T (quo (codeAt u w[i]))))] = ((w.take (i + 1)).map fun p => T (quo (codeAt u p))).map fun x => PV.av (.str x) := by
        rw [List.map_map, List.map_map]
        exact take_snoc ((fun x => PV.av (.str x)) ∘ fun p => T (quo (codeAt u p))) hi
      rw [e]
    by_cases h34 : codeAt u w[i] = 34
    · refine and_true (by simp [h34]) ?_
      repeat (walk_at "AW")
      refine bk_muls (mul_two _).1 ?_
      rw [(mul_two _).2]
      refine ⟨rfl, _, stE, by have := H.Lle; simp; lia, ?_⟩
      have eq : quo (codeAt u w[i]) = [codeAt u w[i], codeAt u w[i]] := by simp [quo, h34]
      rw [eq] at fin
      exact fin
    · refine and_false (by simp [h34]) ?_
      repeat (walk_at "AW")
      refine ⟨rfl, _, stE, by have := H.Lle; simp; lia, ?_⟩
      have eq : quo (codeAt u w[i]) = [codeAt u w[i]] := by simp [quo, h34]
      rw [eq] at fin
      exact fin
  rintro σ ⟨o1, rfl⟩
  rw [List.length_map, List.take_length]
  repeat (walk_at "AW")
  refine bc_join stE (joinOk_of (n := 2) (fun y hy => ?_) ?_) ?_
  · obtain ⟨p, _, rfl⟩ := List.mem_map.mp hy
    rw [T_len]
    by_cases h34 : codeAt u p = 34 <;> simp [quo, h34]
  · rw [List.length_map, q5, T_len]
    have := H.Lle
    simp; lia
  rw [q5, quo_join w (codeAt u)]
  have hdq : (dq (w.map (codeAt u))).length ≤ 2 * (w.map (codeAt u)).length := rep_len (c := 34) (z := [34, 34]) (m := 2) (by decide) (by decide) _
  rw [List.length_map] at hdq
  have hwL := H.Lle
  refine bk_adds (by rw [T_len, T_len]; simp [pre257]; lia) ?_
  rw [T_add]
  repeat (walk_at "AW")
  rw [q4]
  refine bk_adds (by rw [T_len, T_len]; simp [pre257]; lia) ?_
  rw [T_add]
  repeat (walk_at "AW")
  refine bk_adds (by rw [T_len, T_len]; simp [pre257]; lia) ?_
  rw [T_add]
  have e2 : pre257 ++ dq (w.map (codeAt u)) ++ [34] ++ tl = reply257 (w.map (codeAt u)) tl := by simp [reply257]
  rw [e2]
  repeat (walk_at "AW")
  obtain ⟨_, _, F3, _⟩ := C.written
  obtain ⟨_, _, F4, _⟩ := C.p257
  refine we_call hG (by walk_at "GX") F3.is (by lia : 2 ≤ X.k) ?_
  refine wl_cons ?_ (by intro _; rfl)
  refine we_call hG (by walk_at "GX") F4.is (by lia : 1 ≤ X.k) ?_
  repeat (walk_at "AW")
  refine spec_257 C (by rw [List.length_map]; lia) ht1 ht2 ?_
  dsimp only
  repeat (walk_at "AW")
  refine spec_written C (by rw [List.length_map]; lia) hwh ?_
  dsimp only
  repeat (walk_at "AW")
  rw [esc_spell hwh H.codes]
  refine and_false (by simp) ?_
  repeat (walk_at "AW")
  rw [← hTT, List.append_assoc]
  exact hK _ _ _ _
end
/-! UrnZ -/
section
open PySem PyProof.Rows
variable {B : Base}



noncomputable def sharesOf (b : List Nat) (L : Nat) : List (Nat × Nat × List Nat) := cum (prodR b 0) 0 (wordsOn 3 L)
theorem cum_congr {f g : List Nat → Nat} : ∀ {ws : List (List Nat)} {e : Nat}, (∀ w ∈ ws, f w = g w) → cum f e ws = cum g e ws
  | [], _, _ => rfl
  | w :: ws, e, h => by
    simp only [cum, h w List.mem_cons_self, cum_congr (e := e + g w) fun v hv => h v (.tail _ hv)]
theorem words_mem (n : Nat) : ∀ (L : Nat) (w : List Nat), w ∈ wordsFr n L → w.length = L ∧ ∀ p ∈ w, p < n
  | 0, w, h => by simp [wordsFr] at h; subst h; simp
  | L + 1, w, h => by
    obtain ⟨p, hp, hw⟩ := List.mem_flatMap.mp h
    obtain ⟨v, hv, rfl⟩ := List.mem_map.mp hw
    obtain ⟨h1, h2⟩ := words_mem n L v hv
    refine ⟨by simp [h1], fun q hq => ?_⟩
    rcases List.mem_cons.mp hq with rfl | hq
    · simpa using hp
    · exact h2 q hq
theorem shares_eq {b : List Nat} {L : Nat} (hb : b.length = 3) : sharesOf b L = cum (sz b 1) 0 (wordsFr b.length L) := by
  unfold sharesOf
  rw [words_eq, hb]
  refine cum_congr fun w hw => ?_
  rw [sz_eq w b 1 fun p hp => by rw [hb]; exact (words_mem 3 L w hw).2 p hp, Nat.one_mul]
theorem shares_in {b : List Nat} {L : Nat} (hb : b.length = 3) : ∀ x ∈ sharesOf b L, x.2.2.length = L ∧ (∀ p ∈ x.2.2, p < 3) ∧ x.1 = st b 1 x.2.2 ∧ x.2.1 = x.1 + sz b 1 x.2.2 := by
  intro x hx
  rw [shares_eq hb] at hx
  have := cum_words L b 1 0 x hx
  rw [hb, Nat.zero_add] at this
  exact this
theorem shares_has {b : List Nat} {L n : Nat} (hb : b.length = 3) (hn : n < rise b.sum L) : ∃ x ∈ sharesOf b L, x.1 ≤ n ∧ n < x.2.1 := by
  rw [shares_eq hb]
  refine cum_has _ _ 0 n (Nat.zero_le _) ?_
  rw [sum_words]; lia
theorem sum_const {α : Type} (c : Nat) : ∀ l : List α, (l.map fun _ => c).sum = l.length * c
  | [] => by simp
  | a :: l => by simp [sum_const c l, Nat.succ_mul, Nat.add_comm]
theorem words_count (n : Nat) : ∀ L, (wordsFr n L).length = n ^ L
  | 0 => rfl
  | L + 1 => by
    show ((List.range n).flatMap fun p => (wordsFr n L).map (p :: ·)).length = _
    rw [List.length_flatMap]
    simp only [List.length_map, words_count n L]
    rw [sum_const, List.length_range, Nat.pow_succ, Nat.mul_comm]
theorem cum_len (f : List Nat → Nat) : ∀ (ws : List (List Nat)) (e : Nat), (cum f e ws).length = ws.length
  | [], _ => rfl
  | w :: ws, e => by simp [cum, cum_len f ws]
theorem shares_len {b : List Nat} {L : Nat} (hL : L ≤ 4) : (sharesOf b L).length ≤ 81 := by
  unfold sharesOf
  rw [cum_len, words_eq, words_count]
  exact Nat.pow_le_pow_right (n := 3) (by decide) hL
noncomputable abbrev enc3 (u : List (Str × Int)) (x : Nat × Nat × List Nat) : PV := .tup [.int ((x.1 : Nat) : Int), .int ((x.2.1 : Nat) : Int), .str (T (x.2.2.map (codeAt u)))]
noncomputable abbrev inShare (n : Nat) (x : Nat × Nat × List Nat) : Bool := decide (x.1 ≤ n) && decide (n < x.2.1)
theorem rise_pos {s : Nat} (hs : 1 ≤ s) : ∀ m, 0 < rise s m
  | 0 => by simp [rise]
  | m + 1 => Nat.mul_pos (rise_pos hs m) (by lia)
/-- an urn and its balls -/
structure BallOk (u : List (Str × Int)) (b : List Nat) (L : Nat) : Prop where
  uok : UrnOk u
  balls : BallsOf u b
  blen : b.length = 3
  bpos : 1 ≤ b.sum
  ble : b.sum ≤ 9
  Lle : L ≤ 4
theorem ofs_marks : Str.ofString "|!;/" = T marks ∧ Str.ofString "" = T [] ∧ Str.ofString " is drawn" = T [32, 105, 115, 32, 100, 114, 97, 119, 110] ∧ Str.ofString ", \"so\" it is" = T [44, 32, 34, 115, 111, 34, 32, 105, 116, 32, 105, 115] := by decide +kernel
theorem three {α : Type} {a b c v : α} {i : Nat} (h : [a, b, c][i]? = some v) : v = a ∨ v = b ∨ v = c := by
  match i, h with
  | 0, h => exact .inl (Option.some.inj h).symm
  | 1, h => exact .inr (.inl (Option.some.inj h).symm)
  | 2, h => exact .inr (.inr (Option.some.inj h).symm)
theorem tails_get {i : Nat} (h : i < tails.length) : (tails.map fun t => PV.av (.str (T t)))[i]? = some (.av (.str (T tails[i]))) := by
  rw [List.getElem?_map, List.getElem?_eq_getElem h]; rfl
set_option maxHeartbeats 8000000 in
theorem law_z (C : Ctx B) {X : Scene B} (hk : 3 ≤ X.k) {c1 c2 : Addr} (hN : X.fr.N = lawN c1 c2) (hG : X.fr.G = lawG) {u : List (Str × Int)} {b : List Nat} {L wh ku ks : Nat} {z : Int} (H : BallOk u b L) (hwh : wh < 3)
    {S : List (List PV)} (hS : S[ku]? = some (encU u)) (hS2 : S[ks]? = some ((sharesOf b L).map (enc3 u))) {K : Fl → AS → Prop} {o0 o1 o3 o6 o7 o9 o10 o11 o13 o14 o16 o17 o18 o19 o20 o21 o22 o23 o24 o25 : Option PV}
    (hK : ∀ G p0 p1 p2 p3 p4 p5 p6 p7 p8 p9 p10, K .next ⟨[o0, o1, some (.lst ku), o3, some (.av (.int ((L : Nat) : Int))), some (.av (.int ((wh : Nat) : Int))), o6, o7, some (.av (.int ((rise b.sum L : Nat) : Int))), o9, o10, p3, some (.lst ks), o13, o14, some (.av (.int (z))), p0, p1, p2, p4, p5, p6, p7, p8, p9, p10], S ++ G⟩) : WS X zBody ⟨[o0, o1, some (.lst ku), o3, some (.av (.int ((L : Nat) : Int))), some (.av (.int ((wh : Nat) : Int))), o6, o7, some (.av (.int ((rise b.sum L : Nat) : Int))), o9, o10, o11, some (.lst ks), o13, o14, some (.av (.int (z))), o16, o17, o18, o19, o20, o21, o22, o23, o24, o25], S⟩ K := by
  have hR := rise_pos H.bpos L
  have hR2 := rise_lt H.ble H.Lle
  obtain ⟨n, hn, hnR⟩ := fmod_range (z := z.fdiv 24) (n := rise b.sum L) hR
  refine ws_cons ?_
  repeat (walk_at "AW")
  refine bk_div (by decide) ?_
  repeat (walk_at "AW")
  refine bk_mod (by lia) ?_
  rw [hn]
  repeat (walk_at "AW")
  refine wx_unpack rfl ?_ (by intro _; rfl) (by intro _; rfl)
  repeat (walk_at "AW")
  refine we_comp1 ["one"] ["number"] (by decide +kernel) hN (by intro x hx; rw [List.mem_singleton.mp hx]; exact ⟨c2, by simp⟩) ?_
  refine src_list ?_
  repeat (walk_at "AW")
  refine ⟨ks, _, rfl, hS2, [.av (.int (n : Nat))], .cons (by walk_at "CX") .nil, fun X' hk' hN' hG' => ?_⟩
  simp only [dictN, freeN, List.map_cons, List.map_nil, List.cons_append, List.nil_append] at hN' ⊢
  refine turns_inv emit_mono (fun i σ => ∃ o, σ = ⟨[o, some (.av (.int (n : Nat)))], S ++ [(((sharesOf b L).take i).filter (inShare n)).map (enc3 u)]⟩) ⟨none, by simp⟩ (by rintro i σ ⟨_, rfl⟩; exact sold hS2) ?_ ?_
  · rintro i v σ hv ⟨o, rfl⟩
    have hi : i < (sharesOf b L).length := by have := (List.getElem?_eq_some_iff.mp hv).1; simpa using this
    rw [List.getElem?_map, List.getElem?_eq_getElem hi] at hv
    generalize hx : (sharesOf b L)[i] = x at hv
    have hv' : v = enc3 u x := (Option.some.inj hv).symm
    subst hv'
    have hlen := shares_len (b := b) H.Lle
    have htk : (sharesOf b L).take (i + 1) = (sharesOf b L).take i ++ [x] := by rw [List.take_add_one, List.getElem?_eq_getElem hi, hx]; rfl
    have yes : inShare n x = true → (((sharesOf b L).take i).filter (inShare n)).map (enc3 u) ++ [enc3 u x] = (((sharesOf b L).take (i + 1)).filter (inShare n)).map (enc3 u) := fun h => by
      rw [htk, List.filter_append, List.map_append]; simp [List.filter, h]
    have no : inShare n x = false → (((sharesOf b L).take i).filter (inShare n)).map (enc3 u) = (((sharesOf b L).take (i + 1)).filter (inShare n)).map (enc3 u) := fun h => by
      rw [htk, List.filter_append, List.map_append]; simp [List.filter, h]
    have hfl : ((((sharesOf b L).take i).filter (inShare n)).map (enc3 u)).length < 1000000 := by
      rw [List.length_map]
      have h1 := List.length_filter_le (inShare n) ((sharesOf b L).take i)
      have h2 : ((sharesOf b L).take i).length ≤ (sharesOf b L).length := by simp; lia
      lia
    repeat (walk_at "AW")
    refine (?_ : WT X' _ _ _)
    repeat (walk_at "AW")
    refine sub_tup (i := 0) rfl ?_
    repeat (walk_at "AW")
    refine ⟨fun ht => ?_, fun ht => ?_⟩
    · have ht' : ¬ x.1 ≤ n := by have := of_decide_eq_false ht; lia
      have hno : inShare n x = false := by simp [inShare, ht']
      refine ⟨fun e => (by cases e), fun _ => ⟨some (enc3 u x), ?_⟩⟩
      rw [no hno]
    · have ht' : x.1 ≤ n := by have := of_decide_eq_true ht; lia
      repeat (walk_at "AW")
      refine sub_tup (i := 1) rfl ?_
      repeat (walk_at "AW")
      refine ⟨fun e => emitk ?_, fun e => ⟨some (enc3 u x), ?_⟩⟩
      · have hlt : n < x.2.1 := by have := of_decide_eq_true e; lia
        have hyes : inShare n x = true := by simp [inShare, ht', hlt]
        repeat (walk_at "AW")
        refine ⟨rfl, _, stE, hfl, some (enc3 u x), ?_⟩
        rw [sxE, yes hyes]
      · have hlt : ¬ n < x.2.1 := by have := of_decide_eq_false e; lia
        have hno : inShare n x = false := by simp [inShare, hlt]
        rw [no hno]
  rintro σ ⟨o, rfl⟩
  rw [List.length_map, List.take_length]
  obtain ⟨x0, hx0, hx1, hx2⟩ := shares_has H.blen hnR
  obtain ⟨x, rest, hfil⟩ : ∃ x rest, (sharesOf b L).filter (inShare n) = x :: rest := by
    cases h : (sharesOf b L).filter (inShare n) with
    | nil =>
      have : x0 ∈ (sharesOf b L).filter (inShare n) := List.mem_filter.mpr ⟨hx0, by simp [inShare, hx1, hx2]⟩
      rw [h] at this; cases this
    | cons a r => exact ⟨a, r, rfl⟩
  have hxm : x ∈ (sharesOf b L).filter (inShare n) := by rw [hfil]; exact List.mem_cons_self
  obtain ⟨hxs, hxc⟩ := List.mem_filter.mp hxm
  simp only [inShare, Bool.and_eq_true, decide_eq_true_eq] at hxc
  obtain ⟨w1, w2, w3, w4⟩ := shares_in H.blen x hxs
  rw [hfil, List.map_cons]
  repeat (walk_at "AW")
  refine sub_list (v := enc3 u x) stE (by decide) rfl ?_
  refine wa_three hN (by walk_at "SX") (by walk_at "SX") (by walk_at "SX") ?_
  repeat (walk_at "AW")
  have W : WordOk u b L x.2.2 := ⟨H.uok, H.balls, H.blen, H.bpos, H.ble, H.Lle, w1, w2⟩
  obtain ⟨_, _, F1, _⟩ := C.spelled
  refine we_call hG (by walk_at "GX") F1.is (by lia : 1 ≤ X.k) ?_
  repeat (walk_at "AW")
  refine spec_spelled C (by rw [List.length_map]; have := H.Lle; lia) (fun d hd => codes_ascii d (W.codes d hd)) hwh ?_
  dsimp only
  repeat (walk_at "AW")
  refine bk_mod (by decide) ?_
  obtain ⟨j, hj, hj4⟩ := fmod_range (z := z) (n := 4) (by decide)
  have hj' : z.fmod 4 = (j : Int) := hj
  rw [hj', ofs_marks.1]
  have hjm : j < marks.length := hj4
  refine sub_str (by rw [T_len]; lia) (by rw [T_len]; lia) (by rw [T_len]; decide) ?_
  rw [item_T (c := marks[j]) _ (List.getElem?_eq_getElem hjm)]
  have hm : marks[j] ∈ marks := List.getElem_mem hjm
  generalize marks[j] = m at hm
  repeat (walk_at "AW")
  refine ⟨by decide, rfl, ?_⟩
  repeat (walk_at "AW")
  refine bk_mod (by decide) ?_
  obtain ⟨i, hi, hi3⟩ := fmod_range (z := z) (n := 3) (by decide)
  have hi' : z.fmod 3 = (i : Int) := hi
  rw [hi', ofs_marks.2.1, ofs_marks.2.2.1, ofs_marks.2.2.2]
  have hit : i < tails.length := hi3
  refine sub_list (v := .av (.str (T tails[i]))) stE ⟨Int.natCast_nonneg _, by lia⟩ (tails_get hit) ?_
  have htl : tails[i] ∈ tails := List.getElem_mem hit
  generalize tails[i] = tl at htl
  repeat (walk_at "AW")
  refine wx_for ?_
  repeat (walk_at "AW")
  refine ⟨by simp, rfl, ?_⟩
  repeat (walk_at "AW")
  refine ⟨_, _, rfl, stE, ?_⟩
  generalize hTT : S ++ [enc3 u x :: rest.map (enc3 u)] ++ [[PV.av (.str (T [])), PV.av (.str (T [32, 105, 115, 32, 100, 114, 97, 119, 110])), PV.av (.str (T [44, 32, 34, 115, 111, 34, 32, 105, 116, 32, 105, 115]))]] = T0
  have hT0 : T0[ku]? = some (encU u) := by rw [← hTT]; exact sold (sold hS)
  refine loop_inv (fun i σ => ∃ G q0 q1 q2 q3, σ = ⟨[o0, o1, some (.lst ku), o3, some (.av (.int ((L : Nat) : Int))), some (.av (.int ((wh : Nat) : Int))), o6, o7, some (.av (.int ((rise b.sum L : Nat) : Int))), o9, o10, some (.av (.str (T (x.2.2.map (codeAt u))))), some (.lst ks), o13, o14, some (.av (.int (z))), some (.av (.int ((n : Nat) : Int))), some (.av (.int ((x.1 : Nat) : Int))), some (.av (.int ((x.2.1 : Nat) : Int))), some (.av (.str (T (spell wh (x.2.2.map (codeAt u)))))), some (.av (.str (T [m]))), some (.av (.str (T tl))), q0, q1, q2, q3], T0 ++ [[.av (.int (n : Nat)), .av (.int ((x.1 : Nat) : Int)), .av (.int (((x.2.1 : Nat) : Int) - 1))]] ++ G⟩) ⟨[], _, _, _, _, by rw [List.append_nil]⟩ (by rintro i σ ⟨G, _, _, _, _, rfl⟩; exact sold stE) ?_ ?_
  · rintro i v σ hv ⟨G, q0, q1, q2, q3, rfl⟩
    obtain ⟨a, rfl, ha1, ha2⟩ : ∃ a : Nat, v = .av (.int (a : Nat)) ∧ st b 1 x.2.2 ≤ a ∧ a < st b 1 x.2.2 + sz b 1 x.2.2 := by
      rcases three hv with rfl | rfl | rfl
      · exact ⟨n, rfl, by lia, by lia⟩
      · exact ⟨x.1, rfl, by lia, by lia⟩
      · exact ⟨x.2.1 - 1, congrArg (fun k => PV.av (.int k)) (by lia), by lia, by lia⟩
    walk_at "AW"
    refine law_asked C hk hN hG W hm htl hwh ha1 ha2 (sold (sold hT0)) fun G' p1 p2 p3 => ?_
    repeat (walk_at "AW")
    exact ⟨G ++ G', _, _, _, _, by rw [← List.append_assoc]⟩
  · rintro σ ⟨G, q0, q1, q2, q3, rfl⟩
    repeat (walk_at "AW")
    rw [← hTT, List.append_assoc, List.append_assoc, List.append_assoc]
    exact hK _ _ _ _ _ _ _ _ _ _ _ _
end
/-! UrnMain -/
section
open PySem PyProof.Rows
variable {B : Base}



theorem secondk {X : Scene B} {elt t₂ i₂ : Expr} {ifs₂ : List Expr} {k : Nat} {σ : AS} {K : AS → Prop} (h : WE X i₂ σ fun v σ₁ => ∃ j all, v = .lst j ∧ σ₁.S[j]? = some all ∧ TurnsK X t₂ ifs₂ (EmitK X elt k) (fun S => S[j]? = some all) K all σ₁) : SecondK X elt t₂ i₂ ifs₂ k σ K := h
noncomputable abbrev encW (u : List (Str × Int)) (ws : List (List Nat)) : List PV := ws.map fun w => PV.av (.str (T (w.map (codeAt u))))
theorem balls_at {u : List (Str × Int)} {b : List Nat} (hb : BallsOf u b) {p : Nat} (hu : p < u.length) : u[p].2 = ((at0 b p : Nat) : Int) := by
  have hl := hb.len
  have h := congrArg (·[p]?) hb.eq
  have hbp : p < b.length := by lia
  simp only [List.getElem?_map, List.getElem?_eq_getElem hu, List.getElem?_eq_getElem hbp, Option.map_some, Option.some.injEq] at h
  rw [h]; simp [at0, List.getD_eq_getElem?_getD, hbp]
theorem sign_at {u : List (Str × Int)} {p : Nat} (hu : p < u.length) : u[p].1 = signAt u p := by simp [signAt, List.getD_eq_getElem?_getD, hu]
/-- the values of names that a loop leaves open, by number -/
noncomputable abbrev ofL (l : List (Option PV)) (i : Nat) : Option PV := l.getD i none
set_option maxHeartbeats 4000000 in
theorem law_zs (C : Ctx B) {X : Scene B} (hk : 3 ≤ X.k) {c1 c2 : Addr} (hN : X.fr.N = lawN c1 c2) (hG : X.fr.G = lawG) {u : List (Str × Int)} {b : List Nat} {L wh k0 ku ks : Nat} {zs : List Int} (H : BallOk u b L) (hwh : wh < 3)
    {S : List (List PV)} (hS0 : S[k0]? = some (nums zs)) (hS : S[ku]? = some (encU u)) (hS2 : S[ks]? = some ((sharesOf b L).map (enc3 u))) {K : Fl → AS → Prop} {o0 o3 o6 o7 o9 o10 o11 o13 o14 o15 o16 o17 o18 o19 o20 o21 o22 o23 o24 o25 : Option PV}
    (hK : ∀ σ, K (.ret (.av (.bool true))) σ) : WS X (lawBody.drop 11) ⟨[o0, some (.lst k0), some (.lst ku), o3, some (.av (.int ((L : Nat) : Int))), some (.av (.int ((wh : Nat) : Int))), o6, o7, some (.av (.int ((rise b.sum L : Nat) : Int))), o9, o10, o11, some (.lst ks), o13, o14, o15, o16, o17, o18, o19, o20, o21, o22, o23, o24, o25], S⟩ K := by
  refine ws_cons ?_
  refine wx_for ?_
  repeat (walk_at "AW")
  refine ⟨k0, nums zs, rfl, hS0, ?_⟩
  refine loop_inv (fun i σ => ∃ (G : List (List PV)) (p : Nat → Option PV), σ = ⟨[o0, some (.lst k0), some (.lst ku), o3, some (.av (.int ((L : Nat) : Int))), some (.av (.int ((wh : Nat) : Int))), o6, o7, some (.av (.int ((rise b.sum L : Nat) : Int))), o9, o10, p 3, some (.lst ks), o13, o14, p 11, p 0, p 1, p 2, p 4, p 5, p 6, p 7, p 8, p 9, p 10], S ++ G⟩) ⟨[], ofL [o16, o17, o18, o11, o19, o20, o21, o22, o23, o24, o25, o15], by rw [List.append_nil]; rfl⟩ (fun i σ h => by obtain ⟨G, p, rfl⟩ := h; exact sold hS0) ?_ ?_
  · rintro i v σ hv ⟨G, p, rfl⟩
    have hi : i < zs.length := by have := (List.getElem?_eq_some_iff.mp hv).1; simpa using this
    rw [List.getElem?_map, List.getElem?_eq_getElem hi] at hv
    have hv' : v = .av (.int zs[i]) := (Option.some.inj hv).symm
    subst hv'
    walk_at "AW"
    refine law_z C hk hN hG H hwh (sold hS) (sold hS2) fun G' r0 r1 r2 r3 r4 r5 r6 r7 r8 r9 r10 => ?_
    exact ⟨G ++ G', ofL [r0, r1, r2, r3, r4, r5, r6, r7, r8, r9, r10, some (.av (.int zs[i]))], by rw [← List.append_assoc]; rfl⟩
  · rintro σ ⟨G, p, rfl⟩
    repeat (walk_at "AW")
    exact hK _
noncomputable def pp (b w : List Nat) : Nat → Nat
  | 0 => 1
  | j + 1 => pp b w j * rise (at0 b j) (w.count j)
theorem pp_eq {b : List Nat} (w : List Nat) (hb : b.length = 3) : pp b w 3 = prodR b 0 w := by
  obtain ⟨b0, b1, b2, rfl⟩ := of_three hb
  simp [pp, prodR, at0, Nat.mul_assoc]
set_option maxHeartbeats 4000000 in
theorem law_shares (C : Ctx B) {X : Scene B} (hk : 3 ≤ X.k) {c1 c2 : Addr} (hN : X.fr.N = lawN c1 c2) (hG : X.fr.G = lawG) {u : List (Str × Int)} {b : List Nat} {L kk kw : Nat} (H : BallOk u b L)
    {S : List (List PV)} (hS : S[kk]? = some (encU u)) (hW : S[kw]? = some (encW u (wordsOn 3 L))) {K : Fl → AS → Prop} {o0 o1 o2 o4 o5 o6 o7 o8 o10 o11 o14 o15 o16 o17 o18 o19 o20 o21 o22 o23 o24 o25 : Option PV}
    (hK : ∀ p0 p1 p2 p3 p4, K .next ⟨[o0, o1, o2, some (.lst kk), o4, o5, p1, p2, o8, some (.lst kw), o10, p0, some (.lst S.length), p4, p3, o15, o16, o17, o18, o19, o20, o21, o22, o23, o24, o25], S ++ [(sharesOf b L).map (enc3 u)]⟩) : WX X (stmtAt lawBody 10) ⟨[o0, o1, o2, some (.lst kk), o4, o5, o6, o7, o8, some (.lst kw), o10, o11, some (.lst S.length), some (.av (.int (0))), o14, o15, o16, o17, o18, o19, o20, o21, o22, o23, o24, o25], S ++ [[]]⟩ K := by
  refine wx_for ?_
  repeat (walk_at "AW")
  refine ⟨kw, _, rfl, sold hW, ?_⟩
  refine loop_inv (fun i σ => ∃ p0 p1 p2 p3, σ = ⟨[o0, o1, o2, some (.lst kk), o4, o5, p1, p2, o8, some (.lst kw), o10, p0, some (.lst S.length), some (.av (.int (((((wordsOn 3 L).take i).map (prodR b 0)).sum : Nat) : Int))), p3, o15, o16, o17, o18, o19, o20, o21, o22, o23, o24, o25], S ++ [(cum (prodR b 0) 0 ((wordsOn 3 L).take i)).map (enc3 u)]⟩) ⟨o11, o6, o7, o14, by simp [cum]⟩ (by rintro i σ ⟨_, _, _, _, rfl⟩; exact sold hW) ?_ ?_
  · rintro i v σ hv ⟨p0, p1, p2, p3, rfl⟩
    have hi : i < (wordsOn 3 L).length := by have := (List.getElem?_eq_some_iff.mp hv).1; simpa using this
    rw [List.getElem?_map, List.getElem?_eq_getElem hi] at hv
    generalize hw : (wordsOn 3 L)[i] = w at hv
    have hwm : w ∈ wordsFr 3 L := by rw [← words_eq, ← hw]; exact List.getElem_mem hi
    obtain ⟨hwl, hwp⟩ := words_mem 3 L w hwm
    have hv' : v = .av (.str (T (w.map (codeAt u)))) := (Option.some.inj hv).symm
    subst hv'
    have hlen : ((cum (prodR b 0) 0 ((wordsOn 3 L).take i)).map (enc3 u)).length < 1000000 := by
      rw [List.length_map, cum_len, List.length_take]
      have h1 := shares_len (b := b) H.Lle
      unfold sharesOf at h1
      rw [cum_len] at h1
      lia
    repeat (walk_at "AW")
    refine wx_for ?_
    repeat (walk_at "AW")
    refine ⟨kk, _, rfl, sold hS, ?_⟩
    refine loop_inv (fun j σ => ∃ q1 q2, σ = ⟨[o0, o1, o2, some (.lst kk), o4, o5, q1, q2, o8, some (.lst kw), o10, some (.av (.str (T (w.map (codeAt u))))), some (.lst S.length), some (.av (.int (((((wordsOn 3 L).take i).map (prodR b 0)).sum : Nat) : Int))), some (.av (.int ((pp b w j : Nat) : Int))), o15, o16, o17, o18, o19, o20, o21, o22, o23, o24, o25], S ++ [(cum (prodR b 0) 0 ((wordsOn 3 L).take i)).map (enc3 u)]⟩) ⟨_, _, rfl⟩ (by rintro i σ ⟨_, _, rfl⟩; exact sold hS) ?_ ?_
    · rintro j v σ hv ⟨q1, q2, rfl⟩
      have hj : j < u.length := by have := (List.getElem?_eq_some_iff.mp hv).1; simpa using this
      have hj3 : j < 3 := by rw [← H.uok.len]; exact hj
      rw [getU hj] at hv
      have hv' : v = .tup [.str (T [codeAt u j]), .int ((at0 b j : Nat) : Int)] := by
        rw [← (sign_code H.uok hj3).1, ← sign_at hj, ← balls_at H.balls hj]; exact (Option.some.inj hv).symm
      subst hv'
      have hbj : at0 b j ≤ 9 := by
        have h3 := take_succ_sum b j
        have h4 := take_le_all b (j + 1)
        have := H.ble
        lia
      have hcj : w.count j ≤ 4 := by
        have := List.count_le_length (a := j) (l := w)
        have := H.Lle
        lia
      have hr := rise_lt hbj hcj
      refine wa_two hN (by walk_at "SX") (by walk_at "SX") ?_
      repeat (walk_at "AW")
      obtain ⟨_, _, F1, _⟩ := C.rise
      refine we_call hG (by walk_at "GX") F1.is (by lia : 1 ≤ X.k) ?_
      repeat (walk_at "AW")
      refine we_meth PySem.F.plainAttrs_str PySem.F.slot_str_count PySem.F.type_str_count ?_
      repeat (walk_at "AW")
      refine ⟨.str _, ?_⟩
      repeat (walk_at "AW")
      refine bc_count ?_
      rw [count_T, code_count H.uok hj3 hwp]
      repeat (walk_at "AW")
      refine spec_rise C (by lia) (by lia) ?_
      dsimp only
      refine bk_mul ⟨by lia, by lia⟩ ?_
      repeat (walk_at "AW")
      exact ⟨_, _, by simp only [pp, Int.natCast_mul]; rfl⟩
    · rintro σ ⟨q1, q2, rfl⟩
      have e : (encU u).length = 3 := by simp [H.uok.len]
      rw [e, pp_eq w H.blen]
      repeat (walk_at "AW")
      refine we_meth PySem.F.plainAttrs_list PySem.F.slot_list_append PySem.F.type_list_append ?_
      repeat (walk_at "AW")
      refine ⟨.lst _, ?_⟩
      repeat (walk_at "AW")
      refine ⟨by simp, _, rfl, ?_⟩
      repeat (walk_at "AW")
      refine bc_append stE hlen rfl ?_
      rw [sxE]
      refine ⟨rfl, ?_⟩
      repeat (walk_at "AW")
      have htk : (wordsOn 3 L).take (i + 1) = (wordsOn 3 L).take i ++ [w] := by rw [List.take_add_one, List.getElem?_eq_getElem hi, hw]; rfl
      refine ⟨some (.av (.str (T (w.map (codeAt u))))), q1, q2, some (.av (.int ((prodR b 0 w : Nat) : Int))), ?_⟩
      rw [htk, cum_app, List.map_append, List.map_append, List.sum_append]
      simp [cum]
  · rintro σ ⟨p0, p1, p2, p3, rfl⟩
    rw [List.length_map, List.take_length]
    repeat (walk_at "AW")
    exact hK _ _ _ _ _
set_option maxHeartbeats 4000000 in
theorem law_words (C : Ctx B) {X : Scene B} {c1 c2 : Addr} (hN : X.fr.N = lawN c1 c2) (hG : X.fr.G = lawG) {u : List (Str × Int)} {L kk kw : Nat} (H : UrnOk u) (hL : L ≤ 4)
    {S : List (List PV)} (hS : S[kk]? = some (encU u)) (hW : S[kw]? = some (encW u (wordsOn 3 0))) {K : Fl → AS → Prop} {o0 o1 o2 o5 o6 o7 o8 o10 o11 o12 o13 o14 o15 o16 o17 o18 o19 o20 o21 o22 o23 o24 o25 : Option PV}
    (hK : ∀ G j p0, (S ++ G)[j]? = some (encW u (wordsOn 3 L)) → K .next ⟨[o0, o1, o2, some (.lst kk), some (.av (.int ((L : Nat) : Int))), o5, o6, o7, o8, some (.lst j), p0, o11, o12, o13, o14, o15, o16, o17, o18, o19, o20, o21, o22, o23, o24, o25], S ++ G⟩) : WX X (stmtAt lawBody 7) ⟨[o0, o1, o2, some (.lst kk), some (.av (.int ((L : Nat) : Int))), o5, o6, o7, o8, some (.lst kw), o10, o11, o12, o13, o14, o15, o16, o17, o18, o19, o20, o21, o22, o23, o24, o25], S⟩ K := by
  refine wx_for_range hG (by walk_at "GX") C.range ?_
  repeat (walk_at "AW")
  refine ⟨L, rfl, by lia, ?_⟩
  refine loop_inv (fun i σ => ∃ G j p0, σ = ⟨[o0, o1, o2, some (.lst kk), some (.av (.int ((L : Nat) : Int))), o5, o6, o7, o8, some (.lst j), p0, o11, o12, o13, o14, o15, o16, o17, o18, o19, o20, o21, o22, o23, o24, o25], S ++ G⟩ ∧ (S ++ G)[j]? = some (encW u (wordsOn 3 i))) ⟨[], kw, _, by rw [List.append_nil], by rw [List.append_nil]; exact hW⟩ (fun _ _ _ => trivial) ?_ ?_
  · rintro t v σ hv ⟨G, j, p0, rfl, hj⟩
    have ht : t < L := by simpa using (List.getElem?_eq_some_iff.mp hv).1
    walk_at "AW"
    refine ws_cons ?_
    refine wx_assign_comp2 ["word", "sign", "many"] ["kinds"] (by decide +kernel) hN (by intro x hx; rw [List.mem_singleton.mp hx]; exact ⟨c1, by simp⟩) (by walk_at "GX") (by decide +kernel) ?_
    refine src_list ?_
    repeat (walk_at "AW")
    generalize hTT : S ++ G = TT at hj ⊢
    have hT : TT[kk]? = some (encU u) := by rw [← hTT]; exact sold hS
    refine ⟨j, _, rfl, hj, [.lst kk], .cons (by walk_at "CX") .nil, fun X' hk' hN' hG' => ?_⟩
    simp only [dictN, freeN, List.map_cons, List.map_nil, List.cons_append, List.nil_append] at hN' ⊢
    refine turns_inv second_mono (fun i σ => ∃ o1 o2 o3, σ = ⟨[o1, o2, o3, some (.lst kk)], TT ++ [encW u (((wordsOn 3 t).take i).flatMap fun w => (List.range 3).map fun p => w ++ [p])]⟩) ⟨none, none, none, by simp⟩ (by rintro i σ ⟨_, _, _, rfl⟩; exact sold hj) ?_ ?_
    · rintro i v σ hv ⟨o1, o2, o3, rfl⟩
      have hi : i < (wordsOn 3 t).length := by have := (List.getElem?_eq_some_iff.mp hv).1; simpa using this
      rw [List.getElem?_map, List.getElem?_eq_getElem hi] at hv
      generalize hw : (wordsOn 3 t)[i] = w at hv
      have hwm : w ∈ wordsFr 3 t := by rw [← words_eq, ← hw]; exact List.getElem_mem hi
      obtain ⟨hwl, hwp⟩ := words_mem 3 t w hwm
      have hv' : v = .av (.str (T (w.map (codeAt u)))) := (Option.some.inj hv).symm
      subst hv'
      have htk : (wordsOn 3 t).take (i + 1) = (wordsOn 3 t).take i ++ [w] := by rw [List.take_add_one, List.getElem?_eq_getElem hi, hw]; rfl
      have hcnt : (((wordsOn 3 t).take i).flatMap fun w => (List.range 3).map fun p => w ++ [p]).length ≤ 243 := by
        rw [List.length_flatMap]
        simp only [List.length_map, List.length_range]
        rw [sum_const, List.length_take, words_eq, words_count]
        have : 3 ^ t ≤ 3 ^ 4 := Nat.pow_le_pow_right (by decide) (by lia)
        lia
      walk_at "AW"
      refine ⟨fun _ => secondk ?_, fun e => (by cases e)⟩
      repeat (walk_at "AW")
      refine ⟨kk, _, rfl, sold hT, ?_⟩
      refine turns_inv emit_mono (fun q σ => ∃ o2 o3, σ = ⟨[some (.av (.str (T (w.map (codeAt u))))), o2, o3, some (.lst kk)], TT ++ [encW u ((((wordsOn 3 t).take i).flatMap fun w => (List.range 3).map fun p => w ++ [p]) ++ (List.range q).map fun p => w ++ [p])]⟩) ⟨o2, o3, by simp⟩ (by rintro i σ ⟨_, _, rfl⟩; exact sold hT) ?_ ?_
      · rintro q v σ hv ⟨o2, o3, rfl⟩
        have hq : q < u.length := by have := (List.getElem?_eq_some_iff.mp hv).1; simpa using this
        have hq3 : q < 3 := by rw [← H.len]; exact hq
        rw [getU hq] at hv
        have hv' : v = .tup [.str (T [codeAt u q]), .int u[q].2] := by
          rw [← (sign_code H hq3).1, ← sign_at hq]; exact (Option.some.inj hv).symm
        subst hv'
        refine wa_two hN' (by walk_at "SX") (by walk_at "SX") ?_
        refine ⟨fun _ => emitk ?_, fun e => (by cases e)⟩
        repeat (walk_at "AW")
        refine bk_adds (by rw [T_len, T_len]; simp; lia) ?_
        rw [T_add]
        refine ⟨rfl, _, stE, by simp only [List.length_map, List.length_append, List.length_range]; lia, some (.av (.str (T [codeAt u q]))), some (.av (.int u[q].2)), ?_⟩
        rw [sxE]
        have e : encW u ((((wordsOn 3 t).take i).flatMap fun w => (List.range 3).map fun p => w ++ [p]) ++ (List.range q).map fun p => w ++ [p]) ++ [PV.av (.str (T (w.map (codeAt u) ++ [codeAt u q])))] = encW u ((((wordsOn 3 t).take i).flatMap fun w => (List.range 3).map fun p => w ++ [p]) ++ (List.range (q + 1)).map fun p => w ++ [p]) := by
          simp [encW, List.range_succ]
        rw [e]
      · rintro σ ⟨o2, o3, rfl⟩
        have e : (encU u).length = 3 := by simp [H.len]
        rw [e]
        refine ⟨some (.av (.str (T (w.map (codeAt u))))), o2, o3, ?_⟩
        rw [htk, List.flatMap_append]
        simp
    · rintro σ ⟨o1, o2, o3, rfl⟩
      rw [List.length_map, List.take_length]
      repeat (walk_at "AW")
      rw [← hTT, List.append_assoc]
      refine ⟨G ++ [encW u (wordsOn 3 (t + 1))], (S ++ G).length, _, rfl, ?_⟩
      rw [← List.append_assoc]
      exact stE
  · rintro σ ⟨G, j, p0, rfl, hj⟩
    have e : (intsTo L).length = L := by simp
    rw [e] at hj
    exact hK _ _ _ hj
end
/-! UrnFront -/
section
open PySem PyProof.Rows
variable {B : Base}



theorem pair_at {as bs : List At} {i : Nat} {v : PV} (h : (pairs as bs)[i]? = some v) : ∃ a b, as[i]? = some a ∧ bs[i]? = some b ∧ v = .tup [a, b] := by
  rw [List.getElem?_map] at h
  cases e : (as.zip bs)[i]? with
  | none => rw [e] at h; cases h
  | some p =>
    rw [e] at h
    obtain ⟨a, b⟩ := p
    obtain ⟨h1, h2⟩ := List.getElem?_zip_eq_some.mp e
    exact ⟨a, b, h1, h2, (Option.some.inj h).symm⟩
theorem int_at {ns : List Int} {i : Nat} {a : At} (h : (ns.map At.int)[i]? = some a) : ∃ n, a = .int n := by
  rw [List.getElem?_map] at h
  cases e : ns[i]? with
  | none => rw [e] at h; cases h
  | some n => rw [e] at h; exact ⟨n, (Option.some.inj h).symm⟩
set_option maxHeartbeats 4000000 in
theorem law_sums (C : Ctx B) {X : Scene B} {c1 c2 : Addr} (hN : X.fr.N = lawN c1 c2) (hG : X.fr.G = lawG) {ns : List Int} (hns : ns.length < 1000) {K : Fl → AS → Prop}
    (hK : ∀ S k0 zs, zs.length = 3 → S[k0]? = some (nums zs) → K .next ⟨[some (.fls ns), some (.lst k0), none, none, none, none, none, none, none, none, none, none, none, none, none, none, none, none, none, none, none, none, none, none, none, none], S⟩) : WX X (stmtAt lawBody 0) ⟨[some (.fls ns), none, none, none, none, none, none, none, none, none, none, none, none, none, none, none, none, none, none, none, none, none, none, none, none, none], []⟩ K := by
  refine wx_assign_comp1 ["start", "x"] [] (by decide +kernel) hN (by intro x hx; cases hx) (by walk_at "GX") (by decide +kernel) ?_
  refine src_zip hG (by walk_at "GX") C.zip ?_
  refine wl_cons ?_ (by intro _; rfl)
  refine we_list ?_
  repeat (walk_at "AW")
  refine ⟨by simp, rfl, ?_⟩
  refine wl_cons ?_ (by intro _; rfl)
  refine we_binop ?_
  refine we_slice_fls (ns := ns) (k := 3) (by lia) ?_
  refine we_name hN (by walk_at "IX") ?_
  refine ⟨rfl, ?_⟩
  refine we_list ?_
  repeat (walk_at "AW")
  refine ⟨by simp, rfl, ?_⟩
  have ez : (([] ++ [[PV.av (.int 563), .av (.int 1466), .av (.int 2403)]] ++ [nums (ns.take 3)] ++ [[PV.av (.int 0), .av (.int 0), .av (.int 0)]] : List (List PV))) = [[PV.av (.int 563), .av (.int 1466), .av (.int 2403)], nums (ns.take 3), [PV.av (.int 0), .av (.int 0), .av (.int 0)]] := rfl
  dsimp only
  rw [ez]
  refine bk_addl (xs := nums (ns.take 3)) (ys := [PV.av (.int 0), .av (.int 0), .av (.int 0)]) rfl rfl (by simp; lia) ?_
  repeat (walk_at "AW")
  have e0 : [PV.av (.int 563), .av (.int 1466), .av (.int 2403)] = ats ([563, 1466, 2403].map At.int) := rfl
  have e1 : nums (ns.take 3) ++ [PV.av (.int 0), .av (.int 0), .av (.int 0)] = ats ((ns.take 3 ++ [0, 0, 0]).map At.int) := by simp [Function.comp_def]
  refine ⟨0, 3, [563, 1466, 2403].map At.int, (ns.take 3 ++ [0, 0, 0]).map At.int, rfl, rfl, by rw [← e1]; rfl, ?_⟩
  generalize hTT : ([[PV.av (.int 563), .av (.int 1466), .av (.int 2403)], nums (ns.take 3), [PV.av (.int 0), .av (.int 0), .av (.int 0)]] ++ [nums (ns.take 3) ++ [PV.av (.int 0), .av (.int 0), .av (.int 0)]] : List (List PV)) = TT
  have h0 : TT[0]? = some (ats ([563, 1466, 2403].map At.int)) := by rw [← hTT]; rfl
  have h3 : TT[3]? = some (ats ((ns.take 3 ++ [0, 0, 0]).map At.int)) := by rw [← hTT, ← e1]; rfl
  refine ⟨[], .nil, fun X' hk' hN' hG' => ?_⟩
  simp only [dictN, freeN, List.map_cons, List.map_nil, List.cons_append, List.nil_append] at hN' ⊢
  refine turns_inv emit_mono (fun i σ => ∃ o1 o2 zs, σ = ⟨[o1, o2], TT ++ [nums zs]⟩ ∧ zs.length = i ∧ i ≤ 3) ⟨none, none, [], rfl, rfl, by decide⟩ (by rintro i σ ⟨_, _, _, rfl, _⟩; exact ⟨sold h0, sold h3⟩) ?_ ?_
  · rintro i v σ hv ⟨o1, o2, zs, rfl, hz, hi3⟩
    obtain ⟨a, b, ha, hb, rfl⟩ := pair_at hv
    have hi : i < 3 := by simpa using (List.getElem?_eq_some_iff.mp ha).1
    obtain ⟨m, rfl⟩ := int_at (ns := [563, 1466, 2403]) ha
    obtain ⟨n, rfl⟩ := int_at hb
    refine wa_two hN' (by walk_at "SX") (by walk_at "SX") ?_
    refine ⟨fun _ => emitk ?_, fun e => (by cases e)⟩
    repeat (walk_at "AW")
    refine ⟨rfl, _, stE, by simp; lia, some (.av (.int m)), some (.av (.int n)), zs ++ [m + n], ?_, by simp [hz], by lia⟩
    rw [sxE]
    simp
  · rintro σ ⟨o1, o2, zs, rfl, hz, hi3⟩
    have e : (pairs [At.int 563, At.int 1466, At.int 2403] ((ns.take 3 ++ [0, 0, 0]).map At.int)).length = 3 := by simp
    rw [e] at hz
    repeat (walk_at "AW")
    exact hK _ _ zs hz stE
theorem slt_ne {x y : Str} (h : slt x y) : x ≠ y ∧ ¬ y.cps.toList < x.cps.toList := ⟨fun e => slt_irrefl (e ▸ h), fun h' => slt_irrefl (slt_trans h h')⟩
theorem rise_get (k : Nat) (hk : k < 3) : ∃ L, L ≤ 4 ∧ ([3, 4, 2] : List Int)[k]? = some ((L : Nat) : Int) := by
  rcases lt3 hk with rfl | rfl | rfl
  · exact ⟨3, by decide, rfl⟩
  · exact ⟨4, by decide, rfl⟩
  · exact ⟨2, by decide, rfl⟩
theorem fmod3 (n : Int) : ∃ k : Nat, k < 3 ∧ n.fmod 3 = (k : Int) := by
  rw [Int.fmod_eq_emod_of_nonneg _ (by decide)]
  exact ⟨(n % 3).toNat, by lia, by lia⟩
set_option maxHeartbeats 8000000 in
theorem law_rest (C : Ctx B) {X : Scene B} (hk : 3 ≤ X.k) {c1 c2 : Addr} (hN : X.fr.N = lawN c1 c2) (hG : X.fr.G = lawG) {ns zs : List Int} {k0 : Nat} (hz : zs.length = 3) {S : List (List PV)} (hS : S[k0]? = some (nums zs)) {K : Fl → AS → Prop}
    (hK : ∀ σ, K (.ret (.av (.bool true))) σ) : WS X (lawBody.drop 1) ⟨[some (.fls ns), some (.lst k0), none, none, none, none, none, none, none, none, none, none, none, none, none, none, none, none, none, none, none, none, none, none, none, none], S⟩ K := by
  refine ws_cons ?_
  repeat (walk_at "AW")
  refine we_call hG (by walk_at "GX") (by obtain ⟨_, _, F, _⟩ := C.urn; exact F.is) (by lia : 3 ≤ X.k) ?_
  repeat (walk_at "AW")
  refine spec_urn C hS hz fun u hu => ?_
  dsimp only
  repeat (walk_at "AW")
  obtain ⟨b, hb, hbl, hb1, hb9⟩ := urn_balls hu
  refine we_bcall (f := .builtin "sorted") hG (by walk_at "GX") C.sorted ((C.bok.mb _ (by decide)).trans boot_sorted) (.builtin _) ?_
  repeat (walk_at "AW")
  have hso : ∀ (K : PV → AS → Prop) vs, K (.lst (S ++ [encU u]).length) ⟨vs, S ++ [encU u] ++ [encU u]⟩ → BC X (.builtin "sorted") [.lst S.length] ⟨vs, S ++ [encU u]⟩ K := by
    intro K vs h
    obtain ⟨h1, h2, _⟩ := hu
    obtain ⟨e0, e1, e2, rfl⟩ := of_three h1
    · have a := List.pairwise_cons.mp h2
      have c := List.pairwise_cons.mp a.2
      have l01 := a.1 e1 (by simp)
      have l12 := c.1 e2 (by simp)
      exact bc_sorted3 stE (slt_ne l01) (slt_ne l12) h
  refine hso _ _ ?_
  repeat (walk_at "AW")
  generalize hTT : S ++ [encU u] ++ [encU u] = TT
  have hku : TT[S.length]? = some (encU u) := by rw [← hTT]; exact sold stE
  have hkk : TT[(S ++ [encU u]).length]? = some (encU u) := by rw [← hTT]; exact stE
  have hk0 : TT[k0]? = some (nums zs) := by rw [← hTT]; exact sold (sold hS)
  generalize (S ++ [encU u]).length = kk at hkk
  generalize S.length = ku at hku
  refine ⟨by simp, rfl, ?_⟩
  repeat (walk_at "AW")
  refine we_bcall (f := .builtin "sum") hG (by walk_at "GX") C.sum ((C.bok.mb _ (by decide)).trans boot_sum) (.builtin _) ?_
  repeat (walk_at "AW")
  refine bc_sum_fls ?_
  repeat (walk_at "AW")
  refine bk_mod (by decide) ?_
  obtain ⟨k, hk3, hke⟩ := fmod3 ns.sum
  obtain ⟨L, hL, hLk⟩ := rise_get k hk3
  rw [hke]
  refine sub_list (xs := [PV.av (.int 3), .av (.int 4), .av (.int 2)]) (v := .av (.int ((L : Nat) : Int))) stE ⟨by lia, by lia⟩ ?_ ?_
  · rw [Int.toNat_natCast]
    have e : [PV.av (.int 3), .av (.int 4), .av (.int 2)] = nums [3, 4, 2] := rfl
    rw [e, List.getElem?_map, hLk]; rfl
  repeat (walk_at "AW")
  refine we_bcall (f := .builtin "sum") hG (by walk_at "GX") C.sum ((C.bok.mb _ (by decide)).trans boot_sum) (.builtin _) ?_
  repeat (walk_at "AW")
  refine bc_sum_fls ?_
  repeat (walk_at "AW")
  refine bk_div (by decide) ?_
  repeat (walk_at "AW")
  refine bk_mod (by decide) ?_
  obtain ⟨wh, hwh, hwe⟩ := fmod3 (ns.sum.fdiv 3)
  rw [hwe]
  repeat (walk_at "AW")
  generalize hUU : TT ++ [[PV.av (.int 3), .av (.int 4), .av (.int 2)]] = UU
  replace hku : UU[ku]? = some (encU u) := by rw [← hUU]; exact sold hku
  replace hkk : UU[kk]? = some (encU u) := by rw [← hUU]; exact sold hkk
  replace hk0 : UU[k0]? = some (nums zs) := by rw [← hUU]; exact sold hk0
  clear hUU hTT
  refine we_call hG (by walk_at "GX") (by obtain ⟨_, _, F, _⟩ := C.rise; exact F.is) (by lia : 1 ≤ X.k) ?_
  walk_at "AW"
  refine we_bcall (f := .builtin "sum") hG (by walk_at "GX") C.sum ((C.bok.mb _ (by decide)).trans boot_sum) (.builtin _) ?_
  walk_at "AW"
  refine we_comp1 ["sign", "many"] [] (by decide +kernel) hN (by intro x hx; cases hx) ?_
  refine src_list ?_
  repeat (walk_at "AW")
  refine ⟨kk, encU u, rfl, hkk, [], .nil, fun X' hk' hN' hG' => ?_⟩
  simp only [dictN, freeN, List.map_cons, List.map_nil, List.cons_append, List.nil_append] at hN' ⊢
  refine turns_inv emit_mono (fun i σ => ∃ o1 o2, σ = ⟨[o1, o2], UU ++ [encB (b.take i)]⟩) ⟨none, none, by simp⟩ (by rintro i σ ⟨_, _, rfl⟩; exact sold hkk) ?_ ?_
  · rintro i v σ hv ⟨o1, o2, rfl⟩
    have hi : i < u.length := by have := (List.getElem?_eq_some_iff.mp hv).1; simpa using this
    have hib : i < b.length := by rw [← hb.len]; exact hi
    rw [getU hi] at hv
    cases hv
    have hbi : u[i].2 = (b[i] : Int) := by
      have := congrArg (·[i]?) hb.eq
      simpa [hi, hib] using this
    refine wa_two hN' (by walk_at "SX") (by walk_at "SX") ?_
    refine ⟨fun _ => emitk ?_, fun e => (by cases e)⟩
    repeat (walk_at "AW")
    refine ⟨rfl, _, stE, by simp; lia, some (.av (.str u[i].1)), some (.av (.int u[i].2)), ?_⟩
    rw [sxE, hbi]
    have e : encB (b.take i) ++ [PV.av (.int (b[i] : Int))] = encB (b.take (i + 1)) := by
      simp only [encB, nums, List.map_map]
      exact take_snoc _ hib
    rw [e]
  rintro σ ⟨o1, o2, rfl⟩
  have e0 : (encU u).length = b.length := by rw [← hb.len]; simp
  rw [e0, List.take_length]
  repeat (walk_at "AW")
  refine bc_sum (ns := b.map fun x : Nat => (x : Int)) stE ?_
  rw [sum_cast]
  repeat (walk_at "AW")
  refine spec_rise C (by lia) (by lia) ?_
  dsimp only
  repeat (walk_at "AW")
  refine ⟨by simp, rfl, ?_⟩
  repeat (walk_at "AW")
  have hw0 : (UU ++ [encB b] ++ [[PV.av (.str "")]])[(UU ++ [encB b]).length]? = some (encW u (wordsOn 3 0)) := stE
  generalize hVV : UU ++ [encB b] ++ [[PV.av (.str "")]] = VV at hw0 ⊢
  generalize (UU ++ [encB b]).length = kw at hw0 ⊢
  replace hku : VV[ku]? = some (encU u) := by rw [← hVV]; exact sold (sold hku)
  replace hkk : VV[kk]? = some (encU u) := by rw [← hVV]; exact sold (sold hkk)
  replace hk0 : VV[k0]? = some (nums zs) := by rw [← hVV]; exact sold (sold hk0)
  clear hVV
  refine law_words C hN hG hu hL hkk hw0 fun G j p0 hj => ?_
  replace hku : (VV ++ G)[ku]? = some (encU u) := sold hku
  replace hkk : (VV ++ G)[kk]? = some (encU u) := sold hkk
  replace hk0 : (VV ++ G)[k0]? = some (nums zs) := sold hk0
  generalize VV ++ G = WW at *
  have H : BallOk u b L := ⟨hu, hb, hbl, hb1, hb9, hL⟩
  repeat (walk_at "AW")
  refine ⟨by decide, rfl, ?_⟩
  repeat (walk_at "AW")
  refine law_shares C hk hN hG H hkk hj fun p0 p1 p2 p3 p4 => ?_
  walk_at "AW"
  exact law_zs C hk hN hG H hwh (sold hk0) (sold hku) stE hK
theorem law_all (C : Ctx B) {X : Scene B} (hk : 3 ≤ X.k) {c1 c2 : Addr} (hN : X.fr.N = lawN c1 c2) (hG : X.fr.G = lawG) {ns : List Int} (hns : ns.length < 1000) {K : Fl → AS → Prop}
    (hK : ∀ σ, K (.ret (.av (.bool true))) σ) : WS X lawBody ⟨[some (.fls ns), none, none, none, none, none, none, none, none, none, none, none, none, none, none, none, none, none, none, none, none, none, none, none, none, none], []⟩ K := by
  refine ws_cons (law_sums C hN hG hns fun S k0 zs hz hS => ?_)
  refine then_next ?_
  exact law_rest C hk hN hG hz hS hK
end
/-! UrnTop -/
section
open PySem PyProof.Rows
variable {B : Base}

/-! the call of the law itself: one name in the dict, two cells; a stored name leaves a fresh token behind -/
theorem store_tok {M : Model} {A : Around} {E : Value → Shared → Prop} {s₀ s : Shared} {m cm : Str → Option Value} {env : Env} {n : Str} {v : Value} {Q : Unit → Shared → Prop} (x : InCallC s₀ env.locals m env.cells cm s) (hk : env.scope.kind = .function) (hl : env.kindOf n = some .local)
    (h : ∀ s', InCallC s₀ env.locals (fun y => if y = n then some v else m y) env.cells cm s' → 1 ≤ s'.toks → Q () s') : wpAny M A (storeName env n v) Q E s := by
  obtain ⟨h₁, tk, e⟩ := x.toInCall.same
  refine wpAny_storeName_local hl x.toInCall.ns (fun h' hn' hs' => h _ ⟨⟨⟨h', _, by rw [e]⟩, hn', fun b o eb => ?_, x.toInCall.fresh⟩, fun k c hc => ?_, x.apart, x.above⟩ (Nat.le_add_left 1 _)) (by rw [hk]; rfl)
  · have lt := Nat.lt_of_lt_of_le (Heap.lt_size eb) x.toInCall.fresh
    exact hs'.extBut b o (Nat.ne_of_lt lt) (x.toInCall.keep b o eb)
  · exact (x.cell k c hc).sameBut hs' (Nat.ne_of_gt (x.above k c (by
      have := List.lookup_eq_some_iff.mp hc
      obtain ⟨l₁, l₂, e, _⟩ := this
      rw [e]; simp)))
theorem env_tok {M : Model} {A : Around} {E : Value → Shared → Prop} {s : Shared} {scope : Scope} {globals : Addr} {n : Str} {v : Value} {qual : Str} {func : Option Addr} {code : Value} {builtins : Addr} {Q : Env → Shared → Prop}
    (hk : scope.kind = .function) (hl : scope.names.lookup n = some .local)
    (hQ : ∀ env, env = newEnv scope s.heap.objs.size globals (cellsFrom (s.heap.objs.size + 1) scope.names []) qual func code none builtins →
      ∀ s', InCallC s env.locals (fun y => if y = n then some v else none) env.cells (fun _ => none) s' → 1 ≤ s'.toks → Q env s') :
    wpAny M A (newFunctionEnv scope globals [] [(n, v)] qual func code none builtins) Q E s := by
  have go := wpAny_newFunctionEnv_cells (M := M) (A := A) (E := E) (s := s) (scope := scope) (globals := globals) (binds := []) (qual := qual) (func := func) (code := code) (builtins := builtins)
    (Q := fun env s₁ => env = newEnv scope s.heap.objs.size globals (cellsFrom (s.heap.objs.size + 1) scope.names []) qual func code none builtins ∧ wpAny M A (storeName env n v) (fun _ s' => Q env s') E s₁) hk (fun _ h => nomatch h)
    fun env he s' x => ⟨he, by
      subst he
      exact store_tok x hk hl fun s'' x' ht => hQ _ rfl s'' x' ht⟩
  have e : newFunctionEnv scope globals [] [(n, v)] qual func code none builtins = (newFunctionEnv scope globals [] [] qual func code none builtins >>= fun env => storeName env n v >>= fun _ => pure env) := by
    simp [newFunctionEnv]
  rw [e]
  exact wpAny_bind (wpAny_mono go (fun env s₁ h => wpAny_bind (wpAny_mono h.2 (fun _ s' h => wpAny_pure h) fun _ _ h => h)) fun _ _ h => h)

theorem bind_law : ∀ (fd : FuncData) (v0 : Value), fd.params = fnArgs (theStmt 21) → fd.defaults = .none → bindArgs fd ⟨[v0], []⟩ = pure [(("script" : Str), v0)] := by
  rintro ⟨name, qn, params, body, scope, gl, cl, df, kdf, doc, md, an, code, ct, bi⟩ v0 hp hd
  simp only at hp hd
  subst hp hd
  rfl
theorem law_cells (n : Nat) : cellsFrom n (fnScope (theStmt 21)).names [] = [(Str.ofString "number", n + 1), (Str.ofString "kinds", n)] := rfl
noncomputable def locB (sc : Scope) (p : Str × Loc) : Bool := !(p.1 == ("__debug__" : Str)) && !(p.1 == ("__classdict__" : Str)) && match p.2 with
  | .dict => sc.names.lookup p.1 == some .local
  | _ => sc.names.lookup p.1 == some .cell
theorem law_locs : (lawN 0 0).all (locB (fnScope (theStmt 21))) = true := by decide +kernel
theorem law_glos : lawG.all (fun x => !(x == ("__debug__" : Str)) && (fnScope (theStmt 21)).names.lookup x == some .globalImplicit) = true := by decide +kernel
theorem law_script : (fnScope (theStmt 21)).names.lookup ("script" : Str) = some NameKind.local := by decide +kernel
theorem law_kinds : (fnScope (theStmt 21)).kind = .function ∧ (fnScope (theStmt 21)).isCoroutine = false ∧ (fnScope (theStmt 21)).isGenerator = false := by decide +kernel
theorem lawN_mem {c1 c2 : Addr} {p : Str × Loc} (hp : p ∈ lawN c1 c2) : p.2 = .dict ∨ p = (Str.ofString "kinds", .cell c1) ∨ p = (Str.ofString "number", .cell c2) := by
  simp only [List.mem_cons, List.not_mem_nil, or_false] at hp
  rcases hp with rfl | rfl | rfl | rfl | rfl | rfl | rfl | rfl | rfl | rfl | rfl | rfl | rfl | rfl | rfl | rfl | rfl | rfl | rfl | rfl | rfl | rfl | rfl | rfl | rfl | rfl
  all_goals first | exact .inl rfl | exact .inr (.inl rfl) | exact .inr (.inr rfl)
theorem three_nodup (n : Nat) : [n, n + 1, n + 1 + 1].Nodup := by
  simp; lia
theorem lawN_all (c1 c2 : Addr) (sc : Scope) : (lawN c1 c2).all (locB sc) = (lawN 0 0).all (locB sc) := rfl
theorem law_nodup : (((lawN 0 0).map (·.1)).Nodup) := by decide +kernel
theorem lawN_map (c1 c2 : Addr) : (lawN c1 c2).map (·.1) = (lawN 0 0).map (·.1) := rfl
theorem ints_all {vs : List Value} {ns : List Int} (h : IntsAre vs ns) : All2 (fun i v => AR (.int i) v) ns vs := by
  induction h with
  | nil => exact .nil
  | cons n t _ ih => exact .cons (.int n t) ih
set_option maxHeartbeats 2000000 in
theorem law_top (C : Ctx B) {fa : Addr} {fd : FuncData} (F : FnAt B "law" (fnArgs (theStmt 21)) (fnBody (theStmt 21)) (fnScope (theStmt 21)) fa fd) (hd0 : Dfl0 fd) {A : Around} (hA : AOk 4 A)
    {l : Addr} {ws : List Value} {ns : List Int} (hL : B.s.heap.IsList l ws.toArray) (hI : IntsAre ws ns) (hlen : ns.length < 1000) {R : Result → Shared → Prop}
    (hR : ∀ s', (∀ b o, B.s.heap.get? b = some o → s'.heap.get? b = some o) → s'.gens = B.s.gens → s'.os = B.s.os → R (.ok (.ret (.bool true))) s') :
    codeAny (model B.prog B.w) A (.call (.ref fa) ⟨[.ref l], []⟩) R B.s := by
  obtain ⟨o, ho, hd⟩ := F.obj
  have sc := F.scope
  obtain ⟨p1, p2, p3⟩ := law_kinds
  rw [← sc] at p1 p2 p3
  have hscr := law_script
  rw [← sc] at hscr
  refine codeAny_call_function (by have := hA.depth; lia) ho hd p2 p3 F.body F.code ?_
  rw [bind_law fd _ F.params hd0.1, F.closure]
  refine wpAny_pure (env_tok p1 hscr fun env he s' x ht => ?_)
  have he' : env = callEnvC fd B.s.heap.objs.size fa := he
  subst he'
  have kp := x.toInCall.keep
  refine ⟨C.bok.nolimit.keeps kp, codeAny_func ?_⟩
  have hcells : (callEnvC fd B.s.heap.objs.size fa).cells = [(Str.ofString "number", B.s.heap.objs.size + 1 + 1), (Str.ofString "kinds", B.s.heap.objs.size + 1)] := by
    show cellsFrom _ fd.scope.names [] = _
    rw [sc]; exact law_cells _
  obtain ⟨h₀, tk, e, hk⟩ := x.done
  subst e
  let fr : Frm := ⟨callEnvC fd B.s.heap.objs.size fa, lawN (B.s.heap.objs.size + 1) (B.s.heap.objs.size + 1 + 1), lawG⟩
  have fok : FrmOk fr := by
    refine ⟨p1, F.globals, F.builtins, fun p hp => ?_, ?_, ?_, fun z hz => ?_⟩
    · have h1 := List.all_eq_true.mp ((lawN_all _ _ _).trans law_locs) p hp
      unfold locB at h1
      simp only [Bool.and_eq_true, Bool.not_eq_true'] at h1
      obtain ⟨⟨h1, h2⟩, h3⟩ := h1
      refine ⟨h1, h2, ?_⟩
      rcases lawN_mem hp with e | e | e
      · rw [e] at h3 ⊢
        show fd.scope.names.lookup p.1 = some .local
        rw [sc]; exact beq_iff_eq.mp h3
      · subst e
        refine ⟨?_, ?_⟩
        · show fd.scope.names.lookup _ = some .cell
          rw [sc]; exact beq_iff_eq.mp h3
        · rw [show fr.env.cells = _ from hcells]; rfl
      · subst e
        refine ⟨?_, ?_⟩
        · show fd.scope.names.lookup _ = some .cell
          rw [sc]; exact beq_iff_eq.mp h3
        · rw [show fr.env.cells = _ from hcells]; rfl
    · rw [lawN_map]; exact law_nodup
    · show [B.s.heap.objs.size, B.s.heap.objs.size + 1, B.s.heap.objs.size + 1 + 1].Nodup
      exact three_nodup _
    · have := List.all_eq_true.mp law_glos z hz
      simp only [Bool.and_eq_true, Bool.not_eq_true', beq_iff_eq] at this
      refine ⟨this.1, ?_⟩
      show fd.scope.names.lookup z = _
      rw [sc]; exact this.2
  let X : Scene B := ⟨fr, A.deeper (callEnvC fd B.s.heap.objs.size fa), 3, C.bok, fok, hA.deeper⟩
  obtain ⟨ol, hl1, hl2, n, hl3⟩ := hL
  let g : Gh := ⟨fun a => if a = l then some ol else none, B.s.heap.get?, []⟩
  have new : ∀ b, B.s.heap.objs.size ≤ b → g.off b := fun b hb => by
    have hn : B.s.heap.get? b = none := Heap.get?_none_of_le hb
    refine ⟨?_, hn⟩
    show (if b = l then some ol else none) = none
    rw [if_neg]
    rintro rfl
    rw [hn] at hl1; cases hl1
  have hr : Rep B X.fr g ⟨[some (.fls ns), none, none, none, none, none, none, none, none, none, none, none, none, none, none, none, none, none, none, none, none, none, none, none, none, none], []⟩ { B.s with heap := h₀, toks := tk } := by
    refine ⟨⟨fun a o e => e, fun a o e => hk a o e, fun a o e => ?_, fun a o e e' => ?_, .nil, .nil, fun a h => (nomatch h), rfl, rfl, rfl⟩, ⟨_, x.toInCall.ns, ?_⟩, new _ (Nat.le_refl _), fun h => (nomatch h)⟩
    · have e' : (if a = l then some ol else none) = some o := e
      split at e'
      · rename_i q; subst q; cases e'; exact hk _ _ hl1
      · cases e'
    · have : B.s.heap.get? a = some o := e
      rw [this] at e'; cases e'
    · have nd : ∀ (m : Str → Option Value) (y : Str), SlotR B.pw h₀ g m (y, .dict) none := fun m y v e => nomatch e
      have c1 : ∀ m : Str → Option Value, SlotR B.pw h₀ g m (Str.ofString "kinds", .cell (B.s.heap.objs.size + 1)) none := fun m =>
        ⟨new _ (Nat.le_succ _), fun h => (nomatch h), _, x.cell (Str.ofString "kinds") _ (by rw [hcells]; rfl), fun v e => nomatch e⟩
      have c2 : ∀ m : Str → Option Value, SlotR B.pw h₀ g m (Str.ofString "number", .cell (B.s.heap.objs.size + 1 + 1)) none := fun m =>
        ⟨new _ (Nat.le_succ_of_le (Nat.le_succ _)), fun h => (nomatch h), _, x.cell (Str.ofString "number") _ (by rw [hcells]; rfl), fun v e => nomatch e⟩
      refine .cons ?_ (.cons (nd _ _) (.cons (nd _ _) (.cons (c1 _) (.cons (nd _ _) (.cons (nd _ _) (.cons (nd _ _) (.cons (nd _ _) (.cons (nd _ _) (.cons (nd _ _) (.cons (nd _ _) (.cons (nd _ _) (.cons (nd _ _) (.cons (nd _ _) (.cons (nd _ _) (.cons (nd _ _) (.cons (c2 _) (.cons (nd _ _) (.cons (nd _ _) (.cons (nd _ _) (.cons (nd _ _) (.cons (nd _ _) (.cons (nd _ _) (.cons (nd _ _) (.cons (nd _ _) (.cons (nd _ _) .nil)))))))))))))))))))))))))
      intro v e
      cases e
      exact ⟨_, if_pos rfl, .i (.fls (show (if l = l then some ol else none) = some ol from if_pos rfl) hl2 hl3 (ints_all hI))⟩
  have walk := law_all C (X := X) (Nat.le_refl 3) rfl rfl hlen (K := fun f σ => f = .ret (.av (.bool true))) (fun σ => rfl) g
  refine walk _ _ _ hr ht fun g' s' b a σ' le r' hf hK _ => ?_
  subst hK
  cases hf with
  | ret hv =>
    cases hv with
    | i h => cases h with
      | av h =>
        cases h
        exact hR s' (fun b o e => r'.r0.keep _ _ (r'.r0.base _ _ e)) r'.r0.gens r'.r0.os
end
/-! UrnKH -/
section
open PySem PySem.W
/-- the objects at the top that the walk looks at: the module's names, the defs, their defaults and codes -/
noncomputable def fnObj (i : Nat) (nm : Str) (df kd : Value) (pm : Str) (t : Tok) (code : Addr) : Obj :=
  { cls := .type "function", data := .func { name := nm, qualname := nm, params := fnArgs (theStmt i), body := .stmts (fnBody (theStmt i)), scope := fnScope (theStmt i), globals := 3, closure := [], defaults := df, kwdefaults := kd, pyModule := .str pm t, code := .ref code } }
noncomputable def ent (P : Params) (x : Str) (t : Tok) (v : Value) : DictEntry := { hash := PyData.keyHash P x, key := .str x t, val := v }
noncomputable def KH (P : Params) : Frag := [
  (3, { cls := Value.type "dict", data := Data.dict #[ent P "__name__" 165 (Value.str "law_wu0068_01" 338), ent P "__doc__" 166 (Value.none), ent P "__package__" 167 (Value.none), ent P "__loader__" 168 (Value.builtin "__main__.__loader__#opaque"), ent P "__spec__" 169 (Value.none), ent P "__annotations__" 170 (Value.ref 6), ent P "__builtins__" 171 (Value.ref 4), ent P "__file__" 173 (Value.str "/claim/cut.py" 172), ent P "__cached__" 174 (Value.none), ent P "bisect_right" 202 (Value.ref 23), ent P "insort_left" 215 (Value.ref 32), ent P "bisect_left" 229 (Value.ref 41), ent P "Error" 251 (Value.ref 51), ent P "error_reply" 267 (Value.ref 64), ent P "error_proto" 283 (Value.ref 76), ent P "parse229" 296 (Value.ref 85), ent P "parse257" 307 (Value.ref 92), ent P "_raise_serialization_error" 316 (Value.ref 99), ent P "_escape_attrib_html" 323 (Value.ref 106), ent P "_escape_cdata_c14n" 330 (Value.ref 113), ent P "_escape_attrib_c14n" 337 (Value.ref 120), ent P "_law_urn" 350 (Value.ref 127), ent P "_law_rise" 360 (Value.ref 134), ent P "_law_drawn" 366 (Value.ref 139), ent P "_law_written" 374 (Value.ref 146), ent P "_law_spelled" 380 (Value.ref 151), ent P "law" 386 (Value.ref 156)] 27 }),
  (15, { cls := Value.type "tuple", data := Data.seq #[Value.int 0 189, Value.none] }),
  (16, { cls := Value.type "dict", data := Data.dict #[ent P "key" 190 (Value.none)] 1 }),
  (22, { cls := Value.type "code", data := Data.fields #[Value.str "bisect_right" 191, Value.str "bisect_right" 192, Value.str "/claim/cut.py" 193, Value.int 2 0, Value.int 4 0, Value.int 0 0, Value.int 1 0, Value.int 3 0, Value.ref 17, Value.bool true, Value.int 181 0, Value.ref 18, Value.none, Value.ref 19, Value.ref 20, Value.ref 21, Value.int 200 0, Value.int 2 0, Value.str "/claim/cut.py" 201] }),
  (23, fnObj 1 "bisect_right" (Value.ref 15) (Value.ref 16) "cpy313.bisect" 187 22),
  (24, { cls := Value.type "tuple", data := Data.seq #[Value.int 0 203, Value.none] }),
  (25, { cls := Value.type "dict", data := Data.dict #[ent P "key" 204 (Value.none)] 1 }),
  (31, { cls := Value.type "code", data := Data.fields #[Value.str "insort_left" 205, Value.str "insort_left" 206, Value.str "/claim/cut.py" 207, Value.int 22 0, Value.int 4 0, Value.int 0 0, Value.int 1 0, Value.int 3 0, Value.ref 26, Value.bool true, Value.int 181 0, Value.ref 27, Value.none, Value.ref 28, Value.ref 29, Value.ref 30, Value.int 213 0, Value.int 22 0, Value.str "/claim/cut.py" 214] }),
  (32, fnObj 2 "insort_left" (Value.ref 24) (Value.ref 25) "cpy313.bisect" 187 31),
  (33, { cls := Value.type "tuple", data := Data.seq #[Value.int 0 216, Value.none] }),
  (34, { cls := Value.type "dict", data := Data.dict #[ent P "key" 217 (Value.none)] 1 }),
  (40, { cls := Value.type "code", data := Data.fields #[Value.str "bisect_left" 218, Value.str "bisect_left" 219, Value.str "/claim/cut.py" 220, Value.int 28 0, Value.int 4 0, Value.int 0 0, Value.int 1 0, Value.int 3 0, Value.ref 35, Value.bool true, Value.int 181 0, Value.ref 36, Value.none, Value.ref 37, Value.ref 38, Value.ref 39, Value.int 227 0, Value.int 28 0, Value.str "/claim/cut.py" 228] }),
  (41, fnObj 3 "bisect_left" (Value.ref 33) (Value.ref 34) "cpy313.bisect" 187 40),
  (84, { cls := Value.type "code", data := Data.fields #[Value.str "parse229" 284, Value.str "parse229" 285, Value.str "/claim/cut.py" 286, Value.int 55 0, Value.int 2 0, Value.int 0 0, Value.int 0 0, Value.int 3 0, Value.ref 79, Value.bool true, Value.int 181 0, Value.ref 80, Value.none, Value.ref 81, Value.ref 82, Value.ref 83, Value.int 294 0, Value.int 55 0, Value.str "/claim/cut.py" 295] }),
  (85, fnObj 8 "parse229" Value.none Value.none "cpy313.ftplib" 230 84),
  (91, { cls := Value.type "code", data := Data.fields #[Value.str "parse257" 297, Value.str "parse257" 298, Value.str "/claim/cut.py" 299, Value.int 72 0, Value.int 1 0, Value.int 0 0, Value.int 0 0, Value.int 3 0, Value.ref 86, Value.bool true, Value.int 181 0, Value.ref 87, Value.none, Value.ref 88, Value.ref 89, Value.ref 90, Value.int 305 0, Value.int 72 0, Value.str "/claim/cut.py" 306] }),
  (92, fnObj 9 "parse257" Value.none Value.none "cpy313.ftplib" 230 91),
  (105, { cls := Value.type "code", data := Data.fields #[Value.str "_escape_attrib_html" 317, Value.str "_escape_attrib_html" 318, Value.str "/claim/cut.py" 319, Value.int 92 0, Value.int 1 0, Value.int 0 0, Value.int 0 0, Value.int 3 0, Value.ref 100, Value.bool true, Value.int 181 0, Value.ref 101, Value.none, Value.ref 102, Value.ref 103, Value.ref 104, Value.int 321 0, Value.int 92 0, Value.str "/claim/cut.py" 322] }),
  (106, fnObj 12 "_escape_attrib_html" Value.none Value.none "cpy313.xml.etree.ElementTree" 308 105),
  (112, { cls := Value.type "code", data := Data.fields #[Value.str "_escape_cdata_c14n" 324, Value.str "_escape_cdata_c14n" 325, Value.str "/claim/cut.py" 326, Value.int 103 0, Value.int 1 0, Value.int 0 0, Value.int 0 0, Value.int 3 0, Value.ref 107, Value.bool true, Value.int 181 0, Value.ref 108, Value.none, Value.ref 109, Value.ref 110, Value.ref 111, Value.int 328 0, Value.int 103 0, Value.str "/claim/cut.py" 329] }),
  (113, fnObj 13 "_escape_cdata_c14n" Value.none Value.none "cpy313.xml.etree.ElementTree" 308 112),
  (119, { cls := Value.type "code", data := Data.fields #[Value.str "_escape_attrib_c14n" 331, Value.str "_escape_attrib_c14n" 332, Value.str "/claim/cut.py" 333, Value.int 116 0, Value.int 1 0, Value.int 0 0, Value.int 0 0, Value.int 3 0, Value.ref 114, Value.bool true, Value.int 181 0, Value.ref 115, Value.none, Value.ref 116, Value.ref 117, Value.ref 118, Value.int 335 0, Value.int 116 0, Value.str "/claim/cut.py" 336] }),
  (120, fnObj 14 "_escape_attrib_c14n" Value.none Value.none "cpy313.xml.etree.ElementTree" 308 119),
  (126, { cls := Value.type "code", data := Data.fields #[Value.str "_law_urn" 340, Value.str "_law_urn" 341, Value.str "/claim/cut.py" 342, Value.int 134 0, Value.int 1 0, Value.int 0 0, Value.int 0 0, Value.int 3 0, Value.ref 121, Value.bool true, Value.int 181 0, Value.ref 122, Value.none, Value.ref 123, Value.ref 124, Value.ref 125, Value.int 348 0, Value.int 134 0, Value.str "/claim/cut.py" 349] }),
  (127, fnObj 16 "_law_urn" Value.none Value.none "law_wu0068_01" 338 126),
  (133, { cls := Value.type "code", data := Data.fields #[Value.str "_law_rise" 351, Value.str "_law_rise" 352, Value.str "/claim/cut.py" 353, Value.int 141 0, Value.int 2 0, Value.int 0 0, Value.int 0 0, Value.int 3 0, Value.ref 128, Value.bool true, Value.int 181 0, Value.ref 129, Value.none, Value.ref 130, Value.ref 131, Value.ref 132, Value.int 358 0, Value.int 141 0, Value.str "/claim/cut.py" 359] }),
  (134, fnObj 17 "_law_rise" Value.none Value.none "law_wu0068_01" 338 133),
  (138, { cls := Value.type "code", data := Data.fields #[Value.str "_law_drawn" 361, Value.str "_law_drawn" 362, Value.str "/claim/cut.py" 363, Value.int 146 0, Value.int 4 0, Value.int 0 0, Value.int 0 0, Value.int 3 0, Value.ref 135, Value.bool true, Value.int 181 0, Value.ref 136, Value.none, Value.none, Value.none, Value.ref 137, Value.int 364 0, Value.int 146 0, Value.str "/claim/cut.py" 365] }),
  (139, fnObj 18 "_law_drawn" Value.none Value.none "law_wu0068_01" 338 138),
  (145, { cls := Value.type "code", data := Data.fields #[Value.str "_law_written" 367, Value.str "_law_written" 368, Value.str "/claim/cut.py" 369, Value.int 162 0, Value.int 2 0, Value.int 0 0, Value.int 0 0, Value.int 3 0, Value.ref 140, Value.bool true, Value.int 181 0, Value.ref 141, Value.none, Value.ref 142, Value.ref 143, Value.ref 144, Value.int 372 0, Value.int 162 0, Value.str "/claim/cut.py" 373] }),
  (146, fnObj 19 "_law_written" Value.none Value.none "law_wu0068_01" 338 145),
  (150, { cls := Value.type "code", data := Data.fields #[Value.str "_law_spelled" 375, Value.str "_law_spelled" 376, Value.str "/claim/cut.py" 377, Value.int 168 0, Value.int 2 0, Value.int 0 0, Value.int 0 0, Value.int 3 0, Value.ref 147, Value.bool true, Value.int 181 0, Value.ref 148, Value.none, Value.none, Value.none, Value.ref 149, Value.int 378 0, Value.int 168 0, Value.str "/claim/cut.py" 379] }),
  (151, fnObj 20 "_law_spelled" Value.none Value.none "law_wu0068_01" 338 150),
  (155, { cls := Value.type "code", data := Data.fields #[Value.str "law" 381, Value.str "law" 382, Value.str "/claim/cut.py" 383, Value.int 176 0, Value.int 1 0, Value.int 0 0, Value.int 0 0, Value.int 3 0, Value.ref 152, Value.bool true, Value.int 181 0, Value.ref 153, Value.none, Value.none, Value.none, Value.ref 154, Value.int 384 0, Value.int 176 0, Value.str "/claim/cut.py" 385] }),
  (156, fnObj 21 "law" Value.none Value.none "law_wu0068_01" 338 155)]
noncomputable def kAs : List Addr := [3, 15, 16, 22, 23, 24, 25, 31, 32, 33, 34, 40, 41, 84, 85, 91, 92, 105, 106, 112, 113, 119, 120, 126, 127, 133, 134, 138, 139, 145, 146, 150, 151, 155, 156]
theorem kAs_eq : ∀ P, kAs = (KH P).map (·.1) := fun _ => rfl
noncomputable def hook : Hook := kHook KH kAs kAs_eq
end
/-! UrnGround -/
section
open PySem PyProof.Rows PySem.W
variable {B : Base}

theorem len_lt {n : Nat} (h : ¬ ((63 : Nat) : Int) < (n : Int)) : n < 1000 := by lia
theorem ref_inj {m : Str → Option Value} {x : Str} {a b : Addr} (h : m x = some (.ref a)) (h' : m x = some (.ref b)) : b = a := by
  rw [h] at h'
  cases h'
  rfl
theorem fnAt_of {K : Frag} (X : K.In B.s.heap) (g : B.s.heap.Ns mainGlobals B.mg) {name : Str} {a : Addr} {st : Stmt} {fd : FuncData} {c : Value} {d : Option Addr} {sl : Array (Option Value)}
    (h1 : nsIn K mainGlobals name = some (some (.ref a))) (h2 : K.lookup a = some ⟨c, d, .func fd, sl⟩) (hc : codeIn K fd.code fd.qualname = true) (hp : fd.params = fnArgs st) (hb : fd.body = .stmts (fnBody st)) (hs : fd.scope = fnScope st)
    (hcl : fd.closure = []) (hg : fd.globals = mainGlobals) (hbi : fd.builtins = builtinsNs) : FnAt B name (fnArgs st) (fnBody st) (fnScope st) a fd :=
  ⟨mg_of X g h1, ⟨_, X _ _ h2, rfl⟩, hp, hb, hs, hcl, hg, hbi, codeRec_of X hc⟩
theorem dfl2_of {K : Frag} (X : K.In B.s.heap) {fd : FuncData} {T D : Addr} {c c' : Value} {d d' : Option Addr} {sl sl' : Array (Option Value)} {t t2 : Tok} {n n2 : Nat} {hs : Int} (h1 : fd.defaults = .ref T) (h2 : K.lookup T = some ⟨c, d, .seq #[.int 0 t, .none] n, sl⟩) (h3 : fd.kwdefaults = .ref D)
    (h4 : K.lookup D = some ⟨c', d', .dict #[⟨hs, .str "key" t2, .none⟩] n2, sl'⟩) : Dfl2 B fd :=
  ⟨T, D, _, _, _, _, h1, X _ _ h2, rfl, h3, ⟨_, _, _, X _ _ h4, rfl, fun e he => by
    have : e = ⟨hs, .str "key" t2, .none⟩ := by simpa using he
    exact ⟨_, _, by rw [this]⟩, fun _ => rfl⟩, by rfl⟩
theorem at_bisr {P : Params} (X : (KH P).In B.s.heap) (g : B.s.heap.Ns mainGlobals B.mg) : ∃ fd, FnAt B "bisect_right" (fnArgs (theStmt 1)) (fnBody (theStmt 1)) (fnScope (theStmt 1)) 23 fd ∧ Dfl2 B fd :=
  ⟨_, fnAt_of X g rfl rfl rfl rfl rfl rfl rfl rfl rfl, dfl2_of X rfl rfl rfl rfl⟩
theorem at_ins {P : Params} (X : (KH P).In B.s.heap) (g : B.s.heap.Ns mainGlobals B.mg) : ∃ fd, FnAt B "insort_left" (fnArgs (theStmt 2)) (fnBody (theStmt 2)) (fnScope (theStmt 2)) 32 fd ∧ Dfl2 B fd :=
  ⟨_, fnAt_of X g rfl rfl rfl rfl rfl rfl rfl rfl rfl, dfl2_of X rfl rfl rfl rfl⟩
theorem at_bisl {P : Params} (X : (KH P).In B.s.heap) (g : B.s.heap.Ns mainGlobals B.mg) : ∃ fd, FnAt B "bisect_left" (fnArgs (theStmt 3)) (fnBody (theStmt 3)) (fnScope (theStmt 3)) 41 fd ∧ Dfl2 B fd :=
  ⟨_, fnAt_of X g rfl rfl rfl rfl rfl rfl rfl rfl rfl, dfl2_of X rfl rfl rfl rfl⟩
theorem at_p229 {P : Params} (X : (KH P).In B.s.heap) (g : B.s.heap.Ns mainGlobals B.mg) : ∃ fd, FnAt B "parse229" (fnArgs (theStmt 8)) (fnBody (theStmt 8)) (fnScope (theStmt 8)) 85 fd ∧ Dfl0 fd :=
  ⟨_, fnAt_of X g rfl rfl rfl rfl rfl rfl rfl rfl rfl, rfl, rfl⟩
theorem at_p257 {P : Params} (X : (KH P).In B.s.heap) (g : B.s.heap.Ns mainGlobals B.mg) : ∃ fd, FnAt B "parse257" (fnArgs (theStmt 9)) (fnBody (theStmt 9)) (fnScope (theStmt 9)) 92 fd ∧ Dfl0 fd :=
  ⟨_, fnAt_of X g rfl rfl rfl rfl rfl rfl rfl rfl rfl, rfl, rfl⟩
theorem at_html {P : Params} (X : (KH P).In B.s.heap) (g : B.s.heap.Ns mainGlobals B.mg) : ∃ fd, FnAt B "_escape_attrib_html" (fnArgs (theStmt 12)) (fnBody (theStmt 12)) (fnScope (theStmt 12)) 106 fd ∧ Dfl0 fd :=
  ⟨_, fnAt_of X g rfl rfl rfl rfl rfl rfl rfl rfl rfl, rfl, rfl⟩
theorem at_cdata {P : Params} (X : (KH P).In B.s.heap) (g : B.s.heap.Ns mainGlobals B.mg) : ∃ fd, FnAt B "_escape_cdata_c14n" (fnArgs (theStmt 13)) (fnBody (theStmt 13)) (fnScope (theStmt 13)) 113 fd ∧ Dfl0 fd :=
  ⟨_, fnAt_of X g rfl rfl rfl rfl rfl rfl rfl rfl rfl, rfl, rfl⟩
theorem at_attrib {P : Params} (X : (KH P).In B.s.heap) (g : B.s.heap.Ns mainGlobals B.mg) : ∃ fd, FnAt B "_escape_attrib_c14n" (fnArgs (theStmt 14)) (fnBody (theStmt 14)) (fnScope (theStmt 14)) 120 fd ∧ Dfl0 fd :=
  ⟨_, fnAt_of X g rfl rfl rfl rfl rfl rfl rfl rfl rfl, rfl, rfl⟩
theorem at_urn {P : Params} (X : (KH P).In B.s.heap) (g : B.s.heap.Ns mainGlobals B.mg) : ∃ fd, FnAt B "_law_urn" (fnArgs (theStmt 16)) (fnBody (theStmt 16)) (fnScope (theStmt 16)) 127 fd ∧ Dfl0 fd :=
  ⟨_, fnAt_of X g rfl rfl rfl rfl rfl rfl rfl rfl rfl, rfl, rfl⟩
theorem at_rise {P : Params} (X : (KH P).In B.s.heap) (g : B.s.heap.Ns mainGlobals B.mg) : ∃ fd, FnAt B "_law_rise" (fnArgs (theStmt 17)) (fnBody (theStmt 17)) (fnScope (theStmt 17)) 134 fd ∧ Dfl0 fd :=
  ⟨_, fnAt_of X g rfl rfl rfl rfl rfl rfl rfl rfl rfl, rfl, rfl⟩
theorem at_drawn {P : Params} (X : (KH P).In B.s.heap) (g : B.s.heap.Ns mainGlobals B.mg) : ∃ fd, FnAt B "_law_drawn" (fnArgs (theStmt 18)) (fnBody (theStmt 18)) (fnScope (theStmt 18)) 139 fd ∧ Dfl0 fd :=
  ⟨_, fnAt_of X g rfl rfl rfl rfl rfl rfl rfl rfl rfl, rfl, rfl⟩
theorem at_written {P : Params} (X : (KH P).In B.s.heap) (g : B.s.heap.Ns mainGlobals B.mg) : ∃ fd, FnAt B "_law_written" (fnArgs (theStmt 19)) (fnBody (theStmt 19)) (fnScope (theStmt 19)) 146 fd ∧ Dfl0 fd :=
  ⟨_, fnAt_of X g rfl rfl rfl rfl rfl rfl rfl rfl rfl, rfl, rfl⟩
theorem at_spelled {P : Params} (X : (KH P).In B.s.heap) (g : B.s.heap.Ns mainGlobals B.mg) : ∃ fd, FnAt B "_law_spelled" (fnArgs (theStmt 20)) (fnBody (theStmt 20)) (fnScope (theStmt 20)) 151 fd ∧ Dfl0 fd :=
  ⟨_, fnAt_of X g rfl rfl rfl rfl rfl rfl rfl rfl rfl, rfl, rfl⟩
theorem at_law {P : Params} (X : (KH P).In B.s.heap) (g : B.s.heap.Ns mainGlobals B.mg) : ∃ fd, FnAt B "law" (fnArgs (theStmt 21)) (fnBody (theStmt 21)) (fnScope (theStmt 21)) 156 fd ∧ Dfl0 fd :=
  ⟨_, fnAt_of X g rfl rfl rfl rfl rfl rfl rfl rfl rfl, rfl, rfl⟩
theorem ctx_of {prog prog' : Program} {w : World} {s₁ : Shared} {mg mb : Str → Option Value} {loose : List Str} {mean : ExcName → Option Value} (X : (KH w.params).In s₁.heap) (T : Top prog' loose mean mg mb s₁.heap) : Ctx ⟨prog, w, s₁, mg, mb⟩ where
  bok := ⟨T.g, T.b, T.nolimit, T.builtins, T.nodigits⟩
  len := mg_none_of X T.g rfl
  sum := mg_none_of X T.g rfl
  sorted := mg_none_of X T.g rfl
  range := mg_none_of X T.g rfl
  zip := mg_none_of X T.g rfl
  str := mg_none_of X T.g rfl
  int := mg_none_of X T.g rfl
  bisr := ⟨23, at_bisr (B := ⟨prog, w, s₁, mg, mb⟩) X T.g⟩
  ins := ⟨32, at_ins (B := ⟨prog, w, s₁, mg, mb⟩) X T.g⟩
  bisl := ⟨41, at_bisl (B := ⟨prog, w, s₁, mg, mb⟩) X T.g⟩
  p229 := ⟨85, at_p229 (B := ⟨prog, w, s₁, mg, mb⟩) X T.g⟩
  p257 := ⟨92, at_p257 (B := ⟨prog, w, s₁, mg, mb⟩) X T.g⟩
  html := ⟨106, at_html (B := ⟨prog, w, s₁, mg, mb⟩) X T.g⟩
  cdata := ⟨113, at_cdata (B := ⟨prog, w, s₁, mg, mb⟩) X T.g⟩
  attrib := ⟨120, at_attrib (B := ⟨prog, w, s₁, mg, mb⟩) X T.g⟩
  urn := ⟨127, at_urn (B := ⟨prog, w, s₁, mg, mb⟩) X T.g⟩
  rise := ⟨134, at_rise (B := ⟨prog, w, s₁, mg, mb⟩) X T.g⟩
  drawn := ⟨139, at_drawn (B := ⟨prog, w, s₁, mg, mb⟩) X T.g⟩
  written := ⟨146, at_written (B := ⟨prog, w, s₁, mg, mb⟩) X T.g⟩
  spelled := ⟨151, at_spelled (B := ⟨prog, w, s₁, mg, mb⟩) X T.g⟩
end
end Urn
open PySem PySem.W PyProof.Rows
set_option maxHeartbeats 80000000 in
theorem PySem.Challenge.cw_wu0068_01_holds : PySem.Challenge.rw_wu0068_01.Holds := by
  w_on; o_law
  o_head (kHook Urn.KH Urn.kAs Urn.kAs_eq)
  (case hw => w_witness2)
  intro w s₀ s₁ mg mb G Y fa o pm cd doc dV kV ho hd' hcd hD hmg hg args vals as hpre hlay hrd hwl hlo
  have KX := kIn_of Y
  have T := G.T
  wrow_args hpre hlay hrd hwl hlo
  rename IntsAre _ _ => hI
  rename Heap.IsList _ _ _ => hL
  rename ¬ _ => hlen
  refine enter_call ?_
  obtain ⟨fd, F, hd0⟩ := Urn.at_law (B := ⟨PySem.Challenge.rw_wu0068_01.row.prog, w, s₁, mg, mb⟩) KX T.g
  have hmg' : mg (Str.ofString "law") = some (.ref fa) := hmg
  have ea : fa = 156 := Urn.ref_inj (m := mg) (x := Str.ofString "law") F.mg hmg'
  subst ea
  refine Urn.law_top (B := ⟨PySem.Challenge.rw_wu0068_01.row.prog, w, s₁, mg, mb⟩) (Urn.ctx_of KX T) F hd0 ⟨by decide, by decide, by decide⟩ hL hI (Urn.len_lt hlen) fun s' hk hgens hos => ?_
  refine GoodW.toG ?_
  refine ⟨.inl ⟨_, .bool true, [], rfl, raisesW_false ?_, .bool true, ?_, unshared_nil⟩, hk, hos, hgens.trans hg⟩
  · wrow_none_raised
  · wrow_post
