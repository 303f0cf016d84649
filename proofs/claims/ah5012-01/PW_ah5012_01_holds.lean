import PyProof.Rows.All
import Wide.All
import OpenK.AllK
import Wide.FinOn
import PyProof.ExcAttrAll.ValueError
import PyProof.Rows.Catch
import PySem.Challenge.RW_ah5012_01
set_option Elab.async false
section
open PySem PySem.W PySem.Calls PyProof.Rows
set_option Elab.async false
namespace Mine
theorem runs_toks {M : Model} {Γ : Ctx} {p : Pos} {t : Sem Fin} {fs : List Frame} {s s' : Shared} {e : End} (h : Runs M Γ p t fs s e s') : s.toks ≤ s'.toks := by
  induction h <;> first
    | exact Nat.le_refl _
    | assumption
    | omega
    | (simp only [Shared.setGen] at *; omega)
    | (rename_i h; exact h)
theorem wakes_toks {M : Model} {Γ : Ctx} {p : Pos} {g : Nat} {r : Resume} {s s' : Shared} {res : GenResult} (h : Wakes M Γ p g r s res s') : s.toks ≤ s'.toks := by
  unfold Wakes at h
  split at h
  · exact h.elim
  · split at h
    · obtain ⟨e, s1, h1, _, _, rfl⟩ := h
      have := runs_toks h1
      simpa only [Shared.setGen] using this
    · obtain ⟨_, rfl⟩ := h; exact Nat.le_refl _
    · obtain ⟨_, rfl⟩ := h; simp only [Shared.setGen]; exact Nat.le_refl _
  · obtain ⟨e, s1, h1, _, _, rfl⟩ := h
    have := runs_toks h1
    simpa only [Shared.setGen] using this
  · obtain ⟨_, rfl⟩ := h; exact Nat.le_refl _
  · obtain ⟨_, rfl⟩ := h; exact Nat.le_refl _
theorem wp_toks {α : Type} {M : Model} {Γ : Ctx} (t : Sem α) {Q : α → Pos → Shared → Prop} {E : Value → Pos → Shared → Prop} {p : Pos} {s : Shared}
    (n : Nat) (hn : n ≤ s.toks)
    (h : Sem.wp M Γ t (fun a p' s' => n ≤ s'.toks → Q a p' s') (fun e p' s' => n ≤ s'.toks → E e p' s') p s) : Sem.wp M Γ t Q E p s := by
  induction t generalizing p s with
  | pure a => exact h hn
  | raise e => exact h hn
  | unsupported | finish | yield | fork | await | register => exact h
  | rule _ k ih | «at» _ k ih | alloc _ k ih | loadIfAlive _ k ih | point _ k ih | ask k ih | os _ _ k ih | handled _ k ih | newGen _ k ih | stack k ih | thread k ih => exact ih _ hn h
  | fresh k ih => exact ih _ (Nat.le_succ_of_le hn) h
  | load a _ k ih | genState a k ih => exact let ⟨o, ho, h⟩ := h; ⟨o, ho, ih _ hn h⟩
  | update a _ f k ih => exact ⟨h.1, ih _ hn h.2⟩
  | choose _ _ k ih => exact ⟨h.1, ih _ hn h.2⟩
  | call c h' g l k ih => exact let ⟨r, s', hr, hk⟩ := h; ⟨r, s', hr, ih _ (Nat.le_trans hn (runs_toks hr)) hk⟩
  | resume g r l k ih => exact let ⟨res, s', hw, hk⟩ := h; ⟨res, s', hw, ih _ (Nat.le_trans hn (wakes_toks hw)) hk⟩
theorem wpAny_toks {α : Type} {M : Model} {A : Around} {t : Sem α} {Q : α → Shared → Prop} {E : Value → Shared → Prop} {s : Shared}
    (h : wpAny M A t (fun a s' => s.toks ≤ s'.toks → Q a s') (fun e s' => s.toks ≤ s'.toks → E e s') s) : wpAny M A t Q E s :=
  fun Γ p hΓ => wp_toks t s.toks (Nat.le_refl _) (h Γ p hΓ)

inductive V where
  | none
  | bool (b : Bool)
  | int (i : Int)
  | str (x : Str)
  | tup (l : List V)
  | list (l : List V)
  | raw (v : Value)
  | exc

mutual
inductive Rep (b h : Heap) : Value → V → Prop
  | none : Rep b h .none .none
  | bool (c : Bool) : Rep b h (.bool c) (.bool c)
  | int (i : Int) (t : Tok) : Rep b h (.int i t) (.int i)
  | str (x : Str) (t : Tok) : Rep b h (.str x t) (.str x)
  | tup {a : Addr} {vs : List Value} {l : List V} : IsTup h a vs.toArray → RepL b h vs l → Rep b h (.ref a) (.tup l)
  | list {a : Addr} {vs : List Value} {l : List V} : h.IsList a vs.toArray → RepL b h vs l → Rep b h (.ref a) (.list l)
  | raw (v : Value) : Rep b h v (.raw v)
  | exc {a : Addr} {ob : Obj} {vs : Array Value} : h.get? a = some ob → ob.cls = .type "ValueError" → ob.data = .fields vs → vs[1]? = some .none → b.get? a = none → Rep b h (.ref a) .exc
inductive RepL (b h : Heap) : List Value → List V → Prop
  | nil : RepL b h [] []
  | cons {v : Value} {x : V} {vs : List Value} {l : List V} : Rep b h v x → RepL b h vs l → RepL b h (v :: vs) (x :: l)
end

def Imm (h h' : Heap) : Prop := ∀ b o, h.get? b = some o → (∀ es n, o.data ≠ .dict es n) → (∀ v, o.data ≠ .cell v) → h'.get? b = some o

theorem Imm.refl (h : Heap) : Imm h h := fun _ _ e _ _ => e
theorem Imm.trans {h₁ h₂ h₃ : Heap} (a : Imm h₁ h₂) (b : Imm h₂ h₃) : Imm h₁ h₃ := fun _ _ e d c => b _ _ (a _ _ e d c) d c
theorem Imm.of_stays {h h' : Heap} (a : h.StaysIn h') : Imm h h' := fun _ _ e _ _ => a _ _ e

theorem isTup_imm {h h' : Heap} {a : Addr} {xs : Array Value} (i : Imm h h') (x : IsTup h a xs) : IsTup h' a xs := by
  obtain ⟨o, ho, hc, n, hd⟩ := x
  exact ⟨o, i _ _ ho (fun _ _ e => by rw [hd] at e; cases e) (fun _ e => by rw [hd] at e; cases e), hc, n, hd⟩
theorem isList_imm {h h' : Heap} {a : Addr} {xs : Array Value} (i : Imm h h') (x : h.IsList a xs) : h'.IsList a xs := by
  obtain ⟨o, ho, hc, n, hd⟩ := x
  exact ⟨o, i _ _ ho (fun _ _ e => by rw [hd] at e; cases e) (fun _ e => by rw [hd] at e; cases e), hc, n, hd⟩

mutual
theorem Rep.imm {b h h' : Heap} (i : Imm h h') : ∀ {v : Value} {x : V}, Rep b h v x → Rep b h' v x
  | _, _, .none => .none
  | _, _, .bool b => .bool b
  | _, _, .int j t => .int j t
  | _, _, .str x t => .str x t
  | _, _, .tup a r => .tup (isTup_imm i a) (RepL.imm i r)
  | _, _, .list a r => .list (isList_imm i a) (RepL.imm i r)
  | _, _, .raw v => .raw v
  | _, _, .exc h1 h2 h3 h4 h5 => .exc (i _ _ h1 (fun _ _ e => by rw [h3] at e; cases e) (fun _ e => by rw [h3] at e; cases e)) h2 h3 h4 h5
theorem RepL.imm {b h h' : Heap} (i : Imm h h') : ∀ {vs : List Value} {l : List V}, RepL b h vs l → RepL b h' vs l
  | _, _, .nil => .nil
  | _, _, .cons a r => .cons (Rep.imm i a) (RepL.imm i r)
end

/-- the system: program, world, written part -/
structure Sy where
  prog : Program
  w : World
  K : Frag
  p : Program
  loose : List Str
  mean : ExcName → Option Value
  mg : Str → Option Value
  mb : Str → Option Value
  base : Heap

structure Sy.ok (S : Sy) (h : Heap) : Prop where
  x : S.K.In h
  t : Top S.p S.loose S.mean S.mg S.mb h
theorem Sy.ok.keeps {S : Sy} {h h' : Heap} (o : S.ok h) (k : h.StaysIn h') : S.ok h' := ⟨o.x.keeps k, o.t.keeps k⟩

abbrev Rho := List (Str × V)

def RepEnv (b : Heap) (env : Env) (h : Heap) (m : Str → Option Value) (ρ : Rho) : Prop :=
  ∀ x V, ρ.lookup x = some V →
    (env.kindOf x = some .local ∧ ∃ v, m x = some v ∧ Rep b h v V) ∨
    (env.kindOf x = some .cell ∧ ∃ c v, env.cells.lookup x = some c ∧ h.IsCell c (some v) ∧ Rep b h v V) ∨
    (env.kindOf x = some .free ∧ ∃ c v, env.cells.lookup x = some c ∧ h.IsCell c (some v) ∧ Rep b h v V)

/-- a comprehension's own name -/
abbrev dot0 : Str := ".0"
structure CellsOk (env : Env) (h₀ : Heap) (_L : Addr) (h : Heap) : Prop where
  has : ∀ x, env.kindOf x = some .cell → ∃ c, env.cells.lookup x = some c
  cell : ∀ x c, env.kindOf x = some .cell → env.cells.lookup x = some c → ∃ v, h.IsCell c v
  fresh : ∀ x c, env.scope.names.lookup dot0 = none → env.kindOf x = some .cell → env.cells.lookup x = some c → h₀.get? c = none
  inj : ∀ x y c, env.cells.lookup x = some c → env.cells.lookup y = some c → x = y

structure Loc where
  A : Around
  env : Env
  L : Addr
  h₀ : Heap
  fl : List Env

/-- between two states of one run: nothing but the heap and the tokens moved, and what cannot change stayed -/
structure Nx (s s' : Shared) : Prop where
  gens : s'.gens = s.gens
  os : s'.os = s.os
  imm : Imm s.heap s'.heap
  toks : s.toks ≤ s'.toks
structure Nt (s s' : Shared) : Prop where
  gens : s'.gens = s.gens
  os : s'.os = s.os
/-- everything stayed -/
structure Kp (s s' : Shared) : Prop where
  gens : s'.gens = s.gens
  os : s'.os = s.os
  stays : s.heap.StaysIn s'.heap
  toks : s.toks ≤ s'.toks
theorem Kp.refl (s : Shared) : Kp s s := ⟨rfl, rfl, fun _ _ e => e, Nat.le_refl _⟩
theorem Kp.trans {a b c : Shared} (x : Kp a b) (y : Kp b c) : Kp a c := ⟨y.gens.trans x.gens, y.os.trans x.os, fun _ _ e => y.stays _ _ (x.stays _ _ e), Nat.le_trans x.toks y.toks⟩
theorem Kp.nx {a b : Shared} (x : Kp a b) : Nx a b := ⟨x.gens, x.os, .of_stays x.stays, x.toks⟩
theorem Nx.refl (s : Shared) : Nx s s := ⟨rfl, rfl, Imm.refl _, Nat.le_refl _⟩
theorem Nx.trans {a b c : Shared} (x : Nx a b) (y : Nx b c) : Nx a c := ⟨y.gens.trans x.gens, y.os.trans x.os, x.imm.trans y.imm, Nat.le_trans x.toks y.toks⟩
theorem Nx.nt {a b : Shared} (x : Nx a b) : Nt a b := ⟨x.gens, x.os⟩
theorem Kp.nt {a b : Shared} (x : Kp a b) : Nt a b := ⟨x.gens, x.os⟩
theorem Nt.trans {a b c : Shared} (x : Nt a b) (y : Nt b c) : Nt a c := ⟨y.gens.trans x.gens, y.os.trans x.os⟩
theorem Nt.refl (s : Shared) : Nt s s := ⟨rfl, rfl⟩

structure At (S : Sy) (d : Nat) (cs : Scope) (l : Loc) (ρ : Rho) (s : Shared) : Prop where
  scope : l.env.scope = cs
  kind : cs.kind = .function
  locals : l.env.locals = l.L
  globals : l.env.globals = mainGlobals
  builtins : l.env.builtins = builtinsNs
  fr : l.A.frames = some l.fl
  hd : l.A.handled = none
  dp : l.A.depth + d < recursionLimit
  un : l.A.units + 8 * d + 200 < cLine
  ok : S.ok l.h₀
  st : S.base.StaysIn l.h₀
  ff : ∀ h m, Fr l.h₀ l.L h m → h.FunFrames S.base l.fl
  F : ∃ m, Fr l.h₀ l.L s.heap m ∧ RepEnv S.base l.env s.heap m ρ
  cells : CellsOk l.env l.h₀ l.L s.heap
  tk : 0 < s.toks

/-- a place: enough room and all that a call may ask -/
structure Pl (S : Sy) (d : Nat) (A : Around) (fl : List Env) (s : Shared) : Prop where
  fr : A.frames = some fl
  hd : A.handled = none
  dp : A.depth + d < recursionLimit
  un : A.units + 8 * d + 200 < cLine
  ok : S.ok s.heap
  st : S.base.StaysIn s.heap
  ff : s.heap.FunFrames S.base fl
  tk : 0 < s.toks

theorem At.pl {S : Sy} {d : Nat} {cs : Scope} {l : Loc} {ρ : Rho} {s : Shared} (a : At S d cs l ρ s) : Pl S d l.A l.fl s := by
  obtain ⟨m, F, _⟩ := a.F
  exact ⟨a.fr, a.hd, a.dp, a.un, a.ok.keeps F.keep, fun b o e => F.keep b o (a.st b o e), a.ff _ _ F, a.tk⟩

theorem fr_keeps {h₀ h h' : Heap} {L : Addr} {m : Str → Option Value} (F : Fr h₀ L h m) (k : h.StaysIn h') : Fr h₀ L h' m :=
  ⟨F.ns.keeps k, fun b o e => k _ _ (F.keep b o e), F.above⟩

theorem isCell_keeps {h h' : Heap} {c : Addr} {v : Option Value} (k : h.StaysIn h') (x : h.IsCell c v) : h'.IsCell c v := by
  obtain ⟨o, ho, hd⟩ := x
  exact ⟨o, k _ _ ho, hd⟩

theorem RepEnv.keeps {b : Heap} {env : Env} {h h' : Heap} {m : Str → Option Value} {ρ : Rho} (k : h.StaysIn h') (r : RepEnv b env h m ρ) : RepEnv b env h' m ρ := by
  intro x V e
  rcases r x V e with ⟨hk, v, hm, hr⟩ | ⟨hk, c, v, hc, hi, hr⟩ | ⟨hk, c, v, hc, hi, hr⟩
  · exact .inl ⟨hk, v, hm, hr.imm (.of_stays k)⟩
  · exact .inr (.inl ⟨hk, c, v, hc, isCell_keeps k hi, hr.imm (.of_stays k)⟩)
  · exact .inr (.inr ⟨hk, c, v, hc, isCell_keeps k hi, hr.imm (.of_stays k)⟩)

theorem CellsOk.keeps {env : Env} {h₀ h h' : Heap} {L : Addr} (k : h.StaysIn h') (r : CellsOk env h₀ L h) : CellsOk env h₀ L h' :=
  ⟨r.has, fun x c e e' => let ⟨v, i⟩ := r.cell x c e e'; ⟨v, isCell_keeps k i⟩, r.fresh, r.inj⟩

theorem At.kp {S : Sy} {d : Nat} {cs : Scope} {l : Loc} {ρ : Rho} {s s' : Shared} (a : At S d cs l ρ s) (k : Kp s s') : At S d cs l ρ s' := by
  obtain ⟨m, F, R⟩ := a.F
  exact { a with F := ⟨m, fr_keeps F k.stays, R.keeps k.stays⟩, cells := a.cells.keeps k.stays, tk := Nat.lt_of_lt_of_le a.tk k.toks }

theorem At.weaken {S : Sy} {d : Nat} {cs : Scope} {l : Loc} {ρ ρ' : Rho} {s : Shared} (a : At S d cs l ρ s) (k : ∀ x V, ρ'.lookup x = some V → ρ.lookup x = some V) : At S d cs l ρ' s := by
  obtain ⟨m, F, R⟩ := a.F
  exact { a with F := ⟨m, F, fun x V e => R x V (k x V e)⟩ }

/-- an exception of class ValueError on its way: just raised in the innermost frame of l, or come from within -/
def Fly (base : Heap) (l : List Env) (e : Addr) (h : Heap) : Prop :=
  (base.StaysIn h ∧ h.FunFrames base l ∧ base.get? e = none ∧ ∃ oe vs, h.get? e = some oe ∧ oe.cls = .type "ValueError" ∧ oe.data = .fields vs ∧ vs[1]? = some .none) ∨
  Heap.Flying base l e (.type "ValueError") h

structure Ev {α β : Type} (S : Sy) (d : Nat) (cs : Scope) (t : Env → Sem α) (R : Heap → α → β → Prop) (ρ : Rho) (P : β → Rho → Prop) (X : Prop) : Prop where
  run : ∀ (l : Loc) (s : Shared) (Q : α → Shared → Prop) (E : Value → Shared → Prop), At S d cs l ρ s →
    (∀ v V ρ' s', At S d cs l ρ' s' → Nx s s' → R s'.heap v V → P V ρ' → Q v s') →
    (X → ∀ e s', Fly S.base l.fl e s'.heap → Nt s s' → E (.ref e) s') →
    wpAny (model S.prog S.w) l.A (t l.env) Q E s

/-- a piece of work that leaves every object as it was -/
structure Wk {α β : Type} (S : Sy) (t : Sem α) (R : Heap → α → β → Prop) (s₀ : Shared) (A : Around) (fl : List Env) (P : β → Prop) (X : Prop) : Prop where
  run : ∀ (Q : α → Shared → Prop) (E : Value → Shared → Prop),
    (∀ v V s', Kp s₀ s' → R s'.heap v V → P V → Q v s') →
    (X → ∀ e s', Fly S.base fl e s'.heap → Nt s₀ s' → E (.ref e) s') →
    wpAny (model S.prog S.w) A t Q E s₀

structure EvE (S : Sy) (d : Nat) (cs : Scope) (e : Expr) (ρ : Rho) (P : V → Rho → Prop) (X : Prop) : Prop where
  ev : Ev S d cs (fun env => eval e env) (Rep S.base) ρ P X
abbrev EqR {α : Type} (_ : Heap) (a b : α) : Prop := a = b
structure EvT (S : Sy) (d : Nat) (cs : Scope) (e : Expr) (ρ : Rho) (P : Bool → Rho → Prop) (X : Prop) : Prop where
  ev : Ev S d cs (fun env => PySem.isTrue e env (eval e env)) EqR ρ P X
structure EvL (S : Sy) (d : Nat) (cs : Scope) (pos : Pos) (es : List Expr) (ρ : Rho) (P : List V → Rho → Prop) (X : Prop) : Prop where
  ev : Ev S d cs (fun env => spliced (backTo pos (starEach es env))) (RepL S.base) ρ P X

inductive Fw where
  | next | brk | cont | ret (v : V)
inductive FwR (b h : Heap) : Flow → Fw → Prop
  | next : FwR b h .next .next
  | brk : FwR b h .brk .brk
  | cont : FwR b h .cont .cont
  | ret {v x} : Rep b h v x → FwR b h (.ret v) (.ret x)
structure ExS (S : Sy) (d : Nat) (cs : Scope) (sts : List Stmt) (ρ : Rho) (P : Fw → Rho → Prop) (X : Prop) : Prop where
  ev : Ev S d cs (fun env => execs sts env) (FwR S.base) ρ P X
structure Ex1 (S : Sy) (d : Nat) (cs : Scope) (st : Stmt) (ρ : Rho) (P : Fw → Rho → Prop) (X : Prop) : Prop where
  ev : Ev S d cs (fun env => exec st env) (FwR S.base) ρ P X

/-- work on one value -/
structure Un {α β : Type} (S : Sy) (d : Nat) (t : Value → Sem α) (R : Heap → α → β → Prop) (a : V) (P : β → Prop) (X : Prop) : Prop where
  run : ∀ A fl s v, Pl S d A fl s → Rep S.base s.heap v a → Wk S (t v) R s A fl P X
structure Bi {α β : Type} (S : Sy) (d : Nat) (t : Value → Value → Sem α) (R : Heap → α → β → Prop) (a b : V) (P : β → Prop) (X : Prop) : Prop where
  run : ∀ A fl s v w, Pl S d A fl s → Rep S.base s.heap v a → Rep S.base s.heap w b → Wk S (t v w) R s A fl P X
structure BinW (S : Sy) (d : Nat) (op : Operator) (a b : V) (P : V → Prop) (X : Prop) : Prop where
  run : Bi S d (binaryOp op) (Rep S.base) a b P X
structure InpW (S : Sy) (d : Nat) (op : Operator) (a b : V) (P : V → Prop) (X : Prop) : Prop where
  run : Bi S d (inplaceOp op) (Rep S.base) a b P X
structure CmpW (S : Sy) (d : Nat) (op : CmpOp) (a b : V) (P : V → Prop) (X : Prop) : Prop where
  run : Bi S d (compareOp op) (Rep S.base) a b P X
structure UnW (S : Sy) (d : Nat) (op : UnaryOp) (a : V) (P : V → Prop) (X : Prop) : Prop where
  run : Un S d (unaryOp op) (Rep S.base) a P X
structure SubW (S : Sy) (d : Nat) (value slice : Expr) (x i : V) (P : V → Prop) (X : Prop) : Prop where
  run : Bi S d (subscriptTail value slice) (Rep S.base) x i P X
structure CallW (S : Sy) (d : Nat) (f : V) (as : List V) (P : V → Prop) (X : Prop) : Prop where
  run : ∀ A fl s fv vs, Pl S d A fl s → Rep S.base s.heap fv f → RepL S.base s.heap vs as → Wk S (call fv vs) (Rep S.base) s A fl P X


section
variable {S : Sy} {d : Nat} {cs : Scope} {ρ : Rho} {X : Prop}

theorem Ev.at {α β : Type} {t : Env → Sem α} {R : Heap → α → β → Prop} {P : β → Rho → Prop}
    {l : Loc} {s : Shared} {Q : α → Shared → Prop} {E : Value → Shared → Prop}
    (h : Ev S d cs t R ρ P X) (a : At S d cs l ρ s)
    (hE : X → ∀ e s', Fly S.base l.fl e s'.heap → Nt s s' → E (.ref e) s')
    (k : ∀ v V ρ' s', At S d cs l ρ' s' → Nx s s' → R s'.heap v V → P V ρ' →
      (X → ∀ e s'', Fly S.base l.fl e s''.heap → Nt s' s'' → E (.ref e) s'') → Q v s') :
    wpAny (model S.prog S.w) l.A (t l.env) Q E s :=
  h.run l s _ _ a (fun v V ρ' s' a' n r p => k v V ρ' s' a' n r p fun hX e s'' f n' => hE hX e s'' f (n.nt.trans n')) hE

theorem Wk.at {α β : Type} {t : Sem α} {R : Heap → α → β → Prop} {P : β → Prop} {A : Around} {fl : List Env}
    {s : Shared} {Q : α → Shared → Prop} {E : Value → Shared → Prop}
    (h : Wk S t R s A fl P X)
    (hE : X → ∀ e s', Fly S.base fl e s'.heap → Nt s s' → E (.ref e) s')
    (k : ∀ v V s', Kp s s' → R s'.heap v V → P V → Q v s') :
    wpAny (model S.prog S.w) A t Q E s := h.run Q E k hE

/-- to show a piece of work: the tokens' growth is for nothing -/
theorem Wk.of {α β : Type} {t : Sem α} {R : Heap → α → β → Prop} {P : β → Prop} {A : Around} {fl : List Env} {s : Shared}
    (h : ∀ (Q : α → Shared → Prop) (E : Value → Shared → Prop),
      (∀ v V s', s'.gens = s.gens → s'.os = s.os → s.heap.StaysIn s'.heap → R s'.heap v V → P V → Q v s') →
      (X → ∀ e s', Fly S.base fl e s'.heap → Nt s s' → E (.ref e) s') →
      wpAny (model S.prog S.w) A t Q E s) : Wk S t R s A fl P X :=
  ⟨fun Q E hq hE => wpAny_toks (h _ _ (fun v V s' g o st r p hk => hq v V s' ⟨g, o, st, hk⟩ r p) fun hX e s' f n _ => hE hX e s' f n)⟩

/-- a value that stands: no object made -/
theorem Wk.val {t : Sem Value} {P : V → Prop} {A : Around} {fl : List Env} {s : Shared} {V : V}
    (h : ∀ (Q : Value → Shared → Prop) (E : Value → Shared → Prop), (∀ v s', Rep S.base s'.heap v V → s'.gens = s.gens → s'.os = s.os → s'.heap = s.heap → Q v s') → wpAny (model S.prog S.w) A t Q E s)
    (p : P V) : Wk S t (Rep S.base) s A fl P X :=
  .of fun Q E hq _ => h Q E fun v s' r g o e => hq v V s' g o (by rw [e]; exact fun _ _ e => e) r p
theorem Wk.bool {t : Sem Bool} {P : Bool → Prop} {A : Around} {fl : List Env} {s : Shared} {b : Bool}
    (h : ∀ (Q : Bool → Shared → Prop) (E : Value → Shared → Prop), (∀ s', s'.gens = s.gens → s'.os = s.os → s'.heap = s.heap → Q b s') → wpAny (model S.prog S.w) A t Q E s)
    (p : P b) : Wk S t EqR s A fl P X :=
  .of fun Q E hq _ => h Q E fun s' g o e => hq b b s' g o (by rw [e]; exact fun _ _ e => e) rfl p

theorem Ev.mono {α β : Type} {t : Env → Sem α} {R : Heap → α → β → Prop} {P P' : β → Rho → Prop} (h : Ev S d cs t R ρ P X) (k : ∀ V ρ', P V ρ' → P' V ρ') : Ev S d cs t R ρ P' X :=
  ⟨fun l s Q E a hq hE => h.run l s Q E a (fun v V ρ' s' a' n r p => hq v V ρ' s' a' n r (k _ _ p)) hE⟩

theorem Ev.weaken {α β : Type} {t : Env → Sem α} {R : Heap → α → β → Prop} {P : β → Rho → Prop} {ρ' : Rho} (h : Ev S d cs t R ρ' P X) (k : ∀ x V, ρ'.lookup x = some V → ρ.lookup x = some V) : Ev S d cs t R ρ P X :=
  ⟨fun l s Q E a hq hE => h.run l s Q E (a.weaken k) hq hE⟩

theorem EvE.at {e : Expr} {P : V → Rho → Prop} {l : Loc} {s : Shared} {Q : Value → Shared → Prop} {E : Value → Shared → Prop} (h : EvE S d cs e ρ P X) (a : At S d cs l ρ s)
    (hE : X → ∀ e s', Fly S.base l.fl e s'.heap → Nt s s' → E (.ref e) s')
    (k : ∀ v V ρ' s', At S d cs l ρ' s' → Nx s s' → Rep S.base s'.heap v V → P V ρ' → (X → ∀ e s'', Fly S.base l.fl e s''.heap → Nt s' s'' → E (.ref e) s'') → Q v s') :
    wpAny (model S.prog S.w) l.A (eval e l.env) Q E s := h.ev.at a hE k
theorem EvE.mono {e : Expr} {P P' : V → Rho → Prop} (h : EvE S d cs e ρ P X) (k : ∀ V ρ', P V ρ' → P' V ρ') : EvE S d cs e ρ P' X := ⟨h.ev.mono k⟩
theorem EvE.weaken {e : Expr} {P : V → Rho → Prop} {ρ' : Rho} (h : EvE S d cs e ρ' P X) (k : ∀ x V, ρ'.lookup x = some V → ρ.lookup x = some V) : EvE S d cs e ρ P X := ⟨h.ev.weaken k⟩
theorem EvT.at {e : Expr} {P : Bool → Rho → Prop} {l : Loc} {s : Shared} {Q : Bool → Shared → Prop} {E : Value → Shared → Prop} (h : EvT S d cs e ρ P X) (a : At S d cs l ρ s)
    (hE : X → ∀ e s', Fly S.base l.fl e s'.heap → Nt s s' → E (.ref e) s')
    (k : ∀ v V ρ' s', At S d cs l ρ' s' → Nx s s' → v = V → P V ρ' → (X → ∀ e s'', Fly S.base l.fl e s''.heap → Nt s' s'' → E (.ref e) s'') → Q v s') :
    wpAny (model S.prog S.w) l.A (PySem.isTrue e l.env (eval e l.env)) Q E s := h.ev.at a hE k
theorem EvT.mono {e : Expr} {P P' : Bool → Rho → Prop} (h : EvT S d cs e ρ P X) (k : ∀ V ρ', P V ρ' → P' V ρ') : EvT S d cs e ρ P' X := ⟨h.ev.mono k⟩
theorem EvT.weaken {e : Expr} {P : Bool → Rho → Prop} {ρ' : Rho} (h : EvT S d cs e ρ' P X) (k : ∀ x V, ρ'.lookup x = some V → ρ.lookup x = some V) : EvT S d cs e ρ P X := ⟨h.ev.weaken k⟩
theorem ExS.at {sts : List Stmt} {P : Fw → Rho → Prop} {l : Loc} {s : Shared} {Q : Flow → Shared → Prop} {E : Value → Shared → Prop} (h : ExS S d cs sts ρ P X) (a : At S d cs l ρ s)
    (hE : X → ∀ e s', Fly S.base l.fl e s'.heap → Nt s s' → E (.ref e) s')
    (k : ∀ v V ρ' s', At S d cs l ρ' s' → Nx s s' → FwR S.base s'.heap v V → P V ρ' → (X → ∀ e s'', Fly S.base l.fl e s''.heap → Nt s' s'' → E (.ref e) s'') → Q v s') :
    wpAny (model S.prog S.w) l.A (execs sts l.env) Q E s := h.ev.at a hE k
theorem ExS.mono {sts : List Stmt} {P P' : Fw → Rho → Prop} (h : ExS S d cs sts ρ P X) (k : ∀ V ρ', P V ρ' → P' V ρ') : ExS S d cs sts ρ P' X := ⟨h.ev.mono k⟩
theorem ExS.weaken {sts : List Stmt} {P : Fw → Rho → Prop} {ρ' : Rho} (h : ExS S d cs sts ρ' P X) (k : ∀ x V, ρ'.lookup x = some V → ρ.lookup x = some V) : ExS S d cs sts ρ P X := ⟨h.ev.weaken k⟩
theorem Ex1.at {st : Stmt} {P : Fw → Rho → Prop} {l : Loc} {s : Shared} {Q : Flow → Shared → Prop} {E : Value → Shared → Prop} (h : Ex1 S d cs st ρ P X) (a : At S d cs l ρ s)
    (hE : X → ∀ e s', Fly S.base l.fl e s'.heap → Nt s s' → E (.ref e) s')
    (k : ∀ v V ρ' s', At S d cs l ρ' s' → Nx s s' → FwR S.base s'.heap v V → P V ρ' → (X → ∀ e s'', Fly S.base l.fl e s''.heap → Nt s' s'' → E (.ref e) s'') → Q v s') :
    wpAny (model S.prog S.w) l.A (exec st l.env) Q E s := h.ev.at a hE k
theorem Ex1.mono {st : Stmt} {P P' : Fw → Rho → Prop} (h : Ex1 S d cs st ρ P X) (k : ∀ V ρ', P V ρ' → P' V ρ') : Ex1 S d cs st ρ P' X := ⟨h.ev.mono k⟩
theorem Ex1.weaken {st : Stmt} {P : Fw → Rho → Prop} {ρ' : Rho} (h : Ex1 S d cs st ρ' P X) (k : ∀ x V, ρ'.lookup x = some V → ρ.lookup x = some V) : Ex1 S d cs st ρ P X := ⟨h.ev.weaken k⟩
theorem EvL.at {pos : Pos} {es : List Expr} {P : (List V) → Rho → Prop} {l : Loc} {s : Shared} {Q : (List Value) → Shared → Prop} {E : Value → Shared → Prop} (h : EvL S d cs pos es ρ P X) (a : At S d cs l ρ s)
    (hE : X → ∀ e s', Fly S.base l.fl e s'.heap → Nt s s' → E (.ref e) s')
    (k : ∀ v V ρ' s', At S d cs l ρ' s' → Nx s s' → RepL S.base s'.heap v V → P V ρ' → (X → ∀ e s'', Fly S.base l.fl e s''.heap → Nt s' s'' → E (.ref e) s'') → Q v s') :
    wpAny (model S.prog S.w) l.A (spliced (backTo pos (starEach es l.env))) Q E s := h.ev.at a hE k
theorem EvL.mono {pos : Pos} {es : List Expr} {P P' : (List V) → Rho → Prop} (h : EvL S d cs pos es ρ P X) (k : ∀ V ρ', P V ρ' → P' V ρ') : EvL S d cs pos es ρ P' X := ⟨h.ev.mono k⟩
theorem EvL.weaken {pos : Pos} {es : List Expr} {P : (List V) → Rho → Prop} {ρ' : Rho} (h : EvL S d cs pos es ρ' P X) (k : ∀ x V, ρ'.lookup x = some V → ρ.lookup x = some V) : EvL S d cs pos es ρ P X := ⟨h.ev.weaken k⟩

theorem CallW.mono {f : V} {as : List V} {P P' : V → Prop} (h : CallW S d f as P X) (k : ∀ r, P r → P' r) : CallW S d f as P' X :=
  ⟨fun A fl s fv vs pl r rl => ⟨fun Q E hq hE => (h.run A fl s fv vs pl r rl).run Q E (fun v V s' kp r p => hq v V s' kp r (k _ p)) hE⟩⟩

/-! names -/
theorem isCell_fun {h : Heap} {c : Addr} {v w : Option Value} (x : h.IsCell c v) (y : h.IsCell c w) : v = w := by
  obtain ⟨o, ho, hd⟩ := x; obtain ⟨o', ho', hd'⟩ := y
  rw [ho] at ho'; cases ho'; rw [hd] at hd'; cases hd'; rfl

theorem EvE_name {x : Str} {pos : Pos} {x' : V} {P : V → Rho → Prop} (h : ρ.lookup x = some x') (p : P x' ρ) (hd : (x == ("__debug__" : Str)) = false := by decide)
    (hc : (x == ("__classdict__" : Str)) = false := by decide) : EvE S d cs (.Name x pos) ρ P X := by
  refine ⟨⟨fun l s Q E a hQ _ => ?_⟩⟩
  obtain ⟨m, F, R⟩ := a.F
  have hk : l.env.scope.kind = .function := by rw [a.scope]; exact a.kind
  have hn : s.heap.Ns l.env.locals m := by rw [a.locals]; exact F.ns
  rcases R x x' h with ⟨hl, v, hm, hr⟩ | ⟨hl, c, v, hcl, hi, hr⟩ | ⟨hl, c, v, hcl, hi, hr⟩
  · exact wpAny_Name (wpAny_loadName_local hk hl hn hm (hQ _ _ _ _ a (Nx.refl _) hr p)) hd
  · exact wpAny_Name (wpAny_loadName_cell hk hl hcl hi (hQ _ _ _ _ a (Nx.refl _) hr p)) hd
  · exact wpAny_Name (wpAny_loadName_free hk hl hcl hi (hQ _ _ _ _ a (Nx.refl _) hr p) hc) hd

def GlobIs (S : Sy) (x : Str) (x' : V) : Prop := ∃ v, nsIn S.K mainGlobals x = some (some v) ∧ ∀ h, S.ok h → Rep S.base h v x'
def BuiltIs (S : Sy) (x : Str) (v : Value) : Prop := nsIn S.K mainGlobals x = some none ∧ bootBuiltins x = some v ∧ x ≠ "__name__"

theorem EvE_glob {x : Str} {pos : Pos} {x' : V} {P : V → Rho → Prop} (hg : GlobIs S x x') (p : P x' ρ) (hk : cs.names.lookup x = some .globalImplicit := by rfl) (hd : (x == ("__debug__" : Str)) = false := by decide) :
    EvE S d cs (.Name x pos) ρ P X := by
  refine ⟨⟨fun l s Q E a hQ _ => ?_⟩⟩
  obtain ⟨m, F, _⟩ := a.F
  obtain ⟨v, hn, hr⟩ := hg
  have hk' : l.env.scope.kind = .function := by rw [a.scope]; exact a.kind
  have hx : l.env.kindOf x = some .globalImplicit := by unfold Env.kindOf; rw [a.scope]; exact hk
  refine Name_function_global hk' hx (loadGlobal_global (by rw [a.globals]; exact a.ok.t.g.keeps F.keep) (mg_of a.ok.x a.ok.t.g hn) ?_) hd
  exact hQ _ _ _ _ a (Nx.refl _) (hr _ (a.ok.keeps F.keep)) p

theorem EvE_built {x : Str} {pos : Pos} {v : Value} {P : V → Rho → Prop} (hg : BuiltIs S x v) (p : P (.raw v) ρ) (hk : cs.names.lookup x = some .globalImplicit := by rfl) (hd : (x == ("__debug__" : Str)) = false := by decide) :
    EvE S d cs (.Name x pos) ρ P X := by
  refine ⟨⟨fun l s Q E a hQ _ => ?_⟩⟩
  obtain ⟨m, F, _⟩ := a.F
  obtain ⟨hn, hb, h9⟩ := hg
  have hk' : l.env.scope.kind = .function := by rw [a.scope]; exact a.kind
  have hx : l.env.kindOf x = some .globalImplicit := by unfold Env.kindOf; rw [a.scope]; exact hk
  refine Name_function_global hk' hx (loadGlobal_builtin (by rw [a.globals]; exact a.ok.t.g.keeps F.keep) (mg_none_of a.ok.x a.ok.t.g hn) (by rw [a.builtins]; exact a.ok.t.b.keeps F.keep) ((a.ok.t.builtins x h9).trans hb) ?_) hd
  exact hQ _ _ _ _ a (Nx.refl _) (.raw v) p

/-! constants -/
theorem At.tokens {l : Loc} {s : Shared} {n : Nat} (a : At S d cs l ρ s) (h : s.toks ≤ n) : At S d cs l ρ { s with toks := n } :=
  a.kp ⟨rfl, rfl, fun _ _ e => e, h⟩
theorem EvE_int {i : Int} {k : Nat} {pos : Pos} {P : V → Rho → Prop} (p : P (.int i) ρ) : EvE S d cs (.Constant (.int i) k pos) ρ P X := by
  refine ⟨⟨fun l s Q E a hQ _ => ?_⟩⟩
  exact wpAny_Constant_int (hQ _ _ _ _ (a.tokens (Nat.le_succ _)) ⟨rfl, rfl, Imm.refl _, Nat.le_succ _⟩ (.int _ _) p)
theorem EvE_str {i : Str} {k : Nat} {pos : Pos} {P : V → Rho → Prop} (p : P (.str i) ρ) : EvE S d cs (.Constant (.str i) k pos) ρ P X := by
  refine ⟨⟨fun l s Q E a hQ _ => ?_⟩⟩
  exact wpAny_Constant_str (hQ _ _ _ _ (a.tokens (Nat.le_succ _)) ⟨rfl, rfl, Imm.refl _, Nat.le_succ _⟩ (.str _ _) p)
theorem EvE_bool {i : Bool} {k : Nat} {pos : Pos} {P : V → Rho → Prop} (p : P (.bool i) ρ) : EvE S d cs (.Constant (.bool i) k pos) ρ P X := by
  refine ⟨⟨fun l s Q E a hQ _ => ?_⟩⟩
  exact Constant_bool (hQ _ _ _ _ a (Nx.refl _) (.bool _) p)

/-! operators -/
theorem Ev.un {α β : Type} {l : Loc} {s : Shared} {v : Value} {x : V} {t : Value → Sem α} {R : Heap → α → β → Prop} {P : β → Prop} {Q : α → Shared → Prop} {E : Value → Shared → Prop} (h : Un S d t R x P X)
    (a : At S d cs l ρ s) (r : Rep S.base s.heap v x) (hE : X → ∀ e s', Fly S.base l.fl e s'.heap → Nt s s' → E (.ref e) s') (k : ∀ v V s', At S d cs l ρ s' → Kp s s' → R s'.heap v V → P V → Q v s') : wpAny (model S.prog S.w) l.A (t v) Q E s :=
  (h.run _ _ _ _ a.pl r).at hE fun v V s' kp r p => k v V s' (a.kp kp) kp r p
theorem Ev.bi {α β : Type} {l : Loc} {s : Shared} {v w : Value} {x y : V} {t : Value → Value → Sem α} {R : Heap → α → β → Prop} {P : β → Prop} {Q : α → Shared → Prop} {E : Value → Shared → Prop} (h : Bi S d t R x y P X)
    (a : At S d cs l ρ s) (r : Rep S.base s.heap v x) (r' : Rep S.base s.heap w y) (hE : X → ∀ e s', Fly S.base l.fl e s'.heap → Nt s s' → E (.ref e) s') (k : ∀ v V s', At S d cs l ρ s' → Kp s s' → R s'.heap v V → P V → Q v s') : wpAny (model S.prog S.w) l.A (t v w) Q E s :=
  (h.run _ _ _ _ _ a.pl r r').at hE fun v V s' kp r p => k v V s' (a.kp kp) kp r p

theorem EvE_binop {e₁ e₂ : Expr} {op : Operator} {pos : Pos} {P : V → Rho → Prop}
    (h : EvE S d cs e₁ ρ (fun x ρ₁ => EvE S d cs e₂ ρ₁ (fun y ρ₂ => BinW S d op x y (fun z => P z ρ₂) X) X) X) : EvE S d cs (.BinOp e₁ op e₂ pos) ρ P X := by
  refine ⟨⟨fun l s Q E a hQ hE => ?_⟩⟩
  refine wpAny_BinOp (h.at a hE fun v x ρ₁ s₁ a₁ n₁ r₁ p₁ hE₁ => ?_)
  refine p₁.at a₁ hE₁ fun w y ρ₂ s₂ a₂ n₂ r₂ p₂ hE₂ => ?_
  exact Ev.bi p₂.run a₂ (r₁.imm n₂.imm) r₂ hE₂ fun z Z s₃ a₃ k₃ r₃ p₃ => hQ _ _ _ _ a₃ (n₁.trans (n₂.trans k₃.nx)) r₃ p₃
theorem EvE_cmp {e₁ e₂ : Expr} {op : CmpOp} {pos : Pos} {P : V → Rho → Prop}
    (h : EvE S d cs e₁ ρ (fun x ρ₁ => EvE S d cs e₂ ρ₁ (fun y ρ₂ => CmpW S d op x y (fun z => P z ρ₂) X) X) X) (hm : behindInMarks op e₂ = false := by with_unfolding_all rfl) : EvE S d cs (.Compare e₁ [op] [e₂] pos) ρ P X := by
  refine ⟨⟨fun l s Q E a hQ hE => ?_⟩⟩
  refine wpAny_Compare1 (h.at a hE fun v x ρ₁ s₁ a₁ n₁ r₁ p₁ hE₁ => ?_) hm
  refine p₁.at a₁ hE₁ fun w y ρ₂ s₂ a₂ n₂ r₂ p₂ hE₂ => ?_
  exact Ev.bi p₂.run a₂ (r₁.imm n₂.imm) r₂ hE₂ fun z Z s₃ a₃ k₃ r₃ p₃ => hQ _ _ _ _ a₃ (n₁.trans (n₂.trans k₃.nx)) r₃ p₃
theorem EvE_unop {e₁ : Expr} {op : UnaryOp} {pos : Pos} {P : V → Rho → Prop}
    (h : EvE S d cs e₁ ρ (fun x ρ₁ => UnW S d op x (fun z => P z ρ₁) X) X) : EvE S d cs (.UnaryOp op e₁ pos) ρ P X := by
  refine ⟨⟨fun l s Q E a hQ hE => ?_⟩⟩
  refine UnaryOp_ (h.at a hE fun v x ρ₁ s₁ a₁ n₁ r₁ p₁ hE₁ => ?_)
  exact Ev.un p₁.run a₁ r₁ hE₁ fun z Z s₃ a₃ k₃ r₃ p₃ => hQ _ _ _ _ a₃ (n₁.trans k₃.nx) r₃ p₃

/-! truth -/
def TruthIs (x : V) (b : Bool) : Prop := match x with
  | .bool c => b = c
  | .int i => b = (i != 0)
  | _ => False
theorem un_truthy {x : V} {P : Bool → Prop} (h : ∃ b, TruthIs x b ∧ P b) : Un S d truthy EqR x P X := by
  refine ⟨fun A fl s v pl r => ?_⟩
  obtain ⟨b, hb, p⟩ := h
  cases r with
  | bool c => cases hb; exact .bool (fun Q E q => wpAny_truthy_bool (q _ rfl rfl rfl)) p
  | int i t => cases hb; exact .bool (fun Q E q => truthy_int (q _ rfl rfl rfl)) p
  | _ => exact hb.elim

theorem EvT_plain {e : Expr} {P : Bool → Rho → Prop} (h : EvE S d cs e ρ (fun x ρ₁ => ∃ b, TruthIs x b ∧ P b ρ₁) X)
    (he : ∀ env whole, PySem.isTrue e env whole = (do let v ← whole; standAt e.pos; holding [v] (truthy v)) := by intros; rfl) : EvT S d cs e ρ P X := by
  refine ⟨⟨fun l s Q E a hQ hE => ?_⟩⟩
  refine isTrue_plain (h.at a hE fun v x ρ₁ s₁ a₁ n₁ r₁ p₁ hE₁ => ?_) (he _ _)
  exact Ev.un (un_truthy (X := X) p₁) a₁ r₁ hE₁ fun z Z s₃ a₃ k₃ r₃ p₃ => hQ _ _ _ _ a₃ (n₁.trans k₃.nx) r₃ p₃
theorem EvT_cmp {e₁ e₂ : Expr} {op : CmpOp} {pos : Pos} {P : Bool → Rho → Prop}
    (h : EvE S d cs e₁ ρ (fun x ρ₁ => EvE S d cs e₂ ρ₁ (fun y ρ₂ => CmpW S d op x y (fun z => ∃ b, TruthIs z b ∧ P b ρ₂) X) X) X) (hm : behindInMarks op e₂ = false := by with_unfolding_all rfl) : EvT S d cs (.Compare e₁ [op] [e₂] pos) ρ P X := by
  refine ⟨⟨fun l s Q E a hQ hE => ?_⟩⟩
  refine wpAny_isTrue_Compare1 (h.at a hE fun v x ρ₁ s₁ a₁ n₁ r₁ p₁ hE₁ => ?_) hm
  refine p₁.at a₁ hE₁ fun w y ρ₂ s₂ a₂ n₂ r₂ p₂ hE₂ => ?_
  refine Ev.bi p₂.run a₂ (r₁.imm n₂.imm) r₂ hE₂ fun z Z s₃ a₃ k₃ r₃ p₃ => ?_
  exact Ev.un (un_truthy (X := X) p₃) a₃ r₃ (fun hX e s' f n => hE₂ hX e s' f (k₃.nt.trans n)) fun u U s₄ a₄ k₄ r₄ p₄ => hQ _ _ _ _ a₄ (n₁.trans (n₂.trans (k₃.nx.trans k₄.nx))) r₄ p₄
theorem EvT_not {e : Expr} {pos : Pos} {P : Bool → Rho → Prop} (h : EvT S d cs e ρ (fun b ρ₁ => P (!b) ρ₁) X) : EvT S d cs (.UnaryOp .Not e pos) ρ P X := by
  refine ⟨⟨fun l s Q E a hQ hE => ?_⟩⟩
  refine isTrue_not (h.at a hE fun v x ρ₁ s₁ a₁ n₁ r₁ p₁ hE₁ => ?_)
  exact hQ _ _ _ _ a₁ n₁ (congrArg (!·) r₁) p₁
theorem EvT_and {e : Expr} {es : List Expr} {pos : Pos} {P : Bool → Rho → Prop}
    (h : EvT S d cs e ρ (fun b ρ₁ => (b = true → EvT S d cs (.BoolOp .And es pos) ρ₁ P X) ∧ (b = false → P false ρ₁)) X) : EvT S d cs (.BoolOp .And (e :: es) pos) ρ P X := by
  refine ⟨⟨fun l s Q E a hQ hE => ?_⟩⟩
  have step : ∀ whole, wpAny (model S.prog S.w) l.A (PySem.isTrue (.BoolOp .And (e :: es) pos) l.env whole) Q E s := fun whole => by
    refine isTrue_and (h.at a hE fun v x ρ₁ s₁ a₁ n₁ r₁ p₁ hE₁ => ?_)
    cases r₁
    cases v with
    | true => simp only [if_true]; exact (p₁.1 rfl).at a₁ hE₁ fun w y ρ₂ s₂ a₂ n₂ r₂ p₂ _ => hQ _ _ _ _ a₂ (n₁.trans n₂) r₂ p₂
    | false => simp only [Bool.false_eq_true, if_false]; exact hQ _ _ _ _ a₁ n₁ rfl (p₁.2 rfl)
  exact step _
theorem EvT_and_nil {pos : Pos} {P : Bool → Rho → Prop} (p : P true ρ) : EvT S d cs (.BoolOp .And [] pos) ρ P X := by
  refine ⟨⟨fun l s Q E a hQ hE => ?_⟩⟩
  exact isTrue_and_nil (hQ _ _ _ _ a (Nx.refl _) rfl p)
theorem EvT_or {e : Expr} {es : List Expr} {pos : Pos} {P : Bool → Rho → Prop}
    (h : EvT S d cs e ρ (fun b ρ₁ => (b = false → EvT S d cs (.BoolOp .Or es pos) ρ₁ P X) ∧ (b = true → P true ρ₁)) X) : EvT S d cs (.BoolOp .Or (e :: es) pos) ρ P X := by
  refine ⟨⟨fun l s Q E a hQ hE => ?_⟩⟩
  refine isTrue_or (h.at a hE fun v x ρ₁ s₁ a₁ n₁ r₁ p₁ hE₁ => ?_)
  cases r₁
  cases v with
  | false => simp only [Bool.false_eq_true, if_false]; exact (p₁.1 rfl).at a₁ hE₁ fun w y ρ₂ s₂ a₂ n₂ r₂ p₂ _ => hQ _ _ _ _ a₂ (n₁.trans n₂) r₂ p₂
  | true => simp only [if_true]; exact hQ _ _ _ _ a₁ n₁ rfl (p₁.2 rfl)
theorem EvT_or_nil {pos : Pos} {P : Bool → Rho → Prop} (p : P false ρ) : EvT S d cs (.BoolOp .Or [] pos) ρ P X := by
  refine ⟨⟨fun l s Q E a hQ hE => ?_⟩⟩
  exact isTrue_or_nil (hQ _ _ _ _ a (Nx.refl _) rfl p)
end

end Mine
end

section
open PySem PySem.W PySem.Calls PyProof.Rows
set_option Elab.async false
set_option maxRecDepth 100000
namespace Mine
theorem hc_name (g : Str) (gp pos : Pos) (es : List Expr) (env : Env) : eval (.Call (.Name g gp) es [] pos) env = (do callWith pos (← eval (.Name g gp) env) [] (backTo pos (starEach es env)) (backToKw pos (keywordEach [] env))) := by
  rfl
def plainArg : Expr → Bool
  | .Starred .. => false
  | _ => true
theorem starEach_plain {e : Expr} {es : List Expr} {env : Env} (h : plainArg e = true) : starEach (e :: es) env = (false, eval e env) :: starEach es env := by
  cases e <;> first | rfl | cases h
theorem any_plain {pos : Pos} {env : Env} : ∀ {es : List Expr}, es.all plainArg = true → ((backTo pos (starEach es env)).any fun x => x.1) = false
  | [], _ => rfl
  | e :: es, h => by
    simp only [List.all_cons, Bool.and_eq_true] at h
    rw [starEach_plain h.1]
    have ih := any_plain (pos := pos) (env := env) h.2
    simpa [backTo] using ih
theorem hc_meth (o : Expr) (n : Str) (ap pos : Pos) (es : List Expr) (env : Env) (hb : attributeBase o n env (eval o env) = eval o env) (ha : es.all plainArg = true) (hl : es.length < 30) (hpos : (ap.endLine == pos.line) = true) :
    eval (.Call (.Attribute o n ap) es [] pos) env = (do let ov ← eval o env; standAt ap.atName; let (f, first) ← holding [ov] (getMethod ov n (do return (← importBound o env).getD true)); callWith pos f first (backTo pos (starEach es env)) []) := by
  have e : eval (.Call (.Attribute o n ap) es [] pos) env = (do
    let ov ← attributeBase o n env (eval o env)
    standAt ap.atName
    methodCall o n ap pos env ov (es.length + ([] : List Keyword).length) (backTo pos (starEach es env)) (backToKw pos (keywordEach [] env))) := rfl
  rw [e, hb]
  have hf : methodCallForm (es.length + ([] : List Keyword).length) (backTo pos (starEach es env)) (backToKw pos (keywordEach [] env)) = true := by
    unfold methodCallForm
    have h1 := any_plain (pos := pos) (env := env) ha
    have h2 : (backTo pos (starEach es env)).all (fun x => !x.1) = true := by
      rw [List.all_eq_true]; intro x hx
      have := List.any_eq_false.mp h1 x hx
      simpa using this
    rw [h2]
    show (true && (true && decide (es.length + 0 + 0 < 30))) = true
    simp; omega
  unfold methodCall
  rw [hf]
  have hp : ∀ x, methodCallPos true x env ap pos = pure pos := by
    intro x; unfold methodCallPos; rw [hpos]; rfl
  rw [hp]; rfl
theorem isTrue_name (x pos env whole) : PySem.isTrue (.Name x pos) env whole = (do let v ← whole; standAt pos; holding [v] (truthy v)) := rfl
theorem isTrue_call (f es kw pos env whole) : PySem.isTrue (.Call f es kw pos) env whole = (do let v ← whole; standAt pos; holding [v] (truthy v)) := rfl
theorem isTrue_sub (f es pos env whole) : PySem.isTrue (.Subscript f es pos) env whole = (do let v ← whole; standAt pos; holding [v] (truthy v)) := rfl
theorem isTrue_bin (f op es pos env whole) : PySem.isTrue (.BinOp f op es pos) env whole = (do let v ← whole; standAt pos; holding [v] (truthy v)) := rfl
section
variable {S : Sy} {d : Nat} {cs : Scope} {ρ : Rho} {X : Prop}

/-! stores -/
theorem ns_dict {h : Heap} {L : Addr} {m : Str → Option Value} (n : h.Ns L m) : ∃ o es ep, h.get? L = some o ∧ o.data = .dict es ep := let ⟨o, es, ep, a, b, _⟩ := n; ⟨o, es, ep, a, b⟩

theorem lookup_cons_ne {x y : Str} {v : V} {ρ : Rho} (h : y ≠ x) : List.lookup y ((x, v) :: ρ) = ρ.lookup y := by
  have : (y == x) = false := by simpa using h
  rw [List.lookup_cons, this]
theorem lookup_cons_eq {x : Str} {v : V} {ρ : Rho} : List.lookup x ((x, v) :: ρ) = some v := by
  rw [List.lookup_cons, show (x == x) = true from by simp]

theorem At.store {l : Loc} {s : Shared} {x : Str} {v : Value} {x' : V} {Q : Unit → Shared → Prop} {E : Value → Shared → Prop} (a : At S d cs l ρ s) (r : Rep S.base s.heap v x')
    (hk : cs.names.lookup x = some .local ∨ (cs.names.lookup x = some .cell ∧ cs.names.lookup dot0 = none)) (k : ∀ s', At S d cs l ((x, x') :: ρ) s' → Nx s s' → Q () s') :
    wpAny (model S.prog S.w) l.A (storeName l.env x v) Q E s := by
  obtain ⟨m, F, R⟩ := a.F
  have hkf : l.env.scope.kind = .function := by rw [a.scope]; exact a.kind
  have hns : s.heap.Ns l.env.locals m := by rw [a.locals]; exact F.ns
  obtain ⟨oL, es, ep, hL, hLd⟩ := ns_dict F.ns
  rcases hk with hk | hk
  · have hk' : l.env.kindOf x = some .local := by unfold Env.kindOf; rw [a.scope]; exact hk
    refine wpAny_storeName_local hk' hns (fun h' hn hs => ?_) (by rw [hkf]; rfl)
    rw [a.locals] at hn hs
    have im : Imm s.heap h' := fun b o e nd nc => (hs.2 b (fun q => by rw [q, hL] at e; cases e; exact nd _ _ hLd)).trans e
    have cellk : ∀ c v, s.heap.IsCell c v → h'.IsCell c v := fun c v ⟨o, ho, hd⟩ => ⟨o, (hs.2 c (fun q => by rw [q, hL] at ho; cases ho; rw [hd] at hLd; cases hLd)).trans ho, hd⟩
    refine k _ { a with F := ⟨_, F.set hn hs, ?_⟩, cells := ⟨a.cells.has, fun y c e e' => let ⟨v, i⟩ := a.cells.cell y c e e'; ⟨v, cellk _ _ i⟩, a.cells.fresh, a.cells.inj⟩, tk := Nat.lt_succ_of_lt a.tk } ⟨rfl, rfl, im, Nat.le_succ _⟩
    intro y Y hy
    by_cases e : y = x
    · subst e; rw [lookup_cons_eq] at hy; cases hy
      exact .inl ⟨hk', v, by simp, r.imm im⟩
    · rw [lookup_cons_ne e] at hy
      rcases R y Y hy with ⟨a1, w, a2, a3⟩ | ⟨a1, c, w, a2, a3, a4⟩ | ⟨a1, c, w, a2, a3, a4⟩
      · exact .inl ⟨a1, w, by simp [e, a2], a3.imm im⟩
      · exact .inr (.inl ⟨a1, c, w, a2, cellk _ _ a3, a4.imm im⟩)
      · exact .inr (.inr ⟨a1, c, w, a2, cellk _ _ a3, a4.imm im⟩)
  · have hz : l.env.scope.names.lookup dot0 = none := by rw [a.scope]; exact hk.2
    replace hk := hk.1
    have hk' : l.env.kindOf x = some .cell := by unfold Env.kindOf; rw [a.scope]; exact hk
    obtain ⟨c, hc⟩ := a.cells.has x hk'
    obtain ⟨v₀, hi⟩ := a.cells.cell x c hk' hc
    refine wpAny_storeName_cell hkf hk' hc hi fun h' hi' hs => ?_
    obtain ⟨oc, hoc, hcd⟩ := hi
    have im : Imm s.heap h' := fun b o e nd nc => (hs.2 b (fun q => by rw [q, hoc] at e; cases e; exact nc _ hcd)).trans e
    have ne : l.L ≠ c := fun q => by rw [← q, hL] at hoc; cases hoc; rw [hcd] at hLd; cases hLd
    have cellk : ∀ c' v, c' ≠ c → s.heap.IsCell c' v → h'.IsCell c' v := fun c' v n ⟨o, ho, hd⟩ => ⟨o, (hs.2 c' n).trans ho, hd⟩
    refine k _ { a with F := ⟨m, ⟨F.ns.sameBut hs ne, fun b o e => (hs.2 b (fun q => ?_)).trans (F.keep b o e), F.above⟩, ?_⟩, cells := ⟨a.cells.has, fun y c' e e' => ?_, a.cells.fresh, a.cells.inj⟩, tk := a.tk } ⟨rfl, rfl, im, Nat.le_refl _⟩
    · rw [q, a.cells.fresh x c hz hk' hc] at e; cases e
    · intro y Y hy
      by_cases e : y = x
      · subst e; rw [lookup_cons_eq] at hy; cases hy
        exact .inr (.inl ⟨hk', c, v, hc, hi', r.imm im⟩)
      · rw [lookup_cons_ne e] at hy
        rcases R y Y hy with ⟨a1, w, a2, a3⟩ | ⟨a1, c', w, a2, a3, a4⟩ | ⟨a1, c', w, a2, a3, a4⟩
        · exact .inl ⟨a1, w, a2, a3.imm im⟩
        · exact .inr (.inl ⟨a1, c', w, a2, cellk _ _ (fun q => e (a.cells.inj _ _ _ (q ▸ a2) hc)) a3, a4.imm im⟩)
        · exact .inr (.inr ⟨a1, c', w, a2, cellk _ _ (fun q => e (a.cells.inj _ _ _ (q ▸ a2) hc)) a3, a4.imm im⟩)
    · by_cases q : c' = c
      · subst q; exact ⟨_, hi'⟩
      · obtain ⟨v, i⟩ := a.cells.cell y c' e e'
        exact ⟨v, cellk _ _ q i⟩

/-! further expressions -/
theorem EvE_ifexp {t e₁ e₂ : Expr} {pos : Pos} {P : V → Rho → Prop}
    (h : EvT S d cs t ρ (fun b ρ₁ => (b = true → EvE S d cs e₁ ρ₁ P X) ∧ (b = false → EvE S d cs e₂ ρ₁ P X)) X) : EvE S d cs (.IfExp t e₁ e₂ pos) ρ P X := by
  refine ⟨⟨fun l s Q E a hQ hE => ?_⟩⟩
  refine IfExp_ (h.at a hE fun v x ρ₁ s₁ a₁ n₁ r₁ p₁ hE₁ => ?_)
  cases r₁
  cases v with
  | true => simp only [if_true]; exact (p₁.1 rfl).at a₁ hE₁ fun w y ρ₂ s₂ a₂ n₂ r₂ p₂ _ => hQ _ _ _ _ a₂ (n₁.trans n₂) r₂ p₂
  | false => simp only [Bool.false_eq_true, if_false]; exact (p₁.2 rfl).at a₁ hE₁ fun w y ρ₂ s₂ a₂ n₂ r₂ p₂ _ => hQ _ _ _ _ a₂ (n₁.trans n₂) r₂ p₂
theorem EvE_one {op : BoolOp} {e : Expr} {pos : Pos} {P : V → Rho → Prop} (h : EvE S d cs e ρ P X) : EvE S d cs (.BoolOp op [e] pos) ρ P X := by
  refine ⟨⟨fun l s Q E a hQ hE => ?_⟩⟩
  exact BoolOp_one (h.ev.run l s Q E a hQ hE)
theorem EvE_and {e e' : Expr} {es : List Expr} {pos : Pos} {P : V → Rho → Prop}
    (h : EvE S d cs e ρ (fun x ρ₁ => ∃ b, TruthIs x b ∧ (b = true → EvE S d cs (.BoolOp .And (e' :: es) pos) ρ₁ P X) ∧ (b = false → P x ρ₁)) X) : EvE S d cs (.BoolOp .And (e :: e' :: es) pos) ρ P X := by
  refine ⟨⟨fun l s Q E a hQ hE => ?_⟩⟩
  refine BoolOp_and (h.at a hE fun v x ρ₁ s₁ a₁ n₁ r₁ p₁ hE₁ => ?_)
  obtain ⟨b, hb, pt, pf⟩ := p₁
  refine Ev.un (un_truthy (S := S) (d := d) (X := X) (P := fun c => c = b) ⟨b, hb, rfl⟩) a₁ r₁ hE₁ fun z Z s₃ a₃ k₃ r₃ p₃ => ?_
  cases r₃; subst p₃
  have hE₃ : X → ∀ e s', Fly S.base l.fl e s'.heap → Nt s₃ s' → E (.ref e) s' := fun hX e s' f n => hE₁ hX e s' f (k₃.nt.trans n)
  cases z with
  | true => simp only [if_true]; exact (pt rfl).at a₃ hE₃ fun w y ρ₂ s₂ a₂ n₂ r₂ p₂ _ => hQ _ _ _ _ a₂ (n₁.trans (k₃.nx.trans n₂)) r₂ p₂
  | false => simp only [Bool.false_eq_true, if_false]; exact hQ _ _ _ _ a₃ (n₁.trans k₃.nx) (r₁.imm k₃.nx.imm) (pf rfl)
theorem EvE_or {e e' : Expr} {es : List Expr} {pos : Pos} {P : V → Rho → Prop}
    (h : EvE S d cs e ρ (fun x ρ₁ => ∃ b, TruthIs x b ∧ (b = false → EvE S d cs (.BoolOp .Or (e' :: es) pos) ρ₁ P X) ∧ (b = true → P x ρ₁)) X) : EvE S d cs (.BoolOp .Or (e :: e' :: es) pos) ρ P X := by
  refine ⟨⟨fun l s Q E a hQ hE => ?_⟩⟩
  refine BoolOp_or (h.at a hE fun v x ρ₁ s₁ a₁ n₁ r₁ p₁ hE₁ => ?_)
  obtain ⟨b, hb, pf, pt⟩ := p₁
  refine Ev.un (un_truthy (S := S) (d := d) (X := X) (P := fun c => c = b) ⟨b, hb, rfl⟩) a₁ r₁ hE₁ fun z Z s₃ a₃ k₃ r₃ p₃ => ?_
  cases r₃; subst p₃
  have hE₃ : X → ∀ e s', Fly S.base l.fl e s'.heap → Nt s₃ s' → E (.ref e) s' := fun hX e s' f n => hE₁ hX e s' f (k₃.nt.trans n)
  cases z with
  | false => simp only [Bool.false_eq_true, if_false]; exact (pf rfl).at a₃ hE₃ fun w y ρ₂ s₂ a₂ n₂ r₂ p₂ _ => hQ _ _ _ _ a₂ (n₁.trans (k₃.nx.trans n₂)) r₂ p₂
  | true => simp only [if_true]; exact hQ _ _ _ _ a₃ (n₁.trans k₃.nx) (r₁.imm k₃.nx.imm) (pt rfl)

theorem EvE_walrus {x : Str} {np pos : Pos} {e : Expr} {P : V → Rho → Prop} (h : EvE S d cs e ρ (fun x' ρ₁ => P x' ((x, x') :: ρ₁)) X)
    (hk : cs.names.lookup x = some .local ∨ (cs.names.lookup x = some .cell ∧ cs.names.lookup dot0 = none) := by first | exact .inl rfl | exact .inr ⟨rfl, rfl⟩) : EvE S d cs (.NamedExpr (.Name x np) e pos) ρ P X := by
  refine ⟨⟨fun l s Q E a hQ hE => ?_⟩⟩
  refine wpAny_NamedExpr (h.at a hE fun v x' ρ₁ s₁ a₁ n₁ r₁ p₁ hE₁ => ?_)
  exact PyProof.Rows.assign_Name (a₁.store r₁ hk fun s₂ a₂ n₂ => hQ _ _ _ _ a₂ (n₁.trans n₂) (r₁.imm n₂.imm) p₁)

theorem EvT_name {x : Str} {pos : Pos} {P : Bool → Rho → Prop} (h : EvE S d cs (.Name x pos) ρ (fun x ρ₁ => ∃ b, TruthIs x b ∧ P b ρ₁) X) : EvT S d cs (.Name x pos) ρ P X := EvT_plain h (fun _ _ => rfl)
theorem EvT_call {f : Expr} {es : List Expr} {kw : List Keyword} {pos : Pos} {P : Bool → Rho → Prop} (h : EvE S d cs (.Call f es kw pos) ρ (fun x ρ₁ => ∃ b, TruthIs x b ∧ P b ρ₁) X) : EvT S d cs (.Call f es kw pos) ρ P X := EvT_plain h (fun _ _ => rfl)
theorem EvT_sub {f g : Expr} {pos : Pos} {P : Bool → Rho → Prop} (h : EvE S d cs (.Subscript f g pos) ρ (fun x ρ₁ => ∃ b, TruthIs x b ∧ P b ρ₁) X) : EvT S d cs (.Subscript f g pos) ρ P X := EvT_plain h (fun _ _ => rfl)
theorem EvT_bin {f g : Expr} {op : Operator} {pos : Pos} {P : Bool → Rho → Prop} (h : EvE S d cs (.BinOp f op g pos) ρ (fun x ρ₁ => ∃ b, TruthIs x b ∧ P b ρ₁) X) : EvT S d cs (.BinOp f op g pos) ρ P X := EvT_plain h (fun _ _ => rfl)

/-! argument lists -/
theorem EvL_nil {pos : Pos} {P : List V → Rho → Prop} (p : P [] ρ) : EvL S d cs pos [] ρ P X := by
  refine ⟨⟨fun l s Q E a hQ hE => ?_⟩⟩
  exact args_nil (hQ _ _ _ _ a (Nx.refl _) .nil p)
theorem EvL_cons {pos : Pos} {e : Expr} {es : List Expr} {P : List V → Rho → Prop} (h : EvE S d cs e ρ (fun x ρ₁ => EvL S d cs pos es ρ₁ (fun xs ρ₂ => P (x :: xs) ρ₂) X) X)
    (he : plainArg e = true := by rfl) : EvL S d cs pos (e :: es) ρ P X := by
  refine ⟨⟨fun l s Q E a hQ hE => ?_⟩⟩
  refine args_cons (h.at a hE fun v x' ρ₁ s₁ a₁ n₁ r₁ p₁ hE₁ => ?_) (starEach_plain he)
  exact p₁.at a₁ hE₁ fun w y ρ₂ s₂ a₂ n₂ r₂ p₂ _ => hQ _ _ _ _ a₂ (n₁.trans n₂) (.cons (r₁.imm n₂.imm) r₂) p₂

/-! displays -/
theorem fits_push {s : Shared} {o : Obj} : Kp s { s with heap := s.heap.push o } := ⟨rfl, rfl, fun _ _ e => Heap.get?_push_of_some _ e, Nat.le_refl _⟩
theorem repL_length {b h : Heap} : ∀ {vs : List Value} {xs : List V}, RepL b h vs xs → vs.length = xs.length
  | _, _, .nil => rfl
  | _, _, .cons _ r => congrArg (· + 1) (repL_length r)
theorem EvE_tuple {es : List Expr} {k : Nat} {pos : Pos} {P : V → Rho → Prop} (h : EvL S d cs pos es ρ (fun xs ρ₁ => xs.length ≤ 1000 ∧ P (.tup xs) ρ₁) X) : EvE S d cs (.Tuple es k pos) ρ P X := by
  refine ⟨⟨fun l s Q E a hQ hE => ?_⟩⟩
  refine Tuple_ (h.at a hE fun v x' ρ₁ s₁ a₁ n₁ r₁ p₁ hE₁ => ?_)
  have hl := repL_length r₁
  have hp := p₁.1
  refine wpAny_newTuple ?_ (by rw [sizeLine_eq]; omega)
  have kp := fits_push (s := s₁) (o := { cls := .type "tuple", data := .seq v.toArray })
  exact hQ _ _ _ _ (a₁.kp kp) (n₁.trans kp.nx) (.tup ⟨_, Heap.get?_push_size _ rfl, rfl, _, rfl⟩ (r₁.imm kp.nx.imm)) p₁.2
theorem EvE_list {es : List Expr} {pos : Pos} {P : V → Rho → Prop} (h : EvL S d cs pos es ρ (fun xs ρ₁ => xs.length ≤ 1000 ∧ P (.list xs) ρ₁) X) : EvE S d cs (.List es pos) ρ P X := by
  refine ⟨⟨fun l s Q E a hQ hE => ?_⟩⟩
  refine List_ (h.at a hE fun v x' ρ₁ s₁ a₁ n₁ r₁ p₁ hE₁ => ?_)
  have hl := repL_length r₁
  have hp := p₁.1
  refine wpAny_newList ?_ (by rw [sizeLine_eq]; omega)
  have kp := fits_push (s := s₁) (o := { cls := .type "list", data := .seq v.toArray })
  exact hQ _ _ _ _ (a₁.kp kp) (n₁.trans kp.nx) (.list ⟨_, Heap.get?_push_size _ rfl, rfl, _, rfl⟩ (r₁.imm kp.nx.imm)) p₁.2

/-! calls -/
def CanCall (S : Sy) (f : Value) : Prop := (∃ a o fd, f = .ref a ∧ S.K.lookup a = some o ∧ o.data = .func fd) ∨ (∃ id, f = .builtin id) ∨ (∃ T, f = .type T)

theorem Ev.call {l : Loc} {s : Shared} {fv : Value} {vs : List Value} {f : V} {as : List V} {P : V → Prop} {Q : Value → Shared → Prop} {E : Value → Shared → Prop} (h : CallW S d f as P X)
    (a : At S d cs l ρ s) (r : Rep S.base s.heap fv f) (r' : RepL S.base s.heap vs as) (hE : X → ∀ e s', Fly S.base l.fl e s'.heap → Nt s s' → E (.ref e) s')
    (k : ∀ v V s', At S d cs l ρ s' → Kp s s' → Rep S.base s'.heap v V → P V → Q v s') : wpAny (model S.prog S.w) l.A (call fv vs) Q E s :=
  (h.run _ _ _ _ _ a.pl r r').at hE fun v V s' kp r p => k v V s' (a.kp kp) kp r p

theorem EvE_call {g : Str} {gp : Pos} {e : Expr} {es : List Expr} {pos : Pos} {P : V → Rho → Prop}
    (h : EvE S d cs (.Name g gp) ρ (fun F ρ₁ => ∃ fv, F = .raw fv ∧ CanCall S fv ∧ EvL S d cs pos (e :: es) ρ₁ (fun as ρ₂ => CallW S d (.raw fv) as (fun r => P r ρ₂) X) X) X)
    (he : plainArg e = true := by rfl) (hs : es.all plainArg = true := by rfl) :
    EvE S d cs (.Call (.Name g gp) (e :: es) [] pos) ρ P X := by
  refine ⟨⟨fun l s Q E a hQ hE => ?_⟩⟩
  refine Call_ (h.at a hE fun fv F ρ₁ s₁ a₁ n₁ r₁ p₁ hE₁ => ?_) (hc_name _ _ _ _ _)
  obtain ⟨fv', rfl, hcan, hl⟩ := p₁
  cases r₁
  have fin : ∀ vs xs ρ₂ s₂, At S d cs l ρ₂ s₂ → Nx s₁ s₂ → RepL S.base s₂.heap vs xs → CallW S d (.raw fv) xs (fun r => P r ρ₂) X →
      (X → ∀ e s'', Fly S.base l.fl e s''.heap → Nt s₂ s'' → E (.ref e) s'') → wpAny (model S.prog S.w) l.A (call fv vs) Q E s₂ := fun vs xs ρ₂ s₂ a₂ n₂ r₂ p₂ hE₂ =>
    Ev.call p₂ a₂ (.raw fv) r₂ hE₂ fun z Z s₃ a₃ k₃ r₃ p₃ => hQ _ _ _ _ a₃ (n₁.trans (n₂.trans k₃.nx)) r₃ p₃
  rcases hcan with ⟨fa, o, fd, rfl, ho, hd⟩ | ⟨id, rfl⟩ | ⟨T, rfl⟩
  · have hx : ∀ {ρ' s'}, At S d cs l ρ' s' → s'.heap.get? fa = some o := fun b => let ⟨_, F, _⟩ := b.F; (b.ok.keeps F.keep).x _ _ ho
    refine callWith_def_at (hx a₁) hd (hl.at a₁ hE₁ fun vs xs ρ₂ s₂ a₂ n₂ r₂ p₂ hE₂ => ?_) (starEach_plain he)
    exact ⟨hx a₂, fin vs xs ρ₂ s₂ a₂ n₂ r₂ p₂ hE₂⟩
  · exact PyProof.Rows.callWith_builtin1 (hl.at a₁ hE₁ fun vs xs ρ₂ s₂ a₂ n₂ r₂ p₂ hE₂ => fin vs xs ρ₂ s₂ a₂ n₂ r₂ p₂ hE₂) (starEach_plain he) (any_plain hs)
  · exact PyProof.Rows.callWith_type1 (hl.at a₁ hE₁ fun vs xs ρ₂ s₂ a₂ n₂ r₂ p₂ hE₂ => fin vs xs ρ₂ s₂ a₂ n₂ r₂ p₂ hE₂) (starEach_plain he) (any_plain hs)

/-- the method of a plain value: its built-in's name -/
def MethIs (S : Sy) (o : V) (n : Str) (id : String) : Prop :=
  ∀ (A : Around) (s : Shared) (v : Value) (pl : Sem Bool) (Q : Value × List Value → Shared → Prop) (E : Value → Shared → Prop), Rep S.base s.heap v o → Q (.builtin id, [v]) s → wpAny (model S.prog S.w) A (getMethod v n pl) Q E s

theorem EvE_meth0 {o : Expr} {n : Str} {ap pos : Pos} {P : V → Rho → Prop}
    (h : EvE S d cs o ρ (fun x ρ₁ => ∃ id, MethIs S x n id ∧ CallW S d (.raw (.builtin id)) [x] (fun r => P r ρ₁) X) X)
    (hb : ∀ env, attributeBase o n env (eval o env) = eval o env := by intros; rfl) (hpos : (ap.endLine == pos.line) = true := by rfl) :
    EvE S d cs (.Call (.Attribute o n ap) [] [] pos) ρ P X := by
  refine ⟨⟨fun l s Q E a hQ hE => ?_⟩⟩
  refine MethodCall_ (h.at a hE fun v x ρ₁ s₁ a₁ n₁ r₁ p₁ hE₁ => ?_) (hc_meth _ _ _ _ _ _ (hb _) rfl (by decide) hpos)
  obtain ⟨id, hm, hcall⟩ := p₁
  refine hm _ _ _ _ _ _ r₁ (callWith_method0 ?_)
  exact Ev.call hcall a₁ (.raw _) (.cons r₁ .nil) hE₁ fun z Z s₃ a₃ k₃ r₃ p₃ => hQ _ _ _ _ a₃ (n₁.trans k₃.nx) r₃ p₃

theorem EvE_meth {o : Expr} {n : Str} {ap pos : Pos} {e : Expr} {es : List Expr} {P : V → Rho → Prop}
    (h : EvE S d cs o ρ (fun x ρ₁ => ∃ id, MethIs S x n id ∧ EvL S d cs pos (e :: es) ρ₁ (fun as ρ₂ => CallW S d (.raw (.builtin id)) (x :: as) (fun r => P r ρ₂) X) X) X)
    (he : plainArg e = true := by rfl) (hs : es.all plainArg = true := by rfl) (hl : (e :: es).length < 30 := by decide)
    (hb : ∀ env, attributeBase o n env (eval o env) = eval o env := by intros; rfl) (hpos : (ap.endLine == pos.line) = true := by rfl) :
    EvE S d cs (.Call (.Attribute o n ap) (e :: es) [] pos) ρ P X := by
  refine ⟨⟨fun l s Q E a hQ hE => ?_⟩⟩
  refine MethodCall_ (h.at a hE fun v x ρ₁ s₁ a₁ n₁ r₁ p₁ hE₁ => ?_) (hc_meth _ _ _ _ _ _ (hb _) (by rw [List.all_cons, he, hs]; rfl) hl hpos)
  obtain ⟨id, hm, hl⟩ := p₁
  refine hm _ _ _ _ _ _ r₁ (callWith_method1 (hl.at a₁ hE₁ fun vs xs ρ₂ s₂ a₂ n₂ r₂ p₂ hE₂ => ?_) (starEach_plain he) (any_plain hs))
  exact Ev.call p₂ a₂ (.raw _) (.cons (r₁.imm n₂.imm) r₂) hE₂ fun z Z s₃ a₃ k₃ r₃ p₃ => hQ _ _ _ _ a₃ (n₁.trans (n₂.trans k₃.nx)) r₃ p₃

/-! items -/
theorem EvE_sub {value slice : Expr} {pos : Pos} {P : V → Rho → Prop}
    (h : EvE S d cs value ρ (fun x ρ₁ => EvE S d cs slice ρ₁ (fun i ρ₂ => SubW S d value slice x i (fun r => P r ρ₂) X) X) X) : EvE S d cs (.Subscript value slice pos) ρ P X := by
  refine ⟨⟨fun l s Q E a hQ hE => ?_⟩⟩
  refine Subscript_ (h.at a hE fun v x ρ₁ s₁ a₁ n₁ r₁ p₁ hE₁ => ?_)
  refine p₁.at a₁ hE₁ fun w y ρ₂ s₂ a₂ n₂ r₂ p₂ hE₂ => ?_
  exact Ev.bi p₂.run a₂ (r₁.imm n₂.imm) r₂ hE₂ fun z Z s₃ a₃ k₃ r₃ p₃ => hQ _ _ _ _ a₃ (n₁.trans (n₂.trans k₃.nx)) r₃ p₃

/-! statements -/
theorem ExS_nil {P : Fw → Rho → Prop} (p : P .next ρ) : ExS S d cs [] ρ P X := by
  refine ⟨⟨fun l s Q E a hQ hE => ?_⟩⟩
  exact wpAny_execs_nil (hQ _ _ _ _ a (Nx.refl _) .next p)
theorem ExS_cons {st : Stmt} {rest : List Stmt} {P : Fw → Rho → Prop}
    (h : Ex1 S d cs st ρ (fun f ρ₁ => match f with | .next => ExS S d cs rest ρ₁ P X | f => P f ρ₁) X) : ExS S d cs (st :: rest) ρ P X := by
  refine ⟨⟨fun l s Q E a hQ hE => ?_⟩⟩
  refine wpAny_execs_cons (h.at a hE fun v x ρ₁ s₁ a₁ n₁ r₁ p₁ hE₁ => ?_)
  cases r₁ with
  | next => exact p₁.at a₁ hE₁ fun w y ρ₂ s₂ a₂ n₂ r₂ p₂ _ => hQ _ _ _ _ a₂ (n₁.trans n₂) r₂ p₂
  | brk => exact hQ _ _ _ _ a₁ n₁ .brk p₁
  | cont => exact hQ _ _ _ _ a₁ n₁ .cont p₁
  | ret r => exact hQ _ _ _ _ a₁ n₁ (.ret r) p₁
theorem Ex1_assign {x : Str} {np pos : Pos} {e : Expr} {P : Fw → Rho → Prop} (h : EvE S d cs e ρ (fun x' ρ₁ => P .next ((x, x') :: ρ₁)) X)
    (hk : cs.names.lookup x = some .local ∨ (cs.names.lookup x = some .cell ∧ cs.names.lookup dot0 = none) := by first | exact .inl rfl | exact .inr ⟨rfl, rfl⟩)
    (hs : ∀ env, swapsWith e (some (.Name x np)) pos.line env = pure false := by intros; rfl) : Ex1 S d cs (.Assign [.Name x np] e pos) ρ P X := by
  refine ⟨⟨fun l s Q E a hQ hE => ?_⟩⟩
  refine wpAny_Assign_Name (h.at a hE fun v x' ρ₁ s₁ a₁ n₁ r₁ p₁ hE₁ => ?_) (hs _)
  exact a₁.store r₁ hk fun s₂ a₂ n₂ => hQ _ _ _ _ a₂ (n₁.trans n₂) .next p₁
theorem Ex1_aug {x : Str} {np pos : Pos} {op : Operator} {e : Expr} {x₀ : V} {P : Fw → Rho → Prop} (hx : ρ.lookup x = some x₀)
    (h : EvE S d cs e ρ (fun y ρ₁ => InpW S d op x₀ y (fun r => P .next ((x, r) :: ρ₁)) X) X)
    (hk : cs.names.lookup x = some .local ∨ (cs.names.lookup x = some .cell ∧ cs.names.lookup dot0 = none) := by first | exact .inl rfl | exact .inr ⟨rfl, rfl⟩)
    (hc : (x == ("__classdict__" : Str)) = false := by decide) : Ex1 S d cs (.AugAssign (.Name x np) op e pos) ρ P X := by
  refine ⟨⟨fun l s Q E a hQ hE => ?_⟩⟩
  have ld : ∀ {Q' : Value → Shared → Prop}, (∀ v, Rep S.base s.heap v x₀ → Q' v s) → wpAny (model S.prog S.w) l.A (loadName l.env x) Q' E s := fun {Q'} k => by
    obtain ⟨m, F, R⟩ := a.F
    have hkf : l.env.scope.kind = .function := by rw [a.scope]; exact a.kind
    have hn : s.heap.Ns l.env.locals m := by rw [a.locals]; exact F.ns
    rcases R x x₀ hx with ⟨hl, v, hm, hr⟩ | ⟨hl, c, v, hcl, hi, hr⟩ | ⟨hl, c, v, hcl, hi, hr⟩
    · exact wpAny_loadName_local hkf hl hn hm (k _ hr)
    · exact wpAny_loadName_cell hkf hl hcl hi (k _ hr)
    · exact wpAny_loadName_free hkf hl hcl hi (k _ hr) hc
  refine wpAny_AugAssign_Name (ld fun v r => h.at a hE fun w y ρ₁ s₁ a₁ n₁ r₁ p₁ hE₁ => ?_)
  refine Ev.bi p₁.run a₁ (r.imm n₁.imm) r₁ hE₁ fun z Z s₃ a₃ k₃ r₃ p₃ => ?_
  exact a₃.store r₃ hk fun s₄ a₄ n₄ => hQ _ _ _ _ a₄ (n₁.trans (k₃.nx.trans n₄)) .next p₃
theorem Ex1_if {t : Expr} {b₁ b₂ : List Stmt} {pos : Pos} {P : Fw → Rho → Prop}
    (h : EvT S d cs t ρ (fun b ρ₁ => (b = true → ExS S d cs b₁ ρ₁ P X) ∧ (b = false → ExS S d cs b₂ ρ₁ P X)) X) : Ex1 S d cs (.If t b₁ b₂ pos) ρ P X := by
  refine ⟨⟨fun l s Q E a hQ hE => ?_⟩⟩
  refine wpAny_If (h.at a hE fun v x ρ₁ s₁ a₁ n₁ r₁ p₁ hE₁ => ?_)
  cases r₁
  cases v with
  | true => simp only [if_true]; exact (p₁.1 rfl).at a₁ hE₁ fun w y ρ₂ s₂ a₂ n₂ r₂ p₂ _ => hQ _ _ _ _ a₂ (n₁.trans n₂) r₂ p₂
  | false => simp only [Bool.false_eq_true, if_false]; exact (p₁.2 rfl).at a₁ hE₁ fun w y ρ₂ s₂ a₂ n₂ r₂ p₂ _ => hQ _ _ _ _ a₂ (n₁.trans n₂) r₂ p₂
theorem Ex1_ret {e : Expr} {pos : Pos} {P : Fw → Rho → Prop} (h : EvE S d cs e ρ (fun x ρ₁ => P (.ret x) ρ₁) X) : Ex1 S d cs (.Return (some e) pos) ρ P X := by
  refine ⟨⟨fun l s Q E a hQ hE => ?_⟩⟩
  exact wpAny_Return_some (h.at a hE fun v x ρ₁ s₁ a₁ n₁ r₁ p₁ _ => hQ _ _ _ _ a₁ n₁ (.ret r₁) p₁)
theorem Ex1_assert {t : Expr} {msg : Option Expr} {pos : Pos} {P : Fw → Rho → Prop} (h : EvT S d cs t ρ (fun b ρ₁ => b = true ∧ P .next ρ₁) X) : Ex1 S d cs (.Assert t msg pos) ρ P X := by
  refine ⟨⟨fun l s Q E a hQ hE => ?_⟩⟩
  exact wpAny_Assert_holds (h.at a hE fun v x ρ₁ s₁ a₁ n₁ r₁ p₁ _ => by cases r₁; exact ⟨p₁.1, hQ _ _ _ _ a₁ n₁ .next p₁.2⟩)
theorem excClass_V : ∃ N I, ExcClass "ValueError" N I := ⟨_, _, excClass_ValueError⟩
theorem Ex1_raise {e : Expr} {pos : Pos} {P : Fw → Rho → Prop} (h : EvE S d cs e ρ (fun x _ => x = .exc ∧ X) X) : Ex1 S d cs (.Raise (some e) none pos) ρ P X := by
  refine ⟨⟨fun l s Q E a hQ hE => ?_⟩⟩
  refine Raise_new a.hd (h.at a hE fun v x ρ₁ s₁ a₁ n₁ r₁ p₁ hE₁ => ?_)
  obtain ⟨rfl, hX⟩ := p₁
  cases r₁ with
  | @exc ea ob vs h1 h2 h3 h4 h5 =>
    obtain ⟨N, I, hc⟩ := excClass_V
    have p := a₁.pl
    exact ⟨ea, ob, vs, "ValueError", N, I, hc, rfl, h1, h2, h3, h4, hE₁ hX _ _ (.inl ⟨p.st, p.ff, h5, ob, vs, h1, h2, h3, h4⟩) (Nt.refl _)⟩

end
end Mine
end

section
open PySem PySem.W PySem.Calls PyProof.Rows
set_option Elab.async false
set_option maxRecDepth 100000
namespace Mine
section
variable {S : Sy} {d : Nat} {cs : Scope} {ρ : Rho} {X : Prop}

/-! ints -/
theorem Wk.tok {t : Sem Value} {P : V → Prop} {A : Around} {fl : List Env} {s : Shared} {x : Int}
    (h : ∀ (Q : Value → Shared → Prop) (E : Value → Shared → Prop), Q (.int x s.toks) { s with toks := s.toks + 1 } → wpAny (model S.prog S.w) A t Q E s)
    (p : P (.int x)) : Wk S t (Rep S.base) s A fl P X :=
  .val (V := .int x) (fun Q E q => h Q E (q _ _ (.int _ _) rfl rfl rfl)) p

theorem bi_add {x y : Int} {P : V → Prop} (p : P (.int (x + y))) : BinW S d .Add (.int x) (.int y) P X := by
  refine ⟨⟨fun A fl s v w pl r r' => ?_⟩⟩; cases r; cases r'; exact .tok (fun Q E q => add_int q) p
theorem bi_sub {x y : Int} {P : V → Prop} (p : P (.int (x - y))) : BinW S d .Sub (.int x) (.int y) P X := by
  refine ⟨⟨fun A fl s v w pl r r' => ?_⟩⟩; cases r; cases r'; exact .tok (fun Q E q => sub_int q) p
theorem bi_mul {x y : Int} {P : V → Prop} (hm : IntMulOk x y) (p : P (.int (x * y))) : BinW S d .Mult (.int x) (.int y) P X := by
  refine ⟨⟨fun A fl s v w pl r r' => ?_⟩⟩; cases r; cases r'; exact .tok (fun Q E q => mul_int q hm) p
theorem bi_fdiv {x y : Int} {P : V → Prop} (hy : y ≠ 0) (hl : y.natAbs.log2 < 9000) (p : P (.int (x.fdiv y))) : BinW S d .FloorDiv (.int x) (.int y) P X := by
  refine ⟨⟨fun A fl s v w pl r r' => ?_⟩⟩; cases r; cases r'; exact .tok (fun Q E q => floordiv_int hy q (.inl (PyProof.noPylong_of_log2 hl))) p
theorem bi_mod {x y : Int} {P : V → Prop} (hy : y ≠ 0) (p : P (.int (x.fmod y))) : BinW S d .Mod (.int x) (.int y) P X := by
  refine ⟨⟨fun A fl s v w pl r r' => ?_⟩⟩; cases r; cases r'; exact .tok (fun Q E q => mod_int' hy q) p
theorem bi_pow {x y : Int} {P : V → Prop} (h0 : 0 ≤ y) (hl : (Builtin.Int.intBits x : Int) * y ≤ 2 ^ 27) (p : P (.int (x ^ y.toNat))) : BinW S d .Pow (.int x) (.int y) P X := by
  refine ⟨⟨fun A fl s v w pl r r' => ?_⟩⟩; cases r; cases r'; exact .tok (fun Q E q => pow_int h0 hl q) p
theorem bi_shl {x y : Int} {P : V → Prop} (h0 : 0 ≤ y) (hl : (Builtin.Int.intBits x : Int) + y ≤ 2 ^ 27) (p : P (.int (x * 2 ^ y.toNat))) : BinW S d .LShift (.int x) (.int y) P X := by
  refine ⟨⟨fun A fl s v w pl r r' => ?_⟩⟩; cases r; cases r'; exact .tok (fun Q E q => lshift_int h0 hl q) p
theorem bi_shr {x y : Int} {P : V → Prop} (h0 : 0 ≤ y) (p : P (.int (x.fdiv (2 ^ y.toNat)))) : BinW S d .RShift (.int x) (.int y) P X := by
  refine ⟨⟨fun A fl s v w pl r r' => ?_⟩⟩; cases r; cases r'; exact .tok (fun Q E q => rshift_int h0 q) p
theorem bi_and {x y : Int} {P : V → Prop} (p : P (.int (Builtin.bitAnd x y))) : BinW S d .BitAnd (.int x) (.int y) P X := by
  refine ⟨⟨fun A fl s v w pl r r' => ?_⟩⟩; cases r; cases r'; exact .tok (fun Q E q => and_int q) p
theorem bi_xor {x y : Int} {P : V → Prop} (p : P (.int (Builtin.bitXor x y))) : BinW S d .BitXor (.int x) (.int y) P X := by
  refine ⟨⟨fun A fl s v w pl r r' => ?_⟩⟩; cases r; cases r'; exact .tok (fun Q E q => xor_int q) p
theorem ib_add {x y : Int} {P : V → Prop} (p : P (.int (x + y))) : InpW S d .Add (.int x) (.int y) P X := by
  refine ⟨⟨fun A fl s v w pl r r' => ?_⟩⟩; cases r; cases r'; exact .tok (fun Q E q => iadd_int q) p
theorem ib_sub {x y : Int} {P : V → Prop} (p : P (.int (x - y))) : InpW S d .Sub (.int x) (.int y) P X := by
  refine ⟨⟨fun A fl s v w pl r r' => ?_⟩⟩; cases r; cases r'; exact .tok (fun Q E q => isub_int q) p
theorem ib_shl {x y : Int} {P : V → Prop} (h0 : 0 ≤ y) (hl : (Builtin.Int.intBits x : Int) + y ≤ 2 ^ 27) (p : P (.int (x * 2 ^ y.toNat))) : InpW S d .LShift (.int x) (.int y) P X := by
  refine ⟨⟨fun A fl s v w pl r r' => ?_⟩⟩; cases r; cases r'
  exact .tok (fun Q E q => ilshift_int_or pl.hd (fun h => absurd h (by omega)) (fun _ => hl) fun _ => q) p
theorem ib_shr {x y : Int} {P : V → Prop} (h0 : 0 ≤ y) (p : P (.int (x.fdiv (2 ^ y.toNat)))) : InpW S d .RShift (.int x) (.int y) P X := by
  refine ⟨⟨fun A fl s v w pl r r' => ?_⟩⟩; cases r; cases r'; exact .tok (fun Q E q => irshift_int h0 q) p
theorem ib_xor {x y : Int} {P : V → Prop} (p : P (.int (Builtin.bitXor x y))) : InpW S d .BitXor (.int x) (.int y) P X := by
  refine ⟨⟨fun A fl s v w pl r r' => ?_⟩⟩; cases r; cases r'; exact .tok (fun Q E q => ixor_int q) p

theorem Wk.bl {t : Sem Value} {P : V → Prop} {A : Around} {fl : List Env} {s : Shared} {x : Bool}
    (h : ∀ (Q : Value → Shared → Prop) (E : Value → Shared → Prop), Q (.bool x) s → wpAny (model S.prog S.w) A t Q E s)
    (p : P (.bool x)) : Wk S t (Rep S.base) s A fl P X :=
  .val (V := .bool x) (fun Q E q => h Q E (q _ _ (.bool _) rfl rfl rfl)) p
theorem cmp_lt {x y : Int} {P : V → Prop} (p : P (.bool (decide (x < y)))) : CmpW S d .Lt (.int x) (.int y) P X := by
  refine ⟨⟨fun A fl s v w pl r r' => ?_⟩⟩; cases r; cases r'; exact .bl (fun Q E q => lt_int q) p
theorem cmp_gt {x y : Int} {P : V → Prop} (p : P (.bool (decide (x > y)))) : CmpW S d .Gt (.int x) (.int y) P X := by
  refine ⟨⟨fun A fl s v w pl r r' => ?_⟩⟩; cases r; cases r'; exact .bl (fun Q E q => gt_int q) p
theorem cmp_le {x y : Int} {P : V → Prop} (p : P (.bool (decide (x ≤ y)))) : CmpW S d .LtE (.int x) (.int y) P X := by
  refine ⟨⟨fun A fl s v w pl r r' => ?_⟩⟩; cases r; cases r'; exact .bl (fun Q E q => le_int q) p
theorem cmp_ge {x y : Int} {P : V → Prop} (p : P (.bool (decide (x ≥ y)))) : CmpW S d .GtE (.int x) (.int y) P X := by
  refine ⟨⟨fun A fl s v w pl r r' => ?_⟩⟩; cases r; cases r'; exact .bl (fun Q E q => ge_int q) p
theorem cmp_eq {x y : Int} {P : V → Prop} (p : P (.bool (x == y))) : CmpW S d .Eq (.int x) (.int y) P X := by
  refine ⟨⟨fun A fl s v w pl r r' => ?_⟩⟩; cases r; cases r'; exact .bl (fun Q E q => eq_int q) p
theorem cmp_ne {x y : Int} {P : V → Prop} (p : P (.bool (x != y))) : CmpW S d .NotEq (.int x) (.int y) P X := by
  refine ⟨⟨fun A fl s v w pl r r' => ?_⟩⟩; cases r; cases r'; exact .bl (fun Q E q => ne_int q) p
theorem cmp_eqS {x y : Str} {P : V → Prop} (p : P (.bool (x == y))) : CmpW S d .Eq (.str x) (.str y) P X := by
  refine ⟨⟨fun A fl s v w pl r r' => ?_⟩⟩; cases r; cases r'; exact .bl (fun Q E q => eq_str q) p

theorem un_neg {x : Int} {P : V → Prop} (p : P (.int (-x))) : UnW S d .USub (.int x) P X := by
  refine ⟨⟨fun A fl s v pl r => ?_⟩⟩; cases r; exact .tok (fun Q E q => neg_int q) p
theorem un_not {x : V} {P : V → Prop} (h : ∃ b, TruthIs x b ∧ P (.bool (!b))) : UnW S d .Not x P X := by
  refine ⟨⟨fun A fl s v pl r => ?_⟩⟩
  obtain ⟨b, hb, p⟩ := h
  cases r with
  | bool c => cases hb; exact .bl (fun Q E q => not_of (wpAny_truthy_bool q)) p
  | int i t => cases hb; exact .bl (fun Q E q => not_of (truthy_int q)) p
  | _ => exact hb.elim

/-! built-ins on ints -/
theorem call_bits {x : Int} {P : V → Prop} (p : P (.int (Builtin.Int.intBits x))) : CallW S d (.raw (.builtin "int.bit_length")) [.int x] P X := by
  refine ⟨fun A fl s fv vs pl r rl => ?_⟩; cases r; cases rl with | cons r rl => cases r; cases rl; exact .tok (fun Q E q => call_int_bit_length q) p
theorem meth_bits {x : Int} : MethIs S (.int x) "bit_length" "int.bit_length" := by
  intro A s v pl Q E r q; cases r; exact getMethod_int_bit_length q
theorem call_int1 {x : Int} {P : V → Prop} (p : P (.int x)) : CallW S d (.raw (.type "int")) [.int x] P X := by
  refine ⟨fun A fl s fv vs pl r rl => ?_⟩; cases r; cases rl with | cons r rl => cases r; cases rl; exact .val (V := .int x) (fun Q E q => call_int_int (q _ _ (.int _ _) rfl rfl rfl)) p
theorem call_isint {x : Int} {P : V → Prop} (p : P (.bool true)) : CallW S d (.raw (.builtin "isinstance")) [.int x, .raw (.type "int")] P X := by
  refine ⟨fun A fl s fv vs pl r rl => ?_⟩; cases r; cases rl with | cons r rl => cases r; cases rl with | cons r rl => cases r; cases rl; exact .bl (fun Q E q => call_isinstance_yes (typeIs_int _ _ _) meta_int sub_int_int q) p
theorem call_abs {x : Int} {P : V → Prop} (p : P (.int (if x < 0 then -x else x))) : CallW S d (.raw (.builtin "abs")) [.int x] P X := by
  refine ⟨fun A fl s fv vs pl r rl => ?_⟩; cases r; cases rl with | cons r rl => cases r; cases rl; exact .val (V := .int _) (fun Q E q => call_abs_int fun _ _ => q _ _ (.int _ _) rfl rfl rfl) p
theorem call_max {x y : Int} {P : V → Prop} (p : P (.int (if y > x then y else x))) : CallW S d (.raw (.builtin "max")) [.int x, .int y] P X := by
  refine ⟨fun A fl s fv vs pl r rl => ?_⟩; cases r; cases rl with | cons r rl => cases r with | int _ t₁ => cases rl with | cons r rl => cases r with | int _ t₂ => cases rl with | nil =>
    exact .of fun Q E q _ => max_two_ints pl.hd fun h' tk hk => by
      by_cases c : y > x
      · simp only [if_pos c] at p ⊢; exact q (.int y t₂) _ _ rfl rfl hk (.int _ _) p
      · simp only [if_neg c] at p ⊢; exact q (.int x t₁) _ _ rfl rfl hk (.int _ _) p
theorem call_divmod {x y : Int} {P : V → Prop} (hy : y ≠ 0) (hl : y.natAbs.log2 < 9000) (p : P (.tup [.int (x.fdiv y), .int (x.fmod y)])) : CallW S d (.raw (.builtin "divmod")) [.int x, .int y] P X := by
  refine ⟨fun A fl s fv vs pl r rl => ?_⟩; cases r; cases rl with | cons r rl => cases r with | int _ t₁ => cases rl with | cons r rl => cases r with | int _ t₂ => cases rl with | nil =>
    refine .of fun Q E q _ => divmod_int hy ?_ (.inl (PyProof.noPylong_of_log2 hl))
    refine q (.ref _) (.tup _) _ rfl rfl (fun _ _ e => Heap.get?_push_of_some _ e) (.tup (vs := [_, _]) ⟨_, Heap.get?_push_size _ rfl, rfl, _, rfl⟩ (.cons (.int _ _) (.cons (.int _ _) .nil))) p

/-! items of tuples and lists -/
theorem repL_get {b h : Heap} : ∀ {vs : List Value} {xs : List V} {n : Nat} {x : V}, RepL b h vs xs → xs[n]? = some x → ∃ v, vs[n]? = some v ∧ Rep b h v x
  | _, _, 0, _, .cons r _, e => by simp only [List.getElem?_cons_zero, Option.some.injEq] at e; subst e; exact ⟨_, rfl, r⟩
  | _, _, _ + 1, _, .cons _ r, e => by simp only [List.getElem?_cons_succ] at e ⊢; exact repL_get r e
  | _, _, _, _, .nil, e => by simp at e

theorem sub_tup {value slice : Expr} {xs : List V} {k : Int} {x : V} {P : V → Prop} {j : Nat} (hlo : -2 ^ 63 ≤ k) (hhi : k < 2 ^ 63) (hj : seqIndex? k xs.length = some j) (hx : xs[j]? = some x) (p : P x)
    (hs : ∀ a u, subscripted slice false (.ref a) (.int k u) = operate [.ref a, .int k u] (getItem (.ref a) (.int k u)) := by intros; with_unfolding_all rfl) : SubW S d value slice (.tup xs) (.int k) P X := by
  refine ⟨⟨fun A fl s v w pl r r' => ?_⟩⟩
  cases r with | tup ht rl => cases r' with | int _ u =>
  obtain ⟨v, hv, hr⟩ := repL_get rl hx
  refine .val (V := x) (fun Q E q => item_tupleT ht hlo hhi (by rw [repL_length rl]; exact hj) hv (q _ _ hr rfl rfl rfl) (hs _ _)) p
theorem sub_list {value slice : Expr} {xs : List V} {k : Int} {x : V} {P : V → Prop} (h0 : 0 ≤ k) (hhi : k < 2 ^ 63) (hx : xs[k.toNat]? = some x) (p : P x)
    (hs : ∀ a u, subscripted slice false (.ref a) (.int k u) = operate [.ref a, .int k u] (getItem (.ref a) (.int k u)) := by intros; with_unfolding_all rfl) : SubW S d value slice (.list xs) (.int k) P X := by
  refine ⟨⟨fun A fl s v w pl r r' => ?_⟩⟩
  cases r with | list ht rl => cases r' with | int _ u =>
  obtain ⟨v, hv, hr⟩ := repL_get rl hx
  refine .val (V := x) (fun Q E q => tail_any ht.typeIs slot_list_getitem.lookup (wpAny_getItem_list ht h0 hhi (by simpa using hv) (q _ _ hr rfl rfl rfl)) (hs _ _)) p

/-! assignment to several names -/
theorem At.storeEach {l : Loc} {E : Value → Shared → Prop} : ∀ {ns : List Str} {vs : List Value} {xs : List V} {ρ : Rho} {s : Shared} {Q : Unit → Shared → Prop}, At S d cs l ρ s → RepL S.base s.heap vs xs → ns.length = xs.length →
    (∀ n ∈ ns, cs.names.lookup n = some .local ∨ (cs.names.lookup n = some .cell ∧ cs.names.lookup dot0 = none)) → (∀ s', At S d cs l ((ns.zip xs).reverse ++ ρ) s' → Nx s s' → Q () s') →
    ∀ ts : List (Value → Sem Unit), ts.length = ns.length → (∀ i (hi : i < ns.length) (hi' : i < ts.length) v Q' s', wpAny (model S.prog S.w) l.A (storeName l.env ns[i] v) Q' E s' → wpAny (model S.prog S.w) l.A (ts[i] v) Q' E s') →
    wpAny (model S.prog S.w) l.A (assignInOrder ts vs) Q E s
  | [], vs, xs, ρ, s, Q, a, r, hl, _, k, ts, hts, _ => by
    obtain rfl : ts = [] := List.length_eq_zero_iff.mp hts
    exact assignInOrder_nil (k s a (Nx.refl _))
  | n :: ns, _, _, ρ, s, Q, a, .cons (v := v) (x := x) (vs := vs) (l := xs) r rl, hl, hk, k, t :: ts, hts, hx => by
    refine assignInOrder_cons (hx 0 (Nat.zero_lt_succ _) (Nat.zero_lt_succ _) v _ _ (a.store r (hk n (.head _)) fun s₁ a₁ n₁ => ?_))
    refine At.storeEach (ns := ns) a₁ (rl.imm n₁.imm) (Nat.succ.inj hl) (fun m hm => hk m (.tail _ hm)) (fun s₂ a₂ n₂ => k s₂ ?_ (n₁.trans n₂)) ts (Nat.succ.inj hts) fun i hi hi' v Q' s' h => ?_
    · have e : ((n :: ns).zip (x :: xs)).reverse ++ ρ = (ns.zip xs).reverse ++ ((n, x) :: ρ) := by simp only [List.zip_cons_cons, List.reverse_cons, List.append_assoc, List.cons_append, List.nil_append]
      rw [e]; exact a₂
    · exact hx (i + 1) (Nat.succ_lt_succ hi) (Nat.succ_lt_succ hi') v Q' s' h

theorem extBut_stays {h h' : Heap} (x : Heap.ExtBut h.objs.size h h') : h.StaysIn h' := fun b o e => x b o (Nat.ne_of_lt (Heap.lt_size e)) e


def namesOf : List Expr → Option (List (Str × Pos))
  | [] => some []
  | .Name n p :: r => (namesOf r).map ((n, p) :: ·)
  | _ => none
theorem assignEach_names {env : Env} : ∀ {elts : List Expr} {nps : List (Str × Pos)}, namesOf elts = some nps → assignEach elts env = nps.map fun q => (false, fun v => assign (.Name q.1 q.2) env v)
  | [], _, h => by cases h; rfl
  | .Name n p :: r, nps, h => by
    simp only [namesOf] at h
    cases hr : namesOf r with
    | none => rw [hr] at h; cases h
    | some q =>
      rw [hr] at h; cases h
      show (false, fun v => assign (.Name n p) env v) :: assignEach r env = _
      rw [assignEach_names hr]; rfl

theorem At.unpack {l : Loc} {s : Shared} {v : Value} {xs : List V} {n : Nat} {Q : List Value → Shared → Prop} {E : Value → Shared → Prop} (a : At S d cs l ρ s) (r : Rep S.base s.heap v (.tup xs)) (hn : n = xs.length)
    (k : ∀ vs s', At S d cs l ρ s' → Kp s s' → RepL S.base s'.heap vs xs → Q vs s') : wpAny (model S.prog S.w) l.A (unpackItems v n none) Q E s := by
  cases r with | @tup t vs _ ht rl =>
  have hl : n = vs.toArray.size := by rw [hn, ← repL_length rl]; simp
  subst hl
  refine PyProof.Rows.unpackItems_tuple a.hd ht fun h' he => ?_
  have kp : Kp s { s with heap := h' } := ⟨rfl, rfl, extBut_stays he, Nat.le_refl _⟩
  exact k _ _ (a.kp kp) kp (rl.imm kp.nx.imm)

theorem Ex1_unpack {elts : List Expr} {k : Nat} {tp pos : Pos} {e : Expr} {nps : List (Str × Pos)} {P : Fw → Rho → Prop}
    (hn : namesOf elts = some nps)
    (h : EvE S d cs e ρ (fun x ρ₁ => ∃ xs, x = .tup xs ∧ nps.length = xs.length ∧ P .next (((nps.map (·.1)).zip xs).reverse ++ ρ₁)) X)
    (hk : (nps.all fun n => cs.names.lookup n.1 == some .local || (cs.names.lookup n.1 == some .cell && cs.names.lookup dot0 == none)) = true := by decide)
    (hs : ∀ env, swapsWithSole [Expr.Tuple elts k tp] e pos.line env = pure false := by intros; rfl)
    (hs2 : ∀ env : Env, env.scope = cs → swappedStores [Expr.Tuple elts k tp] e env = pure none := by intro env henv; obtain ⟨sc, _, _, _, _, _, _, _, _⟩ := env; cases henv; rfl) : Ex1 S d cs (.Assign [.Tuple elts k tp] e pos) ρ P X := by
  refine ⟨⟨fun l s Q E a hQ hE => ?_⟩⟩
  refine Assign_Tuple (h.at a hE fun v x ρ₁ s₁ a₁ n₁ r₁ p₁ hE₁ => ?_) (hs _) (hs2 _ a.scope)
  obtain ⟨xs, rfl, hl, p⟩ := p₁
  rw [arm_assign_Tuple]
  refine wpAny_bind (wpAny_standAt ?_)
  unfold unpack
  rw [assignEach_names hn]
  have hf : (nps.map fun q => (false, fun v => assign (.Name q.1 q.2) l.env v)).findIdx? (·.1) = none := by simp
  rw [hf, List.length_map]
  refine wpAny_bind (wpAny_holding (a₁.unpack r₁ hl fun vs s₂ a₂ k₂ r₂ => ?_))
  refine At.storeEach (ns := nps.map (·.1)) a₂ r₂ (by rw [List.length_map]; exact hl) (fun n hn' => ?_) (fun s₃ a₃ n₃ => hQ _ _ _ _ a₃ (n₁.trans (k₂.nx.trans n₃)) .next p) _ (by simp) fun i hi hi' v Q' s' hx => ?_
  · obtain ⟨q, hq, rfl⟩ := List.mem_map.mp hn'
    have := List.all_eq_true.mp hk q hq
    simpa using this
  · simp only [List.getElem_map] at hx ⊢
    exact PyProof.Rows.assign_Name hx

theorem zip_rev {α β : Type} : ∀ (a : List α) (b : List β), a.length = b.length → a.reverse.zip b.reverse = (a.zip b).reverse
  | [], [], _ => rfl
  | x :: a, y :: b, h => by
    have h' : a.length = b.length := Nat.succ.inj h
    rw [List.reverse_cons, List.reverse_cons, List.zip_append (by simpa using h'), zip_rev a b h', List.zip_cons_cons]; simp
theorem Ex1_swap {elts : List Expr} {k : Nat} {tp pos : Pos} {e : Expr} {names : List Str} {P : Fw → Rho → Prop}
    (h : EvE S d cs e ρ (fun x ρ₁ => ∃ xs, x = .tup xs ∧ names.length = xs.length ∧ P .next ((names.zip xs) ++ ρ₁)) X)
    (hk : (names.all fun n => cs.names.lookup n == some .local) = true := by decide)
    (hs : ∀ env, swapsWithSole [Expr.Tuple elts k tp] e pos.line env = pure false := by intros; rfl)
    (hs2 : ∀ env : Env, env.scope = cs → swappedStores [Expr.Tuple elts k tp] e env = pure (some names) := by intro env henv; obtain ⟨sc, _, _, _, _, _, _, _, _⟩ := env; cases henv; rfl) : Ex1 S d cs (.Assign [.Tuple elts k tp] e pos) ρ P X := by
  refine ⟨⟨fun l s Q E a hQ hE => ?_⟩⟩
  refine Assign_Tuple_swapped (h.at a hE fun v x ρ₁ s₁ a₁ n₁ r₁ p₁ hE₁ => ?_) (hs _) (hs2 _ a.scope)
  obtain ⟨xs, rfl, hl, p⟩ := p₁
  refine a₁.unpack r₁ hl fun vs s₂ a₂ k₂ r₂ => ?_
  have rr : ∀ {vs : List Value} {xs : List V}, RepL S.base s₂.heap vs xs → RepL S.base s₂.heap vs.reverse xs.reverse := by
    have ap : ∀ {vs ws : List Value} {xs ys : List V}, RepL S.base s₂.heap vs xs → RepL S.base s₂.heap ws ys → RepL S.base s₂.heap (vs ++ ws) (xs ++ ys) := by
      intro vs ws xs ys r q
      induction vs generalizing xs with
      | nil => cases r; exact q
      | cons v vs ih => cases r with | cons a b => exact .cons a (ih b)
    intro vs xs r
    induction vs generalizing xs with
    | nil => cases r; exact .nil
    | cons v vs ih => cases r with | cons a b => rw [List.reverse_cons, List.reverse_cons]; exact ap (ih b) (.cons a .nil)
  have hz : (names.reverse.zip xs.reverse).reverse = names.zip xs := by
    rw [zip_rev _ _ hl, List.reverse_reverse]
  refine At.storeEach (ns := names.reverse) a₂ (rr r₂) (by simpa using hl) (fun n hn' => ?_) (fun s₃ a₃ n₃ => hQ _ _ _ _ a₃ (n₁.trans (k₂.nx.trans n₃)) .next (by rw [hz]; exact p)) _ (by simp) fun i hi hi' v Q' s' hx => ?_
  · have := List.all_eq_true.mp hk n (List.mem_reverse.mp hn')
    exact .inl (by simpa using this)
  · simp only [List.getElem_map]
    exact bindName_ hx

/-! a while -/
theorem Ex1_while {t : Expr} {b₁ : List Stmt} {pos : Pos} {P : Fw → Rho → Prop} (I : Nat → Rho → Prop) (n : Nat) (ρ₀ : Rho) (h0 : I n ρ₀) (hw : ∀ x V, ρ₀.lookup x = some V → ρ.lookup x = some V)
    (h : ∀ n ρ₁, I n ρ₁ → EvT S d cs t ρ₁ (fun b ρ₂ => (b = true → ExS S d cs b₁ ρ₂ (fun f ρ₃ => match f with
        | .next => ∃ m ρ₄, m < n ∧ I m ρ₄ ∧ ∀ x V, ρ₄.lookup x = some V → ρ₃.lookup x = some V
        | .brk => P .next ρ₃
        | .ret v => P (.ret v) ρ₃
        | .cont => False) False) ∧ (b = false → P .next ρ₂)) False) : Ex1 S d cs (.While t b₁ [] pos) ρ P X := by
  refine ⟨⟨fun l s Q E a hQ hE => ?_⟩⟩
  refine wpAny_While (codeAny_whileLoop (fun n s' => ∃ ρ₁, I n ρ₁ ∧ At S d cs l ρ₁ s' ∧ Nx s s') (fun n s' hi => ?_) n ⟨ρ₀, h0, a.weaken hw, Nx.refl _⟩)
  obtain ⟨ρ₁, hi, a₁, n₁⟩ := hi
  refine (h n ρ₁ hi).at a₁ (fun h => h.elim) fun b b' ρ₂ s₂ a₂ n₂ r₂ p₂ _ => ?_
  cases r₂
  cases b with
  | true =>
    simp only [if_true]
    refine (p₂.1 rfl).at a₂ (fun h => h.elim) fun f f' ρ₃ s₃ a₃ n₃ r₃ p₃ _ => ?_
    cases r₃ with
    | next => obtain ⟨m, ρ₄, hm, hi', hw'⟩ := p₃; exact ⟨m, hm, ρ₄, hi', a₃.weaken hw', n₁.trans (n₂.trans n₃)⟩
    | brk => exact hQ _ _ _ _ a₃ (n₁.trans (n₂.trans n₃)) .next p₃
    | cont => exact p₃.elim
    | ret r => exact hQ _ _ _ _ a₃ (n₁.trans (n₂.trans n₃)) (.ret r) p₃
  | false =>
    simp only [Bool.false_eq_true, if_false]
    exact wpAny_execs_nil (hQ _ _ _ _ a₂ (n₁.trans n₂) .next (p₂.2 rfl))

/-! leaving and calling a def -/
theorem leave_fly {A : Around} {env : Env} {fl : List Env} {L e : Addr} {s : Shared} {Q : Unit → Shared → Prop} {E : Value → Shared → Prop} (hfr : A.frames = some (env :: fl)) (hf : env.frame = some L)
    (f : Fly S.base (env :: fl) e s.heap) (k : ∀ s', Fly S.base fl e s'.heap → Nt s s' → Q () s') : wpAny (model S.prog S.w) A (leaving env (.ref e)) Q E s := by
  rcases f with ⟨st, ff, hn, oe, vs, he, hc, hd, h1⟩ | ⟨st, hn, ff, tr⟩
  · refine wpAny_leaving_first hfr ff hf he st hn hd h1 fun h' ⟨x1, x2, x3, _⟩ => k _ (.inr ⟨x1, hn, x2.2.2, hc ▸ x3⟩) ⟨rfl, rfl⟩
  · refine wpAny_leaving_next hfr ff hf tr st hn fun h' ⟨x1, x2, x3, _⟩ => k _ (.inr ⟨x1, hn, x2.2.2, x3⟩) ⟨rfl, rfl⟩

/-- a def of the program's text -/
def argsOf : Stmt → Arguments
  | .FunctionDef _ a _ _ _ _ _ _ _ _ => a
  | _ => ⟨[], [], none, [], [], none, []⟩
def bodyOf : Stmt → List Stmt
  | .FunctionDef _ _ b _ _ _ _ _ _ _ => b
  | _ => []
def scopeOf : Stmt → Scope
  | .FunctionDef _ _ _ _ _ _ sc _ _ _ => sc
  | _ => ⟨.module, [], false, false, []⟩
/-- what the written part says of a def -/
structure FnIs (S : Sy) (x : Str) (st : Stmt) (dv : List V) (fd : FuncData) : Prop where
  is : ∃ a oc od osl, nsIn S.K mainGlobals x = some (some (.ref a)) ∧ S.K.lookup a = some ⟨oc, od, .func fd, osl⟩
  code : codeIn S.K fd.code fd.qualname = true
  glob : fd.globals = mainGlobals
  blt : fd.builtins = builtinsNs
  clos : fd.closure = []
  bd : fd.body = .stmts (bodyOf st)
  sc : fd.scope = scopeOf st
  ar : fd.params = argsOf st
  kw : fd.kwdefaults = .none
  df : (dv = [] ∧ fd.defaults = .none) ∨ dv ≠ [] ∧ ∃ T o items n, fd.defaults = .ref T ∧ S.K.lookup T = some o ∧ o.data = .seq (List.toArray items) n ∧ ∀ h, S.ok h → RepL S.base h items dv

def gl (S : Sy) (x : Str) : Value := match nsIn S.K mainGlobals x with
  | some (some v) => v
  | _ => .none
theorem FnIs.glob' {x : Str} {st : Stmt} {dv : List V} {fd : FuncData} (F : FnIs S x st dv fd) : GlobIs S x (.raw (gl S x)) := by
  obtain ⟨a, oc, od, osl, h, _⟩ := F.is
  refine ⟨.ref a, h, fun _ _ => ?_⟩
  have : gl S x = .ref a := by unfold gl; rw [h]
  rw [this]; exact .raw _
theorem FnIs.can {x : Str} {st : Stmt} {dv : List V} {fd : FuncData} (F : FnIs S x st dv fd) : CanCall S (gl S x) := by
  obtain ⟨a, oc, od, osl, h, h'⟩ := F.is
  have : gl S x = .ref a := by unfold gl; rw [h]
  exact .inl ⟨a, _, fd, this, h', rfl⟩

theorem repL_zip_lookup {b h : Heap} {bs : List (Str × Value)} : ∀ {ps : List Str} {xs : List V}, bs.map (·.1) = ps → RepL b h (bs.map (·.2)) xs → ∀ x V, (ps.zip xs).lookup x = some V → ∃ v, bs.lookup x = some v ∧ Rep b h v V := by
  induction bs with
  | nil => intro ps xs e r x V h'; cases e; simp at h'
  | cons p bs ih =>
    intro ps xs e r x V h'
    obtain ⟨n, v⟩ := p
    subst e
    cases r with | cons a r =>
    simp only [List.map_cons, List.zip_cons_cons, List.lookup_cons] at h' ⊢
    by_cases q : (x == n) = true
    · rw [q] at h' ⊢; cases h'; exact ⟨v, rfl, a⟩
    · simp only [Bool.not_eq_true] at q; rw [q] at h' ⊢; exact ih rfl r x V h'

theorem mem_of_lookup {α : Type} {x : Str} {v : α} : ∀ {bs : List (Str × α)}, bs.lookup x = some v → (x, v) ∈ bs
  | [], h => by simp at h
  | (n, w) :: bs, h => by
    rw [List.lookup_cons] at h
    by_cases q : (x == n) = true
    · rw [q] at h; cases h; rw [beq_iff_eq.mp q]; exact .head _
    · simp only [Bool.not_eq_true] at q; rw [q] at h; exact .tail _ (mem_of_lookup h)
theorem lookup_reverse_nodup {α : Type} {x : Str} : ∀ {bs : List (Str × α)}, (bs.map (·.1)).Nodup → bs.reverse.lookup x = bs.lookup x
  | [], _ => rfl
  | (n, v) :: bs, h => by
    simp only [List.map_cons, List.nodup_cons] at h
    rw [List.reverse_cons, List.lookup_append, lookup_reverse_nodup h.2]
    simp only [List.lookup_cons, List.lookup_nil]
    by_cases q : (x == n) = true
    · rw [q]
      have : bs.lookup x = none := by
        cases hb : bs.lookup x with
        | none => rfl
        | some w =>
          have := mem_of_lookup hb
          exact absurd (List.mem_map_of_mem (f := (·.1)) this) (by rw [beq_iff_eq.mp q]; exact h.1)
      rw [this]; rfl
    · simp only [Bool.not_eq_true] at q; rw [q]; cases bs.lookup x <;> rfl

theorem CallW_def {x : Str} {st : Stmt} {dv : List V} {fd : FuncData} {as : List V} {P : V → Prop} (F : FnIs S x st dv fd) (ps : List Str) (as' : List V)
    (hb : ∀ (s : Shared) vs, S.ok s.heap → RepL S.base s.heap vs as → ∃ bs : List (Str × Value), BindsTo s fd ⟨vs, []⟩ bs ∧ bs.map (·.1) = ps ∧ RepL S.base s.heap (bs.map (·.2)) as')
    (hnd : ps.Nodup) (hloc : (ps.all fun n => (scopeOf st).names.lookup n == some .local) = true) (hcell : ∀ x ∈ (scopeOf st).names, x.2 ≠ .cell)
    (hco : (scopeOf st).isCoroutine = false) (hgen : (scopeOf st).isGenerator = false) (hkd : (scopeOf st).kind = .function)
    (h : ExS S d (scopeOf st) (bodyOf st) (ps.zip as') (fun f _ => match f with | .ret v => P v | .next => P .none | _ => False) X) : CallW S (d + 1) (.raw (gl S x)) as P X := by
  rw [← F.sc] at hloc hcell hco hgen hkd h
  refine ⟨fun A fl s fv vs pl r rl => ?_⟩
  cases r
  obtain ⟨a, oc, od, osl, hg, hl⟩ := F.is
  have e : gl S x = .ref a := by unfold gl; rw [hg]
  rw [e]
  obtain ⟨bs, hbind, hps, hrl⟩ := hb s vs pl.ok rl
  refine .of fun Q E q hE => wpAny_call ?_
  have hlook : ∀ y ∈ bs, fd.scope.names.lookup y.1 = some .local := fun y hy => by
    have := List.all_eq_true.mp hloc y.1 (hps ▸ List.mem_map_of_mem hy)
    simpa using this
  refine codeAny_call_def (by have := pl.dp; omega) (pl.ok.x _ _ hl) rfl pl.ok.t.nolimit (codeRec_of pl.ok.x F.code) F.bd hbind hcell hlook (fun h₀ hns hk => ?_) hco hgen hkd
  have hbase : S.base.get? s.heap.objs.size = none := by
    cases hq : S.base.get? s.heap.objs.size with
    | none => rfl
    | some o => exact absurd (Heap.lt_size (pl.st _ o hq)) (Nat.lt_irrefl _)
  have henv : callEnv fd s.heap.objs.size a = { scope := fd.scope, locals := s.heap.objs.size, globals := mainGlobals, cells := [], qual := fd.qualname ++ ".<locals>.", func := some a, code := fd.code, frame := some s.heap.objs.size, builtins := builtinsNs } := by
    show newEnv fd.scope _ fd.globals fd.closure _ _ fd.code none fd.builtins = _
    rw [F.glob, F.blt, F.clos]; rfl
  have stp : s.toks ≤ s.toks + bs.length := Nat.le_add_right _ _
  have a₀ : At S d fd.scope ⟨A.deeper (callEnv fd s.heap.objs.size a), callEnv fd s.heap.objs.size a, s.heap.objs.size, s.heap, callEnv fd s.heap.objs.size a :: fl⟩ (ps.zip as') { s with heap := h₀, toks := s.toks + bs.length } := {
    scope := by rw [henv]
    kind := hkd
    locals := by rw [henv]
    globals := by rw [henv]
    builtins := by rw [henv]
    fr := Around.frames_deeper pl.fr
    hd := pl.hd
    dp := by have := pl.dp; show A.depth + 1 + d < _; omega
    un := by have := pl.un; show A.units + 3 + 8 * d + 200 < _; omega
    ok := pl.ok
    st := pl.st
    ff := fun h m Fh => .cons (by rw [henv]; show fd.scope.kind ≠ _; rw [hkd]; decide) (by rw [henv]) Fh.ns hbase (pl.ff.of_keeps fun b o e _ => ⟨o, Fh.keep b o e, rfl⟩)
    F := ⟨_, ⟨hns, hk, Nat.le_refl _⟩, fun y Y hy => by
      obtain ⟨v, hv, hr⟩ := repL_zip_lookup hps hrl y Y hy
      refine .inl ⟨?_, v, ?_, hr.imm (.of_stays hk)⟩
      · have := hlook _ (mem_of_lookup hv)
        rw [henv]; exact this
      · show bs.reverse.lookup y = some v
        rw [lookup_reverse_nodup (hps ▸ hnd)]; exact hv⟩
    cells := by
      rw [henv]
      refine ⟨fun y hy => absurd rfl (hcell _ (mem_of_lookup hy)), fun y c _ e => ?_, fun y c _ _ e => ?_, fun y z c e => ?_⟩ <;> cases e
    tk := Nat.lt_of_lt_of_le pl.tk stp }
  refine h.ev.run _ _ _ _ a₀ (fun fv fV ρ' s' a' n r p => ?_) (fun hX e s' f n => ?_)
  · obtain ⟨m', F', _⟩ := a'.F
    cases r with
    | next => exact q _ _ _ n.gens n.os F'.keep .none p
    | brk => exact p.elim
    | cont => exact p.elim
    | ret r => exact q _ _ _ n.gens n.os F'.keep r p
  · exact leave_fly a₀.fr (by rw [henv]) f fun s'' f' n' => hE hX _ _ f' ⟨n'.gens.trans n.gens, n'.os.trans n.os⟩

end
end Mine
end

section
open PySem PySem.W PySem.Calls PyProof.Rows
set_option Elab.async false
set_option maxRecDepth 100000
namespace Mine
section
variable {S : Sy} {d : Nat} {X : Prop}
structure DictIs (S : Sy) (g x : Str) (r : Option V) : Prop where
  is : ∃ a es n, nsIn S.K mainGlobals g = some (some (.ref a)) ∧ S.K.lookup a = some ⟨.type "dict", none, .dict es n, #[]⟩ ∧ KeysLit S.w.params es.toList ∧ (a == sysModules) = false ∧
    (match r with | some V => ∃ v, nsIn S.K a x = some (some v) ∧ ∀ h, S.ok h → Rep S.base h v V | none => nsIn S.K a x = some none)
theorem sub_dict {value slice : Expr} {g x : Str} {r : V} {P : V → Prop} (D : DictIs S g x (some r)) (p : P r)
    (hs : ∀ a u, subscripted slice false (.ref a) (.str x u) = operate [.ref a, .str x u] (getItem (.ref a) (.str x u)) := by intros; with_unfolding_all rfl) : SubW S d value slice (.raw (gl S g)) (.str x) P X := by
  refine ⟨⟨fun A fl s v w pl r r' => ?_⟩⟩
  obtain ⟨a, es, n, hg, hl, hk, _, vv, hn, hr⟩ := D.is
  have e : gl S g = .ref a := by unfold gl; rw [hg]
  rw [e] at r
  cases r; cases r'
  have hm := mapOf_K (prog := S.prog) (w := S.w) pl.ok.x hl hk
  exact .val (fun Q E q => tail_any hm.typeIs slot_dict_getitem.lookup (wpAny_getItem_of (strKind_is S.prog S.w x _) hm (find_K hl hn) (q _ _ (hr _ pl.ok) rfl rfl rfl)) (hs _ _)) p
theorem in_dict {g x : Str} {b : Bool} {P : V → Prop} (D : ∃ r, DictIs S g x r ∧ r.isSome = b) (p : P (.bool b)) : CmpW S d .In (.str x) (.raw (gl S g)) P X := by
  refine ⟨⟨fun A fl s v w pl r r' => ?_⟩⟩
  obtain ⟨r₀, D, hb⟩ := D
  obtain ⟨a, es, n, hg, hl, hk, lo, hn⟩ := D.is
  have e : gl S g = .ref a := by unfold gl; rw [hg]
  rw [e] at r'
  cases r'; cases r
  have hm := mapOf_K (prog := S.prog) (w := S.w) pl.ok.x hl hk
  refine .val (V := .bool b) (fun Q E q => ?_) p
  cases r₀ with
  | none => exact wpAny_in_of (strKind_is S.prog S.w x _) lo hm (by rw [find_K hl hn]; subst hb; exact q _ _ (.bool _) rfl rfl rfl)
  | some V => obtain ⟨v, hn, _⟩ := hn; exact wpAny_in_of (strKind_is S.prog S.w x _) lo hm (by rw [find_K hl hn]; subst hb; exact q _ _ (.bool _) rfl rfl rfl)
end
end Mine
end

section
open PySem
set_option Elab.async false
namespace Mine
abbrev bl (n : Int) : Nat := Builtin.Int.intBits n

theorem bl_zero : bl 0 = 0 := rfl
theorem bl_nat {m : Nat} (h : 0 < m) : bl (m : Int) = m.log2 + 1 := by
  unfold bl Builtin.Int.intBits
  have : ((m : Int) == 0) = false := by simp; omega
  rw [this]; simp
theorem bl_neg (n : Int) : bl (-n) = bl n := by
  unfold bl Builtin.Int.intBits
  by_cases h : n = 0
  · subst h; rfl
  · have h1 : (n == 0) = false := by simpa using h
    have h2 : (-n == 0) = false := by simp; omega
    rw [h1, h2, Int.natAbs_neg]
theorem bl_natAbs (n : Int) : bl n = bl (n.natAbs : Int) := by
  rcases Int.natAbs_eq n with h | h
  · rw [← h]
  · conv => lhs; rw [h]
    rw [bl_neg]
theorem bl_spec {m : Nat} (h : 0 < m) : 2 ^ (bl m - 1) ≤ m ∧ m < 2 ^ bl m := by
  rw [bl_nat h]
  exact ⟨Nat.log2_self_le (by omega), Nat.lt_log2_self⟩
theorem bl_pos {m : Nat} (h : 0 < m) : 0 < bl m := by rw [bl_nat h]; omega
theorem bl_unique {m k : Nat} (h1 : 2 ^ k ≤ m) (h2 : m < 2 ^ (k + 1)) : bl m = k + 1 := by
  have hm : 0 < m := Nat.lt_of_lt_of_le (Nat.two_pow_pos k) h1
  rw [bl_nat hm]
  have a : k ≤ m.log2 := (Nat.le_log2 (by omega)).mpr h1
  have b : m.log2 < k + 1 := (Nat.log2_lt (by omega)).mpr h2
  omega
theorem bl_le {m k : Nat} (h2 : m < 2 ^ k) : bl m ≤ k := by
  rcases Nat.eq_zero_or_pos m with rfl | hm
  · exact Nat.zero_le _
  · rw [bl_nat hm]
    have b : m.log2 < k := (Nat.log2_lt (by omega)).mpr h2
    omega
theorem bl_shift {m t : Nat} (h : 0 < m) : bl ((m * 2 ^ t : Nat) : Int) = bl m + t := by
  have ⟨a, b⟩ := bl_spec h
  have c := bl_pos h
  have e : bl m = (bl m - 1) + 1 := by omega
  have : bl ((m * 2 ^ t : Nat) : Int) = (bl m - 1 + t) + 1 := by
    refine bl_unique ?_ ?_
    · rw [Nat.pow_add]; exact Nat.mul_le_mul_right _ a
    · have : bl m - 1 + t + 1 = bl m + t := by omega
      rw [this, Nat.pow_add]; exact Nat.mul_lt_mul_of_pos_right b (Nat.two_pow_pos t)
  omega
theorem bl_div {m k : Nat} (h : k < bl m) : bl ((m / 2 ^ k : Nat) : Int) = bl m - k := by
  have hm : 0 < m := by
    rcases Nat.eq_zero_or_pos m with rfl | hm
    · rw [show bl ((0 : Nat) : Int) = 0 from rfl] at h; omega
    · exact hm
  have ⟨a, b⟩ := bl_spec hm
  have : bl ((m / 2 ^ k : Nat) : Int) = (bl m - k - 1) + 1 := by
    refine bl_unique ?_ ?_
    · rw [Nat.le_div_iff_mul_le (Nat.two_pow_pos k), ← Nat.pow_add]
      have : bl m - k - 1 + k = bl m - 1 := by omega
      rw [this]; exact a
    · rw [Nat.div_lt_iff_lt_mul (Nat.two_pow_pos k), ← Nat.pow_add]
      have : bl m - k - 1 + 1 + k = bl m := by omega
      rw [this]; exact b
  omega

/-! the lowest bit -/
theorem odd_part : ∀ n : Nat, 0 < n → ∃ t k, n = 2 ^ t * (2 * k + 1) := by
  intro n
  induction n using Nat.strongRecOn with
  | _ n ih =>
    intro h
    rcases Nat.mod_two_eq_zero_or_one n with h2 | h2
    · obtain ⟨t, k, e⟩ := ih (n / 2) (by omega) (by omega)
      refine ⟨t + 1, k, ?_⟩
      have : n = 2 * (n / 2) := by omega
      rw [this, e, Nat.pow_succ]
      have e2 : 2 ^ t * (2 * k + 1) = n / 2 := e.symm
      rw [Nat.mul_comm (2 ^ t) 2, Nat.mul_assoc]
    · exact ⟨0, n / 2, by omega⟩
theorem and_pred {t k : Nat} : (2 ^ t * (2 * k + 1)) &&& (2 ^ t * (2 * k + 1) - 1) = 2 ^ (t + 1) * k := by
  have p : 0 < 2 ^ t := Nat.two_pow_pos t
  have e1 : 2 ^ t * (2 * k + 1) = 2 ^ (t + 1) * k + 2 ^ t := by
    rw [Nat.mul_add, Nat.pow_succ, Nat.mul_one, Nat.mul_assoc]
  have e2 : 2 ^ t * (2 * k + 1) - 1 = 2 ^ (t + 1) * k + (2 ^ t - 1) := by rw [e1]; omega
  rw [e2, e1]
  have q : 2 ^ t < 2 ^ (t + 1) := by rw [Nat.pow_succ]; omega
  apply Nat.eq_of_testBit_eq
  intro i
  rw [Nat.testBit_and, Nat.testBit_two_pow_mul_add _ q, Nat.testBit_two_pow_mul_add _ (by omega : 2 ^ t - 1 < 2 ^ (t + 1))]
  have e3 : 2 ^ (t + 1) * k = 2 ^ (t + 1) * k + 0 := by omega
  conv => rhs; rw [e3]
  rw [Nat.testBit_two_pow_mul_add _ (by omega : 0 < 2 ^ (t + 1))]
  by_cases hi : i < t + 1
  · simp only [hi, if_true, Nat.testBit_two_pow, Nat.testBit_two_pow_sub_one, Nat.zero_testBit]
    by_cases h : t = i
    · subst h; simp
    · simp [h]
  · simp only [hi, if_false, Bool.and_self]

theorem low_bit {t k : Nat} : Builtin.bitAnd ((2 ^ t * (2 * k + 1) : Nat) : Int) (-((2 ^ t * (2 * k + 1) : Nat) : Int)) = ((2 ^ t : Nat) : Int) := by
  have p : 0 < 2 ^ t := Nat.two_pow_pos t
  have hpos : 0 < 2 ^ t * (2 * k + 1) := Nat.mul_pos p (by omega)
  have h1 : decide (0 ≤ ((2 ^ t * (2 * k + 1) : Nat) : Int)) = true := decide_eq_true (by omega)
  have h2 : decide (0 ≤ -((2 ^ t * (2 * k + 1) : Nat) : Int)) = false := decide_eq_false (by omega)
  unfold Builtin.bitAnd
  rw [h1, h2]
  have h3 : (Builtin.bitNot (-((2 ^ t * (2 * k + 1) : Nat) : Int))).toNat = 2 ^ t * (2 * k + 1) - 1 := by
    unfold Builtin.bitNot; omega
  show ((2 ^ t * (2 * k + 1) : Nat) : Int) - ((((2 ^ t * (2 * k + 1) : Nat) : Int).toNat &&& (Builtin.bitNot (-((2 ^ t * (2 * k + 1) : Nat) : Int))).toNat : Nat) : Int) = _
  rw [h3, Int.toNat_natCast, and_pred]
  have e1 : 2 ^ t * (2 * k + 1) = 2 ^ (t + 1) * k + 2 ^ t := by
    rw [Nat.mul_add, Nat.pow_succ, Nat.mul_one, Nat.mul_assoc]
  rw [e1]; omega
theorem bl_two_pow (t : Nat) : bl ((2 ^ t : Nat) : Int) = t + 1 := bl_unique (Nat.le_refl _) (by rw [Nat.pow_succ]; have := Nat.two_pow_pos t; omega)
theorem trailing_is {m : Int} (h : 0 < m) : ∃ (t : Nat) (k : Int), 0 ≤ k ∧ m = 2 ^ t * (2 * k + 1) ∧ (bl (Builtin.bitAnd m (-m)) : Int) - 1 = t := by
  obtain ⟨t, k, e⟩ := odd_part m.toNat (by omega)
  have em : m = ((2 ^ t * (2 * k + 1) : Nat) : Int) := by omega
  refine ⟨t, k, by omega, ?_, ?_⟩
  · rw [em]; simp
  · rw [em, low_bit, bl_two_pow]; omega
theorem and_one (m : Int) (h : 0 ≤ m) : Builtin.bitAnd m 1 = m % 2 := by
  obtain ⟨n, rfl⟩ := Int.eq_ofNat_of_zero_le h
  unfold Builtin.bitAnd
  rw [show decide (0 ≤ (n : Int)) = true from decide_eq_true h, show decide ((0 : Int) ≤ 1) = true from rfl]
  show (((n : Int).toNat &&& (1 : Int).toNat : Nat) : Int) = _
  rw [Int.toNat_natCast, show (1 : Int).toNat = 1 from rfl, Nat.and_one_is_mod]; omega
end Mine
end

section
open PySem PySem.W PySem.Calls PyProof.Rows
set_option Elab.async false
namespace Mine
structure Mp where
  s : Int
  m : Int
  e : Int
  b : Int
def Mp.v (x : Mp) : V := .tup [.int x.s, .int x.m, .int x.e, .int x.b]
abbrev Mp.zero : Mp := ⟨0, 0, 0, 0⟩
structure CanM (s m e : Int) (x : Mp) : Prop where
  s : x.s = s
  pos : 0 < x.m
  odd : x.m % 2 = 1
  b : x.b = bl x.m
  ex : ∃ t : Nat, m = x.m * 2 ^ t ∧ x.e = e + t

/-- the bits that the code has at hand -/
def BitsAt (m b : Int) : Prop := b = bl m ∨ ∃ k : Nat, b = k ∧ m = 2 ^ k

theorem bl_one : bl 1 = 1 := by decide
theorem bl_shiftI {m : Int} {t : Nat} (h : 0 < m) : bl (m * 2 ^ t) = bl m + t := by
  obtain ⟨n, rfl⟩ := Int.eq_ofNat_of_zero_le (Int.le_of_lt h)
  have := bl_shift (m := n) (t := t) (by omega)
  rw [← this]; simp
theorem odd_two_pow {k : Nat} (h : (2 : Int) ^ k % 2 = 1) : k = 0 := by
  cases k with
  | zero => rfl
  | succ k => rw [Int.pow_succ] at h; omega
theorem fdiv_two_pow {a : Int} {t : Nat} : (2 ^ t * a).fdiv (2 ^ t) = a := by
  have : (2 : Int) ^ t ≠ 0 := Int.ne_of_gt (Int.pow_pos (by decide))
  rw [Int.mul_fdiv_cancel_left _ this]
theorem strip_odd {s m e b : Int} (h0 : 0 < m) (ho : m % 2 = 1) (hb : BitsAt m b) (h1 : m ≠ 1) : CanM s m e ⟨s, m, e, b⟩ := by
  refine ⟨rfl, h0, ho, ?_, 0, by simp, by simp⟩
  rcases hb with h | ⟨k, rfl, rfl⟩
  · exact h
  · have := odd_two_pow ho; subst this; exact absurd rfl h1
theorem strip_one {s e : Int} : CanM s 1 e ⟨s, 1, e, 1⟩ := ⟨rfl, (by decide : (0 : Int) < 1), (by decide : (1 : Int) % 2 = 1), (by rw [bl_one]; rfl), 0, by simp, by simp⟩
theorem strip_even {s m e b k : Int} {t : Nat} (hk : 0 ≤ k) (hm : m = 2 ^ t * (2 * k + 1)) (hb : BitsAt m b) (h1 : 2 * k + 1 ≠ 1) : CanM s m e ⟨s, 2 * k + 1, e + t, b - t⟩ := by
  have hp : (0 : Int) < 2 * k + 1 := by omega
  refine ⟨rfl, hp, by show (2 * k + 1) % 2 = 1; omega, ?_, t, by rw [hm, Int.mul_comm], rfl⟩
  show b - t = bl (2 * k + 1)
  rcases hb with rfl | ⟨j, rfl, hj⟩
  · rw [hm, Int.mul_comm, bl_shiftI hp]; omega
  · exfalso
    have e1 : (2 : Int) ^ j = 2 ^ t * (2 * k + 1) := by rw [← hj, hm]
    have htj : t ≤ j := by
      rcases Nat.lt_or_ge j t with h | h
      · exfalso
        have e2 : (2 : Int) ^ t = 2 ^ j * 2 ^ (t - j) := by rw [← Int.pow_add]; congr 1; omega
        have p : (0 : Int) < 2 ^ j := Int.pow_pos (by decide)
        rw [e2, Int.mul_assoc] at e1
        have e3 : (2 : Int) ^ j * 1 = 2 ^ j * (2 ^ (t - j) * (2 * k + 1)) := by rw [Int.mul_one]; exact e1
        have e4 := Int.eq_of_mul_eq_mul_left (Int.ne_of_gt p) e3
        have e5 : (2 : Int) ^ (t - j) = 2 * 2 ^ (t - j - 1) := by
          rw [← Int.pow_succ']; congr 1; omega
        rw [e5, Int.mul_assoc] at e4; omega
      · exact h
    have e2 : (2 : Int) ^ j = 2 ^ t * 2 ^ (j - t) := by rw [← Int.pow_add]; congr 1; omega
    have p : (0 : Int) < 2 ^ t := Int.pow_pos (by decide)
    rw [e2] at e1
    have e3 := Int.eq_of_mul_eq_mul_left (Int.ne_of_gt p) e1
    have : (2 : Int) ^ (j - t) % 2 = 1 := by rw [e3]; omega
    have := odd_two_pow this
    rw [this] at e3
    simp at e3; omega
theorem strip_even1 {s m e k : Int} {t : Nat} (hm : m = 2 ^ t * (2 * k + 1)) (h1 : 2 * k + 1 = 1) : CanM s m e ⟨s, 2 * k + 1, e + t, 1⟩ := by
  rw [h1] at hm ⊢
  exact ⟨rfl, (by decide : (0 : Int) < 1), (by decide : (1 : Int) % 2 = 1), (by rw [bl_one]; rfl), t, (by rw [hm]; show 2 ^ t * 1 = 1 * (2 : Int) ^ t; omega), rfl⟩

/-- a magnitude cut by k bits, down or up -/
def cut (dn : Bool) (m : Int) (k : Nat) : Int := if dn then m.fdiv (2 ^ k) else -((-m).fdiv (2 ^ k))
theorem cut_bits {dn : Bool} {m : Int} {k : Nat} (h0 : 0 < m) (hk : k < bl m) : 0 < cut dn m k ∧ BitsAt (cut dn m k) (bl m - k) := by
  obtain ⟨n, rfl⟩ := Int.eq_ofNat_of_zero_le (Int.le_of_lt h0)
  have hn : 0 < n := by omega
  have hd := bl_div hk
  have hp : 0 < n / 2 ^ k := by
    rcases Nat.eq_zero_or_pos (n / 2 ^ k) with h | h
    · rw [h, show bl ((0 : Nat) : Int) = 0 from rfl] at hd; omega
    · exact h
  have e2 : ((2 : Int) ^ k) = ((2 ^ k : Nat) : Int) := by simp
  cases dn with
  | true =>
    have e1 : cut true (n : Int) k = ((n / 2 ^ k : Nat) : Int) := by
      unfold cut; rw [if_pos rfl, e2, Int.fdiv_eq_ediv_of_nonneg _ (Int.natCast_nonneg _)]; simp
    rw [e1]
    refine ⟨by omega, .inl ?_⟩
    rw [hd]; omega
  | false =>
    have pk : (0 : Int) < 2 ^ k := Int.pow_pos (by decide)
    have e1 : cut false (n : Int) k = if n % 2 ^ k = 0 then ((n / 2 ^ k : Nat) : Int) else ((n / 2 ^ k + 1 : Nat) : Int) := by
      unfold cut
      rw [if_neg (by decide), Int.fdiv_eq_ediv_of_nonneg _ (Int.le_of_lt pk)]
      have hdm : (n : Int) = 2 ^ k * (n / 2 ^ k : Nat) + (n % 2 ^ k : Nat) := by
        have := Nat.div_add_mod n (2 ^ k)
        rw [e2]; rw [← Int.natCast_mul, ← Int.natCast_add, this]
      have hlt : ((n % 2 ^ k : Nat) : Int) < 2 ^ k := by
        have := Nat.mod_lt n (Nat.two_pow_pos k); rw [e2]; omega
      by_cases hz : n % 2 ^ k = 0
      · rw [if_pos hz]
        rw [hz] at hdm
        have : -(n : Int) = 2 ^ k * (-(n / 2 ^ k : Nat)) := by rw [Int.mul_neg, hdm]; simp
        rw [this, Int.mul_ediv_cancel_left _ (Int.ne_of_gt pk)]; omega
      · rw [if_neg hz]
        have : -(n : Int) = 2 ^ k * (-(n / 2 ^ k : Nat) - 1) + (2 ^ k - (n % 2 ^ k : Nat)) := by
          rw [Int.mul_sub, Int.mul_neg, Int.mul_one]; omega
        rw [this, Int.mul_add_ediv_left _ _ (Int.ne_of_gt pk), Int.ediv_eq_zero_of_lt (by omega) (by omega)]; omega
    rw [e1]
    split
    · exact ⟨by omega, .inl (by rw [hd]; omega)⟩
    · refine ⟨by omega, ?_⟩
      have ⟨a, b⟩ := bl_spec hp
      rw [hd] at a b
      rcases Nat.lt_or_ge (n / 2 ^ k + 1) (2 ^ (bl (n : Int) - k)) with h | h
      · refine .inl ?_
        have := bl_unique (m := n / 2 ^ k + 1) (k := bl (n : Int) - k - 1) (by omega) (by
          have : bl (n : Int) - k - 1 + 1 = bl (n : Int) - k := by omega
          rw [this]; exact h)
        rw [this]; omega
      · refine .inr ⟨bl (n : Int) - k, by omega, ?_⟩
        have : n / 2 ^ k + 1 = 2 ^ (bl (n : Int) - k) := by omega
        rw [this]; simp
end Mine
end

section
open PySem PySem.W PySem.Calls PyProof.Rows PySem.Spec
set_option Elab.async false
set_option maxRecDepth 100000
namespace Mine
mutual
inductive DataOf : V → PyData → Prop
  | none : DataOf .none .none
  | bool (b : Bool) : DataOf (.bool b) (.bool b)
  | int (i : Int) : DataOf (.int i) (.int i)
  | str (x : Str) : DataOf (.str x) (.str x)
  | tup {l : List V} {ds : List PyData} : DataOfL l ds → DataOf (.tup l) (.tuple ds)
inductive DataOfL : List V → List PyData → Prop
  | nil : DataOfL [] []
  | cons {x : V} {d : PyData} {l : List V} {ds : List PyData} : DataOf x d → DataOfL l ds → DataOfL (x :: l) (d :: ds)
end
mutual
theorem DataOf.reads {b h : Heap} : ∀ {x : V} {d : PyData} {v : Value}, DataOf x d → Rep b h v x → ∃ as, Reads h v d as
  | _, _, _, .none, .none => ⟨_, .none⟩
  | _, _, _, .bool _, .bool _ => ⟨_, .bool _⟩
  | _, _, _, .int _, .int _ _ => ⟨_, .int _ _⟩
  | _, _, _, .str _, .str _ _ => ⟨_, .str _ _⟩
  | _, _, _, .tup q, .tup ⟨o, ho, hc, n, hd⟩ r => by
    obtain ⟨as, ra⟩ := DataOfL.reads q r
    exact ⟨as, reads_tuple_at ho hc hd (by simpa using ra)⟩
theorem DataOfL.reads {b h : Heap} : ∀ {l : List V} {ds : List PyData} {vs : List Value}, DataOfL l ds → RepL b h vs l → ∃ as, ReadsAll h vs ds as
  | _, _, _, .nil, .nil => ⟨_, .nil⟩
  | _, _, _, .cons q qs, .cons r rs => by
    obtain ⟨as, ra⟩ := DataOf.reads q r
    obtain ⟨bs, rb⟩ := DataOfL.reads qs rs
    exact ⟨_, .cons ra rb⟩
end
section
variable {S : Sy} {d : Nat} {X : Prop}
theorem cmp_eqD {x y : V} {dx dy : PyData} {P : V → Prop} (hx : DataOf x dx) (hy : DataOf y dy) (sx : SeqAt.shaped dx = true) (sy : SeqAt.shaped dy = true) (p : P (.bool (dx.eqv dy))) : CmpW S d .Eq x y P X := by
  refine ⟨⟨fun A fl s v w pl r r' => ?_⟩⟩
  obtain ⟨as, ra⟩ := hx.reads r
  obtain ⟨bs, rb⟩ := hy.reads r'
  have := pl.un
  exact .bl (fun Q E q => eq_dataH ra rb sx sy (by omega) q) p
theorem shaped_tup (ns : List Int) : SeqAt.shaped (.tuple (ns.map PyData.int)) = true := by
  unfold SeqAt.shaped
  rw [show (PyData.tuple (ns.map PyData.int)).canLay0 = PyData.canLayAll0 (ns.map PyData.int) from rfl, ke_canLayAll0, show (PyData.tuple (ns.map PyData.int)).depth = PyData.depthAll (ns.map PyData.int) + 1 from rfl, ke_depthAll]
  rfl
theorem cmp_eq4 {a b c e a' b' c' e' : Int} {P : V → Prop} (p : P (.bool (decide (a = a' ∧ b = b' ∧ c = c' ∧ e = e')))) : CmpW S d .Eq (.tup [.int a, .int b, .int c, .int e]) (.tup [.int a', .int b', .int c', .int e']) P X := by
  refine cmp_eqD (dx := .tuple ([a, b, c, e].map PyData.int)) (dy := .tuple ([a', b', c', e'].map PyData.int)) ?_ ?_ (shaped_tup _) (shaped_tup _) ?_
  · exact .tup (.cons (.int _) (.cons (.int _) (.cons (.int _) (.cons (.int _) .nil))))
  · exact .tup (.cons (.int _) (.cons (.int _) (.cons (.int _) (.cons (.int _) .nil))))
  · rw [show PyData.eqv (.tuple ([a, b, c, e].map PyData.int)) (.tuple ([a', b', c', e'].map PyData.int)) = PyData.eqvAll ([a, b, c, e].map PyData.int) ([a', b', c', e'].map PyData.int) from rfl, ked_eqvAll]
    have e : decide ([a, b, c, e] = [a', b', c', e']) = decide (a = a' ∧ b = b' ∧ c = c' ∧ e = e') := by simp
    rw [e]; exact p
theorem Ex1_unpack2 {cs : Scope} {ρ : Rho} {a b : Str} {pa pb : Pos} {k : Nat} {tp pos : Pos} {ee : Expr} {P : Fw → Rho → Prop}
    (h : EvE S d cs ee ρ (fun x ρ₁ => ∃ xa xb, x = .tup [xa, xb] ∧ P .next ((b, xb) :: (a, xa) :: ρ₁)) X)
    (hk : ([a, b].all fun n => cs.names.lookup n == some .local || (cs.names.lookup n == some .cell && cs.names.lookup dot0 == none)) = true := by decide)
    (hs : ∀ env, swapsWithSole [Expr.Tuple [.Name a pa, .Name b pb] k tp] ee pos.line env = pure false := by intros; rfl)
    (hs2 : ∀ env : Env, env.scope = cs → swappedStores [Expr.Tuple [.Name a pa, .Name b pb] k tp] ee env = pure none := by intro env henv; obtain ⟨sc, _, _, _, _, _, _, _, _⟩ := env; cases henv; rfl) :
    Ex1 S d cs (.Assign [.Tuple [.Name a pa, .Name b pb] k tp] ee pos) ρ P X := by
  refine Ex1_unpack (nps := [(a, pa), (b, pb)]) rfl (h.mono fun x ρ₁ hx => ?_) (by simpa using hk) hs hs2
  obtain ⟨xa, xb, rfl, p⟩ := hx
  exact ⟨_, rfl, rfl, p⟩
theorem Ex1_unpack3 {cs : Scope} {ρ : Rho} {a b c : Str} {pa pb pc : Pos} {k : Nat} {tp pos : Pos} {ee : Expr} {P : Fw → Rho → Prop}
    (h : EvE S d cs ee ρ (fun x ρ₁ => ∃ xa xb xc, x = .tup [xa, xb, xc] ∧ P .next ((c, xc) :: (b, xb) :: (a, xa) :: ρ₁)) X)
    (hk : ([a, b, c].all fun n => cs.names.lookup n == some .local || (cs.names.lookup n == some .cell && cs.names.lookup dot0 == none)) = true := by decide)
    (hs : ∀ env, swapsWithSole [Expr.Tuple [.Name a pa, .Name b pb, .Name c pc] k tp] ee pos.line env = pure false := by intros; rfl)
    (hs2 : ∀ env : Env, env.scope = cs → swappedStores [Expr.Tuple [.Name a pa, .Name b pb, .Name c pc] k tp] ee env = pure none := by intro env henv; obtain ⟨sc, _, _, _, _, _, _, _, _⟩ := env; cases henv; rfl) :
    Ex1 S d cs (.Assign [.Tuple [.Name a pa, .Name b pb, .Name c pc] k tp] ee pos) ρ P X := by
  refine Ex1_unpack (nps := [(a, pa), (b, pb), (c, pc)]) rfl (h.mono fun x ρ₁ hx => ?_) (by simpa using hk) hs hs2
  obtain ⟨xa, xb, xc, rfl, p⟩ := hx
  exact ⟨_, rfl, rfl, p⟩
theorem Ex1_unpack4 {cs : Scope} {ρ : Rho} {a b c e : Str} {pa pb pc pe : Pos} {k : Nat} {tp pos : Pos} {ee : Expr} {P : Fw → Rho → Prop}
    (h : EvE S d cs ee ρ (fun x ρ₁ => ∃ xa xb xc xe, x = .tup [xa, xb, xc, xe] ∧ P .next ((e, xe) :: (c, xc) :: (b, xb) :: (a, xa) :: ρ₁)) X)
    (hk : ([a, b, c, e].all fun n => cs.names.lookup n == some .local || (cs.names.lookup n == some .cell && cs.names.lookup dot0 == none)) = true := by decide)
    (hs : ∀ env, swapsWithSole [Expr.Tuple [.Name a pa, .Name b pb, .Name c pc, .Name e pe] k tp] ee pos.line env = pure false := by intros; rfl)
    (hs2 : ∀ env : Env, env.scope = cs → swappedStores [Expr.Tuple [.Name a pa, .Name b pb, .Name c pc, .Name e pe] k tp] ee env = pure none := by intro env henv; obtain ⟨sc, _, _, _, _, _, _, _, _⟩ := env; cases henv; rfl) :
    Ex1 S d cs (.Assign [.Tuple [.Name a pa, .Name b pb, .Name c pc, .Name e pe] k tp] ee pos) ρ P X := by
  refine Ex1_unpack (nps := [(a, pa), (b, pb), (c, pc), (e, pe)]) rfl (h.mono fun x ρ₁ hx => ?_) (by simpa using hk) hs hs2
  obtain ⟨xa, xb, xc, xe, rfl, p⟩ := hx
  exact ⟨_, rfl, rfl, p⟩
end
end Mine
end

section
open PySem PySem.W PySem.Calls PyProof.Rows
set_option Elab.async false
set_option maxRecDepth 100000
namespace Mine
def stmtAt (i : Nat) : Stmt := PySem.Challenge.pw_ah5012_01.main.body.getD i (.Pass default)
section
variable {S : Sy} {fd : FuncData}
theorem binds_4_1 (F : FnIs S "trailing" (stmtAt 4) [] fd) (x1 : V) : ∀ (s : Shared) vs, S.ok s.heap → RepL S.base s.heap vs [x1] → ∃ bs : List (Str × Value), BindsTo s fd ⟨vs, []⟩ bs ∧ bs.map (·.1) = [("n" : Str)] ∧ RepL S.base s.heap (bs.map (·.2)) [x1] := by
  intro s vs ok rl
  have ar := F.ar
  have kw := F.kw
  have df := F.df
  obtain ⟨nm, qn, pr, bd, sc, gl, cl, dfl, kwd, doc, pm, an, cd, ct, bl⟩ := fd
  simp only at ar kw df
  subst ar kw
  rcases rl with _ | ⟨r1, rl⟩
  rcases rl with _ | _
  obtain ⟨_, rfl⟩ | ⟨h, _⟩ := df
  · exact ⟨[("n", _)], BindsTo.of_eq rfl, rfl, .cons r1 .nil⟩
  · exact absurd rfl h
theorem binds_19_6 (F : FnIs S "_normalize" (stmtAt 19) [] fd) (x1 x2 x3 x4 x5 x6 : V) : ∀ (s : Shared) vs, S.ok s.heap → RepL S.base s.heap vs [x1, x2, x3, x4, x5, x6] → ∃ bs : List (Str × Value), BindsTo s fd ⟨vs, []⟩ bs ∧ bs.map (·.1) = [("sign" : Str), ("man" : Str), ("exp" : Str), ("bc" : Str), ("prec" : Str), ("rnd" : Str)] ∧ RepL S.base s.heap (bs.map (·.2)) [x1, x2, x3, x4, x5, x6] := by
  intro s vs ok rl
  have ar := F.ar
  have kw := F.kw
  have df := F.df
  obtain ⟨nm, qn, pr, bd, sc, gl, cl, dfl, kwd, doc, pm, an, cd, ct, bl⟩ := fd
  simp only at ar kw df
  subst ar kw
  rcases rl with _ | ⟨r1, rl⟩
  rcases rl with _ | ⟨r2, rl⟩
  rcases rl with _ | ⟨r3, rl⟩
  rcases rl with _ | ⟨r4, rl⟩
  rcases rl with _ | ⟨r5, rl⟩
  rcases rl with _ | ⟨r6, rl⟩
  rcases rl with _ | _
  obtain ⟨_, rfl⟩ | ⟨h, _⟩ := df
  · exact ⟨[("sign", _), ("man", _), ("exp", _), ("bc", _), ("prec", _), ("rnd", _)], BindsTo.of_eq rfl, rfl, .cons r1 (.cons r2 (.cons r3 (.cons r4 (.cons r5 (.cons r6 .nil)))))⟩
  · exact absurd rfl h
theorem binds_20_6 (F : FnIs S "normalize" (stmtAt 20) [] fd) (x1 x2 x3 x4 x5 x6 : V) : ∀ (s : Shared) vs, S.ok s.heap → RepL S.base s.heap vs [x1, x2, x3, x4, x5, x6] → ∃ bs : List (Str × Value), BindsTo s fd ⟨vs, []⟩ bs ∧ bs.map (·.1) = [("sign" : Str), ("man" : Str), ("exp" : Str), ("bc" : Str), ("prec" : Str), ("rnd" : Str)] ∧ RepL S.base s.heap (bs.map (·.2)) [x1, x2, x3, x4, x5, x6] := by
  intro s vs ok rl
  have ar := F.ar
  have kw := F.kw
  have df := F.df
  obtain ⟨nm, qn, pr, bd, sc, gl, cl, dfl, kwd, doc, pm, an, cd, ct, bl⟩ := fd
  simp only at ar kw df
  subst ar kw
  rcases rl with _ | ⟨r1, rl⟩
  rcases rl with _ | ⟨r2, rl⟩
  rcases rl with _ | ⟨r3, rl⟩
  rcases rl with _ | ⟨r4, rl⟩
  rcases rl with _ | ⟨r5, rl⟩
  rcases rl with _ | ⟨r6, rl⟩
  rcases rl with _ | _
  obtain ⟨_, rfl⟩ | ⟨h, _⟩ := df
  · exact ⟨[("sign", _), ("man", _), ("exp", _), ("bc", _), ("prec", _), ("rnd", _)], BindsTo.of_eq rfl, rfl, .cons r1 (.cons r2 (.cons r3 (.cons r4 (.cons r5 (.cons r6 .nil)))))⟩
  · exact absurd rfl h
theorem binds_21_4 (F : FnIs S "from_man_exp" (stmtAt 21) [.int 0, .str "d"] fd) (x1 x2 x3 x4 : V) : ∀ (s : Shared) vs, S.ok s.heap → RepL S.base s.heap vs [x1, x2, x3, x4] → ∃ bs : List (Str × Value), BindsTo s fd ⟨vs, []⟩ bs ∧ bs.map (·.1) = [("man" : Str), ("exp" : Str), ("prec" : Str), ("rnd" : Str)] ∧ RepL S.base s.heap (bs.map (·.2)) [x1, x2, x3, x4] := by
  intro s vs ok rl
  have ar := F.ar
  have kw := F.kw
  have df := F.df
  obtain ⟨nm, qn, pr, bd, sc, gl, cl, dfl, kwd, doc, pm, an, cd, ct, bl⟩ := fd
  simp only at ar kw df
  subst ar kw
  rcases rl with _ | ⟨r1, rl⟩
  rcases rl with _ | ⟨r2, rl⟩
  rcases rl with _ | ⟨r3, rl⟩
  rcases rl with _ | ⟨r4, rl⟩
  rcases rl with _ | _
  obtain ⟨h, _⟩ | ⟨_, T, o, items, n, hd, ho, hs, hr⟩ := df
  · cases h
  · have hr := hr _ ok
    rcases hr with _ | ⟨q1, hr⟩
    rcases hr with _ | ⟨q2, hr⟩
    rcases hr with _ | _
    exact ⟨[("man", _), ("exp", _), ("prec", _), ("rnd", _)], BindsTo.of_defaults hd (ok.x _ _ ho) hs rfl rfl, rfl, .cons r1 (.cons r2 (.cons r3 (.cons r4 .nil)))⟩
theorem binds_22_1 (F : FnIs S "from_int" (stmtAt 22) [.int 0, .str "d"] fd) (x1 : V) : ∀ (s : Shared) vs, S.ok s.heap → RepL S.base s.heap vs [x1] → ∃ bs : List (Str × Value), BindsTo s fd ⟨vs, []⟩ bs ∧ bs.map (·.1) = [("n" : Str), ("prec" : Str), ("rnd" : Str)] ∧ RepL S.base s.heap (bs.map (·.2)) [x1, .int 0, .str "d"] := by
  intro s vs ok rl
  have ar := F.ar
  have kw := F.kw
  have df := F.df
  obtain ⟨nm, qn, pr, bd, sc, gl, cl, dfl, kwd, doc, pm, an, cd, ct, bl⟩ := fd
  simp only at ar kw df
  subst ar kw
  rcases rl with _ | ⟨r1, rl⟩
  rcases rl with _ | _
  obtain ⟨h, _⟩ | ⟨_, T, o, items, n, hd, ho, hs, hr⟩ := df
  · cases h
  · have hr := hr _ ok
    rcases hr with _ | ⟨q1, hr⟩
    rcases hr with _ | ⟨q2, hr⟩
    rcases hr with _ | _
    exact ⟨[("n", _), ("prec", _), ("rnd", _)], BindsTo.of_defaults hd (ok.x _ _ ho) hs rfl rfl, rfl, .cons r1 (.cons q1 (.cons q2 .nil))⟩
theorem binds_22_2 (F : FnIs S "from_int" (stmtAt 22) [.int 0, .str "d"] fd) (x1 x2 : V) : ∀ (s : Shared) vs, S.ok s.heap → RepL S.base s.heap vs [x1, x2] → ∃ bs : List (Str × Value), BindsTo s fd ⟨vs, []⟩ bs ∧ bs.map (·.1) = [("n" : Str), ("prec" : Str), ("rnd" : Str)] ∧ RepL S.base s.heap (bs.map (·.2)) [x1, x2, .str "d"] := by
  intro s vs ok rl
  have ar := F.ar
  have kw := F.kw
  have df := F.df
  obtain ⟨nm, qn, pr, bd, sc, gl, cl, dfl, kwd, doc, pm, an, cd, ct, bl⟩ := fd
  simp only at ar kw df
  subst ar kw
  rcases rl with _ | ⟨r1, rl⟩
  rcases rl with _ | ⟨r2, rl⟩
  rcases rl with _ | _
  obtain ⟨h, _⟩ | ⟨_, T, o, items, n, hd, ho, hs, hr⟩ := df
  · cases h
  · have hr := hr _ ok
    rcases hr with _ | ⟨q1, hr⟩
    rcases hr with _ | ⟨q2, hr⟩
    rcases hr with _ | _
    exact ⟨[("n", _), ("prec", _), ("rnd", _)], BindsTo.of_defaults hd (ok.x _ _ ho) hs rfl rfl, rfl, .cons r1 (.cons r2 (.cons q2 .nil))⟩
theorem binds_22_3 (F : FnIs S "from_int" (stmtAt 22) [.int 0, .str "d"] fd) (x1 x2 x3 : V) : ∀ (s : Shared) vs, S.ok s.heap → RepL S.base s.heap vs [x1, x2, x3] → ∃ bs : List (Str × Value), BindsTo s fd ⟨vs, []⟩ bs ∧ bs.map (·.1) = [("n" : Str), ("prec" : Str), ("rnd" : Str)] ∧ RepL S.base s.heap (bs.map (·.2)) [x1, x2, x3] := by
  intro s vs ok rl
  have ar := F.ar
  have kw := F.kw
  have df := F.df
  obtain ⟨nm, qn, pr, bd, sc, gl, cl, dfl, kwd, doc, pm, an, cd, ct, bl⟩ := fd
  simp only at ar kw df
  subst ar kw
  rcases rl with _ | ⟨r1, rl⟩
  rcases rl with _ | ⟨r2, rl⟩
  rcases rl with _ | ⟨r3, rl⟩
  rcases rl with _ | _
  obtain ⟨h, _⟩ | ⟨_, T, o, items, n, hd, ho, hs, hr⟩ := df
  · cases h
  · have hr := hr _ ok
    rcases hr with _ | ⟨q1, hr⟩
    rcases hr with _ | ⟨q2, hr⟩
    rcases hr with _ | _
    exact ⟨[("n", _), ("prec", _), ("rnd", _)], BindsTo.of_defaults hd (ok.x _ _ ho) hs rfl rfl, rfl, .cons r1 (.cons r2 (.cons r3 .nil))⟩
theorem binds_23_4 (F : FnIs S "from_rational" (stmtAt 23) [.str "d"] fd) (x1 x2 x3 x4 : V) : ∀ (s : Shared) vs, S.ok s.heap → RepL S.base s.heap vs [x1, x2, x3, x4] → ∃ bs : List (Str × Value), BindsTo s fd ⟨vs, []⟩ bs ∧ bs.map (·.1) = [("p" : Str), ("q" : Str), ("prec" : Str), ("rnd" : Str)] ∧ RepL S.base s.heap (bs.map (·.2)) [x1, x2, x3, x4] := by
  intro s vs ok rl
  have ar := F.ar
  have kw := F.kw
  have df := F.df
  obtain ⟨nm, qn, pr, bd, sc, gl, cl, dfl, kwd, doc, pm, an, cd, ct, bl⟩ := fd
  simp only at ar kw df
  subst ar kw
  rcases rl with _ | ⟨r1, rl⟩
  rcases rl with _ | ⟨r2, rl⟩
  rcases rl with _ | ⟨r3, rl⟩
  rcases rl with _ | ⟨r4, rl⟩
  rcases rl with _ | _
  obtain ⟨h, _⟩ | ⟨_, T, o, items, n, hd, ho, hs, hr⟩ := df
  · cases h
  · have hr := hr _ ok
    rcases hr with _ | ⟨q1, hr⟩
    rcases hr with _ | _
    exact ⟨[("p", _), ("q", _), ("prec", _), ("rnd", _)], BindsTo.of_defaults hd (ok.x _ _ ho) hs rfl rfl, rfl, .cons r1 (.cons r2 (.cons r3 (.cons r4 .nil)))⟩
theorem binds_24_2 (F : FnIs S "mpf_cmp" (stmtAt 24) [] fd) (x1 x2 : V) : ∀ (s : Shared) vs, S.ok s.heap → RepL S.base s.heap vs [x1, x2] → ∃ bs : List (Str × Value), BindsTo s fd ⟨vs, []⟩ bs ∧ bs.map (·.1) = [("s" : Str), ("t" : Str)] ∧ RepL S.base s.heap (bs.map (·.2)) [x1, x2] := by
  intro s vs ok rl
  have ar := F.ar
  have kw := F.kw
  have df := F.df
  obtain ⟨nm, qn, pr, bd, sc, gl, cl, dfl, kwd, doc, pm, an, cd, ct, bl⟩ := fd
  simp only at ar kw df
  subst ar kw
  rcases rl with _ | ⟨r1, rl⟩
  rcases rl with _ | ⟨r2, rl⟩
  rcases rl with _ | _
  obtain ⟨_, rfl⟩ | ⟨h, _⟩ := df
  · exact ⟨[("s", _), ("t", _)], BindsTo.of_eq rfl, rfl, .cons r1 (.cons r2 .nil)⟩
  · exact absurd rfl h
theorem binds_25_2 (F : FnIs S "mpf_ge" (stmtAt 25) [] fd) (x1 x2 : V) : ∀ (s : Shared) vs, S.ok s.heap → RepL S.base s.heap vs [x1, x2] → ∃ bs : List (Str × Value), BindsTo s fd ⟨vs, []⟩ bs ∧ bs.map (·.1) = [("s" : Str), ("t" : Str)] ∧ RepL S.base s.heap (bs.map (·.2)) [x1, x2] := by
  intro s vs ok rl
  have ar := F.ar
  have kw := F.kw
  have df := F.df
  obtain ⟨nm, qn, pr, bd, sc, gl, cl, dfl, kwd, doc, pm, an, cd, ct, bl⟩ := fd
  simp only at ar kw df
  subst ar kw
  rcases rl with _ | ⟨r1, rl⟩
  rcases rl with _ | ⟨r2, rl⟩
  rcases rl with _ | _
  obtain ⟨_, rfl⟩ | ⟨h, _⟩ := df
  · exact ⟨[("s", _), ("t", _)], BindsTo.of_eq rfl, rfl, .cons r1 (.cons r2 .nil)⟩
  · exact absurd rfl h
theorem binds_27_1 (F : FnIs S "mpf_neg" (stmtAt 27) [.int 0, .str "d"] fd) (x1 : V) : ∀ (s : Shared) vs, S.ok s.heap → RepL S.base s.heap vs [x1] → ∃ bs : List (Str × Value), BindsTo s fd ⟨vs, []⟩ bs ∧ bs.map (·.1) = [("s" : Str), ("prec" : Str), ("rnd" : Str)] ∧ RepL S.base s.heap (bs.map (·.2)) [x1, .int 0, .str "d"] := by
  intro s vs ok rl
  have ar := F.ar
  have kw := F.kw
  have df := F.df
  obtain ⟨nm, qn, pr, bd, sc, gl, cl, dfl, kwd, doc, pm, an, cd, ct, bl⟩ := fd
  simp only at ar kw df
  subst ar kw
  rcases rl with _ | ⟨r1, rl⟩
  rcases rl with _ | _
  obtain ⟨h, _⟩ | ⟨_, T, o, items, n, hd, ho, hs, hr⟩ := df
  · cases h
  · have hr := hr _ ok
    rcases hr with _ | ⟨q1, hr⟩
    rcases hr with _ | ⟨q2, hr⟩
    rcases hr with _ | _
    exact ⟨[("s", _), ("prec", _), ("rnd", _)], BindsTo.of_defaults hd (ok.x _ _ ho) hs rfl rfl, rfl, .cons r1 (.cons q1 (.cons q2 .nil))⟩
theorem binds_28_1 (F : FnIs S "mpf_abs" (stmtAt 28) [.int 0, .str "d"] fd) (x1 : V) : ∀ (s : Shared) vs, S.ok s.heap → RepL S.base s.heap vs [x1] → ∃ bs : List (Str × Value), BindsTo s fd ⟨vs, []⟩ bs ∧ bs.map (·.1) = [("s" : Str), ("prec" : Str), ("rnd" : Str)] ∧ RepL S.base s.heap (bs.map (·.2)) [x1, .int 0, .str "d"] := by
  intro s vs ok rl
  have ar := F.ar
  have kw := F.kw
  have df := F.df
  obtain ⟨nm, qn, pr, bd, sc, gl, cl, dfl, kwd, doc, pm, an, cd, ct, bl⟩ := fd
  simp only at ar kw df
  subst ar kw
  rcases rl with _ | ⟨r1, rl⟩
  rcases rl with _ | _
  obtain ⟨h, _⟩ | ⟨_, T, o, items, n, hd, ho, hs, hr⟩ := df
  · cases h
  · have hr := hr _ ok
    rcases hr with _ | ⟨q1, hr⟩
    rcases hr with _ | ⟨q2, hr⟩
    rcases hr with _ | _
    exact ⟨[("s", _), ("prec", _), ("rnd", _)], BindsTo.of_defaults hd (ok.x _ _ ho) hs rfl rfl, rfl, .cons r1 (.cons q1 (.cons q2 .nil))⟩
theorem binds_29_1 (F : FnIs S "mpf_sign" (stmtAt 29) [] fd) (x1 : V) : ∀ (s : Shared) vs, S.ok s.heap → RepL S.base s.heap vs [x1] → ∃ bs : List (Str × Value), BindsTo s fd ⟨vs, []⟩ bs ∧ bs.map (·.1) = [("s" : Str)] ∧ RepL S.base s.heap (bs.map (·.2)) [x1] := by
  intro s vs ok rl
  have ar := F.ar
  have kw := F.kw
  have df := F.df
  obtain ⟨nm, qn, pr, bd, sc, gl, cl, dfl, kwd, doc, pm, an, cd, ct, bl⟩ := fd
  simp only at ar kw df
  subst ar kw
  rcases rl with _ | ⟨r1, rl⟩
  rcases rl with _ | _
  obtain ⟨_, rfl⟩ | ⟨h, _⟩ := df
  · exact ⟨[("s", _)], BindsTo.of_eq rfl, rfl, .cons r1 .nil⟩
  · exact absurd rfl h
theorem binds_30_4 (F : FnIs S "mpf_add" (stmtAt 30) [.int 0, .str "d", .int 0] fd) (x1 x2 x3 x4 : V) : ∀ (s : Shared) vs, S.ok s.heap → RepL S.base s.heap vs [x1, x2, x3, x4] → ∃ bs : List (Str × Value), BindsTo s fd ⟨vs, []⟩ bs ∧ bs.map (·.1) = [("s" : Str), ("t" : Str), ("prec" : Str), ("rnd" : Str), ("_sub" : Str)] ∧ RepL S.base s.heap (bs.map (·.2)) [x1, x2, x3, x4, .int 0] := by
  intro s vs ok rl
  have ar := F.ar
  have kw := F.kw
  have df := F.df
  obtain ⟨nm, qn, pr, bd, sc, gl, cl, dfl, kwd, doc, pm, an, cd, ct, bl⟩ := fd
  simp only at ar kw df
  subst ar kw
  rcases rl with _ | ⟨r1, rl⟩
  rcases rl with _ | ⟨r2, rl⟩
  rcases rl with _ | ⟨r3, rl⟩
  rcases rl with _ | ⟨r4, rl⟩
  rcases rl with _ | _
  obtain ⟨h, _⟩ | ⟨_, T, o, items, n, hd, ho, hs, hr⟩ := df
  · cases h
  · have hr := hr _ ok
    rcases hr with _ | ⟨q1, hr⟩
    rcases hr with _ | ⟨q2, hr⟩
    rcases hr with _ | ⟨q3, hr⟩
    rcases hr with _ | _
    exact ⟨[("s", _), ("t", _), ("prec", _), ("rnd", _), ("_sub", _)], BindsTo.of_defaults hd (ok.x _ _ ho) hs rfl rfl, rfl, .cons r1 (.cons r2 (.cons r3 (.cons r4 (.cons q3 .nil))))⟩
theorem binds_30_5 (F : FnIs S "mpf_add" (stmtAt 30) [.int 0, .str "d", .int 0] fd) (x1 x2 x3 x4 x5 : V) : ∀ (s : Shared) vs, S.ok s.heap → RepL S.base s.heap vs [x1, x2, x3, x4, x5] → ∃ bs : List (Str × Value), BindsTo s fd ⟨vs, []⟩ bs ∧ bs.map (·.1) = [("s" : Str), ("t" : Str), ("prec" : Str), ("rnd" : Str), ("_sub" : Str)] ∧ RepL S.base s.heap (bs.map (·.2)) [x1, x2, x3, x4, x5] := by
  intro s vs ok rl
  have ar := F.ar
  have kw := F.kw
  have df := F.df
  obtain ⟨nm, qn, pr, bd, sc, gl, cl, dfl, kwd, doc, pm, an, cd, ct, bl⟩ := fd
  simp only at ar kw df
  subst ar kw
  rcases rl with _ | ⟨r1, rl⟩
  rcases rl with _ | ⟨r2, rl⟩
  rcases rl with _ | ⟨r3, rl⟩
  rcases rl with _ | ⟨r4, rl⟩
  rcases rl with _ | ⟨r5, rl⟩
  rcases rl with _ | _
  obtain ⟨h, _⟩ | ⟨_, T, o, items, n, hd, ho, hs, hr⟩ := df
  · cases h
  · have hr := hr _ ok
    rcases hr with _ | ⟨q1, hr⟩
    rcases hr with _ | ⟨q2, hr⟩
    rcases hr with _ | ⟨q3, hr⟩
    rcases hr with _ | _
    exact ⟨[("s", _), ("t", _), ("prec", _), ("rnd", _), ("_sub", _)], BindsTo.of_defaults hd (ok.x _ _ ho) hs rfl rfl, rfl, .cons r1 (.cons r2 (.cons r3 (.cons r4 (.cons r5 .nil))))⟩
theorem binds_31_4 (F : FnIs S "mpf_sub" (stmtAt 31) [.int 0, .str "d"] fd) (x1 x2 x3 x4 : V) : ∀ (s : Shared) vs, S.ok s.heap → RepL S.base s.heap vs [x1, x2, x3, x4] → ∃ bs : List (Str × Value), BindsTo s fd ⟨vs, []⟩ bs ∧ bs.map (·.1) = [("s" : Str), ("t" : Str), ("prec" : Str), ("rnd" : Str)] ∧ RepL S.base s.heap (bs.map (·.2)) [x1, x2, x3, x4] := by
  intro s vs ok rl
  have ar := F.ar
  have kw := F.kw
  have df := F.df
  obtain ⟨nm, qn, pr, bd, sc, gl, cl, dfl, kwd, doc, pm, an, cd, ct, bl⟩ := fd
  simp only at ar kw df
  subst ar kw
  rcases rl with _ | ⟨r1, rl⟩
  rcases rl with _ | ⟨r2, rl⟩
  rcases rl with _ | ⟨r3, rl⟩
  rcases rl with _ | ⟨r4, rl⟩
  rcases rl with _ | _
  obtain ⟨h, _⟩ | ⟨_, T, o, items, n, hd, ho, hs, hr⟩ := df
  · cases h
  · have hr := hr _ ok
    rcases hr with _ | ⟨q1, hr⟩
    rcases hr with _ | ⟨q2, hr⟩
    rcases hr with _ | _
    exact ⟨[("s", _), ("t", _), ("prec", _), ("rnd", _)], BindsTo.of_defaults hd (ok.x _ _ ho) hs rfl rfl, rfl, .cons r1 (.cons r2 (.cons r3 (.cons r4 .nil)))⟩
theorem binds_32_4 (F : FnIs S "mpf_mul" (stmtAt 32) [.int 0, .str "d"] fd) (x1 x2 x3 x4 : V) : ∀ (s : Shared) vs, S.ok s.heap → RepL S.base s.heap vs [x1, x2, x3, x4] → ∃ bs : List (Str × Value), BindsTo s fd ⟨vs, []⟩ bs ∧ bs.map (·.1) = [("s" : Str), ("t" : Str), ("prec" : Str), ("rnd" : Str)] ∧ RepL S.base s.heap (bs.map (·.2)) [x1, x2, x3, x4] := by
  intro s vs ok rl
  have ar := F.ar
  have kw := F.kw
  have df := F.df
  obtain ⟨nm, qn, pr, bd, sc, gl, cl, dfl, kwd, doc, pm, an, cd, ct, bl⟩ := fd
  simp only at ar kw df
  subst ar kw
  rcases rl with _ | ⟨r1, rl⟩
  rcases rl with _ | ⟨r2, rl⟩
  rcases rl with _ | ⟨r3, rl⟩
  rcases rl with _ | ⟨r4, rl⟩
  rcases rl with _ | _
  obtain ⟨h, _⟩ | ⟨_, T, o, items, n, hd, ho, hs, hr⟩ := df
  · cases h
  · have hr := hr _ ok
    rcases hr with _ | ⟨q1, hr⟩
    rcases hr with _ | ⟨q2, hr⟩
    rcases hr with _ | _
    exact ⟨[("s", _), ("t", _), ("prec", _), ("rnd", _)], BindsTo.of_defaults hd (ok.x _ _ ho) hs rfl rfl, rfl, .cons r1 (.cons r2 (.cons r3 (.cons r4 .nil)))⟩
theorem binds_33_4 (F : FnIs S "mpf_div" (stmtAt 33) [.str "d"] fd) (x1 x2 x3 x4 : V) : ∀ (s : Shared) vs, S.ok s.heap → RepL S.base s.heap vs [x1, x2, x3, x4] → ∃ bs : List (Str × Value), BindsTo s fd ⟨vs, []⟩ bs ∧ bs.map (·.1) = [("s" : Str), ("t" : Str), ("prec" : Str), ("rnd" : Str)] ∧ RepL S.base s.heap (bs.map (·.2)) [x1, x2, x3, x4] := by
  intro s vs ok rl
  have ar := F.ar
  have kw := F.kw
  have df := F.df
  obtain ⟨nm, qn, pr, bd, sc, gl, cl, dfl, kwd, doc, pm, an, cd, ct, bl⟩ := fd
  simp only at ar kw df
  subst ar kw
  rcases rl with _ | ⟨r1, rl⟩
  rcases rl with _ | ⟨r2, rl⟩
  rcases rl with _ | ⟨r3, rl⟩
  rcases rl with _ | ⟨r4, rl⟩
  rcases rl with _ | _
  obtain ⟨h, _⟩ | ⟨_, T, o, items, n, hd, ho, hs, hr⟩ := df
  · cases h
  · have hr := hr _ ok
    rcases hr with _ | ⟨q1, hr⟩
    rcases hr with _ | _
    exact ⟨[("s", _), ("t", _), ("prec", _), ("rnd", _)], BindsTo.of_defaults hd (ok.x _ _ ho) hs rfl rfl, rfl, .cons r1 (.cons r2 (.cons r3 (.cons r4 .nil)))⟩
theorem binds_36_2 (F : FnIs S "str_to_man_exp" (stmtAt 36) [.int 10] fd) (x1 x2 : V) : ∀ (s : Shared) vs, S.ok s.heap → RepL S.base s.heap vs [x1, x2] → ∃ bs : List (Str × Value), BindsTo s fd ⟨vs, []⟩ bs ∧ bs.map (·.1) = [("x" : Str), ("base" : Str)] ∧ RepL S.base s.heap (bs.map (·.2)) [x1, x2] := by
  intro s vs ok rl
  have ar := F.ar
  have kw := F.kw
  have df := F.df
  obtain ⟨nm, qn, pr, bd, sc, gl, cl, dfl, kwd, doc, pm, an, cd, ct, bl⟩ := fd
  simp only at ar kw df
  subst ar kw
  rcases rl with _ | ⟨r1, rl⟩
  rcases rl with _ | ⟨r2, rl⟩
  rcases rl with _ | _
  obtain ⟨h, _⟩ | ⟨_, T, o, items, n, hd, ho, hs, hr⟩ := df
  · cases h
  · have hr := hr _ ok
    rcases hr with _ | ⟨q1, hr⟩
    rcases hr with _ | _
    exact ⟨[("x", _), ("base", _)], BindsTo.of_defaults hd (ok.x _ _ ho) hs rfl rfl, rfl, .cons r1 (.cons r2 .nil)⟩
theorem binds_38_3 (F : FnIs S "from_str" (stmtAt 38) [.int 0, .str "d", .int 0] fd) (x1 x2 x3 : V) : ∀ (s : Shared) vs, S.ok s.heap → RepL S.base s.heap vs [x1, x2, x3] → ∃ bs : List (Str × Value), BindsTo s fd ⟨vs, []⟩ bs ∧ bs.map (·.1) = [("x" : Str), ("prec" : Str), ("rnd" : Str), ("base" : Str)] ∧ RepL S.base s.heap (bs.map (·.2)) [x1, x2, x3, .int 0] := by
  intro s vs ok rl
  have ar := F.ar
  have kw := F.kw
  have df := F.df
  obtain ⟨nm, qn, pr, bd, sc, gl, cl, dfl, kwd, doc, pm, an, cd, ct, bl⟩ := fd
  simp only at ar kw df
  subst ar kw
  rcases rl with _ | ⟨r1, rl⟩
  rcases rl with _ | ⟨r2, rl⟩
  rcases rl with _ | ⟨r3, rl⟩
  rcases rl with _ | _
  obtain ⟨h, _⟩ | ⟨_, T, o, items, n, hd, ho, hs, hr⟩ := df
  · cases h
  · have hr := hr _ ok
    rcases hr with _ | ⟨q1, hr⟩
    rcases hr with _ | ⟨q2, hr⟩
    rcases hr with _ | ⟨q3, hr⟩
    rcases hr with _ | _
    exact ⟨[("x", _), ("prec", _), ("rnd", _), ("base", _)], BindsTo.of_defaults hd (ok.x _ _ ho) hs rfl rfl, rfl, .cons r1 (.cons r2 (.cons r3 (.cons q3 .nil)))⟩
theorem binds_40_2 (F : FnIs S "MAX" (stmtAt 40) [] fd) (x1 x2 : V) : ∀ (s : Shared) vs, S.ok s.heap → RepL S.base s.heap vs [x1, x2] → ∃ bs : List (Str × Value), BindsTo s fd ⟨vs, []⟩ bs ∧ bs.map (·.1) = [("x" : Str), ("y" : Str)] ∧ RepL S.base s.heap (bs.map (·.2)) [x1, x2] := by
  intro s vs ok rl
  have ar := F.ar
  have kw := F.kw
  have df := F.df
  obtain ⟨nm, qn, pr, bd, sc, gl, cl, dfl, kwd, doc, pm, an, cd, ct, bl⟩ := fd
  simp only at ar kw df
  subst ar kw
  rcases rl with _ | ⟨r1, rl⟩
  rcases rl with _ | ⟨r2, rl⟩
  rcases rl with _ | _
  obtain ⟨_, rfl⟩ | ⟨h, _⟩ := df
  · exact ⟨[("x", _), ("y", _)], BindsTo.of_eq rfl, rfl, .cons r1 (.cons r2 .nil)⟩
  · exact absurd rfl h
theorem binds_41_4 (F : FnIs S "mpi_from_str_a_b" (stmtAt 41) [] fd) (x1 x2 x3 x4 : V) : ∀ (s : Shared) vs, S.ok s.heap → RepL S.base s.heap vs [x1, x2, x3, x4] → ∃ bs : List (Str × Value), BindsTo s fd ⟨vs, []⟩ bs ∧ bs.map (·.1) = [("x" : Str), ("y" : Str), ("percent" : Str), ("prec" : Str)] ∧ RepL S.base s.heap (bs.map (·.2)) [x1, x2, x3, x4] := by
  intro s vs ok rl
  have ar := F.ar
  have kw := F.kw
  have df := F.df
  obtain ⟨nm, qn, pr, bd, sc, gl, cl, dfl, kwd, doc, pm, an, cd, ct, bl⟩ := fd
  simp only at ar kw df
  subst ar kw
  rcases rl with _ | ⟨r1, rl⟩
  rcases rl with _ | ⟨r2, rl⟩
  rcases rl with _ | ⟨r3, rl⟩
  rcases rl with _ | ⟨r4, rl⟩
  rcases rl with _ | _
  obtain ⟨_, rfl⟩ | ⟨h, _⟩ := df
  · exact ⟨[("x", _), ("y", _), ("percent", _), ("prec", _)], BindsTo.of_eq rfl, rfl, .cons r1 (.cons r2 (.cons r3 (.cons r4 .nil)))⟩
  · exact absurd rfl h
theorem binds_42_2 (F : FnIs S "mpi_from_str" (stmtAt 42) [] fd) (x1 x2 : V) : ∀ (s : Shared) vs, S.ok s.heap → RepL S.base s.heap vs [x1, x2] → ∃ bs : List (Str × Value), BindsTo s fd ⟨vs, []⟩ bs ∧ bs.map (·.1) = [("s" : Str), ("prec" : Str)] ∧ RepL S.base s.heap (bs.map (·.2)) [x1, x2] := by
  intro s vs ok rl
  have ar := F.ar
  have kw := F.kw
  have df := F.df
  obtain ⟨nm, qn, pr, bd, sc, gl, cl, dfl, kwd, doc, pm, an, cd, ct, bl⟩ := fd
  simp only at ar kw df
  subst ar kw
  rcases rl with _ | ⟨r1, rl⟩
  rcases rl with _ | ⟨r2, rl⟩
  rcases rl with _ | _
  obtain ⟨_, rfl⟩ | ⟨h, _⟩ := df
  · exact ⟨[("s", _), ("prec", _)], BindsTo.of_eq rfl, rfl, .cons r1 (.cons r2 .nil)⟩
  · exact absurd rfl h
theorem binds_44_2 (F : FnIs S "_law_mixed" (stmtAt 44) [] fd) (x1 x2 : V) : ∀ (s : Shared) vs, S.ok s.heap → RepL S.base s.heap vs [x1, x2] → ∃ bs : List (Str × Value), BindsTo s fd ⟨vs, []⟩ bs ∧ bs.map (·.1) = [("script" : Str), ("k" : Str)] ∧ RepL S.base s.heap (bs.map (·.2)) [x1, x2] := by
  intro s vs ok rl
  have ar := F.ar
  have kw := F.kw
  have df := F.df
  obtain ⟨nm, qn, pr, bd, sc, gl, cl, dfl, kwd, doc, pm, an, cd, ct, bl⟩ := fd
  simp only at ar kw df
  subst ar kw
  rcases rl with _ | ⟨r1, rl⟩
  rcases rl with _ | ⟨r2, rl⟩
  rcases rl with _ | _
  obtain ⟨_, rfl⟩ | ⟨h, _⟩ := df
  · exact ⟨[("script", _), ("k", _)], BindsTo.of_eq rfl, rfl, .cons r1 (.cons r2 .nil)⟩
  · exact absurd rfl h
theorem binds_45_1 (F : FnIs S "_law_worth" (stmtAt 45) [] fd) (x1 : V) : ∀ (s : Shared) vs, S.ok s.heap → RepL S.base s.heap vs [x1] → ∃ bs : List (Str × Value), BindsTo s fd ⟨vs, []⟩ bs ∧ bs.map (·.1) = [("s" : Str)] ∧ RepL S.base s.heap (bs.map (·.2)) [x1] := by
  intro s vs ok rl
  have ar := F.ar
  have kw := F.kw
  have df := F.df
  obtain ⟨nm, qn, pr, bd, sc, gl, cl, dfl, kwd, doc, pm, an, cd, ct, bl⟩ := fd
  simp only at ar kw df
  subst ar kw
  rcases rl with _ | ⟨r1, rl⟩
  rcases rl with _ | _
  obtain ⟨_, rfl⟩ | ⟨h, _⟩ := df
  · exact ⟨[("s", _)], BindsTo.of_eq rfl, rfl, .cons r1 .nil⟩
  · exact absurd rfl h
theorem binds_46_4 (F : FnIs S "_law_rounded" (stmtAt 46) [] fd) (x1 x2 x3 x4 : V) : ∀ (s : Shared) vs, S.ok s.heap → RepL S.base s.heap vs [x1, x2, x3, x4] → ∃ bs : List (Str × Value), BindsTo s fd ⟨vs, []⟩ bs ∧ bs.map (·.1) = [("above" : Str), ("below" : Str), ("prec" : Str), ("rnd" : Str)] ∧ RepL S.base s.heap (bs.map (·.2)) [x1, x2, x3, x4] := by
  intro s vs ok rl
  have ar := F.ar
  have kw := F.kw
  have df := F.df
  obtain ⟨nm, qn, pr, bd, sc, gl, cl, dfl, kwd, doc, pm, an, cd, ct, bl⟩ := fd
  simp only at ar kw df
  subst ar kw
  rcases rl with _ | ⟨r1, rl⟩
  rcases rl with _ | ⟨r2, rl⟩
  rcases rl with _ | ⟨r3, rl⟩
  rcases rl with _ | ⟨r4, rl⟩
  rcases rl with _ | _
  obtain ⟨_, rfl⟩ | ⟨h, _⟩ := df
  · exact ⟨[("above", _), ("below", _), ("prec", _), ("rnd", _)], BindsTo.of_eq rfl, rfl, .cons r1 (.cons r2 (.cons r3 (.cons r4 .nil)))⟩
  · exact absurd rfl h
theorem binds_47_2 (F : FnIs S "_law_number" (stmtAt 47) [] fd) (x1 x2 : V) : ∀ (s : Shared) vs, S.ok s.heap → RepL S.base s.heap vs [x1, x2] → ∃ bs : List (Str × Value), BindsTo s fd ⟨vs, []⟩ bs ∧ bs.map (·.1) = [("rich" : Str), ("most" : Str)] ∧ RepL S.base s.heap (bs.map (·.2)) [x1, x2] := by
  intro s vs ok rl
  have ar := F.ar
  have kw := F.kw
  have df := F.df
  obtain ⟨nm, qn, pr, bd, sc, gl, cl, dfl, kwd, doc, pm, an, cd, ct, bl⟩ := fd
  simp only at ar kw df
  subst ar kw
  rcases rl with _ | ⟨r1, rl⟩
  rcases rl with _ | ⟨r2, rl⟩
  rcases rl with _ | _
  obtain ⟨_, rfl⟩ | ⟨h, _⟩ := df
  · exact ⟨[("rich", _), ("most", _)], BindsTo.of_eq rfl, rfl, .cons r1 (.cons r2 .nil)⟩
  · exact absurd rfl h
theorem binds_48_2 (F : FnIs S "_law_refused" (stmtAt 48) [] fd) (x1 x2 : V) : ∀ (s : Shared) vs, S.ok s.heap → RepL S.base s.heap vs [x1, x2] → ∃ bs : List (Str × Value), BindsTo s fd ⟨vs, []⟩ bs ∧ bs.map (·.1) = [("text" : Str), ("prec" : Str)] ∧ RepL S.base s.heap (bs.map (·.2)) [x1, x2] := by
  intro s vs ok rl
  have ar := F.ar
  have kw := F.kw
  have df := F.df
  obtain ⟨nm, qn, pr, bd, sc, gl, cl, dfl, kwd, doc, pm, an, cd, ct, bl⟩ := fd
  simp only at ar kw df
  subst ar kw
  rcases rl with _ | ⟨r1, rl⟩
  rcases rl with _ | ⟨r2, rl⟩
  rcases rl with _ | _
  obtain ⟨_, rfl⟩ | ⟨h, _⟩ := df
  · exact ⟨[("text", _), ("prec", _)], BindsTo.of_eq rfl, rfl, .cons r1 (.cons r2 .nil)⟩
  · exact absurd rfl h
theorem binds_49_4 (F : FnIs S "_law_held" (stmtAt 49) [] fd) (x1 x2 x3 x4 : V) : ∀ (s : Shared) vs, S.ok s.heap → RepL S.base s.heap vs [x1, x2, x3, x4] → ∃ bs : List (Str × Value), BindsTo s fd ⟨vs, []⟩ bs ∧ bs.map (·.1) = [("told" : Str), ("low" : Str), ("high" : Str), ("prec" : Str)] ∧ RepL S.base s.heap (bs.map (·.2)) [x1, x2, x3, x4] := by
  intro s vs ok rl
  have ar := F.ar
  have kw := F.kw
  have df := F.df
  obtain ⟨nm, qn, pr, bd, sc, gl, cl, dfl, kwd, doc, pm, an, cd, ct, bl⟩ := fd
  simp only at ar kw df
  subst ar kw
  rcases rl with _ | ⟨r1, rl⟩
  rcases rl with _ | ⟨r2, rl⟩
  rcases rl with _ | ⟨r3, rl⟩
  rcases rl with _ | ⟨r4, rl⟩
  rcases rl with _ | _
  obtain ⟨_, rfl⟩ | ⟨h, _⟩ := df
  · exact ⟨[("told", _), ("low", _), ("high", _), ("prec", _)], BindsTo.of_eq rfl, rfl, .cons r1 (.cons r2 (.cons r3 (.cons r4 .nil)))⟩
  · exact absurd rfl h
theorem binds_50_4 (F : FnIs S "_law_beyond" (stmtAt 50) [] fd) (x1 x2 x3 x4 : V) : ∀ (s : Shared) vs, S.ok s.heap → RepL S.base s.heap vs [x1, x2, x3, x4] → ∃ bs : List (Str × Value), BindsTo s fd ⟨vs, []⟩ bs ∧ bs.map (·.1) = [("told" : Str), ("x" : Str), ("y" : Str), ("prec" : Str)] ∧ RepL S.base s.heap (bs.map (·.2)) [x1, x2, x3, x4] := by
  intro s vs ok rl
  have ar := F.ar
  have kw := F.kw
  have df := F.df
  obtain ⟨nm, qn, pr, bd, sc, gl, cl, dfl, kwd, doc, pm, an, cd, ct, bl⟩ := fd
  simp only at ar kw df
  subst ar kw
  rcases rl with _ | ⟨r1, rl⟩
  rcases rl with _ | ⟨r2, rl⟩
  rcases rl with _ | ⟨r3, rl⟩
  rcases rl with _ | ⟨r4, rl⟩
  rcases rl with _ | _
  obtain ⟨_, rfl⟩ | ⟨h, _⟩ := df
  · exact ⟨[("told", _), ("x", _), ("y", _), ("prec", _)], BindsTo.of_eq rfl, rfl, .cons r1 (.cons r2 (.cons r3 (.cons r4 .nil)))⟩
  · exact absurd rfl h
end
structure Facts (S : Sy) where
  fd4 : FuncData
  fd19 : FuncData
  fd20 : FuncData
  fd21 : FuncData
  fd22 : FuncData
  fd23 : FuncData
  fd24 : FuncData
  fd25 : FuncData
  fd27 : FuncData
  fd28 : FuncData
  fd29 : FuncData
  fd30 : FuncData
  fd31 : FuncData
  fd32 : FuncData
  fd33 : FuncData
  fd36 : FuncData
  fd38 : FuncData
  fd40 : FuncData
  fd41 : FuncData
  fd42 : FuncData
  fd44 : FuncData
  fd45 : FuncData
  fd46 : FuncData
  fd47 : FuncData
  fd48 : FuncData
  fd49 : FuncData
  fd50 : FuncData
  f4 : FnIs S "trailing" (stmtAt 4) [] fd4
  f19 : FnIs S "_normalize" (stmtAt 19) [] fd19
  f20 : FnIs S "normalize" (stmtAt 20) [] fd20
  f21 : FnIs S "from_man_exp" (stmtAt 21) [.int 0, .str "d"] fd21
  f22 : FnIs S "from_int" (stmtAt 22) [.int 0, .str "d"] fd22
  f23 : FnIs S "from_rational" (stmtAt 23) [.str "d"] fd23
  f24 : FnIs S "mpf_cmp" (stmtAt 24) [] fd24
  f25 : FnIs S "mpf_ge" (stmtAt 25) [] fd25
  f27 : FnIs S "mpf_neg" (stmtAt 27) [.int 0, .str "d"] fd27
  f28 : FnIs S "mpf_abs" (stmtAt 28) [.int 0, .str "d"] fd28
  f29 : FnIs S "mpf_sign" (stmtAt 29) [] fd29
  f30 : FnIs S "mpf_add" (stmtAt 30) [.int 0, .str "d", .int 0] fd30
  f31 : FnIs S "mpf_sub" (stmtAt 31) [.int 0, .str "d"] fd31
  f32 : FnIs S "mpf_mul" (stmtAt 32) [.int 0, .str "d"] fd32
  f33 : FnIs S "mpf_div" (stmtAt 33) [.str "d"] fd33
  f36 : FnIs S "str_to_man_exp" (stmtAt 36) [.int 10] fd36
  f38 : FnIs S "from_str" (stmtAt 38) [.int 0, .str "d", .int 0] fd38
  f40 : FnIs S "MAX" (stmtAt 40) [] fd40
  f41 : FnIs S "mpi_from_str_a_b" (stmtAt 41) [] fd41
  f42 : FnIs S "mpi_from_str" (stmtAt 42) [] fd42
  f44 : FnIs S "_law_mixed" (stmtAt 44) [] fd44
  f45 : FnIs S "_law_worth" (stmtAt 45) [] fd45
  f46 : FnIs S "_law_rounded" (stmtAt 46) [] fd46
  f47 : FnIs S "_law_number" (stmtAt 47) [] fd47
  f48 : FnIs S "_law_refused" (stmtAt 48) [] fd48
  f49 : FnIs S "_law_held" (stmtAt 49) [] fd49
  f50 : FnIs S "_law_beyond" (stmtAt 50) [] fd50
  g_fzero : GlobIs S "fzero" (.tup [.int 0, .int 0, .int 0, .int 0])
  g_fnan : GlobIs S "fnan" (.tup [.int 0, .int 0, .int (-123), .int (-1)])
  g_finf : GlobIs S "finf" (.tup [.int 0, .int 0, .int (-456), .int (-2)])
  g_fninf : GlobIs S "fninf" (.tup [.int 1, .int 0, .int (-789), .int (-3)])
  g_round_nearest : GlobIs S "round_nearest" (.str "n")
  g_round_floor : GlobIs S "round_floor" (.str "f")
  g_round_ceiling : GlobIs S "round_ceiling" (.str "c")
  g_shifts_down : GlobIs S "shifts_down" (.raw (gl S "shifts_down"))
  g_special_str : GlobIs S "special_str" (.raw (gl S "special_str"))
  sdf : DictIs S "shifts_down" "f" (some (.tup [.int 1, .int 0]))
  sdc : DictIs S "shifts_down" "c" (some (.tup [.int 0, .int 1]))
  special : ∀ x : Str, x ∉ (["inf", "+inf", "-inf", "nan", "oo", "+oo", "-oo"] : List Str) → DictIs S "special_str" x none
  b_int : BuiltIs S "int" (.type "int")
  b_str : BuiltIs S "str" (.type "str")
  b_ValueError : BuiltIs S "ValueError" (.type "ValueError")
  b_isinstance : BuiltIs S "isinstance" (.builtin "isinstance")
  b_len : BuiltIs S "len" (.builtin "len")
  b_max : BuiltIs S "max" (.builtin "max")
  b_divmod : BuiltIs S "divmod" (.builtin "divmod")
  b_pow : BuiltIs S "pow" (.builtin "pow")
  b_abs : BuiltIs S "abs" (.builtin "abs")
  b_all : BuiltIs S "all" (.builtin "all")
end Mine
end

section
open PySem PySem.W PySem.Calls PyProof.Rows PySem.Builtin PySem.Builtin.Str
set_option Elab.async false
set_option maxRecDepth 100000
namespace Mine
section
variable {S : Sy} {d : Nat} {cs : Scope} {ρ : Rho} {X : Prop}
/-! texts -/
theorem Wk.tx {t : Sem Value} {P : V → Prop} {A : Around} {fl : List Env} {s : Shared} {x : Str}
    (h : ∀ (Q : Value → Shared → Prop) (E : Value → Shared → Prop), (∀ t' k, Q (.str x t') { s with toks := k }) → wpAny (model S.prog S.w) A t Q E s)
    (p : P (.str x)) : Wk S t (Rep S.base) s A fl P X :=
  .val (V := .str x) (fun Q E q => h Q E fun _ _ => q _ _ (.str _ _) rfl rfl rfl) p
theorem bi_addS {x y : Str} {P : V → Prop} (hx : x.length ≤ 1000000) (hy : y.length ≤ 1000000) (p : P (.str (x ++ y))) : BinW S d .Add (.str x) (.str y) P X := by
  refine ⟨⟨fun A fl s v w pl r r' => ?_⟩⟩; cases r; cases r'
  exact .tx (fun Q E q => by
    refine concat_gives (typeIs_str s _ _) (typeIs_str s _ _) PySem.noFill_str_add PySem.seq_str_add F.slot_str_add F.entry_str_add (F.args_str_add_2 _ _) (gives_str_add _ _ _ _) ?_
    have hz : (x ++ y).length ≤ sizeLine := by rw [sizeLine_eq, PySem.Str.length_append]; omega
    cases hb : (x.length == 0) with
    | true =>
      have : x ++ y = y := by
        have : x = PySem.Str.empty := by
          obtain ⟨a⟩ := x
          have := beq_iff_eq.mp hb
          simp only [PySem.Str.length, Array.size_eq_zero_iff] at this; subst this; rfl
        rw [this, PySem.Str.empty_append]
      rw [this] at q; exact q _ s.toks
    | false =>
      cases hc : (y.length == 0) with
      | true =>
        have : x ++ y = x := by
          have : y = PySem.Str.empty := by
            obtain ⟨a⟩ := y
            have := beq_iff_eq.mp hc
            simp only [PySem.Str.length, Array.size_eq_zero_iff] at this; subst this; rfl
          rw [this, PySem.Str.append_empty]
        rw [this] at q; exact q _ s.toks
      | false => exact ⟨hz, q _ _⟩) p
theorem bi_mulS {x : Str} {n : Int} {P : V → Prop} (hx : x.length ≤ 16) (h0 : -1000000 ≤ n) (h1 : n ≤ 1000000) (p : P (.str (Txt.mul x n))) : BinW S d .Mult (.str x) (.int n) P X := by
  refine ⟨⟨fun A fl s v w pl r r' => ?_⟩⟩; cases r; cases r'
  exact .tx (fun Q E q => SB.mul (mulOk_of 16 1000000 hx h1 (by omega) (by decide) (by decide)) q) p
theorem cmp_in {x y : Str} {b : Bool} {P : V → Prop} (h : Txt.contains x y = b) (p : P (.bool b)) : CmpW S d .In (.str y) (.str x) P X := by
  subst h
  refine ⟨⟨fun A fl s v w pl r r' => ?_⟩⟩; cases r; cases r'
  exact .bl (fun Q E q => PySem.P.in_str q) p
theorem cmp_notin {x y : Str} {b : Bool} {P : V → Prop} (h : Txt.contains x y = b) (p : P (.bool (!b))) : CmpW S d .NotIn (.str y) (.str x) P X := by
  subst h
  refine ⟨⟨fun A fl s v w pl r r' => ?_⟩⟩; cases r; cases r'
  exact .bl (fun Q E q => PySem.P.notIn_str q) p
theorem cmp_neS {x y : Str} {P : V → Prop} (p : P (.bool (x != y))) : CmpW S d .NotEq (.str x) (.str y) P X := by
  refine ⟨⟨fun A fl s v w pl r r' => ?_⟩⟩; cases r; cases r'
  exact .bl (fun Q E q => PyProof.Rows.ne_str q) p
theorem call_lenS {x : Str} {P : V → Prop} (hx : x.length ≤ 1000000) (p : P (.int x.length)) : CallW S d (.raw (.builtin "len")) [.str x] P X := by
  refine ⟨fun A fl s fv vs pl r rl => ?_⟩; cases r; cases rl with | cons r rl => cases r; cases rl with | nil =>
  exact .val (V := .int x.length) (fun Q E q => PySem.P.len_str (by omega) (q _ _ (.int _ _) rfl rfl rfl)) p
theorem call_lenL {xs : List V} {P : V → Prop} (hx : xs.length ≤ 1000000) (p : P (.int xs.length)) : CallW S d (.raw (.builtin "len")) [.list xs] P X := by
  refine ⟨fun A fl s fv vs pl r rl => ?_⟩; cases r; cases rl with | cons r rl => cases r with | list hl hr => cases rl with | nil =>
  have e := repL_length hr
  exact .val (V := .int xs.length) (fun Q E q => Calls.call_len_list hl (by simp; omega) (q _ _ (by simp only [List.size_toArray]; rw [e]; exact .int _ _) rfl rfl rfl)) p
theorem call_strI {n : Int} {P : V → Prop} (h : n.natAbs.log2 < 1920) (p : P (.str (PySem.Str.ofString (toString n)))) : CallW S d (.raw (.type "str")) [.int n] P X := by
  refine ⟨fun A fl s fv vs pl r rl => ?_⟩; cases r; cases rl with | cons r rl => cases r; cases rl with | nil =>
  exact .val (V := .str (PySem.Str.ofString (toString n))) (fun Q E q => PySem.P.str_of_int h (q _ _ (.str _ _) rfl rfl rfl)) p
theorem call_intS {x : Str} {n : Int} {P : V → Prop} (h : PySem.intText? x = some n) (hl : x.length ≤ 640) (p : P (.int n)) : CallW S d (.raw (.type "int")) [.str x] P X := by
  refine ⟨fun A fl s fv vs pl r rl => ?_⟩; cases r; cases rl with | cons r rl => cases r; cases rl with | nil =>
  exact .tok (fun Q E q => KIN.call_text h hl q) p

/-! methods of texts -/
theorem meth_lower {x : Str} : MethIs S (.str x) "lower" "str.lower" := by intro A s v pl Q E r q; cases r; exact GM.lower q
theorem meth_strip {x : Str} : MethIs S (.str x) "strip" "str.strip" := by intro A s v pl Q E r q; cases r; exact GM.strip q
theorem meth_rstrip {x : Str} : MethIs S (.str x) "rstrip" "str.rstrip" := by intro A s v pl Q E r q; cases r; exact GM.rstrip q
theorem meth_replace {x : Str} : MethIs S (.str x) "replace" "str.replace" := by intro A s v pl Q E r q; cases r; exact GM.replace q
theorem meth_split {x : Str} : MethIs S (.str x) "split" "str.split" := by intro A s v pl Q E r q; cases r; exact GM.split q
theorem meth_startswith {x : Str} : MethIs S (.str x) "startswith" "str.startswith" := by intro A s v pl Q E r q; cases r; exact GM.startswith q
theorem call_lower {x y : Str} {P : V → Prop} (hx : x.length ≤ 1000000) (h : Txt.lower x = y) (p : P (.str y)) : CallW S d (.raw (.builtin "str.lower")) [.str x] P X := by
  subst h
  refine ⟨fun A fl s fv vs pl r rl => ?_⟩; cases r; cases rl with | cons r rl => cases r; cases rl with | nil =>
  exact .val (V := .str (Txt.lower x)) (fun Q E q => SC.lower (fit_lower (by omega)) (q _ _ (.str _ _) rfl rfl rfl)) p
theorem call_strip {x y : Str} {P : V → Prop} (hx : x.length ≤ 1000000) (h : Txt.strip x = y) (p : P (.str y)) : CallW S d (.raw (.builtin "str.strip")) [.str x] P X := by
  subst h
  refine ⟨fun A fl s fv vs pl r rl => ?_⟩; cases r; cases rl with | cons r rl => cases r; cases rl with | nil =>
  exact .tx (fun Q E q => SC.strip q (by rw [sizeLine_eq]; omega)) p
theorem call_rstripC {x c y : Str} {P : V → Prop} (hx : x.length ≤ 1000000) (h : Txt.rstripChars x c = y) (p : P (.str y)) : CallW S d (.raw (.builtin "str.rstrip")) [.str x, .str c] P X := by
  subst h
  refine ⟨fun A fl s fv vs pl r rl => ?_⟩; cases r; cases rl with | cons r rl => cases r; cases rl with | cons r rl => cases r; cases rl with | nil =>
  exact .tx (fun Q E q => SC.rstripChars q (by rw [sizeLine_eq]; omega)) p
theorem repL_append {b h : Heap} : ∀ {vs ws : List Value} {xs ys : List V}, RepL b h vs xs → RepL b h ws ys → RepL b h (vs ++ ws) (xs ++ ys)
  | _, _, _, _, .nil, q => q
  | _, _, _, _, .cons a r, q => .cons a (repL_append r q)
theorem repL_strs {b h : Heap} : ∀ {l : List (Str × Tok)}, RepL b h (strValues l) (l.map fun p => V.str p.1)
  | [] => .nil
  | (x, t) :: r => .cons (.str x t) repL_strs
theorem call_split {x c : Str} {l : List Str} {P : V → Prop} (hx : x.length ≤ 1000000) (hc : (c.length == 0) = false) (hz : (partsBetween x (occurrences x c 0 x.length (x.length + 1)) c.length).length ≤ sizeLine)
    (h : Txt.split x c = l) (p : P (.list (l.map .str))) : CallW S d (.raw (.builtin "str.split")) [.str x, .str c] P X := by
  subst h
  refine ⟨fun A fl s fv vs pl r rl => ?_⟩; cases r; cases rl with | cons r rl => cases r; cases rl with | cons r rl => cases r; cases rl with | nil =>
  refine .of fun Q E q _ => SCH.split1 (P := fun h => s.heap.StaysIn h) (fun h ob k b o e => Heap.get?_push_of_some _ (k b o e)) (fun _ _ e => e) hc (fun D l h' k hl hs hD => ?_) (by rw [sizeLine_eq]; omega) hz
  refine q _ _ _ rfl rfl hs ?_ p
  rw [← hl, List.map_map]
  exact .list hD repL_strs

/-! pieces of texts -/
theorem sub_str {value slice : Expr} {x : Str} {k : Int} {P : V → Prop} (h0 : -(x.length : Int) ≤ k) (h1 : k < x.length) (hx : x.length ≤ 1000000) (p : P (.str (Txt.item x k)))
    (hs : ∀ t u, subscripted slice false (.str x t) (.int k u) = operate [.str x t, .int k u] (getItem (.str x t) (.int k u)) := by intros; with_unfolding_all rfl) : SubW S d value slice (.str x) (.int k) P X := by
  refine ⟨⟨fun A fl s v w pl r r' => ?_⟩⟩
  cases r with | str _ t => cases r' with | int _ u =>
  have hc : ((Txt.charAt x k).isSome) = true := charAt_isSome h0 h1
  obtain ⟨c, hc⟩ := Option.isSome_iff_exists.mp hc
  refine .val (V := .str (Txt.item x k)) (fun Q E q => tail_any (typeIs_str _ _ _) F.slot_str_getitem.lookup (PySem.P.getItem_str ?_ hc (q _ _ ?_ rfl rfl rfl)) (hs _ _)) p
  · rw [decide_eq_false (by omega), decide_eq_false (by omega)]; rfl
  · have : Txt.item x k = ⟨#[c]⟩ := by unfold Txt.item; rw [show Txt.charAt x k = some c from hc]; rfl
    rw [this]; exact .str _ _
theorem At.stay {l : Loc} {s s' : Shared} (a : At S d cs l ρ s) (k : s.heap.StaysIn s'.heap) (t : 0 < s'.toks) : At S d cs l ρ s' := by
  obtain ⟨m, F, R⟩ := a.F
  exact { a with F := ⟨m, fr_keeps F k, R.keeps k⟩, cells := a.cells.keeps k, tk := t }
theorem EvE_slice_ns {value u : Expr} {p pos : Pos} {P : V → Rho → Prop}
    (h : EvE S d cs value ρ (fun x ρ₁ => EvE S d cs u ρ₁ (fun y ρ₂ => ∃ x' j, x = .str x' ∧ y = .int j ∧ x'.length ≤ 1000000 ∧ P (.str (Txt.slice x' none (some j))) ρ₂) X) X)
    (ht : ∀ o r, letTemporaryGo value o r = pure () := by intro _ _; rfl) : EvE S d cs (.Subscript value (.Slice none (some u) none p) pos) ρ P X := by
  refine ⟨⟨fun l s Q E a hQ hE => ?_⟩⟩
  refine wpAny_toks ?_
  refine wpAny_Subscript_str_slice (h.at a (fun hX e s' f n _ => hE hX e s' f n) fun v x ρ₁ s₁ a₁ n₁ r₁ p₁ hE₁ => evalPart_none_step (evalPart_some_step (p₁.at a₁ hE₁ fun w y ρ₂ s₂ a₂ n₂ r₂ p₂ hE₂ => ?_))) ht
  obtain ⟨x', j, rfl, rfl, hx, p₂⟩ := p₂
  cases r₁ with | str _ t => cases r₂ with | int _ tu =>
  refine ⟨x', t, none, some (j, tu), rfl, rfl, rfl, post_val_or_str ⟨Nat.le_trans (Txt.slice_le x' _ _) (by rw [sizeLine_eq]; omega), fun t' k => ?_⟩⟩
  have sh : s₂.heap.StaysIn (s₂.heap.push { cls := .type "slice", data := .fields #[.none, .int j tu, .none] }) := fun _ _ e => Heap.get?_push_of_some _ e
  exact fun hk => hQ _ _ _ _ (a₂.stay sh (Nat.lt_of_lt_of_le a.tk hk)) ⟨n₂.gens.trans n₁.gens, n₂.os.trans n₁.os, n₁.imm.trans (n₂.imm.trans (.of_stays sh)), hk⟩ (.str _ _) p₂
theorem EvE_slice_sn {value u : Expr} {p pos : Pos} {P : V → Rho → Prop}
    (h : EvE S d cs value ρ (fun x ρ₁ => EvE S d cs u ρ₁ (fun y ρ₂ => ∃ x' j, x = .str x' ∧ y = .int j ∧ x'.length ≤ 1000000 ∧ P (.str (Txt.slice x' (some j) none)) ρ₂) X) X)
    (ht : ∀ o r, letTemporaryGo value o r = pure () := by intro _ _; rfl) : EvE S d cs (.Subscript value (.Slice (some u) none none p) pos) ρ P X := by
  refine ⟨⟨fun l s Q E a hQ hE => ?_⟩⟩
  refine wpAny_toks ?_
  refine wpAny_Subscript_str_slice (h.at a (fun hX e s' f n _ => hE hX e s' f n) fun v x ρ₁ s₁ a₁ n₁ r₁ p₁ hE₁ => evalPart_some_step (p₁.at a₁ hE₁ fun w y ρ₂ s₂ a₂ n₂ r₂ p₂ hE₂ => evalPart_none_step ?_)) ht
  obtain ⟨x', j, rfl, rfl, hx, p₂⟩ := p₂
  cases r₁ with | str _ t => cases r₂ with | int _ tu =>
  refine ⟨x', t, some (j, tu), none, rfl, rfl, rfl, post_val_or_str ⟨Nat.le_trans (Txt.slice_le x' _ _) (by rw [sizeLine_eq]; omega), fun t' k => ?_⟩⟩
  have sh : s₂.heap.StaysIn (s₂.heap.push { cls := .type "slice", data := .fields #[.int j tu, .none, .none] }) := fun _ _ e => Heap.get?_push_of_some _ e
  exact fun hk => hQ _ _ _ _ (a₂.stay sh (Nat.lt_of_lt_of_le a.tk hk)) ⟨n₂.gens.trans n₁.gens, n₂.os.trans n₁.os, n₁.imm.trans (n₂.imm.trans (.of_stays sh)), hk⟩ (.str _ _) p₂

/-! formats and exceptions -/
theorem bi_modS {y : Str} {P : V → Prop} (hy : y.length ≤ 1000) (p : ∀ z, P (.str z)) : BinW S d .Mod (.str "Improperly formed interval number '%s'") (.str y) P X := by
  refine ⟨⟨fun A fl s v w pl r r' => ?_⟩⟩; cases r; cases r'
  refine .of fun Q E q _ => KPc.mod_str (T := fun z => ((("Improperly formed interval number '" : String) : Str) ++ z) ++ (("'" : String) : Str)) (by kpc_eq) (by omega) (by kpc_run_s) fun t' k => q _ _ _ rfl rfl (fun _ _ e => e) (.str _ _) (p _)
theorem call_exc {z : Str} {P : V → Prop} (p : P .exc) : CallW S d (.raw (.type "ValueError")) [.str z] P X := by
  refine ⟨fun A fl s fv vs pl r rl => ?_⟩; cases r; cases rl with | cons r rl => cases r; cases rl with | nil =>
  refine .of fun Q E q _ => PyProof.Rows.call_exc excClass_ValueError (fun h' e ne => ?_) (by rw [sizeLine_eq]; simp)
  obtain ⟨k1, k2, ob, t, k3, k4, k5⟩ := ne
  refine q _ _ _ rfl rfl k1 (.exc k3 k4 k5 rfl ?_) p
  cases hb : S.base.get? e with
  | none => rfl
  | some o => rw [pl.st e o hb] at k2; cases k2

/-! unpacking a list -/
theorem At.unpackL {l : Loc} {s : Shared} {v : Value} {xs : List V} {n : Nat} {Q : List Value → Shared → Prop} {E : Value → Shared → Prop} (a : At S d cs l ρ s) (r : Rep S.base s.heap v (.list xs)) (hn : n = xs.length)
    (k : ∀ vs s', At S d cs l ρ s' → Kp s s' → RepL S.base s'.heap vs xs → Q vs s') : wpAny (model S.prog S.w) l.A (unpackItems v n none) Q E s := by
  cases r with | @list t vs _ ht rl =>
  have hl : n = vs.toArray.size := by rw [hn, ← repL_length rl]; simp
  subst hl
  refine kun_itemsOf a.hd ht fun h' he => ?_
  have kp : Kp s { s with heap := h' } := ⟨rfl, rfl, extBut_stays he, Nat.le_refl _⟩
  exact k _ _ (a.kp kp) kp (rl.imm kp.nx.imm)
theorem Ex1_unpackL {elts : List Expr} {k : Nat} {tp pos : Pos} {e : Expr} {nps : List (Str × Pos)} {P : Fw → Rho → Prop}
    (hn : namesOf elts = some nps)
    (h : EvE S d cs e ρ (fun x ρ₁ => ∃ xs, x = .list xs ∧ nps.length = xs.length ∧ P .next (((nps.map (·.1)).zip xs).reverse ++ ρ₁)) X)
    (hk : (nps.all fun n => cs.names.lookup n.1 == some .local || (cs.names.lookup n.1 == some .cell && cs.names.lookup dot0 == none)) = true := by decide)
    (hs : ∀ env, swapsWithSole [Expr.Tuple elts k tp] e pos.line env = pure false := by intros; rfl)
    (hs2 : ∀ env : Env, env.scope = cs → swappedStores [Expr.Tuple elts k tp] e env = pure none := by intro env henv; obtain ⟨sc, _, _, _, _, _, _, _, _⟩ := env; cases henv; rfl) : Ex1 S d cs (.Assign [.Tuple elts k tp] e pos) ρ P X := by
  refine ⟨⟨fun l s Q E a hQ hE => ?_⟩⟩
  refine Assign_Tuple (h.at a hE fun v x ρ₁ s₁ a₁ n₁ r₁ p₁ hE₁ => ?_) (hs _) (hs2 _ a.scope)
  obtain ⟨xs, rfl, hl, p⟩ := p₁
  rw [arm_assign_Tuple]
  refine wpAny_bind (wpAny_standAt ?_)
  unfold unpack
  rw [assignEach_names hn]
  have hf : (nps.map fun q => (false, fun v => assign (.Name q.1 q.2) l.env v)).findIdx? (·.1) = none := by simp
  rw [hf, List.length_map]
  refine wpAny_bind (wpAny_holding (a₁.unpackL r₁ hl fun vs s₂ a₂ k₂ r₂ => ?_))
  refine At.storeEach (ns := nps.map (·.1)) a₂ r₂ (by rw [List.length_map]; exact hl) (fun n hn' => ?_) (fun s₃ a₃ n₃ => hQ _ _ _ _ a₃ (n₁.trans (k₂.nx.trans n₃)) .next p) _ (by simp) fun i hi hi' v Q' s' hx => ?_
  · obtain ⟨q, hq, rfl⟩ := List.mem_map.mp hn'
    have := List.all_eq_true.mp hk q hq
    simpa using this
  · simp only [List.getElem_map] at hx ⊢
    exact PyProof.Rows.assign_Name hx
theorem Ex1_unpackL2 {a b : Str} {pa pb : Pos} {k : Nat} {tp pos : Pos} {ee : Expr} {P : Fw → Rho → Prop}
    (h : EvE S d cs ee ρ (fun x ρ₁ => ∃ xa xb, x = .list [xa, xb] ∧ P .next ((b, xb) :: (a, xa) :: ρ₁)) X)
    (hk : ([a, b].all fun n => cs.names.lookup n == some .local || (cs.names.lookup n == some .cell && cs.names.lookup dot0 == none)) = true := by decide)
    (hs : ∀ env, swapsWithSole [Expr.Tuple [.Name a pa, .Name b pb] k tp] ee pos.line env = pure false := by intros; rfl)
    (hs2 : ∀ env : Env, env.scope = cs → swappedStores [Expr.Tuple [.Name a pa, .Name b pb] k tp] ee env = pure none := by intro env henv; obtain ⟨sc, _, _, _, _, _, _, _, _⟩ := env; cases henv; rfl) :
    Ex1 S d cs (.Assign [.Tuple [.Name a pa, .Name b pb] k tp] ee pos) ρ P X := by
  refine Ex1_unpackL (nps := [(a, pa), (b, pb)]) rfl (h.mono fun x ρ₁ hx => ?_) (by simpa using hk) hs hs2
  obtain ⟨xa, xb, rfl, p⟩ := hx
  exact ⟨_, rfl, rfl, p⟩
end
end Mine
end

section
open PySem PySem.W PySem.Calls PyProof.Rows PySem.Builtin PySem.Builtin.Str
set_option Elab.async false
set_option maxRecDepth 100000
namespace Mine
theorem KPcT_asStr {M : Model} {A : Around} {E : Value → Shared → Prop} {s : Shared} {a : Addr} {o : Obj} {items : Array Value} {n : Nat} {Q : Option PySem.Str → Shared → Prop} (ho : s.heap.get? a = some o) (hd : o.data = .seq items n) (h : Q none s) : wpAny M A (asStr? (.ref a)) Q E s := by
  unfold asStr?
  refine wpAny_bind (wpAny_load ho ?_)
  rw [hd]
  exact wpAny_pure h
section
variable {S : Sy} {d : Nat} {cs : Scope} {ρ : Rho} {X : Prop}
/-- too many for two names -/
theorem unpack_many {A : Around} {s : Shared} {l : Addr} {items : Array Value} {Q : List Value → Shared → Prop} {E : Value → Shared → Prop} {prog : Program} {w : World} (hh : A.handled = none) (hl : s.heap.IsList l items) (hn : 2 < items.size)
    (h : ∀ h' tk e, s.heap.StaysIn h' → (∃ ob t, h'.get? e = some ob ∧ ob.cls = .type "ValueError" ∧ ob.data = .fields #[t, .none, .none, .none, .bool false, .none]) → s.heap.get? e = none → E (.ref e) { s with heap := h', toks := tk }) :
    wpAny (model prog w) A (unpackItems (.ref l) 2 none) Q E s := by
  have hlt : l ≠ s.heap.objs.size := by obtain ⟨o, ho, _⟩ := hl; exact Nat.ne_of_lt (Heap.lt_size ho)
  unfold unpackItems
  refine wpAny_bind ?_
  unfold notIterableAtAll
  refine wpAny_bind (wpAny_specialOf hl.typeIs slot_list_iter.lookup ?_)
  refine wpAny_pure ?_
  simp only [Bool.false_eq_true, if_false]
  refine wpAny_bind (wpAny_holding (wpAny_pyIter_list hl ?_))
  refine wpAny_bind (wpAny_holding (kun_draw hlt 2 0 _ _ ⟨_, Heap.get?_push_size _ rfl, rfl, rfl⟩ (hl.push _) (by omega) fun h₁ hit₁ hs₁ => ?_))
  rw [if_neg (by simp; omega)]
  have hl₁ : h₁.IsList l items := (hl.push _).extBut hs₁.extBut hlt
  refine wpAny_bind (wpAny_holding (wpAny_pyNext_list_item hit₁ hl₁ (x := items[2]) (by simp [hn]) fun h₂ hit₂ hs₂ => ?_))
  simp only [Option.isSome_some, if_true]
  refine wpAny_bind (wpAny_rule ?_)
  have st : s.heap.StaysIn h₂ := fun b o e => by
    have e1 := Heap.get?_push_of_some { cls := .type "list_iterator", data := .fields #[.ref l, .int 0 0] } e
    have ne : b ≠ s.heap.objs.size := Nat.ne_of_lt (Heap.lt_size e)
    exact (hs₂.2 b ne).trans ((hs₁.2 b ne).trans (Heap.get?_push_of_some _ e))
  refine wpAny_bind ?_
  refine raiseError_exc (msg := _) excClass_ValueError hh (fun h' tk e ne => ?_) ?_
  rotate_left
  · rw [sizeLine_eq]; decide +kernel
  obtain ⟨k1, k2, ob, t, k3, k4, k5⟩ := ne
  refine h h' tk e (fun b o e => k1 b o (st b o e)) ⟨ob, t, k3, k4, k5⟩ ?_
  cases hb : s.heap.get? e with
  | none => rfl
  | some o => rw [st e o hb] at k2; cases k2
theorem Ex1_unpack_many {a b : Str} {pa pb : Pos} {k : Nat} {tp pos : Pos} {ee : Expr} {P : Fw → Rho → Prop}
    (h : EvE S d cs ee ρ (fun x _ => ∃ xs, x = .list xs ∧ 2 < xs.length ∧ X) X)
    (hs : ∀ env, swapsWithSole [Expr.Tuple [.Name a pa, .Name b pb] k tp] ee pos.line env = pure false := by intros; rfl)
    (hs2 : ∀ env : Env, env.scope = cs → swappedStores [Expr.Tuple [.Name a pa, .Name b pb] k tp] ee env = pure none := by intro env henv; obtain ⟨sc, _, _, _, _, _, _, _, _⟩ := env; cases henv; rfl) :
    Ex1 S d cs (.Assign [.Tuple [.Name a pa, .Name b pb] k tp] ee pos) ρ P X := by
  refine ⟨⟨fun l s Q E A hQ hE => ?_⟩⟩
  refine Assign_Tuple (h.at A hE fun v x ρ₁ s₁ a₁ n₁ r₁ p₁ hE₁ => ?_) (hs _) (hs2 _ A.scope)
  obtain ⟨xs, rfl, hl, hX⟩ := p₁
  rw [arm_assign_Tuple]
  refine wpAny_bind (wpAny_standAt ?_)
  unfold unpack
  rw [assignEach_names (nps := [(a, pa), (b, pb)]) rfl]
  cases r₁ with | @list t vs _ ht rl =>
  refine wpAny_bind (wpAny_holding (unpack_many a₁.hd ht (by simp only [List.size_toArray]; rw [repL_length rl]; exact hl) fun h' tk e st ⟨ob, t, g1, g2, g3⟩ hn => ?_))
  obtain ⟨m, F, _⟩ := a₁.F
  have hb : S.base.get? e = none := by
    cases hb : S.base.get? e with
    | none => rfl
    | some o => rw [a₁.pl.st e o hb] at hn; cases hn
  exact hE₁ hX e _ (.inl ⟨fun b o e => st b o (a₁.pl.st b o e), a₁.ff _ _ (fr_keeps F st), hb, ob, _, g1, g2, g3, rfl⟩) ⟨rfl, rfl⟩
theorem starts_loop {M : Model} {A : Around} {E : Value → Shared → Prop} {s : Shared} {x : Str} {bb hh : Heap} {Q : Option Fin × PUnit → Shared → Prop} {f : Value → Option Fin × PUnit → Sem (ForInStep (Option Fin × PUnit))}
    (hf : ∀ p t r, Txt.startswith x p = false → f (.str p t) r = pure (.yield (none, ()))) : ∀ {vs : List Value} {ps : List Str} {r : Option Fin × PUnit}, RepL bb hh vs (ps.map .str) → (∀ p ∈ ps, Txt.startswith x p = false) → (vs = [] → r = (none, ())) → Q (none, ()) s →
    wpAny M A (forIn vs r f) Q E s
  | [], _, _, _, _, hr, q => by rw [List.forIn_nil, hr rfl]; exact wpAny_pure q
  | v :: vs, [], _, r, _, _, _ => by cases r
  | v :: vs, p :: ps, r₀, r, h, _, q => by
    cases r with | cons r rl => cases r with | str _ t =>
    rw [List.forIn_cons, hf p t r₀ (h p (.head _))]
    refine wpAny_bind (wpAny_pure ?_)
    exact (starts_loop hf rl (fun p' hp => h p' (.tail _ hp)) (fun _ => rfl) q)
theorem call_startsF {x : Str} {ps : List Str} {P : V → Prop} (h : ∀ p ∈ ps, Txt.startswith x p = false) (p : P (.bool false)) : CallW S d (.raw (.builtin "str.startswith")) [.str x, .tup (ps.map .str)] P X := by
  refine ⟨fun A fl s fv vs pl r rl => ?_⟩; cases r; cases rl with | cons r rl => cases r with | str _ t => cases rl with | cons r rl => cases r with | @tup a vs _ ht hr => cases rl with | nil =>
  refine .bl (fun Q E q => ?_) p
  refine call_meets (S := fun _ R s' => s' = s ∧ R (.ok (.ret (.bool false))) s) F.slot_str_startswith (typeIs_str _ _ _) F.entry_str_startswith (F.args_str_startswith_2 _ _) ?_ ⟨rfl, q⟩
  refine Meets.of_wp fun prog w A _ s' hS => ?_
  obtain ⟨rfl, hS⟩ := hS
  obtain ⟨o, ho, hc, n, hd⟩ := ht
  show wpAny _ _ (do
    if let some p ← asStr? (.ref a) then return ← ret (.bool (decide (0 + p.length ≤ min x.length x.length) && subAt x p 0))
    if ← isInstance (.ref a) (.type "tuple") then
      rule s!"str.startswith.tuple"
      let some items ← seqItems? (.ref a) | unsupported s!"internal:str.startswith"
      for x' in items do
        match ← asStr? x' with
        | some p => if decide (0 + p.length ≤ min x.length x.length) && subAt x p 0 then return ← ret (.bool true)
        | none =>
          rule s!"str.startswith.tuple-item-not-str"
          raiseError "TypeError" s!"tuple for startswith must only contain str, not {← typeNameOf x'}"
      return ← ret (.bool false)
    rule s!"str.startswith.bad-affix"
    raiseError "TypeError" s!"startswith first arg must be str or a tuple of str, not {← typeNameOf (.ref a)}") _ _ _
  refine wpAny_bind (KPcT_asStr ho hd ?_)
  refine wpAny_bind (wpAny_isInstance (T := "tuple") ⟨o, ho, hc⟩ F.sub_tuple_tuple ?_)
  rw [if_pos rfl]
  refine wpAny_bind (wpAny_rule ?_)
  refine wpAny_bind (wpAny_seqItems ho hd ?_)
  dsimp only
  refine wpAny_bind ?_
  rw [List.forIn_toArray]
  refine starts_loop (x := x) (fun p t r hp => ?_) hr h (fun _ => rfl) ?_
  · show (if (decide (0 + p.length ≤ Min.min x.length x.length) && subAt x p 0) = true then _ else _) = _
    rw [if_neg ?_]
    unfold Txt.startswith at hp
    rw [Nat.min_self, hp]; exact Bool.false_ne_true
  · exact wpAny_pure ⟨_, rfl, hS⟩
theorem typeCall_int_2 (a b : Value) : checkTypeCall "int" ⟨[a, b], []⟩ = pure () := by kernel_rfl
theorem newCall_int_2 (a b : Value) : checkBuiltinCall "int.__new__" ⟨[.type "int", a, b], []⟩ = pure () := by kernel_rfl
theorem gives_text10 {x : PySem.Str} {u v : Tok} {n : Int} (hl : x.length ≤ 640) (hn : PySem.intText? x = some n) : Gives (Builtin.«int.__new__» ⟨[.type "int", .str x u, .int 10 v], []⟩) (.int n) :=
  .of_wp fun M A E s Q h => by
    obtain ⟨hp, g, d, tk, os⟩ := s
    have f1 := F.conv_sub_int
    have f2 := F.madeHere_int
    have hs : (numSeenOf x).length ≤ 640 := Nat.le_trans (seen_length x) hl
    have hr : (int_private% "readNumeral") 0 10 (numSeenOf x) = (int_private% "Numeral.value") n ∧ ((numSeenOf x).length == (numTextOf x).length) = true := by
      rcases read0 x hs with ⟨m, h1, h2, h3⟩ | ⟨h1, _⟩
      · rw [hn] at h1
        injection h1 with h1
        subst h1
        exact ⟨h3, h2⟩
      · rw [hn] at h1
        cases h1
    have hk := KIN.Hid.mk (And.intro hs hr)
    clear hs hr hl hn
    repeat (any_goals (first
      | assumption
      | ((with_reducible show wpAny _ _ ((int_private% "intFromText") _ _ _) _ _ _); refine KIN.wp_text hk.out.1 hk.out.2.1 hk.out.2.2 ?_)
      | wp_step))
    all_goals first | exact ⟨_, rfl, h⟩ | skip
theorem call_intS10 {x : Str} {n : Int} {P : V → Prop} (h : PySem.intText? x = some n) (hl : x.length ≤ 640) (p : P (.int n)) : CallW S d (.raw (.type "int")) [.str x, .int 10] P X := by
  refine ⟨fun A fl s fv vs pl r rl => ?_⟩; cases r; cases rl with | cons r rl => cases r with | str _ t => cases rl with | cons r rl => cases r with | int _ u => cases rl with | nil =>
  exact .tok (fun Q E q => callType_new F.called_int F.newNe_int (typeCall_int_2 _ _) (newCall_int_2 _ _) (fun obj => F.args_object_init_3 obj _ _) F.entry_int_new (gives_text10 hl h).meets (show (Made.int n).post _ s from ⟨rfl, q⟩)) p
theorem occ_le (x y : Str) : (partsBetween x (occurrences x y 0 x.length (x.length + 1)) y.length).length ≤ x.length + 2 := by
  have := PySem.StrLaws.occ_length_le x y 0 x.length (x.length + 1)
  unfold partsBetween
  simp; omega
theorem EvE_replace {o : Expr} {y z : Str} {k₁ k₂ : Nat} {p₁ p₂ ap pos : Pos} {P : V → Rho → Prop}
    (h : EvE S d cs o ρ (fun x ρ₁ => ∃ x', x = .str x' ∧ x'.length ≤ 1000000 ∧ P (.str (Txt.replace x' y z)) ρ₁) X)
    (hyz : (y == z) = false := by decide +kernel) (hz : z.length ≤ 14 := by decide +kernel)
    (hb : ∀ env, attributeBase o "replace" env (eval o env) = eval o env := by intros; rfl) (hpos : (ap.endLine == pos.line) = true := by rfl) :
    EvE S d cs (.Call (.Attribute o "replace" ap) [.Constant (.str y) k₁ p₁, .Constant (.str z) k₂ p₂] [] pos) ρ P X := by
  refine ⟨⟨fun l s Q E a hQ hE => ?_⟩⟩
  refine MethodCall_ (h.at a hE fun v x ρ₁ s₁ a₁ n₁ r₁ p₁ hE₁ => ?_) (hc_meth _ _ _ _ _ _ (hb _) rfl (by simp) hpos)
  obtain ⟨x', rfl, hl, hp⟩ := p₁
  cases r₁ with | str _ t =>
  have tk := a₁.tk
  refine GM.replace (callWith_method1 ?_ (starEach_plain rfl) (any_plain rfl))
  refine args_cons (wpAny_Constant_str ?_) (starEach_plain rfl)
  refine args_cons (wpAny_Constant_str ?_) (starEach_plain rfl)
  refine args_nil ?_
  refine wpAny_toks ?_
  refine SC.replaceW (by show s₁.toks ≠ 0; omega) (by show s₁.toks + 1 ≠ 0; omega) (by show s₁.toks ≠ s₁.toks + 1; omega) hyz (by omega) hz fun t' k hk => ?_
  have kp : Kp s₁ { s₁ with toks := k } := ⟨rfl, rfl, fun _ _ e => e, by have : s₁.toks + 1 + 1 ≤ k := hk
                                                                         show s₁.toks ≤ k; omega⟩
  exact hQ _ _ _ _ (a₁.kp kp) (n₁.trans kp.nx) (.str _ _) hp
theorem EvE_replace' {o : Expr} {y z : Str} {k₁ k₂ : Nat} {p₁ p₂ ap pos : Pos} {P : V → Rho → Prop}
    (h : EvE S d cs o ρ (fun x ρ₁ => ∃ x' r, x = .str x' ∧ x'.length ≤ 1000000 ∧ Txt.replace x' y z = r ∧ P (.str r) ρ₁) X)
    (hyz : (y == z) = false := by decide +kernel) (hz : z.length ≤ 14 := by decide +kernel)
    (hb : ∀ env, attributeBase o "replace" env (eval o env) = eval o env := by intros; rfl) (hpos : (ap.endLine == pos.line) = true := by rfl) :
    EvE S d cs (.Call (.Attribute o "replace" ap) [.Constant (.str y) k₁ p₁, .Constant (.str z) k₂ p₂] [] pos) ρ P X :=
  EvE_replace (h.mono fun x ρ₁ ⟨x', r, h1, h2, h3, h4⟩ => ⟨x', h1, h2, by rw [h3]; exact h4⟩) hyz hz hb hpos
theorem call_splitA {x c a : Str} {P : V → Prop} (hx : x.length ≤ 1000000) (hc : (c.length == 0) = false) (h : Txt.split x c = [a]) (p : P (.list [.str a])) : CallW S d (.raw (.builtin "str.split")) [.str x, .str c] P X :=
  call_split hx hc (by have := occ_le x c; rw [sizeLine_eq]; omega) h p
theorem call_splitB {x c a b : Str} {P : V → Prop} (hx : x.length ≤ 1000000) (hc : (c.length == 0) = false) (h : Txt.split x c = [a, b]) (p : P (.list [.str a, .str b])) : CallW S d (.raw (.builtin "str.split")) [.str x, .str c] P X :=
  call_split hx hc (by have := occ_le x c; rw [sizeLine_eq]; omega) h p
theorem call_splitC {x c a b e : Str} {P : V → Prop} (hx : x.length ≤ 1000000) (hc : (c.length == 0) = false) (h : Txt.split x c = [a, b, e]) (p : P (.list [.str a, .str b, .str e])) : CallW S d (.raw (.builtin "str.split")) [.str x, .str c] P X :=
  call_split hx hc (by have := occ_le x c; rw [sizeLine_eq]; omega) h p
theorem call_lenL1 {a : V} {P : V → Prop} (p : P (.int 1)) : CallW S d (.raw (.builtin "len")) [.list [a]] P X := call_lenL (xs := [a]) (by simp) p
theorem call_lenL2 {a b : V} {P : V → Prop} (p : P (.int 2)) : CallW S d (.raw (.builtin "len")) [.list [a, b]] P X := call_lenL (xs := [a, b]) (by simp) p
theorem cmp_eqSb {x y : Str} {b : Bool} {P : V → Prop} (h : (x == y) = b) (p : P (.bool b)) : CmpW S d .Eq (.str x) (.str y) P X := cmp_eqS (by rw [h]; exact p)
theorem cmp_neSb {x y : Str} {b : Bool} {P : V → Prop} (h : (x != y) = b) (p : P (.bool b)) : CmpW S d .NotEq (.str x) (.str y) P X := cmp_neS (by rw [h]; exact p)
theorem bi_addSb {x y z : Str} {P : V → Prop} (hx : x.length ≤ 1000000) (hy : y.length ≤ 1000000) (h : x ++ y = z) (p : P (.str z)) : BinW S d .Add (.str x) (.str y) P X := bi_addS hx hy (by rw [h]; exact p)
theorem sub_strb {value slice : Expr} {x y : Str} {k : Int} {P : V → Prop} (h0 : -(x.length : Int) ≤ k) (h1 : k < x.length) (hx : x.length ≤ 1000000) (h : Txt.item x k = y) (p : P (.str y))
    (hs : ∀ t u, subscripted slice false (.str x t) (.int k u) = operate [.str x t, .int k u] (getItem (.str x t) (.int k u)) := by intros; with_unfolding_all rfl) : SubW S d value slice (.str x) (.int k) P X := sub_str h0 h1 hx (by rw [h]; exact p) hs
theorem At.unpackA {l : Loc} {s : Shared} {v : Value} {x : V} {xs : List V} {n : Nat} {Q : List Value → Shared → Prop} {E : Value → Shared → Prop} (a : At S d cs l ρ s) (r : Rep S.base s.heap v x) (hx : x = .tup xs ∨ x = .list xs) (hn : n = xs.length)
    (k : ∀ vs s', At S d cs l ρ s' → Kp s s' → RepL S.base s'.heap vs xs → Q vs s') : wpAny (model S.prog S.w) l.A (unpackItems v n none) Q E s := by
  rcases hx with rfl | rfl
  · exact a.unpack r hn k
  · exact a.unpackL r hn k
theorem Ex1_unpackA2 {na nb : Str} {pa pb : Pos} {k : Nat} {tp pos : Pos} {e : Expr} {P : Fw → Rho → Prop}
    (h : EvE S d cs e ρ (fun x ρ₁ => ∃ xa xb, (x = .tup [xa, xb] ∨ x = .list [xa, xb]) ∧ P .next ((nb, xb) :: (na, xa) :: ρ₁)) X)
    (hk : ([na, nb].all fun n => cs.names.lookup n == some .local || (cs.names.lookup n == some .cell && cs.names.lookup dot0 == none)) = true := by decide)
    (hs : ∀ env, swapsWithSole [Expr.Tuple [.Name na pa, .Name nb pb] k tp] e pos.line env = pure false := by intros; rfl)
    (hs2 : ∀ env : Env, env.scope = cs → swappedStores [Expr.Tuple [.Name na pa, .Name nb pb] k tp] e env = pure none := by intro env henv; obtain ⟨sc, _, _, _, _, _, _, _, _⟩ := env; cases henv; rfl) :
    Ex1 S d cs (.Assign [.Tuple [.Name na pa, .Name nb pb] k tp] e pos) ρ P X := by
  refine ⟨⟨fun l s Q E a hQ hE => ?_⟩⟩
  refine Assign_Tuple (h.at a hE fun v x ρ₁ s₁ a₁ n₁ r₁ p₁ hE₁ => ?_) (hs _) (hs2 _ a.scope)
  obtain ⟨xa, xb, hx, p⟩ := p₁
  rw [arm_assign_Tuple]
  refine wpAny_bind (wpAny_standAt ?_)
  unfold unpack
  rw [assignEach_names (nps := [(na, pa), (nb, pb)]) rfl]
  refine wpAny_bind (wpAny_holding (a₁.unpackA r₁ hx rfl fun vs s₂ a₂ k₂ r₂ => ?_))
  refine At.storeEach (ns := [na, nb]) a₂ r₂ rfl (fun n hn' => ?_) (fun s₃ a₃ n₃ => hQ _ _ _ _ a₃ (n₁.trans (k₂.nx.trans n₃)) .next p) _ rfl fun i hi hi' v Q' s' hx => ?_
  · have := List.all_eq_true.mp hk n hn'
    simpa using this
  · match i, hi with
    | 0, _ => exact PyProof.Rows.assign_Name hx
    | 1, _ => exact PyProof.Rows.assign_Name hx
end
end Mine
end

section
open PySem PySem.W PySem.Calls PyProof.Rows PySem.Builtin PySem.Builtin.Str
set_option Elab.async false
set_option maxRecDepth 100000
namespace Mine
section
variable {S : Sy} {d : Nat} {cs : Scope} {ρ : Rho} {X : Prop}
theorem pow_kind : builtinKind "pow" = none := by decide +kernel
theorem pow_plain : plainId "pow" = true := by decide +kernel
theorem pow_entry : entryFor table "pow" = some Builtin.«pow» := entryFor_of_fast (by kernel_rfl)
theorem pow_args (a b : Value) : argsOk "pow" ⟨[a, b], []⟩ := by unfold argsOk; kernel_rfl
theorem call_pow {x y : Int} {P : V → Prop} (h0 : 0 ≤ y) (hl : (Builtin.Int.intBits x : Int) * y ≤ 2 ^ 27) (p : P (.int (x ^ y.toNat))) : CallW S d (.raw (.builtin "pow")) [.int x, .int y] P X := by
  refine ⟨fun A fl s fv vs pl r rl => ?_⟩; cases r; cases rl with | cons r rl => cases r with | int _ t => cases rl with | cons r rl => cases r with | int _ u => cases rl with | nil =>
  exact .tok (fun Q E q => by
    refine Calls.call_function_entry pow_kind pow_plain pow_entry (pow_args _ _) ?_
    unfold Builtin.«pow»
    refine wpAny_bind (m := Builtins.bindParams _ _ _ _) (wpAny_of_eq (a := [some (Value.int x t), some (Value.int y u), none]) rfl ?_)
    dsimp only
    exact wpAny_bind (pow_int h0 hl (wpAny_pure ⟨_, rfl, q⟩))) p
theorem Ex1_swap2 {na nb : Str} {pa pb : Pos} {k : Nat} {tp pos : Pos} {e : Expr} {P : Fw → Rho → Prop}
    (h : EvE S d cs e ρ (fun x ρ₁ => ∃ xa xb, x = .tup [xa, xb] ∧ P .next ((na, xa) :: (nb, xb) :: ρ₁)) X)
    (hk : ([na, nb].all fun n => cs.names.lookup n == some .local) = true := by decide)
    (hs : ∀ env, swapsWithSole [Expr.Tuple [.Name na pa, .Name nb pb] k tp] e pos.line env = pure false := by intros; rfl)
    (hs2 : ∀ env : Env, env.scope = cs → swappedStores [Expr.Tuple [.Name na pa, .Name nb pb] k tp] e env = pure (some [na, nb]) := by intro env henv; obtain ⟨sc, _, _, _, _, _, _, _, _⟩ := env; cases henv; rfl) : Ex1 S d cs (.Assign [.Tuple [.Name na pa, .Name nb pb] k tp] e pos) ρ P X :=
  Ex1_swap (names := [na, nb]) (h.mono fun x ρ₁ ⟨xa, xb, hx, hp⟩ => ⟨_, hx, rfl, hp⟩) hk hs hs2
theorem Ex1_swap3 {na nb nc : Str} {pa pb pc : Pos} {k : Nat} {tp pos : Pos} {e : Expr} {P : Fw → Rho → Prop}
    (h : EvE S d cs e ρ (fun x ρ₁ => ∃ xa xb xc, x = .tup [xa, xb, xc] ∧ P .next ((na, xa) :: (nb, xb) :: (nc, xc) :: ρ₁)) X)
    (hk : ([na, nb, nc].all fun n => cs.names.lookup n == some .local) = true := by decide)
    (hs : ∀ env, swapsWithSole [Expr.Tuple [.Name na pa, .Name nb pb, .Name nc pc] k tp] e pos.line env = pure false := by intros; rfl)
    (hs2 : ∀ env : Env, env.scope = cs → swappedStores [Expr.Tuple [.Name na pa, .Name nb pb, .Name nc pc] k tp] e env = pure (some [na, nb, nc]) := by intro env henv; obtain ⟨sc, _, _, _, _, _, _, _, _⟩ := env; cases henv; rfl) :
    Ex1 S d cs (.Assign [.Tuple [.Name na pa, .Name nb pb, .Name nc pc] k tp] e pos) ρ P X :=
  Ex1_swap (names := [na, nb, nc]) (h.mono fun x ρ₁ ⟨xa, xb, xc, hx, hp⟩ => ⟨_, hx, rfl, hp⟩) hk hs hs2
structure MethW (S : Sy) (o : V) (n : Str) (id : String) : Prop where
  out : MethIs S o n id
theorem mw_bits {x : Int} : MethW S (.int x) "bit_length" "int.bit_length" := ⟨meth_bits⟩
theorem mw_lower {x : Str} : MethW S (.str x) "lower" "str.lower" := ⟨meth_lower⟩
theorem mw_strip {x : Str} : MethW S (.str x) "strip" "str.strip" := ⟨meth_strip⟩
theorem mw_rstrip {x : Str} : MethW S (.str x) "rstrip" "str.rstrip" := ⟨meth_rstrip⟩
theorem mw_split {x : Str} : MethW S (.str x) "split" "str.split" := ⟨meth_split⟩
theorem mw_startswith {x : Str} : MethW S (.str x) "startswith" "str.startswith" := ⟨meth_startswith⟩
theorem mx_bits {x : Int} {Q : String → Prop} (h : Q "int.bit_length") : ∃ i, MethW S (.int x) "bit_length" i ∧ Q i := ⟨_, mw_bits, h⟩
theorem mx_lower {x : Str} {Q : String → Prop} (h : Q "str.lower") : ∃ i, MethW S (.str x) "lower" i ∧ Q i := ⟨_, mw_lower, h⟩
theorem mx_strip {x : Str} {Q : String → Prop} (h : Q "str.strip") : ∃ i, MethW S (.str x) "strip" i ∧ Q i := ⟨_, mw_strip, h⟩
theorem mx_rstrip {x : Str} {Q : String → Prop} (h : Q "str.rstrip") : ∃ i, MethW S (.str x) "rstrip" i ∧ Q i := ⟨_, mw_rstrip, h⟩
theorem mx_split {x : Str} {Q : String → Prop} (h : Q "str.split") : ∃ i, MethW S (.str x) "split" i ∧ Q i := ⟨_, mw_split, h⟩
theorem mx_startswith {x : Str} {Q : String → Prop} (h : Q "str.startswith") : ∃ i, MethW S (.str x) "startswith" i ∧ Q i := ⟨_, mw_startswith, h⟩
theorem EvE_methW0 {o : Expr} {n : Str} {ap pos : Pos} {P : V → Rho → Prop}
    (h : EvE S d cs o ρ (fun x ρ₁ => ∃ id, MethW S x n id ∧ CallW S d (.raw (.builtin id)) [x] (fun r => P r ρ₁) X) X)
    (hb : ∀ env, attributeBase o n env (eval o env) = eval o env := by intros; rfl) (hpos : (ap.endLine == pos.line) = true := by rfl) :
    EvE S d cs (.Call (.Attribute o n ap) [] [] pos) ρ P X := EvE_meth0 (h.mono fun _ _ ⟨i, m, c⟩ => ⟨i, m.out, c⟩) hb hpos
theorem EvE_methW {o : Expr} {n : Str} {ap pos : Pos} {e : Expr} {es : List Expr} {P : V → Rho → Prop}
    (h : EvE S d cs o ρ (fun x ρ₁ => ∃ id, MethW S x n id ∧ EvL S d cs pos (e :: es) ρ₁ (fun as ρ₂ => CallW S d (.raw (.builtin id)) (x :: as) (fun r => P r ρ₂) X) X) X)
    (he : plainArg e = true := by rfl) (hs : es.all plainArg = true := by rfl) (hl : (e :: es).length < 30 := by decide)
    (hb : ∀ env, attributeBase o n env (eval o env) = eval o env := by intros; rfl) (hpos : (ap.endLine == pos.line) = true := by rfl) :
    EvE S d cs (.Call (.Attribute o n ap) (e :: es) [] pos) ρ P X := EvE_meth (h.mono fun _ _ ⟨i, m, c⟩ => ⟨i, m.out, c⟩) he hs hl hb hpos
end
end Mine
end

section
open PySem PySem.W PySem.Calls PyProof.Rows PySem.Builtin PySem.Builtin.Str
set_option Elab.async false
set_option maxRecDepth 100000
namespace Mine
section
variable {S : Sy} {d : Nat} {cs : Scope} {ρ : Rho} {X : Prop}
theorem bi_addE {x y z : Int} {P : V → Prop} (h : x + y = z) (p : P (.int z)) : BinW S d .Add (.int x) (.int y) P X := bi_add (by rw [h]; exact p)
theorem bi_subE {x y z : Int} {P : V → Prop} (h : x - y = z) (p : P (.int z)) : BinW S d .Sub (.int x) (.int y) P X := bi_sub (by rw [h]; exact p)
theorem bi_mulE {x y z : Int} {P : V → Prop} (h : IntMulOk x y ∧ x * y = z) (p : P (.int z)) : BinW S d .Mult (.int x) (.int y) P X := bi_mul h.1 (by rw [h.2]; exact p)
theorem bi_fdivE {x y z : Int} {P : V → Prop} (h : x.fdiv y = z) (hy : y ≠ 0) (hl : y.natAbs.log2 < 9000) (p : P (.int z)) : BinW S d .FloorDiv (.int x) (.int y) P X := bi_fdiv hy hl (by rw [h]; exact p)
theorem bi_modE {x y z : Int} {P : V → Prop} (h : x.fmod y = z) (hy : y ≠ 0) (p : P (.int z)) : BinW S d .Mod (.int x) (.int y) P X := bi_mod hy (by rw [h]; exact p)
theorem bi_powE {x y z : Int} {P : V → Prop} (h : 0 ≤ y ∧ (Builtin.Int.intBits x : Int) * y ≤ 2 ^ 27 ∧ x ^ y.toNat = z) (p : P (.int z)) : BinW S d .Pow (.int x) (.int y) P X := bi_pow h.1 h.2.1 (by rw [h.2.2]; exact p)
theorem un_negE {x z : Int} {P : V → Prop} (h : -x = z) (p : P (.int z)) : UnW S d .USub (.int x) P X := un_neg (by rw [h]; exact p)
theorem call_strE {n : Int} {y : Str} {P : V → Prop} (h : n.natAbs.log2 < 1920 ∧ Str.ofString (toString n) = y) (p : P (.str y)) : CallW S d (.raw (.type "str")) [.int n] P X := call_strI h.1 (by rw [h.2]; exact p)
theorem call_maxE {x y z : Int} {P : V → Prop} (h : (if y > x then y else x) = z) (p : P (.int z)) : CallW S d (.raw (.builtin "max")) [.int x, .int y] P X := call_max (by rw [h]; exact p)
theorem call_absE {x z : Int} {P : V → Prop} (h : (if x < 0 then -x else x) = z) (p : P (.int z)) : CallW S d (.raw (.builtin "abs")) [.int x] P X := call_abs (by rw [h]; exact p)
theorem call_lenSE {x : Str} {z : Int} {P : V → Prop} (h : (x.length : Int) = z) (hx : x.length ≤ 1000000) (p : P (.int z)) : CallW S d (.raw (.builtin "len")) [.str x] P X := call_lenS hx (by rw [h]; exact p)
theorem call_bitsE {x z : Int} {P : V → Prop} (h : (Builtin.Int.intBits x : Int) = z) (p : P (.int z)) : CallW S d (.raw (.builtin "int.bit_length")) [.int x] P X := call_bits (by rw [h]; exact p)
theorem bi_mulSE {x y : Str} {n : Int} {P : V → Prop} (h : x.length ≤ 16 ∧ -1000000 ≤ n ∧ n ≤ 1000000 ∧ Txt.mul x n = y) (p : P (.str y)) : BinW S d .Mult (.str x) (.int n) P X := bi_mulS h.1 h.2.1 h.2.2.1 (by rw [h.2.2.2]; exact p)
theorem EvE_slice_nsE {value u : Expr} {p pos : Pos} {P : V → Rho → Prop}
    (h : EvE S d cs value ρ (fun x ρ₁ => EvE S d cs u ρ₁ (fun y ρ₂ => ∃ x' j z, x = .str x' ∧ y = .int j ∧ x'.length ≤ 1000000 ∧ Txt.slice x' none (some j) = z ∧ P (.str z) ρ₂) X) X)
    (ht : ∀ o r, letTemporaryGo value o r = pure () := by intro _ _; rfl) : EvE S d cs (.Subscript value (.Slice none (some u) none p) pos) ρ P X :=
  EvE_slice_ns (h.mono fun _ _ h1 => h1.mono fun _ _ ⟨x', j, z, a, b, c, e, f⟩ => ⟨x', j, a, b, c, by rw [e]; exact f⟩) ht
theorem EvE_slice_snE {value u : Expr} {p pos : Pos} {P : V → Rho → Prop}
    (h : EvE S d cs value ρ (fun x ρ₁ => EvE S d cs u ρ₁ (fun y ρ₂ => ∃ x' j z, x = .str x' ∧ y = .int j ∧ x'.length ≤ 1000000 ∧ Txt.slice x' (some j) none = z ∧ P (.str z) ρ₂) X) X)
    (ht : ∀ o r, letTemporaryGo value o r = pure () := by intro _ _; rfl) : EvE S d cs (.Subscript value (.Slice (some u) none none p) pos) ρ P X :=
  EvE_slice_sn (h.mono fun _ _ h1 => h1.mono fun _ _ ⟨x', j, z, a, b, c, e, f⟩ => ⟨x', j, a, b, c, by rw [e]; exact f⟩) ht
theorem sub_listE {value slice : Expr} {xs : List V} {k : Int} {x : V} {P : V → Prop} (hx : 0 ≤ k ∧ k < 2 ^ 63 ∧ xs[k.toNat]? = some x) (p : P x)
    (hs : ∀ a u, subscripted slice false (.ref a) (.int k u) = operate [.ref a, .int k u] (getItem (.ref a) (.int k u)) := by intros; with_unfolding_all rfl) : SubW S d value slice (.list xs) (.int k) P X := sub_list hx.1 hx.2.1 hx.2.2 p hs
/-- a list of ints -/
theorem call_lenLE {xs : List V} {z : Int} {P : V → Prop} (h : xs.length ≤ 1000000 ∧ (xs.length : Int) = z) (p : P (.int z)) : CallW S d (.raw (.builtin "len")) [.list xs] P X := call_lenL h.1 (by rw [h.2]; exact p)
theorem Ex1_unpackA3 {na nb nc : Str} {pa pb pc : Pos} {k : Nat} {tp pos : Pos} {e : Expr} {P : Fw → Rho → Prop}
    (h : EvE S d cs e ρ (fun x ρ₁ => ∃ xa xb xc, x = .tup [xa, xb, xc] ∧ P .next ((nc, xc) :: (nb, xb) :: (na, xa) :: ρ₁)) X)
    (hk : ([na, nb, nc].all fun n => cs.names.lookup n == some .local || (cs.names.lookup n == some .cell && cs.names.lookup dot0 == none)) = true := by decide)
    (hs : ∀ env, swapsWithSole [Expr.Tuple [.Name na pa, .Name nb pb, .Name nc pc] k tp] e pos.line env = pure false := by intros; rfl)
    (hs2 : ∀ env : Env, env.scope = cs → swappedStores [Expr.Tuple [.Name na pa, .Name nb pb, .Name nc pc] k tp] e env = pure none := by intro env henv; obtain ⟨sc, _, _, _, _, _, _, _, _⟩ := env; cases henv; rfl) :
    Ex1 S d cs (.Assign [.Tuple [.Name na pa, .Name nb pb, .Name nc pc] k tp] e pos) ρ P X := Ex1_unpack3 h hk hs hs2
end
end Mine
end

section
open PySem PySem.W PySem.Calls PyProof.Rows
set_option Elab.async false
set_option maxRecDepth 100000
namespace Mine

-- expressions
local macro_rules | `(tactic| kaf_pre) => `(tactic| first | refine EvE_name (by rfl) ?_ | refine EvE_glob (by assumption) ?_ | refine EvE_built (by assumption) ?_ | refine EvE_int ?_ | refine EvE_binop ?_ | refine EvE_cmp ?_ | refine EvE_unop ?_ | refine EvE_str ?_ | refine EvE_bool ?_ | refine EvE_call ?_ | refine EvE_meth0 ?_ | refine EvE_meth ?_ | refine EvE_sub ?_ | refine EvE_tuple ?_ | refine EvE_ifexp ?_ | refine EvE_one ?_ | refine EvE_and ?_ | refine EvE_or ?_ | refine EvE_list ?_ | refine EvE_walrus ?_)
-- operators
local macro_rules | `(tactic| kaf_suf) => `(tactic| first | refine bi_add ?_ | refine bi_sub ?_ | refine bi_and ?_ | refine bi_xor ?_ | refine bi_shr (by omega) ?_)
local macro_rules | `(tactic| tb_start) => `(tactic| first | refine cmp_eq ?_ | refine cmp_lt ?_ | refine cmp_gt ?_ | refine cmp_le ?_ | refine cmp_ge ?_ | refine cmp_ne ?_ | refine cmp_eqS ?_ | refine cmp_eq4 ?_)
local macro_rules | `(tactic| kct_strs) => `(tactic| first | refine ib_add ?_ | refine ib_sub ?_ | refine ib_xor ?_ | refine ib_shr (by omega) ?_)
local macro_rules | `(tactic| ktu_off1L) => `(tactic| first | refine un_neg ?_ | refine un_not ?_)
-- tests
local macro_rules | `(tactic| kba_ints) => `(tactic| first | refine EvT_not ?_ | refine EvT_cmp ?_ | refine EvT_and ?_ | refine EvT_and_nil ?_ | refine EvT_or ?_ | refine EvT_or_nil ?_ | refine EvT_name ?_ | refine EvT_call ?_ | refine EvT_sub ?_ | refine EvT_bin ?_)
-- statements
local macro_rules | `(tactic| kcf_m) => `(tactic| first | refine Ex1_if ?_ | refine Ex1_ret ?_ | refine Ex1_assign ?_ | refine Ex1_aug (by rfl) ?_ | refine Ex1_unpack4 ?_ | refine Ex1_unpack2 ?_ | refine Ex1_unpack3 ?_ | refine Ex1_swap ?_ | refine Ex1_assert ?_)
-- calls
local macro_rules | `(tactic| tb_rel) => `(tactic| first | refine call_bits ?_)
-- items
local macro_rules | `(tactic| ktu_offI) => `(tactic| first | refine sub_tup (by decide) (by decide) rfl rfl ?_ | refine sub_list (by decide) (by decide) rfl ?_)
-- a test's two ways: what cannot be goes at once
local macro_rules | `(tactic| krn_off) => `(tactic| ((refine ⟨fun h => ?_, fun h => ?_⟩) <;> first
    | (exact absurd h (by decide))
    | ((simp only [decide_eq_true_eq, decide_eq_false_iff_not, beq_iff_eq, bne_iff_ne, beq_eq_false_iff_ne, bne_eq_false_iff_eq, Bool.not_eq_true', Bool.not_eq_false', Bool.not_true, Bool.not_false, ne_eq, Decidable.not_not, gt_iff_lt, ge_iff_le, Int.not_lt, Int.not_le] at h) <;> (try (exfalso; omega)))
    | skip))
local macro_rules | `(tactic| kbo_bools) => `(tactic| first
    | ((with_reducible show EvE _ _ _ _ _ _ _); kaf_pre)
    | ((with_reducible show BinW _ _ _ _ _ _ _); kaf_suf) | ((with_reducible show CmpW _ _ _ _ _ _ _); tb_start) | ((with_reducible show InpW _ _ _ _ _ _ _); kct_strs)
    | ((with_reducible show Ex1 _ _ _ _ _ _ _); kcf_m)
    | ((with_reducible show ExS _ _ _ _ _ _ _); (first | refine ExS_cons ?_ | refine ExS_nil ?_))
    | ((with_reducible show EvT _ _ _ _ _ _ _); kba_ints)
    | ((with_reducible show EvL _ _ _ _ _ _ _ _); (first | refine EvL_cons ?_ | refine EvL_nil ?_))
    | ((with_reducible show UnW _ _ _ _ _ _); ktu_off1L)
    | ((with_reducible show CallW _ _ _ _ _ _); tb_rel)
    | ((with_reducible show SubW _ _ _ _ _ _ _ _); ktu_offI)
    | ((with_reducible show (_ = true → _) ∧ (_ = false → _)); krn_off)
    | ((with_reducible show (_ = false → _) ∧ (_ = true → _)); krn_off)
    | ((with_reducible show _ = true ∧ _); refine ⟨?_, ?_⟩)
    | ((with_reducible show ∃ b, TruthIs _ b ∧ _); refine ⟨_, rfl, ?_⟩)
    | ((with_reducible show List.length _ ≤ 1000 ∧ _); refine ⟨by simp only [List.length_cons, List.length_nil]; decide, ?_⟩)
    | ((with_reducible show ∃ fv, V.raw _ = V.raw fv ∧ _); refine ⟨_, rfl, by assumption, ?_⟩)
    | ((with_reducible show ∃ id, MethIs _ _ _ id ∧ _); refine ⟨_, meth_bits, ?_⟩)
    | ((with_reducible show ∃ a, _); (first | refine ⟨_, _, _, _, rfl, ?_⟩ | refine ⟨_, _, rfl, ?_⟩ | refine ⟨_, _, _, rfl, ?_⟩)))

section
variable {S : Sy} {d : Nat} {X : Prop}
def rn (up : Bool) : Str := if up then "c" else "f"
theorem trailing_call {fd : FuncData} (F : FnIs S "trailing" (stmtAt 4) [] fd) {m : Int} (hm : 0 < m) {P : V → Prop} (h : ∀ (t : Nat) (k : Int), 0 ≤ k → m = 2 ^ t * (2 * k + 1) → P (.int t)) :
    CallW S (d + 1) (.raw (gl S "trailing")) [.int m] P X := by
  obtain ⟨t, k, h1, h2, h3⟩ := trailing_is hm
  have h4 := h t k h1 h2
  refine CallW_def F _ _ (binds_4_1 F _) (by decide) (by decide) (by decide) rfl rfl rfl ?_
  repeat' kbo_bools
  · rw [h3]; exact h4



structure NormEnds (s m e b : Int) (P : V → Prop) : Prop where
  e1 : ∀ (t : Nat) (k : Int), 0 ≤ k → m = 2 ^ t * (2 * k + 1) → m.fdiv (2 ^ (t : Int).toNat) = 1 → P (.tup [.int s, .int (m.fdiv (2 ^ (t : Int).toNat)), .int (e + t), .int 1])
  e2 : ∀ (t : Nat) (k : Int), 0 ≤ k → m = 2 ^ t * (2 * k + 1) → ¬ m.fdiv (2 ^ (t : Int).toNat) = 1 → P (.tup [.int s, .int (m.fdiv (2 ^ (t : Int).toNat)), .int (e + t), .int (b - t)])
  e3 : ¬ Builtin.bitAnd m 1 = 0 → m = 1 → P (.tup [.int s, .int m, .int e, .int 1])
  e4 : ¬ Builtin.bitAnd m 1 = 0 → ¬ m = 1 → P (.tup [.int s, .int m, .int e, .int b])
theorem norm_close {s m e b : Int} {P : V → Prop} (h0 : 0 < m) (hb : BitsAt m b) (h : ∀ x, CanM s m e x → P x.v) : NormEnds s m e b P := by
  refine ⟨fun t k hk hm h1 => ?_, fun t k hk hm h1 => ?_, fun ho h1 => ?_, fun ho h1 => ?_⟩
  · rw [Int.toNat_natCast, hm, fdiv_two_pow] at h1 ⊢
    exact h _ (strip_even1 hm h1)
  · rw [Int.toNat_natCast, hm, fdiv_two_pow] at h1 ⊢
    exact h _ (strip_even hk hm hb h1)
  · subst h1; exact h _ strip_one
  · rw [and_one m (Int.le_of_lt h0)] at ho
    exact h _ (strip_odd h0 (by omega) hb h1)

local macro_rules | `(tactic| tb_rel) => `(tactic| first | refine call_bits ?_ | (refine trailing_call (by assumption) (by assumption) ?_; intro t k hk hm))
local macro_rules | `(tactic| ktu_offI) => `(tactic| refine sub_dict (by assumption) ?_)
local macro_rules | `(tactic| ktu_offI) => `(tactic| refine sub_tup (by decide) (by decide) rfl rfl ?_)
theorem normalize_walk (F : Facts S) {up : Bool} {s m e b p : Int} {P : V → Prop} (hm : 0 ≤ m) (hb : b = bl m) (hp : 1 ≤ p) (hs : s = 0 ∨ s = 1)
   (h0 : m = 0 → P Mp.zero.v) (h1 : 0 < m → b ≤ p → ∀ x, CanM s m e x → P x.v) (h2 : 0 < m → p < b → ∀ x, CanM s (cut (decide (s = 0) != up) m (b - p).toNat) (e + (b - p)) x → P x.v) :
  CallW S (d + 2) (.raw (gl S "_normalize")) [.int s, .int m, .int e, .int b, .int p, .str (rn up)] P X := by
  have f1 := F.g_fzero
  have f2 := F.g_round_nearest
  have f3 := F.g_shifts_down
  have f4 := F.f4.glob'
  have f5 := F.f4.can
  have f6 := F.sdf
  have f7 := F.sdc
  have f8 := F.f4
  rcases Int.lt_or_eq_of_le hm with hm0 | hm0
  · rcases (by omega : p < b ∨ b ≤ p) with hpb | hpb
    · have hk : (b - p).toNat < bl m := by omega
      obtain ⟨c0, cb⟩ := cut_bits (dn := decide (s = 0) != up) hm0 hk
      have cb : BitsAt (cut (decide (s = 0) != up) m (b - p).toNat) p := by
        have : (bl m : Int) - (b - p).toNat = p := by omega
        rw [this] at cb; exact cb
      obtain ⟨q1, q2, q3, q4⟩ := norm_close c0 cb (h2 hm0 hpb)
      clear h1 h2 h0
      generalize hc : cut (decide (s = 0) != up) m (b - p).toNat = c at *
      unfold cut at hc
      clear cb hk hb hp
      rcases hs with rfl | rfl <;> cases up
      all_goals (simp only [decide_true, Bool.true_bne, Bool.not_true, Bool.not_false, if_true, if_false, Bool.false_eq_true, Int.reduceEq, decide_false, Bool.false_bne] at hc)
      all_goals (
        unfold rn; simp only [if_true, if_false, Bool.false_eq_true]
        refine CallW_def (d := d + 1) F.f19 _ _ (binds_19_6 F.f19 _ _ _ _ _ _) (by decide) (by decide) (by decide) rfl rfl rfl ?_
        repeat' (first | (refine un_neg ?_; rw [hc]) | (refine ib_shr (by omega) ?_; rw [hc]) | kbo_bools)
        · exact q1 _ _ (by assumption) (by assumption) (by assumption)
        · exact q2 _ _ (by assumption) (by assumption) (by assumption)
        · exact q3 (by assumption) (by assumption)
        · exact q4 (by assumption) (by assumption))
    · obtain ⟨q1, q2, q3, q4⟩ := norm_close hm0 (.inl hb) (h1 hm0 hpb)
      clear h1 h2 h0
      refine CallW_def (d := d + 1) F.f19 _ _ (binds_19_6 F.f19 _ _ _ _ _ _) (by decide) (by decide) (by decide) rfl rfl rfl ?_
      repeat' kbo_bools
      · exact q1 _ _ (by assumption) (by assumption) (by assumption)
      · exact q2 _ _ (by assumption) (by assumption) (by assumption)
      · exact q3 (by assumption) (by assumption)
      · exact q4 (by assumption) (by assumption)
  · subst hm0
    refine CallW_def (d := d + 1) F.f19 _ _ (binds_19_6 F.f19 _ _ _ _ _ _) (by decide) (by decide) (by decide) rfl rfl rfl ?_
    repeat' kbo_bools
    exact h0 rfl
end

end Mine
end

section
open PySem PySem.W PySem.Calls PyProof.Rows
set_option Elab.async false
set_option maxRecDepth 100000
namespace Mine

-- expressions
local macro_rules | `(tactic| kaf_pre) => `(tactic| first | refine EvE_name (by rfl) ?_ | refine EvE_glob (by assumption) ?_ | refine EvE_built (by assumption) ?_ | refine EvE_int ?_ | refine EvE_binop ?_ | refine EvE_cmp ?_ | refine EvE_unop ?_ | refine EvE_str ?_ | refine EvE_bool ?_ | refine EvE_call ?_ | refine EvE_meth0 ?_ | refine EvE_meth ?_ | refine EvE_sub ?_ | refine EvE_tuple ?_ | refine EvE_ifexp ?_ | refine EvE_one ?_ | refine EvE_and ?_ | refine EvE_or ?_ | refine EvE_list ?_ | refine EvE_walrus ?_)
-- operators
local macro_rules | `(tactic| kaf_suf) => `(tactic| first | refine bi_add ?_ | refine bi_sub ?_ | refine bi_and ?_ | refine bi_xor ?_ | refine bi_shr (by omega) ?_)
local macro_rules | `(tactic| tb_start) => `(tactic| first | refine cmp_eq ?_ | refine cmp_lt ?_ | refine cmp_gt ?_ | refine cmp_le ?_ | refine cmp_ge ?_ | refine cmp_ne ?_ | refine cmp_eqS ?_ | refine cmp_eq4 ?_)
local macro_rules | `(tactic| kct_strs) => `(tactic| first | refine ib_add ?_ | refine ib_sub ?_ | refine ib_xor ?_ | refine ib_shr (by omega) ?_)
local macro_rules | `(tactic| ktu_off1L) => `(tactic| first | refine un_neg ?_ | refine un_not ?_)
-- tests
local macro_rules | `(tactic| kba_ints) => `(tactic| first | refine EvT_not ?_ | refine EvT_cmp ?_ | refine EvT_and ?_ | refine EvT_and_nil ?_ | refine EvT_or ?_ | refine EvT_or_nil ?_ | refine EvT_name ?_ | refine EvT_call ?_ | refine EvT_sub ?_ | refine EvT_bin ?_)
-- statements
local macro_rules | `(tactic| kcf_m) => `(tactic| first | refine Ex1_if ?_ | refine Ex1_ret ?_ | refine Ex1_assign ?_ | refine Ex1_aug (by rfl) ?_ | refine Ex1_unpack4 ?_ | refine Ex1_unpack2 ?_ | refine Ex1_unpack3 ?_ | refine Ex1_swap ?_ | refine Ex1_assert ?_)
-- calls
local macro_rules | `(tactic| tb_rel) => `(tactic| first | refine call_bits ?_)
-- items
local macro_rules | `(tactic| ktu_offI) => `(tactic| first | refine sub_tup (by decide) (by decide) rfl rfl ?_ | refine sub_list (by decide) (by decide) rfl ?_)
-- a test's two ways: what cannot be goes at once
local macro_rules | `(tactic| krn_off) => `(tactic| ((refine ⟨fun h => ?_, fun h => ?_⟩) <;> first
    | (exact absurd h (by decide))
    | ((simp only [decide_eq_true_eq, decide_eq_false_iff_not, beq_iff_eq, bne_iff_ne, beq_eq_false_iff_ne, bne_eq_false_iff_eq, Bool.not_eq_true', Bool.not_eq_false', Bool.not_true, Bool.not_false, ne_eq, Decidable.not_not, gt_iff_lt, ge_iff_le, Int.not_lt, Int.not_le] at h) <;> (try (exfalso; omega)))
    | skip))
local macro_rules | `(tactic| kbo_bools) => `(tactic| first
    | ((with_reducible show EvE _ _ _ _ _ _ _); kaf_pre)
    | ((with_reducible show BinW _ _ _ _ _ _ _); kaf_suf) | ((with_reducible show CmpW _ _ _ _ _ _ _); tb_start) | ((with_reducible show InpW _ _ _ _ _ _ _); kct_strs)
    | ((with_reducible show Ex1 _ _ _ _ _ _ _); kcf_m)
    | ((with_reducible show ExS _ _ _ _ _ _ _); (first | refine ExS_cons ?_ | refine ExS_nil ?_))
    | ((with_reducible show EvT _ _ _ _ _ _ _); kba_ints)
    | ((with_reducible show EvL _ _ _ _ _ _ _ _); (first | refine EvL_cons ?_ | refine EvL_nil ?_))
    | ((with_reducible show UnW _ _ _ _ _ _); ktu_off1L)
    | ((with_reducible show CallW _ _ _ _ _ _); tb_rel)
    | ((with_reducible show SubW _ _ _ _ _ _ _ _); ktu_offI)
    | ((with_reducible show (_ = true → _) ∧ (_ = false → _)); krn_off)
    | ((with_reducible show (_ = false → _) ∧ (_ = true → _)); krn_off)
    | ((with_reducible show _ = true ∧ _); refine ⟨?_, ?_⟩)
    | ((with_reducible show ∃ b, TruthIs _ b ∧ _); refine ⟨_, rfl, ?_⟩)
    | ((with_reducible show List.length _ ≤ 1000 ∧ _); refine ⟨by simp only [List.length_cons, List.length_nil]; decide, ?_⟩)
    | ((with_reducible show ∃ fv, V.raw _ = V.raw fv ∧ _); refine ⟨_, rfl, by assumption, ?_⟩)
    | ((with_reducible show ∃ id, MethIs _ _ _ id ∧ _); refine ⟨_, meth_bits, ?_⟩)
    | ((with_reducible show ∃ a, _); (first | refine ⟨_, _, _, _, rfl, ?_⟩ | refine ⟨_, _, rfl, ?_⟩ | refine ⟨_, _, _, rfl, ?_⟩)))

/-- what rounding a magnitude m * 2^e with sign s to p bits gives -/
def Rnd (up : Bool) (s m e p : Int) (x : Mp) : Prop :=
  if m = 0 then x = Mp.zero else if (bl m : Int) ≤ p then CanM s m e x else CanM s (cut (decide (s = 0) != up) m (bl m - p).toNat) (e + (bl m - p)) x
def sgn (n : Int) : Int := if n < 0 then 1 else 0
def Ex (n e : Int) (x : Mp) : Prop := if n = 0 then x = Mp.zero else CanM (sgn n) n.natAbs e x
theorem and_two {m : Int} (h : 0 ≤ m) : Builtin.bitAnd m 2 = 2 * (m / 2 % 2) := by
  obtain ⟨n, rfl⟩ := Int.eq_ofNat_of_zero_le h
  unfold Builtin.bitAnd
  rw [show decide (0 ≤ (n : Int)) = true from decide_eq_true h, show decide ((0 : Int) ≤ 2) = true from rfl]
  show (((n : Int).toNat &&& (2 : Int).toNat : Nat) : Int) = _
  rw [Int.toNat_natCast, show (2 : Int).toNat = 2 from rfl]
  have e : n &&& 2 = 2 * (n / 2 % 2) := by
    have h1 : n &&& 2 = n &&& 2 ^ 1 := rfl
    apply Nat.eq_of_testBit_eq
    intro i
    have e2 : 2 * (n / 2 % 2) = 2 ^ 1 * (n / 2 % 2) + 0 := by omega
    rw [e2, Nat.testBit_two_pow_mul_add _ (by decide), Nat.testBit_and]
    have e3 : (2 : Nat) = 2 ^ 1 := rfl
    by_cases hi : i < 1
    · have : i = 0 := by omega
      subst this; simp
    · rw [if_neg hi]
      rw [show Nat.testBit 2 i = decide (1 = i) from by rw [show (2 : Nat) = 2 ^ 1 from rfl, Nat.testBit_two_pow]]
      by_cases h1 : 1 = i
      · subst h1; simp [Nat.testBit, Nat.shiftRight_eq_div_pow]
      · have hi2 : 1 ≤ i - 1 := by omega
        simp only [h1, decide_false, Bool.and_false]
        symm
        rw [Nat.testBit_lt_two_pow]
        have : n / 2 % 2 < 2 ^ 1 := Nat.mod_lt _ (by decide)
        exact Nat.lt_of_lt_of_le this (Nat.pow_le_pow_right (by decide) hi2)
  rw [e]; omega
section
variable {S : Sy} {d : Nat} {X : Prop}
theorem norm_call0 (F : Facts S) {up : Bool} {s m e b p : Int} {P : V → Prop} (hm : 0 ≤ m) (hb : b = bl m) (hp : 1 ≤ p) (hs : s = 0 ∨ s = 1) (h : ∀ x, Rnd up s m e p x → P x.v) :
    CallW S (d + 2) (.raw (gl S "_normalize")) [.int s, .int m, .int e, .int b, .int p, .str (rn up)] P X := by
  subst hb
  refine normalize_walk F hm rfl hp hs (fun h0 => h _ ?_) (fun h0 h1 x hx => h x ?_) (fun h0 h1 x hx => h x ?_)
  · unfold Rnd; rw [if_pos h0]
  · unfold Rnd; rw [if_neg (by omega), if_pos h1]; exact hx
  · unfold Rnd; rw [if_neg (by omega), if_neg (by omega)]; exact hx

local macro_rules | `(tactic| tb_rel) => `(tactic| first | refine call_bits ?_ | (refine norm_call0 (by assumption) (by assumption) (by assumption) (by assumption) (by assumption) ?_))
theorem norm_call (F : Facts S) {up : Bool} {s m e b p : Int} {P : V → Prop} (hm : 0 ≤ m) (hb : b = bl m) (hp : 1 ≤ p) (hs : s = 0 ∨ s = 1) (h : ∀ x, Rnd up s m e p x → P x.v) :
    CallW S (d + 3) (.raw (gl S "normalize")) [.int s, .int m, .int e, .int b, .int p, .str (rn up)] P X := by
  have f1 := F.f19.glob'
  have f2 := F.f19.can
  refine CallW_def (d := d + 2) F.f20 _ _ (binds_20_6 F.f20 _ _ _ _ _ _) (by decide) (by decide) (by decide) rfl rfl rfl ?_
  repeat' kbo_bools
  · simpa using hb
  · simpa using hm

theorem fme_ends {n e : Int} {P : V → Prop} (h0 : n ≠ 0) (h : ∀ x, Ex n e x → P x.v) :
    (n % 2 = 0 → n / 2 % 2 ≠ 0 → P (.tup [.int (sgn n), .int ((n.natAbs : Int).fdiv (2 ^ (1 : Int).toNat)), .int (e + 1), .int ((bl (n.natAbs : Int) : Int) - 1)])) ∧
    (∀ (t : Nat) (k : Int), 0 ≤ k → (n.natAbs : Int) = 2 ^ t * (2 * k + 1) → P (.tup [.int (sgn n), .int ((n.natAbs : Int).fdiv (2 ^ (t : Int).toNat)), .int (e + t), .int ((bl (n.natAbs : Int) : Int) - t)])) ∧
    (n % 2 ≠ 0 → P (.tup [.int (sgn n), .int n.natAbs, .int e, .int (bl (n.natAbs : Int))])) := by
  have hx : ∀ x, CanM (sgn n) n.natAbs e x → P x.v := fun x hx => h x (by unfold Ex; rw [if_neg h0]; exact hx)
  have key : ∀ (t : Nat) (k : Int), 0 ≤ k → (n.natAbs : Int) = 2 ^ t * (2 * k + 1) → P (.tup [.int (sgn n), .int ((n.natAbs : Int).fdiv (2 ^ (t : Int).toNat)), .int (e + t), .int ((bl (n.natAbs : Int) : Int) - t)]) := by
    intro t k hk hm
    have hp : (0 : Int) < 2 * k + 1 := by omega
    have q := hx ⟨sgn n, 2 * k + 1, e + t, (bl (n.natAbs : Int) : Int) - t⟩ ⟨rfl, hp, (by show (2 * k + 1) % 2 = 1; omega), (by show (bl (n.natAbs : Int) : Int) - t = bl (2 * k + 1); rw [hm, Int.mul_comm (2 ^ t), bl_shiftI hp]; omega), t, (by rw [hm, Int.mul_comm]), rfl⟩
    rw [Int.toNat_natCast, hm, fdiv_two_pow, ← hm]
    exact q
  refine ⟨fun h1 h2 => ?_, key, fun h1 => ?_⟩
  · have := key 1 ((n.natAbs : Int) / 4) (by omega) (by rw [show (2 : Int) ^ 1 = 2 from rfl]; omega)
    exact this
  · exact hx ⟨sgn n, n.natAbs, e, bl (n.natAbs : Int)⟩ ⟨rfl, (by show (0 : Int) < n.natAbs; omega), (by show (n.natAbs : Int) % 2 = 1; omega), rfl, 0, by simp, by simp⟩

local macro_rules | `(tactic| tb_rel) => `(tactic| first | refine call_bits ?_ | refine call_isint ?_ | refine call_int1 ?_ | (refine trailing_call (by assumption) (by omega) ?_; intro t k hk hm) | (refine norm_call (by assumption) (by omega) rfl (by assumption) (by decide) ?_))
theorem sgn_neg {n : Int} (h : n < 0) : sgn n = 1 ∧ (n.natAbs : Int) = -n := ⟨if_pos h, by omega⟩
theorem sgn_nn {n : Int} (h : 0 ≤ n) : sgn n = 0 ∧ (n.natAbs : Int) = n := ⟨if_neg (by omega), by omega⟩
theorem fme_call0 (F : Facts S) {n e : Int} {r : Str} {P : V → Prop} (h : ∀ x, Ex n e x → P x.v) :
    CallW S (d + 3) (.raw (gl S "from_man_exp")) [.int n, .int e, .int 0, .str r] P X := by
  have f1 := F.f20.glob'
  have f2 := F.f20.can
  have f3 := F.f4.glob'
  have f4 := F.f4.can
  have f5 := F.f4
  have f6 := F.g_fzero
  have f7 := F.b_isinstance
  have f8 := F.b_int
  have c1 : CanCall S (.builtin "isinstance") := .inr (.inl ⟨_, rfl⟩)
  by_cases h0 : n = 0
  · subst h0
    have q := h Mp.zero (by unfold Ex; rw [if_pos rfl])
    refine CallW_def (d := d + 2) F.f21 _ _ (binds_21_4 F.f21 _ _ _ _) (by decide) (by decide) (by decide) rfl rfl rfl ?_
    repeat' kbo_bools
    all_goals (first | exact q | omega)
  · obtain ⟨q1, q2, q3⟩ := fme_ends (e := e) h0 h
    clear h
    rcases (by omega : n < 0 ∨ 0 ≤ n) with hn | hn
    · obtain ⟨e1, e2⟩ := sgn_neg hn
      rw [e1, e2] at q1 q2 q3
      have a1 := and_one (-n) (by omega)
      have a2 := and_two (m := -n) (by omega)
      refine CallW_def (d := d + 2) F.f21 _ _ (binds_21_4 F.f21 _ _ _ _) (by decide) (by decide) (by decide) rfl rfl rfl ?_
      repeat' kbo_bools
      · exact q1 (by omega) (by omega)
      · exact q2 _ _ (by assumption) (by assumption)
      · exact q3 (by omega)
    · obtain ⟨e1, e2⟩ := sgn_nn hn
      rw [e1, e2] at q1 q2 q3
      have a1 := and_one n (by omega)
      have a2 := and_two (m := n) (by omega)
      refine CallW_def (d := d + 2) F.f21 _ _ (binds_21_4 F.f21 _ _ _ _) (by decide) (by decide) (by decide) rfl rfl rfl ?_
      repeat' kbo_bools
      · exact q1 (by omega) (by omega)
      · exact q2 _ _ (by assumption) (by assumption)
      · exact q3 (by omega)
theorem fme_call (F : Facts S) {up : Bool} {n e p : Int} {P : V → Prop} (hp : 1 ≤ p) (h : ∀ x, Rnd up (sgn n) n.natAbs e p x → P x.v) :
    CallW S (d + 4) (.raw (gl S "from_man_exp")) [.int n, .int e, .int p, .str (rn up)] P X := by
  have f1 := F.f20.glob'
  have f2 := F.f20.can
  have f7 := F.b_isinstance
  have f8 := F.b_int
  have c1 : CanCall S (.builtin "isinstance") := .inr (.inl ⟨_, rfl⟩)
  rcases (by omega : n < 0 ∨ 0 ≤ n) with hn | hn
  · obtain ⟨e1, e2⟩ := sgn_neg hn
    have g1 : (0 : Int) ≤ -n := by omega
    rw [e1, e2] at h
    refine CallW_def (d := d + 3) F.f21 _ _ (binds_21_4 F.f21 _ _ _ _) (by decide) (by decide) (by decide) rfl rfl rfl ?_
    repeat' kbo_bools
  · obtain ⟨e1, e2⟩ := sgn_nn hn
    rw [e1, e2] at h
    refine CallW_def (d := d + 3) F.f21 _ _ (binds_21_4 F.f21 _ _ _ _) (by decide) (by decide) (by decide) rfl rfl rfl ?_
    repeat' kbo_bools
local macro_rules | `(tactic| tb_rel) => `(tactic| first | refine call_int1 ?_ | refine fme_call0 (by assumption) ?_ | refine fme_call (by assumption) (by assumption) ?_)
theorem fi_call0 (F : Facts S) {n : Int} {P : V → Prop} (h : ∀ x, Ex n 0 x → P x.v) : CallW S (d + 4) (.raw (gl S "from_int")) [.int n] P X := by
  have f1 := F.f21.glob'
  have f2 := F.f21.can
  have f3 := F.b_int
  have c1 : CanCall S (.type "int") := .inr (.inr ⟨_, rfl⟩)
  refine CallW_def (d := d + 3) F.f22 _ _ (binds_22_1 F.f22 _) (by decide) (by decide) (by decide) rfl rfl rfl ?_
  repeat' kbo_bools
theorem fi_call (F : Facts S) {up : Bool} {n p : Int} {P : V → Prop} (hp : 1 ≤ p) (h : ∀ x, Rnd up (sgn n) n.natAbs 0 p x → P x.v) : CallW S (d + 5) (.raw (gl S "from_int")) [.int n, .int p, .str (rn up)] P X := by
  have f1 := F.f21.glob'
  have f2 := F.f21.can
  have f3 := F.b_int
  have c1 : CanCall S (.type "int") := .inr (.inr ⟨_, rfl⟩)
  refine CallW_def (d := d + 4) F.f22 _ _ (binds_22_3 F.f22 _ _ _) (by decide) (by decide) (by decide) rfl rfl rfl ?_
  repeat' kbo_bools
end

end Mine
end

section
open PySem PySem.W PySem.Calls PyProof.Rows
set_option Elab.async false
set_option maxRecDepth 100000
namespace Mine

-- expressions
local macro_rules | `(tactic| kaf_pre) => `(tactic| first | refine EvE_name (by rfl) ?_ | refine EvE_glob (by assumption) ?_ | refine EvE_built (by assumption) ?_ | refine EvE_int ?_ | refine EvE_binop ?_ | refine EvE_cmp ?_ | refine EvE_unop ?_ | refine EvE_str ?_ | refine EvE_bool ?_ | refine EvE_call ?_ | refine EvE_meth0 ?_ | refine EvE_meth ?_ | refine EvE_sub ?_ | refine EvE_tuple ?_ | refine EvE_ifexp ?_ | refine EvE_one ?_ | refine EvE_and ?_ | refine EvE_or ?_ | refine EvE_list ?_ | refine EvE_walrus ?_)
-- operators
local macro_rules | `(tactic| kaf_suf) => `(tactic| first | refine bi_add ?_ | refine bi_sub ?_ | refine bi_and ?_ | refine bi_xor ?_ | refine bi_shr (by omega) ?_)
local macro_rules | `(tactic| tb_start) => `(tactic| first | refine cmp_eq ?_ | refine cmp_lt ?_ | refine cmp_gt ?_ | refine cmp_le ?_ | refine cmp_ge ?_ | refine cmp_ne ?_ | refine cmp_eqS ?_ | refine cmp_eq4 ?_)
local macro_rules | `(tactic| kct_strs) => `(tactic| first | refine ib_add ?_ | refine ib_sub ?_ | refine ib_xor ?_ | refine ib_shr (by omega) ?_)
local macro_rules | `(tactic| ktu_off1L) => `(tactic| first | refine un_neg ?_ | refine un_not ?_)
-- tests
local macro_rules | `(tactic| kba_ints) => `(tactic| first | refine EvT_not ?_ | refine EvT_cmp ?_ | refine EvT_and ?_ | refine EvT_and_nil ?_ | refine EvT_or ?_ | refine EvT_or_nil ?_ | refine EvT_name ?_ | refine EvT_call ?_ | refine EvT_sub ?_ | refine EvT_bin ?_)
-- statements
local macro_rules | `(tactic| kcf_m) => `(tactic| first | refine Ex1_if ?_ | refine Ex1_ret ?_ | refine Ex1_assign ?_ | refine Ex1_aug (by rfl) ?_ | refine Ex1_unpack4 ?_ | refine Ex1_unpack2 ?_ | refine Ex1_unpack3 ?_ | refine Ex1_swap ?_ | refine Ex1_assert ?_)
-- calls
local macro_rules | `(tactic| tb_rel) => `(tactic| first | refine call_bits ?_)
-- items
local macro_rules | `(tactic| ktu_offI) => `(tactic| first | refine sub_tup (by decide) (by decide) rfl rfl ?_ | refine sub_list (by decide) (by decide) rfl ?_)
-- a test's two ways: what cannot be goes at once
local macro_rules | `(tactic| krn_off) => `(tactic| ((refine ⟨fun h => ?_, fun h => ?_⟩) <;> first
    | (exact absurd h (by decide))
    | ((simp only [decide_eq_true_eq, decide_eq_false_iff_not, beq_iff_eq, bne_iff_ne, beq_eq_false_iff_ne, bne_eq_false_iff_eq, Bool.not_eq_true', Bool.not_eq_false', Bool.not_true, Bool.not_false, ne_eq, Decidable.not_not, gt_iff_lt, ge_iff_le, Int.not_lt, Int.not_le] at h) <;> (try (exfalso; omega)))
    | skip))
local macro_rules | `(tactic| kbo_bools) => `(tactic| first
    | ((with_reducible show EvE _ _ _ _ _ _ _); kaf_pre)
    | ((with_reducible show BinW _ _ _ _ _ _ _); kaf_suf) | ((with_reducible show CmpW _ _ _ _ _ _ _); tb_start) | ((with_reducible show InpW _ _ _ _ _ _ _); kct_strs)
    | ((with_reducible show Ex1 _ _ _ _ _ _ _); kcf_m)
    | ((with_reducible show ExS _ _ _ _ _ _ _); (first | refine ExS_cons ?_ | refine ExS_nil ?_))
    | ((with_reducible show EvT _ _ _ _ _ _ _); kba_ints)
    | ((with_reducible show EvL _ _ _ _ _ _ _ _); (first | refine EvL_cons ?_ | refine EvL_nil ?_))
    | ((with_reducible show UnW _ _ _ _ _ _); ktu_off1L)
    | ((with_reducible show CallW _ _ _ _ _ _); tb_rel)
    | ((with_reducible show SubW _ _ _ _ _ _ _ _); ktu_offI)
    | ((with_reducible show (_ = true → _) ∧ (_ = false → _)); krn_off)
    | ((with_reducible show (_ = false → _) ∧ (_ = true → _)); krn_off)
    | ((with_reducible show _ = true ∧ _); refine ⟨?_, ?_⟩)
    | ((with_reducible show ∃ b, TruthIs _ b ∧ _); refine ⟨_, rfl, ?_⟩)
    | ((with_reducible show List.length _ ≤ 1000 ∧ _); refine ⟨by simp only [List.length_cons, List.length_nil]; decide, ?_⟩)
    | ((with_reducible show ∃ fv, V.raw _ = V.raw fv ∧ _); refine ⟨_, rfl, by assumption, ?_⟩)
    | ((with_reducible show ∃ id, MethIs _ _ _ id ∧ _); refine ⟨_, meth_bits, ?_⟩)
    | ((with_reducible show ∃ a, _); (first | refine ⟨_, _, _, _, rfl, ?_⟩ | refine ⟨_, _, rfl, ?_⟩ | refine ⟨_, _, _, rfl, ?_⟩)))

section
variable {S : Sy} {d : Nat} {X : Prop}
/-- a canonical float -/
structure Nz (x : Mp) : Prop where
  s : x.s = 0 ∨ x.s = 1
  pos : 0 < x.m
  odd : x.m % 2 = 1
  b : x.b = bl x.m
def Can (x : Mp) : Prop := x = Mp.zero ∨ Nz x
theorem CanM.nz {s m e : Int} {x : Mp} (c : CanM s m e x) (hs : s = 0 ∨ s = 1) : Nz x := ⟨c.s ▸ hs, c.pos, c.odd, c.b⟩

local macro_rules | `(tactic| tb_rel) => `(tactic| first | refine call_bits ?_ | refine call_max ?_ | refine call_divmod (by omega) (by assumption) ?_)
theorem bl_mono {a b : Int} (h0 : 0 ≤ a) (h : a ≤ b) : bl a ≤ bl b := by
  obtain ⟨n, rfl⟩ := Int.eq_ofNat_of_zero_le h0
  obtain ⟨m, rfl⟩ := Int.eq_ofNat_of_zero_le (Int.le_trans h0 h)
  rcases Nat.eq_zero_or_pos m with rfl | hm
  · have : n = 0 := by omega
    subst this; exact Nat.le_refl _
  · exact bl_le (Nat.lt_of_le_of_lt (by omega) (bl_spec hm).2)
theorem fdiv_le {a b : Int} (h0 : 0 ≤ a) (hb : 0 < b) : 0 ≤ a.fdiv b ∧ a.fdiv b ≤ a := by
  rw [Int.fdiv_eq_ediv_of_nonneg _ (Int.le_of_lt hb)]
  exact ⟨Int.ediv_nonneg h0 (Int.le_of_lt hb), Int.ediv_le_self _ h0⟩
theorem div_walk (F : Facts S) {up : Bool} {p : Int} {x y : Mp} {P : V → Prop} (hx : Nz x) (hy : Nz y) (hys : y.s = 0) (h1 : y.m ≠ 1) (hp : 1 ≤ p)
    (bp : p ≤ 10000) (bx : x.b ≤ 10000) (by' : y.b ≤ 8000)
    (h : ∀ (k : Nat) (r : Mp), x.b + k ≥ p + y.b + 5 → 
       (if x.m * 2 ^ k % y.m = 0 then Rnd up x.s (x.m * 2 ^ k / y.m) (x.e - y.e - k) p r else Rnd up x.s (x.m * 2 ^ k / y.m * 2 + 1) (x.e - y.e - k - 1) p r) → P r.v) :
    CallW S (d + 4) (.raw (gl S "mpf_div")) [x.v, y.v, .int p, .str (rn up)] P X := by
  have f1 := F.f20.glob'
  have f2 := F.f20.can
  have f3 := F.b_max
  have f4 := F.b_divmod
  have f5 := F.g_fzero
  have c1 : CanCall S (.builtin "max") := .inr (.inl ⟨_, rfl⟩)
  have c2 : CanCall S (.builtin "divmod") := .inr (.inl ⟨_, rfl⟩)
  obtain ⟨xs, xm, xe, xb⟩ := x
  obtain ⟨ys, ym, ye, yb⟩ := y
  obtain ⟨hx1, hx2, hx3, hx4⟩ := hx
  obtain ⟨hy1, hy2, hy3, hy4⟩ := hy
  simp only at *
  subst hys
  have hxor : Builtin.bitXor xs 0 = xs := by rcases hx1 with rfl | rfl <;> decide
  have hb1 : (Builtin.Int.intBits xm : Int) = xb := hx4.symm
  have hlog : ym.natAbs.log2 < 9000 := by
    have : bl ym = ym.natAbs.log2 + 1 := by rw [bl_natAbs]; exact bl_nat (by omega)
    omega
  have hn : ∀ k : Int, 0 ≤ xm * 2 ^ k.toNat := fun k => Int.mul_nonneg (by omega) (Int.le_of_lt (Int.pow_pos (by decide)))
  have hq0 : ∀ k : Int, 0 ≤ (xm * 2 ^ k.toNat).fdiv ym := fun k => (fdiv_le (hn k) hy2).1
  have hq : ∀ k : Int, 0 ≤ k → k ≤ 30000 → (Builtin.Int.intBits ((xm * 2 ^ k.toNat).fdiv ym) : Int) + 1 ≤ 2 ^ 27 := fun k h0 h1 => by
    have a1 := bl_mono (hq0 k) (fdiv_le (hn k) hy2).2
    rw [bl_shiftI hx2] at a1
    show (bl _ : Int) + 1 ≤ _
    omega
  have hfm : ∀ k : Int, (xm * 2 ^ k.toNat).fmod ym = xm * 2 ^ k.toNat % ym := fun k => Int.fmod_eq_emod_of_nonneg _ (by omega)
  have hfd : ∀ k : Int, (xm * 2 ^ k.toNat).fdiv ym = xm * 2 ^ k.toNat / ym := fun k => Int.fdiv_eq_ediv_of_nonneg _ (by omega)
  have e1 : ∀ k : Int, 0 ≤ k → xb + k ≥ p + yb + 5 → ¬ (xm * 2 ^ k.toNat).fmod ym = 0 → CallW S (d + 3) (.raw (gl S "normalize"))
      [.int (Builtin.bitXor xs 0), .int ((xm * 2 ^ k.toNat).fdiv ym * 2 ^ Int.toNat 1 + 1), .int (xe - ye - (k + 1)), .int (Builtin.Int.intBits ((xm * 2 ^ k.toNat).fdiv ym * 2 ^ Int.toNat 1 + 1)), .int p, .str (rn up)] P X := fun k h0 hk hr => by
    have q := hq0 k
    rw [hxor]
    refine norm_call F (by show (0 : Int) ≤ _ * 2 + 1; omega) rfl hp hx1 fun r h' => h k.toNat r (by omega) ?_
    rw [hfm] at hr
    rw [if_neg hr, ← hfd]
    have : xe - ye - (k.toNat : Int) - 1 = xe - ye - (k + 1) := by omega
    rw [this]; exact h'
  have e2 : ∀ k : Int, 0 ≤ k → xb + k ≥ p + yb + 5 → (xm * 2 ^ k.toNat).fmod ym = 0 → CallW S (d + 3) (.raw (gl S "normalize"))
      [.int (Builtin.bitXor xs 0), .int ((xm * 2 ^ k.toNat).fdiv ym), .int (xe - ye - k), .int (Builtin.Int.intBits ((xm * 2 ^ k.toNat).fdiv ym)), .int p, .str (rn up)] P X := fun k h0 hk hr => by
    rw [hxor]
    refine norm_call F (hq0 k) rfl hp hx1 fun r h' => h k.toNat r (by omega) ?_
    rw [hfm] at hr
    rw [if_pos hr, ← hfd]
    have : xe - ye - (k.toNat : Int) = xe - ye - k := by omega
    rw [this]; exact h'
  unfold Mp.v
  dsimp only
  refine CallW_def (d := d + 3) F.f33 _ _ (binds_33_4 F.f33 _ _ _ _) (by decide) (by decide) (by decide) rfl rfl rfl ?_
  repeat' (first | kbo_bools | refine bi_shl (by omega) (by first | omega | exact hq _ (by omega) (by omega)) ?_)
  · exact e1 _ (by omega) (by omega) (by assumption)
  · exact e2 _ (by omega) (by omega) (by assumption)
  · exact e1 _ (by omega) (by omega) (by assumption)
  · exact e2 _ (by omega) (by omega) (by assumption)

theorem div_zero (F : Facts S) {p : Int} {y : Mp} {r : Str} {P : V → Prop} (hy : Nz y) (h : P Mp.zero.v) :
    CallW S (d + 1) (.raw (gl S "mpf_div")) [Mp.zero.v, y.v, .int p, .str r] P X := by
  have f5 := F.g_fzero
  have f6 := F.g_fnan
  obtain ⟨ys, ym, ye, yb⟩ := y
  obtain ⟨hy1, hy2, hy3, hy4⟩ := hy
  simp only at *
  unfold Mp.v
  dsimp only
  refine CallW_def (d := d) F.f33 _ _ (binds_33_4 F.f33 _ _ _ _) (by decide) (by decide) (by decide) rfl rfl rfl ?_
  repeat' kbo_bools
  all_goals first | exact h | (rename_i hh; have := congrArg id hh; omega)
local macro_rules | `(tactic| tb_rel) => `(tactic| first | (refine fi_call0 (by assumption) ?_; intro x hx))
theorem fr_call (F : Facts S) {a b p : Int} {r : Str} {P : V → Prop} (h : ∀ x y, Ex a 0 x → Ex b 0 y → CallW S (d + 4) (.raw (gl S "mpf_div")) [x.v, y.v, .int p, .str r] P X) :
    CallW S (d + 5) (.raw (gl S "from_rational")) [.int a, .int b, .int p, .str r] P X := by
  have f1 := F.f22.glob'
  have f2 := F.f22.can
  have f3 := F.f33.glob'
  have f4 := F.f33.can
  refine CallW_def (d := d + 4) F.f23 _ _ (binds_23_4 F.f23 _ _ _ _) (by decide) (by decide) (by decide) rfl rfl rfl ?_
  repeat' kbo_bools
  · rename_i x hx y hy
    exact h x y hx hy
end

end Mine
end

section
open PySem PySem.W PySem.Calls PyProof.Rows
set_option Elab.async false
set_option maxRecDepth 100000
namespace Mine

-- expressions
local macro_rules | `(tactic| kaf_pre) => `(tactic| first | refine EvE_name (by rfl) ?_ | refine EvE_glob (by assumption) ?_ | refine EvE_built (by assumption) ?_ | refine EvE_int ?_ | refine EvE_binop ?_ | refine EvE_cmp ?_ | refine EvE_unop ?_ | refine EvE_str ?_ | refine EvE_bool ?_ | refine EvE_call ?_ | refine EvE_meth0 ?_ | refine EvE_meth ?_ | refine EvE_sub ?_ | refine EvE_tuple ?_ | refine EvE_ifexp ?_ | refine EvE_one ?_ | refine EvE_and ?_ | refine EvE_or ?_ | refine EvE_list ?_ | refine EvE_walrus ?_)
-- operators
local macro_rules | `(tactic| kaf_suf) => `(tactic| first | refine bi_add ?_ | refine bi_sub ?_ | refine bi_and ?_ | refine bi_xor ?_ | refine bi_shr (by omega) ?_)
local macro_rules | `(tactic| tb_start) => `(tactic| first | refine cmp_eq ?_ | refine cmp_lt ?_ | refine cmp_gt ?_ | refine cmp_le ?_ | refine cmp_ge ?_ | refine cmp_ne ?_ | refine cmp_eqS ?_ | refine cmp_eq4 ?_)
local macro_rules | `(tactic| kct_strs) => `(tactic| first | refine ib_add ?_ | refine ib_sub ?_ | refine ib_xor ?_ | refine ib_shr (by omega) ?_)
local macro_rules | `(tactic| ktu_off1L) => `(tactic| first | refine un_neg ?_ | refine un_not ?_)
-- tests
local macro_rules | `(tactic| kba_ints) => `(tactic| first | refine EvT_not ?_ | refine EvT_cmp ?_ | refine EvT_and ?_ | refine EvT_and_nil ?_ | refine EvT_or ?_ | refine EvT_or_nil ?_ | refine EvT_name ?_ | refine EvT_call ?_ | refine EvT_sub ?_ | refine EvT_bin ?_)
-- statements
local macro_rules | `(tactic| kcf_m) => `(tactic| first | refine Ex1_if ?_ | refine Ex1_ret ?_ | refine Ex1_assign ?_ | refine Ex1_aug (by rfl) ?_ | refine Ex1_unpack4 ?_ | refine Ex1_unpack2 ?_ | refine Ex1_unpack3 ?_ | refine Ex1_swap ?_ | refine Ex1_assert ?_)
-- calls
local macro_rules | `(tactic| tb_rel) => `(tactic| first | refine call_bits ?_)
-- items
local macro_rules | `(tactic| ktu_offI) => `(tactic| first | refine sub_tup (by decide) (by decide) rfl rfl ?_ | refine sub_list (by decide) (by decide) rfl ?_)
-- a test's two ways: what cannot be goes at once
local macro_rules | `(tactic| krn_off) => `(tactic| ((refine ⟨fun h => ?_, fun h => ?_⟩) <;> first
    | (exact absurd h (by decide))
    | ((simp only [decide_eq_true_eq, decide_eq_false_iff_not, beq_iff_eq, bne_iff_ne, beq_eq_false_iff_ne, bne_eq_false_iff_eq, Bool.not_eq_true', Bool.not_eq_false', Bool.not_true, Bool.not_false, ne_eq, Decidable.not_not, gt_iff_lt, ge_iff_le, Int.not_lt, Int.not_le] at h) <;> (try (exfalso; omega)))
    | skip))
local macro_rules | `(tactic| kbo_bools) => `(tactic| first
    | ((with_reducible show EvE _ _ _ _ _ _ _); kaf_pre)
    | ((with_reducible show BinW _ _ _ _ _ _ _); kaf_suf) | ((with_reducible show CmpW _ _ _ _ _ _ _); tb_start) | ((with_reducible show InpW _ _ _ _ _ _ _); kct_strs)
    | ((with_reducible show Ex1 _ _ _ _ _ _ _); kcf_m)
    | ((with_reducible show ExS _ _ _ _ _ _ _); (first | refine ExS_cons ?_ | refine ExS_nil ?_))
    | ((with_reducible show EvT _ _ _ _ _ _ _); kba_ints)
    | ((with_reducible show EvL _ _ _ _ _ _ _ _); (first | refine EvL_cons ?_ | refine EvL_nil ?_))
    | ((with_reducible show UnW _ _ _ _ _ _); ktu_off1L)
    | ((with_reducible show CallW _ _ _ _ _ _); tb_rel)
    | ((with_reducible show SubW _ _ _ _ _ _ _ _); ktu_offI)
    | ((with_reducible show (_ = true → _) ∧ (_ = false → _)); krn_off)
    | ((with_reducible show (_ = false → _) ∧ (_ = true → _)); krn_off)
    | ((with_reducible show _ = true ∧ _); refine ⟨?_, ?_⟩)
    | ((with_reducible show ∃ b, TruthIs _ b ∧ _); refine ⟨_, rfl, ?_⟩)
    | ((with_reducible show List.length _ ≤ 1000 ∧ _); refine ⟨by simp only [List.length_cons, List.length_nil]; decide, ?_⟩)
    | ((with_reducible show ∃ fv, V.raw _ = V.raw fv ∧ _); refine ⟨_, rfl, by assumption, ?_⟩)
    | ((with_reducible show ∃ id, MethIs _ _ _ id ∧ _); refine ⟨_, meth_bits, ?_⟩)
    | ((with_reducible show ∃ a, _); (first | refine ⟨_, _, _, _, rfl, ?_⟩ | refine ⟨_, _, rfl, ?_⟩ | refine ⟨_, _, _, rfl, ?_⟩)))

section
variable {S : Sy} {d : Nat} {X : Prop}
def sg (s m : Int) : Int := if s = 0 then m else -m
def RndZ (up : Bool) (N E p : Int) (r : Mp) : Prop := Rnd up (sgn N) N.natAbs E p r
theorem rnd_signed {up : Bool} {s m N e E p : Int} {r : Mp} (hm : 0 ≤ m) (hs : (s = 0 ∧ N = m) ∨ (s = 1 ∧ N = -m)) (he : e = E) (h : Rnd up s m e p r) : RndZ up N E p r := by
  subst he
  unfold RndZ
  by_cases h0 : m = 0
  · have : N = 0 := by omega
    subst this h0
    unfold Rnd at h ⊢
    rw [if_pos rfl] at h
    rw [if_pos (by decide)]; exact h
  · have e1 : (N.natAbs : Int) = m := by omega
    have e2 : sgn N = s := by unfold sgn; split <;> omega
    rw [e1, e2]; exact h
theorem norm_end (F : Facts S) {up : Bool} {s m e b p N E : Int} {P : V → Prop} (hm : 0 ≤ m) (hb : b = bl m) (hp : 1 ≤ p) (hs : (s = 0 ∧ N = m) ∨ (s = 1 ∧ N = -m)) (he : e = E) (h : ∀ r, RndZ up N E p r → P r.v) :
    CallW S (d + 3) (.raw (gl S "normalize")) [.int s, .int m, .int e, .int b, .int p, .str (rn up)] P X :=
  norm_call F hm hb hp (by omega) fun r hr => h r (rnd_signed hm hs he hr)

theorem mul_walk (F : Facts S) {up : Bool} {p : Int} {x y : Mp} {P : V → Prop} (hx : Can x) (hy : Can y) (sx : x.s = 0) (sy : y.s = 0) (hp : 1 ≤ p) (bx : x.b ≤ 10000) (by' : y.b ≤ 10000)
    (h : ∀ r, RndZ up (x.m * y.m) (x.e + y.e) p r → P r.v) : CallW S (d + 4) (.raw (gl S "mpf_mul")) [x.v, y.v, .int p, .str (rn up)] P X := by
  have f1 := F.f20.glob'
  have f2 := F.f20.can
  have f5 := F.g_fzero
  have hmx : 0 ≤ x.m ∧ (x.m = 0 → x.e = 0) ∧ (bl x.m : Int) ≤ 10000 := by
    rcases hx with rfl | hx
    · exact ⟨Int.le_refl _, fun _ => rfl, by decide⟩
    · exact ⟨Int.le_of_lt hx.pos, fun h => absurd h (Int.ne_of_gt hx.pos), by rw [← hx.b]; exact bx⟩
  have hmy : 0 ≤ y.m ∧ (y.m = 0 → y.e = 0) ∧ (bl y.m : Int) ≤ 10000 := by
    rcases hy with rfl | hy
    · exact ⟨Int.le_refl _, fun _ => rfl, by decide⟩
    · exact ⟨Int.le_of_lt hy.pos, fun h => absurd h (Int.ne_of_gt hy.pos), by rw [← hy.b]; exact by'⟩
  have ok : IntMulOk x.m y.m := by
    unfold IntMulOk
    have : Builtin.Int.intTooBig ((Builtin.Int.intBits x.m : Int) + Builtin.Int.intBits y.m) = false := by
      have h1 := hmx.2.2
      have h2 := hmy.2.2
      unfold Builtin.Int.intTooBig
      refine decide_eq_false ?_
      show ¬ ((bl x.m : Int) + (bl y.m : Int) > 2 ^ 27)
      omega
    rw [this]; simp
  have hpos := Int.mul_nonneg hmx.1 hmy.1
  have hz : x.m * y.m = 0 → x.m = 0 ∨ y.m = 0 := fun h => Int.mul_eq_zero.mp h
  obtain ⟨xs, xm, xe, xb⟩ := x
  obtain ⟨ys, ym, ye, yb⟩ := y
  simp only at *
  subst sx sy
  have e1 : CallW S (d + 3) (.raw (gl S "normalize")) [.int (Builtin.bitXor 0 0), .int (xm * ym), .int (xe + ye), .int (Builtin.Int.intBits (xm * ym)), .int p, .str (rn up)] P X :=
    norm_end F hpos rfl hp (.inl ⟨by decide, rfl⟩) rfl h
  have e2 : xm * ym = 0 → P Mp.zero.v := fun h0 => h _ (by unfold RndZ Rnd; rw [h0]; rfl)
  clear h
  unfold Mp.v
  dsimp only
  refine CallW_def (d := d + 3) F.f32 _ _ (binds_32_4 F.f32 _ _ _ _) (by decide) (by decide) (by decide) rfl rfl rfl ?_
  repeat' (first | kbo_bools | refine bi_mul ok ?_)
  all_goals first | exact e1 | exact e2 (by assumption)

theorem abs_walk (F : Facts S) {x : Mp} {P : V → Prop} (hx : Can x) (h : P (Mp.v ⟨0, x.m, x.e, x.b⟩)) : CallW S (d + 1) (.raw (gl S "mpf_abs")) [x.v] P X := by
  have hs : x.s = 0 ∨ x.s = 1 := by
    rcases hx with rfl | hx
    · exact .inl rfl
    · exact hx.s
  have hm : x.m = 0 → x.e = 0 := by
    rcases hx with rfl | hx
    · exact fun _ => rfl
    · exact fun h => absurd h (Int.ne_of_gt hx.pos)
  obtain ⟨xs, xm, xe, xb⟩ := x
  simp only at *
  unfold Mp.v at *
  dsimp only at *
  have h' : xs = 0 → P (.tup [.int xs, .int xm, .int xe, .int xb]) := by rintro rfl; exact h
  refine CallW_def (d := d) F.f28 _ _ (binds_28_1 F.f28 _) (by decide) (by decide) (by decide) rfl rfl rfl ?_
  repeat' kbo_bools
  all_goals first | exact h | exact h' (by assumption)
theorem neg_walk (F : Facts S) {x : Mp} {P : V → Prop} (hx : Can x) (h : x.m = 0 → P Mp.zero.v) (h1 : x.m ≠ 0 → P (Mp.v ⟨1 - x.s, x.m, x.e, x.b⟩)) : CallW S (d + 1) (.raw (gl S "mpf_neg")) [x.v] P X := by
  rcases hx with rfl | hx
  · have h := h rfl
    unfold Mp.v at *
    dsimp only at *
    refine CallW_def (d := d) F.f27 _ _ (binds_27_1 F.f27 _) (by decide) (by decide) (by decide) rfl rfl rfl ?_
    repeat' kbo_bools
    all_goals exact h
  · have hm := hx.pos
    have h1 := h1 (Int.ne_of_gt hm)
    obtain ⟨xs, xm, xe, xb⟩ := x
    unfold Mp.v at *
    dsimp only at *
    refine CallW_def (d := d) F.f27 _ _ (binds_27_1 F.f27 _) (by decide) (by decide) (by decide) rfl rfl rfl ?_
    repeat' kbo_bools
    all_goals exact h1

inductive AddTo (p : Int) (x y : Mp) (ts : Int) : Int → Int → Prop
  | z1 : x.m = 0 → AddTo p x y ts (sg ts y.m) y.e
  | z2 : x.m ≠ 0 → y.m = 0 → AddTo p x y ts (sg x.s x.m) x.e
  | big1 : x.m ≠ 0 → y.m ≠ 0 → x.e - y.e > 100 → x.b + x.e - y.b - y.e > p + 4 → AddTo p x y ts (sg x.s (x.m * 2 ^ (p + 4).toNat) + sg ts 1) (x.e - (p + 4))
  | big2 : x.m ≠ 0 → y.m ≠ 0 → y.e - x.e > 100 → y.b + y.e - x.b - x.e > p + 4 → AddTo p x y ts (sg ts (y.m * 2 ^ (p + 4).toNat) + sg x.s 1) (y.e - (p + 4))
  | up1 : x.m ≠ 0 → y.m ≠ 0 → x.e - y.e > 0 → AddTo p x y ts (sg x.s (x.m * 2 ^ (x.e - y.e).toNat) + sg ts y.m) y.e
  | up2 : x.m ≠ 0 → y.m ≠ 0 → x.e - y.e < 0 → AddTo p x y ts (sg ts (y.m * 2 ^ (-(x.e - y.e)).toNat) + sg x.s x.m) x.e
  | eq : x.m ≠ 0 → y.m ≠ 0 → x.e = y.e → AddTo p x y ts (sg ts y.m + sg x.s x.m) y.e

theorem can_facts {x : Mp} (hx : Can x) : (x.s = 0 ∨ x.s = 1) ∧ 0 ≤ x.m ∧ (x.m = 0 → x.e = 0) ∧ x.b = bl x.m ∧ (x.m = 0 → x.s = 0) := by
  rcases hx with rfl | hx
  · exact ⟨.inl rfl, Int.le_refl _, fun _ => rfl, rfl, fun _ => rfl⟩
  · exact ⟨hx.s, Int.le_of_lt hx.pos, fun h => absurd h (Int.ne_of_gt hx.pos), hx.b, fun h => absurd h (Int.ne_of_gt hx.pos)⟩
theorem mul_pow_pos {m : Int} (h : 0 ≤ m) (k : Nat) : 0 ≤ m * 2 ^ k ∧ (m = 0 ∨ 0 < m * 2 ^ k) := by
  have p : (0 : Int) < 2 ^ k := Int.pow_pos (by decide)
  refine ⟨Int.mul_nonneg h (Int.le_of_lt p), ?_⟩
  rcases Int.lt_or_eq_of_le h with h | h
  · exact .inr (Int.mul_pos h p)
  · exact .inl h.symm

abbrev AddBody (S : Sy) (d : Nat) (x y : V) (p : Int) (r : Str) (sub : Int) (P : V → Prop) (X : Prop) : Prop :=
  ExS S d (scopeOf (stmtAt 30)) (bodyOf (stmtAt 30)) ([("s" : Str), ("t" : Str), ("prec" : Str), ("rnd" : Str), ("_sub" : Str)].zip [x, y, .int p, .str r, .int sub]) (fun f _ => match f with | .ret v => P v | .next => P .none | _ => False) X
theorem add_of5 (F : Facts S) {x y : V} {p sub : Int} {r : Str} {P : V → Prop} (h : AddBody S d x y p r sub P X) : CallW S (d + 1) (.raw (gl S "mpf_add")) [x, y, .int p, .str r, .int sub] P X :=
  CallW_def (d := d) F.f30 _ _ (binds_30_5 F.f30 _ _ _ _ _) (by decide) (by decide) (by decide) rfl rfl rfl h
theorem add_of4 (F : Facts S) {x y : V} {p : Int} {r : Str} {P : V → Prop} (h : AddBody S d x y p r 0 P X) : CallW S (d + 1) (.raw (gl S "mpf_add")) [x, y, .int p, .str r] P X :=
  CallW_def (d := d) F.f30 _ _ (binds_30_4 F.f30 _ _ _ _) (by decide) (by decide) (by decide) rfl rfl rfl h
structure Hid (P : Prop) : Prop where
  out : P
theorem add_z1 (F : Facts S) {up : Bool} {p sub ts : Int} {y : Mp} {P : V → Prop} (hy : Can y) (hp : 1 ≤ p) (hts : Builtin.bitXor y.s sub = ts) (hsub : sub = 0 ∨ sub = 1) (ht : ts = 0 ∨ ts = 1)
    (h : ∀ r, RndZ up (sg ts y.m) y.e p r → P r.v) : AddBody S (d + 3) Mp.zero.v y.v p (rn up) sub P X := by
  have f1 := F.f20.glob'
  have f2 := F.f20.can
  have f3 := F.f27.glob'
  have f4 := F.f27.can
  rcases hy with rfl | hy
  · have hz : P Mp.zero.v := h _ (by unfold RndZ Rnd sg; simp)
    have neg : CallW S (d + 3) (.raw (gl S "mpf_neg")) [Mp.zero.v] (fun r => r = Mp.zero.v) X := neg_walk F (.inl rfl) (fun _ => rfl) (fun h => absurd rfl h)
    clear h ht
    unfold Mp.v at *
    dsimp only at *
    rcases hsub with rfl | rfl
    · unfold AddBody
      repeat' (first | (refine ib_xor ?_; rw [hts]) | kbo_bools)
    · unfold AddBody
      repeat' (first | (refine ib_xor ?_; rw [hts]) | kbo_bools | (refine neg.mono (fun r hr => ?_); subst hr))
  · have e0 : CallW S (d + 3) (.raw (gl S "normalize")) [.int ts, .int y.m, .int y.e, .int y.b, .int p, .str (rn up)] P X :=
      norm_end F (Int.le_of_lt hy.pos) hy.b hp (by unfold sg; omega) rfl h
    have neg : CallW S (d + 3) (.raw (gl S "mpf_neg")) [y.v] (fun r => r = Mp.v ⟨1 - y.s, y.m, y.e, y.b⟩) X := neg_walk F (.inr hy) (fun h => absurd h (Int.ne_of_gt hy.pos)) (fun _ => rfl)
    have hm := hy.pos
    clear h ht hy
    obtain ⟨ys, ym, ye, yb⟩ := y
    unfold Mp.v at *
    dsimp only at *
    rcases hsub with rfl | rfl
    · unfold AddBody
      repeat' (first | (refine ib_xor ?_; rw [hts]) | kbo_bools)
    · unfold AddBody
      repeat' (first | (refine ib_xor ?_; rw [hts]) | kbo_bools | (refine neg.mono (fun r hr => ?_); subst hr))
theorem add_z2 (F : Facts S) {up : Bool} {p sub : Int} {x : Mp} {P : V → Prop} (hx : Nz x) (hp : 1 ≤ p) (hsub : sub = 0 ∨ sub = 1)
    (h : ∀ r, RndZ up (sg x.s x.m) x.e p r → P r.v) : AddBody S (d + 3) x.v Mp.zero.v p (rn up) sub P X := by
  have f1 := F.f20.glob'
  have f2 := F.f20.can
  have f3 := F.f27.glob'
  have f4 := F.f27.can
  have e0 : CallW S (d + 3) (.raw (gl S "normalize")) [.int x.s, .int x.m, .int x.e, .int x.b, .int p, .str (rn up)] P X :=
    norm_end F (Int.le_of_lt hx.pos) hx.b hp (by have := hx.s; unfold sg; omega) rfl h
  have neg : CallW S (d + 3) (.raw (gl S "mpf_neg")) [Mp.zero.v] (fun r => r = Mp.zero.v) X := neg_walk F (.inl rfl) (fun _ => rfl) (fun h => absurd rfl h)
  have hm := hx.pos
  clear h hx
  obtain ⟨xs, xm, xe, xb⟩ := x
  unfold Mp.v at *
  dsimp only at *
  rcases hsub with rfl | rfl
  · unfold AddBody
    repeat' kbo_bools
  · unfold AddBody
    repeat' (first | kbo_bools | (refine neg.mono (fun r hr => ?_); subst hr))

set_option maxHeartbeats 4000000 in
theorem add_nn (F : Facts S) {up : Bool} {p sub ts : Int} {x y : Mp} {P : V → Prop} (hx : Nz x) (hy : Nz y) (hp : 1 ≤ p) (hts : Builtin.bitXor y.s sub = ts) (ht : ts = 0 ∨ ts = 1)
    (bx : x.b ≤ 10000) (by' : y.b ≤ 10000) (ex1 : -100000 ≤ x.e) (ex2 : x.e ≤ 100000) (ey1 : -100000 ≤ y.e) (ey2 : y.e ≤ 100000) (bp : p ≤ 10000)
    (h : ∀ N E, AddTo p x y ts N E → ∀ r, RndZ up N E p r → P r.v) : AddBody S (d + 3) x.v y.v p (rn up) sub P X := by
  have f1 := F.f20.glob'
  have f2 := F.f20.can
  obtain ⟨hxs, hxm, _, hxb⟩ := hx
  obtain ⟨hys, hym, _, hyb⟩ := hy
  have c3 := fun q3 q4 => h _ _ (.big1 (Int.ne_of_gt hxm) (Int.ne_of_gt hym) q3 q4)
  have c4 := fun q3 q4 => h _ _ (.big2 (Int.ne_of_gt hxm) (Int.ne_of_gt hym) q3 q4)
  have c5 := fun q3 => h _ _ (.up1 (Int.ne_of_gt hxm) (Int.ne_of_gt hym) q3)
  have c6 := fun q3 => h _ _ (.up2 (Int.ne_of_gt hxm) (Int.ne_of_gt hym) q3)
  have c7 := fun q3 => h _ _ (.eq (Int.ne_of_gt hxm) (Int.ne_of_gt hym) q3)
  obtain ⟨xs, xm, xe, xb⟩ := x
  obtain ⟨ys, ym, ye, yb⟩ := y
  dsimp only at *
  have pw : ∀ m : Int, 0 < m → ∀ k : Nat, 0 < m * 2 ^ k := fun m h k => Int.mul_pos h (Int.pow_pos (by decide))
  have n1 := pw xm hxm (p + 4).toNat
  have n2 := pw ym hym (p + 4).toNat
  have n3 := pw xm hxm (xe - ye).toNat
  have n4 := pw ym hym (-(xe - ye)).toNat
  have b1 : (Builtin.Int.intBits xm : Int) = xb := hxb.symm
  have b2 : (Builtin.Int.intBits ym : Int) = yb := hyb.symm
  have g : Hid (hts = hts) := ⟨rfl⟩
  have g1 : Hid (xs = 0 ∨ xs = 1) := ⟨hxs⟩
  have g2 : Hid (ts = 0 ∨ ts = 1) := ⟨ht⟩
  have K : ∀ {s m e b N E : Int}, 0 ≤ m → b = bl m → ((s = 0 ∧ N = m) ∨ (s = 1 ∧ N = -m)) → e = E → (∀ r, RndZ up N E p r → P r.v) → CallW S (d + 3) (.raw (gl S "normalize")) [.int s, .int m, .int e, .int b, .int p, .str (rn up)] P X :=
    fun hm hb hs he h => norm_end F hm hb hp hs he h
  clear h hxs hys ht hxb hyb
  unfold Mp.v at *
  dsimp only at *
  unfold AddBody
  repeat' (first | (refine ib_xor ?_; rw [hts]) | kbo_bools | refine bi_shl (by omega) (by omega) ?_ | refine ib_shl (by omega) (by omega) ?_)
  all_goals (
    obtain ⟨g1⟩ := g1
    obtain ⟨g2⟩ := g2
    first
    | exact K (by omega) rfl (by unfold sg; omega) (by omega) (c5 (by omega))
    | exact K (by omega) rfl (by unfold sg; omega) (by omega) (c6 (by omega))
    | exact K (by omega) rfl (by unfold sg; omega) (by omega) (c7 (by omega))
    | exact K (by omega) rfl (by unfold sg; omega) (by omega) (c3 (by omega) (by omega))
    | exact K (by omega) rfl (by unfold sg; omega) (by omega) (c4 (by omega) (by omega)))

/-- both: the sum of two canonical floats -/
theorem add_all (F : Facts S) {up : Bool} {p sub ts : Int} {x y : Mp} {P : V → Prop} (hx : Can x) (hy : Can y) (hp : 1 ≤ p) (hsub : (sub = 0 ∧ ts = y.s) ∨ (sub = 1 ∧ ts = 1 - y.s))
    (bx : x.b ≤ 10000) (by' : y.b ≤ 10000) (ex : -100000 ≤ x.e ∧ x.e ≤ 100000) (ey : -100000 ≤ y.e ∧ y.e ≤ 100000) (bp : p ≤ 10000)
    (h : ∀ N E, AddTo p x y ts N E → ∀ r, RndZ up N E p r → P r.v) : AddBody S (d + 3) x.v y.v p (rn up) sub P X := by
  obtain ⟨hxs, hxm, hxe, hxb, hxz⟩ := can_facts hx
  obtain ⟨hys, hym, hye, hyb, hyz⟩ := can_facts hy
  have hts : Builtin.bitXor y.s sub = ts := by
    rcases hsub with ⟨rfl, rfl⟩ | ⟨rfl, rfl⟩ <;> rcases hys with e | e <;> rw [e] <;> decide
  have ht : ts = 0 ∨ ts = 1 := by omega
  rcases hx with rfl | hx
  · exact add_z1 F hy hp hts (by omega) ht (h _ _ (.z1 rfl))
  · rcases hy with rfl | hy
    · exact add_z2 F hx hp (by omega) (h _ _ (.z2 (Int.ne_of_gt hx.pos) rfl))
    · exact add_nn F hx hy hp hts ht bx by' ex.1 ex.2 ey.1 ey.2 bp h
local macro_rules | `(tactic| tb_rel) => `(tactic| refine add_of5 (by assumption) (by assumption))
theorem sub_call (F : Facts S) {x y : V} {p : Int} {r : Str} {P : V → Prop} (h : AddBody S d x y p r 1 P X) : CallW S (d + 2) (.raw (gl S "mpf_sub")) [x, y, .int p, .str r] P X := by
  have f1 := F.f30.glob'
  have f2 := F.f30.can
  refine CallW_def (d := d + 1) F.f31 _ _ (binds_31_4 F.f31 _ _ _ _) (by decide) (by decide) (by decide) rfl rfl rfl ?_
  repeat' kbo_bools
end

end Mine
end

section
open PySem
set_option Elab.async false
namespace Mine
/-! powers of two among the rationals -/
def q2 (e : Int) : Rat := (2 : Rat) ^ e
theorem q2_pos (e : Int) : 0 < q2 e := Rat.zpow_pos (by decide)
theorem q2_add (a b : Int) : q2 (a + b) = q2 a * q2 b := Rat.zpow_add (by decide) a b
theorem q2_nat (k : Nat) : q2 k = ((2 ^ k : Int) : Rat) := by
  unfold q2; rw [Rat.zpow_natCast, Rat.intCast_pow]; rfl
theorem q2_zero : q2 0 = 1 := rfl
theorem q2_one : q2 1 = 2 := by unfold q2; rw [Rat.zpow_one]
theorem q2_split {a b : Int} (h : a ≤ b) : q2 b = q2 a * ((2 ^ (b - a).toNat : Int) : Rat) := by
  have : b = a + ((b - a).toNat : Int) := by omega
  conv => lhs; rw [this]
  rw [q2_add, q2_nat]
theorem two_pow_ge (k : Nat) : (1 : Int) ≤ 2 ^ k := Int.pow_pos (by decide)
theorem q2_le {a b : Int} (h : a ≤ b) : q2 a ≤ q2 b := by
  rw [q2_split h]
  have h1 : (1 : Rat) ≤ ((2 ^ (b - a).toNat : Int) : Rat) := by exact_mod_cast two_pow_ge _
  have := Rat.mul_le_mul_of_nonneg_left h1 (Rat.le_of_lt (q2_pos a))
  rwa [Rat.mul_one] at this
theorem q2_lt {a b : Int} (h : q2 a < q2 b) : a < b := by
  rcases Int.lt_or_le a b with h' | h'
  · exact h'
  · have := q2_le h'; grind
theorem q2_succ (a : Int) : q2 (a + 1) = 2 * q2 a := by rw [q2_add, q2_one, Rat.mul_comm]
def sgR (s : Int) (u : Rat) : Rat := if s = 0 then u else -u
def Mp.val (x : Mp) : Rat := sgR x.s (x.m * q2 x.e)

structure Cell (dn : Bool) (u : Rat) (p M E : Int) : Prop where
  lo : q2 (p - 1 + E) ≤ u
  hi : u < q2 (p + E)
  d : dn = true → (M : Rat) * q2 E ≤ u ∧ u < ((M + 1 : Int) : Rat) * q2 E
  c : dn = false → ((M - 1 : Int) : Rat) * q2 E < u ∧ u ≤ (M : Rat) * q2 E

inductive QR (up : Bool) (v : Rat) (p : Int) (r : Mp) : Prop
  | zero : v = 0 → r = Mp.zero → QR up v p r
  | pos {M E : Int} : 0 < v → Cell (!up) v p M E → CanM 0 M E r → QR up v p r
  | neg {M E : Int} : v < 0 → Cell up (-v) p M E → CanM 1 M E r → QR up v p r

theorem qr_of {up : Bool} {s : Int} {u : Rat} {p M E : Int} {r : Mp} (hs : s = 0 ∨ s = 1) (hu : 0 < u) (c : Cell (decide (s = 0) != up) u p M E) (k : CanM s M E r) : QR up (sgR s u) p r := by
  rcases hs with rfl | rfl
  · refine .pos (by simpa [sgR] using hu) (M := M) (E := E) ?_ k
    have : (decide ((0 : Int) = 0) != up) = !up := by cases up <;> rfl
    rw [this] at c; simpa [sgR] using c
  · refine .neg (M := M) (E := E) (by show (if (1 : Int) = 0 then u else -u) < 0; rw [if_neg (by decide)]; grind) ?_ k
    have : (decide ((1 : Int) = 0) != up) = up := by cases up <;> rfl
    rw [this] at c
    have e : -sgR 1 u = u := by show -(if (1 : Int) = 0 then u else -u) = u; rw [if_neg (by decide), Rat.neg_neg]
    rw [e]; exact c

/-! uniqueness -/
theorem mul_q2_le {a b : Int} {E : Int} (h : (a : Rat) * q2 E < (b : Rat) * q2 E) : a < b := by
  have := Rat.lt_of_mul_lt_mul_right h (Rat.le_of_lt (q2_pos E))
  exact_mod_cast this
theorem cell_unique {dn : Bool} {u : Rat} {p M E M' E' : Int} (a : Cell dn u p M E) (b : Cell dn u p M' E') : M = M' ∧ E = E' := by
  have h1 := q2_lt (a := p - 1 + E) (b := p + E') (by have := a.lo; have := b.hi; grind)
  have h2 := q2_lt (a := p - 1 + E') (b := p + E) (by have := b.lo; have := a.hi; grind)
  have e : E = E' := by omega
  subst e
  refine ⟨?_, rfl⟩
  cases dn with
  | true =>
    have a := a.d rfl; have b := b.d rfl
    have h1 := mul_q2_le (a := M) (b := M' + 1) (E := E) (by grind)
    have h2 := mul_q2_le (a := M') (b := M + 1) (E := E) (by grind)
    omega
  | false =>
    have a := a.c rfl; have b := b.c rfl
    have h1 := mul_q2_le (a := M - 1) (b := M') (E := E) (by grind)
    have h2 := mul_q2_le (a := M' - 1) (b := M) (E := E) (by grind)
    omega
theorem odd_unique {a b : Int} : ∀ {t t' : Nat}, a % 2 = 1 → b % 2 = 1 → a * 2 ^ t = b * 2 ^ t' → a = b ∧ t = t'
  | 0, 0, _, _, h => ⟨by simpa using h, rfl⟩
  | 0, t + 1, ha, _, h => by rw [Int.pow_succ, ← Int.mul_assoc] at h; omega
  | t + 1, 0, _, hb, h => by rw [Int.pow_succ, ← Int.mul_assoc] at h; omega
  | t + 1, t' + 1, ha, hb, h => by
    rw [Int.pow_succ, Int.pow_succ, ← Int.mul_assoc, ← Int.mul_assoc] at h
    have := odd_unique (t := t) (t' := t') ha hb (by omega)
    exact ⟨this.1, by omega⟩
theorem can_unique {s M E : Int} {x y : Mp} (a : CanM s M E x) (b : CanM s M E y) : x = y := by
  obtain ⟨t, h1, h2⟩ := a.ex
  obtain ⟨t', h1', h2'⟩ := b.ex
  obtain ⟨e, e'⟩ := odd_unique a.odd b.odd (h1.symm.trans h1')
  have eb : x.b = y.b := by rw [a.b, b.b, e]
  have es : x.s = y.s := by rw [a.s, b.s]
  have ee : x.e = y.e := by omega
  cases x; cases y; simp only at *; subst e es ee eb; rfl
theorem qr_unique {up : Bool} {v : Rat} {p : Int} {r r' : Mp} (a : QR up v p r) (b : QR up v p r') : r = r' := by
  cases a with
  | zero h1 h2 =>
    cases b with
    | zero _ h => rw [h2, h]
    | pos h _ _ => grind
    | neg h _ _ => grind
  | pos h1 c k =>
    cases b with
    | zero h _ => grind
    | pos _ c' k' => obtain ⟨rfl, rfl⟩ := cell_unique c c'; exact can_unique k k'
    | neg h _ _ => grind
  | neg h1 c k =>
    cases b with
    | zero h _ => grind
    | pos h _ _ => grind
    | neg _ c' k' => obtain ⟨rfl, rfl⟩ := cell_unique c c'; exact can_unique k k'

/-! bits -/
theorem bl_specI {m : Int} (h : 0 < m) : (2 : Int) ^ (bl m - 1) ≤ m ∧ m < 2 ^ bl m ∧ 0 < bl m := by
  obtain ⟨n, rfl⟩ := Int.eq_ofNat_of_zero_le (Int.le_of_lt h)
  have ⟨a, b⟩ := bl_spec (m := n) (by omega)
  refine ⟨?_, ?_, bl_pos (by omega)⟩
  · exact_mod_cast a
  · exact_mod_cast b
theorem bl_val {m : Int} (h : 0 < m) (e : Int) : q2 (bl m - 1 + e) ≤ (m : Rat) * q2 e ∧ (m : Rat) * q2 e < q2 (bl m + e) := by
  obtain ⟨a, b, c⟩ := bl_specI h
  have ec : ((bl m : Int) - 1) = ((bl m - 1 : Nat) : Int) := by omega
  rw [q2_add, q2_add, ec, q2_nat, q2_nat]
  have a' : ((2 ^ (bl m - 1) : Int) : Rat) ≤ (m : Rat) := by exact_mod_cast a
  have b' : (m : Rat) < ((2 ^ bl m : Int) : Rat) := by exact_mod_cast b
  exact ⟨Rat.mul_le_mul_of_nonneg_right a' (Rat.le_of_lt (q2_pos e)), Rat.mul_lt_mul_of_pos_right b' (q2_pos e)⟩

/-- the cell of a magnitude, from its bits -/
theorem cell_of {dn : Bool} {u : Rat} {p M E : Int} (lo : q2 (p - 1 + E) ≤ u) (hi : u < q2 (p + E)) (d : dn = true → (M : Rat) * q2 E ≤ u ∧ u < ((M + 1 : Int) : Rat) * q2 E)
  (c : dn = false → ((M - 1 : Int) : Rat) * q2 E < u ∧ u ≤ (M : Rat) * q2 E) : Cell dn u p M E := ⟨lo, hi, d, c⟩
theorem canM_shift {s m e : Int} {k : Nat} {x : Mp} (a : CanM s m e x) : CanM s (m * 2 ^ k) (e - k) x := by
  obtain ⟨t, h1, h2⟩ := a.ex
  refine ⟨a.s, a.pos, a.odd, a.b, t + k, ?_, by omega⟩
  rw [h1, Int.pow_add, Int.mul_assoc]
theorem mul_q2_shift {m e : Int} {k : Nat} : ((m * 2 ^ k : Int) : Rat) * q2 (e - k) = (m : Rat) * q2 e := by
  rw [Rat.intCast_mul, ← q2_nat, Rat.mul_assoc, ← q2_add]
  congr 2; omega
theorem lt_mul_q2 {u : Int} {v : Int} (E : Int) (h : u < v) : (u : Rat) * q2 E < (v : Rat) * q2 E :=
  Rat.mul_lt_mul_of_pos_right (by exact_mod_cast h) (q2_pos E)
theorem le_mul_q2 {u : Int} {v : Int} (E : Int) (h : u ≤ v) : (u : Rat) * q2 E ≤ (v : Rat) * q2 E :=
  Rat.mul_le_mul_of_nonneg_right (by exact_mod_cast h) (Rat.le_of_lt (q2_pos E))
theorem cut_spec {m : Int} {k : Nat} : (cut true m k * 2 ^ k ≤ m ∧ m < (cut true m k + 1) * 2 ^ k) ∧ ((cut false m k - 1) * 2 ^ k < m ∧ m ≤ cut false m k * 2 ^ k) := by
  have pk : (0 : Int) < 2 ^ k := Int.pow_pos (by decide)
  have f : ∀ a : Int, a.fdiv (2 ^ k) * 2 ^ k ≤ a ∧ a < (a.fdiv (2 ^ k) + 1) * 2 ^ k := fun a => by
    rw [Int.fdiv_eq_ediv_of_nonneg _ (Int.le_of_lt pk)]
    exact ⟨Int.ediv_mul_le _ (Int.ne_of_gt pk), Int.lt_ediv_add_one_mul_self _ pk⟩
  unfold cut
  simp only [if_true, Bool.false_eq_true, if_false]
  refine ⟨f m, ?_⟩
  have := f (-m)
  generalize (-m).fdiv (2 ^ k) = z at *
  rw [Int.add_mul, Int.one_mul] at this
  rw [Int.sub_mul, Int.one_mul, Int.neg_mul]
  omega
theorem scale_q2 {a b e : Int} {k : Nat} : (a * 2 ^ k < b → (a : Rat) * q2 (e + k) < (b : Rat) * q2 e) ∧ (a * 2 ^ k ≤ b → (a : Rat) * q2 (e + k) ≤ (b : Rat) * q2 e) ∧ (b < a * 2 ^ k → (b : Rat) * q2 e < (a : Rat) * q2 (e + k)) ∧ (b ≤ a * 2 ^ k → (b : Rat) * q2 e ≤ (a : Rat) * q2 (e + k)) := by
  have e1 : (a : Rat) * q2 (e + k) = ((a * 2 ^ k : Int) : Rat) * q2 e := by
    rw [q2_add, q2_nat, Rat.intCast_mul, Rat.mul_assoc]; congr 1; rw [Rat.mul_comm]
  rw [e1]
  exact ⟨fun h => lt_mul_q2 e h, fun h => le_mul_q2 e h, fun h => lt_mul_q2 e h, fun h => le_mul_q2 e h⟩
end Mine
end

section
open PySem
set_option Elab.async false
namespace Mine
theorem rnd_exact {up : Bool} {s m e p : Int} {r : Mp} (hm : 0 ≤ m) (hs : s = 0 ∨ s = 1) (hp : 1 ≤ p) (h : Rnd up s m e p r) : QR up (sgR s ((m : Rat) * q2 e)) p r := by
  unfold Rnd at h
  by_cases h0 : m = 0
  · rw [if_pos h0] at h
    subst h0 h
    refine .zero ?_ rfl
    show (if s = 0 then ((0 : Int) : Rat) * q2 e else -(((0 : Int) : Rat) * q2 e)) = 0
    rw [Rat.intCast_zero, Rat.zero_mul]; split <;> simp
  · have hm0 : 0 < m := by omega
    rw [if_neg h0] at h
    obtain ⟨b1, b2⟩ := bl_val hm0 e
    have hu : 0 < (m : Rat) * q2 e := Rat.mul_pos (by exact_mod_cast hm0) (q2_pos e)
    by_cases hb : (bl m : Int) ≤ p
    · rw [if_pos hb] at h
      obtain ⟨k, hk⟩ : ∃ k : Nat, (k : Int) = p - bl m := ⟨(p - bl m).toNat, by omega⟩
      refine qr_of hs hu (cell_of ?_ ?_ (fun _ => ?_) (fun _ => ?_)) (canM_shift (k := k) h)
      · have : p - 1 + (e - k) = bl m - 1 + e := by omega
        rw [this]; exact b1
      · have : p + (e - k) = bl m + e := by omega
        rw [this]; exact b2
      · rw [← mul_q2_shift (m := m) (e := e) (k := k)]
        exact ⟨Rat.le_refl, lt_mul_q2 _ (by omega)⟩
      · rw [← mul_q2_shift (m := m) (e := e) (k := k)]
        exact ⟨lt_mul_q2 _ (by omega), Rat.le_refl⟩
    · rw [if_neg hb] at h
      obtain ⟨k, hk⟩ : ∃ k : Nat, (k : Int) = bl m - p := ⟨(bl m - p).toNat, by omega⟩
      have e1 : ((bl m : Int) - p).toNat = k := by omega
      rw [e1, ← hk] at h
      have cs := cut_spec (m := m) (k := k)
      refine qr_of hs hu (cell_of ?_ ?_ (fun hd => ?_) (fun hd => ?_)) h
      · have : p - 1 + (e + k) = bl m - 1 + e := by omega
        rw [this]; exact b1
      · have : p + (e + k) = bl m + e := by omega
        rw [this]; exact b2
      · rw [hd]; exact ⟨scale_q2.2.1 cs.1.1, scale_q2.2.2.1 cs.1.2⟩
      · rw [hd]; exact ⟨scale_q2.1 cs.2.1, scale_q2.2.2.2 cs.2.2⟩
/-- what is rounded lies in the same open cell as the true magnitude -/
theorem rnd_cell {up : Bool} {s N e p : Int} {r : Mp} {u : Rat} {k : Nat} (hN : 0 < N) (hs : s = 0 ∨ s = 1) (hp : 1 ≤ p) (hk : (bl N : Int) = p + k) (M : Int)
    (n1 : M * 2 ^ k < N) (n2 : N < (M + 1) * 2 ^ k) (u1 : (M : Rat) * q2 (e + k) < u) (u2 : u < ((M + 1 : Int) : Rat) * q2 (e + k))
    (hk0 : 0 < k) (h : Rnd up s N e p r) : QR up (sgR s u) p r := by
  unfold Rnd at h
  rw [if_neg (by omega), if_neg (by omega)] at h
  have e1 : ((bl N : Int) - p).toNat = k := by omega
  have e2 : (bl N : Int) - p = k := by omega
  rw [e1, e2] at h
  obtain ⟨a, b, c⟩ := bl_specI hN
  have pk : (0 : Int) < 2 ^ k := Int.pow_pos (by decide)
  obtain ⟨P, hP⟩ : ∃ P : Nat, (P : Int) = p - 1 := ⟨(p - 1).toNat, by omega⟩
  have eb : bl N = P + 1 + k := by omega
  have hM1 : (2 : Int) ^ P ≤ M := by
    have : (2 : Int) ^ P * 2 ^ k ≤ N := by rw [← Int.pow_add]; have : P + k = bl N - 1 := by omega
                                           rw [this]; exact a
    have h3 : (2 : Int) ^ P * 2 ^ k < (M + 1) * 2 ^ k := by omega
    have := Int.lt_of_mul_lt_mul_right h3 (Int.le_of_lt pk); omega
  have hM2 : M + 1 ≤ (2 : Int) ^ (P + 1) := by
    have : N < (2 : Int) ^ (P + 1) * 2 ^ k := by rw [← Int.pow_add, ← eb]; exact b
    have h3 : M * 2 ^ k < (2 : Int) ^ (P + 1) * 2 ^ k := by omega
    have := Int.lt_of_mul_lt_mul_right h3 (Int.le_of_lt pk); omega
  have pp : (0 : Int) < 2 ^ P := Int.pow_pos (by decide)
  have qp := q2_pos (e + k)
  have hu : 0 < u := by
    have : (0 : Rat) < (M : Rat) * q2 (e + k) := Rat.mul_pos (by have : 0 < M := by omega
                                                                 exact_mod_cast this) qp
    grind
  have cutT : cut true N k = M := by
    obtain ⟨x1, x2⟩ := (cut_spec (m := N) (k := k)).1
    have h1 := Int.lt_of_mul_lt_mul_right (Int.lt_of_le_of_lt x1 n2) (Int.le_of_lt pk)
    have h2 := Int.lt_of_mul_lt_mul_right (Int.lt_trans n1 x2) (Int.le_of_lt pk)
    omega
  have cutF : cut false N k = M + 1 := by
    obtain ⟨x1, x2⟩ := (cut_spec (m := N) (k := k)).2
    have h1 := Int.lt_of_mul_lt_mul_right (Int.lt_trans x1 n2) (Int.le_of_lt pk)
    have h2 := Int.lt_of_mul_lt_mul_right (Int.lt_of_lt_of_le n1 x2) (Int.le_of_lt pk)
    omega
  have c1 : q2 (p - 1 + (e + k)) ≤ u := by
    rw [q2_add, ← hP, q2_nat]
    have := le_mul_q2 (e + k) hM1; grind
  have c2 : u < q2 (p + (e + k)) := by
    have e3 : p = ((P + 1 : Nat) : Int) := by omega
    rw [q2_add, e3, q2_nat]
    have := le_mul_q2 (e + k) hM2; grind
  refine qr_of hs hu (M := cut (decide (s = 0) != up) N k) (cell_of c1 c2 (fun hd => ?_) (fun hd => ?_)) h
  · rw [hd, cutT]; exact ⟨Rat.le_of_lt u1, u2⟩
  · rw [hd, cutF]
    have : M + 1 - 1 = M := by omega
    rw [this]; exact ⟨u1, Rat.le_of_lt u2⟩
/-- the same, told by a neighbourhood: N is odd and the truth less than one away -/
theorem rnd_odd {up : Bool} {s N e p : Int} {r : Mp} {u : Rat} (hN : 0 < N) (ho : N % 2 = 1) (hs : s = 0 ∨ s = 1) (hp : 1 ≤ p) (hb : p < bl N)
    (u1 : ((N - 1 : Int) : Rat) * q2 e < u) (u2 : u < ((N + 1 : Int) : Rat) * q2 e) (h : Rnd up s N e p r) : QR up (sgR s u) p r := by
  obtain ⟨k, hk⟩ : ∃ k : Nat, (bl N : Int) = p + (k + 1 : Nat) := ⟨(bl N - p - 1).toNat, by omega⟩
  have pk : (0 : Int) < 2 ^ k := Int.pow_pos (by decide)
  have e2 : (2 : Int) ^ (k + 1) = 2 * 2 ^ k := by rw [Int.pow_succ]; omega
  have h1 : N / 2 ^ (k + 1) * 2 ^ (k + 1) ≤ N := Int.ediv_mul_le _ (by omega)
  have h2 : N < (N / 2 ^ (k + 1) + 1) * 2 ^ (k + 1) := Int.lt_ediv_add_one_mul_self _ (by omega)
  have h3 : ∀ M : Int, M * 2 ^ (k + 1) = 2 * (M * 2 ^ k) := fun M => by rw [e2, ← Int.mul_assoc, Int.mul_comm M 2, Int.mul_assoc]
  generalize N / 2 ^ (k + 1) = M at h1 h2
  have n1 : M * 2 ^ (k + 1) ≤ N - 1 := by rw [h3] at h1 ⊢; omega
  have n2 : N + 1 ≤ (M + 1) * 2 ^ (k + 1) := by rw [h3] at h2 ⊢; omega
  refine rnd_cell (e := e) hN hs hp hk M (by omega) (by omega) ?_ ?_ (by omega) h
  · have := (scale_q2 (e := e)).2.1 n1; grind
  · have := (scale_q2 (e := e)).2.2.2 n2; grind

/-! what rounding gives -/
theorem sgR_zero (s : Int) : sgR s 0 = 0 := by unfold sgR; split <;> simp
theorem val_zero : Mp.val Mp.zero = 0 := by
  show sgR 0 (((0 : Int) : Rat) * q2 0) = 0
  rw [Rat.intCast_zero, Rat.zero_mul, sgR_zero]
theorem canM_val {s M E : Int} {x : Mp} (a : CanM s M E x) : x.val = sgR s ((M : Rat) * q2 E) := by
  obtain ⟨t, h1, h2⟩ := a.ex
  unfold Mp.val
  rw [a.s, h1, h2, q2_add, q2_nat, Rat.intCast_mul]
  congr 1; grind
theorem ex_val {n e : Int} {x : Mp} (h : Ex n e x) : x.val = (n : Rat) * q2 e := by
  unfold Ex at h
  by_cases h0 : n = 0
  · rw [if_pos h0] at h; subst h0 h; rw [val_zero, Rat.intCast_zero, Rat.zero_mul]
  · rw [if_neg h0] at h
    rw [canM_val h]
    unfold sgR sgn
    by_cases hn : n < 0
    · rw [if_pos hn, if_neg (by decide)]
      have : (n.natAbs : Int) = -n := by omega
      rw [this, Rat.intCast_neg]; grind
    · rw [if_neg hn, if_pos rfl]
      have : (n.natAbs : Int) = n := by omega
      rw [this]
theorem canM_can {s M E : Int} {x : Mp} (hs : s = 0 ∨ s = 1) (a : CanM s M E x) : Can x := .inr (a.nz hs)
theorem qr_can {up : Bool} {v : Rat} {p : Int} {r : Mp} (a : QR up v p r) : Can r := by
  cases a with
  | zero _ h => exact .inl h
  | pos _ _ k => exact canM_can (.inl rfl) k
  | neg _ _ k => exact canM_can (.inr rfl) k
theorem cell_err {dn : Bool} {u : Rat} {p M E : Int} (c : Cell dn u p M E) : q2 E ≤ q2 (1 - p) * u := by
  have := Rat.mul_le_mul_of_nonneg_left c.lo (Rat.le_of_lt (q2_pos (1 - p)))
  rw [← q2_add] at this
  have e : 1 - p + (p - 1 + E) = E := by omega
  rw [e] at this; exact this
def ab (v : Rat) : Rat := if 0 ≤ v then v else -v
theorem qr_err {up : Bool} {v : Rat} {p : Int} {r : Mp} (a : QR up v p r) : (up = false → r.val ≤ v ∧ v - r.val ≤ q2 (1 - p) * ab v) ∧ (up = true → v ≤ r.val ∧ r.val - v ≤ q2 (1 - p) * ab v) := by
  cases a with
  | zero h1 h2 =>
    subst h2; rw [val_zero, h1]
    have : ab 0 = 0 := rfl
    rw [this, Rat.mul_zero]
    exact ⟨fun _ => ⟨Rat.le_refl, by grind⟩, fun _ => ⟨Rat.le_refl, by grind⟩⟩
  | @pos M E h1 c k =>
    have e := cell_err c
    have e2 : ab v = v := if_pos (Rat.le_of_lt h1)
    rw [canM_val k, e2]
    have e3 : sgR 0 ((M : Rat) * q2 E) = (M : Rat) * q2 E := rfl
    rw [e3]
    refine ⟨fun hu => ?_, fun hu => ?_⟩
    · subst hu
      obtain ⟨d1, d2⟩ := c.d rfl
      rw [Rat.intCast_add] at d2
      have : ((1 : Int) : Rat) = 1 := rfl
      grind
    · subst hu
      obtain ⟨d1, d2⟩ := c.c rfl
      rw [Rat.intCast_sub] at d1
      have : ((1 : Int) : Rat) = 1 := rfl
      grind
  | @neg M E h1 c k =>
    have e := cell_err c
    have e2 : ab v = -v := if_neg (by grind)
    rw [canM_val k, e2]
    have e3 : sgR 1 ((M : Rat) * q2 E) = -((M : Rat) * q2 E) := rfl
    rw [e3]
    refine ⟨fun hu => ?_, fun hu => ?_⟩
    · subst hu
      obtain ⟨d1, d2⟩ := c.c rfl
      rw [Rat.intCast_sub] at d1
      have : ((1 : Int) : Rat) = 1 := rfl
      grind
    · subst hu
      obtain ⟨d1, d2⟩ := c.d rfl
      rw [Rat.intCast_add] at d2
      have : ((1 : Int) : Rat) = 1 := rfl
      grind
theorem qr_sign {up : Bool} {v : Rat} {p : Int} {r : Mp} (a : QR up v p r) : (0 ≤ v → r.s = 0) ∧ (v < 0 → r.s = 1) := by
  cases a with
  | zero h1 h2 => subst h2; exact ⟨fun _ => rfl, fun h => by grind⟩
  | pos h1 c k => exact ⟨fun _ => k.s, fun h => by grind⟩
  | neg h1 c k => exact ⟨fun h => by grind, fun _ => k.s⟩
theorem cell_max {dn : Bool} {u : Rat} {p M E : Int} (hp : 0 ≤ p) (c : Cell dn u p M E) : M ≤ 2 ^ p.toNat := by
  have e : p = (p.toNat : Int) := by omega
  have h1 : ((M - 1 : Int) : Rat) * q2 E < ((2 ^ p.toNat : Int) : Rat) * q2 E := by
    have hi := c.hi
    rw [q2_add, e, q2_nat] at hi
    cases dn with
    | true => have := (c.d rfl).1; have := lt_mul_q2 E (show M - 1 < M by omega); grind
    | false => have := (c.c rfl).1; grind
  have := mul_q2_le h1; omega
theorem can_bits {s M E p : Int} {x : Mp} (hp : 1 ≤ p) (hM : M ≤ 2 ^ p.toNat) (a : CanM s M E x) : x.b ≤ p ∧ E ≤ x.e ∧ x.e ≤ E + p := by
  obtain ⟨t, h1, h2⟩ := a.ex
  have pt : (1 : Int) ≤ 2 ^ t := two_pow_ge t
  have hx := a.pos
  have h3 : x.m ≤ M := by
    have := Int.mul_le_mul_of_nonneg_left pt (Int.le_of_lt hx)
    rw [Int.mul_one] at this; omega
  have h4 : (2 : Int) ^ t ≤ M := by
    have := Int.mul_le_mul_of_nonneg_right (show (1 : Int) ≤ x.m by omega) (Int.le_trans (by decide : (0 : Int) ≤ 1) pt)
    rw [Int.one_mul] at this; omega
  have ht : (t : Int) ≤ p := by
    rcases Int.lt_or_le p t with h | h
    · exfalso
      have : (2 : Int) ^ t = 2 ^ p.toNat * 2 ^ (t - p.toNat) := by rw [← Int.pow_add]; congr 1; omega
      have h5 : (2 : Int) ^ (t - p.toNat) = 2 * 2 ^ (t - p.toNat - 1) := by rw [← Int.pow_succ']; congr 1; omega
      have h6 := two_pow_ge (t - p.toNat - 1)
      have h7 := two_pow_ge p.toNat
      have h8 : (2 : Int) ^ p.toNat * 2 ≤ 2 ^ p.toNat * 2 ^ (t - p.toNat) := Int.mul_le_mul_of_nonneg_left (by omega) (by omega)
      omega
    · exact h
  have hlt : x.m < 2 ^ p.toNat := by
    have : x.m ≠ 2 ^ p.toNat := fun h => by
      have ho := a.odd
      rw [h] at ho
      have h5 : (2 : Int) ^ p.toNat = 2 * 2 ^ (p.toNat - 1) := by rw [← Int.pow_succ']; congr 1; omega
      omega
    omega
  have hb : bl x.m ≤ p.toNat := by
    obtain ⟨n, hn⟩ := Int.eq_ofNat_of_zero_le (Int.le_of_lt hx)
    rw [hn] at hlt ⊢
    exact bl_le (by exact_mod_cast hlt)
  have := a.b
  omega
/-- its size -/
theorem qr_size {up : Bool} {v : Rat} {p L : Int} {r : Mp} (hp : 1 ≤ p) (hL : 0 ≤ L) (a : QR up v p r) (h0 : v ≠ 0 → q2 (-L) ≤ ab v) (h1 : ab v < q2 L) : r.b ≤ p ∧ -L - p ≤ r.e ∧ r.e ≤ L + 1 := by
  have key : ∀ {dn : Bool} {s M E : Int} {u : Rat}, Cell dn u p M E → CanM s M E r → q2 (-L) ≤ u → u < q2 L → r.b ≤ p ∧ -L - p ≤ r.e ∧ r.e ≤ L + 1 := fun {dn s M E u} c k l h => by
    obtain ⟨x1, x2, x3⟩ := can_bits hp (cell_max (by omega) c) k
    have h2 := q2_lt (a := -L) (b := p + E) (by have := c.hi; grind)
    have h3 := q2_lt (a := p - 1 + E) (b := L) (by have := c.lo; grind)
    omega
  cases a with
  | zero h1 h2 => subst h2; exact ⟨by show (0 : Int) ≤ p; omega, by show -L - p ≤ 0; omega, by show (0 : Int) ≤ L + 1; omega⟩
  | pos h2 c k =>
    have e2 : ab v = v := if_pos (Rat.le_of_lt h2)
    rw [e2] at h0 h1
    exact key c k (h0 (by grind)) h1
  | neg h2 c k =>
    have e2 : ab v = -v := if_neg (by grind)
    rw [e2] at h0 h1
    exact key c k (h0 (by grind)) h1
end Mine
end

section
open PySem
set_option Elab.async false
namespace Mine
theorem sg_val {s m e : Int} : ((sg s m : Int) : Rat) * q2 e = sgR s ((m : Rat) * q2 e) := by
  unfold sg sgR; split
  · rfl
  · rw [Rat.intCast_neg]; grind
theorem rndZ_sg {up : Bool} {s m E p : Int} {r : Mp} (hm : 0 < m) (hs : s = 0 ∨ s = 1) (h : RndZ up (sg s m) E p r) : Rnd up s m E p r := by
  unfold RndZ at h
  have e1 : ((sg s m).natAbs : Int) = m := by unfold sg; split <;> omega
  have e2 : sgn (sg s m) = s := by unfold sg sgn; rcases hs with rfl | rfl <;> simp <;> omega
  rw [e1, e2] at h; exact h
theorem rndZ_exact {up : Bool} {N E p : Int} {r : Mp} (hp : 1 ≤ p) (h : RndZ up N E p r) : QR up ((N : Rat) * q2 E) p r := by
  have h' := rnd_exact (by omega) (by unfold sgn; split <;> simp) hp h
  have : sgR (sgn N) (((N.natAbs : Int) : Rat) * q2 E) = (N : Rat) * q2 E := by
    unfold sgR sgn
    by_cases hn : N < 0
    · rw [if_pos hn, if_neg (by decide)]
      have : (N.natAbs : Int) = -N := by omega
      rw [this, Rat.intCast_neg]; grind
    · rw [if_neg hn, if_pos rfl]
      have : (N.natAbs : Int) = N := by omega
      rw [this]
  rw [this] at h'; exact h'
theorem bl_uniqueI {m : Int} {k : Nat} (h1 : 2 ^ k ≤ m) (h2 : m < 2 ^ (k + 1)) : bl m = k + 1 := by
  have p : (0 : Int) < 2 ^ k := Int.pow_pos (by decide)
  obtain ⟨n, rfl⟩ := Int.eq_ofNat_of_zero_le (show 0 ≤ m by omega)
  exact bl_unique (by exact_mod_cast h1) (by exact_mod_cast h2)
theorem ic1 : ((1 : Int) : Rat) = 1 := rfl
theorem big_add {up : Bool} {s m e p : Int} {r : Mp} {t : Rat} (hm : 0 < m) (hs : s = 0 ∨ s = 1) (hp : 1 ≤ p) (t0 : 0 < t) (t1 : t < q2 e) (t2 : t < q2 (bl m + e - p - 5))
    (h : Rnd up s (m * 2 ^ (p + 4).toNat + 1) (e - (p + 4)) p r) : QR up (sgR s ((m : Rat) * q2 e + t)) p r := by
  obtain ⟨a, b, c⟩ := bl_specI hm
  obtain ⟨P, hP⟩ : ∃ P : Nat, (P : Int) = p := ⟨p.toNat, by omega⟩
  have e1 : (p + 4).toNat = P + 4 := by omega
  rw [e1] at h
  have pA : (2 : Int) ≤ 2 ^ (P + 4) := by have := two_pow_ge P; rw [Int.pow_add]; omega
  have n1 : (2 : Int) ^ (bl m - 1 + (P + 4)) ≤ m * 2 ^ (P + 4) + 1 := by
    rw [Int.pow_add]
    have := Int.mul_le_mul_of_nonneg_right a (Int.le_trans (by decide : (0 : Int) ≤ 2) pA); omega
  have n2 : m * 2 ^ (P + 4) + 1 < (2 : Int) ^ (bl m - 1 + (P + 4) + 1) := by
    have e2 : bl m - 1 + (P + 4) + 1 = bl m + (P + 4) := by omega
    rw [e2, Int.pow_add 2 (bl m) (P + 4)]
    have := Int.mul_le_mul_of_nonneg_right (show m + 1 ≤ 2 ^ bl m by omega) (Int.le_trans (by decide : (0 : Int) ≤ 2) pA)
    rw [Int.add_mul] at this; omega
  have hb := bl_uniqueI n1 n2
  have hN : 0 < m * 2 ^ (P + 4) + 1 := by have := Int.mul_pos hm (show (0 : Int) < 2 ^ (P + 4) by omega); omega
  have qe : e - (p + 4) + ((bl m + 4 : Nat) : Int) = e + bl m - p := by omega
  rcases (by omega : P ≤ bl m ∨ bl m < P) with hc | hc
  · obtain ⟨C, hC⟩ : ∃ C : Nat, bl m = P + C := ⟨bl m - P, by omega⟩
    have pc : (0 : Int) < 2 ^ C := Int.pow_pos (by decide)
    have h1 : m / 2 ^ C * 2 ^ C ≤ m := Int.ediv_mul_le _ (Int.ne_of_gt pc)
    have h2 : m < (m / 2 ^ C + 1) * 2 ^ C := Int.lt_ediv_add_one_mul_self _ pc
    generalize m / 2 ^ C = M at h1 h2
    have e3 : (2 : Int) ^ (bl m + 4) = 2 ^ C * 2 ^ (P + 4) := by rw [← Int.pow_add]; congr 1; omega
    have qe2 : e - (p + 4) + ((bl m + 4 : Nat) : Int) = e + C := by omega
    refine rnd_cell (k := bl m + 4) hN hs hp (by omega) M ?_ ?_ ?_ ?_ (by omega) h
    · rw [e3, ← Int.mul_assoc]
      have := Int.mul_le_mul_of_nonneg_right h1 (show (0 : Int) ≤ 2 ^ (P + 4) by omega); omega
    · rw [e3, ← Int.mul_assoc]
      have := Int.mul_le_mul_of_nonneg_right (show m + 1 ≤ (M + 1) * 2 ^ C by omega) (show (0 : Int) ≤ 2 ^ (P + 4) by omega)
      rw [Int.add_mul m] at this; omega
    · rw [qe2]; have := (scale_q2 (e := e)).2.1 h1; grind
    · rw [qe2]
      have := (scale_q2 (e := e)).2.2.2 (show m + 1 ≤ (M + 1) * 2 ^ C by omega)
      rw [Rat.intCast_add m, ic1] at this; grind
  · obtain ⟨C, hC⟩ : ∃ C : Nat, P = bl m + C := ⟨P - bl m, by omega⟩
    have e3 : (2 : Int) ^ (P + 4) = 2 ^ C * 2 ^ (bl m + 4) := by rw [← Int.pow_add]; congr 1; omega
    have p4 : (2 : Int) ≤ 2 ^ (bl m + 4) := by have := two_pow_ge (bl m); rw [Int.pow_add]; omega
    have qe2 : e - (p + 4) + ((bl m + 4 : Nat) : Int) = e - C := by omega
    refine rnd_cell (k := bl m + 4) hN hs hp (by omega) (m * 2 ^ C) ?_ ?_ ?_ ?_ (by omega) h
    · rw [e3, ← Int.mul_assoc]; omega
    · rw [e3, ← Int.mul_assoc, Int.add_mul]; omega
    · rw [qe2, mul_q2_shift]; grind
    · rw [qe2, Rat.intCast_add, ic1, Rat.add_mul, mul_q2_shift]
      have := q2_le (a := bl m + e - p - 5) (b := e - C) (by omega); grind
theorem big_sub {up : Bool} {s m e p : Int} {r : Mp} {t : Rat} (hm : 0 < m) (ho : m % 2 = 1) (hs : s = 0 ∨ s = 1) (hp : 1 ≤ p) (t0 : 0 < t) (t1 : t < q2 e) (t2 : t < q2 (bl m + e - p - 5))
    (h : Rnd up s (m * 2 ^ (p + 4).toNat - 1) (e - (p + 4)) p r) : QR up (sgR s ((m : Rat) * q2 e - t)) p r := by
  obtain ⟨a, b, c⟩ := bl_specI hm
  obtain ⟨P, hP⟩ : ∃ P : Nat, (P : Int) = p := ⟨p.toNat, by omega⟩
  have e1 : (p + 4).toNat = P + 4 := by omega
  rw [e1] at h
  have pA : (16 : Int) ≤ 2 ^ (P + 4) := by have := two_pow_ge P; rw [Int.pow_add]; omega
  rcases (by omega : m = 1 ∨ 2 ≤ m) with h1 | hm2
  · subst h1
    rw [Int.one_mul] at h
    have e4 : (2 : Int) ^ (P + 4) = 2 * 2 ^ (P + 3) := by rw [← Int.pow_succ']
    have e5 : (2 : Int) ^ (P + 4) = 2 ^ P * 16 := by rw [Int.pow_add]; rfl
    have p3 := two_pow_ge (P + 3)
    have hb := bl_uniqueI (m := 2 ^ (P + 4) - 1) (k := P + 3) (by omega) (by show (2 : Int) ^ (P + 4) - 1 < 2 ^ (P + 4); omega)
    have b1 : bl 1 = 1 := bl_one
    rw [b1] at t2
    have qe2 : e - (p + 4) + ((4 : Nat) : Int) = e - P := by omega
    refine rnd_cell (k := 4) (by omega) hs hp (by omega) (2 ^ P - 1) ?_ ?_ ?_ ?_ (by omega) h
    · rw [e5, Int.sub_mul, show (2 : Int) ^ 4 = 16 from rfl]; omega
    · rw [show (2 : Int) ^ P - 1 + 1 = 2 ^ P by omega, e5, show (2 : Int) ^ 4 = 16 from rfl]; omega
    · rw [qe2, Rat.intCast_sub, ic1, ← q2_nat]
      have h3 : q2 P * q2 (e - P) = q2 e := by rw [← q2_add]; congr 1; omega
      have := q2_le (a := (1 : Nat) + e - p - 5) (b := e - P) (by omega); grind
    · rw [show (2 : Int) ^ P - 1 + 1 = 2 ^ P by omega, qe2, ← q2_nat]
      have h3 : q2 P * q2 (e - P) = q2 e := by rw [← q2_add]; congr 1; omega
      rw [h3, ic1]; grind
  · have a' : (2 : Int) ^ (bl m - 1) + 1 ≤ m := by
      have : (2 : Int) ^ (bl m - 1) ≠ m := fun hh => by
        have h2 : bl m ≠ 1 := fun h => by rw [h] at b; simp at b; omega
        have h5 : (2 : Int) ^ (bl m - 1) = 2 * 2 ^ (bl m - 1 - 1) := by rw [← Int.pow_succ']; congr 1; omega
        omega
      omega
    have n1 : (2 : Int) ^ (bl m - 1 + (P + 4)) ≤ m * 2 ^ (P + 4) - 1 := by
      rw [Int.pow_add]
      have := Int.mul_le_mul_of_nonneg_right a' (show (0 : Int) ≤ 2 ^ (P + 4) by omega)
      rw [Int.add_mul] at this; omega
    have n2 : m * 2 ^ (P + 4) - 1 < (2 : Int) ^ (bl m - 1 + (P + 4) + 1) := by
      have e2 : bl m - 1 + (P + 4) + 1 = bl m + (P + 4) := by omega
      rw [e2, Int.pow_add 2 (bl m) (P + 4)]
      have := Int.mul_le_mul_of_nonneg_right (show m ≤ 2 ^ bl m by omega) (show (0 : Int) ≤ 2 ^ (P + 4) by omega)
      omega
    have hb := bl_uniqueI n1 n2
    have hN : 0 < m * 2 ^ (P + 4) - 1 := by
      have := Int.mul_le_mul_of_nonneg_right (show 1 ≤ m by omega) (show (0 : Int) ≤ 2 ^ (P + 4) by omega); omega
    rcases (by omega : P ≤ bl m ∨ bl m < P) with hc | hc
    · obtain ⟨C, hC⟩ : ∃ C : Nat, bl m = P + C := ⟨bl m - P, by omega⟩
      have pc : (0 : Int) < 2 ^ C := Int.pow_pos (by decide)
      have h1 : (m - 1) / 2 ^ C * 2 ^ C ≤ m - 1 := Int.ediv_mul_le _ (Int.ne_of_gt pc)
      have h2 : m - 1 < ((m - 1) / 2 ^ C + 1) * 2 ^ C := Int.lt_ediv_add_one_mul_self _ pc
      generalize (m - 1) / 2 ^ C = M at h1 h2
      have e3 : (2 : Int) ^ (bl m + 4) = 2 ^ C * 2 ^ (P + 4) := by rw [← Int.pow_add]; congr 1; omega
      have qe2 : e - (p + 4) + ((bl m + 4 : Nat) : Int) = e + C := by omega
      refine rnd_cell (k := bl m + 4) hN hs hp (by omega) M ?_ ?_ ?_ ?_ (by omega) h
      · rw [e3, ← Int.mul_assoc]
        have := Int.mul_le_mul_of_nonneg_right h1 (show (0 : Int) ≤ 2 ^ (P + 4) by omega)
        rw [Int.sub_mul m] at this; omega
      · rw [e3, ← Int.mul_assoc]
        have := Int.mul_le_mul_of_nonneg_right (show m ≤ (M + 1) * 2 ^ C by omega) (show (0 : Int) ≤ 2 ^ (P + 4) by omega)
        omega
      · rw [qe2]; have := (scale_q2 (e := e)).2.1 h1
        rw [Rat.intCast_sub m, ic1] at this; grind
      · rw [qe2]
        have := (scale_q2 (e := e)).2.2.2 (show m ≤ (M + 1) * 2 ^ C by omega); grind
    · obtain ⟨C, hC⟩ : ∃ C : Nat, P = bl m + C := ⟨P - bl m, by omega⟩
      have e3 : (2 : Int) ^ (P + 4) = 2 ^ C * 2 ^ (bl m + 4) := by rw [← Int.pow_add]; congr 1; omega
      have p4 : (2 : Int) ≤ 2 ^ (bl m + 4) := by have := two_pow_ge (bl m); rw [Int.pow_add]; omega
      have qe2 : e - (p + 4) + ((bl m + 4 : Nat) : Int) = e - C := by omega
      refine rnd_cell (k := bl m + 4) hN hs hp (by omega) (m * 2 ^ C - 1) ?_ ?_ ?_ ?_ (by omega) h
      · rw [e3, ← Int.mul_assoc, Int.sub_mul]; omega
      · rw [show m * 2 ^ C - 1 + 1 = m * 2 ^ C by omega, e3, ← Int.mul_assoc]; omega
      · rw [qe2, Rat.intCast_sub, ic1, Rat.sub_eq_add_neg, Rat.add_mul, mul_q2_shift]
        have := q2_le (a := bl m + e - p - 5) (b := e - C) (by omega); grind
      · rw [show m * 2 ^ C - 1 + 1 = m * 2 ^ C by omega, qe2, mul_q2_shift]; grind
theorem sg_add {s a b : Int} : sg s a + sg s b = sg s (a + b) := by unfold sg; split <;> omega
theorem sg_opp {s t a b : Int} (hs : s = 0 ∨ s = 1) (ht : t = 0 ∨ t = 1) (h : s ≠ t) : sg s a + sg t b = sg s (a - b) := by
  rcases hs with rfl | rfl <;> rcases ht with rfl | rfl <;> simp [sg] at * <;> omega
theorem sgR_add {s : Int} {a b : Rat} : sgR s a + sgR s b = sgR s (a + b) := by unfold sgR; split <;> grind
theorem sgR_opp {s t : Int} {a b : Rat} (hs : s = 0 ∨ s = 1) (ht : t = 0 ∨ t = 1) (h : s ≠ t) : sgR s a + sgR t b = sgR s (a - b) := by
  rcases hs with rfl | rfl <;> rcases ht with rfl | rfl <;> simp [sgR] at * <;> grind
theorem big_any {up : Bool} {s t m e p : Int} {r : Mp} {T : Rat} (hm : 0 < m) (ho : m % 2 = 1) (hs : s = 0 ∨ s = 1) (ht : t = 0 ∨ t = 1) (hp : 1 ≤ p) (t0 : 0 < T) (t1 : T < q2 e) (t2 : T < q2 (bl m + e - p - 5))
    (h : RndZ up (sg s (m * 2 ^ (p + 4).toNat) + sg t 1) (e - (p + 4)) p r) : QR up (sgR s ((m : Rat) * q2 e) + sgR t T) p r := by
  have hA : (2 : Int) ≤ m * 2 ^ (p + 4).toNat := by
    have := two_pow_ge ((p + 4).toNat - 1)
    have e1 : (2 : Int) ^ (p + 4).toNat = 2 * 2 ^ ((p + 4).toNat - 1) := by rw [← Int.pow_succ']; congr 1; omega
    have := Int.mul_le_mul_of_nonneg_right (show 1 ≤ m by omega) (show (0 : Int) ≤ 2 ^ (p + 4).toNat by omega); omega
  by_cases hst : s = t
  · subst hst
    rw [sg_add] at h
    rw [sgR_add]
    exact big_add hm hs hp t0 t1 t2 (rndZ_sg (by omega) hs h)
  · rw [sg_opp hs ht hst] at h
    rw [sgR_opp hs ht hst]
    exact big_sub hm ho hs hp t0 t1 t2 (rndZ_sg (by omega) hs h)
theorem bl_hi {m e L : Int} (h : 0 < m) (hL : bl m + e ≤ L) : (m : Rat) * q2 e < q2 L := by
  have := (bl_val h e).2; have := q2_le hL; grind
theorem shift_back {m a b : Int} (h : b ≤ a) : ((m * 2 ^ (a - b).toNat : Int) : Rat) * q2 b = (m : Rat) * q2 a := by
  have := mul_q2_shift (m := m) (e := a) (k := (a - b).toNat)
  have e1 : a - ((a - b).toNat : Int) = b := by omega
  rw [e1] at this; exact this
theorem add_qr {up : Bool} {p : Int} {x y r : Mp} {ts N E : Int} (hx : Can x) (hy : Can y) (hp : 1 ≤ p) (ht : ts = 0 ∨ ts = 1) (bx : x.b ≤ 100) (by' : y.b ≤ 100) (a : AddTo p x y ts N E) (h : RndZ up N E p r) :
    QR up (x.val + sgR ts ((y.m : Rat) * q2 y.e)) p r := by
  obtain ⟨hxs, hxm, hxe, hxb, hxz⟩ := can_facts hx
  obtain ⟨hys, hym, hye, hyb, hyz⟩ := can_facts hy
  have odd : ∀ {z : Mp}, Can z → z.m ≠ 0 → z.m % 2 = 1 := fun {z} c h => by
    rcases c with rfl | c
    · exact absurd rfl h
    · exact c.odd
  unfold Mp.val
  cases a with
  | z1 h0 =>
    have := rndZ_exact hp h
    rw [sg_val] at this
    rw [h0, Rat.intCast_zero, Rat.zero_mul, sgR_zero, Rat.zero_add]; exact this
  | z2 _ h0 =>
    have := rndZ_exact hp h
    rw [sg_val] at this
    rw [h0, Rat.intCast_zero, Rat.zero_mul, sgR_zero, Rat.add_zero]; exact this
  | big1 h1 h2 h3 h4 =>
    have hy0 : 0 < y.m := by omega
    refine big_any (by omega) (odd hx h1) hxs ht hp (Rat.mul_pos (by exact_mod_cast hy0) (q2_pos _)) (bl_hi hy0 (by omega)) (bl_hi hy0 (by omega)) h
  | big2 h1 h2 h3 h4 =>
    have hx0 : 0 < x.m := by omega
    rw [Rat.add_comm]
    refine big_any (by omega) (odd hy h2) ht hxs hp (Rat.mul_pos (by exact_mod_cast hx0) (q2_pos _)) (bl_hi hx0 (by omega)) (bl_hi hx0 (by omega)) h
  | up1 h1 h2 h3 =>
    have := rndZ_exact hp h
    rw [Rat.intCast_add, Rat.add_mul, sg_val, sg_val, shift_back (by omega)] at this
    exact this
  | up2 h1 h2 h3 =>
    have := rndZ_exact hp h
    have e1 : -(x.e - y.e) = y.e - x.e := by omega
    rw [e1, Rat.intCast_add, Rat.add_mul, sg_val, sg_val, shift_back (by omega), Rat.add_comm] at this
    exact this
  | eq h1 h2 h3 =>
    have := rndZ_exact hp h
    rw [Rat.intCast_add, Rat.add_mul, sg_val, sg_val, Rat.add_comm] at this
    rw [h3]; exact this
end Mine
end

section
open PySem PySem.W PySem.Calls PyProof.Rows
set_option Elab.async false
set_option maxRecDepth 100000
namespace Mine

-- expressions
local macro_rules | `(tactic| kaf_pre) => `(tactic| first | refine EvE_name (by rfl) ?_ | refine EvE_glob (by assumption) ?_ | refine EvE_built (by assumption) ?_ | refine EvE_int ?_ | refine EvE_binop ?_ | refine EvE_cmp ?_ | refine EvE_unop ?_ | refine EvE_str ?_ | refine EvE_bool ?_ | refine EvE_call ?_ | refine EvE_meth0 ?_ | refine EvE_meth ?_ | refine EvE_sub ?_ | refine EvE_tuple ?_ | refine EvE_ifexp ?_ | refine EvE_one ?_ | refine EvE_and ?_ | refine EvE_or ?_ | refine EvE_list ?_ | refine EvE_walrus ?_)
-- operators
local macro_rules | `(tactic| kaf_suf) => `(tactic| first | refine bi_add ?_ | refine bi_sub ?_ | refine bi_and ?_ | refine bi_xor ?_ | refine bi_shr (by omega) ?_)
local macro_rules | `(tactic| tb_start) => `(tactic| first | refine cmp_eq ?_ | refine cmp_lt ?_ | refine cmp_gt ?_ | refine cmp_le ?_ | refine cmp_ge ?_ | refine cmp_ne ?_ | refine cmp_eqS ?_ | refine cmp_eq4 ?_)
local macro_rules | `(tactic| kct_strs) => `(tactic| first | refine ib_add ?_ | refine ib_sub ?_ | refine ib_xor ?_ | refine ib_shr (by omega) ?_)
local macro_rules | `(tactic| ktu_off1L) => `(tactic| first | refine un_neg ?_ | refine un_not ?_)
-- tests
local macro_rules | `(tactic| kba_ints) => `(tactic| first | refine EvT_not ?_ | refine EvT_cmp ?_ | refine EvT_and ?_ | refine EvT_and_nil ?_ | refine EvT_or ?_ | refine EvT_or_nil ?_ | refine EvT_name ?_ | refine EvT_call ?_ | refine EvT_sub ?_ | refine EvT_bin ?_)
-- statements
local macro_rules | `(tactic| kcf_m) => `(tactic| first | refine Ex1_if ?_ | refine Ex1_ret ?_ | refine Ex1_assign ?_ | refine Ex1_aug (by rfl) ?_ | refine Ex1_unpack4 ?_ | refine Ex1_unpack2 ?_ | refine Ex1_unpack3 ?_ | refine Ex1_swap ?_ | refine Ex1_assert ?_)
-- calls
local macro_rules | `(tactic| tb_rel) => `(tactic| first | refine call_bits ?_)
-- items
local macro_rules | `(tactic| ktu_offI) => `(tactic| first | refine sub_tup (by decide) (by decide) rfl rfl ?_ | refine sub_list (by decide) (by decide) rfl ?_)
-- a test's two ways: what cannot be goes at once
local macro_rules | `(tactic| krn_off) => `(tactic| ((refine ⟨fun h => ?_, fun h => ?_⟩) <;> first
    | (exact absurd h (by decide))
    | ((simp only [decide_eq_true_eq, decide_eq_false_iff_not, beq_iff_eq, bne_iff_ne, beq_eq_false_iff_ne, bne_eq_false_iff_eq, Bool.not_eq_true', Bool.not_eq_false', Bool.not_true, Bool.not_false, ne_eq, Decidable.not_not, gt_iff_lt, ge_iff_le, Int.not_lt, Int.not_le] at h) <;> (try (exfalso; omega)))
    | skip))
local macro_rules | `(tactic| kbo_bools) => `(tactic| first
    | ((with_reducible show EvE _ _ _ _ _ _ _); kaf_pre)
    | ((with_reducible show BinW _ _ _ _ _ _ _); kaf_suf) | ((with_reducible show CmpW _ _ _ _ _ _ _); tb_start) | ((with_reducible show InpW _ _ _ _ _ _ _); kct_strs)
    | ((with_reducible show Ex1 _ _ _ _ _ _ _); kcf_m)
    | ((with_reducible show ExS _ _ _ _ _ _ _); (first | refine ExS_cons ?_ | refine ExS_nil ?_))
    | ((with_reducible show EvT _ _ _ _ _ _ _); kba_ints)
    | ((with_reducible show EvL _ _ _ _ _ _ _ _); (first | refine EvL_cons ?_ | refine EvL_nil ?_))
    | ((with_reducible show UnW _ _ _ _ _ _); ktu_off1L)
    | ((with_reducible show CallW _ _ _ _ _ _); tb_rel)
    | ((with_reducible show SubW _ _ _ _ _ _ _ _); ktu_offI)
    | ((with_reducible show (_ = true → _) ∧ (_ = false → _)); krn_off)
    | ((with_reducible show (_ = false → _) ∧ (_ = true → _)); krn_off)
    | ((with_reducible show _ = true ∧ _); refine ⟨?_, ?_⟩)
    | ((with_reducible show ∃ b, TruthIs _ b ∧ _); refine ⟨_, rfl, ?_⟩)
    | ((with_reducible show List.length _ ≤ 1000 ∧ _); refine ⟨by simp only [List.length_cons, List.length_nil]; decide, ?_⟩)
    | ((with_reducible show ∃ fv, V.raw _ = V.raw fv ∧ _); refine ⟨_, rfl, by assumption, ?_⟩)
    | ((with_reducible show ∃ id, MethIs _ _ _ id ∧ _); refine ⟨_, meth_bits, ?_⟩)
    | ((with_reducible show ∃ a, _); (first | refine ⟨_, _, _, _, rfl, ?_⟩ | refine ⟨_, _, rfl, ?_⟩ | refine ⟨_, _, _, rfl, ?_⟩)))

section
variable {S : Sy} {d : Nat} {X : Prop}
local macro_rules | `(tactic| kaf_suf) => `(tactic| refine bi_pow (by decide) (by decide) ?_)
theorem sign_call (F : Facts S) {x : Mp} {P : V → Prop} (hx : Can x) (h0 : x.m = 0 → P (.int 0)) (h1 : x.m ≠ 0 → P (.int (if x.s = 0 then 1 else -1))) :
    CallW S (d + 1) (.raw (gl S "mpf_sign")) [x.v] P X := by
  have f1 := F.g_finf
  have f2 := F.g_fninf
  rcases hx with rfl | hx
  · have h0 := h0 rfl
    clear h1
    unfold Mp.v
    dsimp only
    refine CallW_def (d := d) F.f29 _ _ (binds_29_1 F.f29 _) (by decide) (by decide) (by decide) rfl rfl rfl ?_
    repeat' kbo_bools
    all_goals exact h0
  · have hm := hx.pos
    have h1 := h1 (Int.ne_of_gt hm)
    have hs := hx.s
    clear h0
    obtain ⟨xs, xm, xe, xb⟩ := x
    unfold Mp.v
    dsimp only at *
    rcases hs with rfl | rfl
    · refine CallW_def (d := d) F.f29 _ _ (binds_29_1 F.f29 _) (by decide) (by decide) (by decide) rfl rfl rfl ?_
      repeat' kbo_bools
      all_goals exact h1
    · refine CallW_def (d := d) F.f29 _ _ (binds_29_1 F.f29 _) (by decide) (by decide) (by decide) rfl rfl rfl ?_
      repeat' kbo_bools
      all_goals exact h1

theorem val_nonneg {x : Mp} (hx : Can x) (hs : x.s = 0) : 0 ≤ x.val := by
  obtain ⟨_, hxm, _⟩ := can_facts hx
  unfold Mp.val
  rw [hs]
  exact Rat.mul_nonneg (by exact_mod_cast hxm) (Rat.le_of_lt (q2_pos _))
/-- what a comparison may answer -/
structure CmpEnds (x y : Mp) (P : V → Prop) : Prop where
  ge : ∀ c : Int, 0 ≤ c → y.val ≤ x.val → P (.int c)
  lt : ∀ c : Int, c < 0 → x.val < y.val → P (.int c)
local macro_rules | `(tactic| kaf_suf) => `(tactic| first | refine bi_add ?_ | refine bi_sub ?_)
theorem cmp_call (F : Facts S) {x y : Mp} {P : V → Prop} (hx : Can x) (hy : Can y) (sx : x.s = 0) (sy : y.s = 0) (bx : x.b ≤ 100) (by' : y.b ≤ 100)
    (ex : -100000 ≤ x.e ∧ x.e ≤ 100000) (ey : -100000 ≤ y.e ∧ y.e ≤ 100000) (h : CmpEnds x y P) :
    CallW S (d + 6) (.raw (gl S "mpf_cmp")) [x.v, y.v] P X := by
  have f1 := F.g_fzero
  have f2 := F.f29.glob'
  have f3 := F.f29.can
  have f4 := F.g_round_floor
  have f5 := F.f31.glob'
  have f6 := F.f31.can
  obtain ⟨hge, hlt⟩ := h
  have vx := val_nonneg hx sx
  have vy := val_nonneg hy sy
  rcases hx with rfl | hx
  · rw [val_zero] at *
    rcases hy with rfl | hy
    · rw [val_zero] at *
      have e1 := hge (-0) (by decide) Rat.le_refl
      have g : CallW S (d + 5) (.raw (gl S "mpf_sign")) [Mp.zero.v] (fun r => r = .int 0) X := sign_call F (.inl rfl) (fun _ => rfl) (fun h => absurd rfl h)
      clear hge hlt vx vy
      unfold Mp.v at *
      dsimp only at *
      refine CallW_def (d := d + 5) F.f24 _ _ (binds_24_2 F.f24 _ _) (by decide) (by decide) (by decide) rfl rfl rfl ?_
      repeat' (first | kbo_bools | (refine g.mono (fun r hr => ?_); subst hr))
      all_goals exact e1
    · have hm := hy.pos
      have vy' : 0 < y.val := by
        unfold Mp.val; rw [sy]; exact Rat.mul_pos (by exact_mod_cast hm) (q2_pos _)
      have e1 := hlt (-1) (by decide) vy'
      have g : CallW S (d + 5) (.raw (gl S "mpf_sign")) [y.v] (fun r => r = .int 1) X := sign_call F (.inr hy) (fun h => absurd h (Int.ne_of_gt hm)) (fun _ => by rw [if_pos sy])
      clear hge hlt vx vy vy' hy
      obtain ⟨ys, ym, ye, yb⟩ := y
      unfold Mp.v at *
      dsimp only at *
      refine CallW_def (d := d + 5) F.f24 _ _ (binds_24_2 F.f24 _ _) (by decide) (by decide) (by decide) rfl rfl rfl ?_
      repeat' (first | kbo_bools | (refine g.mono (fun r hr => ?_); subst hr))
      all_goals exact e1
  · have hxm := hx.pos
    rcases hy with rfl | hy
    · rw [val_zero] at *
      have e1 := hge 1 (by decide) vx
      have g : CallW S (d + 5) (.raw (gl S "mpf_sign")) [x.v] (fun r => r = .int 1) X := sign_call F (.inr hx) (fun h => absurd h (Int.ne_of_gt hxm)) (fun _ => by rw [if_pos sx])
      clear hge hlt vx vy hx
      obtain ⟨xs, xm, xe, xb⟩ := x
      unfold Mp.v at *
      dsimp only at *
      refine CallW_def (d := d + 5) F.f24 _ _ (binds_24_2 F.f24 _ _) (by decide) (by decide) (by decide) rfl rfl rfl ?_
      repeat' (first | kbo_bools | (refine g.mono (fun r hr => ?_); subst hr))
      all_goals exact e1
    · have hym := hy.pos
      have bxx := hx.b
      have byy := hy.b
      -- what is known of the values
      have k1 : x.e = y.e → x.m > y.m → y.val ≤ x.val := fun h1 h2 => by
        unfold Mp.val; rw [sx, sy, h1]; exact le_mul_q2 _ (by omega)
      have k2 : x.e = y.e → x.m < y.m → x.val < y.val := fun h1 h2 => by
        unfold Mp.val; rw [sx, sy, h1]; exact lt_mul_q2 _ (by omega)
      have k3 : x.e = y.e → x.m = y.m → y.val ≤ x.val := fun h1 h2 => by
        unfold Mp.val; rw [sx, sy, h1, h2]; exact Rat.le_refl
      have k4 : x.b + x.e < y.b + y.e → x.val < y.val := fun h1 => by
        unfold Mp.val; rw [sx, sy]
        have := (bl_val hxm x.e).2
        have := (bl_val hym y.e).1
        have := q2_le (a := bl x.m + x.e) (b := bl y.m - 1 + y.e) (by omega)
        show (x.m : Rat) * q2 x.e < (y.m : Rat) * q2 y.e
        grind
      have k5 : x.b + x.e > y.b + y.e → y.val ≤ x.val := fun h1 => by
        unfold Mp.val; rw [sx, sy]
        have := (bl_val hym y.e).2
        have := (bl_val hxm x.e).1
        have := q2_le (a := bl y.m + y.e) (b := bl x.m - 1 + x.e) (by omega)
        show (y.m : Rat) * q2 y.e ≤ (x.m : Rat) * q2 x.e
        grind
      have g : CallW S (d + 5) (.raw (gl S "mpf_sub")) [x.v, y.v, .int 5, .str "f"] (fun r => ∃ s m e b, r = .tup [.int s, .int m, .int e, .int b] ∧ (s = 0 → y.val ≤ x.val) ∧ (s ≠ 0 → x.val < y.val)) X := by
        refine sub_call F ?_
        refine add_all (up := false) F (.inr hx) (.inr hy) (by decide) (.inr ⟨rfl, rfl⟩) (by omega) (by omega) ex ey (by decide) fun N E ha r hr => ?_
        have q := add_qr (.inr hx) (.inr hy) (by decide) (by omega) bx by' ha hr
        have e1 : sgR (1 - y.s) ((y.m : Rat) * q2 y.e) = -y.val := by
          unfold Mp.val; rw [sy]; rfl
        rw [e1] at q
        obtain ⟨q1, q2⟩ := qr_sign q
        refine ⟨r.s, r.m, r.e, r.b, rfl, fun h => ?_, fun h => ?_⟩
        · rcases Rat.le_total (a := y.val) (b := x.val) with h' | h'
          · exact h'
          · by_cases h2 : x.val + -y.val < 0
            · have := q2 h2; omega
            · grind
        · by_cases h2 : x.val + -y.val < 0
          · grind
          · have := q1 (by grind); exact absurd this h
      have c1 := fun h1 h2 => hge 1 (by decide) (k1 h1 h2)
      have c2 := fun h1 h2 => hlt (-1) (by decide) (k2 h1 h2)
      have c3 := fun h1 h2 => hge 0 (by decide) (k3 h1 h2)
      have c4 := fun h1 => hlt (-1) (by decide) (k4 h1)
      have c5 := fun h1 => hge 1 (by decide) (k5 h1)
      have c6 : Hid (y.val ≤ x.val → P (.int 1)) := ⟨fun h1 => hge 1 (by decide) h1⟩
      have c7 : Hid (x.val < y.val → P (.int (-1))) := ⟨fun h1 => hlt (-1) (by decide) h1⟩
      clear hge hlt vx vy hx hy k1 k2 k3 k4 k5 bxx byy
      generalize x.val = vx at *
      generalize y.val = vy at *
      obtain ⟨xs, xm, xe, xb⟩ := x
      obtain ⟨ys, ym, ye, yb⟩ := y
      unfold Mp.v at *
      dsimp only at *
      subst sx sy
      refine CallW_def (d := d + 5) F.f24 _ _ (binds_24_2 F.f24 _ _) (by decide) (by decide) (by decide) rfl rfl rfl ?_
      repeat' (first | kbo_bools | (refine g.mono (fun r hr => ?_); obtain ⟨s, m, e, b, rfl, g1, g2⟩ := hr; replace g1 := Hid.mk g1; replace g2 := Hid.mk g2))
      all_goals first
        | exact c1 (by omega) (by omega)
        | exact c2 (by omega) (by omega)
        | exact c3 (by omega) (by omega)
        | exact c4 (by omega)
        | exact c5 (by omega)
        | exact c6.out (g1.out (by omega))
        | exact c7.out (g2.out (by omega))

theorem ge_call (F : Facts S) {x y : Mp} {P : V → Prop} (hx : Can x) (hy : Can y) (sx : x.s = 0) (sy : y.s = 0) (bx : x.b ≤ 100) (by' : y.b ≤ 100)
    (ex : -100000 ≤ x.e ∧ x.e ≤ 100000) (ey : -100000 ≤ y.e ∧ y.e ≤ 100000) (h1 : y.val ≤ x.val → P (.bool true)) (h0 : x.val < y.val → P (.bool false)) :
    CallW S (d + 7) (.raw (gl S "mpf_ge")) [x.v, y.v] P X := by
  have f1 := F.g_fnan
  have f2 := F.f24.glob'
  have f3 := F.f24.can
  have nx : ¬(x.s = 0 ∧ x.m = 0 ∧ x.e = -123 ∧ x.b = -1) := fun ⟨_, a, b, _⟩ => by have := (can_facts hx).2.2.1 a; omega
  have ny : ¬(y.s = 0 ∧ y.m = 0 ∧ y.e = -123 ∧ y.b = -1) := fun ⟨_, a, b, _⟩ => by have := (can_facts hy).2.2.1 a; omega
  have g : CallW S (d + 6) (.raw (gl S "mpf_cmp")) [x.v, y.v] (fun r => ∃ c : Int, r = .int c ∧ P (.bool (decide (c ≥ 0)))) X := by
    refine cmp_call F hx hy sx sy bx by' ex ey ⟨fun c hc hv => ⟨c, rfl, ?_⟩, fun c hc hv => ⟨c, rfl, ?_⟩⟩
    · rw [decide_eq_true hc]; exact h1 hv
    · rw [decide_eq_false (by omega)]; exact h0 hv
  obtain ⟨xs, xm, xe, xb⟩ := x
  obtain ⟨ys, ym, ye, yb⟩ := y
  clear h1 h0 hx hy
  unfold Mp.v at *
  dsimp only at *
  have nx' := decide_eq_false nx
  have ny' := decide_eq_false ny
  clear nx ny
  refine CallW_def (d := d + 6) F.f25 _ _ (binds_25_2 F.f25 _ _) (by decide) (by decide) (by decide) rfl rfl rfl ?_
  repeat' (first | (with_reducible show (_ = false → _) ∧ (_ = true → _); refine ⟨fun h => ?_, fun h => ?_⟩) | (with_reducible show (_ = true → _) ∧ (_ = false → _); refine ⟨fun h => ?_, fun h => ?_⟩) | kbo_bools | (refine g.mono (fun r hr => ?_); obtain ⟨c, rfl, g1⟩ := hr; replace g1 := Hid.mk g1))
  all_goals first
    | exact g1.out
    | contradiction
    | (rename_i hh; rw [nx'] at hh; cases hh)
    | (rename_i hh; rw [ny'] at hh; cases hh)
    | (rename_i hh _; rw [nx'] at hh; cases hh)
    | (rename_i hh _; rw [ny'] at hh; cases hh)
    | skip
local macro_rules | `(tactic| tb_rel) => `(tactic| assumption)
/-- the greater of two that are not below nought -/
theorem max_walk (F : Facts S) {x y : Mp} {P : V → Prop} (hx : Can x) (hy : Can y) (sx : x.s = 0) (sy : y.s = 0) (bx : x.b ≤ 100) (by' : y.b ≤ 100)
    (ex : -100000 ≤ x.e ∧ x.e ≤ 100000) (ey : -100000 ≤ y.e ∧ y.e ≤ 100000) (h1 : y.val ≤ x.val → P x.v) (h0 : x.val < y.val → P y.v) :
    CallW S (d + 8) (.raw (gl S "MAX")) [x.v, y.v] P X := by
  have f2 := F.f25.glob'
  have f3 := F.f25.can
  have g : CallW S (d + 7) (.raw (gl S "mpf_ge")) [x.v, y.v] (fun r => ∃ b, r = .bool b ∧ (b = true → P x.v) ∧ (b = false → P y.v)) X :=
    ge_call F hx hy sx sy bx by' ex ey (fun h => ⟨true, rfl, fun _ => h1 h, fun h => (by cases h)⟩) (fun h => ⟨false, rfl, fun h => (by cases h), fun _ => h0 h⟩)
  refine CallW_def (d := d + 7) F.f40 _ _ (binds_40_2 F.f40 _ _) (by decide) (by decide) (by decide) rfl rfl rfl ?_
  repeat' (first | (refine g.mono (fun r hr => ?_); obtain ⟨c, rfl, g1, g2⟩ := hr) | (with_reducible show (_ = true → _) ∧ (_ = false → _); refine ⟨fun h => ?_, fun h => ?_⟩) | kbo_bools)
  · exact g1 (by assumption)
  · exact g2 (by assumption)
end

end Mine
end

section
open PySem PySem.StrLaws PySem.Builtin.Str
set_option Elab.async false
namespace Mine
abbrev cp (x : Str) : List Nat := x.cps.toList
def T (l : List Nat) : Str := ⟨l.toArray⟩
theorem cp_T (l : List Nat) : cp (T l) = l := rfl
theorem T_cp (x : Str) : T (cp x) = x := by obtain ⟨a⟩ := x; simp [T]
theorem cp_inj {x y : Str} (h : cp x = cp y) : x = y := by rw [← T_cp x, ← T_cp y, h]
theorem cp_append (x y : Str) : cp (x ++ y) = cp x ++ cp y := by
  show (x ++ y).cps.toList = _; rw [Str.cps_append, Array.toList_append]
theorem T_append (a b : List Nat) : T a ++ T b = T (a ++ b) := cp_inj (by rw [cp_append]; rfl)
theorem len_T (l : List Nat) : (T l).length = l.length := by simp [T, Str.length]
theorem len_cp (x : Str) : x.length = (cp x).length := by simp [Str.length]

/-! one sign between -/
def J (c : Nat) : List (List Nat) → List Nat
  | [] => []
  | [a] => a
  | a :: b :: r => a ++ c :: J c (b :: r)
theorem cp_join (c : Nat) : ∀ ps : List Str, cp (Str.join ⟨#[c]⟩ ps) = J c (ps.map cp)
  | [] => rfl
  | [a] => rfl
  | a :: b :: r => by
    show cp (a ++ ⟨#[c]⟩ ++ Str.join ⟨#[c]⟩ (b :: r)) = cp a ++ c :: J c (cp b :: r.map cp)
    rw [cp_append, cp_append, cp_join c (b :: r), List.append_assoc]; rfl
theorem J_cons (c : Nat) (a : List Nat) (r : List (List Nat)) : ∃ t, J c (a :: r) = a ++ t ∧ ((r = [] ∧ t = []) ∨ (r ≠ [] ∧ t = c :: J c r)) := by
  cases r with
  | nil => exact ⟨[], by simp [J], .inl ⟨rfl, rfl⟩⟩
  | cons b r => exact ⟨_, rfl, .inr ⟨by simp, rfl⟩⟩
theorem upto {c : Nat} {a t : List Nat} (ha : c ∉ a) (ht : t = [] ∨ ∃ r, t = c :: r) : (a ++ t).takeWhile (· != c) = a := by
  induction a with
  | nil =>
    rcases ht with rfl | ⟨r, rfl⟩
    · rfl
    · simp [List.takeWhile]
  | cons x a ih =>
    have hx : (x != c) = true := by simp; rintro rfl; exact ha (.head _)
    rw [List.cons_append, List.takeWhile_cons, hx]
    simp only [if_true]
    rw [ih fun h => ha (.tail _ h)]
theorem J_unique (c : Nat) : ∀ ps qs : List (List Nat), ps ≠ [] → qs ≠ [] → (∀ p ∈ ps, c ∉ p) → (∀ q ∈ qs, c ∉ q) → J c ps = J c qs → ps = qs
  | [], _, h, _, _, _, _ => absurd rfl h
  | _ :: _, [], _, h, _, _, _ => absurd rfl h
  | a :: ps, b :: qs, _, _, hp, hq, e => by
    obtain ⟨t, e1, h1⟩ := J_cons c a ps
    obtain ⟨u, e2, h2⟩ := J_cons c b qs
    rw [e1, e2] at e
    have ha := upto (t := t) (hp a (.head _)) (by rcases h1 with ⟨_, h⟩ | ⟨_, h⟩ <;> simp [h])
    have hb := upto (t := u) (hq b (.head _)) (by rcases h2 with ⟨_, h⟩ | ⟨_, h⟩ <;> simp [h])
    have eab : a = b := by rw [← ha, ← hb, e]
    subst eab
    have et := List.append_cancel_left e
    rcases h1 with ⟨rfl, rfl⟩ | ⟨n1, rfl⟩ <;> rcases h2 with ⟨rfl, rfl⟩ | ⟨n2, rfl⟩
    · rfl
    · cases et
    · cases et
    · injection et with _ et
      rw [J_unique c ps qs n1 n2 (fun p h => hp p (.tail _ h)) (fun q h => hq q (.tail _ h)) et]
theorem split_ne (x y : Str) : Txt.split x y ≠ [] := by
  unfold Txt.split
  split
  · simp
  · split
    · simp
    · rw [partsBetween_eq]
      obtain ⟨p, r, e⟩ := partsFrom_ne x y.length 0 (occurrences x y 0 x.length (x.length + 1))
      rw [e]; simp
theorem split_is {x : Str} {c : Nat} {ls : List (List Nat)} (hne : ls ≠ []) (hf : ∀ l ∈ ls, c ∉ l) (hx : cp x = J c ls) : Txt.split x ⟨#[c]⟩ = ls.map T := by
  have e1 : J c ((Txt.split x ⟨#[c]⟩).map cp) = J c ls := by rw [← cp_join, join_split, hx]
  have e2 := J_unique c _ ls (by simp [split_ne]) hne (fun p hp => by
    obtain ⟨q, hq, rfl⟩ := List.mem_map.mp hp
    exact split_free x c q hq) hf e1
  rw [← e2, List.map_map]
  have : (T ∘ cp) = id := funext fun x => T_cp x
  rw [this, List.map_id]
theorem split_none {x : Str} {c : Nat} (h : c ∉ cp x) : Txt.split x ⟨#[c]⟩ = [x] := by
  have := split_is (x := x) (c := c) (ls := [cp x]) (by simp) (by simpa using h) rfl
  rw [this]; simp [T_cp]
theorem split_two {x : Str} {c : Nat} {a b : List Nat} (ha : c ∉ a) (hb : c ∉ b) (h : cp x = a ++ c :: b) : Txt.split x ⟨#[c]⟩ = [T a, T b] :=
  split_is (ls := [a, b]) (by simp) (by simp [ha, hb]) h
theorem parts_le (x : Str) (c : Nat) : (partsBetween x (occurrences x ⟨#[c]⟩ 0 x.length (x.length + 1)) (⟨#[c]⟩ : Str).length).length ≤ x.length + 2 := by
  have := occ_length_le x ⟨#[c]⟩ 0 x.length (x.length + 1)
  unfold partsBetween
  simp; omega
theorem parts_le' (x y : Str) : (partsBetween x (occurrences x y 0 x.length (x.length + 1)) y.length).length ≤ x.length + 2 := by
  have := occ_length_le x y 0 x.length (x.length + 1)
  unfold partsBetween
  simp; omega

/-! taking a sign out -/
theorem J_filter (c : Nat) : ∀ ls : List (List Nat), (∀ l ∈ ls, c ∉ l) → (J c ls).filter (· != c) = ls.flatten
  | [], _ => rfl
  | [a], h => by
    rw [List.flatten_cons, List.flatten_nil, List.append_nil]
    exact List.filter_eq_self.mpr fun x hx => by simp; rintro rfl; exact h a (.head _) hx
  | a :: b :: r, h => by
    show (a ++ c :: J c (b :: r)).filter _ = _
    rw [List.filter_append, List.filter_cons, J_filter c (b :: r) fun l hl => h l (.tail _ hl)]
    have e1 : a.filter (· != c) = a := List.filter_eq_self.mpr fun x hx => by simp; rintro rfl; exact h a (.head _) hx
    rw [e1]; simp
theorem join_empty : ∀ ps : List Str, cp (Str.join Str.empty ps) = (ps.map cp).flatten
  | [] => rfl
  | [a] => by simp [Str.join]
  | a :: b :: r => by
    show cp (a ++ Str.empty ++ Str.join Str.empty (b :: r)) = cp a ++ ((b :: r).map cp).flatten
    rw [Str.append_empty, cp_append, join_empty (b :: r)]
theorem replace_out (x : Str) (c : Nat) : Txt.replace x ⟨#[c]⟩ Str.empty = T ((cp x).filter (· != c)) := by
  have key : ∀ ps : List Str, Str.join ⟨#[c]⟩ ps = x → (∀ p ∈ ps, c ∉ cp p) → Str.join Str.empty ps = T ((cp x).filter (· != c)) := fun ps h1 h2 => by
    refine cp_inj ?_
    rw [join_empty, cp_T, ← h1, cp_join, J_filter c _ fun l hl => by
      obtain ⟨q, hq, rfl⟩ := List.mem_map.mp hl
      exact h2 q hq]
  have hs := join_split x ⟨#[c]⟩
  have hf := split_free x c
  have k := key _ hs hf
  unfold Txt.split at k hs hf
  unfold Txt.replace
  by_cases h1 : (occurrences x ⟨#[c]⟩ 0 x.length (x.length + 1)).isEmpty = true
  · rw [h1]
    simp only [Bool.true_or, if_true]
    rw [h1] at k
    simp only [if_true, ite_self] at k
    exact k
  · have e : ((occurrences x ⟨#[c]⟩ 0 x.length (x.length + 1)).isEmpty || ((⟨#[c]⟩ : Str).length == 0 && Str.empty.length == 0)) = false := by
      simp only [Bool.not_eq_true] at h1; rw [h1]; rfl
    rw [e]
    simp only [Bool.false_eq_true, if_false]
    rw [glued_eq_join]
    by_cases h2 : (decide (x.length < (⟨#[c]⟩ : Str).length) || decide (strKind x < strKind ⟨#[c]⟩)) = true
    · exfalso
      have n := PySem.W.occ_nil_of_no x ⟨#[c]⟩ (x.length + 1) fun i hi => by
        rcases Bool.or_eq_true_iff.mp h2 with h | h
        · have := of_decide_eq_true h; omega
        · cases e : subAt x ⟨#[c]⟩ i
          · rfl
          · have := PySem.W.kind_le x ⟨#[c]⟩ e; have := of_decide_eq_true h; omega
      rw [n] at h1; exact h1 rfl
    · rw [if_neg h2, if_neg h1] at k; exact k
theorem replace_id {x : Str} {c : Nat} (h : c ∉ cp x) : Txt.replace x ⟨#[c]⟩ Str.empty = x := by
  rw [replace_out, List.filter_eq_self.mpr, T_cp]
  intro a ha; simp; rintro rfl; exact h ha

/-! in -/
theorem contains_one (x : Str) (c : Nat) : Txt.contains x ⟨#[c]⟩ = decide (c ∈ cp x) := found_one x c
theorem contains_no {x y : Str} {c : Nat} (hy : c ∈ cp y) (hx : c ∉ cp x) : Txt.contains x y = false := by
  unfold Txt.contains
  refine Bool.eq_false_iff.mpr fun h => ?_
  obtain ⟨i, _, h2⟩ := (found_iff x y).mp h
  rw [subAt_eq] at h2
  have e := eq_of_beq h2
  exact hx (List.mem_of_mem_drop (List.mem_of_mem_take (show c ∈ List.take y.length (List.drop _ x.cps.toList) from by rw [e]; exact hy)))
theorem subAt_mid {x y : Str} {a b : List Nat} (h : cp x = a ++ cp y ++ b) : a.length + y.length ≤ x.length ∧ subAt x y a.length = true := by
  refine ⟨by rw [len_cp x, len_cp y, h]; simp, ?_⟩
  rw [subAt_eq, show x.cps.toList = a ++ cp y ++ b from h, List.append_assoc, List.drop_left]
  have : y.length = (cp y).length := len_cp y
  rw [this, List.take_left]; simp
theorem contains_mid {x y : Str} {a b : List Nat} (h : cp x = a ++ cp y ++ b) : Txt.contains x y = true := (found_iff x y).mpr ⟨_, subAt_mid h⟩
theorem occ_some (s sub : Str) (hi lim : Nat) : ∀ (l : List Nat) (free : Nat), (∀ i ∈ l, free ≤ i) → (∃ i ∈ l, i + sub.length ≤ hi ∧ subAt s sub i = true) → (forIn l ((#[] : Array Nat), free) (occBody s sub hi (lim + 1))).run.fst ≠ #[]
  | [], _, _, ⟨_, h, _⟩ => by cases h
  | a :: l, free, hf, ⟨i, hi', h1, h2⟩ => by
    rw [List.forIn_cons]
    unfold occBody
    split
    · exact occ_grows s sub hi (lim + 1) l _ (by simp)
    · rename_i hc
      refine occ_some s sub hi lim l free (fun j hj => hf j (.tail _ hj)) ?_
      rcases List.mem_cons.mp hi' with rfl | hm
      · exact absurd ⟨⟨⟨by simp, hf i (.head _)⟩, h1⟩, h2⟩ hc
      · exact ⟨i, hm, h1, h2⟩
theorem occ_ne {x y : Str} (i : Nat) (h1 : i + y.length ≤ x.length) (h2 : subAt x y i = true) : occurrences x y 0 x.length (x.length + 1) ≠ [] := by
  rw [occ_eq]
  have := occ_some x y x.length x.length (List.range' 0 (x.length + 1 - 0)) 0 (fun _ _ => Nat.zero_le _) ⟨i, by simp [List.mem_range']; omega, h1, h2⟩
  simpa using this
theorem cnt_parts {c : Nat} {y : Str} : ∀ ps : List Str, (cp (Str.join y ps)).count c = (ps.map fun p => (cp p).count c).sum + (ps.length - 1) * (cp y).count c
  | [] => by simp [Str.join, Str.empty]
  | [a] => by simp [Str.join]
  | a :: b :: r => by
    show (cp (a ++ y ++ Str.join y (b :: r))).count c = _
    rw [cp_append, cp_append, List.count_append, List.count_append, cnt_parts (b :: r)]
    have e : (a :: b :: r).length - 1 = (b :: r).length - 1 + 1 := by simp
    rw [e, Nat.add_mul, Nat.one_mul]; simp only [List.map_cons, List.sum_cons]; omega
theorem split_pm {x y : Str} {c : Nat} {a b : List Nat} (hy : (cp y).count c = 1) (ha : c ∉ a) (hb : c ∉ b) (h : cp x = a ++ cp y ++ b) : Txt.split x y = [T a, T b] := by
  obtain ⟨h1, h2⟩ := subAt_mid h
  have hj := join_split x y
  have hk : ¬ (decide (x.length < y.length) || decide (strKind x < strKind y)) = true := fun h => by
    rcases Bool.or_eq_true_iff.mp h with h | h
    · have := of_decide_eq_true h; omega
    · have := PySem.W.kind_le x y h2; have := of_decide_eq_true h; omega
  have ho := occ_ne _ h1 h2
  have hl : 2 ≤ (Txt.split x y).length := by
    unfold Txt.split
    rw [if_neg hk, if_neg (by simpa using ho)]
    unfold partsBetween
    have : 1 ≤ (occurrences x y 0 x.length (x.length + 1)).length := by
      cases hq : occurrences x y 0 x.length (x.length + 1) with
      | nil => exact absurd hq ho
      | cons _ _ => simp
    simp; omega
  have hc := cnt_parts (c := c) (y := y) (Txt.split x y)
  rw [hj, h, List.count_append, List.count_append, hy, List.count_eq_zero_of_not_mem ha, List.count_eq_zero_of_not_mem hb] at hc
  match hsp : Txt.split x y, hl, hc, hj with
  | [p, q], _, hc, hj =>
    simp only [List.map_cons, List.map_nil, List.sum_cons, List.sum_nil, List.length_cons, List.length_nil] at hc
    have hp : c ∉ cp p := fun hm => by have := List.count_pos_iff.mpr hm; omega
    have hq : c ∉ cp q := fun hm => by have := List.count_pos_iff.mpr hm; omega
    have e : cp p ++ cp y ++ cp q = a ++ cp y ++ b := by rw [← h, ← hj]; show _ = cp (p ++ y ++ q); rw [cp_append, cp_append]
    have em : c ∈ cp y := List.count_pos_iff.mp (by omega)
    obtain ⟨y1, y2, ey⟩ := List.append_of_mem em
    have hy1 : c ∉ y1 := fun hm => by
      rw [ey, List.count_append, List.count_cons_self] at hy
      have := List.count_pos_iff.mpr hm; omega
    rw [ey] at e
    have e1 : (cp p ++ y1) ++ c :: (y2 ++ cp q) = (a ++ y1) ++ c :: (y2 ++ b) := by simpa using e
    have u1 := upto (c := c) (a := cp p ++ y1) (t := c :: (y2 ++ cp q)) (by simp [hp, hy1]) (.inr ⟨_, rfl⟩)
    have u2 := upto (c := c) (a := a ++ y1) (t := c :: (y2 ++ b)) (by simp [ha, hy1]) (.inr ⟨_, rfl⟩)
    rw [e1, u2] at u1
    have ea : a = cp p := List.append_cancel_right u1
    have eb : cp q = b := by
      rw [← ea] at e1
      have := List.append_cancel_left e1
      injection this with _ this
      exact List.append_cancel_left this
    rw [ea, ← eb, T_cp, T_cp]
  | p :: q :: r :: rest, _, hc, _ =>
    exfalso
    simp only [List.map_cons, List.sum_cons, List.length_cons] at hc
    omega

/-! other methods -/
theorem lower_id {x : Str} (h : ∀ c ∈ cp x, c < 65 ∨ (90 < c ∧ c < 128)) : Txt.lower x = x := by
  rw [PyProof.Rows.lower_ascii fun c hc => by have := h c hc; omega]
  have e : x.cps.map PyProof.Rows.lo1 = x.cps := by
    apply Array.toList_inj.mp
    rw [Array.toList_map]
    conv => rhs; rw [← List.map_id x.cps.toList]
    refine List.map_congr_left fun c hc => ?_
    have := h c hc
    unfold PyProof.Rows.lo1
    rw [if_neg (by omega)]; rfl
  rw [e]
theorem takeWhile_none {p : Nat → Bool} : ∀ {l : List Nat}, (∀ c ∈ l, p c = false) → l.takeWhile p = []
  | [], _ => rfl
  | a :: l, h => by rw [List.takeWhile_cons, h a (.head _)]; rfl
theorem stripBy_id {g : Nat → Bool} {l r : Bool} {x : Str} (h : ∀ c ∈ cp x, g c = false) : Txt.stripBy g l r x = x := by
  unfold Txt.stripBy
  rw [if_pos]
  have e1 : stripLo g l x = 0 := by unfold stripLo; rw [takeWhile_none h]; simp
  unfold stripSame
  rw [e1]
  unfold stripHi
  rw [List.drop_zero, takeWhile_none fun c hc => h c (List.mem_reverse.mp hc)]
  simp
theorem strip_id {x : Str} (h : ∀ c ∈ cp x, Unicode.isSpace c = false) : Txt.strip x = x := stripBy_id h
theorem rstripC_id {x : Str} {k : Nat} (h : k ∉ cp x) : Txt.rstripChars x ⟨#[k]⟩ = x := stripBy_id fun c hc => by
  show (#[k] : Array Nat).contains c = false
  simp; rintro rfl; exact h hc
def cutZ (l : List Nat) : List Nat := (l.reverse.dropWhile (· == 48)).reverse
theorem rstripZ (l : List Nat) : Txt.rstripChars (T l) ⟨#[48]⟩ = T (cutZ l) := by
  have hg : (#[48] : Array Nat).contains = (· == 48) := by funext c; simp; rfl
  show Txt.stripBy (#[48] : Array Nat).contains false true (T l) = _
  rw [PyProof.Rows.stripBy_eq, hg]
  apply cp_inj
  show (strSub (T l) 0 _).cps.toList = cutZ l
  rw [strSub_toList]
  show (l.drop 0).take ((T l).length - ((l.drop 0).reverse.takeWhile (· == 48)).length - 0) = cutZ l
  rw [List.drop_zero, Nat.sub_zero, len_T]
  unfold cutZ
  have e : l.reverse.takeWhile (· == 48) ++ l.reverse.dropWhile (· == 48) = l.reverse := List.takeWhile_append_dropWhile
  have e2 : l = (l.reverse.dropWhile (· == 48)).reverse ++ (l.reverse.takeWhile (· == 48)).reverse := by
    rw [← List.reverse_append, e, List.reverse_reverse]
  have e3 : l.length - (l.reverse.takeWhile (· == 48)).length = (l.reverse.dropWhile (· == 48)).reverse.length := by
    have := congrArg List.length e; rw [List.length_append, List.length_reverse] at this; rw [List.length_reverse]; omega
  rw [e3]
  conv => lhs; arg 2; rw [e2]
  rw [List.take_left]
theorem starts_no {x y : Str} {c : Nat} (hy : c ∈ cp y) (hx : c ∉ cp x) : Txt.startswith x y = false := by
  unfold Txt.startswith
  refine Bool.eq_false_iff.mpr fun h => ?_
  obtain ⟨_, h2⟩ := Bool.and_eq_true_iff.mp h
  rw [subAt_eq] at h2
  have e := eq_of_beq h2
  exact hx (List.mem_of_mem_drop (List.mem_of_mem_take (show c ∈ List.take y.length (List.drop _ x.cps.toList) from by rw [e]; exact hy)))
theorem slice_to {l : List Nat} {j : Int} (h : 0 ≤ j ∧ j ≤ l.length) : Txt.slice (T l) none (some j) = T (l.take j.toNat) := by
  have := sliceText_to (x := T l) (j := j) h
  show sliceText (T l) none (some j) = _
  rw [this]; show T _ = _
  congr 1
  show (l.drop 0).take (j - 0).toNat = _
  rw [List.drop_zero, Int.sub_zero]
theorem slice_from {l : List Nat} {j : Int} (h : 0 ≤ j ∧ j ≤ l.length) : Txt.slice (T l) (some j) none = T (l.drop j.toNat) := by
  have := sliceText_from (x := T l) (i := j) h
  show sliceText (T l) (some j) none = _
  rw [this]; show T _ = _
  congr 1
  show (l.drop j.toNat).take _ = _
  refine List.take_of_length_le ?_
  rw [List.length_drop]; show _ ≤ ((l.length : Int) - j).toNat; omega
end Mine
end

section
open PySem
set_option Elab.async false
namespace Mine
def q10 (e : Int) : Rat := (10 : Rat) ^ e
theorem q10_pos (e : Int) : 0 < q10 e := Rat.zpow_pos (by decide)
theorem q10_add (a b : Int) : q10 (a + b) = q10 a * q10 b := Rat.zpow_add (by decide) a b
theorem q10_nat (k : Nat) : q10 k = ((10 ^ k : Int) : Rat) := by
  unfold q10; rw [Rat.zpow_natCast, Rat.intCast_pow]; rfl
theorem q10_inv (k : Nat) : q10 (-(k : Int)) * ((10 ^ k : Int) : Rat) = 1 := by
  rw [← q10_nat, ← q10_add]
  have : -(k : Int) + k = 0 := by omega
  rw [this]; rfl
/-- the quotient, rounded -/
theorem div_qrX {up : Bool} {p : Int} {D : Int} {x y r : Mp} {k : Nat} (hD : 0 < D) (hx : Nz x) (hy : CanM 0 D 0 y) (hp : 1 ≤ p) (hk : x.b + k ≥ p + y.b + 5)
    (h : if x.m * 2 ^ k % y.m = 0 then Rnd up x.s (x.m * 2 ^ k / y.m) (x.e - y.e - k) p r else Rnd up x.s (x.m * 2 ^ k / y.m * 2 + 1) (x.e - y.e - k - 1) p r) (v : Rat) (hv : v * (D : Rat) = x.val) : QR up v p r := by
  have xs : x.s = 0 ∨ x.s = 1 := hx.s
  have xm := hx.pos
  have ym := hy.pos
  obtain ⟨t', y1, y2⟩ := hy.ex
  have px : (0 : Rat) < (x.m : Rat) := by exact_mod_cast xm
  have py : (0 : Rat) < (y.m : Rat) := by exact_mod_cast ym
  have pD : (0 : Rat) < (D : Rat) := by exact_mod_cast hD
  -- the magnitude
  obtain ⟨u, hu⟩ : ∃ u : Rat, u * (y.m : Rat) = (x.m : Rat) * ((2 ^ k : Int) : Rat) := ⟨(x.m : Rat) * ((2 ^ k : Int) : Rat) / (y.m : Rat), Rat.div_mul_cancel (Rat.ne_of_gt py)⟩
  have eD : (D : Rat) = (y.m : Rat) * q2 y.e := by
    rw [y1, y2, Rat.intCast_mul, ← q2_nat]; congr 2; omega
  have eu : u * q2 (x.e - y.e - k) * (D : Rat) = (x.m : Rat) * q2 x.e := by
    have e2 : q2 (x.e - y.e - k) * q2 y.e * q2 k = q2 x.e := by rw [← q2_add, ← q2_add]; congr 1; omega
    rw [eD, ← e2]
    have := q2_nat k
    rw [← this] at hu
    grind
  have ev : v = sgR x.s (u * q2 (x.e - y.e - k)) := by
    have c : ∀ a b : Rat, a * (D : Rat) = b * (D : Rat) → a = b := fun a b h => by
      rcases Rat.le_total (a := a) (b := b) with h1 | h1
      · refine Rat.le_antisymm h1 (Rat.le_of_mul_le_mul_right ?_ pD); rw [h]; exact Rat.le_refl
      · refine Rat.le_antisymm (Rat.le_of_mul_le_mul_right ?_ pD) h1; rw [h]; exact Rat.le_refl
    refine c _ _ ?_
    rw [hv]
    unfold Mp.val sgR
    split
    · exact eu.symm
    · rw [Rat.neg_mul, eu]
  have hm := Int.mul_ediv_add_emod (x.m * 2 ^ k) y.m
  have r0 := Int.emod_nonneg (x.m * 2 ^ k) (Int.ne_of_gt ym)
  have r1 := Int.emod_lt_of_pos (x.m * 2 ^ k) ym
  obtain ⟨a1, a2, a3⟩ := bl_specI xm
  obtain ⟨b1, b2, b3⟩ := bl_specI ym
  have bx := hx.b
  have by' := hy.b
  -- the quotient is long enough
  obtain ⟨j, hj⟩ : ∃ j : Nat, (bl x.m - 1 + k : Nat) = bl y.m + j := ⟨bl x.m - 1 + k - bl y.m, by omega⟩
  have hq : (2 : Int) ^ j ≤ x.m * 2 ^ k / y.m := by
    refine Int.le_ediv_of_mul_le ym ?_
    have pj : (0 : Int) < 2 ^ j := Int.pow_pos (by decide)
    have pk : (0 : Int) < 2 ^ k := Int.pow_pos (by decide)
    have h1 := Int.mul_le_mul_of_nonneg_left (Int.le_of_lt b2) (Int.le_of_lt pj)
    have h2 := Int.mul_le_mul_of_nonneg_right a1 (Int.le_of_lt pk)
    have h3 : (2 : Int) ^ j * 2 ^ bl y.m = 2 ^ (bl x.m - 1) * 2 ^ k := by rw [← Int.pow_add, ← Int.pow_add]; congr 1; omega
    omega
  generalize hQ : x.m * 2 ^ k / y.m = q at *
  generalize hR : x.m * 2 ^ k % y.m = rr at *
  have hu' : u * (y.m : Rat) = (y.m : Rat) * (q : Rat) + (rr : Rat) := by
    rw [hu, ← Rat.intCast_mul, ← hm, Rat.intCast_add, Rat.intCast_mul]
  have pj : (0 : Int) < 2 ^ j := Int.pow_pos (by decide)
  rw [ev]
  by_cases hr : rr = 0
  · rw [if_pos hr] at h
    have := rnd_exact (by omega) xs hp h
    have e : u = (q : Rat) := by
      rw [hr, Rat.intCast_zero, Rat.add_zero] at hu'
      have c : u * (y.m : Rat) = (q : Rat) * (y.m : Rat) := by rw [hu', Rat.mul_comm]
      rcases Rat.le_total (a := u) (b := q) with h1 | h1
      · refine Rat.le_antisymm h1 (Rat.le_of_mul_le_mul_right ?_ py); rw [c]; exact Rat.le_refl
      · refine Rat.le_antisymm (Rat.le_of_mul_le_mul_right ?_ py) h1; rw [c]; exact Rat.le_refl
    rw [e]; exact this
  · rw [if_neg hr] at h
    have e1 : q2 (x.e - y.e - k) = 2 * q2 (x.e - y.e - k - 1) := by rw [← q2_succ]; congr 1; omega
    have rp : (0 : Rat) < (rr : Rat) := by have : 0 < rr := by omega
                                           exact_mod_cast this
    have rl : (rr : Rat) < (y.m : Rat) := by exact_mod_cast r1
    have lo : (q : Rat) < u := by
      refine Rat.lt_of_mul_lt_mul_right (c := (y.m : Rat)) ?_ (Rat.le_of_lt py)
      rw [hu']; grind
    have hi : u < (q : Rat) + 1 := by
      refine Rat.lt_of_mul_lt_mul_right (c := (y.m : Rat)) ?_ (Rat.le_of_lt py)
      rw [hu']; grind
    have qp := q2_pos (x.e - y.e - k - 1)
    have bN : p < bl (q * 2 + 1) := by
      have h1 : (2 : Int) ^ (j + 1) ≤ q * 2 + 1 := by rw [Int.pow_succ]; omega
      rcases Nat.lt_or_ge (j + 1) (bl (q * 2 + 1)) with h2 | h2
      · omega
      · exfalso
        have h3 := (bl_specI (m := q * 2 + 1) (by omega)).2.1
        have h4 : (2 : Int) ^ bl (q * 2 + 1) ≤ 2 ^ (j + 1) := by
          have h4 : (2 : Int) ^ (j + 1) = 2 ^ bl (q * 2 + 1) * 2 ^ (j + 1 - bl (q * 2 + 1)) := by rw [← Int.pow_add]; congr 1; omega
          have h5 := two_pow_ge (j + 1 - bl (q * 2 + 1))
          have h6 := two_pow_ge (bl (q * 2 + 1))
          have h7 := Int.mul_le_mul_of_nonneg_left h5 (show (0 : Int) ≤ 2 ^ bl (q * 2 + 1) by omega)
          omega
        omega
    rw [e1]
    refine rnd_odd (N := q * 2 + 1) (by omega) (by omega) xs hp bN ?_ ?_ h
    · have e : ((q * 2 + 1 - 1 : Int) : Rat) = (q : Rat) * 2 := by
        rw [show q * 2 + 1 - 1 = q * 2 by omega, Rat.intCast_mul]; rfl
      rw [e]
      have := Rat.mul_lt_mul_of_pos_right lo qp; grind
    · have e : ((q * 2 + 1 + 1 : Int) : Rat) = ((q : Rat) + 1) * 2 := by
        rw [show q * 2 + 1 + 1 = (q + 1) * 2 by omega, Rat.intCast_mul, Rat.intCast_add]; rfl
      rw [e]
      have := Rat.mul_lt_mul_of_pos_right hi qp; grind
theorem div_qr {up : Bool} {p : Int} {n D : Int} {x y r : Mp} {k : Nat} (hn : n ≠ 0) (hD : 0 < D) (hx : CanM (sgn n) n.natAbs 0 x) (hy : CanM 0 D 0 y) (hp : 1 ≤ p) (hk : x.b + k ≥ p + y.b + 5)
    (h : if x.m * 2 ^ k % y.m = 0 then Rnd up x.s (x.m * 2 ^ k / y.m) (x.e - y.e - k) p r else Rnd up x.s (x.m * 2 ^ k / y.m * 2 + 1) (x.e - y.e - k - 1) p r) (v : Rat) (hv : v * (D : Rat) = (n : Rat)) : QR up v p r :=
  div_qrX hD (hx.nz (by unfold sgn; split <;> simp)) hy hp hk h v (by
    have : Ex n 0 x := by unfold Ex; rw [if_neg hn]; exact hx
    rw [hv, ex_val this, q2_zero, Rat.mul_one])
end Mine
end

section
open PySem
set_option Elab.async false
namespace Mine
/-- a value of moderate size -/
structure Sz (L : Int) (v : Rat) : Prop where
  lo : v ≠ 0 → q2 (-L) ≤ ab v
  hi : ab v < q2 L
theorem ab_nonneg (v : Rat) : 0 ≤ ab v := by unfold ab; split <;> grind
theorem ab_zero_iff {v : Rat} : ab v = 0 ↔ v = 0 := by unfold ab; split <;> constructor <;> intro h <;> grind
theorem ab_mul (a b : Rat) : ab (a * b) = ab a * ab b := by
  unfold ab
  by_cases ha : 0 ≤ a <;> by_cases hb : 0 ≤ b
  · rw [if_pos ha, if_pos hb, if_pos (Rat.mul_nonneg ha hb)]
  · rw [if_pos ha, if_neg hb]
    have h := Rat.mul_nonneg ha (show 0 ≤ -b by grind)
    by_cases h2 : 0 ≤ a * b
    · rw [if_pos h2]; grind
    · rw [if_neg h2]; grind
  · rw [if_neg ha, if_pos hb]
    have h := Rat.mul_nonneg (show 0 ≤ -a by grind) hb
    by_cases h2 : 0 ≤ a * b
    · rw [if_pos h2]; grind
    · rw [if_neg h2]; grind
  · rw [if_neg ha, if_neg hb]
    have h := Rat.mul_nonneg (show 0 ≤ -a by grind) (show 0 ≤ -b by grind)
    rw [if_pos (by grind)]; grind
theorem Sz.mono {L M : Int} {v : Rat} (h : L ≤ M) (s : Sz L v) : Sz M v := ⟨fun h0 => by
  have := s.lo h0; have := q2_le (a := -M) (b := -L) (by omega); grind, by have := s.hi; have := q2_le h; grind⟩
theorem Sz.mul {L M : Int} {a b : Rat} (x : Sz L a) (y : Sz M b) : Sz (L + M) (a * b) := by
  refine ⟨fun h0 => ?_, ?_⟩
  · have ha : a ≠ 0 := fun h => h0 (by rw [h, Rat.zero_mul])
    have hb : b ≠ 0 := fun h => h0 (by rw [h, Rat.mul_zero])
    have e : -(L + M) = -L + -M := by omega
    rw [ab_mul, e, q2_add]
    have h1 := Rat.mul_le_mul_of_nonneg_right (x.lo ha) (Rat.le_of_lt (q2_pos (-M)))
    have h2 := Rat.mul_le_mul_of_nonneg_left (y.lo hb) (ab_nonneg a)
    grind
  · rw [ab_mul, q2_add]
    have h1 := Rat.mul_le_mul_of_nonneg_left (Rat.le_of_lt y.hi) (ab_nonneg a)
    have h2 := Rat.mul_lt_mul_of_pos_right x.hi (q2_pos M)
    grind
theorem qr_ab {up : Bool} {v : Rat} {p : Int} {r : Mp} (hp : 1 ≤ p) (a : QR up v p r) : (v = 0 → r.val = 0) ∧ (v ≠ 0 → r.val ≠ 0 ∧ ab v ≤ 2 * ab r.val ∧ ab r.val ≤ 2 * ab v) := by
  have key : ∀ {dn : Bool} {M E : Int} {u : Rat}, Cell dn u p M E → 0 < (M : Rat) * q2 E ∧ u ≤ 2 * ((M : Rat) * q2 E) ∧ (M : Rat) * q2 E ≤ 2 * u := fun {dn M E u} c => by
    obtain ⟨P, hP⟩ : ∃ P : Nat, (P : Int) = p - 1 := ⟨(p - 1).toNat, by omega⟩
    have lo := c.lo
    have hi := c.hi
    rw [← hP, q2_add, q2_nat] at lo
    have e2 : q2 (p + E) = 2 * (((2 ^ P : Int) : Rat) * q2 E) := by
      have : p + E = ((P : Int) + E) + 1 := by omega
      rw [this, q2_succ, q2_add, q2_nat]
    rw [e2] at hi
    have hM : (2 : Int) ^ P ≤ M := by
      cases dn with
      | true => have := (c.d rfl).2; have := mul_q2_le (a := 2 ^ P) (b := M + 1) (E := E) (by grind); omega
      | false =>
        have := (c.c rfl).2
        rcases Int.lt_or_le M (2 ^ P) with h | h
        · have := lt_mul_q2 E h; grind
        · exact h
    have hM2 := cell_max (by omega) c
    have e3 : (2 : Int) ^ p.toNat = 2 * 2 ^ P := by rw [← Int.pow_succ']; congr 1; omega
    rw [e3] at hM2
    have m1 := le_mul_q2 E hM
    have m2 := le_mul_q2 E hM2
    rw [Rat.intCast_mul] at m2
    have e4 : ((2 : Int) : Rat) = 2 := rfl
    rw [e4] at m2
    have pp : (0 : Rat) < ((2 ^ P : Int) : Rat) * q2 E := Rat.mul_pos (by exact_mod_cast (Int.pow_pos (by decide) : (0 : Int) < 2 ^ P)) (q2_pos E)
    refine ⟨by grind, by grind, by grind⟩
  cases a with
  | zero h1 h2 => subst h2; exact ⟨fun _ => val_zero, fun h => absurd h1 h⟩
  | pos h1 c k =>
    obtain ⟨k1, k2, k3⟩ := key c
    refine ⟨fun h => by grind, fun _ => ?_⟩
    have e1 : ab v = v := if_pos (Rat.le_of_lt h1)
    rw [canM_val k, e1]
    have e2 : ∀ z : Rat, sgR 0 z = z := fun z => rfl
    rw [e2]
    unfold ab
    rw [if_pos (Rat.le_of_lt k1)]
    exact ⟨by grind, k2, k3⟩
  | neg h1 c k =>
    obtain ⟨k1, k2, k3⟩ := key c
    refine ⟨fun h => by grind, fun _ => ?_⟩
    have e1 : ab v = -v := if_neg (by grind)
    rw [canM_val k, e1]
    have e2 : ∀ z : Rat, sgR 1 z = -z := fun z => rfl
    rw [e2]
    unfold ab
    rw [if_neg (by grind)]
    exact ⟨by grind, by grind, by grind⟩
theorem Sz.qr {up : Bool} {v : Rat} {p L : Int} {r : Mp} (hp : 1 ≤ p) (s : Sz L v) (a : QR up v p r) : Sz (L + 1) r.val := by
  obtain ⟨h1, h2⟩ := qr_ab hp a
  by_cases h0 : v = 0
  · rw [h1 h0]
    exact ⟨fun h => absurd rfl h, by rw [ab_zero_iff.mpr rfl]; exact q2_pos _⟩
  · obtain ⟨k1, k2, k3⟩ := h2 h0
    have := s.lo h0
    have := s.hi
    refine ⟨fun _ => ?_, ?_⟩
    · have e : q2 (-L) = 2 * q2 (-(L + 1)) := by rw [← q2_succ]; congr 1; omega
      grind
    · rw [q2_succ]; grind
/-- what is needed of a float's parts -/
theorem Sz.parts {up : Bool} {v : Rat} {p L : Int} {r : Mp} (hp : 1 ≤ p) (hL : 0 ≤ L) (s : Sz L v) (a : QR up v p r) : r.b ≤ p ∧ -L - p ≤ r.e ∧ r.e ≤ L + 1 := qr_size hp hL a s.lo s.hi
theorem Sz.div100 {L : Int} {v w : Rat} (s : Sz L v) (h : w * 100 = v) : Sz (L + 7) w := by
  have e : ab v = ab w * 100 := by rw [← h, ab_mul]; rfl
  refine ⟨fun h0 => ?_, ?_⟩
  · have hv : v ≠ 0 := fun hv => h0 (by grind)
    have h1 := s.lo hv
    have e2 : q2 (-L) = q2 (-(L + 7)) * q2 7 := by rw [← q2_add]; congr 1; omega
    have e3 : q2 7 = 128 := by have := q2_nat 7; exact this
    have := q2_pos (-(L + 7))
    rw [e2, e3] at h1; grind
  · have h1 := s.hi
    have := ab_nonneg w
    have := q2_le (a := L) (b := L + 7) (by omega)
    grind
end Mine
end

section
open PySem PySem.W PySem.Calls PyProof.Rows
set_option Elab.async false
set_option maxRecDepth 100000
namespace Mine

-- expressions
local macro_rules | `(tactic| kaf_pre) => `(tactic| first | refine EvE_name (by rfl) ?_ | refine EvE_glob (by assumption) ?_ | refine EvE_built (by assumption) ?_ | refine EvE_int ?_ | refine EvE_binop ?_ | refine EvE_cmp ?_ | refine EvE_unop ?_ | refine EvE_str ?_ | refine EvE_bool ?_ | refine EvE_call ?_ | refine EvE_meth0 ?_ | refine EvE_meth ?_ | refine EvE_sub ?_ | refine EvE_tuple ?_ | refine EvE_ifexp ?_ | refine EvE_one ?_ | refine EvE_and ?_ | refine EvE_or ?_ | refine EvE_list ?_ | refine EvE_walrus ?_)
-- operators
local macro_rules | `(tactic| kaf_suf) => `(tactic| first | refine bi_add ?_ | refine bi_sub ?_ | refine bi_and ?_ | refine bi_xor ?_ | refine bi_shr (by omega) ?_)
local macro_rules | `(tactic| tb_start) => `(tactic| first | refine cmp_eq ?_ | refine cmp_lt ?_ | refine cmp_gt ?_ | refine cmp_le ?_ | refine cmp_ge ?_ | refine cmp_ne ?_ | refine cmp_eqS ?_ | refine cmp_eq4 ?_)
local macro_rules | `(tactic| kct_strs) => `(tactic| first | refine ib_add ?_ | refine ib_sub ?_ | refine ib_xor ?_ | refine ib_shr (by omega) ?_)
local macro_rules | `(tactic| ktu_off1L) => `(tactic| first | refine un_neg ?_ | refine un_not ?_)
-- tests
local macro_rules | `(tactic| kba_ints) => `(tactic| first | refine EvT_not ?_ | refine EvT_cmp ?_ | refine EvT_and ?_ | refine EvT_and_nil ?_ | refine EvT_or ?_ | refine EvT_or_nil ?_ | refine EvT_name ?_ | refine EvT_call ?_ | refine EvT_sub ?_ | refine EvT_bin ?_)
-- statements
local macro_rules | `(tactic| kcf_m) => `(tactic| first | refine Ex1_if ?_ | refine Ex1_ret ?_ | refine Ex1_assign ?_ | refine Ex1_aug (by rfl) ?_ | refine Ex1_unpack4 ?_ | refine Ex1_unpack2 ?_ | refine Ex1_unpack3 ?_ | refine Ex1_swap ?_ | refine Ex1_assert ?_)
-- calls
local macro_rules | `(tactic| tb_rel) => `(tactic| first | refine call_bits ?_)
-- items
local macro_rules | `(tactic| ktu_offI) => `(tactic| first | refine sub_tup (by decide) (by decide) rfl rfl ?_ | refine sub_list (by decide) (by decide) rfl ?_)
-- a test's two ways: what cannot be goes at once
local macro_rules | `(tactic| krn_off) => `(tactic| ((refine ⟨fun h => ?_, fun h => ?_⟩) <;> first
    | (exact absurd h (by decide))
    | ((simp only [decide_eq_true_eq, decide_eq_false_iff_not, beq_iff_eq, bne_iff_ne, beq_eq_false_iff_ne, bne_eq_false_iff_eq, Bool.not_eq_true', Bool.not_eq_false', Bool.not_true, Bool.not_false, ne_eq, Decidable.not_not, gt_iff_lt, ge_iff_le, Int.not_lt, Int.not_le] at h) <;> (try (exfalso; omega)))
    | skip))
local macro_rules | `(tactic| kbo_bools) => `(tactic| first
    | ((with_reducible show EvE _ _ _ _ _ _ _); kaf_pre)
    | ((with_reducible show BinW _ _ _ _ _ _ _); kaf_suf) | ((with_reducible show CmpW _ _ _ _ _ _ _); tb_start) | ((with_reducible show InpW _ _ _ _ _ _ _); kct_strs)
    | ((with_reducible show Ex1 _ _ _ _ _ _ _); kcf_m)
    | ((with_reducible show ExS _ _ _ _ _ _ _); (first | refine ExS_cons ?_ | refine ExS_nil ?_))
    | ((with_reducible show EvT _ _ _ _ _ _ _); kba_ints)
    | ((with_reducible show EvL _ _ _ _ _ _ _ _); (first | refine EvL_cons ?_ | refine EvL_nil ?_))
    | ((with_reducible show UnW _ _ _ _ _ _); ktu_off1L)
    | ((with_reducible show CallW _ _ _ _ _ _); tb_rel)
    | ((with_reducible show SubW _ _ _ _ _ _ _ _); ktu_offI)
    | ((with_reducible show (_ = true → _) ∧ (_ = false → _)); krn_off)
    | ((with_reducible show (_ = false → _) ∧ (_ = true → _)); krn_off)
    | ((with_reducible show _ = true ∧ _); refine ⟨?_, ?_⟩)
    | ((with_reducible show ∃ b, TruthIs _ b ∧ _); refine ⟨_, rfl, ?_⟩)
    | ((with_reducible show List.length _ ≤ 1000 ∧ _); refine ⟨by simp only [List.length_cons, List.length_nil]; decide, ?_⟩)
    | ((with_reducible show ∃ fv, V.raw _ = V.raw fv ∧ _); refine ⟨_, rfl, by assumption, ?_⟩)
    | ((with_reducible show ∃ id, MethIs _ _ _ id ∧ _); refine ⟨_, meth_bits, ?_⟩)
    | ((with_reducible show ∃ a, _); (first | refine ⟨_, _, _, _, rfl, ?_⟩ | refine ⟨_, _, rfl, ?_⟩ | refine ⟨_, _, _, rfl, ?_⟩)))

section
variable {S : Sy} {d : Nat} {X : Prop}
theorem pow10_bl (k : Nat) : bl ((10 : Int) ^ k) ≤ 4 * k + 1 := by
  have h : (10 : Nat) ^ k < 2 ^ (4 * k + 1) := by
    have h1 : (10 : Nat) ^ k ≤ 16 ^ k := Nat.pow_le_pow_left (by decide) k
    have h2 : (2 : Nat) ^ (4 * k + 1) = 16 ^ k * 2 := by rw [Nat.pow_succ, Nat.pow_mul]
    have h3 : 0 < (16 : Nat) ^ k := Nat.pow_pos (by decide)
    omega
  have e : ((10 : Int) ^ k) = ((10 ^ k : Nat) : Int) := by simp
  rw [e]; exact bl_le h
theorem two_mod5 (t : Nat) : (2 : Int) ^ t % 5 ≠ 0 := by
  induction t with
  | zero => decide
  | succ t ih => rw [Int.pow_succ]; omega
theorem pow10_odd {k t : Nat} (hk : 1 ≤ k) (h : (10 : Int) ^ k = 1 * 2 ^ t) : False := by
  have h1 : (10 : Int) ^ k = 10 * 10 ^ (k - 1) := by rw [← Int.pow_succ']; congr 1; omega
  have := two_mod5 t
  omega
theorem canM_b {s M e : Int} {x : Mp} (c : CanM s M e x) : x.b ≤ bl M := by
  obtain ⟨t, h1, _⟩ := c.ex
  have := c.b
  have h2 := bl_shiftI (m := x.m) (t := t) c.pos
  rw [h1, h2]; omega
theorem fr_val (F : Facts S) {up : Bool} {a p : Int} {k : Nat} {P : V → Prop} (hk : 1 ≤ k) (hk2 : k ≤ 1000) (ha : a.natAbs < 2 ^ 1000) (hp : 1 ≤ p) (hp2 : p ≤ 10000) (h : ∀ r, QR up ((a : Rat) * q10 (-(k : Int))) p r → P r.v) :
    CallW S (d + 5) (.raw (gl S "from_rational")) [.int a, .int (10 ^ k), .int p, .str (rn up)] P X := by
  have pD : (0 : Int) < 10 ^ k := Int.pow_pos (by decide)
  refine fr_call F fun x y hx hy => ?_
  unfold Ex at hx hy
  rw [if_neg (by omega)] at hy
  have e1 : sgn ((10 : Int) ^ k) = 0 := if_neg (by omega)
  have e2 : ((((10 : Int) ^ k).natAbs : Nat) : Int) = 10 ^ k := by omega
  rw [e1, e2] at hy
  have ny : Nz y := hy.nz (.inl rfl)
  by_cases h0 : a = 0
  · rw [if_pos h0] at hx
    subst hx
    have : P Mp.zero.v := h _ (.zero (by rw [h0, Rat.intCast_zero, Rat.zero_mul]) rfl)
    exact div_zero (d := d + 3) F ny this
  · rw [if_neg h0] at hx
    have hs : sgn a = 0 ∨ sgn a = 1 := by unfold sgn; split <;> simp
    have bx := canM_b hx
    have by' := canM_b hy
    have hb10 := pow10_bl k
    have hba : bl (a.natAbs : Int) ≤ 1000 := bl_le ha
    refine div_walk F (hx.nz hs) ny hy.s (fun h1 => ?_) hp hp2 (by omega) (by omega) fun k' r hk' hr => h r ?_
    · obtain ⟨t, h2, _⟩ := hy.ex
      rw [h1] at h2; exact pow10_odd hk h2
    · refine div_qr h0 pD hx hy hp hk' hr _ ?_
      rw [Rat.mul_assoc, q10_inv, Rat.mul_one]
theorem fi_val (F : Facts S) {up : Bool} {n p : Int} {P : V → Prop} (hp : 1 ≤ p) (h : ∀ r, QR up (n : Rat) p r → P r.v) : CallW S (d + 5) (.raw (gl S "from_int")) [.int n, .int p, .str (rn up)] P X := by
  refine fi_call F hp fun r hr => h r ?_
  have := rndZ_exact hp hr
  rw [q2_zero, Rat.mul_one] at this; exact this
theorem mulok_small {a b : Int} (h : bl a + bl b ≤ 100000) : IntMulOk a b := by
  unfold IntMulOk
  have : Builtin.Int.intTooBig ((Builtin.Int.intBits a : Int) + Builtin.Int.intBits b) = false := by
    unfold Builtin.Int.intTooBig
    refine decide_eq_false ?_
    show ¬ ((bl a : Int) + (bl b : Int) > 2 ^ 27)
    omega
  rw [this]; simp
/-- what str_to_man_exp meets -/
structure Num1 (x : Str) (man ev : Int) where
  x1 : Str
  x3 : Str
  hx : x.length ≤ 300
  h1 : x1.length ≤ 300
  h3 : x3.length ≤ 300
  low : Txt.lower x = x
  rs : Txt.rstripChars x "l" = x
  rp : Txt.replace x "_" "" = x
  hm : PySem.intText? x3 = some man
  ex : (x1 = x ∧ Txt.split x "e" = [x] ∧ ev = 0) ∨ ∃ x2 : Str, Txt.split x "e" = [x1, x2] ∧ PySem.intText? x2 = some ev ∧ x2.length ≤ 300
def KIs (x : Str) (x1 x3 : Str) (k : Int) : Prop := (Txt.split x1 "." = [x1] ∧ x3 = x1 ∧ k = 0) ∨ ∃ a b b' : Str, Txt.split x1 "." = [a, b] ∧ Txt.rstripChars b "0" = b' ∧ (a == ("" : Str)) = false ∧ a ++ b' = x3 ∧ k = b'.length ∧ a.length ≤ 300 ∧ b.length ≤ 300 ∧ b'.length ≤ 300

local macro_rules | `(tactic| kaf_pre) => `(tactic| first | refine EvE_name (by rfl) ?_ | refine EvE_glob (by with_reducible assumption) ?_ | refine EvE_built (by with_reducible assumption) ?_ | refine EvE_int ?_ | refine EvE_binop ?_ | refine EvE_cmp ?_ | refine EvE_unop ?_ | refine EvE_str ?_ | refine EvE_bool ?_ | refine EvE_call ?_ | refine EvE_methW0 ?_ | ((with_reducible show EvE _ _ _ (Expr.Call (Expr.Attribute _ (Str.ofString "replace") _) [Expr.Constant (Const.str _) _ _, Expr.Constant (Const.str _) _ _] [] _) _ _ _); refine EvE_replace' ?_) | refine EvE_methW ?_ | refine EvE_sub ?_ | refine EvE_tuple ?_ | refine EvE_ifexp ?_ | refine EvE_one ?_ | refine EvE_and ?_ | refine EvE_or ?_ | refine EvE_list ?_ | refine EvE_walrus ?_)
local macro_rules | `(tactic| kcf_m) => `(tactic| first | refine Ex1_if ?_ | refine Ex1_ret ?_ | refine Ex1_assign ?_ | refine Ex1_aug (by rfl) ?_ | ((with_reducible show Ex1 _ _ _ (Stmt.Assign [Expr.Tuple [Expr.Name _ _, Expr.Name _ _] _ _] (Expr.Tuple _ _ _) _) _ _ _); refine Ex1_swap2 ?_) | refine Ex1_unpackA2 ?_ | refine Ex1_assert ?_)
local macro_rules | `(tactic| tb_start) => `(tactic| first | refine cmp_eq ?_ | refine cmp_lt ?_ | refine cmp_gt ?_ | refine cmp_le ?_ | refine cmp_ge ?_ | refine cmp_ne ?_ | refine cmp_eqSb (by with_reducible assumption) ?_ | refine cmp_neSb (by with_reducible assumption) ?_ | refine cmp_eqS ?_ | refine cmp_neS ?_ | refine cmp_in (by with_reducible assumption) ?_ | refine cmp_notin (by with_reducible assumption) ?_)
local macro_rules | `(tactic| kaf_suf) => `(tactic| first | refine bi_add ?_ | refine bi_sub ?_ | refine bi_addSb (by omega) (by omega) (by with_reducible assumption) ?_)
local macro_rules | `(tactic| tb_rel) => `(tactic| first | refine call_bits ?_ | refine call_lower (by omega) (by with_reducible assumption) ?_ | refine call_strip (by omega) (by with_reducible assumption) ?_ | refine call_rstripC (by omega) (by with_reducible assumption) ?_ | refine call_splitA (by omega) rfl (by with_reducible assumption) ?_ | refine call_splitB (by omega) rfl (by with_reducible assumption) ?_ | refine call_lenL1 ?_ | refine call_lenL2 ?_ | refine call_lenS (by omega) ?_ | refine call_intS10 (by with_reducible assumption) (by omega) ?_ | refine call_intS (by with_reducible assumption) (by omega) ?_ | refine call_abs ?_ | refine call_pow (by decide) (by decide) ?_)
local macro_rules | `(tactic| kbo_bools) => `(tactic| first
    | ((with_reducible show EvE _ _ _ _ _ _ _); kaf_pre)
    | ((with_reducible show BinW _ _ _ _ _ _ _); kaf_suf) | ((with_reducible show CmpW _ _ _ _ _ _ _); tb_start) | ((with_reducible show InpW _ _ _ _ _ _ _); kct_strs)
    | ((with_reducible show Ex1 _ _ _ _ _ _ _); kcf_m)
    | ((with_reducible show ExS _ _ _ _ _ _ _); (first | refine ExS_cons ?_ | refine ExS_nil ?_))
    | ((with_reducible show EvT _ _ _ _ _ _ _); kba_ints)
    | ((with_reducible show EvL _ _ _ _ _ _ _ _); (first | refine EvL_cons ?_ | refine EvL_nil ?_))
    | ((with_reducible show UnW _ _ _ _ _ _); ktu_off1L)
    | ((with_reducible show CallW _ _ _ _ _ _); tb_rel)
    | ((with_reducible show SubW _ _ _ _ _ _ _ _); ktu_offI)
    | ((with_reducible show (_ = true → _) ∧ (_ = false → _)); krn_off)
    | ((with_reducible show (_ = false → _) ∧ (_ = true → _)); krn_off)
    | ((with_reducible show _ = true ∧ _); refine ⟨?_, ?_⟩)
    | ((with_reducible show ∃ b, TruthIs _ b ∧ _); refine ⟨_, rfl, ?_⟩)
    | ((with_reducible show List.length _ ≤ 1000 ∧ _); refine ⟨by simp only [List.length_cons, List.length_nil]; decide, ?_⟩)
    | ((with_reducible show ∃ fv, V.raw _ = V.raw fv ∧ _); refine ⟨_, rfl, by with_reducible assumption, ?_⟩)
    | ((with_reducible show ∃ id, MethW _ _ _ id ∧ _); (first | with_reducible apply mx_bits | with_reducible apply mx_lower | with_reducible apply mx_strip | with_reducible apply mx_rstrip | with_reducible apply mx_split | with_reducible apply mx_startswith))
    | ((with_reducible show ∃ a, _); (first | refine ⟨_, _, .inl rfl, ?_⟩ | refine ⟨_, _, .inr rfl, ?_⟩ | refine ⟨_, _, rfl, by omega, by with_reducible assumption, ?_⟩ | refine ⟨_, _, rfl, ?_⟩ | refine ⟨_, rfl, rfl, ?_⟩)))
set_option maxHeartbeats 4000000 in
theorem sme_walk (F : Facts S) {x : Str} {man ev k : Int} {P : V → Prop} (N : Num1 x man ev) (hk : KIs x N.x1 N.x3 k) (h : P (.tup [.int man, .int (ev - k)])) :
    CallW S (d + 1) (.raw (gl S "str_to_man_exp")) [.str x, .int 10] P X := by
  have f1 := F.b_int
  have f2 := F.b_len
  have f3 := F.b_pow
  have c1 : CanCall S (.type "int") := .inr (.inr ⟨_, rfl⟩)
  have c2 : CanCall S (.builtin "len") := .inr (.inl ⟨_, rfl⟩)
  have c3 : CanCall S (.builtin "pow") := .inr (.inl ⟨_, rfl⟩)
  obtain ⟨x1, x3, hx, h1, h3, low, rs, rp, hm, ex⟩ := N
  unfold KIs at hk
  dsimp only at *
  rcases ex with ⟨rfl, e1, rfl⟩ | ⟨x2, e1, e2, e3⟩ <;> rcases hk with ⟨k1, rfl, rfl⟩ | ⟨a, b, b', k1, k2, k3, k4, rfl, k6, k7, k8⟩
  all_goals (
    refine CallW_def (d := d) F.f36 _ _ (binds_36_2 F.f36 _ _) (by decide) (by decide) (by decide) rfl rfl rfl ?_
    repeat' kbo_bools)
  all_goals first | exact h | (rw [Int.sub_zero] at h; exact h)
end

end Mine
end

section
open PySem PySem.W PySem.Calls PyProof.Rows
set_option Elab.async false
set_option maxRecDepth 100000
namespace Mine

-- expressions
local macro_rules | `(tactic| kaf_pre) => `(tactic| first | refine EvE_name (by rfl) ?_ | refine EvE_glob (by assumption) ?_ | refine EvE_built (by assumption) ?_ | refine EvE_int ?_ | refine EvE_binop ?_ | refine EvE_cmp ?_ | refine EvE_unop ?_ | refine EvE_str ?_ | refine EvE_bool ?_ | refine EvE_call ?_ | refine EvE_meth0 ?_ | refine EvE_meth ?_ | refine EvE_sub ?_ | refine EvE_tuple ?_ | refine EvE_ifexp ?_ | refine EvE_one ?_ | refine EvE_and ?_ | refine EvE_or ?_ | refine EvE_list ?_ | refine EvE_walrus ?_)
-- operators
local macro_rules | `(tactic| kaf_suf) => `(tactic| first | refine bi_add ?_ | refine bi_sub ?_ | refine bi_and ?_ | refine bi_xor ?_ | refine bi_shr (by omega) ?_)
local macro_rules | `(tactic| tb_start) => `(tactic| first | refine cmp_eq ?_ | refine cmp_lt ?_ | refine cmp_gt ?_ | refine cmp_le ?_ | refine cmp_ge ?_ | refine cmp_ne ?_ | refine cmp_eqS ?_ | refine cmp_eq4 ?_)
local macro_rules | `(tactic| kct_strs) => `(tactic| first | refine ib_add ?_ | refine ib_sub ?_ | refine ib_xor ?_ | refine ib_shr (by omega) ?_)
local macro_rules | `(tactic| ktu_off1L) => `(tactic| first | refine un_neg ?_ | refine un_not ?_)
-- tests
local macro_rules | `(tactic| kba_ints) => `(tactic| first | refine EvT_not ?_ | refine EvT_cmp ?_ | refine EvT_and ?_ | refine EvT_and_nil ?_ | refine EvT_or ?_ | refine EvT_or_nil ?_ | refine EvT_name ?_ | refine EvT_call ?_ | refine EvT_sub ?_ | refine EvT_bin ?_)
-- statements
local macro_rules | `(tactic| kcf_m) => `(tactic| first | refine Ex1_if ?_ | refine Ex1_ret ?_ | refine Ex1_assign ?_ | refine Ex1_aug (by rfl) ?_ | refine Ex1_unpack4 ?_ | refine Ex1_unpack2 ?_ | refine Ex1_unpack3 ?_ | refine Ex1_swap ?_ | refine Ex1_assert ?_)
-- calls
local macro_rules | `(tactic| tb_rel) => `(tactic| first | refine call_bits ?_)
-- items
local macro_rules | `(tactic| ktu_offI) => `(tactic| first | refine sub_tup (by decide) (by decide) rfl rfl ?_ | refine sub_list (by decide) (by decide) rfl ?_)
-- a test's two ways: what cannot be goes at once
local macro_rules | `(tactic| krn_off) => `(tactic| ((refine ⟨fun h => ?_, fun h => ?_⟩) <;> first
    | (exact absurd h (by decide))
    | ((simp only [decide_eq_true_eq, decide_eq_false_iff_not, beq_iff_eq, bne_iff_ne, beq_eq_false_iff_ne, bne_eq_false_iff_eq, Bool.not_eq_true', Bool.not_eq_false', Bool.not_true, Bool.not_false, ne_eq, Decidable.not_not, gt_iff_lt, ge_iff_le, Int.not_lt, Int.not_le] at h) <;> (try (exfalso; omega)))
    | skip))
local macro_rules | `(tactic| kbo_bools) => `(tactic| first
    | ((with_reducible show EvE _ _ _ _ _ _ _); kaf_pre)
    | ((with_reducible show BinW _ _ _ _ _ _ _); kaf_suf) | ((with_reducible show CmpW _ _ _ _ _ _ _); tb_start) | ((with_reducible show InpW _ _ _ _ _ _ _); kct_strs)
    | ((with_reducible show Ex1 _ _ _ _ _ _ _); kcf_m)
    | ((with_reducible show ExS _ _ _ _ _ _ _); (first | refine ExS_cons ?_ | refine ExS_nil ?_))
    | ((with_reducible show EvT _ _ _ _ _ _ _); kba_ints)
    | ((with_reducible show EvL _ _ _ _ _ _ _ _); (first | refine EvL_cons ?_ | refine EvL_nil ?_))
    | ((with_reducible show UnW _ _ _ _ _ _); ktu_off1L)
    | ((with_reducible show CallW _ _ _ _ _ _); tb_rel)
    | ((with_reducible show SubW _ _ _ _ _ _ _ _); ktu_offI)
    | ((with_reducible show (_ = true → _) ∧ (_ = false → _)); krn_off)
    | ((with_reducible show (_ = false → _) ∧ (_ = true → _)); krn_off)
    | ((with_reducible show _ = true ∧ _); refine ⟨?_, ?_⟩)
    | ((with_reducible show ∃ b, TruthIs _ b ∧ _); refine ⟨_, rfl, ?_⟩)
    | ((with_reducible show List.length _ ≤ 1000 ∧ _); refine ⟨by simp only [List.length_cons, List.length_nil]; decide, ?_⟩)
    | ((with_reducible show ∃ fv, V.raw _ = V.raw fv ∧ _); refine ⟨_, rfl, by assumption, ?_⟩)
    | ((with_reducible show ∃ id, MethIs _ _ _ id ∧ _); refine ⟨_, meth_bits, ?_⟩)
    | ((with_reducible show ∃ a, _); (first | refine ⟨_, _, _, _, rfl, ?_⟩ | refine ⟨_, _, rfl, ?_⟩ | refine ⟨_, _, _, rfl, ?_⟩)))

section
variable {S : Sy} {d : Nat} {X : Prop}
theorem call_starts4 {x a b c e : Str} {P : V → Prop} (h : ∀ p ∈ [a, b, c, e], Txt.startswith x p = false) (p : P (.bool false)) : CallW S d (.raw (.builtin "str.startswith")) [.str x, .tup [.str a, .str b, .str c, .str e]] P X := call_startsF (ps := [a, b, c, e]) h p
theorem call_starts2 {x a b : Str} {P : V → Prop} (h : ∀ p ∈ [a, b], Txt.startswith x p = false) (p : P (.bool false)) : CallW S d (.raw (.builtin "str.startswith")) [.str x, .tup [.str a, .str b]] P X := call_startsF (ps := [a, b]) h p
local macro_rules | `(tactic| kaf_pre) => `(tactic| first | refine EvE_name (by rfl) ?_ | refine EvE_glob (by with_reducible assumption) ?_ | refine EvE_built (by with_reducible assumption) ?_ | refine EvE_int ?_ | refine EvE_binop ?_ | refine EvE_cmp ?_ | refine EvE_unop ?_ | refine EvE_str ?_ | refine EvE_bool ?_ | refine EvE_call ?_ | refine EvE_methW0 ?_ | ((with_reducible show EvE _ _ _ (Expr.Call (Expr.Attribute _ (Str.ofString "replace") _) [Expr.Constant (Const.str _) _ _, Expr.Constant (Const.str _) _ _] [] _) _ _ _); refine EvE_replace' ?_) | refine EvE_methW ?_ | refine EvE_sub ?_ | refine EvE_tuple ?_ | refine EvE_ifexp ?_ | refine EvE_one ?_ | refine EvE_and ?_ | refine EvE_or ?_ | refine EvE_list ?_ | refine EvE_walrus ?_)
local macro_rules | `(tactic| kcf_m) => `(tactic| first | refine Ex1_if ?_ | refine Ex1_ret ?_ | refine Ex1_assign ?_ | refine Ex1_aug (by rfl) ?_ | ((with_reducible show Ex1 _ _ _ (Stmt.Assign [Expr.Tuple [Expr.Name _ _, Expr.Name _ _] _ _] (Expr.Tuple _ _ _) _) _ _ _); refine Ex1_swap2 ?_) | refine Ex1_unpackA2 ?_ | refine Ex1_assert ?_)
local macro_rules | `(tactic| tb_start) => `(tactic| first | refine cmp_eq ?_ | refine cmp_lt ?_ | refine cmp_gt ?_ | refine cmp_le ?_ | refine cmp_ge ?_ | refine cmp_ne ?_ | refine cmp_eqSb (by with_reducible assumption) ?_ | refine cmp_neSb (by with_reducible assumption) ?_ | refine cmp_eqS ?_ | refine cmp_neS ?_ | refine cmp_in (by with_reducible assumption) ?_ | refine cmp_notin (by with_reducible assumption) ?_)
local macro_rules | `(tactic| kaf_suf) => `(tactic| first | refine bi_add ?_ | refine bi_sub ?_ | refine bi_addSb (by omega) (by omega) (by with_reducible assumption) ?_)
local macro_rules | `(tactic| tb_rel) => `(tactic| first | refine call_bits ?_ | refine call_lower (by omega) (by with_reducible assumption) ?_ | refine call_strip (by omega) (by with_reducible assumption) ?_ | refine call_rstripC (by omega) (by with_reducible assumption) ?_ | refine call_splitA (by omega) rfl (by with_reducible assumption) ?_ | refine call_splitB (by omega) rfl (by with_reducible assumption) ?_ | refine call_lenL1 ?_ | refine call_lenL2 ?_ | refine call_lenS (by omega) ?_ | refine call_intS10 (by with_reducible assumption) (by omega) ?_ | refine call_intS (by with_reducible assumption) (by omega) ?_ | refine call_abs ?_ | refine call_pow (by decide) (by decide) ?_)
local macro_rules | `(tactic| kbo_bools) => `(tactic| first
    | ((with_reducible show EvE _ _ _ _ _ _ _); kaf_pre)
    | ((with_reducible show BinW _ _ _ _ _ _ _); kaf_suf) | ((with_reducible show CmpW _ _ _ _ _ _ _); tb_start) | ((with_reducible show InpW _ _ _ _ _ _ _); kct_strs)
    | ((with_reducible show Ex1 _ _ _ _ _ _ _); kcf_m)
    | ((with_reducible show ExS _ _ _ _ _ _ _); (first | refine ExS_cons ?_ | refine ExS_nil ?_))
    | ((with_reducible show EvT _ _ _ _ _ _ _); kba_ints)
    | ((with_reducible show EvL _ _ _ _ _ _ _ _); (first | refine EvL_cons ?_ | refine EvL_nil ?_))
    | ((with_reducible show UnW _ _ _ _ _ _); ktu_off1L)
    | ((with_reducible show CallW _ _ _ _ _ _); tb_rel)
    | ((with_reducible show SubW _ _ _ _ _ _ _ _); ktu_offI)
    | ((with_reducible show (_ = true → _) ∧ (_ = false → _)); krn_off)
    | ((with_reducible show (_ = false → _) ∧ (_ = true → _)); krn_off)
    | ((with_reducible show _ = true ∧ _); refine ⟨?_, ?_⟩)
    | ((with_reducible show ∃ b, TruthIs _ b ∧ _); refine ⟨_, rfl, ?_⟩)
    | ((with_reducible show List.length _ ≤ 1000 ∧ _); refine ⟨by simp only [List.length_cons, List.length_nil]; decide, ?_⟩)
    | ((with_reducible show ∃ fv, V.raw _ = V.raw fv ∧ _); refine ⟨_, rfl, by with_reducible assumption, ?_⟩)
    | ((with_reducible show ∃ id, MethW _ _ _ id ∧ _); (first | with_reducible apply mx_bits | with_reducible apply mx_lower | with_reducible apply mx_strip | with_reducible apply mx_rstrip | with_reducible apply mx_split | with_reducible apply mx_startswith))
    | ((with_reducible show ∃ a, _); (first | refine ⟨_, _, .inl rfl, ?_⟩ | refine ⟨_, _, .inr rfl, ?_⟩ | refine ⟨_, _, rfl, by omega, by with_reducible assumption, ?_⟩ | refine ⟨_, _, rfl, ?_⟩ | refine ⟨_, rfl, rfl, ?_⟩)))

structure Num2 (x : Str) : Prop where
  hx : x.length ≤ 300
  low : Txt.lower x = x
  str : Txt.strip x = x
  sp : x ∉ (["inf", "+inf", "-inf", "nan", "oo", "+oo", "-oo"] : List Str)
  s1 : ∀ p ∈ (["0b", "-0b", "0B", "-0B"] : List Str), Txt.startswith x p = false
  s2 : ∀ p ∈ (["0x", "-0x", "0X", "-0X"] : List Str), Txt.startswith x p = false
  s3 : ∀ p ∈ (["0o", "-0o"] : List Str), Txt.startswith x p = false
  sl : Txt.contains x "/" = false
local macro_rules | `(tactic| tb_start) => `(tactic| first | refine cmp_eq ?_ | refine cmp_gt ?_ | refine cmp_ge ?_ | refine cmp_in (by with_reducible assumption) ?_ | refine in_dict ⟨_, by with_reducible assumption, rfl⟩ ?_)
local macro_rules | `(tactic| kaf_suf) => `(tactic| first | refine bi_pow (by omega) (by first | omega | (show (4 : Int) * _ ≤ _; omega)) ?_ | refine bi_mul (by assumption) ?_)
local macro_rules | `(tactic| tb_rel) => `(tactic| first | with_reducible assumption | refine call_lower (by omega) (by with_reducible assumption) ?_ | refine call_strip (by omega) (by with_reducible assumption) ?_ | refine call_abs ?_ | refine call_starts4 (by with_reducible assumption) ?_ | refine call_starts2 (by with_reducible assumption) ?_)
set_option maxHeartbeats 4000000 in
theorem fs_walk (F : Facts S) {up : Bool} {x : Str} {man e p : Int} {P : V → Prop} (N : Num2 x) (hm : ∀ (Q : V → Prop), Q (.tup [.int man, .int e]) → CallW S (d + 5) (.raw (gl S "str_to_man_exp")) [.str x, .int 10] Q X)
    (hp : 1 ≤ p) (hp2 : p ≤ 10000) (he : -400 ≤ e ∧ e ≤ 400) (hman : man.natAbs < 2 ^ 1000) (h : ∀ r, QR up ((man : Rat) * q10 e) p r → P r.v) :
    CallW S (d + 6) (.raw (gl S "from_str")) [.str x, .int p, .str (rn up)] P X := by
  have f1 := F.g_special_str
  have f2 := F.f36.glob'
  have f3 := F.f36.can
  have f4 := F.f22.glob'
  have f5 := F.f22.can
  have f6 := F.f23.glob'
  have f7 := F.f23.can
  have f8 := F.b_abs
  have f9 := F.special x N.sp
  have c1 : CanCall S (.builtin "abs") := .inr (.inl ⟨_, rfl⟩)
  obtain ⟨hx, low, str, sp, s1, s2, s3, sl⟩ := N
  have ok : IntMulOk man (10 ^ e.toNat) := mulok_small (by
    have h1 := pow10_bl e.toNat
    have h2 : bl man ≤ 1000 := by rw [bl_natAbs]; exact bl_le hman
    omega)
  obtain ⟨he1, he2⟩ := he
  clear sp
  rcases (by omega : 0 ≤ e ∨ e < 0) with h0 | h0
  · have g : CallW S (d + 5) (.raw (gl S "from_int")) [.int (man * 10 ^ e.toNat), .int p, .str (rn up)] P X := fi_val F hp fun r hr => h r (by
      have e1 : q10 e = ((10 ^ e.toNat : Int) : Rat) := by
        have : e = (e.toNat : Int) := by omega
        conv => lhs; rw [this]
        rw [q10_nat]
      rw [e1, ← Rat.intCast_mul]; exact hr)
    clear h
    refine CallW_def (d := d + 5) F.f38 _ _ (binds_38_3 F.f38 _ _ _) (by decide) (by decide) (by decide) rfl rfl rfl ?_
    repeat' (first | kbo_bools | refine hm _ ?_ | (refine g.mono (fun r hr => ?_); replace hr := Hid.mk hr))
    all_goals exact (by assumption : Hid _).out
  · have g : CallW S (d + 5) (.raw (gl S "from_rational")) [.int man, .int (10 ^ (-e).toNat), .int p, .str (rn up)] P X := fr_val F (by omega) (by omega) hman hp hp2 fun r hr => h r (by
      have : e = -((-e).toNat : Int) := by omega
      rw [this]; exact hr)
    clear h
    refine CallW_def (d := d + 5) F.f38 _ _ (binds_38_3 F.f38 _ _ _) (by decide) (by decide) (by decide) rfl rfl rfl ?_
    repeat' (first | kbo_bools | refine hm _ ?_ | (refine g.mono (fun r hr => ?_); replace hr := Hid.mk hr))
    all_goals exact (by assumption : Hid _).out
end

end Mine
end

section
open PySem PySem.W PySem.Calls PyProof.Rows
set_option Elab.async false
set_option maxRecDepth 100000
namespace Mine

-- expressions
local macro_rules | `(tactic| kaf_pre) => `(tactic| first | refine EvE_name (by rfl) ?_ | refine EvE_glob (by assumption) ?_ | refine EvE_built (by assumption) ?_ | refine EvE_int ?_ | refine EvE_binop ?_ | refine EvE_cmp ?_ | refine EvE_unop ?_ | refine EvE_str ?_ | refine EvE_bool ?_ | refine EvE_call ?_ | refine EvE_meth0 ?_ | refine EvE_meth ?_ | refine EvE_sub ?_ | refine EvE_tuple ?_ | refine EvE_ifexp ?_ | refine EvE_one ?_ | refine EvE_and ?_ | refine EvE_or ?_ | refine EvE_list ?_ | refine EvE_walrus ?_)
-- operators
local macro_rules | `(tactic| kaf_suf) => `(tactic| first | refine bi_add ?_ | refine bi_sub ?_ | refine bi_and ?_ | refine bi_xor ?_ | refine bi_shr (by omega) ?_)
local macro_rules | `(tactic| tb_start) => `(tactic| first | refine cmp_eq ?_ | refine cmp_lt ?_ | refine cmp_gt ?_ | refine cmp_le ?_ | refine cmp_ge ?_ | refine cmp_ne ?_ | refine cmp_eqS ?_ | refine cmp_eq4 ?_)
local macro_rules | `(tactic| kct_strs) => `(tactic| first | refine ib_add ?_ | refine ib_sub ?_ | refine ib_xor ?_ | refine ib_shr (by omega) ?_)
local macro_rules | `(tactic| ktu_off1L) => `(tactic| first | refine un_neg ?_ | refine un_not ?_)
-- tests
local macro_rules | `(tactic| kba_ints) => `(tactic| first | refine EvT_not ?_ | refine EvT_cmp ?_ | refine EvT_and ?_ | refine EvT_and_nil ?_ | refine EvT_or ?_ | refine EvT_or_nil ?_ | refine EvT_name ?_ | refine EvT_call ?_ | refine EvT_sub ?_ | refine EvT_bin ?_)
-- statements
local macro_rules | `(tactic| kcf_m) => `(tactic| first | refine Ex1_if ?_ | refine Ex1_ret ?_ | refine Ex1_assign ?_ | refine Ex1_aug (by rfl) ?_ | refine Ex1_unpack4 ?_ | refine Ex1_unpack2 ?_ | refine Ex1_unpack3 ?_ | refine Ex1_swap ?_ | refine Ex1_assert ?_)
-- calls
local macro_rules | `(tactic| tb_rel) => `(tactic| first | refine call_bits ?_)
-- items
local macro_rules | `(tactic| ktu_offI) => `(tactic| first | refine sub_tup (by decide) (by decide) rfl rfl ?_ | refine sub_list (by decide) (by decide) rfl ?_)
-- a test's two ways: what cannot be goes at once
local macro_rules | `(tactic| krn_off) => `(tactic| ((refine ⟨fun h => ?_, fun h => ?_⟩) <;> first
    | (exact absurd h (by decide))
    | ((simp only [decide_eq_true_eq, decide_eq_false_iff_not, beq_iff_eq, bne_iff_ne, beq_eq_false_iff_ne, bne_eq_false_iff_eq, Bool.not_eq_true', Bool.not_eq_false', Bool.not_true, Bool.not_false, ne_eq, Decidable.not_not, gt_iff_lt, ge_iff_le, Int.not_lt, Int.not_le] at h) <;> (try (exfalso; omega)))
    | skip))
local macro_rules | `(tactic| kbo_bools) => `(tactic| first
    | ((with_reducible show EvE _ _ _ _ _ _ _); kaf_pre)
    | ((with_reducible show BinW _ _ _ _ _ _ _); kaf_suf) | ((with_reducible show CmpW _ _ _ _ _ _ _); tb_start) | ((with_reducible show InpW _ _ _ _ _ _ _); kct_strs)
    | ((with_reducible show Ex1 _ _ _ _ _ _ _); kcf_m)
    | ((with_reducible show ExS _ _ _ _ _ _ _); (first | refine ExS_cons ?_ | refine ExS_nil ?_))
    | ((with_reducible show EvT _ _ _ _ _ _ _); kba_ints)
    | ((with_reducible show EvL _ _ _ _ _ _ _ _); (first | refine EvL_cons ?_ | refine EvL_nil ?_))
    | ((with_reducible show UnW _ _ _ _ _ _); ktu_off1L)
    | ((with_reducible show CallW _ _ _ _ _ _); tb_rel)
    | ((with_reducible show SubW _ _ _ _ _ _ _ _); ktu_offI)
    | ((with_reducible show (_ = true → _) ∧ (_ = false → _)); krn_off)
    | ((with_reducible show (_ = false → _) ∧ (_ = true → _)); krn_off)
    | ((with_reducible show _ = true ∧ _); refine ⟨?_, ?_⟩)
    | ((with_reducible show ∃ b, TruthIs _ b ∧ _); refine ⟨_, rfl, ?_⟩)
    | ((with_reducible show List.length _ ≤ 1000 ∧ _); refine ⟨by simp only [List.length_cons, List.length_nil]; decide, ?_⟩)
    | ((with_reducible show ∃ fv, V.raw _ = V.raw fv ∧ _); refine ⟨_, rfl, by assumption, ?_⟩)
    | ((with_reducible show ∃ id, MethIs _ _ _ id ∧ _); refine ⟨_, meth_bits, ?_⟩)
    | ((with_reducible show ∃ a, _); (first | refine ⟨_, _, _, _, rfl, ?_⟩ | refine ⟨_, _, rfl, ?_⟩ | refine ⟨_, _, _, rfl, ?_⟩)))

section
variable {S : Sy} {d : Nat} {X : Prop}
/-- the chain of a number and its reach -/
structure AB (percent : Bool) (vx vy : Rat) (p : Int) (a b : Mp) : Prop where
  ex : ∃ xa xb yy : Mp, QR false vx (p + 20) xa ∧ QR true vx (p + 20) xb ∧
    (percent = false → QR true vy (p + 20) yy) ∧
    (percent = true → ∃ (y0 m y1 : Mp) (w : Rat), QR true vy (p + 20) y0 ∧ ab xa.val ≤ m.val ∧ ab xb.val ≤ m.val ∧ (m.val = ab xa.val ∨ m.val = ab xb.val) ∧ QR true (m.val * y0.val) (p + 20) y1 ∧ w * 100 = y1.val ∧ QR true w (p + 20) yy) ∧
    QR false (xa.val + -yy.val) p a ∧ QR true (xb.val + yy.val) p b
/-- a float with what the walks ask -/
structure Fl (L : Int) (x : Mp) : Prop where
  can : Can x
  b : x.b ≤ 100
  e : -L - 100 ≤ x.e ∧ x.e ≤ L + 1
theorem fl_of {up : Bool} {v : Rat} {p L : Int} {r : Mp} (hp : 1 ≤ p) (hp2 : p ≤ 100) (hL : 0 ≤ L) (s : Sz L v) (a : QR up v p r) : Fl L r := by
  obtain ⟨h1, h2, h3⟩ := s.parts hp hL a
  exact ⟨qr_can a, by omega, by omega, by omega⟩
theorem qr_nonneg {up : Bool} {v : Rat} {p : Int} {r : Mp} (h : 0 ≤ v) (a : QR up v p r) : r.s = 0 ∧ 0 ≤ r.val := ⟨(qr_sign a).1 h, val_nonneg (qr_can a) ((qr_sign a).1 h)⟩
theorem abs_val {x : Mp} (hx : Can x) : Can ⟨0, x.m, x.e, x.b⟩ ∧ Mp.val ⟨0, x.m, x.e, x.b⟩ = ab x.val := by
  rcases hx with rfl | hx
  · exact ⟨.inl rfl, by rw [show (⟨0, Mp.zero.m, Mp.zero.e, Mp.zero.b⟩ : Mp) = Mp.zero from rfl, val_zero]; rfl⟩
  · refine ⟨.inr ⟨.inl rfl, hx.pos, hx.odd, hx.b⟩, ?_⟩
    have h : (0 : Rat) < (x.m : Rat) * q2 x.e := Rat.mul_pos (by exact_mod_cast hx.pos) (q2_pos _)
    have e1 : Mp.val ⟨0, x.m, x.e, x.b⟩ = (x.m : Rat) * q2 x.e := rfl
    rw [e1]
    unfold ab Mp.val sgR
    split
    · rw [if_pos (Rat.le_of_lt h)]
    · rw [if_neg (by grind)]; grind

local macro_rules | `(tactic| tb_rel) => `(tactic| fail)
local macro_rules | `(tactic| kaf_suf) => `(tactic| first | refine bi_add ?_ | refine bi_sub ?_)
theorem Fl.ex {L : Int} {x : Mp} (f : Fl L x) (hL : L ≤ 50000) : -100000 ≤ x.e ∧ x.e ≤ 100000 := by have := f.e; omega
theorem add_val (F : Facts S) {up : Bool} {p L : Int} {x y : Mp} {P : V → Prop} (hx : Fl L x) (hy : Fl L y) (hL : L ≤ 50000) (hp : 1 ≤ p) (hp2 : p ≤ 100) (h : ∀ r, QR up (x.val + y.val) p r → P r.v) :
    CallW S (d + 4) (.raw (gl S "mpf_add")) [x.v, y.v, .int p, .str (rn up)] P X := by
  have hs := (can_facts hy.can).1
  refine add_of4 F (add_all (ts := y.s) F hx.can hy.can hp (.inl ⟨rfl, rfl⟩) (by have := hx.b; omega) (by have := hy.b; omega) (hx.ex hL) (hy.ex hL) (by omega) fun N E ha r hr => h r ?_)
  exact add_qr hx.can hy.can hp hs hx.b hy.b ha hr
theorem sub_val (F : Facts S) {up : Bool} {p L : Int} {x y : Mp} {P : V → Prop} (hx : Fl L x) (hy : Fl L y) (hL : L ≤ 50000) (hp : 1 ≤ p) (hp2 : p ≤ 100) (h : ∀ r, QR up (x.val + -y.val) p r → P r.v) :
    CallW S (d + 5) (.raw (gl S "mpf_sub")) [x.v, y.v, .int p, .str (rn up)] P X := by
  have hs := (can_facts hy.can).1
  refine sub_call F (add_all (ts := 1 - y.s) F hx.can hy.can hp (.inr ⟨rfl, rfl⟩) (by have := hx.b; omega) (by have := hy.b; omega) (hx.ex hL) (hy.ex hL) (by omega) fun N E ha r hr => h r ?_)
  have e : sgR (1 - y.s) ((y.m : Rat) * q2 y.e) = -y.val := by
    unfold Mp.val sgR
    rcases hs with h | h <;> rw [h] <;> simp
  have := add_qr (ts := 1 - y.s) hx.can hy.can hp (by omega) hx.b hy.b ha hr
  rw [e] at this; exact this
theorem mul_val (F : Facts S) {up : Bool} {p : Int} {x y : Mp} {P : V → Prop} (hx : Can x) (hy : Can y) (sx : x.s = 0) (sy : y.s = 0) (bx : x.b ≤ 100) (by' : y.b ≤ 100) (hp : 1 ≤ p) (h : ∀ r, QR up (x.val * y.val) p r → P r.v) :
    CallW S (d + 4) (.raw (gl S "mpf_mul")) [x.v, y.v, .int p, .str (rn up)] P X := by
  refine mul_walk F hx hy sx sy hp (by omega) (by omega) fun r hr => h r ?_
  have := rndZ_exact hp hr
  have e : x.val * y.val = ((x.m * y.m : Int) : Rat) * q2 (x.e + y.e) := by
    unfold Mp.val sgR
    rw [sx, sy, if_pos rfl, if_pos rfl, Rat.intCast_mul, q2_add]; grind
  rw [e]; exact this
theorem div100_val (F : Facts S) {up : Bool} {p : Int} {x : Mp} {w : Rat} {P : V → Prop} (hx : Can x) (bx : x.b ≤ 100) (hp : 1 ≤ p) (hp2 : p ≤ 10000) (hw : w * 100 = x.val) (h : ∀ r, QR up w p r → P r.v) (y : Mp) (hy : Ex 100 0 y) :
    CallW S (d + 4) (.raw (gl S "mpf_div")) [x.v, y.v, .int p, .str (rn up)] P X := by
  unfold Ex at hy
  rw [if_neg (by decide)] at hy
  have hy' : CanM 0 100 0 y := hy
  have ny : Nz y := hy'.nz (.inl rfl)
  rcases hx with rfl | hx
  · have : P Mp.zero.v := h _ (.zero (by rw [val_zero] at hw; grind) rfl)
    exact div_zero (d := d + 3) F ny this
  · have by' := canM_b hy'
    have hb : bl 100 = 7 := by decide
    refine div_walk F hx ny hy'.s (fun h1 => ?_) hp hp2 (by omega) (by omega) fun k' r hk' hr => h r (div_qrX (by decide) hx hy' hp hk' hr w ?_)
    · obtain ⟨t, h2, _⟩ := hy'.ex
      rw [h1] at h2
      have := two_mod5 t; omega
    · exact hw
end

end Mine
end

section
open PySem PySem.W PySem.Calls PyProof.Rows
set_option Elab.async false
set_option maxRecDepth 100000
namespace Mine

-- expressions
local macro_rules | `(tactic| kaf_pre) => `(tactic| first | refine EvE_name (by rfl) ?_ | refine EvE_glob (by assumption) ?_ | refine EvE_built (by assumption) ?_ | refine EvE_int ?_ | refine EvE_binop ?_ | refine EvE_cmp ?_ | refine EvE_unop ?_ | refine EvE_str ?_ | refine EvE_bool ?_ | refine EvE_call ?_ | refine EvE_meth0 ?_ | refine EvE_meth ?_ | refine EvE_sub ?_ | refine EvE_tuple ?_ | refine EvE_ifexp ?_ | refine EvE_one ?_ | refine EvE_and ?_ | refine EvE_or ?_ | refine EvE_list ?_ | refine EvE_walrus ?_)
-- operators
local macro_rules | `(tactic| kaf_suf) => `(tactic| first | refine bi_add ?_ | refine bi_sub ?_ | refine bi_and ?_ | refine bi_xor ?_ | refine bi_shr (by omega) ?_)
local macro_rules | `(tactic| tb_start) => `(tactic| first | refine cmp_eq ?_ | refine cmp_lt ?_ | refine cmp_gt ?_ | refine cmp_le ?_ | refine cmp_ge ?_ | refine cmp_ne ?_ | refine cmp_eqS ?_ | refine cmp_eq4 ?_)
local macro_rules | `(tactic| kct_strs) => `(tactic| first | refine ib_add ?_ | refine ib_sub ?_ | refine ib_xor ?_ | refine ib_shr (by omega) ?_)
local macro_rules | `(tactic| ktu_off1L) => `(tactic| first | refine un_neg ?_ | refine un_not ?_)
-- tests
local macro_rules | `(tactic| kba_ints) => `(tactic| first | refine EvT_not ?_ | refine EvT_cmp ?_ | refine EvT_and ?_ | refine EvT_and_nil ?_ | refine EvT_or ?_ | refine EvT_or_nil ?_ | refine EvT_name ?_ | refine EvT_call ?_ | refine EvT_sub ?_ | refine EvT_bin ?_)
-- statements
local macro_rules | `(tactic| kcf_m) => `(tactic| first | refine Ex1_if ?_ | refine Ex1_ret ?_ | refine Ex1_assign ?_ | refine Ex1_aug (by rfl) ?_ | refine Ex1_unpack4 ?_ | refine Ex1_unpack2 ?_ | refine Ex1_unpack3 ?_ | refine Ex1_swap ?_ | refine Ex1_assert ?_)
-- calls
local macro_rules | `(tactic| tb_rel) => `(tactic| first | refine call_bits ?_)
-- items
local macro_rules | `(tactic| ktu_offI) => `(tactic| first | refine sub_tup (by decide) (by decide) rfl rfl ?_ | refine sub_list (by decide) (by decide) rfl ?_)
-- a test's two ways: what cannot be goes at once
local macro_rules | `(tactic| krn_off) => `(tactic| ((refine ⟨fun h => ?_, fun h => ?_⟩) <;> first
    | (exact absurd h (by decide))
    | ((simp only [decide_eq_true_eq, decide_eq_false_iff_not, beq_iff_eq, bne_iff_ne, beq_eq_false_iff_ne, bne_eq_false_iff_eq, Bool.not_eq_true', Bool.not_eq_false', Bool.not_true, Bool.not_false, ne_eq, Decidable.not_not, gt_iff_lt, ge_iff_le, Int.not_lt, Int.not_le] at h) <;> (try (exfalso; omega)))
    | skip))
local macro_rules | `(tactic| kbo_bools) => `(tactic| first
    | ((with_reducible show EvE _ _ _ _ _ _ _); kaf_pre)
    | ((with_reducible show BinW _ _ _ _ _ _ _); kaf_suf) | ((with_reducible show CmpW _ _ _ _ _ _ _); tb_start) | ((with_reducible show InpW _ _ _ _ _ _ _); kct_strs)
    | ((with_reducible show Ex1 _ _ _ _ _ _ _); kcf_m)
    | ((with_reducible show ExS _ _ _ _ _ _ _); (first | refine ExS_cons ?_ | refine ExS_nil ?_))
    | ((with_reducible show EvT _ _ _ _ _ _ _); kba_ints)
    | ((with_reducible show EvL _ _ _ _ _ _ _ _); (first | refine EvL_cons ?_ | refine EvL_nil ?_))
    | ((with_reducible show UnW _ _ _ _ _ _); ktu_off1L)
    | ((with_reducible show CallW _ _ _ _ _ _); tb_rel)
    | ((with_reducible show SubW _ _ _ _ _ _ _ _); ktu_offI)
    | ((with_reducible show (_ = true → _) ∧ (_ = false → _)); krn_off)
    | ((with_reducible show (_ = false → _) ∧ (_ = true → _)); krn_off)
    | ((with_reducible show _ = true ∧ _); refine ⟨?_, ?_⟩)
    | ((with_reducible show ∃ b, TruthIs _ b ∧ _); refine ⟨_, rfl, ?_⟩)
    | ((with_reducible show List.length _ ≤ 1000 ∧ _); refine ⟨by simp only [List.length_cons, List.length_nil]; decide, ?_⟩)
    | ((with_reducible show ∃ fv, V.raw _ = V.raw fv ∧ _); refine ⟨_, rfl, by assumption, ?_⟩)
    | ((with_reducible show ∃ id, MethIs _ _ _ id ∧ _); refine ⟨_, meth_bits, ?_⟩)
    | ((with_reducible show ∃ a, _); (first | refine ⟨_, _, _, _, rfl, ?_⟩ | refine ⟨_, _, rfl, ?_⟩ | refine ⟨_, _, _, rfl, ?_⟩)))

section
variable {S : Sy} {d : Nat} {X : Prop}
local macro_rules | `(tactic| kaf_pre) => `(tactic| first | refine EvE_name (by rfl) ?_ | refine EvE_glob (by with_reducible assumption) ?_ | refine EvE_built (by with_reducible assumption) ?_ | refine EvE_int ?_ | refine EvE_binop ?_ | refine EvE_cmp ?_ | refine EvE_unop ?_ | refine EvE_str ?_ | refine EvE_bool ?_ | refine EvE_call ?_ | refine EvE_methW0 ?_ | ((with_reducible show EvE _ _ _ (Expr.Call (Expr.Attribute _ (Str.ofString "replace") _) [Expr.Constant (Const.str _) _ _, Expr.Constant (Const.str _) _ _] [] _) _ _ _); refine EvE_replace' ?_) | refine EvE_methW ?_ | refine EvE_sub ?_ | refine EvE_tuple ?_ | refine EvE_ifexp ?_ | refine EvE_one ?_ | refine EvE_and ?_ | refine EvE_or ?_ | refine EvE_list ?_ | refine EvE_walrus ?_)
local macro_rules | `(tactic| kcf_m) => `(tactic| first | refine Ex1_if ?_ | refine Ex1_ret ?_ | refine Ex1_assign ?_ | refine Ex1_aug (by rfl) ?_ | ((with_reducible show Ex1 _ _ _ (Stmt.Assign [Expr.Tuple [Expr.Name _ _, Expr.Name _ _] _ _] (Expr.Tuple _ _ _) _) _ _ _); refine Ex1_swap2 ?_) | refine Ex1_unpackA2 ?_ | refine Ex1_assert ?_)
local macro_rules | `(tactic| tb_start) => `(tactic| first | refine cmp_eq ?_ | refine cmp_lt ?_ | refine cmp_gt ?_ | refine cmp_le ?_ | refine cmp_ge ?_ | refine cmp_ne ?_ | refine cmp_eqSb (by with_reducible assumption) ?_ | refine cmp_neSb (by with_reducible assumption) ?_ | refine cmp_eqS ?_ | refine cmp_neS ?_ | refine cmp_in (by with_reducible assumption) ?_ | refine cmp_notin (by with_reducible assumption) ?_)
local macro_rules | `(tactic| kaf_suf) => `(tactic| first | refine bi_add ?_ | refine bi_sub ?_ | refine bi_addSb (by omega) (by omega) (by with_reducible assumption) ?_)
local macro_rules | `(tactic| tb_rel) => `(tactic| first | refine call_bits ?_ | refine call_lower (by omega) (by with_reducible assumption) ?_ | refine call_strip (by omega) (by with_reducible assumption) ?_ | refine call_rstripC (by omega) (by with_reducible assumption) ?_ | refine call_splitA (by omega) rfl (by with_reducible assumption) ?_ | refine call_splitB (by omega) rfl (by with_reducible assumption) ?_ | refine call_lenL1 ?_ | refine call_lenL2 ?_ | refine call_lenS (by omega) ?_ | refine call_intS10 (by with_reducible assumption) (by omega) ?_ | refine call_intS (by with_reducible assumption) (by omega) ?_ | refine call_abs ?_ | refine call_pow (by decide) (by decide) ?_)
local macro_rules | `(tactic| kbo_bools) => `(tactic| first
    | ((with_reducible show EvE _ _ _ _ _ _ _); kaf_pre)
    | ((with_reducible show BinW _ _ _ _ _ _ _); kaf_suf) | ((with_reducible show CmpW _ _ _ _ _ _ _); tb_start) | ((with_reducible show InpW _ _ _ _ _ _ _); kct_strs)
    | ((with_reducible show Ex1 _ _ _ _ _ _ _); kcf_m)
    | ((with_reducible show ExS _ _ _ _ _ _ _); (first | refine ExS_cons ?_ | refine ExS_nil ?_))
    | ((with_reducible show EvT _ _ _ _ _ _ _); kba_ints)
    | ((with_reducible show EvL _ _ _ _ _ _ _ _); (first | refine EvL_cons ?_ | refine EvL_nil ?_))
    | ((with_reducible show UnW _ _ _ _ _ _); ktu_off1L)
    | ((with_reducible show CallW _ _ _ _ _ _); tb_rel)
    | ((with_reducible show SubW _ _ _ _ _ _ _ _); ktu_offI)
    | ((with_reducible show (_ = true → _) ∧ (_ = false → _)); krn_off)
    | ((with_reducible show (_ = false → _) ∧ (_ = true → _)); krn_off)
    | ((with_reducible show _ = true ∧ _); refine ⟨?_, ?_⟩)
    | ((with_reducible show ∃ b, TruthIs _ b ∧ _); refine ⟨_, rfl, ?_⟩)
    | ((with_reducible show List.length _ ≤ 1000 ∧ _); refine ⟨by simp only [List.length_cons, List.length_nil]; decide, ?_⟩)
    | ((with_reducible show ∃ fv, V.raw _ = V.raw fv ∧ _); refine ⟨_, rfl, by with_reducible assumption, ?_⟩)
    | ((with_reducible show ∃ id, MethW _ _ _ id ∧ _); (first | with_reducible apply mx_bits | with_reducible apply mx_lower | with_reducible apply mx_strip | with_reducible apply mx_rstrip | with_reducible apply mx_split | with_reducible apply mx_startswith))
    | ((with_reducible show ∃ a, _); (first | refine ⟨_, _, .inl rfl, ?_⟩ | refine ⟨_, _, .inr rfl, ?_⟩ | refine ⟨_, _, rfl, by omega, by with_reducible assumption, ?_⟩ | refine ⟨_, _, rfl, ?_⟩ | refine ⟨_, rfl, rfl, ?_⟩)))

local macro_rules | `(tactic| tb_rel) => `(tactic| fail)
local macro_rules | `(tactic| kaf_suf) => `(tactic| first | refine bi_add ?_ | refine bi_sub ?_)
theorem Sz.ab {L : Int} {v : Rat} (s : Sz L v) : Sz L (ab v) := by
  have e : Mine.ab (Mine.ab v) = Mine.ab v := if_pos (ab_nonneg v)
  exact ⟨fun h => by rw [e]; exact s.lo fun h0 => h (ab_zero_iff.mpr h0), by rw [e]; exact s.hi⟩
set_option maxHeartbeats 4000000 in
theorem ab_walk (F : Facts S) {x y : Str} {percent : Bool} {vx vy : Rat} {p : Int} {P : V → Prop} (hp : 1 ≤ p) (hp2 : p ≤ 60) (sx : Sz 2000 vx) (sy : Sz 2000 vy) (ny : 0 ≤ vy)
    (hxa : ∀ (Q : V → Prop), (∀ r, QR false vx (p + 20) r → Q r.v) → CallW S (d + 8) (.raw (gl S "from_str")) [.str x, .int (p + 20), .str "f"] Q X)
    (hxb : ∀ (Q : V → Prop), (∀ r, QR true vx (p + 20) r → Q r.v) → CallW S (d + 8) (.raw (gl S "from_str")) [.str x, .int (p + 20), .str "c"] Q X)
    (hy : ∀ (Q : V → Prop), (∀ r, QR true vy (p + 20) r → Q r.v) → CallW S (d + 8) (.raw (gl S "from_str")) [.str y, .int (p + 20), .str "c"] Q X)
    (h : ∀ a b, AB percent vx vy p a b → P (.tup [a.v, b.v])) :
    CallW S (d + 9) (.raw (gl S "mpi_from_str_a_b")) [.str x, .str y, .bool percent, .int p] P X := by
  have f1 := F.g_round_floor
  have f2 := F.g_round_ceiling
  have f3 := F.f38.glob'
  have f4 := F.f38.can
  have f5 := F.f25.glob'
  have f6 := F.f25.can
  have f7 := F.g_fzero
  have f8 := F.f32.glob'
  have f9 := F.f32.can
  have f10 := F.f40.glob'
  have f11 := F.f40.can
  have f12 := F.f28.glob'
  have f13 := F.f28.can
  have f14 := F.f33.glob'
  have f15 := F.f33.can
  have f16 := F.f22.glob'
  have f17 := F.f22.can
  have f18 := F.f31.glob'
  have f19 := F.f31.can
  have f20 := F.f30.glob'
  have f21 := F.f30.can
  refine CallW_def (d := d + 8) F.f41 _ _ (binds_41_4 F.f41 _ _ _ _) (by decide) (by decide) (by decide) rfl rfl rfl ?_
  repeat' kbo_bools
  refine hxa _ fun xa qa => ?_
  repeat' kbo_bools
  refine hxb _ fun xb qb => ?_
  repeat' kbo_bools
  refine hy _ fun y0 q0 => ?_
  have fa := fl_of (by omega) (by omega) (by decide) sx qa
  have fb := fl_of (by omega) (by omega) (by decide) sx qb
  have fy := fl_of (by omega) (by omega) (by decide) sy q0
  obtain ⟨ys, yv⟩ := qr_nonneg ny q0
  have szy := sy.qr (by omega) q0
  have sza := (sx.qr (by omega) qa).ab
  have szb := (sx.qr (by omega) qb).ab
  repeat' kbo_bools
  refine ge_call (d := d + 1) (y := Mp.zero) F fy.can (.inl rfl) ys rfl fy.b (by decide) (fy.ex (by decide)) (by decide) (fun _ => ?_) (fun hlt => by rw [val_zero] at hlt; grind)
  refine ⟨true, rfl, rfl, ?_⟩
  cases percent with
  | false =>
    repeat' kbo_bools
    refine sub_val (d := d + 3) (up := false) F fa fy (by decide) hp (by omega) fun a ra => ?_
    repeat' kbo_bools
    refine add_val (d := d + 4) (up := true) F fb fy (by decide) hp (by omega) fun b rb => ?_
    repeat' kbo_bools
    exact h a b ⟨xa, xb, y0, qa, qb, fun _ => q0, fun h => (by cases h), ra, rb⟩
  | true =>
    have aa := abs_val fa.can
    have bb := abs_val fb.can
    have gm : CallW S (d + 8) (.raw (gl S "MAX")) [Mp.v ⟨0, xa.m, xa.e, xa.b⟩, Mp.v ⟨0, xb.m, xb.e, xb.b⟩] (fun r => ∃ m : Mp, r = m.v ∧ Can m ∧ m.s = 0 ∧ m.b ≤ 100 ∧ Sz 2001 m.val ∧ ab xa.val ≤ m.val ∧ ab xb.val ≤ m.val ∧ (m.val = ab xa.val ∨ m.val = ab xb.val)) X := by
      refine max_walk F aa.1 bb.1 rfl rfl fa.b fb.b (fa.ex (by decide)) (fb.ex (by decide)) (fun hv => ⟨_, rfl, aa.1, rfl, fa.b, ?_, ?_, ?_, ?_⟩) (fun hv => ⟨_, rfl, bb.1, rfl, fb.b, ?_, ?_, ?_, ?_⟩)
      all_goals (rw [aa.2, bb.2] at hv; first | rw [aa.2] | rw [bb.2])
      · exact sza
      · exact Rat.le_refl
      · exact hv
      · exact .inl rfl
      · exact szb
      · exact Rat.le_of_lt hv
      · exact Rat.le_refl
      · exact .inr rfl
    repeat' kbo_bools
    refine abs_walk (d := d + 7) F fa.can ?_
    repeat' kbo_bools
    refine abs_walk (d := d + 7) F fb.can ?_
    repeat' kbo_bools
    refine gm.mono fun r hr => ?_
    obtain ⟨m, rfl, cm, sm, bm, zm, m1, m2, m3⟩ := hr
    repeat' kbo_bools
    refine mul_val (d := d + 4) (up := true) F cm fy.can sm ys bm fy.b (by omega) fun y1 q1 => ?_
    have z1 := zm.mul szy
    have w1 := z1.qr (by omega) q1
    obtain ⟨w, hw⟩ : ∃ w : Rat, w * 100 = y1.val := ⟨y1.val / 100, Rat.div_mul_cancel (by decide)⟩
    have zw := w1.div100 hw
    have g1 := fl_of (by omega) (by omega) (by decide) z1 q1
    repeat' kbo_bools
    refine fi_call0 (d := d + 4) F fun z hz => ?_
    repeat' kbo_bools
    refine div100_val (d := d + 4) (up := true) F g1.can g1.b (by omega) (by omega) hw (fun yy qy => ?_) z hz
    have fw := fl_of (by omega) (by omega) (by decide) zw qy
    have fa' : Fl 4010 xa := ⟨fa.can, fa.b, by have := fa.e; omega⟩
    have fb' : Fl 4010 xb := ⟨fb.can, fb.b, by have := fb.e; omega⟩
    repeat' kbo_bools
    refine sub_val (d := d + 3) (up := false) F fa' fw (by decide) hp (by omega) fun a ra => ?_
    repeat' kbo_bools
    refine add_val (d := d + 4) (up := true) F fb' fw (by decide) hp (by omega) fun b rb => ?_
    repeat' kbo_bools
    exact h a b ⟨xa, xb, yy, qa, qb, fun h => (by cases h), fun _ => ⟨y0, m, y1, w, q0, m1, m2, m3, q1, hw, qy⟩, ra, rb⟩
end

end Mine
end

section
open PySem PySem.W PySem.Calls PyProof.Rows
set_option Elab.async false
set_option maxRecDepth 100000
namespace Mine

-- expressions
local macro_rules | `(tactic| kaf_pre) => `(tactic| first | refine EvE_name (by rfl) ?_ | refine EvE_glob (by assumption) ?_ | refine EvE_built (by assumption) ?_ | refine EvE_int ?_ | refine EvE_binop ?_ | refine EvE_cmp ?_ | refine EvE_unop ?_ | refine EvE_str ?_ | refine EvE_bool ?_ | refine EvE_call ?_ | refine EvE_meth0 ?_ | refine EvE_meth ?_ | refine EvE_sub ?_ | refine EvE_tuple ?_ | refine EvE_ifexp ?_ | refine EvE_one ?_ | refine EvE_and ?_ | refine EvE_or ?_ | refine EvE_list ?_ | refine EvE_walrus ?_)
-- operators
local macro_rules | `(tactic| kaf_suf) => `(tactic| first | refine bi_add ?_ | refine bi_sub ?_ | refine bi_and ?_ | refine bi_xor ?_ | refine bi_shr (by omega) ?_)
local macro_rules | `(tactic| tb_start) => `(tactic| first | refine cmp_eq ?_ | refine cmp_lt ?_ | refine cmp_gt ?_ | refine cmp_le ?_ | refine cmp_ge ?_ | refine cmp_ne ?_ | refine cmp_eqS ?_ | refine cmp_eq4 ?_)
local macro_rules | `(tactic| kct_strs) => `(tactic| first | refine ib_add ?_ | refine ib_sub ?_ | refine ib_xor ?_ | refine ib_shr (by omega) ?_)
local macro_rules | `(tactic| ktu_off1L) => `(tactic| first | refine un_neg ?_ | refine un_not ?_)
-- tests
local macro_rules | `(tactic| kba_ints) => `(tactic| first | refine EvT_not ?_ | refine EvT_cmp ?_ | refine EvT_and ?_ | refine EvT_and_nil ?_ | refine EvT_or ?_ | refine EvT_or_nil ?_ | refine EvT_name ?_ | refine EvT_call ?_ | refine EvT_sub ?_ | refine EvT_bin ?_)
-- statements
local macro_rules | `(tactic| kcf_m) => `(tactic| first | refine Ex1_if ?_ | refine Ex1_ret ?_ | refine Ex1_assign ?_ | refine Ex1_aug (by rfl) ?_ | refine Ex1_unpack4 ?_ | refine Ex1_unpack2 ?_ | refine Ex1_unpack3 ?_ | refine Ex1_swap ?_ | refine Ex1_assert ?_)
-- calls
local macro_rules | `(tactic| tb_rel) => `(tactic| first | refine call_bits ?_)
-- items
local macro_rules | `(tactic| ktu_offI) => `(tactic| first | refine sub_tup (by decide) (by decide) rfl rfl ?_ | refine sub_list (by decide) (by decide) rfl ?_)
-- a test's two ways: what cannot be goes at once
local macro_rules | `(tactic| krn_off) => `(tactic| ((refine ⟨fun h => ?_, fun h => ?_⟩) <;> first
    | (exact absurd h (by decide))
    | ((simp only [decide_eq_true_eq, decide_eq_false_iff_not, beq_iff_eq, bne_iff_ne, beq_eq_false_iff_ne, bne_eq_false_iff_eq, Bool.not_eq_true', Bool.not_eq_false', Bool.not_true, Bool.not_false, ne_eq, Decidable.not_not, gt_iff_lt, ge_iff_le, Int.not_lt, Int.not_le] at h) <;> (try (exfalso; omega)))
    | skip))
local macro_rules | `(tactic| kbo_bools) => `(tactic| first
    | ((with_reducible show EvE _ _ _ _ _ _ _); kaf_pre)
    | ((with_reducible show BinW _ _ _ _ _ _ _); kaf_suf) | ((with_reducible show CmpW _ _ _ _ _ _ _); tb_start) | ((with_reducible show InpW _ _ _ _ _ _ _); kct_strs)
    | ((with_reducible show Ex1 _ _ _ _ _ _ _); kcf_m)
    | ((with_reducible show ExS _ _ _ _ _ _ _); (first | refine ExS_cons ?_ | refine ExS_nil ?_))
    | ((with_reducible show EvT _ _ _ _ _ _ _); kba_ints)
    | ((with_reducible show EvL _ _ _ _ _ _ _ _); (first | refine EvL_cons ?_ | refine EvL_nil ?_))
    | ((with_reducible show UnW _ _ _ _ _ _); ktu_off1L)
    | ((with_reducible show CallW _ _ _ _ _ _); tb_rel)
    | ((with_reducible show SubW _ _ _ _ _ _ _ _); ktu_offI)
    | ((with_reducible show (_ = true → _) ∧ (_ = false → _)); krn_off)
    | ((with_reducible show (_ = false → _) ∧ (_ = true → _)); krn_off)
    | ((with_reducible show _ = true ∧ _); refine ⟨?_, ?_⟩)
    | ((with_reducible show ∃ b, TruthIs _ b ∧ _); refine ⟨_, rfl, ?_⟩)
    | ((with_reducible show List.length _ ≤ 1000 ∧ _); refine ⟨by simp only [List.length_cons, List.length_nil]; decide, ?_⟩)
    | ((with_reducible show ∃ fv, V.raw _ = V.raw fv ∧ _); refine ⟨_, rfl, by assumption, ?_⟩)
    | ((with_reducible show ∃ id, MethIs _ _ _ id ∧ _); refine ⟨_, meth_bits, ?_⟩)
    | ((with_reducible show ∃ a, _); (first | refine ⟨_, _, _, _, rfl, ?_⟩ | refine ⟨_, _, rfl, ?_⟩ | refine ⟨_, _, _, rfl, ?_⟩)))

section
variable {S : Sy} {d : Nat} {X : Prop}
theorem repl_len {x : Str} {y : Str} {z : Str} (h : Txt.replace x y z = y) : True := trivial
local macro_rules | `(tactic| kaf_pre) => `(tactic| first | refine EvE_name (by rfl) ?_ | refine EvE_glob (by with_reducible assumption) ?_ | refine EvE_built (by with_reducible assumption) ?_ | refine EvE_int ?_ | refine EvE_binop ?_ | refine EvE_cmp ?_ | refine EvE_unop ?_ | refine EvE_str ?_ | refine EvE_bool ?_ | refine EvE_call ?_ | refine EvE_methW0 ?_ | ((with_reducible show EvE _ _ _ (Expr.Call (Expr.Attribute _ (Str.ofString "replace") _) [Expr.Constant (Const.str _) _ _, Expr.Constant (Const.str _) _ _] [] _) _ _ _); refine EvE_replace' ?_) | refine EvE_methW ?_ | refine EvE_sub ?_ | refine EvE_tuple ?_ | refine EvE_ifexp ?_ | refine EvE_one ?_ | refine EvE_and ?_ | refine EvE_or ?_ | refine EvE_list ?_ | refine EvE_walrus ?_)
local macro_rules | `(tactic| kcf_m) => `(tactic| first | refine Ex1_if ?_ | refine Ex1_ret ?_ | refine Ex1_assign ?_ | refine Ex1_aug (by rfl) ?_ | ((with_reducible show Ex1 _ _ _ (Stmt.Assign [Expr.Tuple [Expr.Name _ _, Expr.Name _ _] _ _] (Expr.Tuple _ _ _) _) _ _ _); refine Ex1_swap2 ?_) | refine Ex1_unpackA2 ?_ | refine Ex1_assert ?_)
local macro_rules | `(tactic| tb_start) => `(tactic| first | refine cmp_eq ?_ | refine cmp_lt ?_ | refine cmp_gt ?_ | refine cmp_le ?_ | refine cmp_ge ?_ | refine cmp_ne ?_ | refine cmp_eqSb (by with_reducible assumption) ?_ | refine cmp_neSb (by with_reducible assumption) ?_ | refine cmp_eqS ?_ | refine cmp_neS ?_ | refine cmp_in (by with_reducible assumption) ?_ | refine cmp_notin (by with_reducible assumption) ?_)
local macro_rules | `(tactic| kaf_suf) => `(tactic| first | refine bi_add ?_ | refine bi_sub ?_ | refine bi_addSb (by omega) (by omega) (by with_reducible assumption) ?_)
local macro_rules | `(tactic| tb_rel) => `(tactic| first | refine call_bits ?_ | refine call_lower (by omega) (by with_reducible assumption) ?_ | refine call_strip (by omega) (by with_reducible assumption) ?_ | refine call_rstripC (by omega) (by with_reducible assumption) ?_ | refine call_splitA (by omega) rfl (by with_reducible assumption) ?_ | refine call_splitB (by omega) rfl (by with_reducible assumption) ?_ | refine call_lenL1 ?_ | refine call_lenL2 ?_ | refine call_lenS (by omega) ?_ | refine call_intS10 (by with_reducible assumption) (by omega) ?_ | refine call_intS (by with_reducible assumption) (by omega) ?_ | refine call_abs ?_ | refine call_pow (by decide) (by decide) ?_)
local macro_rules | `(tactic| kbo_bools) => `(tactic| first
    | ((with_reducible show EvE _ _ _ _ _ _ _); kaf_pre)
    | ((with_reducible show BinW _ _ _ _ _ _ _); kaf_suf) | ((with_reducible show CmpW _ _ _ _ _ _ _); tb_start) | ((with_reducible show InpW _ _ _ _ _ _ _); kct_strs)
    | ((with_reducible show Ex1 _ _ _ _ _ _ _); kcf_m)
    | ((with_reducible show ExS _ _ _ _ _ _ _); (first | refine ExS_cons ?_ | refine ExS_nil ?_))
    | ((with_reducible show EvT _ _ _ _ _ _ _); kba_ints)
    | ((with_reducible show EvL _ _ _ _ _ _ _ _); (first | refine EvL_cons ?_ | refine EvL_nil ?_))
    | ((with_reducible show UnW _ _ _ _ _ _); ktu_off1L)
    | ((with_reducible show CallW _ _ _ _ _ _); tb_rel)
    | ((with_reducible show SubW _ _ _ _ _ _ _ _); ktu_offI)
    | ((with_reducible show (_ = true → _) ∧ (_ = false → _)); krn_off)
    | ((with_reducible show (_ = false → _) ∧ (_ = true → _)); krn_off)
    | ((with_reducible show _ = true ∧ _); refine ⟨?_, ?_⟩)
    | ((with_reducible show ∃ b, TruthIs _ b ∧ _); refine ⟨_, rfl, ?_⟩)
    | ((with_reducible show List.length _ ≤ 1000 ∧ _); refine ⟨by simp only [List.length_cons, List.length_nil]; decide, ?_⟩)
    | ((with_reducible show ∃ fv, V.raw _ = V.raw fv ∧ _); refine ⟨_, rfl, by with_reducible assumption, ?_⟩)
    | ((with_reducible show ∃ id, MethW _ _ _ id ∧ _); (first | with_reducible apply mx_bits | with_reducible apply mx_lower | with_reducible apply mx_strip | with_reducible apply mx_rstrip | with_reducible apply mx_split | with_reducible apply mx_startswith))
    | ((with_reducible show ∃ a, _); (first | refine ⟨_, _, .inl rfl, ?_⟩ | refine ⟨_, _, .inr rfl, ?_⟩ | refine ⟨_, _, rfl, by omega, by with_reducible assumption, ?_⟩ | refine ⟨_, _, rfl, ?_⟩ | refine ⟨_, rfl, rfl, ?_⟩)))

local macro_rules | `(tactic| tb_rel) => `(tactic| first | refine call_exc ?_ | refine call_splitB (by omega) rfl (by with_reducible assumption) ?_ | refine call_splitA (by omega) rfl (by with_reducible assumption) ?_ | refine call_rstripC (by omega) (by with_reducible assumption) ?_)
local macro_rules | `(tactic| kaf_suf) => `(tactic| first | (refine bi_modS (by omega) ?_; intro zz) | refine bi_add ?_ | refine bi_addSb (by omega) (by omega) (by with_reducible assumption) ?_)
local macro_rules | `(tactic| tb_start) => `(tactic| first | refine cmp_in (by with_reducible assumption) ?_ | refine cmp_notin (by with_reducible assumption) ?_ | refine cmp_eqSb (by with_reducible assumption) ?_ | refine cmp_neSb (by with_reducible assumption) ?_)
local macro_rules | `(tactic| ktu_offI) => `(tactic| first | refine sub_list (by decide) (by decide) rfl ?_ | refine sub_strb (by omega) (by omega) (by omega) (by with_reducible assumption) ?_)
set_option maxHeartbeats 4000000 in
theorem mfs0 (F : Facts S) {s0 s : Str} {v : Rat} {p : Int} {P : V → Prop} (l0 : s0.length ≤ 900) (l1 : s.length ≤ 900)
    (e1 : Txt.replace s0 " " "" = s) (c1 : Txt.contains s "+-" = false) (c2 : Txt.contains s "(" = false) (c3 : Txt.contains s "," = false)
    (ha : ∀ (Q : V → Prop), (∀ r, QR false v p r → Q r.v) → CallW S (d + 9) (.raw (gl S "from_str")) [.str s, .int p, .str "f"] Q X)
    (hb : ∀ (Q : V → Prop), (∀ r, QR true v p r → Q r.v) → CallW S (d + 9) (.raw (gl S "from_str")) [.str s, .int p, .str "c"] Q X)
    (h : ∀ a b, QR false v p a → QR true v p b → P (.tup [a.v, b.v])) :
    CallW S (d + 10) (.raw (gl S "mpi_from_str")) [.str s0, .int p] P X := by
  have f1 := F.g_round_floor
  have f2 := F.g_round_ceiling
  have f3 := F.f38.glob'
  have f4 := F.f38.can
  have f5 := F.b_ValueError
  have k1 : CanCall S (.type "ValueError") := .inr (.inr ⟨_, rfl⟩)
  refine CallW_def (d := d + 9) F.f42 _ _ (binds_42_2 F.f42 _ _) (by decide) (by decide) (by decide) rfl rfl rfl ?_
  repeat' kbo_bools
  refine ha _ fun a qa => ?_
  repeat' kbo_bools
  refine hb _ fun b qb => ?_
  repeat' kbo_bools
  exact h a b qa qb
set_option maxHeartbeats 4000000 in
theorem mfs3 (F : Facts S) {s0 s x y : Str} {vx vy : Rat} {p : Int} {P : V → Prop} (l0 : s0.length ≤ 900) (l1 : s.length ≤ 900)
    (e1 : Txt.replace s0 " " "" = s) (c1 : Txt.contains s "+-" = true) (c2 : Txt.split s "+-" = [x, y])
    (hab : ∀ (Q : V → Prop), (∀ a b, AB false vx vy p a b → Q (.tup [a.v, b.v])) → CallW S (d + 9) (.raw (gl S "mpi_from_str_a_b")) [.str x, .str y, .bool false, .int p] Q X)
    (h : ∀ a b, AB false vx vy p a b → P (.tup [a.v, b.v])) :
    CallW S (d + 10) (.raw (gl S "mpi_from_str")) [.str s0, .int p] P X := by
  have f1 := F.g_round_floor
  have f2 := F.g_round_ceiling
  have f3 := F.f38.glob'
  have f4 := F.f38.can
  have f5 := F.b_ValueError
  have f6 := F.f41.glob'
  have f7 := F.f41.can
  have k1 : CanCall S (.type "ValueError") := .inr (.inr ⟨_, rfl⟩)
  refine CallW_def (d := d + 9) F.f42 _ _ (binds_42_2 F.f42 _ _) (by decide) (by decide) (by decide) rfl rfl rfl ?_
  repeat' kbo_bools
  refine hab _ fun a b q => ?_
  exact h a b q
set_option maxHeartbeats 4000000 in
theorem mfs4 (F : Facts S) {s0 s s2 x y c0 : Str} {vx vy : Rat} {p : Int} {P : V → Prop} (l0 : s0.length ≤ 900) (l1 : s.length ≤ 900) (l2 : s2.length ≤ 900) (n1 : 1 ≤ s.length)
    (e1 : Txt.replace s0 " " "" = s) (c1 : Txt.contains s "+-" = false) (c2 : Txt.contains s "(" = true) (c3 : Txt.item s 0 = c0) (c4 : (c0 == ("(" : Str)) = false) (c5 : Txt.contains s ")" = true)
    (e2 : Txt.replace s ")" "" = s2) (c6 : Txt.contains s2 "%" = false) (c7 : Txt.split s2 "(" = [x, y])
    (hab : ∀ (Q : V → Prop), (∀ a b, AB false vx vy p a b → Q (.tup [a.v, b.v])) → CallW S (d + 9) (.raw (gl S "mpi_from_str_a_b")) [.str x, .str y, .bool false, .int p] Q X)
    (h : ∀ a b, AB false vx vy p a b → P (.tup [a.v, b.v])) :
    CallW S (d + 10) (.raw (gl S "mpi_from_str")) [.str s0, .int p] P X := by
  have f1 := F.g_round_floor
  have f2 := F.g_round_ceiling
  have f3 := F.f38.glob'
  have f4 := F.f38.can
  have f5 := F.b_ValueError
  have f6 := F.f41.glob'
  have f7 := F.f41.can
  have k1 : CanCall S (.type "ValueError") := .inr (.inr ⟨_, rfl⟩)
  refine CallW_def (d := d + 9) F.f42 _ _ (binds_42_2 F.f42 _ _) (by decide) (by decide) (by decide) rfl rfl rfl ?_
  repeat' kbo_bools
  refine hab _ fun a b q => ?_
  exact h a b q
set_option maxHeartbeats 4000000 in
theorem mfs5 (F : Facts S) {s0 s s2 s3 x y c0 c9 : Str} {vx vy : Rat} {p : Int} {P : V → Prop} (l0 : s0.length ≤ 900) (l1 : s.length ≤ 900) (l2 : s2.length ≤ 900) (l3 : s3.length ≤ 900) (n1 : 1 ≤ s.length) (n2 : 1 ≤ s2.length)
    (e1 : Txt.replace s0 " " "" = s) (c1 : Txt.contains s "+-" = false) (c2 : Txt.contains s "(" = true) (c3 : Txt.item s 0 = c0) (c4 : (c0 == ("(" : Str)) = false) (c5 : Txt.contains s ")" = true)
    (e2 : Txt.replace s ")" "" = s2) (c6 : Txt.contains s2 "%" = true) (c8 : Txt.item s2 (-1) = c9) (c10 : (c9 != ("%" : Str)) = false) (e3 : Txt.replace s2 "%" "" = s3) (c7 : Txt.split s3 "(" = [x, y])
    (hab : ∀ (Q : V → Prop), (∀ a b, AB true vx vy p a b → Q (.tup [a.v, b.v])) → CallW S (d + 9) (.raw (gl S "mpi_from_str_a_b")) [.str x, .str y, .bool true, .int p] Q X)
    (h : ∀ a b, AB true vx vy p a b → P (.tup [a.v, b.v])) :
    CallW S (d + 10) (.raw (gl S "mpi_from_str")) [.str s0, .int p] P X := by
  have f1 := F.g_round_floor
  have f2 := F.g_round_ceiling
  have f3 := F.f38.glob'
  have f4 := F.f38.can
  have f5 := F.b_ValueError
  have f6 := F.f41.glob'
  have f7 := F.f41.can
  have k1 : CanCall S (.type "ValueError") := .inr (.inr ⟨_, rfl⟩)
  refine CallW_def (d := d + 9) F.f42 _ _ (binds_42_2 F.f42 _ _) (by decide) (by decide) (by decide) rfl rfl rfl ?_
  repeat' kbo_bools
  refine hab _ fun a b q => ?_
  exact h a b q
set_option maxHeartbeats 4000000 in
theorem mfs1 (F : Facts S) {s0 s s2 s3 x y c0 : Str} {vx vy : Rat} {p : Int} {P : V → Prop} (l0 : s0.length ≤ 900) (l1 : s.length ≤ 900) (l2 : s2.length ≤ 900) (l3 : s3.length ≤ 900) (n1 : 1 ≤ s.length)
    (e1 : Txt.replace s0 " " "" = s) (c1 : Txt.contains s "+-" = false) (c2 : Txt.contains s "(" = false) (c3 : Txt.contains s "," = true) (c4 : Txt.contains s "[" = true) (c5 : Txt.contains s "]" = true)
    (c6 : Txt.item s 0 = c0) (c7 : (c0 == ("[" : Str)) = true) (e2 : Txt.replace s "[" "" = s2) (e3 : Txt.replace s2 "]" "" = s3) (c8 : Txt.split s3 "," = [x, y])
    (ha : ∀ (Q : V → Prop), (∀ r, QR false vx p r → Q r.v) → CallW S (d + 9) (.raw (gl S "from_str")) [.str x, .int p, .str "f"] Q X)
    (hb : ∀ (Q : V → Prop), (∀ r, QR true vy p r → Q r.v) → CallW S (d + 9) (.raw (gl S "from_str")) [.str y, .int p, .str "c"] Q X)
    (h : ∀ a b, QR false vx p a → QR true vy p b → P (.tup [a.v, b.v])) :
    CallW S (d + 10) (.raw (gl S "mpi_from_str")) [.str s0, .int p] P X := by
  have f1 := F.g_round_floor
  have f2 := F.g_round_ceiling
  have f3 := F.f38.glob'
  have f4 := F.f38.can
  have f5 := F.b_ValueError
  have f6 := F.f41.glob'
  have f7 := F.f41.can
  have k1 : CanCall S (.type "ValueError") := .inr (.inr ⟨_, rfl⟩)
  refine CallW_def (d := d + 9) F.f42 _ _ (binds_42_2 F.f42 _ _) (by decide) (by decide) (by decide) rfl rfl rfl ?_
  repeat' kbo_bools
  refine ha _ fun a qa => ?_
  repeat' kbo_bools
  refine hb _ fun b qb => ?_
  repeat' kbo_bools
  exact h a b qa qb
end

end Mine
end

section
open PySem PySem.W PySem.Calls PyProof.Rows
set_option Elab.async false
set_option maxRecDepth 100000
namespace Mine

-- expressions
local macro_rules | `(tactic| kaf_pre) => `(tactic| first | refine EvE_name (by rfl) ?_ | refine EvE_glob (by assumption) ?_ | refine EvE_built (by assumption) ?_ | refine EvE_int ?_ | refine EvE_binop ?_ | refine EvE_cmp ?_ | refine EvE_unop ?_ | refine EvE_str ?_ | refine EvE_bool ?_ | refine EvE_call ?_ | refine EvE_meth0 ?_ | refine EvE_meth ?_ | refine EvE_sub ?_ | refine EvE_tuple ?_ | refine EvE_ifexp ?_ | refine EvE_one ?_ | refine EvE_and ?_ | refine EvE_or ?_ | refine EvE_list ?_ | refine EvE_walrus ?_)
-- operators
local macro_rules | `(tactic| kaf_suf) => `(tactic| first | refine bi_add ?_ | refine bi_sub ?_ | refine bi_and ?_ | refine bi_xor ?_ | refine bi_shr (by omega) ?_)
local macro_rules | `(tactic| tb_start) => `(tactic| first | refine cmp_eq ?_ | refine cmp_lt ?_ | refine cmp_gt ?_ | refine cmp_le ?_ | refine cmp_ge ?_ | refine cmp_ne ?_ | refine cmp_eqS ?_ | refine cmp_eq4 ?_)
local macro_rules | `(tactic| kct_strs) => `(tactic| first | refine ib_add ?_ | refine ib_sub ?_ | refine ib_xor ?_ | refine ib_shr (by omega) ?_)
local macro_rules | `(tactic| ktu_off1L) => `(tactic| first | refine un_neg ?_ | refine un_not ?_)
-- tests
local macro_rules | `(tactic| kba_ints) => `(tactic| first | refine EvT_not ?_ | refine EvT_cmp ?_ | refine EvT_and ?_ | refine EvT_and_nil ?_ | refine EvT_or ?_ | refine EvT_or_nil ?_ | refine EvT_name ?_ | refine EvT_call ?_ | refine EvT_sub ?_ | refine EvT_bin ?_)
-- statements
local macro_rules | `(tactic| kcf_m) => `(tactic| first | refine Ex1_if ?_ | refine Ex1_ret ?_ | refine Ex1_assign ?_ | refine Ex1_aug (by rfl) ?_ | refine Ex1_unpack4 ?_ | refine Ex1_unpack2 ?_ | refine Ex1_unpack3 ?_ | refine Ex1_swap ?_ | refine Ex1_assert ?_)
-- calls
local macro_rules | `(tactic| tb_rel) => `(tactic| first | refine call_bits ?_)
-- items
local macro_rules | `(tactic| ktu_offI) => `(tactic| first | refine sub_tup (by decide) (by decide) rfl rfl ?_ | refine sub_list (by decide) (by decide) rfl ?_)
-- a test's two ways: what cannot be goes at once
local macro_rules | `(tactic| krn_off) => `(tactic| ((refine ⟨fun h => ?_, fun h => ?_⟩) <;> first
    | (exact absurd h (by decide))
    | ((simp only [decide_eq_true_eq, decide_eq_false_iff_not, beq_iff_eq, bne_iff_ne, beq_eq_false_iff_ne, bne_eq_false_iff_eq, Bool.not_eq_true', Bool.not_eq_false', Bool.not_true, Bool.not_false, ne_eq, Decidable.not_not, gt_iff_lt, ge_iff_le, Int.not_lt, Int.not_le] at h) <;> (try (exfalso; omega)))
    | skip))
local macro_rules | `(tactic| kbo_bools) => `(tactic| first
    | ((with_reducible show EvE _ _ _ _ _ _ _); kaf_pre)
    | ((with_reducible show BinW _ _ _ _ _ _ _); kaf_suf) | ((with_reducible show CmpW _ _ _ _ _ _ _); tb_start) | ((with_reducible show InpW _ _ _ _ _ _ _); kct_strs)
    | ((with_reducible show Ex1 _ _ _ _ _ _ _); kcf_m)
    | ((with_reducible show ExS _ _ _ _ _ _ _); (first | refine ExS_cons ?_ | refine ExS_nil ?_))
    | ((with_reducible show EvT _ _ _ _ _ _ _); kba_ints)
    | ((with_reducible show EvL _ _ _ _ _ _ _ _); (first | refine EvL_cons ?_ | refine EvL_nil ?_))
    | ((with_reducible show UnW _ _ _ _ _ _); ktu_off1L)
    | ((with_reducible show CallW _ _ _ _ _ _); tb_rel)
    | ((with_reducible show SubW _ _ _ _ _ _ _ _); ktu_offI)
    | ((with_reducible show (_ = true → _) ∧ (_ = false → _)); krn_off)
    | ((with_reducible show (_ = false → _) ∧ (_ = true → _)); krn_off)
    | ((with_reducible show _ = true ∧ _); refine ⟨?_, ?_⟩)
    | ((with_reducible show ∃ b, TruthIs _ b ∧ _); refine ⟨_, rfl, ?_⟩)
    | ((with_reducible show List.length _ ≤ 1000 ∧ _); refine ⟨by simp only [List.length_cons, List.length_nil]; decide, ?_⟩)
    | ((with_reducible show ∃ fv, V.raw _ = V.raw fv ∧ _); refine ⟨_, rfl, by assumption, ?_⟩)
    | ((with_reducible show ∃ id, MethIs _ _ _ id ∧ _); refine ⟨_, meth_bits, ?_⟩)
    | ((with_reducible show ∃ a, _); (first | refine ⟨_, _, _, _, rfl, ?_⟩ | refine ⟨_, _, rfl, ?_⟩ | refine ⟨_, _, _, rfl, ?_⟩)))

section
variable {S : Sy} {d : Nat} {X : Prop}
local macro_rules | `(tactic| kaf_pre) => `(tactic| first | refine EvE_name (by rfl) ?_ | refine EvE_glob (by with_reducible assumption) ?_ | refine EvE_built (by with_reducible assumption) ?_ | refine EvE_int ?_ | refine EvE_binop ?_ | refine EvE_cmp ?_ | refine EvE_unop ?_ | refine EvE_str ?_ | refine EvE_bool ?_ | refine EvE_call ?_ | refine EvE_methW0 ?_ | ((with_reducible show EvE _ _ _ (Expr.Call (Expr.Attribute _ (Str.ofString "replace") _) [Expr.Constant (Const.str _) _ _, Expr.Constant (Const.str _) _ _] [] _) _ _ _); refine EvE_replace' ?_) | refine EvE_methW ?_ | refine EvE_sub ?_ | refine EvE_tuple ?_ | refine EvE_ifexp ?_ | refine EvE_one ?_ | refine EvE_and ?_ | refine EvE_or ?_ | refine EvE_list ?_ | refine EvE_walrus ?_)
local macro_rules | `(tactic| kcf_m) => `(tactic| first | refine Ex1_if ?_ | refine Ex1_ret ?_ | refine Ex1_assign ?_ | refine Ex1_aug (by rfl) ?_ | ((with_reducible show Ex1 _ _ _ (Stmt.Assign [Expr.Tuple [Expr.Name _ _, Expr.Name _ _] _ _] (Expr.Tuple _ _ _) _) _ _ _); refine Ex1_swap2 ?_) | refine Ex1_unpackA2 ?_ | refine Ex1_assert ?_)
local macro_rules | `(tactic| tb_start) => `(tactic| first | refine cmp_eq ?_ | refine cmp_lt ?_ | refine cmp_gt ?_ | refine cmp_le ?_ | refine cmp_ge ?_ | refine cmp_ne ?_ | refine cmp_eqSb (by with_reducible assumption) ?_ | refine cmp_neSb (by with_reducible assumption) ?_ | refine cmp_eqS ?_ | refine cmp_neS ?_ | refine cmp_in (by with_reducible assumption) ?_ | refine cmp_notin (by with_reducible assumption) ?_)
local macro_rules | `(tactic| kaf_suf) => `(tactic| first | refine bi_add ?_ | refine bi_sub ?_ | refine bi_addSb (by omega) (by omega) (by with_reducible assumption) ?_)
local macro_rules | `(tactic| tb_rel) => `(tactic| first | refine call_bits ?_ | refine call_lower (by omega) (by with_reducible assumption) ?_ | refine call_strip (by omega) (by with_reducible assumption) ?_ | refine call_rstripC (by omega) (by with_reducible assumption) ?_ | refine call_splitA (by omega) rfl (by with_reducible assumption) ?_ | refine call_splitB (by omega) rfl (by with_reducible assumption) ?_ | refine call_lenL1 ?_ | refine call_lenL2 ?_ | refine call_lenS (by omega) ?_ | refine call_intS10 (by with_reducible assumption) (by omega) ?_ | refine call_intS (by with_reducible assumption) (by omega) ?_ | refine call_abs ?_ | refine call_pow (by decide) (by decide) ?_)
local macro_rules | `(tactic| kbo_bools) => `(tactic| first
    | ((with_reducible show EvE _ _ _ _ _ _ _); kaf_pre)
    | ((with_reducible show BinW _ _ _ _ _ _ _); kaf_suf) | ((with_reducible show CmpW _ _ _ _ _ _ _); tb_start) | ((with_reducible show InpW _ _ _ _ _ _ _); kct_strs)
    | ((with_reducible show Ex1 _ _ _ _ _ _ _); kcf_m)
    | ((with_reducible show ExS _ _ _ _ _ _ _); (first | refine ExS_cons ?_ | refine ExS_nil ?_))
    | ((with_reducible show EvT _ _ _ _ _ _ _); kba_ints)
    | ((with_reducible show EvL _ _ _ _ _ _ _ _); (first | refine EvL_cons ?_ | refine EvL_nil ?_))
    | ((with_reducible show UnW _ _ _ _ _ _); ktu_off1L)
    | ((with_reducible show CallW _ _ _ _ _ _); tb_rel)
    | ((with_reducible show SubW _ _ _ _ _ _ _ _); ktu_offI)
    | ((with_reducible show (_ = true → _) ∧ (_ = false → _)); krn_off)
    | ((with_reducible show (_ = false → _) ∧ (_ = true → _)); krn_off)
    | ((with_reducible show _ = true ∧ _); refine ⟨?_, ?_⟩)
    | ((with_reducible show ∃ b, TruthIs _ b ∧ _); refine ⟨_, rfl, ?_⟩)
    | ((with_reducible show List.length _ ≤ 1000 ∧ _); refine ⟨by simp only [List.length_cons, List.length_nil]; decide, ?_⟩)
    | ((with_reducible show ∃ fv, V.raw _ = V.raw fv ∧ _); refine ⟨_, rfl, by with_reducible assumption, ?_⟩)
    | ((with_reducible show ∃ id, MethW _ _ _ id ∧ _); (first | with_reducible apply mx_bits | with_reducible apply mx_lower | with_reducible apply mx_strip | with_reducible apply mx_rstrip | with_reducible apply mx_split | with_reducible apply mx_startswith))
    | ((with_reducible show ∃ a, _); (first | refine ⟨_, _, .inl rfl, ?_⟩ | refine ⟨_, _, .inr rfl, ?_⟩ | refine ⟨_, _, rfl, by omega, by with_reducible assumption, ?_⟩ | refine ⟨_, _, rfl, ?_⟩ | refine ⟨_, rfl, rfl, ?_⟩)))

local macro_rules | `(tactic| tb_rel) => `(tactic| first | refine call_exc ?_ | refine call_splitB (by omega) rfl (by with_reducible assumption) ?_ | refine call_splitA (by omega) rfl (by with_reducible assumption) ?_ | refine call_rstripC (by omega) (by with_reducible assumption) ?_)
local macro_rules | `(tactic| kaf_suf) => `(tactic| first | (refine bi_modS (by omega) ?_; intro zz) | refine bi_add ?_ | refine bi_addSb (by omega) (by omega) (by with_reducible assumption) ?_)
local macro_rules | `(tactic| tb_start) => `(tactic| first | refine cmp_in (by with_reducible assumption) ?_ | refine cmp_notin (by with_reducible assumption) ?_ | refine cmp_eqSb (by with_reducible assumption) ?_ | refine cmp_neSb (by with_reducible assumption) ?_)
local macro_rules | `(tactic| ktu_offI) => `(tactic| first | refine sub_list (by decide) (by decide) rfl ?_ | refine sub_strb (by omega) (by omega) (by omega) (by with_reducible assumption) ?_)
set_option maxHeartbeats 4000000 in
theorem mfs2e (F : Facts S) {s0 s x y0 y z0 z ee xy xz t1 t2 c0 : Str} {vx vy : Rat} {p : Int} {P : V → Prop} (l0 : s0.length ≤ 900) (l1 : s.length ≤ 900) (n1 : 1 ≤ s.length) (lx : x.length ≤ 900) (ly0 : y0.length ≤ 900) (ly : y.length ≤ 900) (lz0 : z0.length ≤ 900) (lz : z.length ≤ 900) (le : ee.length ≤ 900) (lxy : xy.length ≤ 900) (lxz : xz.length ≤ 900)
    (e1 : Txt.replace s0 " " "" = s) (c1 : Txt.contains s "+-" = false) (c2 : Txt.contains s "(" = false) (c3 : Txt.contains s "," = true) (c4 : Txt.contains s "[" = true) (c5 : Txt.contains s "]" = true)
    (c6 : Txt.item s 0 = c0) (c7 : (c0 == ("[" : Str)) = false) (c8 : Txt.split s "[" = [x, y0]) (c9 : Txt.split y0 "," = [y, z0])
    (c10 : Txt.contains s "e" = true) (c11 : Txt.split z0 "]" = [z, ee])
    (a1 : x ++ y = xy) (a2 : xy ++ ee = t1) (a3 : x ++ z = xz) (a4 : xz ++ ee = t2)
    (ha : ∀ (Q : V → Prop), (∀ r, QR false vx p r → Q r.v) → CallW S (d + 9) (.raw (gl S "from_str")) [.str t1, .int p, .str "f"] Q X)
    (hb : ∀ (Q : V → Prop), (∀ r, QR true vy p r → Q r.v) → CallW S (d + 9) (.raw (gl S "from_str")) [.str t2, .int p, .str "c"] Q X)
    (h : ∀ a b, QR false vx p a → QR true vy p b → P (.tup [a.v, b.v])) :
    CallW S (d + 10) (.raw (gl S "mpi_from_str")) [.str s0, .int p] P X := by
  have f1 := F.g_round_floor
  have f2 := F.g_round_ceiling
  have f3 := F.f38.glob'
  have f4 := F.f38.can
  have f5 := F.b_ValueError
  have f6 := F.f41.glob'
  have f7 := F.f41.can
  have k1 : CanCall S (.type "ValueError") := .inr (.inr ⟨_, rfl⟩)
  refine CallW_def (d := d + 9) F.f42 _ _ (binds_42_2 F.f42 _ _) (by decide) (by decide) (by decide) rfl rfl rfl ?_
  repeat' kbo_bools
  refine ha _ fun a qa => ?_
  repeat' kbo_bools
  refine hb _ fun b qb => ?_
  repeat' kbo_bools
  exact h a b qa qb
set_option maxHeartbeats 4000000 in
theorem mfs2n (F : Facts S) {s0 s x y0 y z0 z ee xy xz t1 t2 c0 : Str} {vx vy : Rat} {p : Int} {P : V → Prop} (l0 : s0.length ≤ 900) (l1 : s.length ≤ 900) (n1 : 1 ≤ s.length) (lx : x.length ≤ 900) (ly0 : y0.length ≤ 900) (ly : y.length ≤ 900) (lz0 : z0.length ≤ 900) (lz : z.length ≤ 900) (le : ee.length ≤ 900) (lxy : xy.length ≤ 900) (lxz : xz.length ≤ 900)
    (e1 : Txt.replace s0 " " "" = s) (c1 : Txt.contains s "+-" = false) (c2 : Txt.contains s "(" = false) (c3 : Txt.contains s "," = true) (c4 : Txt.contains s "[" = true) (c5 : Txt.contains s "]" = true)
    (c6 : Txt.item s 0 = c0) (c7 : (c0 == ("[" : Str)) = false) (c8 : Txt.split s "[" = [x, y0]) (c9 : Txt.split y0 "," = [y, z0])
    (c10 : Txt.contains s "e" = false) (c11 : Txt.rstripChars z0 "]" = z) (hee : ee = "")
    (a1 : x ++ y = xy) (a2 : xy ++ ee = t1) (a3 : x ++ z = xz) (a4 : xz ++ ee = t2)
    (ha : ∀ (Q : V → Prop), (∀ r, QR false vx p r → Q r.v) → CallW S (d + 9) (.raw (gl S "from_str")) [.str t1, .int p, .str "f"] Q X)
    (hb : ∀ (Q : V → Prop), (∀ r, QR true vy p r → Q r.v) → CallW S (d + 9) (.raw (gl S "from_str")) [.str t2, .int p, .str "c"] Q X)
    (h : ∀ a b, QR false vx p a → QR true vy p b → P (.tup [a.v, b.v])) :
    CallW S (d + 10) (.raw (gl S "mpi_from_str")) [.str s0, .int p] P X := by
  subst hee
  have f1 := F.g_round_floor
  have f2 := F.g_round_ceiling
  have f3 := F.f38.glob'
  have f4 := F.f38.can
  have f5 := F.b_ValueError
  have f6 := F.f41.glob'
  have f7 := F.f41.can
  have k1 : CanCall S (.type "ValueError") := .inr (.inr ⟨_, rfl⟩)
  refine CallW_def (d := d + 9) F.f42 _ _ (binds_42_2 F.f42 _ _) (by decide) (by decide) (by decide) rfl rfl rfl ?_
  repeat' kbo_bools
  refine ha _ fun a qa => ?_
  repeat' kbo_bools
  refine hb _ fun b qb => ?_
  repeat' kbo_bools
  exact h a b qa qb
end

end Mine
end

section
open PySem PySem.W PySem.NumText PySem.StrLaws PySem.Builtin.Str
set_option Elab.async false
set_option maxRecDepth 100000
namespace Mine
abbrev Dg (l : List Nat) : Prop := ∀ c ∈ l, 48 ≤ c ∧ c ≤ 57
def mi (n : Bool) : List Nat := if n then [45] else []
def fr (f : Option (List Nat)) : List Nat := match f with | none => [] | some f => 46 :: f
def er (e : Option (Bool × List Nat)) : List Nat := match e with | none => [] | some (m, ds) => 101 :: (mi m ++ ds)
/-- a numeral's signs -/
def nt (n : Bool) (i : List Nat) (f : Option (List Nat)) (e : Option (Bool × List Nat)) : List Nat := mi n ++ i ++ fr f ++ er e
def sv (n : Bool) (k : Nat) : Int := if n then -(k : Int) else k
def fd (f : Option (List Nat)) : List Nat := f.getD []
def ev (e : Option (Bool × List Nat)) : Int := match e with | none => 0 | some (m, ds) => sv m (digitsVal ds)
structure NOk (n : Bool) (i : List Nat) (f : Option (List Nat)) (e : Option (Bool × List Nat)) : Prop where
  di : Dg i
  ne : i ≠ []
  df : Dg (fd f)
  de : ∀ m ds, e = some (m, ds) → Dg ds ∧ ds ≠ [] ∧ ds.length ≤ 60
  li : i.length ≤ 60
  lf : (fd f).length ≤ 60
theorem mi_mem {n : Bool} {c : Nat} (h : c ∈ mi n) : c = 45 := by unfold mi at h; split at h <;> simp at h; exact h
theorem nt_mem {n i f e} (ok : NOk n i f e) {c : Nat} (h : c ∈ nt n i f e) : c = 45 ∨ c = 46 ∨ c = 101 ∨ (48 ≤ c ∧ c ≤ 57) := by
  unfold nt at h
  rcases List.mem_append.mp h with h | h
  · rcases List.mem_append.mp h with h | h
    · rcases List.mem_append.mp h with h | h
      · exact .inl (mi_mem h)
      · exact .inr (.inr (.inr (ok.di c h)))
    · cases f with
      | none => simp [fr] at h
      | some f =>
        rcases List.mem_cons.mp h with h | h
        · exact .inr (.inl h)
        · exact .inr (.inr (.inr (ok.df c h)))
  · cases e with
    | none => simp [er] at h
    | some e =>
      obtain ⟨m, ds⟩ := e
      rcases List.mem_cons.mp h with h | h
      · exact .inr (.inr (.inl h))
      · rcases List.mem_append.mp h with h | h
        · exact .inl (mi_mem h)
        · exact .inr (.inr (.inr ((ok.de m ds rfl).1 c h)))
theorem mi_len (n : Bool) : (mi n).length ≤ 1 := by unfold mi; split <;> simp
theorem nt_len {n i f e} (ok : NOk n i f e) : (nt n i f e).length ≤ 190 := by
  have h1 := mi_len n
  have h2 := ok.li
  have h3 := ok.lf
  unfold nt
  have h4 : (fr f).length ≤ 61 := by cases f <;> simp [fr, fd] at *; omega
  have h5 : (er e).length ≤ 62 := by
    cases e with
    | none => simp [er]
    | some e =>
      obtain ⟨m, ds⟩ := e
      have := (ok.de m ds rfl).2.2
      have := mi_len m
      simp [er]; omega
  simp; omega
theorem num2_of {l : List Nat} (hl : l.length ≤ 300) (h : ∀ c ∈ l, c = 45 ∨ c = 46 ∨ c = 101 ∨ (48 ≤ c ∧ c ≤ 57)) : Num2 (T l) := by
  have no : ∀ k : Nat, k ≠ 45 → k ≠ 46 → k ≠ 101 → (k < 48 ∨ 57 < k) → k ∉ cp (T l) := fun k h1 h2 h3 h4 hk => by
    have := h k hk; omega
  have st : ∀ (p : Str) (k : Nat), k ∈ cp p → k ≠ 45 → k ≠ 46 → k ≠ 101 → (k < 48 ∨ 57 < k) → Txt.startswith (T l) p = false := fun p k h0 h1 h2 h3 h4 => starts_no h0 (no k h1 h2 h3 h4)
  have nm : ∀ (p : Str) (k : Nat), k ∈ cp p → k ≠ 45 → k ≠ 46 → k ≠ 101 → (k < 48 ∨ 57 < k) → T l ≠ p := fun p k h0 h1 h2 h3 h4 e => no k h1 h2 h3 h4 (by rw [e]; exact h0)
  refine ⟨by rw [len_T]; exact hl, lower_id fun c hc => ?_, strip_id fun c hc => ?_, ?_, ?_, ?_, ?_, ?_⟩
  · have := h c hc; omega
  · have hc := h c hc
    have key : ∀ c : Nat, c < 128 → (c = 45 ∨ c = 46 ∨ c = 101 ∨ (48 ≤ c ∧ c ≤ 57)) → Unicode.isSpace c = false := by decide +kernel
    exact key c (by omega) hc
  · simp only [List.mem_cons, List.not_mem_nil, or_false, not_or]
    exact ⟨nm _ 110 (by decide +kernel) (by decide) (by decide) (by decide) (by decide), nm _ 110 (by decide +kernel) (by decide) (by decide) (by decide) (by decide), nm _ 110 (by decide +kernel) (by decide) (by decide) (by decide) (by decide),
      nm _ 110 (by decide +kernel) (by decide) (by decide) (by decide) (by decide), nm _ 111 (by decide +kernel) (by decide) (by decide) (by decide) (by decide), nm _ 111 (by decide +kernel) (by decide) (by decide) (by decide) (by decide), nm _ 111 (by decide +kernel) (by decide) (by decide) (by decide) (by decide)⟩
  · intro p hp
    simp only [List.mem_cons, List.not_mem_nil, or_false] at hp
    rcases hp with rfl | rfl | rfl | rfl
    · exact st _ 98 (by decide +kernel) (by decide) (by decide) (by decide) (by decide)
    · exact st _ 98 (by decide +kernel) (by decide) (by decide) (by decide) (by decide)
    · exact st _ 66 (by decide +kernel) (by decide) (by decide) (by decide) (by decide)
    · exact st _ 66 (by decide +kernel) (by decide) (by decide) (by decide) (by decide)
  · intro p hp
    simp only [List.mem_cons, List.not_mem_nil, or_false] at hp
    rcases hp with rfl | rfl | rfl | rfl
    · exact st _ 120 (by decide +kernel) (by decide) (by decide) (by decide) (by decide)
    · exact st _ 120 (by decide +kernel) (by decide) (by decide) (by decide) (by decide)
    · exact st _ 88 (by decide +kernel) (by decide) (by decide) (by decide) (by decide)
    · exact st _ 88 (by decide +kernel) (by decide) (by decide) (by decide) (by decide)
  · intro p hp
    simp only [List.mem_cons, List.not_mem_nil, or_false] at hp
    rcases hp with rfl | rfl
    · exact st _ 111 (by decide +kernel) (by decide) (by decide) (by decide) (by decide)
    · exact st _ 111 (by decide +kernel) (by decide) (by decide) (by decide) (by decide)
  · exact contains_no (c := 47) (by decide +kernel) (no 47 (by decide) (by decide) (by decide) (by decide))
end Mine
end

section
open PySem PySem.W PySem.NumText PySem.StrLaws PySem.Builtin.Str
set_option Elab.async false
set_option maxRecDepth 100000
namespace Mine
theorem dv_eq (l : List Nat) : digitsVal l = l.foldl (fun acc c => acc * 10 + (c - 48)) 0 := rfl
theorem dv_foldl (b : List Nat) : ∀ a : Nat, b.foldl (fun acc c => acc * 10 + (c - 48)) a = a * 10 ^ b.length + digitsVal b := by
  induction b with
  | nil => intro a; simp [dv_eq]
  | cons c b ih =>
    intro a
    rw [dv_eq, List.foldl_cons, List.foldl_cons, ih, ih (0 * 10 + (c - 48)), List.length_cons, Nat.pow_succ]
    rw [Nat.add_mul, Nat.zero_mul, Nat.zero_add, Nat.mul_assoc, Nat.mul_comm 10]; omega
theorem dv_append (a b : List Nat) : digitsVal (a ++ b) = digitsVal a * 10 ^ b.length + digitsVal b := by
  rw [dv_eq, List.foldl_append, dv_foldl]; rfl
theorem dv_zeros (k : Nat) : digitsVal (List.replicate k 48) = 0 := by
  induction k with
  | zero => rfl
  | succ k ih => rw [List.replicate_succ, show (48 : Nat) :: List.replicate k 48 = [48] ++ List.replicate k 48 from rfl, dv_append, ih, show digitsVal [48] = 0 from rfl, Nat.zero_mul]
theorem tw_mem : ∀ (l : List Nat) (b : Nat), b ∈ l.takeWhile (· == 48) → b = 48
  | [], _, h => by cases h
  | a :: l, b, h => by
    rw [List.takeWhile_cons] at h
    split at h
    · rename_i ha
      rcases List.mem_cons.mp h with rfl | h
      · simpa using ha
      · exact tw_mem l b h
    · cases h
theorem cutZ_split (f : List Nat) : ∃ k, f = cutZ f ++ List.replicate k 48 := by
  refine ⟨(f.reverse.takeWhile (· == 48)).length, ?_⟩
  have e : f.reverse.takeWhile (· == 48) ++ f.reverse.dropWhile (· == 48) = f.reverse := List.takeWhile_append_dropWhile
  have e2 : f.reverse.takeWhile (· == 48) = List.replicate (f.reverse.takeWhile (· == 48)).length 48 := by
    refine List.eq_replicate_iff.mpr ⟨rfl, fun b hb => ?_⟩
    exact tw_mem _ b hb
  have e3 : f = (f.reverse.dropWhile (· == 48)).reverse ++ (f.reverse.takeWhile (· == 48)).reverse := by
    rw [← List.reverse_append, e, List.reverse_reverse]
  have e4 : (f.reverse.takeWhile (· == 48)).reverse = List.replicate (f.reverse.takeWhile (· == 48)).length 48 := by
    conv => lhs; rw [e2]
    rw [List.reverse_replicate]
  conv => lhs; rw [e3, e4]
  rfl
theorem int_T {n : Bool} {j : List Nat} (h : Dg j) (hne : j ≠ []) (hl : j.length ≤ 600) : PySem.intText? (T (mi n ++ j)) = some (sv n (digitsVal j)) := by
  cases n with
  | false =>
    exact intText_digits (x := T (mi false ++ j)) h hne (by rw [len_T]; simp [mi]; omega)
  | true =>
    exact intText_neg (x := T (mi true ++ j)) (cs := j) rfl h hne (by rw [len_T]; simp [mi]; omega)
theorem val_cut (n : Bool) (i f : List Nat) (e : Int) : ((sv n (digitsVal (i ++ cutZ f)) : Int) : Rat) * q10 (e - (cutZ f).length) = ((sv n (digitsVal (i ++ f)) : Int) : Rat) * q10 (e - f.length) := by
  obtain ⟨k, hk⟩ := cutZ_split f
  have e1 : digitsVal (i ++ f) = digitsVal (i ++ cutZ f) * 10 ^ k := by
    conv => lhs; rw [hk]
    rw [← List.append_assoc, dv_append, dv_zeros, List.length_replicate, Nat.add_zero]
  have e2 : f.length = (cutZ f).length + k := by
    conv => lhs; rw [hk]
    rw [List.length_append, List.length_replicate]
  have e3 : sv n (digitsVal (i ++ f)) = sv n (digitsVal (i ++ cutZ f)) * 10 ^ k := by
    rw [e1]; unfold sv; split <;> simp [Int.neg_mul]
  have e4 : q10 (e - (cutZ f).length) = ((10 ^ k : Int) : Rat) * q10 (e - f.length) := by
    rw [← q10_nat, ← q10_add]; congr 1; omega
  rw [e3, e4, Rat.intCast_mul]; grind
theorem cutZ_len (f : List Nat) : (cutZ f).length ≤ f.length := by
  obtain ⟨k, hk⟩ := cutZ_split f
  have := congrArg List.length hk
  rw [List.length_append] at this; omega
theorem cutZ_dg {f : List Nat} (h : Dg f) : Dg (cutZ f) := by
  obtain ⟨k, hk⟩ := cutZ_split f
  exact fun c hc => h c (by rw [hk]; exact List.mem_append_left _ hc)
theorem dv_lt (l : List Nat) (h : Dg l) : digitsVal l < 10 ^ l.length := by
  induction l with
  | nil => decide
  | cons c l ih =>
    have h1 := ih fun d hd => h d (.tail _ hd)
    have h2 := h c (.head _)
    rw [show c :: l = [c] ++ l from rfl, dv_append]
    have e : digitsVal [c] = c - 48 := by rw [dv_eq]; simp
    rw [e]
    show _ < 10 ^ ([c] ++ l).length
    rw [List.length_append, List.length_singleton, Nat.pow_add]
    have : (c - 48) * 10 ^ l.length ≤ 9 * 10 ^ l.length := Nat.mul_le_mul_right _ (by omega)
    omega
/-- a numeral's value -/
def nv (n : Bool) (i : List Nat) (f : Option (List Nat)) (e : Option (Bool × List Nat)) : Rat := ((sv n (digitsVal (i ++ fd f)) : Int) : Rat) * q10 (ev e - (fd f).length)
theorem str1 (s : String) (k : Nat) (h : Str.ofString s = ⟨#[k]⟩ := by decide +kernel) : Str.ofString s = ⟨#[k]⟩ := h
section
variable {S : Sy} {d : Nat} {X : Prop}
theorem num_fs (F : Facts S) {up : Bool} {n : Bool} {i : List Nat} {f : Option (List Nat)} {e : Option (Bool × List Nat)} {p : Int} {P : V → Prop} (ok : NOk n i f e) (hp : 1 ≤ p) (hp2 : p ≤ 10000) (he : -300 ≤ ev e ∧ ev e ≤ 300)
    (h : ∀ r, QR up (nv n i f e) p r → P r.v) : CallW S (d + 6) (.raw (gl S "from_str")) [.str (T (nt n i f e)), .int p, .str (rn up)] P X := by
  have hl := nt_len ok
  have hmem : ∀ c ∈ nt n i f e, c = 45 ∨ c = 46 ∨ c = 101 ∨ (48 ≤ c ∧ c ≤ 57) := fun c hc => nt_mem ok hc
  have hlf := ok.lf
  have hli := ok.li
  have hcl := cutZ_len (fd f)
  have hdg : Dg (i ++ cutZ (fd f)) := fun c hc => by
    rcases List.mem_append.mp hc with h | h
    · exact ok.di c h
    · exact cutZ_dg ok.df c h
  -- the pieces
  have A101 : 101 ∉ mi n ++ i ++ fr f := fun hc => by
    rcases List.mem_append.mp hc with h | h
    · rcases List.mem_append.mp h with h | h
      · have := mi_mem h; omega
      · have := ok.di _ h; omega
    · cases f with
      | none => simp [fr] at h
      | some f =>
        rcases List.mem_cons.mp h with h | h
        · omega
        · have := ok.df _ h; omega
  have A46 : 46 ∉ mi n ++ i := fun hc => by
    rcases List.mem_append.mp hc with h | h
    · have := mi_mem h; omega
    · have := ok.di _ h; omega
  have lA : (mi n ++ i ++ fr f).length ≤ 190 := by
    have : (nt n i f e).length = (mi n ++ i ++ fr f).length + (er e).length := by unfold nt; rw [List.length_append]
    omega
  have lmi : (mi n ++ i).length ≤ 190 := by have := mi_len n; simp; omega
  have l3 : (mi n ++ (i ++ cutZ (fd f))).length ≤ 200 := by have := mi_len n; simp; omega
  obtain ⟨N, hx1, hx3⟩ : ∃ N : Num1 (T (nt n i f e)) (sv n (digitsVal (i ++ cutZ (fd f)))) (ev e), N.x1 = T (mi n ++ i ++ fr f) ∧ N.x3 = T (mi n ++ (i ++ cutZ (fd f))) := by
    refine ⟨⟨T (mi n ++ i ++ fr f), T (mi n ++ (i ++ cutZ (fd f))), by rw [len_T]; omega, by rw [len_T]; omega, by rw [len_T]; omega, ?_, ?_, ?_, ?_, ?_⟩, rfl, rfl⟩
    · exact lower_id fun c hc => by have := hmem c hc; omega
    · rw [str1 "l" 108]; exact rstripC_id fun hc => by have := hmem _ hc; omega
    · rw [str1 "_" 95, show (Str.ofString "" : Str) = Str.empty from by decide +kernel]; exact replace_id fun hc => by have := hmem _ hc; omega
    · exact int_T hdg (by simp [ok.ne]) (by simp; omega)
    · rw [str1 "e" 101]
      cases e with
      | none =>
        have e1 : nt n i f none = mi n ++ i ++ fr f := by simp [nt, er]
        rw [e1]
        exact .inl ⟨rfl, split_none A101, rfl⟩
      | some e =>
        obtain ⟨m, ds⟩ := e
        obtain ⟨d1, d2, d3⟩ := ok.de m ds rfl
        refine .inr ⟨T (mi m ++ ds), split_two A101 (fun hc => ?_) rfl, int_T d1 d2 (by omega), by rw [len_T]; have := mi_len m; simp; omega⟩
        rcases List.mem_append.mp hc with h | h
        · have := mi_mem h; omega
        · have := d1 _ h; omega
  have hk : KIs (T (nt n i f e)) N.x1 N.x3 ((cutZ (fd f)).length : Int) := by
    rw [hx1, hx3]
    unfold KIs
    rw [str1 "." 46, str1 "0" 48]
    cases f with
    | none =>
      have e1 : mi n ++ i ++ fr none = mi n ++ i := by simp [fr]
      have e2 : mi n ++ (i ++ cutZ (fd none)) = mi n ++ i := by simp [fd, cutZ]
      rw [e1, e2]
      exact .inl ⟨split_none A46, rfl, by simp [fd, cutZ]⟩
    | some f =>
      have F46 : 46 ∉ f := fun hc => by have := ok.df _ hc; omega
      refine .inr ⟨T (mi n ++ i), T f, T (cutZ f), split_two A46 F46 (by rw [cp_T]; rfl), rstripZ f, ?_, by rw [T_append, List.append_assoc]; rfl, by rw [len_T]; rfl, by rw [len_T]; omega, by rw [len_T]; simp only [fd, Option.getD] at hlf; omega, by rw [len_T]; simp only [fd, Option.getD] at hlf hcl; omega⟩
      refine beq_eq_false_iff_ne.mpr fun hq => ?_
      have := congrArg PySem.Str.length hq
      rw [len_T, show (Str.ofString "" : Str).length = 0 from by decide +kernel] at this
      have hne := ok.ne
      exact hne (List.length_eq_zero_iff.mp (by simp at this; simp [this]))
  have hman : (sv n (digitsVal (i ++ cutZ (fd f)))).natAbs < 2 ^ 1000 := by
    have e0 : (sv n (digitsVal (i ++ cutZ (fd f)))).natAbs = digitsVal (i ++ cutZ (fd f)) := by unfold sv; split <;> simp
    rw [e0]
    have h1 := dv_lt _ hdg
    have h2 : (i ++ cutZ (fd f)).length ≤ 120 := by simp; omega
    have h3 : 10 ^ (i ++ cutZ (fd f)).length ≤ 10 ^ 120 := Nat.pow_le_pow_right (by decide) h2
    have h4 : (10 : Nat) ^ 120 < 2 ^ 1000 := by decide +kernel
    omega
  refine fs_walk F (num2_of (by omega) hmem) (fun Q hq => sme_walk (d := d + 4) F N hk hq) hp hp2 (by have := he; omega) hman fun r hr => h r ?_
  unfold nv
  rw [val_cut] at hr
  exact hr
end
end Mine
end

section
open PySem PySem.W PySem.NumText PySem.StrLaws PySem.Builtin.Str
set_option Elab.async false
set_option maxRecDepth 100000
namespace Mine
/-- a number's figures -/
def dgs (m : Nat) : List Nat := (Nat.toDigits 10 m).map Char.toNat
theorem dgs_val (m : Nat) : digitsVal (dgs m) = m := KIN.val_back m
theorem dgs_dg (m : Nat) : Dg (dgs m) := by
  intro c hc
  obtain ⟨ch, hch, e⟩ := List.mem_map.mp hc
  have r := PyProof.Rows.digit_range (Nat.isDigit_of_mem_toDigits (by decide) (by decide) hch)
  rw [← e]; exact r
theorem dgs_ne (m : Nat) : 1 ≤ (dgs m).length := by
  unfold dgs; rw [List.length_map]; exact toDigits_len_ge 10 m
theorem dgs_len {m k : Nat} (hk : 0 < k) (h : m < 10 ^ k) : (dgs m).length ≤ k := by
  have := (Nat.length_repr_le_iff (n := m) hk).mpr h
  unfold dgs; rw [List.length_map]
  have e : (Nat.repr m).length = (Nat.toDigits 10 m).length := by simp [Nat.repr]
  omega
theorem str_nat (m : Nat) : Str.ofString (toString (m : Int)) = T (dgs m) := by
  show Str.ofString (toString (Int.ofNat m)) = _
  rw [PyProof.Rows.text_ofNat]; rfl
theorem str_int (k : Int) : Str.ofString (toString k) = T (mi (decide (k < 0)) ++ dgs k.natAbs) := by
  cases k with
  | ofNat m => rw [show decide (Int.ofNat m < 0) = false from rfl]; exact str_nat m
  | negSucc m =>
    rw [show decide (Int.negSucc m < 0) = true from decide_eq_true (Int.negSucc_lt_zero m)]
    apply cp_inj
    have e : toString (Int.negSucc m) = "-" ++ Nat.repr (m + 1) := rfl
    rw [e, cp_T]
    have e2 := str_nat (m + 1)
    have e3 : toString ((m + 1 : Nat) : Int) = Nat.repr (m + 1) := rfl
    rw [e3] at e2
    have e4 := congrArg cp e2
    rw [cp_T] at e4
    show (Str.ofString ("-" ++ Nat.repr (m + 1))).cps.toList = _
    have e5 : (Str.ofString (Nat.repr (m + 1))).cps.toList = dgs (m + 1) := e4
    rw [PyProof.Rows.signs_ofString] at e5 ⊢
    rw [String.toList_append, List.map_append, e5]; rfl
def figs (u sc : Nat) : List Nat := List.replicate (sc + 1 - (dgs u).length) 48 ++ dgs u
theorem figs_len (u sc : Nat) : sc + 1 ≤ (figs u sc).length := by
  unfold figs; rw [List.length_append, List.length_replicate]; omega
theorem figs_len2 {u sc k : Nat} (h : u < 10 ^ k) (hk : 0 < k) : (figs u sc).length ≤ sc + 1 + k := by
  have := dgs_len hk h
  unfold figs; rw [List.length_append, List.length_replicate]; omega
theorem figs_val (u sc : Nat) : digitsVal (figs u sc) = u := by
  unfold figs; rw [dv_append, dv_zeros, Nat.zero_mul, Nat.zero_add, dgs_val]
theorem figs_dg (u sc : Nat) : Dg (figs u sc) := by
  intro c hc
  rcases List.mem_append.mp hc with h | h
  · rw [(List.mem_replicate.mp h).2]; omega
  · exact dgs_dg u c h
def li (u sc : Nat) : List Nat := (figs u sc).take ((figs u sc).length - sc)
def lf (u sc : Nat) : List Nat := (figs u sc).drop ((figs u sc).length - sc)
def lfo (u sc : Nat) : Option (List Nat) := if sc = 0 then none else some (lf u sc)
def leo (x : Option Int) : Option (Bool × List Nat) := x.map fun k => (decide (k < 0), dgs k.natAbs)
theorem li_lf (u sc : Nat) : li u sc ++ lf u sc = figs u sc := List.take_append_drop _ _
theorem lf_len (u sc : Nat) : (lf u sc).length = sc := by
  have := figs_len u sc
  unfold lf; rw [List.length_drop]; omega
theorem lfo_fd (u sc : Nat) : fd (lfo u sc) = lf u sc := by
  unfold lfo
  split
  · rename_i h
    have := lf_len u sc
    rw [h] at this
    exact (List.length_eq_zero_iff.mp (by rw [h]; exact this)).symm
  · rfl
theorem li0 (u : Nat) : li u 0 = figs u 0 := by
  unfold li; rw [Nat.sub_zero, List.take_length]
theorem ln_ok {minus : Bool} {u sc : Nat} {x : Option Int} (hu : u < 10 ^ 18) (hsc : sc ≤ 18) (hx : ∀ k, x = some k → k.natAbs ≤ 100) : NOk minus (li u sc) (lfo u sc) (leo x) := by
  have h1 := figs_len u sc
  have h2 := figs_len2 (sc := sc) hu (by decide)
  refine ⟨fun c hc => figs_dg u sc c (List.mem_of_mem_take hc), ?_, ?_, ?_, ?_, ?_⟩
  · intro h
    have := congrArg List.length h
    unfold li at this; rw [List.length_take] at this; simp at this; omega
  · rw [lfo_fd]; exact fun c hc => figs_dg u sc c (List.mem_of_mem_drop hc)
  · intro m ds h
    cases x with
    | none => cases h
    | some k =>
      injection h with h; injection h with h1 h2; subst h2
      have := hx k rfl
      have := dgs_len (m := k.natAbs) (k := 3) (by decide) (by omega)
      have h3 := dgs_ne k.natAbs
      exact ⟨dgs_dg _, fun h => by rw [h] at h3; simp at h3, by omega⟩
  · unfold li; rw [List.length_take]; omega
  · rw [lfo_fd, lf_len]; omega
theorem ev_leo (x : Option Int) : ev (leo x) = x.getD 0 := by
  cases x with
  | none => rfl
  | some k =>
    show sv (decide (k < 0)) (digitsVal (dgs k.natAbs)) = k
    rw [dgs_val]; unfold sv
    by_cases h : k < 0
    · rw [decide_eq_true h, if_pos rfl]; omega
    · rw [decide_eq_false h, if_neg Bool.false_ne_true]; omega
theorem ln_nv (minus : Bool) (u sc : Nat) (x : Option Int) : nv minus (li u sc) (lfo u sc) (leo x) = ((sv minus u : Int) : Rat) * q10 (x.getD 0 - sc) := by
  unfold nv
  rw [lfo_fd, li_lf, figs_val, ev_leo, lf_len]
/-- the text's parts, as the law writes them -/
theorem nt_plain (minus : Bool) (u sc : Nat) : nt minus (li u sc) (lfo u sc) (leo none) = mi minus ++ (li u sc ++ fr (lfo u sc)) := by
  unfold nt leo er; simp
theorem nt_exp (minus : Bool) (u sc : Nat) (k : Int) : nt minus (li u sc) (lfo u sc) (leo (some k)) = mi minus ++ (li u sc ++ fr (lfo u sc)) ++ 101 :: (mi (decide (k < 0)) ++ dgs k.natAbs) := by
  unfold nt leo er; simp
end Mine
end

section
open PySem
set_option Elab.async false
namespace Mine
def lN (size e : Int) : Int := if e < 0 then size * 2 ^ (-e).toNat else size
def lL (below e : Int) : Int := if e > 0 then below * 2 ^ e.toNat else below
theorem q2_inv (k : Nat) : q2 (-(k : Int)) * ((2 ^ k : Int) : Rat) = 1 := by
  rw [← q2_nat, ← q2_add]
  have : -(k : Int) + k = 0 := by omega
  rw [this]; rfl
theorem lNL {size below e : Int} {u : Rat} (hu : u * (below : Rat) = (size : Rat)) : (lN size e : Rat) * q2 e = u * (lL below e : Rat) := by
  unfold lN lL
  rcases (by omega : e < 0 ∨ e = 0 ∨ 0 < e) with h | h | h
  · rw [if_pos h, if_neg (by omega), Rat.intCast_mul, ← hu]
    have e1 : e = -(((-e).toNat : Nat) : Int) := by omega
    have := q2_inv (-e).toNat
    rw [← e1] at this
    grind
  · subst h; rw [if_neg (by decide), if_neg (by decide), q2_zero, Rat.mul_one, hu]
  · rw [if_neg (by omega), if_pos h, Rat.intCast_mul, ← hu]
    have e1 : e = ((e.toNat : Nat) : Int) := by omega
    have : q2 e = ((2 ^ e.toNat : Int) : Rat) := by
      conv => lhs; rw [e1]
      rw [q2_nat]
    rw [this]; grind
theorem lL_pos {below e : Int} (h : 0 < below) : 0 < lL below e := by
  unfold lL; split
  · exact Int.mul_pos h (Int.pow_pos (by decide))
  · exact h
theorem lN_pos {size e : Int} (h : 0 < size) : 0 < lN size e := by
  unfold lN; split
  · exact Int.mul_pos h (Int.pow_pos (by decide))
  · exact h
theorem rat_le_of_mul {a b c : Rat} (hc : 0 < c) (h : a * c ≤ b * c) : a ≤ b := Rat.le_of_mul_le_mul_right h hc
theorem rat_lt_of_mul {a b c : Rat} (hc : 0 < c) (h : a * c < b * c) : a < b := Rat.lt_of_mul_lt_mul_right h (Rat.le_of_lt hc)
/-- the whole part at one exponent -/
theorem whole_spec {size below e : Int} {u : Rat} (hb : 0 < below) (hu : u * (below : Rat) = (size : Rat)) :
    ((lN size e / lL below e : Int) : Rat) * q2 e ≤ u ∧ u < ((lN size e / lL below e + 1 : Int) : Rat) * q2 e ∧
    (lN size e % lL below e = 0 → u = ((lN size e / lL below e : Int) : Rat) * q2 e) ∧ (0 < lN size e % lL below e → ((lN size e / lL below e : Int) : Rat) * q2 e < u) := by
  have hL := lL_pos (e := e) hb
  have h := lNL (e := e) hu
  have hm := Int.mul_ediv_add_emod (lN size e) (lL below e)
  have r0 := Int.emod_nonneg (lN size e) (Int.ne_of_gt hL)
  have r1 := Int.emod_lt_of_pos (lN size e) hL
  generalize lN size e / lL below e = w at *
  generalize lN size e % lL below e = r at *
  generalize lN size e = N at *
  generalize lL below e = L at *
  have pL : (0 : Rat) < (L : Rat) := by exact_mod_cast hL
  have pq := q2_pos e
  have e1 : (N : Rat) = (L : Rat) * (w : Rat) + (r : Rat) := by rw [← hm, Rat.intCast_add, Rat.intCast_mul]
  rw [e1] at h
  have hr0 : (0 : Rat) ≤ (r : Rat) := by exact_mod_cast r0
  have hr1 : (r : Rat) < (L : Rat) := by exact_mod_cast r1
  have k1 := Rat.mul_nonneg hr0 (Rat.le_of_lt pq)
  have k2 := Rat.mul_lt_mul_of_pos_right hr1 pq
  refine ⟨rat_le_of_mul pL ?_, rat_lt_of_mul pL ?_, fun h0 => ?_, fun h0 => rat_lt_of_mul pL ?_⟩
  · grind
  · rw [Rat.intCast_add]; have : ((1 : Int) : Rat) = 1 := rfl
    rw [this]; grind
  · subst h0
    have hz : ((0 : Int) : Rat) = 0 := rfl
    rw [hz] at h
    refine Rat.le_antisymm (rat_le_of_mul pL ?_) (rat_le_of_mul pL ?_) <;> grind
  · have hr : (0 : Rat) < (r : Rat) := by exact_mod_cast h0
    have := Rat.mul_pos hr pq
    grind
theorem bits_range {size below : Int} {u : Rat} (hs : 0 < size) (hb : 0 < below) (hu : u * (below : Rat) = (size : Rat)) :
    q2 (bl size - bl below - 1) < u ∧ u < q2 (bl size - bl below + 1) := by
  obtain ⟨s1, s2, s3⟩ := bl_specI hs
  obtain ⟨b1, b2, b3⟩ := bl_specI hb
  have pb : (0 : Rat) < (below : Rat) := by exact_mod_cast hb
  have s1' : q2 (bl size - 1) ≤ (size : Rat) := by
    have : ((bl size : Int) - 1) = ((bl size - 1 : Nat) : Int) := by omega
    rw [this, q2_nat]; exact_mod_cast s1
  have s2' : (size : Rat) < q2 (bl size) := by rw [q2_nat]; exact_mod_cast s2
  have b1' : q2 (bl below - 1) ≤ (below : Rat) := by
    have : ((bl below : Int) - 1) = ((bl below - 1 : Nat) : Int) := by omega
    rw [this, q2_nat]; exact_mod_cast b1
  have b2' : (below : Rat) < q2 (bl below) := by rw [q2_nat]; exact_mod_cast b2
  constructor
  · refine rat_lt_of_mul pb ?_
    rw [hu]
    have e : q2 ((bl size : Int) - 1) = q2 (bl size - bl below - 1) * q2 (bl below) := by rw [← q2_add]; congr 1; omega
    have := Rat.mul_lt_mul_of_pos_left b2' (q2_pos (bl size - bl below - 1))
    rw [e] at s1'
    grind
  · refine rat_lt_of_mul pb ?_
    rw [hu]
    have e : q2 (bl size) = q2 (bl size - bl below + 1) * q2 (bl below - 1) := by rw [← q2_add]; congr 1; omega
    have := Rat.mul_le_mul_of_nonneg_left b1' (Rat.le_of_lt (q2_pos (bl size - bl below + 1)))
    rw [e] at s2'
    grind
/-- a whole part that has its length -/
structure Good (size below p e w r : Int) : Prop where
  hw : w = lN size e / lL below e
  hr : r = lN size e % lL below e
  lo : 2 ^ (p - 1).toNat ≤ w
theorem two_pow_q {p e : Int} (h : 0 ≤ p) : ((2 ^ p.toNat : Int) : Rat) * q2 e = q2 (p + e) := by
  have : p = (p.toNat : Int) := by omega
  conv => rhs; rw [this, q2_add, q2_nat]
theorem good_first {size below p : Int} {u : Rat} (hs : 0 < size) (hb : 0 < below) (hp : 1 ≤ p) (hu : u * (below : Rat) = (size : Rat)) {e : Int} (he : e = bl size - bl below - p) :
    Good size below p e (lN size e / lL below e) (lN size e % lL below e) := by
  refine ⟨rfl, rfl, ?_⟩
  have h1 := (bits_range hs hb hu).1
  have h2 := (whole_spec (e := e) hb hu).2.1
  have h3 : q2 (bl size - bl below - 1) = ((2 ^ (p - 1).toNat : Int) : Rat) * q2 e := by rw [two_pow_q (by omega)]; congr 1; omega
  rw [h3] at h1
  have := mul_q2_le (a := 2 ^ (p - 1).toNat) (b := lN size e / lL below e + 1) (E := e) (by grind)
  omega
theorem good_next {size below p : Int} {u : Rat} (hs : 0 < size) (hb : 0 < below) (hp : 1 ≤ p) (hu : u * (below : Rat) = (size : Rat)) {e w r : Int} (he : e = bl size - bl below - p) (g : Good size below p e w r) (hw : 2 ^ p.toNat ≤ w) :
    Good size below p (e + 1) (lN size (e + 1) / lL below (e + 1)) (lN size (e + 1) % lL below (e + 1)) ∧ lN size (e + 1) / lL below (e + 1) < 2 ^ p.toNat := by
  have h1 := (whole_spec (e := e) hb hu).1
  rw [← g.hw] at h1
  have h2 := le_mul_q2 e hw
  rw [two_pow_q (by omega)] at h2
  have h3 := (bits_range hs hb hu).2
  have k1 := (whole_spec (e := e + 1) hb hu).1
  have k2 := (whole_spec (e := e + 1) hb hu).2.1
  refine ⟨⟨rfl, rfl, ?_⟩, ?_⟩
  · have e2 : q2 (p + e) = ((2 ^ (p - 1).toNat : Int) : Rat) * q2 (e + 1) := by rw [two_pow_q (by omega)]; congr 1; omega
    rw [e2] at h2
    have := mul_q2_le (a := 2 ^ (p - 1).toNat) (b := lN size (e + 1) / lL below (e + 1) + 1) (E := e + 1) (by grind)
    omega
  · have e2 : q2 (bl size - bl below + 1) = ((2 ^ p.toNat : Int) : Rat) * q2 (e + 1) := by rw [two_pow_q (by omega)]; congr 1; omega
    rw [e2] at h3
    exact mul_q2_le (E := e + 1) (by grind)
theorem good_cell {size below p : Int} {u : Rat} (hb : 0 < below) (hp : 1 ≤ p) (hu : u * (below : Rat) = (size : Rat)) {e w r : Int} (g : Good size below p e w r) (hw : w < 2 ^ p.toNat) {dn : Bool} {M : Int}
    (hM : M = if dn = false ∧ 0 < r then w + 1 else w) : Cell dn u p M e ∧ 0 < M := by
  obtain ⟨k1, k2, k3, k4⟩ := whole_spec (e := e) hb hu
  have r0 := Int.emod_nonneg (lN size e) (Int.ne_of_gt (lL_pos (e := e) hb))
  rw [← g.hw] at k1 k2 k3 k4
  rw [← g.hr] at k3 k4 r0
  have hlo := g.lo
  have hp0 : (0 : Int) < 2 ^ (p - 1).toNat := Int.pow_pos (by decide)
  have e1 : ((w + 1 : Int) : Rat) = (w : Rat) + 1 := by rw [Rat.intCast_add]; rfl
  have e2 : ((w - 1 : Int) : Rat) = (w : Rat) - 1 := by rw [Rat.intCast_sub]; rfl
  have pq := q2_pos e
  refine ⟨cell_of ?_ ?_ (fun hd => ?_) (fun hd => ?_), ?_⟩
  · have := le_mul_q2 e hlo
    rw [two_pow_q (by omega)] at this
    grind
  · have := le_mul_q2 (u := w + 1) (v := 2 ^ p.toNat) e (by omega)
    rw [two_pow_q (by omega)] at this
    grind
  · subst hd
    rw [if_neg (by intro h; cases h.1)] at hM
    subst hM; exact ⟨k1, k2⟩
  · subst hd
    rcases (by omega : r = 0 ∨ 0 < r) with h0 | h0
    · rw [if_neg (by intro h; omega)] at hM
      subst hM
      have := k3 h0
      rw [e2]
      exact ⟨by grind, by rw [← this]; exact Rat.le_refl⟩
    · rw [if_pos ⟨rfl, h0⟩] at hM
      subst hM
      have : w + 1 - 1 = w := by omega
      rw [this]
      exact ⟨k4 h0, Rat.le_of_lt k2⟩
  · rw [hM]; split <;> omega
end Mine
end

section
open PySem PySem.W PySem.Calls PyProof.Rows PySem.NumText PySem.StrLaws PySem.Builtin PySem.Builtin.Str
set_option Elab.async false
set_option maxRecDepth 100000
namespace Mine

-- expressions
local macro_rules | `(tactic| kaf_pre) => `(tactic| first | refine EvE_name (by rfl) ?_ | refine EvE_glob (by assumption) ?_ | refine EvE_built (by assumption) ?_ | refine EvE_int ?_ | refine EvE_binop ?_ | refine EvE_cmp ?_ | refine EvE_unop ?_ | refine EvE_str ?_ | refine EvE_bool ?_ | refine EvE_call ?_ | refine EvE_meth0 ?_ | refine EvE_meth ?_ | refine EvE_sub ?_ | refine EvE_tuple ?_ | refine EvE_ifexp ?_ | refine EvE_one ?_ | refine EvE_and ?_ | refine EvE_or ?_ | refine EvE_list ?_ | refine EvE_walrus ?_)
-- operators
local macro_rules | `(tactic| kaf_suf) => `(tactic| first | refine bi_add ?_ | refine bi_sub ?_ | refine bi_and ?_ | refine bi_xor ?_ | refine bi_shr (by omega) ?_)
local macro_rules | `(tactic| tb_start) => `(tactic| first | refine cmp_eq ?_ | refine cmp_lt ?_ | refine cmp_gt ?_ | refine cmp_le ?_ | refine cmp_ge ?_ | refine cmp_ne ?_ | refine cmp_eqS ?_ | refine cmp_eq4 ?_)
local macro_rules | `(tactic| kct_strs) => `(tactic| first | refine ib_add ?_ | refine ib_sub ?_ | refine ib_xor ?_ | refine ib_shr (by omega) ?_)
local macro_rules | `(tactic| ktu_off1L) => `(tactic| first | refine un_neg ?_ | refine un_not ?_)
-- tests
local macro_rules | `(tactic| kba_ints) => `(tactic| first | refine EvT_not ?_ | refine EvT_cmp ?_ | refine EvT_and ?_ | refine EvT_and_nil ?_ | refine EvT_or ?_ | refine EvT_or_nil ?_ | refine EvT_name ?_ | refine EvT_call ?_ | refine EvT_sub ?_ | refine EvT_bin ?_)
-- statements
local macro_rules | `(tactic| kcf_m) => `(tactic| first | refine Ex1_if ?_ | refine Ex1_ret ?_ | refine Ex1_assign ?_ | refine Ex1_aug (by rfl) ?_ | refine Ex1_unpack4 ?_ | refine Ex1_unpack2 ?_ | refine Ex1_unpack3 ?_ | refine Ex1_swap ?_ | refine Ex1_assert ?_)
-- calls
local macro_rules | `(tactic| tb_rel) => `(tactic| first | refine call_bits ?_)
-- items
local macro_rules | `(tactic| ktu_offI) => `(tactic| first | refine sub_tup (by decide) (by decide) rfl rfl ?_ | refine sub_list (by decide) (by decide) rfl ?_)
-- a test's two ways: what cannot be goes at once
local macro_rules | `(tactic| krn_off) => `(tactic| ((refine ⟨fun h => ?_, fun h => ?_⟩) <;> first
    | (exact absurd h (by decide))
    | ((simp only [decide_eq_true_eq, decide_eq_false_iff_not, beq_iff_eq, bne_iff_ne, beq_eq_false_iff_ne, bne_eq_false_iff_eq, Bool.not_eq_true', Bool.not_eq_false', Bool.not_true, Bool.not_false, ne_eq, Decidable.not_not, gt_iff_lt, ge_iff_le, Int.not_lt, Int.not_le] at h) <;> (try (exfalso; omega)))
    | skip))
local macro_rules | `(tactic| kbo_bools) => `(tactic| first
    | ((with_reducible show EvE _ _ _ _ _ _ _); kaf_pre)
    | ((with_reducible show BinW _ _ _ _ _ _ _); kaf_suf) | ((with_reducible show CmpW _ _ _ _ _ _ _); tb_start) | ((with_reducible show InpW _ _ _ _ _ _ _); kct_strs)
    | ((with_reducible show Ex1 _ _ _ _ _ _ _); kcf_m)
    | ((with_reducible show ExS _ _ _ _ _ _ _); (first | refine ExS_cons ?_ | refine ExS_nil ?_))
    | ((with_reducible show EvT _ _ _ _ _ _ _); kba_ints)
    | ((with_reducible show EvL _ _ _ _ _ _ _ _); (first | refine EvL_cons ?_ | refine EvL_nil ?_))
    | ((with_reducible show UnW _ _ _ _ _ _); ktu_off1L)
    | ((with_reducible show CallW _ _ _ _ _ _); tb_rel)
    | ((with_reducible show SubW _ _ _ _ _ _ _ _); ktu_offI)
    | ((with_reducible show (_ = true → _) ∧ (_ = false → _)); krn_off)
    | ((with_reducible show (_ = false → _) ∧ (_ = true → _)); krn_off)
    | ((with_reducible show _ = true ∧ _); refine ⟨?_, ?_⟩)
    | ((with_reducible show ∃ b, TruthIs _ b ∧ _); refine ⟨_, rfl, ?_⟩)
    | ((with_reducible show List.length _ ≤ 1000 ∧ _); refine ⟨by simp only [List.length_cons, List.length_nil]; decide, ?_⟩)
    | ((with_reducible show ∃ fv, V.raw _ = V.raw fv ∧ _); refine ⟨_, rfl, by assumption, ?_⟩)
    | ((with_reducible show ∃ id, MethIs _ _ _ id ∧ _); refine ⟨_, meth_bits, ?_⟩)
    | ((with_reducible show ∃ a, _); (first | refine ⟨_, _, _, _, rfl, ?_⟩ | refine ⟨_, _, rfl, ?_⟩ | refine ⟨_, _, _, rfl, ?_⟩)))

section
variable {S : Sy} {d : Nat} {X : Prop}
local macro_rules | `(tactic| kaf_pre) => `(tactic| first | refine EvE_name (by rfl) ?_ | refine EvE_glob (by with_reducible assumption) ?_ | refine EvE_built (by with_reducible assumption) ?_ | refine EvE_int ?_ | refine EvE_binop ?_ | refine EvE_cmp ?_ | refine EvE_unop ?_ | refine EvE_str ?_ | refine EvE_bool ?_ | refine EvE_call ?_ | refine EvE_methW0 ?_ | ((with_reducible show EvE _ _ _ (Expr.Call (Expr.Attribute _ (Str.ofString "replace") _) [Expr.Constant (Const.str _) _ _, Expr.Constant (Const.str _) _ _] [] _) _ _ _); refine EvE_replace' ?_) | refine EvE_methW ?_ | refine EvE_slice_nsE ?_ | refine EvE_slice_snE ?_ | refine EvE_sub ?_ | refine EvE_tuple ?_ | refine EvE_ifexp ?_ | refine EvE_one ?_ | refine EvE_and ?_ | refine EvE_or ?_ | refine EvE_list ?_ | refine EvE_walrus ?_)
local macro_rules | `(tactic| kcf_m) => `(tactic| first | refine Ex1_if ?_ | refine Ex1_ret ?_ | refine Ex1_assign ?_ | refine Ex1_aug (by rfl) ?_ | ((with_reducible show Ex1 _ _ _ (Stmt.Assign [Expr.Tuple [Expr.Name _ _, Expr.Name _ _] _ _] (Expr.Tuple _ _ _) _) _ _ _); refine Ex1_swap2 ?_) | ((with_reducible show Ex1 _ _ _ (Stmt.Assign [Expr.Tuple [Expr.Name _ _, Expr.Name _ _, Expr.Name _ _] _ _] (Expr.Tuple _ _ _) _) _ _ _); refine Ex1_swap3 ?_) | refine Ex1_unpackA2 ?_ | refine Ex1_unpackA3 ?_ | refine Ex1_assert ?_)
local macro_rules | `(tactic| tb_start) => `(tactic| first | refine cmp_eq ?_ | refine cmp_lt ?_ | refine cmp_gt ?_ | refine cmp_le ?_ | refine cmp_ge ?_ | refine cmp_ne ?_ | refine cmp_eqSb (by with_reducible assumption) ?_ | refine cmp_neSb (by with_reducible assumption) ?_ | refine cmp_eqS ?_ | refine cmp_neS ?_ | refine cmp_in (by with_reducible assumption) ?_ | refine cmp_notin (by with_reducible assumption) ?_)
local macro_rules | `(tactic| kaf_suf) => `(tactic| first | refine bi_addE (by with_reducible assumption) ?_ | refine bi_subE (by with_reducible assumption) ?_ | refine bi_mulE (by with_reducible assumption) ?_ | refine bi_fdivE (by with_reducible assumption) (by decide) (by decide) ?_ | refine bi_modE (by with_reducible assumption) (by omega) ?_ | refine bi_powE (by with_reducible assumption) ?_ | refine bi_mulSE (by with_reducible assumption) ?_ | refine bi_addSb (by omega) (by omega) (by with_reducible assumption) ?_ | refine bi_add ?_ | refine bi_sub ?_ | refine bi_fdiv (by decide) (by decide) ?_ | refine bi_mod (by decide) ?_)
local macro_rules | `(tactic| tb_rel) => `(tactic| first | refine call_bitsE (by with_reducible assumption) ?_ | refine call_strE (by with_reducible assumption) ?_ | refine call_maxE (by with_reducible assumption) ?_ | refine call_lenSE (by with_reducible assumption) (by omega) ?_ | refine call_lenLE (by with_reducible assumption) ?_ | refine call_lenL1 ?_ | refine call_lenL2 ?_ | refine call_intS (by with_reducible assumption) (by omega) ?_ | refine call_absE (by with_reducible assumption) ?_ | refine call_abs ?_)
local macro_rules | `(tactic| ktu_off1L) => `(tactic| first | refine un_negE (by with_reducible assumption) ?_ | refine un_neg ?_ | refine un_not ?_)
local macro_rules | `(tactic| ktu_offI) => `(tactic| first | refine sub_tup (by decide) (by decide) rfl rfl ?_ | refine sub_listE (by with_reducible assumption) ?_ | refine sub_list (by decide) (by decide) rfl ?_ | refine sub_strb (by omega) (by omega) (by omega) (by with_reducible assumption) ?_)
local macro_rules | `(tactic| kbo_bools) => `(tactic| first
    | ((with_reducible show EvE _ _ _ _ _ _ _); kaf_pre)
    | ((with_reducible show BinW _ _ _ _ _ _ _); kaf_suf) | ((with_reducible show CmpW _ _ _ _ _ _ _); tb_start) | ((with_reducible show InpW _ _ _ _ _ _ _); kct_strs)
    | ((with_reducible show Ex1 _ _ _ _ _ _ _); kcf_m)
    | ((with_reducible show ExS _ _ _ _ _ _ _); (first | refine ExS_cons ?_ | refine ExS_nil ?_))
    | ((with_reducible show EvT _ _ _ _ _ _ _); kba_ints)
    | ((with_reducible show EvL _ _ _ _ _ _ _ _); (first | refine EvL_cons ?_ | refine EvL_nil ?_))
    | ((with_reducible show UnW _ _ _ _ _ _); ktu_off1L)
    | ((with_reducible show CallW _ _ _ _ _ _); tb_rel)
    | ((with_reducible show SubW _ _ _ _ _ _ _ _); ktu_offI)
    | ((with_reducible show (_ = true → _) ∧ (_ = false → _)); krn_off)
    | ((with_reducible show (_ = false → _) ∧ (_ = true → _)); krn_off)
    | ((with_reducible show _ = true ∧ _); refine ⟨?_, ?_⟩)
    | ((with_reducible show ∃ b, TruthIs _ b ∧ _); refine ⟨_, rfl, ?_⟩)
    | ((with_reducible show List.length _ ≤ 1000 ∧ _); refine ⟨by simp only [List.length_cons, List.length_nil]; decide, ?_⟩)
    | ((with_reducible show ∃ fv, V.raw _ = V.raw fv ∧ _); refine ⟨_, rfl, by with_reducible assumption, ?_⟩)
    | ((with_reducible show ∃ id, MethW _ _ _ id ∧ _); (first | with_reducible apply mx_bits | with_reducible apply mx_lower | with_reducible apply mx_strip | with_reducible apply mx_rstrip | with_reducible apply mx_split | with_reducible apply mx_startswith))
    | ((with_reducible show ∃ a, _); (first | refine ⟨_, _, .inl rfl, ?_⟩ | refine ⟨_, _, .inr rfl, ?_⟩ | refine ⟨_, _, _, rfl, rfl, by omega, by with_reducible assumption, ?_⟩ | refine ⟨_, _, rfl, by omega, by with_reducible assumption, ?_⟩ | refine ⟨_, _, _, rfl, ?_⟩ | refine ⟨_, _, rfl, ?_⟩ | refine ⟨_, rfl, rfl, ?_⟩)))
theorem nat_list {ns : List Int} {k : Nat} (h : k < ns.length) : (ns.map V.int)[k]? = some (.int (ns.getD k 0)) := by
  simp [List.getElem?_map, List.getElem?_eq_getElem h]
set_option maxHeartbeats 4000000 in
theorem mixed_walk (F : Facts S) {ns : List Int} {k : Int} {P : V → Prop} (hk : 0 ≤ k) (hk2 : k ≤ 10) (hl : ns.length ≤ 63) (h : ∀ r, 0 ≤ r → P (.int r)) :
    CallW S (d + 1) (.raw (gl S "_law_mixed")) [.list (ns.map .int), .int k] P X := by
  have f1 := F.b_len
  have c1 : CanCall S (.builtin "len") := .inr (.inl ⟨_, rfl⟩)
  have p64 : (0 : Int) ≤ 64 ∧ (Builtin.Int.intBits 2 : Int) * 64 ≤ 2 ^ 27 ∧ (2 : Int) ^ (64 : Int).toNat = 18446744073709551616 := by decide +kernel
  have p190 : (0 : Int) ≤ 190 ∧ (Builtin.Int.intBits 2 : Int) * 190 ≤ 2 ^ 27 ∧ (2 : Int) ^ (190 : Int).toNat = 1569275433846670190958947355801916604025588861116008628224 := by decide +kernel
  have hlen : (ns.map V.int).length ≤ 1000000 ∧ ((ns.map V.int).length : Int) = ns.length := by rw [List.length_map]; exact ⟨by omega, rfl⟩
  have m1 : IntMulOk (k + 1) 1442695040888963407 ∧ (k + 1) * 1442695040888963407 = (k + 1) * 1442695040888963407 := ⟨.of_right (by decide +kernel), rfl⟩
  rcases Int.lt_or_le k ns.length with hc | hc
  · have hx : 0 ≤ k ∧ k < 2 ^ 63 ∧ (ns.map V.int)[k.toNat]? = some (.int (ns.getD k.toNat 0)) := ⟨hk, by omega, nat_list (by omega)⟩
    generalize ns.getD k.toNat 0 = n at hx
    have m2 : IntMulOk n 6364136223846793005 ∧ n * 6364136223846793005 = n * 6364136223846793005 := ⟨.of_right (by decide +kernel), rfl⟩
    refine CallW_def (d := d) F.f44 _ _ (binds_44_2 F.f44 _ _) (by decide) (by decide) (by decide) rfl rfl rfl ?_
    repeat' kbo_bools
    · exact h _ (by omega)
    · exact h _ (by rw [Int.fmod_eq_emod_of_nonneg _ (by decide)]; exact Int.emod_nonneg _ (by decide))
  · have m2 : IntMulOk 0 6364136223846793005 ∧ (0 : Int) * 6364136223846793005 = 0 := ⟨.of_right (by decide +kernel), rfl⟩
    refine CallW_def (d := d) F.f44 _ _ (binds_44_2 F.f44 _ _) (by decide) (by decide) (by decide) rfl rfl rfl ?_
    repeat' kbo_bools
    exact h _ (by rw [Int.fmod_eq_emod_of_nonneg _ (by decide)]; exact Int.emod_nonneg _ (by decide))

end
end Mine
end

section
open PySem PySem.W PySem.Calls PyProof.Rows PySem.NumText PySem.StrLaws PySem.Builtin PySem.Builtin.Str
set_option Elab.async false
set_option maxRecDepth 100000
namespace Mine

-- expressions
local macro_rules | `(tactic| kaf_pre) => `(tactic| first | refine EvE_name (by rfl) ?_ | refine EvE_glob (by assumption) ?_ | refine EvE_built (by assumption) ?_ | refine EvE_int ?_ | refine EvE_binop ?_ | refine EvE_cmp ?_ | refine EvE_unop ?_ | refine EvE_str ?_ | refine EvE_bool ?_ | refine EvE_call ?_ | refine EvE_meth0 ?_ | refine EvE_meth ?_ | refine EvE_sub ?_ | refine EvE_tuple ?_ | refine EvE_ifexp ?_ | refine EvE_one ?_ | refine EvE_and ?_ | refine EvE_or ?_ | refine EvE_list ?_ | refine EvE_walrus ?_)
-- operators
local macro_rules | `(tactic| kaf_suf) => `(tactic| first | refine bi_add ?_ | refine bi_sub ?_ | refine bi_and ?_ | refine bi_xor ?_ | refine bi_shr (by omega) ?_)
local macro_rules | `(tactic| tb_start) => `(tactic| first | refine cmp_eq ?_ | refine cmp_lt ?_ | refine cmp_gt ?_ | refine cmp_le ?_ | refine cmp_ge ?_ | refine cmp_ne ?_ | refine cmp_eqS ?_ | refine cmp_eq4 ?_)
local macro_rules | `(tactic| kct_strs) => `(tactic| first | refine ib_add ?_ | refine ib_sub ?_ | refine ib_xor ?_ | refine ib_shr (by omega) ?_)
local macro_rules | `(tactic| ktu_off1L) => `(tactic| first | refine un_neg ?_ | refine un_not ?_)
-- tests
local macro_rules | `(tactic| kba_ints) => `(tactic| first | refine EvT_not ?_ | refine EvT_cmp ?_ | refine EvT_and ?_ | refine EvT_and_nil ?_ | refine EvT_or ?_ | refine EvT_or_nil ?_ | refine EvT_name ?_ | refine EvT_call ?_ | refine EvT_sub ?_ | refine EvT_bin ?_)
-- statements
local macro_rules | `(tactic| kcf_m) => `(tactic| first | refine Ex1_if ?_ | refine Ex1_ret ?_ | refine Ex1_assign ?_ | refine Ex1_aug (by rfl) ?_ | refine Ex1_unpack4 ?_ | refine Ex1_unpack2 ?_ | refine Ex1_unpack3 ?_ | refine Ex1_swap ?_ | refine Ex1_assert ?_)
-- calls
local macro_rules | `(tactic| tb_rel) => `(tactic| first | refine call_bits ?_)
-- items
local macro_rules | `(tactic| ktu_offI) => `(tactic| first | refine sub_tup (by decide) (by decide) rfl rfl ?_ | refine sub_list (by decide) (by decide) rfl ?_)
-- a test's two ways: what cannot be goes at once
local macro_rules | `(tactic| krn_off) => `(tactic| ((refine ⟨fun h => ?_, fun h => ?_⟩) <;> first
    | (exact absurd h (by decide))
    | ((simp only [decide_eq_true_eq, decide_eq_false_iff_not, beq_iff_eq, bne_iff_ne, beq_eq_false_iff_ne, bne_eq_false_iff_eq, Bool.not_eq_true', Bool.not_eq_false', Bool.not_true, Bool.not_false, ne_eq, Decidable.not_not, gt_iff_lt, ge_iff_le, Int.not_lt, Int.not_le] at h) <;> (try (exfalso; omega)))
    | skip))
local macro_rules | `(tactic| kbo_bools) => `(tactic| first
    | ((with_reducible show EvE _ _ _ _ _ _ _); kaf_pre)
    | ((with_reducible show BinW _ _ _ _ _ _ _); kaf_suf) | ((with_reducible show CmpW _ _ _ _ _ _ _); tb_start) | ((with_reducible show InpW _ _ _ _ _ _ _); kct_strs)
    | ((with_reducible show Ex1 _ _ _ _ _ _ _); kcf_m)
    | ((with_reducible show ExS _ _ _ _ _ _ _); (first | refine ExS_cons ?_ | refine ExS_nil ?_))
    | ((with_reducible show EvT _ _ _ _ _ _ _); kba_ints)
    | ((with_reducible show EvL _ _ _ _ _ _ _ _); (first | refine EvL_cons ?_ | refine EvL_nil ?_))
    | ((with_reducible show UnW _ _ _ _ _ _); ktu_off1L)
    | ((with_reducible show CallW _ _ _ _ _ _); tb_rel)
    | ((with_reducible show SubW _ _ _ _ _ _ _ _); ktu_offI)
    | ((with_reducible show (_ = true → _) ∧ (_ = false → _)); krn_off)
    | ((with_reducible show (_ = false → _) ∧ (_ = true → _)); krn_off)
    | ((with_reducible show _ = true ∧ _); refine ⟨?_, ?_⟩)
    | ((with_reducible show ∃ b, TruthIs _ b ∧ _); refine ⟨_, rfl, ?_⟩)
    | ((with_reducible show List.length _ ≤ 1000 ∧ _); refine ⟨by simp only [List.length_cons, List.length_nil]; decide, ?_⟩)
    | ((with_reducible show ∃ fv, V.raw _ = V.raw fv ∧ _); refine ⟨_, rfl, by assumption, ?_⟩)
    | ((with_reducible show ∃ id, MethIs _ _ _ id ∧ _); refine ⟨_, meth_bits, ?_⟩)
    | ((with_reducible show ∃ a, _); (first | refine ⟨_, _, _, _, rfl, ?_⟩ | refine ⟨_, _, rfl, ?_⟩ | refine ⟨_, _, _, rfl, ?_⟩)))

section
variable {S : Sy} {d : Nat} {X : Prop}
local macro_rules | `(tactic| kaf_pre) => `(tactic| first | refine EvE_name (by rfl) ?_ | refine EvE_glob (by with_reducible assumption) ?_ | refine EvE_built (by with_reducible assumption) ?_ | refine EvE_int ?_ | refine EvE_binop ?_ | refine EvE_cmp ?_ | refine EvE_unop ?_ | refine EvE_str ?_ | refine EvE_bool ?_ | refine EvE_call ?_ | refine EvE_methW0 ?_ | ((with_reducible show EvE _ _ _ (Expr.Call (Expr.Attribute _ (Str.ofString "replace") _) [Expr.Constant (Const.str _) _ _, Expr.Constant (Const.str _) _ _] [] _) _ _ _); refine EvE_replace' ?_) | refine EvE_methW ?_ | refine EvE_slice_nsE ?_ | refine EvE_slice_snE ?_ | refine EvE_sub ?_ | refine EvE_tuple ?_ | refine EvE_ifexp ?_ | refine EvE_one ?_ | refine EvE_and ?_ | refine EvE_or ?_ | refine EvE_list ?_ | refine EvE_walrus ?_)
local macro_rules | `(tactic| kcf_m) => `(tactic| first | refine Ex1_if ?_ | refine Ex1_ret ?_ | refine Ex1_assign ?_ | refine Ex1_aug (by rfl) ?_ | ((with_reducible show Ex1 _ _ _ (Stmt.Assign [Expr.Tuple [Expr.Name _ _, Expr.Name _ _] _ _] (Expr.Tuple _ _ _) _) _ _ _); refine Ex1_swap2 ?_) | ((with_reducible show Ex1 _ _ _ (Stmt.Assign [Expr.Tuple [Expr.Name _ _, Expr.Name _ _, Expr.Name _ _] _ _] (Expr.Tuple _ _ _) _) _ _ _); refine Ex1_swap3 ?_) | refine Ex1_unpackA2 ?_ | refine Ex1_unpackA3 ?_ | refine Ex1_assert ?_)
local macro_rules | `(tactic| tb_start) => `(tactic| first | refine cmp_eq ?_ | refine cmp_lt ?_ | refine cmp_gt ?_ | refine cmp_le ?_ | refine cmp_ge ?_ | refine cmp_ne ?_ | refine cmp_eqSb (by with_reducible assumption) ?_ | refine cmp_neSb (by with_reducible assumption) ?_ | refine cmp_eqS ?_ | refine cmp_neS ?_ | refine cmp_in (by with_reducible assumption) ?_ | refine cmp_notin (by with_reducible assumption) ?_)
local macro_rules | `(tactic| kaf_suf) => `(tactic| first | refine bi_addE (by with_reducible assumption) ?_ | refine bi_subE (by with_reducible assumption) ?_ | refine bi_mulE (by with_reducible assumption) ?_ | refine bi_fdivE (by with_reducible assumption) (by decide) (by decide) ?_ | refine bi_modE (by with_reducible assumption) (by omega) ?_ | refine bi_powE (by with_reducible assumption) ?_ | refine bi_mulSE (by with_reducible assumption) ?_ | refine bi_addSb (by omega) (by omega) (by with_reducible assumption) ?_ | refine bi_add ?_ | refine bi_sub ?_ | refine bi_fdiv (by decide) (by decide) ?_ | refine bi_mod (by decide) ?_)
local macro_rules | `(tactic| tb_rel) => `(tactic| first | refine call_bitsE (by with_reducible assumption) ?_ | refine call_strE (by with_reducible assumption) ?_ | refine call_maxE (by with_reducible assumption) ?_ | refine call_lenSE (by with_reducible assumption) (by omega) ?_ | refine call_lenLE (by with_reducible assumption) ?_ | refine call_lenL1 ?_ | refine call_lenL2 ?_ | refine call_intS (by with_reducible assumption) (by omega) ?_ | refine call_absE (by with_reducible assumption) ?_ | refine call_abs ?_)
local macro_rules | `(tactic| ktu_off1L) => `(tactic| first | refine un_negE (by with_reducible assumption) ?_ | refine un_neg ?_ | refine un_not ?_)
local macro_rules | `(tactic| ktu_offI) => `(tactic| first | refine sub_tup (by decide) (by decide) rfl rfl ?_ | refine sub_listE (by with_reducible assumption) ?_ | refine sub_list (by decide) (by decide) rfl ?_ | refine sub_strb (by omega) (by omega) (by omega) (by with_reducible assumption) ?_)
local macro_rules | `(tactic| kbo_bools) => `(tactic| first
    | ((with_reducible show EvE _ _ _ _ _ _ _); kaf_pre)
    | ((with_reducible show BinW _ _ _ _ _ _ _); kaf_suf) | ((with_reducible show CmpW _ _ _ _ _ _ _); tb_start) | ((with_reducible show InpW _ _ _ _ _ _ _); kct_strs)
    | ((with_reducible show Ex1 _ _ _ _ _ _ _); kcf_m)
    | ((with_reducible show ExS _ _ _ _ _ _ _); (first | refine ExS_cons ?_ | refine ExS_nil ?_))
    | ((with_reducible show EvT _ _ _ _ _ _ _); kba_ints)
    | ((with_reducible show EvL _ _ _ _ _ _ _ _); (first | refine EvL_cons ?_ | refine EvL_nil ?_))
    | ((with_reducible show UnW _ _ _ _ _ _); ktu_off1L)
    | ((with_reducible show CallW _ _ _ _ _ _); tb_rel)
    | ((with_reducible show SubW _ _ _ _ _ _ _ _); ktu_offI)
    | ((with_reducible show (_ = true → _) ∧ (_ = false → _)); krn_off)
    | ((with_reducible show (_ = false → _) ∧ (_ = true → _)); krn_off)
    | ((with_reducible show _ = true ∧ _); refine ⟨?_, ?_⟩)
    | ((with_reducible show ∃ b, TruthIs _ b ∧ _); refine ⟨_, rfl, ?_⟩)
    | ((with_reducible show List.length _ ≤ 1000 ∧ _); refine ⟨by simp only [List.length_cons, List.length_nil]; decide, ?_⟩)
    | ((with_reducible show ∃ fv, V.raw _ = V.raw fv ∧ _); refine ⟨_, rfl, by with_reducible assumption, ?_⟩)
    | ((with_reducible show ∃ id, MethW _ _ _ id ∧ _); (first | with_reducible apply mx_bits | with_reducible apply mx_lower | with_reducible apply mx_strip | with_reducible apply mx_rstrip | with_reducible apply mx_split | with_reducible apply mx_startswith))
    | ((with_reducible show ∃ a, _); (first | refine ⟨_, _, .inl rfl, ?_⟩ | refine ⟨_, _, .inr rfl, ?_⟩ | refine ⟨_, _, _, rfl, rfl, by omega, by with_reducible assumption, ?_⟩ | refine ⟨_, _, rfl, by omega, by with_reducible assumption, ?_⟩ | refine ⟨_, _, _, rfl, ?_⟩ | refine ⟨_, _, rfl, ?_⟩ | refine ⟨_, rfl, rfl, ?_⟩)))
/-- what the law's numbers are -/
structure LNum (t : Str) (above below : Int) (neg : Prop) : Prop where
  ex : ∃ n i f e, NOk n i f e ∧ -100 ≤ ev e ∧ ev e ≤ 100 ∧ t = T (nt n i f e) ∧ nv n i f e * (below : Rat) = (above : Rat) ∧ (n = true → neg) ∧ (n = false → 0 ≤ above)
  pos : 0 < below
  a : above.natAbs < 10 ^ 50
  b : below < 10 ^ 50
theorem q10_ne (sc : Nat) : q10 (-(sc : Int)) * ((10 ^ sc : Int) : Rat) = 1 := q10_inv sc
theorem ln_val1 (m : Int) (sc : Nat) {k : Int} (h : 0 ≤ k) : (m : Rat) * q10 (k - sc) * ((10 ^ sc : Int) : Rat) = ((m * 10 ^ k.toNat : Int) : Rat) := by
  have e : k - sc = k + -(sc : Int) := by omega
  have e2 : q10 k = ((10 ^ k.toNat : Int) : Rat) := by
    have : k = (k.toNat : Int) := by omega
    conv => lhs; rw [this]
    rw [q10_nat]
  rw [e, q10_add, Rat.intCast_mul, ← e2]
  have := q10_inv sc
  grind
theorem ln_val2 (m : Int) (sc : Nat) {k : Int} (h : k < 0) : (m : Rat) * q10 (k - sc) * ((10 ^ sc * 10 ^ (-k).toNat : Int) : Rat) = (m : Rat) := by
  have e : k - sc = -(((-k).toNat : Nat) : Int) + -(sc : Int) := by omega
  have := q10_inv sc
  have := q10_inv (-k).toNat
  rw [e, q10_add, Rat.intCast_mul]
  grind
theorem sv_nonneg {n : Bool} {u : Nat} (h : n = false) : 0 ≤ sv n u := by subst h; unfold sv; simp
theorem sv_abs (n : Bool) (u : Nat) : (sv n u).natAbs = u := by unfold sv; split <;> simp
theorem lnum_of {minus : Bool} {u sc : Nat} {x : Option Int} {above below : Int} {neg : Prop} (hu : u < 10 ^ 18) (hsc : sc ≤ 18) (hx : ∀ k, x = some k → -30 ≤ k ∧ k ≤ 30)
    (hab : (0 ≤ x.getD 0 ∧ above = sv minus u * 10 ^ (x.getD 0).toNat ∧ below = 10 ^ sc) ∨ (x.getD 0 < 0 ∧ above = sv minus u ∧ below = 10 ^ sc * 10 ^ (-(x.getD 0)).toNat)) (hn : minus = true → neg) :
    LNum (T (nt minus (li u sc) (lfo u sc) (leo x))) above below neg := by
  have hk : -30 ≤ x.getD 0 ∧ x.getD 0 ≤ 30 := by
    cases x with
    | none => exact ⟨by decide, by decide⟩
    | some k => exact hx k rfl
  have p1 : (1 : Int) ≤ 10 ^ sc := Int.pow_pos (by decide)
  have p2 : (10 : Int) ^ sc ≤ 10 ^ 18 := by exact_mod_cast Nat.pow_le_pow_right (show 0 < 10 by decide) hsc
  refine ⟨⟨minus, li u sc, lfo u sc, leo x, ln_ok hu hsc (fun k hk => by have := hx k hk; omega), by rw [ev_leo]; omega, by rw [ev_leo]; omega, rfl, ?_, hn, fun h => ?_⟩, ?_, ?_, ?_⟩
  · rw [ln_nv]
    rcases hab with ⟨h1, rfl, rfl⟩ | ⟨h1, rfl, rfl⟩
    · exact ln_val1 _ _ h1
    · exact ln_val2 _ _ h1
  · rcases hab with ⟨h1, rfl, rfl⟩ | ⟨h1, rfl, rfl⟩
    · exact Int.mul_nonneg (sv_nonneg h) (Int.le_of_lt (Int.pow_pos (by decide)))
    · exact sv_nonneg h
  · rcases hab with ⟨h1, rfl, rfl⟩ | ⟨h1, rfl, rfl⟩
    · omega
    · exact Int.mul_pos (by omega) (Int.pow_pos (by decide))
  · rcases hab with ⟨h1, rfl, rfl⟩ | ⟨h1, rfl, rfl⟩
    · rw [Int.natAbs_mul, sv_abs, Int.natAbs_pow]
      have : (10 : Nat) ^ (x.getD 0).toNat ≤ 10 ^ 30 := Nat.pow_le_pow_right (by decide) (by omega)
      have h2 : u * 10 ^ (x.getD 0).toNat ≤ 10 ^ 18 * 10 ^ 30 := Nat.mul_le_mul (Nat.le_of_lt hu) this
      have h3 : (10 : Nat) ^ 18 * 10 ^ 30 < 10 ^ 50 := by decide
      have h4 : (10 : Int).natAbs = 10 := rfl
      rw [h4]; omega
    · rw [sv_abs]; have h3 : (10 : Nat) ^ 18 < 10 ^ 50 := by decide
      omega
  · rcases hab with ⟨h1, rfl, rfl⟩ | ⟨h1, rfl, rfl⟩
    · have h3 : (10 : Int) ^ 18 < 10 ^ 50 := by decide
      omega
    · have h1' : (10 : Int) ^ (-(x.getD 0)).toNat ≤ 10 ^ 30 := by exact_mod_cast Nat.pow_le_pow_right (show 0 < 10 by decide) (by omega)
      have h2 : (10 : Int) ^ sc * 10 ^ (-(x.getD 0)).toNat ≤ 10 ^ 18 * 10 ^ 30 := Int.mul_le_mul p2 h1' (Int.le_of_lt (Int.pow_pos (by decide))) (by decide)
      have h3 : (10 : Int) ^ 18 * 10 ^ 30 < 10 ^ 50 := by decide
      omega

end
end Mine
end

section
open PySem PySem.W PySem.Calls PyProof.Rows PySem.NumText PySem.StrLaws PySem.Builtin PySem.Builtin.Str
set_option Elab.async false
set_option maxRecDepth 100000
namespace Mine

-- expressions
local macro_rules | `(tactic| kaf_pre) => `(tactic| first | refine EvE_name (by rfl) ?_ | refine EvE_glob (by assumption) ?_ | refine EvE_built (by assumption) ?_ | refine EvE_int ?_ | refine EvE_binop ?_ | refine EvE_cmp ?_ | refine EvE_unop ?_ | refine EvE_str ?_ | refine EvE_bool ?_ | refine EvE_call ?_ | refine EvE_meth0 ?_ | refine EvE_meth ?_ | refine EvE_sub ?_ | refine EvE_tuple ?_ | refine EvE_ifexp ?_ | refine EvE_one ?_ | refine EvE_and ?_ | refine EvE_or ?_ | refine EvE_list ?_ | refine EvE_walrus ?_)
-- operators
local macro_rules | `(tactic| kaf_suf) => `(tactic| first | refine bi_add ?_ | refine bi_sub ?_ | refine bi_and ?_ | refine bi_xor ?_ | refine bi_shr (by omega) ?_)
local macro_rules | `(tactic| tb_start) => `(tactic| first | refine cmp_eq ?_ | refine cmp_lt ?_ | refine cmp_gt ?_ | refine cmp_le ?_ | refine cmp_ge ?_ | refine cmp_ne ?_ | refine cmp_eqS ?_ | refine cmp_eq4 ?_)
local macro_rules | `(tactic| kct_strs) => `(tactic| first | refine ib_add ?_ | refine ib_sub ?_ | refine ib_xor ?_ | refine ib_shr (by omega) ?_)
local macro_rules | `(tactic| ktu_off1L) => `(tactic| first | refine un_neg ?_ | refine un_not ?_)
-- tests
local macro_rules | `(tactic| kba_ints) => `(tactic| first | refine EvT_not ?_ | refine EvT_cmp ?_ | refine EvT_and ?_ | refine EvT_and_nil ?_ | refine EvT_or ?_ | refine EvT_or_nil ?_ | refine EvT_name ?_ | refine EvT_call ?_ | refine EvT_sub ?_ | refine EvT_bin ?_)
-- statements
local macro_rules | `(tactic| kcf_m) => `(tactic| first | refine Ex1_if ?_ | refine Ex1_ret ?_ | refine Ex1_assign ?_ | refine Ex1_aug (by rfl) ?_ | refine Ex1_unpack4 ?_ | refine Ex1_unpack2 ?_ | refine Ex1_unpack3 ?_ | refine Ex1_swap ?_ | refine Ex1_assert ?_)
-- calls
local macro_rules | `(tactic| tb_rel) => `(tactic| first | refine call_bits ?_)
-- items
local macro_rules | `(tactic| ktu_offI) => `(tactic| first | refine sub_tup (by decide) (by decide) rfl rfl ?_ | refine sub_list (by decide) (by decide) rfl ?_)
-- a test's two ways: what cannot be goes at once
local macro_rules | `(tactic| krn_off) => `(tactic| ((refine ⟨fun h => ?_, fun h => ?_⟩) <;> first
    | (exact absurd h (by decide))
    | ((simp only [decide_eq_true_eq, decide_eq_false_iff_not, beq_iff_eq, bne_iff_ne, beq_eq_false_iff_ne, bne_eq_false_iff_eq, Bool.not_eq_true', Bool.not_eq_false', Bool.not_true, Bool.not_false, ne_eq, Decidable.not_not, gt_iff_lt, ge_iff_le, Int.not_lt, Int.not_le] at h) <;> (try (exfalso; omega)))
    | skip))
local macro_rules | `(tactic| kbo_bools) => `(tactic| first
    | ((with_reducible show EvE _ _ _ _ _ _ _); kaf_pre)
    | ((with_reducible show BinW _ _ _ _ _ _ _); kaf_suf) | ((with_reducible show CmpW _ _ _ _ _ _ _); tb_start) | ((with_reducible show InpW _ _ _ _ _ _ _); kct_strs)
    | ((with_reducible show Ex1 _ _ _ _ _ _ _); kcf_m)
    | ((with_reducible show ExS _ _ _ _ _ _ _); (first | refine ExS_cons ?_ | refine ExS_nil ?_))
    | ((with_reducible show EvT _ _ _ _ _ _ _); kba_ints)
    | ((with_reducible show EvL _ _ _ _ _ _ _ _); (first | refine EvL_cons ?_ | refine EvL_nil ?_))
    | ((with_reducible show UnW _ _ _ _ _ _); ktu_off1L)
    | ((with_reducible show CallW _ _ _ _ _ _); tb_rel)
    | ((with_reducible show SubW _ _ _ _ _ _ _ _); ktu_offI)
    | ((with_reducible show (_ = true → _) ∧ (_ = false → _)); krn_off)
    | ((with_reducible show (_ = false → _) ∧ (_ = true → _)); krn_off)
    | ((with_reducible show _ = true ∧ _); refine ⟨?_, ?_⟩)
    | ((with_reducible show ∃ b, TruthIs _ b ∧ _); refine ⟨_, rfl, ?_⟩)
    | ((with_reducible show List.length _ ≤ 1000 ∧ _); refine ⟨by simp only [List.length_cons, List.length_nil]; decide, ?_⟩)
    | ((with_reducible show ∃ fv, V.raw _ = V.raw fv ∧ _); refine ⟨_, rfl, by assumption, ?_⟩)
    | ((with_reducible show ∃ id, MethIs _ _ _ id ∧ _); refine ⟨_, meth_bits, ?_⟩)
    | ((with_reducible show ∃ a, _); (first | refine ⟨_, _, _, _, rfl, ?_⟩ | refine ⟨_, _, rfl, ?_⟩ | refine ⟨_, _, _, rfl, ?_⟩)))

section
variable {S : Sy} {d : Nat} {X : Prop}
local macro_rules | `(tactic| kaf_pre) => `(tactic| first | refine EvE_name (by rfl) ?_ | refine EvE_glob (by with_reducible assumption) ?_ | refine EvE_built (by with_reducible assumption) ?_ | refine EvE_int ?_ | refine EvE_binop ?_ | refine EvE_cmp ?_ | refine EvE_unop ?_ | refine EvE_str ?_ | refine EvE_bool ?_ | refine EvE_call ?_ | refine EvE_methW0 ?_ | ((with_reducible show EvE _ _ _ (Expr.Call (Expr.Attribute _ (Str.ofString "replace") _) [Expr.Constant (Const.str _) _ _, Expr.Constant (Const.str _) _ _] [] _) _ _ _); refine EvE_replace' ?_) | refine EvE_methW ?_ | refine EvE_slice_nsE ?_ | refine EvE_slice_snE ?_ | refine EvE_sub ?_ | refine EvE_tuple ?_ | refine EvE_ifexp ?_ | refine EvE_one ?_ | refine EvE_and ?_ | refine EvE_or ?_ | refine EvE_list ?_ | refine EvE_walrus ?_)
local macro_rules | `(tactic| kcf_m) => `(tactic| first | refine Ex1_if ?_ | refine Ex1_ret ?_ | refine Ex1_assign ?_ | refine Ex1_aug (by rfl) ?_ | ((with_reducible show Ex1 _ _ _ (Stmt.Assign [Expr.Tuple [Expr.Name _ _, Expr.Name _ _] _ _] (Expr.Tuple _ _ _) _) _ _ _); refine Ex1_swap2 ?_) | ((with_reducible show Ex1 _ _ _ (Stmt.Assign [Expr.Tuple [Expr.Name _ _, Expr.Name _ _, Expr.Name _ _] _ _] (Expr.Tuple _ _ _) _) _ _ _); refine Ex1_swap3 ?_) | refine Ex1_unpackA2 ?_ | refine Ex1_unpackA3 ?_ | refine Ex1_assert ?_)
local macro_rules | `(tactic| tb_start) => `(tactic| first | refine cmp_eq ?_ | refine cmp_lt ?_ | refine cmp_gt ?_ | refine cmp_le ?_ | refine cmp_ge ?_ | refine cmp_ne ?_ | refine cmp_eqSb (by with_reducible assumption) ?_ | refine cmp_neSb (by with_reducible assumption) ?_ | refine cmp_eqS ?_ | refine cmp_neS ?_ | refine cmp_in (by with_reducible assumption) ?_ | refine cmp_notin (by with_reducible assumption) ?_)
local macro_rules | `(tactic| kaf_suf) => `(tactic| first | refine bi_addE (by with_reducible assumption) ?_ | refine bi_subE (by with_reducible assumption) ?_ | refine bi_mulE (by with_reducible assumption) ?_ | refine bi_fdivE (by with_reducible assumption) (by decide) (by decide) ?_ | refine bi_modE (by with_reducible assumption) (by omega) ?_ | refine bi_powE (by with_reducible assumption) ?_ | refine bi_mulSE (by with_reducible assumption) ?_ | refine bi_addSb (by omega) (by omega) (by with_reducible assumption) ?_ | refine bi_add ?_ | refine bi_sub ?_ | refine bi_fdiv (by decide) (by decide) ?_ | refine bi_mod (by decide) ?_)
local macro_rules | `(tactic| tb_rel) => `(tactic| first | refine call_bitsE (by with_reducible assumption) ?_ | refine call_strE (by with_reducible assumption) ?_ | refine call_maxE (by with_reducible assumption) ?_ | refine call_lenSE (by with_reducible assumption) (by omega) ?_ | refine call_lenLE (by with_reducible assumption) ?_ | refine call_lenL1 ?_ | refine call_lenL2 ?_ | refine call_intS (by with_reducible assumption) (by omega) ?_ | refine call_absE (by with_reducible assumption) ?_ | refine call_abs ?_)
local macro_rules | `(tactic| ktu_off1L) => `(tactic| first | refine un_negE (by with_reducible assumption) ?_ | refine un_neg ?_ | refine un_not ?_)
local macro_rules | `(tactic| ktu_offI) => `(tactic| first | refine sub_tup (by decide) (by decide) rfl rfl ?_ | refine sub_listE (by with_reducible assumption) ?_ | refine sub_list (by decide) (by decide) rfl ?_ | refine sub_strb (by omega) (by omega) (by omega) (by with_reducible assumption) ?_)
local macro_rules | `(tactic| kbo_bools) => `(tactic| first
    | ((with_reducible show EvE _ _ _ _ _ _ _); kaf_pre)
    | ((with_reducible show BinW _ _ _ _ _ _ _); kaf_suf) | ((with_reducible show CmpW _ _ _ _ _ _ _); tb_start) | ((with_reducible show InpW _ _ _ _ _ _ _); kct_strs)
    | ((with_reducible show Ex1 _ _ _ _ _ _ _); kcf_m)
    | ((with_reducible show ExS _ _ _ _ _ _ _); (first | refine ExS_cons ?_ | refine ExS_nil ?_))
    | ((with_reducible show EvT _ _ _ _ _ _ _); kba_ints)
    | ((with_reducible show EvL _ _ _ _ _ _ _ _); (first | refine EvL_cons ?_ | refine EvL_nil ?_))
    | ((with_reducible show UnW _ _ _ _ _ _); ktu_off1L)
    | ((with_reducible show CallW _ _ _ _ _ _); tb_rel)
    | ((with_reducible show SubW _ _ _ _ _ _ _ _); ktu_offI)
    | ((with_reducible show (_ = true → _) ∧ (_ = false → _)); krn_off)
    | ((with_reducible show (_ = false → _) ∧ (_ = true → _)); krn_off)
    | ((with_reducible show _ = true ∧ _); refine ⟨?_, ?_⟩)
    | ((with_reducible show ∃ b, TruthIs _ b ∧ _); refine ⟨_, rfl, ?_⟩)
    | ((with_reducible show List.length _ ≤ 1000 ∧ _); refine ⟨by simp only [List.length_cons, List.length_nil]; decide, ?_⟩)
    | ((with_reducible show ∃ fv, V.raw _ = V.raw fv ∧ _); refine ⟨_, rfl, by with_reducible assumption, ?_⟩)
    | ((with_reducible show ∃ id, MethW _ _ _ id ∧ _); (first | with_reducible apply mx_bits | with_reducible apply mx_lower | with_reducible apply mx_strip | with_reducible apply mx_rstrip | with_reducible apply mx_split | with_reducible apply mx_startswith))
    | ((with_reducible show ∃ a, _); (first | refine ⟨_, _, .inl rfl, ?_⟩ | refine ⟨_, _, .inr rfl, ?_⟩ | refine ⟨_, _, _, rfl, rfl, by omega, by with_reducible assumption, ?_⟩ | refine ⟨_, _, rfl, by omega, by with_reducible assumption, ?_⟩ | refine ⟨_, _, _, rfl, ?_⟩ | refine ⟨_, _, rfl, ?_⟩ | refine ⟨_, rfl, rfl, ?_⟩)))
theorem fold_zeros (k : Nat) : ∀ a : Array Nat, ((List.replicate k #[48]).foldl (· ++ ·) a).toList = a.toList ++ List.replicate k 48 := by
  induction k with
  | zero => intro a; simp
  | succ k ih => intro a; rw [List.replicate_succ, List.foldl_cons, ih, Array.toList_append, List.replicate_succ]; simp
theorem zeros_mul (w : Int) : Txt.mul ("0" : Str) w = T (List.replicate w.toNat 48) := by
  have e0 : ("0" : Str) = ⟨#[48]⟩ := by decide +kernel
  unfold Txt.mul
  rw [e0]
  split
  · rename_i h
    have : w.toNat = 0 := by omega
    rw [this]; rfl
  · split
    · rename_i h h2
      have : w = 1 := by
        rcases Bool.or_eq_true_iff.mp h2 with h2 | h2
        · simpa using h2
        · exact absurd h2 (by decide)
      subst this; rfl
    · apply cp_inj
      show ((List.replicate w.toNat #[48]).foldl (· ++ ·) #[]).toList = List.replicate w.toNat 48
      rw [fold_zeros]; simp
theorem lit_T (s : String) (l : List Nat) (h : Str.ofString s = T l := by decide +kernel) : Str.ofString s = T l := h
theorem bits_small {x : Int} {k : Nat} (h : x.natAbs < 2 ^ k) : Builtin.Int.intBits x ≤ k := by
  show bl x ≤ k
  rw [bl_natAbs]; exact bl_le h
theorem log_small {n : Int} {k : Nat} (h : n.natAbs < 2 ^ k) (hk : 0 < k) : n.natAbs.log2 < k := by
  by_cases h0 : n.natAbs = 0
  · rw [h0]; simpa using hk
  · exact (Nat.log2_lt h0).mpr h
theorem un_eq (x : Int) : -x = -x := rfl
structure StopE (p : Prop) : Prop where
  out : p
theorem EvE_stop {cs : Scope} {e : Expr} {ρ : Rho} {P : V → Rho → Prop} (h : StopE (EvE S d cs e ρ P X)) : EvE S d cs e ρ P X := h.out
/-- an expression whose ways meet again -/
theorem EvE_cut {cs : Scope} {e : Expr} {ρ : Rho} {P : V → Rho → Prop} (v : V) (h : EvE S d cs e ρ (fun x ρ₁ => x = v ∧ ρ₁ = ρ) X) (k : P v ρ) : StopE (EvE S d cs e ρ P X) :=
  ⟨h.mono fun x ρ₁ hx => by rw [hx.1, hx.2]; exact k⟩
section
local macro_rules | `(tactic| kaf_pre) => `(tactic| ((with_reducible show EvE _ _ _ (Expr.IfExp _ _ _ _) _ _ _); refine EvE_stop ?_))
set_option maxHeartbeats 16000000 in
theorem number_walk (F : Facts S) {rich most : Int} {P : V → Prop} (hr : 0 ≤ rich) (hm0 : 0 ≤ most) (hm1 : most ≤ 18)
    (h : ∀ t above below, LNum t above below (rich.fmod 4 = 1) → P (.tup [.str t, .int above, .int below])) :
    CallW S (d + 1) (.raw (gl S "_law_number")) [.int rich, .int most] P X := by
  have f1 := F.b_len
  have f2 := F.b_max
  have f3 := F.b_str
  have c1 : CanCall S (.builtin "len") := .inr (.inl ⟨_, rfl⟩)
  have c2 : CanCall S (.builtin "max") := .inr (.inl ⟨_, rfl⟩)
  have c3 : CanCall S (.type "str") := .inr (.inr ⟨_, rfl⟩)
  -- the numbers
  obtain ⟨D, hD⟩ : ∃ D : Int, D = 10 ^ most.toNat := ⟨_, rfl⟩
  have hD0 : 0 < D := by rw [hD]; exact Int.pow_pos (by decide)
  have hD1 : D ≤ 10 ^ 18 := by rw [hD]; exact_mod_cast Nat.pow_le_pow_right (show 0 < 10 by decide) (show most.toNat ≤ 18 by omega)
  have b10 : (Builtin.Int.intBits 10 : Int) = 4 := by decide +kernel
  have p10 : (0 : Int) ≤ most ∧ (Builtin.Int.intBits 10 : Int) * most ≤ 2 ^ 27 ∧ (10 : Int) ^ most.toNat = D := ⟨hm0, by rw [b10]; omega, hD.symm⟩
  have u0 : 0 ≤ (rich.fdiv 4).fmod D := by rw [Int.fmod_eq_emod_of_nonneg _ (by omega)]; exact Int.emod_nonneg _ (by omega)
  have u1 : (rich.fdiv 4).fmod D < D := by rw [Int.fmod_eq_emod_of_nonneg _ (by omega)]; exact Int.emod_lt_of_pos _ hD0
  obtain ⟨u, hu⟩ := Int.eq_ofNat_of_zero_le u0
  have e1 : (rich.fdiv 4).fmod D = (u : Int) := hu
  have hu18 : u < 10 ^ 18 := by omega
  obtain ⟨M1, am⟩ : ∃ M : Int, most + 1 = M := ⟨_, rfl⟩
  have s0 : 0 ≤ (rich.fdiv 64).fmod M1 := by rw [Int.fmod_eq_emod_of_nonneg _ (by omega)]; exact Int.emod_nonneg _ (by omega)
  have s1 : (rich.fdiv 64).fmod M1 < M1 := by rw [Int.fmod_eq_emod_of_nonneg _ (by omega)]; exact Int.emod_lt_of_pos _ (by omega)
  obtain ⟨sc, hs⟩ := Int.eq_ofNat_of_zero_le s0
  have e2 : (rich.fdiv 64).fmod M1 = (sc : Int) := hs
  have hsc : sc ≤ 18 := by omega
  have z0 : 0 ≤ (rich.fdiv 1024).fmod 61 := by rw [Int.fmod_eq_emod_of_nonneg _ (by decide)]; exact Int.emod_nonneg _ (by decide)
  have z1 : (rich.fdiv 1024).fmod 61 < 61 := by rw [Int.fmod_eq_emod_of_nonneg _ (by decide)]; exact Int.emod_lt_of_pos _ (by decide)
  obtain ⟨Z, e3⟩ : ∃ Z : Int, (rich.fdiv 1024).fmod 61 = Z := ⟨_, rfl⟩
  obtain ⟨sh, e4⟩ : ∃ sh : Int, Z - 30 = sh := ⟨_, rfl⟩
  have sh0 : -30 ≤ sh ∧ sh ≤ 30 := by omega
  rw [e1] at u0 u1
  rw [e2] at s0 s1
  rw [e3] at z0 z1
  -- the texts
  have cs1 : (u : Int).natAbs.log2 < 1920 ∧ Str.ofString (toString (u : Int)) = T (dgs u) := ⟨log_small (k := 1920) (by
    have : (10 : Nat) ^ 18 < 2 ^ 1920 := by decide +kernel
    omega) (by decide), str_nat u⟩
  have hl1 := dgs_len (m := u) (k := 18) (by decide) hu18
  have hl2 := dgs_ne u
  have tl1 : (T (dgs u)).length = (dgs u).length := len_T _
  have g1 : ((T (dgs u)).length : Int) = ((dgs u).length : Int) := by rw [tl1]
  obtain ⟨S1, g2⟩ : ∃ x : Int, (sc : Int) + 1 = x := ⟨_, rfl⟩
  obtain ⟨w, g3⟩ : ∃ x : Int, S1 - ((dgs u).length : Int) = x := ⟨_, rfl⟩
  obtain ⟨w', g4⟩ : ∃ x : Int, (if w > 0 then w else 0) = x := ⟨_, rfl⟩
  have w'0 : w' = ((sc + 1 - (dgs u).length : Nat) : Int) := by rw [← g4]; split <;> omega
  have g5 : ("0" : Str).length ≤ 16 ∧ -1000000 ≤ w' ∧ w' ≤ 1000000 ∧ Txt.mul ("0" : Str) w' = T (List.replicate (sc + 1 - (dgs u).length) 48) := ⟨by decide +kernel, by omega, by omega, by rw [zeros_mul, w'0]; rfl⟩
  have tl2 : (T (List.replicate (sc + 1 - (dgs u).length) 48)).length ≤ 20 := by rw [len_T, List.length_replicate]; omega
  have g6 : T (List.replicate (sc + 1 - (dgs u).length) 48) ++ T (dgs u) = T (figs u sc) := T_append _ _
  have fl1 := figs_len u sc
  have fl2 := figs_len2 (sc := sc) hu18 (by decide)
  have tl3 : (T (figs u sc)).length = (figs u sc).length := len_T _
  have g7 : ((T (figs u sc)).length : Int) = ((figs u sc).length : Int) := by rw [tl3]
  obtain ⟨fl, g8⟩ : ∃ x : Int, ((figs u sc).length : Int) - (sc : Int) = x := ⟨_, rfl⟩
  have fl0 : fl.toNat = (figs u sc).length - sc := by omega
  have g9 : Txt.slice (T (figs u sc)) none (some fl) = T (li u sc) := by rw [slice_to (by omega), fl0]; rfl
  have g10 : Txt.slice (T (figs u sc)) (some fl) none = T (lf u sc) := by rw [slice_from (by omega), fl0]; rfl
  have tl4 : (T (li u sc)).length ≤ 60 := by rw [len_T]; unfold li; rw [List.length_take]; omega
  have tl5 : (T (lf u sc)).length ≤ 60 := by rw [len_T, lf_len]; omega
  have g11 : T (li u sc) ++ ("." : Str) = T (li u sc ++ [46]) := by rw [lit_T "." [46], T_append]
  have tl6 : (T (li u sc ++ [46])).length ≤ 61 := by rw [len_T] at tl4 ⊢; simp; omega
  have tx : (sc = 0 ∧ T (figs u sc) = T (li u sc ++ fr (lfo u sc))) ∨ (0 < sc ∧ T (li u sc ++ [46]) ++ T (lf u sc) = T (li u sc ++ fr (lfo u sc))) := by
    rcases Nat.eq_zero_or_pos sc with h0 | h0
    · refine .inl ⟨h0, ?_⟩
      subst h0
      rw [li0]; simp [lfo, fr]
    · refine .inr ⟨h0, ?_⟩
      rw [T_append]; unfold lfo; rw [if_neg (by omega)]; simp [fr]
  have tl7 : (T (li u sc ++ fr (lfo u sc))).length ≤ 130 := by
    rcases tx with ⟨_, h⟩ | ⟨_, h⟩
    · rw [← h]; omega
    · rw [← h, T_append, len_T]; rw [len_T] at tl6 tl5; simp only [List.length_append] at tl6 tl5 ⊢; omega
  obtain ⟨tb, htb⟩ : ∃ tb, li u sc ++ fr (lfo u sc) = tb := ⟨_, rfl⟩
  rw [htb] at tx tl7
  have k1 : ("-" : Str) ++ T tb = T (mi true ++ tb) := by rw [lit_T "-" [45], T_append]; rfl
  have k2 : ("" : Str) ++ T tb = T (mi false ++ tb) := by rw [lit_T "" [], T_append]; rfl
  have tll : ("-" : Str).length ≤ 1 := by decide +kernel
  have tll2 : ("" : Str).length ≤ 1 := by decide +kernel
  have tll3 : ("e" : Str).length ≤ 1 := by decide +kernel
  have tll4 : ("." : Str).length ≤ 1 := by decide +kernel
  have k3 : ∀ m : Bool, T (mi m ++ tb) ++ ("e" : Str) = T (mi m ++ tb ++ [101]) := fun m => by rw [lit_T "e" [101], T_append]
  have k4 : ∀ m : Bool, T (mi m ++ tb ++ [101]) ++ T (mi (decide (sh < 0)) ++ dgs sh.natAbs) = T (nt m (li u sc) (lfo u sc) (leo (some sh))) := fun m => by
    rw [T_append, nt_exp, htb]; simp
  have k5 : ∀ m : Bool, T (mi m ++ tb) = T (nt m (li u sc) (lfo u sc) (leo none)) := fun m => by rw [nt_plain, htb]
  have tl8 : ∀ m : Bool, (T (mi m ++ tb)).length ≤ 131 := fun m => by rw [len_T] at tl7 ⊢; have := mi_len m; simp; omega
  have tl9 : ∀ m : Bool, (T (mi m ++ tb ++ [101])).length ≤ 132 := fun m => by rw [len_T] at tl7 ⊢; have := mi_len m; simp; omega
  have cs2 : sh.natAbs.log2 < 1920 ∧ Str.ofString (toString sh) = T (mi (decide (sh < 0)) ++ dgs sh.natAbs) := ⟨log_small (k := 1920) (by
    have : (100 : Nat) < 2 ^ 1920 := by decide +kernel
    omega) (by decide), str_int sh⟩
  have tl10 : (T (mi (decide (sh < 0)) ++ dgs sh.natAbs)).length ≤ 4 := by
    rw [len_T]; have := mi_len (decide (sh < 0)); have := dgs_len (m := sh.natAbs) (k := 3) (by decide) (by omega); simp; omega
  -- the powers
  have q1 : (0 : Int) ≤ (sc : Int) ∧ (Builtin.Int.intBits 10 : Int) * (sc : Int) ≤ 2 ^ 27 ∧ (10 : Int) ^ (sc : Int).toNat = 10 ^ sc := ⟨by omega, by rw [b10]; omega, rfl⟩
  have q6 : (0 : Int) ≤ 6 ∧ (Builtin.Int.intBits 10 : Int) * 6 ≤ 2 ^ 27 ∧ (10 : Int) ^ (6 : Int).toNat = 1000000 := by decide +kernel
  obtain ⟨nsh, q2⟩ : ∃ x : Int, -sh = x := ⟨_, rfl⟩
  have bD2 : Builtin.Int.intBits ((10 : Int) ^ sc) ≤ 64 := bits_small (by
    have : (10 : Nat) ^ sc ≤ 10 ^ 18 := Nat.pow_le_pow_right (by decide) hsc
    have h3 : (10 : Nat) ^ 18 < 2 ^ 64 := by decide
    have e : ((10 : Int) ^ sc).natAbs = 10 ^ sc := by rw [Int.natAbs_pow]; rfl
    omega)
  have bA : ∀ m : Bool, Builtin.Int.intBits (sv m u) ≤ 64 := fun m => bits_small (by
    rw [sv_abs]
    have h3 : (10 : Nat) ^ 18 < 2 ^ 64 := by decide
    omega)
  have fin := fun (minus : Bool) (x : Option Int) (above below : Int) (hx) (hab) (hn) => h _ above below (lnum_of (minus := minus) (u := u) (sc := sc) (x := x) (above := above) (below := below) (neg := rich.fmod 4 = 1) hu18 hsc hx hab hn)
  obtain ⟨mb, hmb⟩ : ∃ b : Bool, b = decide (rich.fmod 4 = 1) := ⟨_, rfl⟩
  have hm : mb = true → rich.fmod 4 = 1 := fun h => of_decide_eq_true (hmb.symm.trans h)
  have n1 : P (.tup [.str (T (mi mb ++ tb)), .int (sv mb u), .int (10 ^ sc)]) := by
    rw [k5]; exact fin mb none _ _ (fun k hk => by cases hk) (.inl ⟨Int.le_refl _, by rw [show (Option.getD (none : Option Int) 0).toNat = 0 from rfl, Int.pow_zero, Int.mul_one], rfl⟩) hm
  obtain ⟨A, hA⟩ : ∃ z : Int, (if 0 ≤ sh then sv mb u * 10 ^ sh.toNat else sv mb u) = z := ⟨_, rfl⟩
  obtain ⟨B, hB⟩ : ∃ z : Int, (if 0 ≤ sh then (10 : Int) ^ sc else 10 ^ sc * 10 ^ nsh.toNat) = z := ⟨_, rfl⟩
  have n2 : P (.tup [.str (T (nt mb (li u sc) (lfo u sc) (leo (some sh)))), .int A, .int B]) :=
    fin mb (some sh) _ _ (fun k hk => by cases hk; exact sh0) (by
      rcases (by omega : 0 ≤ sh ∨ sh < 0) with h0 | h0
      · rw [if_pos h0] at hA hB; exact .inl ⟨h0, hA.symm, hB.symm⟩
      · rw [if_neg (by omega)] at hA hB; exact .inr ⟨h0, hA.symm, by rw [← hB, ← q2]; rfl⟩) hm
  obtain ⟨sg, hsg⟩ : ∃ x : Str, (if mb then ("-" : Str) else "") = x := ⟨_, rfl⟩
  have kg : sg ++ T tb = T (mi mb ++ tb) := by
    rw [← hsg]; cases mb
    · exact k2
    · exact k1
  have lg : sg.length ≤ 1 := by
    rw [← hsg]; cases mb
    · exact tll2
    · exact tll
  replace k3 := k3 mb
  replace k4 := k4 mb
  replace tl8 := tl8 mb
  replace tl9 := tl9 mb
  replace bA := bA mb
  clear h hD hs hu htb fin k5 k1 k2
  replace hm := Hid.mk hm
  replace n1 := Hid.mk n1
  replace n2 := Hid.mk n2
  replace tx := Hid.mk tx
  replace hA := Hid.mk hA
  replace hB := Hid.mk hB
  replace hsg := Hid.mk hsg
  refine CallW_def (d := d) F.f47 _ _ (binds_47_2 F.f47 _ _) (by decide) (by decide) (by decide) rfl rfl rfl ?_
  repeat' kbo_bools
  refine EvE_cut (.str (T tb)) (EvE_ifexp ?_) ?_
  · rcases tx.out with ⟨hs0, tx⟩ | ⟨hs0, tx⟩
    · repeat' kbo_bools
      all_goals exact ⟨by rw [tx], rfl⟩
    · repeat' kbo_bools
      all_goals exact ⟨rfl, rfl⟩
  repeat' kbo_bools
  refine EvE_cut (.int (sv mb u)) (EvE_ifexp ?_) ?_
  · rcases (by omega : rich.fmod 4 = 1 ∨ rich.fmod 4 ≠ 1) with hmin | hmin
    · have e : mb = true := by rw [hmb]; exact decide_eq_true hmin
      subst e
      repeat' kbo_bools
      all_goals exact ⟨rfl, rfl⟩
    · have e : mb = false := by rw [hmb]; exact decide_eq_false hmin
      subst e
      repeat' kbo_bools
      all_goals exact ⟨rfl, rfl⟩
  repeat' kbo_bools
  · refine EvE_cut (.str sg) (EvE_ifexp ?_) ?_
    · rcases (by omega : rich.fmod 4 = 1 ∨ rich.fmod 4 ≠ 1) with hmin | hmin
      · have e : mb = true := by rw [hmb]; exact decide_eq_true hmin
        subst e
        repeat' kbo_bools
        all_goals exact ⟨by rw [← hsg.out]; rfl, rfl⟩
      · have e : mb = false := by rw [hmb]; exact decide_eq_false hmin
        subst e
        repeat' kbo_bools
        all_goals exact ⟨by rw [← hsg.out]; rfl, rfl⟩
    repeat' kbo_bools
    exact n1.out
  · refine EvE_cut (.tup [.int A, .int B]) (EvE_ifexp ?_) ?_
    · rcases (by omega : 0 ≤ sh ∨ sh < 0) with hsh | hsh
      · have q3 : (0 : Int) ≤ sh ∧ (Builtin.Int.intBits 10 : Int) * sh ≤ 2 ^ 27 ∧ (10 : Int) ^ sh.toNat = 10 ^ sh.toNat := ⟨hsh, by rw [b10]; omega, rfl⟩
        have q5 : IntMulOk (sv mb u) (10 ^ sh.toNat) ∧ sv mb u * 10 ^ sh.toNat = sv mb u * 10 ^ sh.toNat := ⟨.of_left bA, rfl⟩
        repeat' kbo_bools
        all_goals exact ⟨by rw [← hA.out, ← hB.out, if_pos hsh, if_pos hsh], rfl⟩
      · have q4 : (0 : Int) ≤ nsh ∧ (Builtin.Int.intBits 10 : Int) * nsh ≤ 2 ^ 27 ∧ (10 : Int) ^ nsh.toNat = 10 ^ nsh.toNat := ⟨by omega, by rw [b10]; omega, rfl⟩
        have q8 : IntMulOk ((10 : Int) ^ sc) (10 ^ nsh.toNat) ∧ (10 : Int) ^ sc * 10 ^ nsh.toNat = 10 ^ sc * 10 ^ nsh.toNat := ⟨.of_left bD2, rfl⟩
        repeat' kbo_bools
        all_goals exact ⟨by rw [← hA.out, ← hB.out, if_neg (by omega), if_neg (by omega)], rfl⟩
    repeat' kbo_bools
    refine EvE_cut (.str sg) (EvE_ifexp ?_) ?_
    · rcases (by omega : rich.fmod 4 = 1 ∨ rich.fmod 4 ≠ 1) with hmin | hmin
      · have e : mb = true := by rw [hmb]; exact decide_eq_true hmin
        subst e
        repeat' kbo_bools
        all_goals exact ⟨by rw [← hsg.out]; rfl, rfl⟩
      · have e : mb = false := by rw [hmb]; exact decide_eq_false hmin
        subst e
        repeat' kbo_bools
        all_goals exact ⟨by rw [← hsg.out]; rfl, rfl⟩
    repeat' kbo_bools
    exact n2.out
end

end
end Mine
end

section
open PySem PySem.W PySem.Calls PyProof.Rows PySem.NumText PySem.StrLaws PySem.Builtin PySem.Builtin.Str
set_option Elab.async false
set_option maxRecDepth 100000
namespace Mine

-- expressions
local macro_rules | `(tactic| kaf_pre) => `(tactic| first | refine EvE_name (by rfl) ?_ | refine EvE_glob (by assumption) ?_ | refine EvE_built (by assumption) ?_ | refine EvE_int ?_ | refine EvE_binop ?_ | refine EvE_cmp ?_ | refine EvE_unop ?_ | refine EvE_str ?_ | refine EvE_bool ?_ | refine EvE_call ?_ | refine EvE_meth0 ?_ | refine EvE_meth ?_ | refine EvE_sub ?_ | refine EvE_tuple ?_ | refine EvE_ifexp ?_ | refine EvE_one ?_ | refine EvE_and ?_ | refine EvE_or ?_ | refine EvE_list ?_ | refine EvE_walrus ?_)
-- operators
local macro_rules | `(tactic| kaf_suf) => `(tactic| first | refine bi_add ?_ | refine bi_sub ?_ | refine bi_and ?_ | refine bi_xor ?_ | refine bi_shr (by omega) ?_)
local macro_rules | `(tactic| tb_start) => `(tactic| first | refine cmp_eq ?_ | refine cmp_lt ?_ | refine cmp_gt ?_ | refine cmp_le ?_ | refine cmp_ge ?_ | refine cmp_ne ?_ | refine cmp_eqS ?_ | refine cmp_eq4 ?_)
local macro_rules | `(tactic| kct_strs) => `(tactic| first | refine ib_add ?_ | refine ib_sub ?_ | refine ib_xor ?_ | refine ib_shr (by omega) ?_)
local macro_rules | `(tactic| ktu_off1L) => `(tactic| first | refine un_neg ?_ | refine un_not ?_)
-- tests
local macro_rules | `(tactic| kba_ints) => `(tactic| first | refine EvT_not ?_ | refine EvT_cmp ?_ | refine EvT_and ?_ | refine EvT_and_nil ?_ | refine EvT_or ?_ | refine EvT_or_nil ?_ | refine EvT_name ?_ | refine EvT_call ?_ | refine EvT_sub ?_ | refine EvT_bin ?_)
-- statements
local macro_rules | `(tactic| kcf_m) => `(tactic| first | refine Ex1_if ?_ | refine Ex1_ret ?_ | refine Ex1_assign ?_ | refine Ex1_aug (by rfl) ?_ | refine Ex1_unpack4 ?_ | refine Ex1_unpack2 ?_ | refine Ex1_unpack3 ?_ | refine Ex1_swap ?_ | refine Ex1_assert ?_)
-- calls
local macro_rules | `(tactic| tb_rel) => `(tactic| first | refine call_bits ?_)
-- items
local macro_rules | `(tactic| ktu_offI) => `(tactic| first | refine sub_tup (by decide) (by decide) rfl rfl ?_ | refine sub_list (by decide) (by decide) rfl ?_)
-- a test's two ways: what cannot be goes at once
local macro_rules | `(tactic| krn_off) => `(tactic| ((refine ⟨fun h => ?_, fun h => ?_⟩) <;> first
    | (exact absurd h (by decide))
    | ((simp only [decide_eq_true_eq, decide_eq_false_iff_not, beq_iff_eq, bne_iff_ne, beq_eq_false_iff_ne, bne_eq_false_iff_eq, Bool.not_eq_true', Bool.not_eq_false', Bool.not_true, Bool.not_false, ne_eq, Decidable.not_not, gt_iff_lt, ge_iff_le, Int.not_lt, Int.not_le] at h) <;> (try (exfalso; omega)))
    | skip))
local macro_rules | `(tactic| kbo_bools) => `(tactic| first
    | ((with_reducible show EvE _ _ _ _ _ _ _); kaf_pre)
    | ((with_reducible show BinW _ _ _ _ _ _ _); kaf_suf) | ((with_reducible show CmpW _ _ _ _ _ _ _); tb_start) | ((with_reducible show InpW _ _ _ _ _ _ _); kct_strs)
    | ((with_reducible show Ex1 _ _ _ _ _ _ _); kcf_m)
    | ((with_reducible show ExS _ _ _ _ _ _ _); (first | refine ExS_cons ?_ | refine ExS_nil ?_))
    | ((with_reducible show EvT _ _ _ _ _ _ _); kba_ints)
    | ((with_reducible show EvL _ _ _ _ _ _ _ _); (first | refine EvL_cons ?_ | refine EvL_nil ?_))
    | ((with_reducible show UnW _ _ _ _ _ _); ktu_off1L)
    | ((with_reducible show CallW _ _ _ _ _ _); tb_rel)
    | ((with_reducible show SubW _ _ _ _ _ _ _ _); ktu_offI)
    | ((with_reducible show (_ = true → _) ∧ (_ = false → _)); krn_off)
    | ((with_reducible show (_ = false → _) ∧ (_ = true → _)); krn_off)
    | ((with_reducible show _ = true ∧ _); refine ⟨?_, ?_⟩)
    | ((with_reducible show ∃ b, TruthIs _ b ∧ _); refine ⟨_, rfl, ?_⟩)
    | ((with_reducible show List.length _ ≤ 1000 ∧ _); refine ⟨by simp only [List.length_cons, List.length_nil]; decide, ?_⟩)
    | ((with_reducible show ∃ fv, V.raw _ = V.raw fv ∧ _); refine ⟨_, rfl, by assumption, ?_⟩)
    | ((with_reducible show ∃ id, MethIs _ _ _ id ∧ _); refine ⟨_, meth_bits, ?_⟩)
    | ((with_reducible show ∃ a, _); (first | refine ⟨_, _, _, _, rfl, ?_⟩ | refine ⟨_, _, rfl, ?_⟩ | refine ⟨_, _, _, rfl, ?_⟩)))

section
variable {S : Sy} {d : Nat} {X : Prop}
local macro_rules | `(tactic| kaf_pre) => `(tactic| first | refine EvE_name (by rfl) ?_ | refine EvE_glob (by with_reducible assumption) ?_ | refine EvE_built (by with_reducible assumption) ?_ | refine EvE_int ?_ | refine EvE_binop ?_ | refine EvE_cmp ?_ | refine EvE_unop ?_ | refine EvE_str ?_ | refine EvE_bool ?_ | refine EvE_call ?_ | refine EvE_methW0 ?_ | ((with_reducible show EvE _ _ _ (Expr.Call (Expr.Attribute _ (Str.ofString "replace") _) [Expr.Constant (Const.str _) _ _, Expr.Constant (Const.str _) _ _] [] _) _ _ _); refine EvE_replace' ?_) | refine EvE_methW ?_ | refine EvE_slice_nsE ?_ | refine EvE_slice_snE ?_ | refine EvE_sub ?_ | refine EvE_tuple ?_ | refine EvE_ifexp ?_ | refine EvE_one ?_ | refine EvE_and ?_ | refine EvE_or ?_ | refine EvE_list ?_ | refine EvE_walrus ?_)
local macro_rules | `(tactic| kcf_m) => `(tactic| first | refine Ex1_if ?_ | refine Ex1_ret ?_ | refine Ex1_assign ?_ | refine Ex1_aug (by rfl) ?_ | ((with_reducible show Ex1 _ _ _ (Stmt.Assign [Expr.Tuple [Expr.Name _ _, Expr.Name _ _] _ _] (Expr.Tuple _ _ _) _) _ _ _); refine Ex1_swap2 ?_) | ((with_reducible show Ex1 _ _ _ (Stmt.Assign [Expr.Tuple [Expr.Name _ _, Expr.Name _ _, Expr.Name _ _] _ _] (Expr.Tuple _ _ _) _) _ _ _); refine Ex1_swap3 ?_) | refine Ex1_unpackA2 ?_ | refine Ex1_unpackA3 ?_ | refine Ex1_assert ?_)
local macro_rules | `(tactic| tb_start) => `(tactic| first | refine cmp_eq ?_ | refine cmp_lt ?_ | refine cmp_gt ?_ | refine cmp_le ?_ | refine cmp_ge ?_ | refine cmp_ne ?_ | refine cmp_eqSb (by with_reducible assumption) ?_ | refine cmp_neSb (by with_reducible assumption) ?_ | refine cmp_eqS ?_ | refine cmp_neS ?_ | refine cmp_in (by with_reducible assumption) ?_ | refine cmp_notin (by with_reducible assumption) ?_)
local macro_rules | `(tactic| kaf_suf) => `(tactic| first | refine bi_addE (by with_reducible assumption) ?_ | refine bi_subE (by with_reducible assumption) ?_ | refine bi_mulE (by with_reducible assumption) ?_ | refine bi_fdivE (by with_reducible assumption) (by decide) (by decide) ?_ | refine bi_modE (by with_reducible assumption) (by omega) ?_ | refine bi_powE (by with_reducible assumption) ?_ | refine bi_mulSE (by with_reducible assumption) ?_ | refine bi_addSb (by omega) (by omega) (by with_reducible assumption) ?_ | refine bi_add ?_ | refine bi_sub ?_ | refine bi_fdiv (by decide) (by decide) ?_ | refine bi_mod (by decide) ?_)
local macro_rules | `(tactic| tb_rel) => `(tactic| first | refine call_bitsE (by with_reducible assumption) ?_ | refine call_strE (by with_reducible assumption) ?_ | refine call_maxE (by with_reducible assumption) ?_ | refine call_lenSE (by with_reducible assumption) (by omega) ?_ | refine call_lenLE (by with_reducible assumption) ?_ | refine call_lenL1 ?_ | refine call_lenL2 ?_ | refine call_intS (by with_reducible assumption) (by omega) ?_ | refine call_absE (by with_reducible assumption) ?_ | refine call_abs ?_)
local macro_rules | `(tactic| ktu_off1L) => `(tactic| first | refine un_negE (by with_reducible assumption) ?_ | refine un_neg ?_ | refine un_not ?_)
local macro_rules | `(tactic| ktu_offI) => `(tactic| first | refine sub_tup (by decide) (by decide) rfl rfl ?_ | refine sub_listE (by with_reducible assumption) ?_ | refine sub_list (by decide) (by decide) rfl ?_ | refine sub_strb (by omega) (by omega) (by omega) (by with_reducible assumption) ?_)
local macro_rules | `(tactic| kbo_bools) => `(tactic| first
    | ((with_reducible show EvE _ _ _ _ _ _ _); kaf_pre)
    | ((with_reducible show BinW _ _ _ _ _ _ _); kaf_suf) | ((with_reducible show CmpW _ _ _ _ _ _ _); tb_start) | ((with_reducible show InpW _ _ _ _ _ _ _); kct_strs)
    | ((with_reducible show Ex1 _ _ _ _ _ _ _); kcf_m)
    | ((with_reducible show ExS _ _ _ _ _ _ _); (first | refine ExS_cons ?_ | refine ExS_nil ?_))
    | ((with_reducible show EvT _ _ _ _ _ _ _); kba_ints)
    | ((with_reducible show EvL _ _ _ _ _ _ _ _); (first | refine EvL_cons ?_ | refine EvL_nil ?_))
    | ((with_reducible show UnW _ _ _ _ _ _); ktu_off1L)
    | ((with_reducible show CallW _ _ _ _ _ _); tb_rel)
    | ((with_reducible show SubW _ _ _ _ _ _ _ _); ktu_offI)
    | ((with_reducible show (_ = true → _) ∧ (_ = false → _)); krn_off)
    | ((with_reducible show (_ = false → _) ∧ (_ = true → _)); krn_off)
    | ((with_reducible show _ = true ∧ _); refine ⟨?_, ?_⟩)
    | ((with_reducible show ∃ b, TruthIs _ b ∧ _); refine ⟨_, rfl, ?_⟩)
    | ((with_reducible show List.length _ ≤ 1000 ∧ _); refine ⟨by simp only [List.length_cons, List.length_nil]; decide, ?_⟩)
    | ((with_reducible show ∃ fv, V.raw _ = V.raw fv ∧ _); refine ⟨_, rfl, by with_reducible assumption, ?_⟩)
    | ((with_reducible show ∃ id, MethW _ _ _ id ∧ _); (first | with_reducible apply mx_bits | with_reducible apply mx_lower | with_reducible apply mx_strip | with_reducible apply mx_rstrip | with_reducible apply mx_split | with_reducible apply mx_startswith))
    | ((with_reducible show ∃ a, _); (first | refine ⟨_, _, .inl rfl, ?_⟩ | refine ⟨_, _, .inr rfl, ?_⟩ | refine ⟨_, _, _, rfl, rfl, by omega, by with_reducible assumption, ?_⟩ | refine ⟨_, _, rfl, by omega, by with_reducible assumption, ?_⟩ | refine ⟨_, _, _, rfl, ?_⟩ | refine ⟨_, _, rfl, ?_⟩ | refine ⟨_, rfl, rfl, ?_⟩)))
theorem sub_nil {ρ : Rho} : ∀ x V, List.lookup x ([] : Rho) = some V → ρ.lookup x = some V := fun x V h => by simp at h
theorem sub_cons {k : Str} {v : V} {ρ₀ ρ : Rho} (h1 : ρ.lookup k = some v) (h2 : ∀ x V, ρ₀.lookup x = some V → ρ.lookup x = some V) : ∀ x V, List.lookup x ((k, v) :: ρ₀) = some V → ρ.lookup x = some V := fun x V h => by
  rw [List.lookup_cons] at h
  by_cases q : (x == k) = true
  · rw [q] at h; cases h; rw [beq_iff_eq.mp q]; exact h1
  · simp only [Bool.not_eq_true] at q; rw [q] at h; exact h2 x V h
theorem call_divmodE {x y q r : Int} {P : V → Prop} (h : y ≠ 0 ∧ y.natAbs.log2 < 9000 ∧ x.fdiv y = q ∧ x.fmod y = r) (p : P (.tup [.int q, .int r])) : CallW S d (.raw (.builtin "divmod")) [.int x, .int y] P X :=
  call_divmod h.1 h.2.1 (by rw [h.2.2.1, h.2.2.2]; exact p)
local macro_rules | `(tactic| tb_rel) => `(tactic| first | refine call_divmodE (by with_reducible assumption) ?_ | refine call_bitsE (by with_reducible assumption) ?_)
abbrev envL (e w r l sz sg ab be p : Int) (rn : Str) : Rho := [("exp", .int e), ("whole", .int w), ("rest", .int r), ("low", .int l), ("size", .int sz), ("sign", .int sg), ("above", .int ab), ("below", .int be), ("prec", .int p), ("rnd", .str rn)]
/-- the first loop: n turns may be left -/
structure Inv1 (size below p : Int) (n : Nat) (e w r : Int) : Prop where
  two : n = 2 → e = bl size - bl below - p - 1 ∧ 2 ^ p.toNat ≤ w
  one : n = 1 → e = bl size - bl below - p ∧ Good size below p e w r
  zero : n = 0 → e = bl size - bl below - p + 1 ∧ Good size below p e w r ∧ w < 2 ^ p.toNat
  le : n ≤ 2
def whileOf (i : Nat) (k : Nat) : Stmt := (bodyOf (stmtAt i)).getD k (.Pass default)
set_option exponentiation.threshold 10000 in
set_option maxHeartbeats 16000000 in
theorem loop1 (F : Facts S) {size below p sg ab : Int} {u : Rat} {rn : Str} {P : Fw → Rho → Prop} (hs : 0 < size) (hb : 0 < below) (hp : 1 ≤ p) (hp2 : p ≤ 60) (hs2 : bl size ≤ 200) (hb2 : bl below ≤ 200) (hu : u * (below : Rat) = (size : Rat))
    {ρ : Rho} {e0 : Int} (he0 : e0 = bl size - bl below - p - 1) (hw : ∀ x V, (envL e0 (2 ^ p.toNat) 0 1 size sg ab below p rn).lookup x = some V → ρ.lookup x = some V)
    (h : ∀ e w r l, -500 ≤ e → e ≤ 500 → Good size below p e w r → w < 2 ^ p.toNat → P .next (envL e w r l size sg ab below p rn)) :
    Ex1 S d (scopeOf (stmtAt 46)) (whileOf 46 4) ρ P X := by
  have f1 := F.b_divmod
  have c1 : CanCall S (.builtin "divmod") := .inr (.inl ⟨_, rfl⟩)
  have b2 : (Builtin.Int.intBits 2 : Int) = 2 := by decide +kernel
  refine Ex1_while (fun n ρ₁ => ∃ e w r l, ρ₁ = envL e w r l size sg ab below p rn ∧ Inv1 size below p n e w r) 2 (envL e0 (2 ^ p.toNat) 0 1 size sg ab below p rn)
    ⟨_, _, _, _, rfl, ⟨fun _ => ⟨he0, Int.le_refl _⟩, fun h => (by cases h), fun h => (by cases h), Nat.le_refl _⟩⟩ hw fun n ρ₁ hi => ?_
  obtain ⟨e, w, r, l, rfl, hI⟩ := hi
  obtain ⟨W, hW⟩ : ∃ W : Int, (2 : Int) ^ p.toNat = W := ⟨_, rfl⟩
  have p1 : (0 : Int) ≤ p ∧ (Builtin.Int.intBits 2 : Int) * p ≤ 2 ^ 27 ∧ (2 : Int) ^ p.toNat = W := ⟨by omega, by rw [b2]; omega, hW⟩
  have stop : w < W → P .next (envL e w r l size sg ab below p rn) := fun hlt => by
    have hle := hI.le
    rcases (by omega : n = 2 ∨ n = 1 ∨ n = 0) with rfl | rfl | rfl
    · have := (hI.two rfl).2; omega
    · obtain ⟨h1, h2⟩ := hI.one rfl
      exact h _ _ _ _ (by omega) (by omega) h2 (by omega)
    · obtain ⟨h1, h2, h3⟩ := hI.zero rfl
      exact h _ _ _ _ (by omega) (by omega) h2 (by omega)
  replace stop := fun hlt => Hid.mk (stop hlt)
  have goes : W ≤ w → n ≠ 0 ∧ -500 ≤ e + 1 ∧ e + 1 ≤ 500 ∧ Inv1 size below p (n - 1) (e + 1) (lN size (e + 1) / lL below (e + 1)) (lN size (e + 1) % lL below (e + 1)) := fun hge => by
    have hle := hI.le
    rcases (by omega : n = 2 ∨ n = 1 ∨ n = 0) with rfl | rfl | rfl
    · have h1 := (hI.two rfl).1
      exact ⟨by decide, by omega, by omega, ⟨fun h => (by cases h), fun _ => ⟨by omega, good_first hs hb hp hu (by omega)⟩, fun h => (by cases h), by decide⟩⟩
    · obtain ⟨h1, h2⟩ := hI.one rfl
      obtain ⟨g1, g2⟩ := good_next hs hb hp hu h1 h2 (by omega)
      exact ⟨by decide, by omega, by omega, ⟨fun h => (by cases h), fun h => (by cases h), fun _ => ⟨by omega, g1, by omega⟩, by decide⟩⟩
    · have := (hI.zero rfl).2.2; omega
  clear hI h he0 hw
  rcases Int.lt_or_le w W with hlt | hge
  · clear goes
    replace stop := stop hlt
    repeat' kbo_bools
    exact stop.out
  · clear stop
    obtain ⟨g0, g1, g2, g3⟩ := goes hge
    have hN0 := lN_pos (e := e + 1) hs
    have hL0 := lL_pos (e := e + 1) hb
    have hLb : (lL below (e + 1)).natAbs.log2 < 9000 := by
      refine log_small ?_ (by decide)
      have hb3 := (bl_specI hb).2.1
      unfold lL
      have b200 : below < 2 ^ 200 := Int.lt_of_lt_of_le hb3 (by exact_mod_cast Nat.pow_le_pow_right (show 0 < 2 by decide) hb2)
      have e500 : (2 : Int) ^ (e + 1).toNat ≤ 2 ^ 500 := by exact_mod_cast Nat.pow_le_pow_right (show 0 < 2 by decide) (show (e + 1).toNat ≤ 500 by omega)
      have e1 : (1 : Int) ≤ 2 ^ (e + 1).toNat := Int.pow_pos (by decide)
      have hbig : (2 : Int) ^ 200 * 2 ^ 500 < 2 ^ 9000 := by decide +kernel
      have hbig2 : (2 : Int) ^ 200 ≤ 2 ^ 200 * 2 ^ 500 := by decide +kernel
      have hx : ∀ z : Int, 0 ≤ z → z < 2 ^ 9000 → z.natAbs < 2 ^ 9000 := fun z h0 h1 => by
        have : (z.natAbs : Int) < ((2 ^ 9000 : Nat) : Int) := by rw [Int.natAbs_of_nonneg h0]; exact_mod_cast h1
        exact_mod_cast this
      split
      · refine hx _ (Int.le_of_lt (Int.mul_pos hb (by omega))) (Int.lt_of_le_of_lt (Int.mul_le_mul (Int.le_of_lt b200) e500 (by omega) (by decide)) hbig)
      · exact hx _ (Int.le_of_lt hb) (Int.lt_of_lt_of_le b200 (Int.le_trans hbig2 (Int.le_of_lt hbig)))
    have dm : lL below (e + 1) ≠ 0 ∧ (lL below (e + 1)).natAbs.log2 < 9000 ∧ (lN size (e + 1)).fdiv (lL below (e + 1)) = lN size (e + 1) / lL below (e + 1) ∧ (lN size (e + 1)).fmod (lL below (e + 1)) = lN size (e + 1) % lL below (e + 1) :=
      ⟨by omega, hLb, Int.fdiv_eq_ediv_of_nonneg _ (by omega), Int.fmod_eq_emod_of_nonneg _ (by omega)⟩
    clear hLb
    have fin : ∃ m ρ₄, m < n ∧ (∃ e' w' r' l', ρ₄ = envL e' w' r' l' size sg ab below p rn ∧ Inv1 size below p m e' w' r') ∧ ρ₄ = envL (e + 1) (lN size (e + 1) / lL below (e + 1)) (lN size (e + 1) % lL below (e + 1)) (lL below (e + 1)) size sg ab below p rn :=
      ⟨n - 1, _, by omega, ⟨_, _, _, _, rfl, g3⟩, rfl⟩
    replace fin := Hid.mk fin
    clear g3 g0
    have ee : e + 1 = e + 1 := rfl
    rcases (by omega : e + 1 < 0 ∨ e + 1 = 0 ∨ 0 < e + 1) with h0 | h0 | h0
    · have hN : lN size (e + 1) = size * 2 ^ (-(e + 1)).toNat := if_pos h0
      have hL : lL below (e + 1) = below := if_neg (by omega)
      have p2 : (0 : Int) ≤ -(e + 1) ∧ (Builtin.Int.intBits 2 : Int) * -(e + 1) ≤ 2 ^ 27 ∧ (2 : Int) ^ (-(e + 1)).toNat = 2 ^ (-(e + 1)).toNat := ⟨by omega, by rw [b2]; omega, rfl⟩
      have m1 : IntMulOk size (2 ^ (-(e + 1)).toNat) ∧ size * 2 ^ (-(e + 1)).toNat = lN size (e + 1) := ⟨mulok_small (by
        have : bl (((2 ^ (-(e + 1)).toNat : Nat) : Int)) = _ := bl_two_pow _
        have e3 : ((2 : Int) ^ (-(e + 1)).toNat) = (((2 ^ (-(e + 1)).toNat : Nat) : Int)) := by simp
        rw [e3, this]; omega), hN.symm⟩
      rw [hL] at dm fin
      repeat' kbo_bools
      all_goals (
        obtain ⟨m, ρ₄, k1, k2, k3⟩ := fin.out
        exact ⟨m, ρ₄, k1, k2, by rw [k3]; repeat (first | exact sub_nil | refine sub_cons rfl ?_)⟩)
    · have hN : lN size (e + 1) = size := if_neg (by omega)
      have hL : lL below (e + 1) = below := if_neg (by omega)
      rw [hL, hN] at dm fin
      repeat' kbo_bools
      all_goals (
        obtain ⟨m, ρ₄, k1, k2, k3⟩ := fin.out
        exact ⟨m, ρ₄, k1, k2, by rw [k3]; repeat (first | exact sub_nil | refine sub_cons rfl ?_)⟩)
    · have hN : lN size (e + 1) = size := if_neg (by omega)
      have hL : lL below (e + 1) = below * 2 ^ (e + 1).toNat := if_pos h0
      have p2 : (0 : Int) ≤ e + 1 ∧ (Builtin.Int.intBits 2 : Int) * (e + 1) ≤ 2 ^ 27 ∧ (2 : Int) ^ (e + 1).toNat = 2 ^ (e + 1).toNat := ⟨by omega, by rw [b2]; omega, rfl⟩
      have m1 : IntMulOk below (2 ^ (e + 1).toNat) ∧ below * 2 ^ (e + 1).toNat = lL below (e + 1) := ⟨mulok_small (by
        have : bl (((2 ^ (e + 1).toNat : Nat) : Int)) = _ := bl_two_pow _
        have e3 : ((2 : Int) ^ (e + 1).toNat) = (((2 ^ (e + 1).toNat : Nat) : Int)) := by simp
        rw [e3, this]; omega), hL.symm⟩
      rw [hN] at dm fin
      repeat' kbo_bools
      all_goals (
        obtain ⟨m, ρ₄, k1, k2, k3⟩ := fin.out
        exact ⟨m, ρ₄, k1, k2, by rw [k3]; repeat (first | exact sub_nil | refine sub_cons rfl ?_)⟩)

end
end Mine
end

section
open PySem PySem.W PySem.Calls PyProof.Rows PySem.NumText PySem.StrLaws PySem.Builtin PySem.Builtin.Str
set_option Elab.async false
set_option maxRecDepth 100000
namespace Mine

-- expressions
local macro_rules | `(tactic| kaf_pre) => `(tactic| first | refine EvE_name (by rfl) ?_ | refine EvE_glob (by assumption) ?_ | refine EvE_built (by assumption) ?_ | refine EvE_int ?_ | refine EvE_binop ?_ | refine EvE_cmp ?_ | refine EvE_unop ?_ | refine EvE_str ?_ | refine EvE_bool ?_ | refine EvE_call ?_ | refine EvE_meth0 ?_ | refine EvE_meth ?_ | refine EvE_sub ?_ | refine EvE_tuple ?_ | refine EvE_ifexp ?_ | refine EvE_one ?_ | refine EvE_and ?_ | refine EvE_or ?_ | refine EvE_list ?_ | refine EvE_walrus ?_)
-- operators
local macro_rules | `(tactic| kaf_suf) => `(tactic| first | refine bi_add ?_ | refine bi_sub ?_ | refine bi_and ?_ | refine bi_xor ?_ | refine bi_shr (by omega) ?_)
local macro_rules | `(tactic| tb_start) => `(tactic| first | refine cmp_eq ?_ | refine cmp_lt ?_ | refine cmp_gt ?_ | refine cmp_le ?_ | refine cmp_ge ?_ | refine cmp_ne ?_ | refine cmp_eqS ?_ | refine cmp_eq4 ?_)
local macro_rules | `(tactic| kct_strs) => `(tactic| first | refine ib_add ?_ | refine ib_sub ?_ | refine ib_xor ?_ | refine ib_shr (by omega) ?_)
local macro_rules | `(tactic| ktu_off1L) => `(tactic| first | refine un_neg ?_ | refine un_not ?_)
-- tests
local macro_rules | `(tactic| kba_ints) => `(tactic| first | refine EvT_not ?_ | refine EvT_cmp ?_ | refine EvT_and ?_ | refine EvT_and_nil ?_ | refine EvT_or ?_ | refine EvT_or_nil ?_ | refine EvT_name ?_ | refine EvT_call ?_ | refine EvT_sub ?_ | refine EvT_bin ?_)
-- statements
local macro_rules | `(tactic| kcf_m) => `(tactic| first | refine Ex1_if ?_ | refine Ex1_ret ?_ | refine Ex1_assign ?_ | refine Ex1_aug (by rfl) ?_ | refine Ex1_unpack4 ?_ | refine Ex1_unpack2 ?_ | refine Ex1_unpack3 ?_ | refine Ex1_swap ?_ | refine Ex1_assert ?_)
-- calls
local macro_rules | `(tactic| tb_rel) => `(tactic| first | refine call_bits ?_)
-- items
local macro_rules | `(tactic| ktu_offI) => `(tactic| first | refine sub_tup (by decide) (by decide) rfl rfl ?_ | refine sub_list (by decide) (by decide) rfl ?_)
-- a test's two ways: what cannot be goes at once
local macro_rules | `(tactic| krn_off) => `(tactic| ((refine ⟨fun h => ?_, fun h => ?_⟩) <;> first
    | (exact absurd h (by decide))
    | ((simp only [decide_eq_true_eq, decide_eq_false_iff_not, beq_iff_eq, bne_iff_ne, beq_eq_false_iff_ne, bne_eq_false_iff_eq, Bool.not_eq_true', Bool.not_eq_false', Bool.not_true, Bool.not_false, ne_eq, Decidable.not_not, gt_iff_lt, ge_iff_le, Int.not_lt, Int.not_le] at h) <;> (try (exfalso; omega)))
    | skip))
local macro_rules | `(tactic| kbo_bools) => `(tactic| first
    | ((with_reducible show EvE _ _ _ _ _ _ _); kaf_pre)
    | ((with_reducible show BinW _ _ _ _ _ _ _); kaf_suf) | ((with_reducible show CmpW _ _ _ _ _ _ _); tb_start) | ((with_reducible show InpW _ _ _ _ _ _ _); kct_strs)
    | ((with_reducible show Ex1 _ _ _ _ _ _ _); kcf_m)
    | ((with_reducible show ExS _ _ _ _ _ _ _); (first | refine ExS_cons ?_ | refine ExS_nil ?_))
    | ((with_reducible show EvT _ _ _ _ _ _ _); kba_ints)
    | ((with_reducible show EvL _ _ _ _ _ _ _ _); (first | refine EvL_cons ?_ | refine EvL_nil ?_))
    | ((with_reducible show UnW _ _ _ _ _ _); ktu_off1L)
    | ((with_reducible show CallW _ _ _ _ _ _); tb_rel)
    | ((with_reducible show SubW _ _ _ _ _ _ _ _); ktu_offI)
    | ((with_reducible show (_ = true → _) ∧ (_ = false → _)); krn_off)
    | ((with_reducible show (_ = false → _) ∧ (_ = true → _)); krn_off)
    | ((with_reducible show _ = true ∧ _); refine ⟨?_, ?_⟩)
    | ((with_reducible show ∃ b, TruthIs _ b ∧ _); refine ⟨_, rfl, ?_⟩)
    | ((with_reducible show List.length _ ≤ 1000 ∧ _); refine ⟨by simp only [List.length_cons, List.length_nil]; decide, ?_⟩)
    | ((with_reducible show ∃ fv, V.raw _ = V.raw fv ∧ _); refine ⟨_, rfl, by assumption, ?_⟩)
    | ((with_reducible show ∃ id, MethIs _ _ _ id ∧ _); refine ⟨_, meth_bits, ?_⟩)
    | ((with_reducible show ∃ a, _); (first | refine ⟨_, _, _, _, rfl, ?_⟩ | refine ⟨_, _, rfl, ?_⟩ | refine ⟨_, _, _, rfl, ?_⟩)))

section
variable {S : Sy} {d : Nat} {X : Prop}
local macro_rules | `(tactic| kaf_pre) => `(tactic| first | refine EvE_name (by rfl) ?_ | refine EvE_glob (by with_reducible assumption) ?_ | refine EvE_built (by with_reducible assumption) ?_ | refine EvE_int ?_ | refine EvE_binop ?_ | refine EvE_cmp ?_ | refine EvE_unop ?_ | refine EvE_str ?_ | refine EvE_bool ?_ | refine EvE_call ?_ | refine EvE_methW0 ?_ | ((with_reducible show EvE _ _ _ (Expr.Call (Expr.Attribute _ (Str.ofString "replace") _) [Expr.Constant (Const.str _) _ _, Expr.Constant (Const.str _) _ _] [] _) _ _ _); refine EvE_replace' ?_) | refine EvE_methW ?_ | refine EvE_slice_nsE ?_ | refine EvE_slice_snE ?_ | refine EvE_sub ?_ | refine EvE_tuple ?_ | refine EvE_ifexp ?_ | refine EvE_one ?_ | refine EvE_and ?_ | refine EvE_or ?_ | refine EvE_list ?_ | refine EvE_walrus ?_)
local macro_rules | `(tactic| kcf_m) => `(tactic| first | refine Ex1_if ?_ | refine Ex1_ret ?_ | refine Ex1_assign ?_ | refine Ex1_aug (by rfl) ?_ | ((with_reducible show Ex1 _ _ _ (Stmt.Assign [Expr.Tuple [Expr.Name _ _, Expr.Name _ _] _ _] (Expr.Tuple _ _ _) _) _ _ _); refine Ex1_swap2 ?_) | ((with_reducible show Ex1 _ _ _ (Stmt.Assign [Expr.Tuple [Expr.Name _ _, Expr.Name _ _, Expr.Name _ _] _ _] (Expr.Tuple _ _ _) _) _ _ _); refine Ex1_swap3 ?_) | refine Ex1_unpackA2 ?_ | refine Ex1_unpackA3 ?_ | refine Ex1_assert ?_)
local macro_rules | `(tactic| tb_start) => `(tactic| first | refine cmp_eq ?_ | refine cmp_lt ?_ | refine cmp_gt ?_ | refine cmp_le ?_ | refine cmp_ge ?_ | refine cmp_ne ?_ | refine cmp_eqSb (by with_reducible assumption) ?_ | refine cmp_neSb (by with_reducible assumption) ?_ | refine cmp_eqS ?_ | refine cmp_neS ?_ | refine cmp_in (by with_reducible assumption) ?_ | refine cmp_notin (by with_reducible assumption) ?_)
local macro_rules | `(tactic| kaf_suf) => `(tactic| first | refine bi_addE (by with_reducible assumption) ?_ | refine bi_subE (by with_reducible assumption) ?_ | refine bi_mulE (by with_reducible assumption) ?_ | refine bi_fdivE (by with_reducible assumption) (by decide) (by decide) ?_ | refine bi_modE (by with_reducible assumption) (by omega) ?_ | refine bi_powE (by with_reducible assumption) ?_ | refine bi_mulSE (by with_reducible assumption) ?_ | refine bi_addSb (by omega) (by omega) (by with_reducible assumption) ?_ | refine bi_add ?_ | refine bi_sub ?_ | refine bi_fdiv (by decide) (by decide) ?_ | refine bi_mod (by decide) ?_)
local macro_rules | `(tactic| tb_rel) => `(tactic| first | refine call_bitsE (by with_reducible assumption) ?_ | refine call_strE (by with_reducible assumption) ?_ | refine call_maxE (by with_reducible assumption) ?_ | refine call_lenSE (by with_reducible assumption) (by omega) ?_ | refine call_lenLE (by with_reducible assumption) ?_ | refine call_lenL1 ?_ | refine call_lenL2 ?_ | refine call_intS (by with_reducible assumption) (by omega) ?_ | refine call_absE (by with_reducible assumption) ?_ | refine call_abs ?_)
local macro_rules | `(tactic| ktu_off1L) => `(tactic| first | refine un_negE (by with_reducible assumption) ?_ | refine un_neg ?_ | refine un_not ?_)
local macro_rules | `(tactic| ktu_offI) => `(tactic| first | refine sub_tup (by decide) (by decide) rfl rfl ?_ | refine sub_listE (by with_reducible assumption) ?_ | refine sub_list (by decide) (by decide) rfl ?_ | refine sub_strb (by omega) (by omega) (by omega) (by with_reducible assumption) ?_)
local macro_rules | `(tactic| kbo_bools) => `(tactic| first
    | ((with_reducible show EvE _ _ _ _ _ _ _); kaf_pre)
    | ((with_reducible show BinW _ _ _ _ _ _ _); kaf_suf) | ((with_reducible show CmpW _ _ _ _ _ _ _); tb_start) | ((with_reducible show InpW _ _ _ _ _ _ _); kct_strs)
    | ((with_reducible show Ex1 _ _ _ _ _ _ _); kcf_m)
    | ((with_reducible show ExS _ _ _ _ _ _ _); (first | refine ExS_cons ?_ | refine ExS_nil ?_))
    | ((with_reducible show EvT _ _ _ _ _ _ _); kba_ints)
    | ((with_reducible show EvL _ _ _ _ _ _ _ _); (first | refine EvL_cons ?_ | refine EvL_nil ?_))
    | ((with_reducible show UnW _ _ _ _ _ _); ktu_off1L)
    | ((with_reducible show CallW _ _ _ _ _ _); tb_rel)
    | ((with_reducible show SubW _ _ _ _ _ _ _ _); ktu_offI)
    | ((with_reducible show (_ = true → _) ∧ (_ = false → _)); krn_off)
    | ((with_reducible show (_ = false → _) ∧ (_ = true → _)); krn_off)
    | ((with_reducible show _ = true ∧ _); refine ⟨?_, ?_⟩)
    | ((with_reducible show ∃ b, TruthIs _ b ∧ _); refine ⟨_, rfl, ?_⟩)
    | ((with_reducible show List.length _ ≤ 1000 ∧ _); refine ⟨by simp only [List.length_cons, List.length_nil]; decide, ?_⟩)
    | ((with_reducible show ∃ fv, V.raw _ = V.raw fv ∧ _); refine ⟨_, rfl, by with_reducible assumption, ?_⟩)
    | ((with_reducible show ∃ id, MethW _ _ _ id ∧ _); (first | with_reducible apply mx_bits | with_reducible apply mx_lower | with_reducible apply mx_strip | with_reducible apply mx_rstrip | with_reducible apply mx_split | with_reducible apply mx_startswith))
    | ((with_reducible show ∃ a, _); (first | refine ⟨_, _, .inl rfl, ?_⟩ | refine ⟨_, _, .inr rfl, ?_⟩ | refine ⟨_, _, _, rfl, rfl, by omega, by with_reducible assumption, ?_⟩ | refine ⟨_, _, rfl, by omega, by with_reducible assumption, ?_⟩ | refine ⟨_, _, _, rfl, ?_⟩ | refine ⟨_, _, rfl, ?_⟩ | refine ⟨_, rfl, rfl, ?_⟩)))
abbrev envM (e m sg : Int) : Rho := [("exp", .int e), ("whole", .int m), ("sign", .int sg)]
set_option maxHeartbeats 16000000 in
theorem loop2 {M E sg : Int} {P : Fw → Rho → Prop} {ρ : Rho} (hM : 0 < M) (hw : ∀ x V, (envM E M sg).lookup x = some V → ρ.lookup x = some V)
    (h : ∀ e m, CanM sg M E ⟨sg, m, e, bl m⟩ → P .next (envM e m sg)) :
    Ex1 S d (scopeOf (stmtAt 46)) (whileOf 46 8) ρ P X := by
  refine Ex1_while (fun n ρ₁ => ∃ e m, ρ₁ = envM e m sg ∧ 0 < m ∧ n = m.toNat ∧ ∃ t : Nat, M = m * 2 ^ t ∧ e = E + t) M.toNat (envM E M sg)
    ⟨_, _, rfl, hM, rfl, 0, by simp, by simp⟩ hw fun n ρ₁ hi => ?_
  obtain ⟨e, m, rfl, hm, hn, t, ht, he⟩ := hi
  have e1 : m.fmod 2 = m % 2 := Int.fmod_eq_emod_of_nonneg _ (by decide)
  have e2 : m.fdiv 2 = m / 2 := Int.fdiv_eq_ediv_of_nonneg _ (by decide)
  rcases (by omega : m % 2 = 1 ∨ m % 2 = 0) with h0 | h0
  · have fin := Hid.mk (h e m ⟨rfl, hm, h0, rfl, t, ht, he⟩)
    clear h ht he hn hw
    repeat' kbo_bools
    exact fin.out
  · have fin : ∃ m' ρ₄, m' < n ∧ (∃ e₁ m₁, ρ₄ = envM e₁ m₁ sg ∧ 0 < m₁ ∧ m' = m₁.toNat ∧ ∃ t : Nat, M = m₁ * 2 ^ t ∧ e₁ = E + t) ∧ ρ₄ = envM (e + 1) (m / 2) sg := by
      refine ⟨(m / 2).toNat, _, by omega, ⟨_, _, rfl, by omega, rfl, t + 1, ?_, by omega⟩, rfl⟩
      rw [ht, Int.pow_succ', ← Int.mul_assoc]; congr 1; omega
    replace fin := Hid.mk fin
    clear h ht he hn hw
    repeat' kbo_bools
    obtain ⟨m, ρ₄, k1, k2, k3⟩ := fin.out
    exact ⟨m, ρ₄, k1, k2, by rw [k3]; repeat (first | exact sub_nil | refine sub_cons rfl ?_)⟩
theorem sgR_mul {sg above size : Int} {u v : Rat} {below : Int} (hb : 0 < below) (h : (sg = 0 ∧ above = size) ∨ (sg = 1 ∧ above = -size)) (hu : u * (below : Rat) = (size : Rat)) (hv : v * (below : Rat) = (above : Rat)) : sgR sg u = v := by
  have pb : (0 : Rat) < (below : Rat) := by exact_mod_cast hb
  have key : sgR sg u * (below : Rat) = v * (below : Rat) := by
    rw [hv]
    rcases h with ⟨rfl, rfl⟩ | ⟨rfl, rfl⟩
    · exact hu
    · show -u * (below : Rat) = _
      rw [Rat.neg_mul, hu]; simp
  exact Rat.le_antisymm (rat_le_of_mul pb (by rw [key]; exact Rat.le_refl)) (rat_le_of_mul pb (by rw [key]; exact Rat.le_refl))
theorem bl_of_lt {x : Int} {k : Nat} (h : x.natAbs < 2 ^ k) : bl x ≤ k := by rw [bl_natAbs]; exact bl_le h
set_option maxHeartbeats 16000000 in
theorem rounded_walk (F : Facts S) {above below p : Int} {v : Rat} {up : Bool} {P : V → Prop} (hb : 0 < below) (hp : 1 ≤ p) (hp2 : p ≤ 60) (ha : above.natAbs < 2 ^ 200) (hb2 : below.natAbs < 2 ^ 200) (hv : v * (below : Rat) = (above : Rat))
    (h : ∀ r, QR up v p r → P r.v) : CallW S (d + 1) (.raw (gl S "_law_rounded")) [.int above, .int below, .int p, .str (rn up)] P X := by
  have f1 := F.b_divmod
  have c1 : CanCall S (.builtin "divmod") := .inr (.inl ⟨_, rfl⟩)
  have b2 : (Builtin.Int.intBits 2 : Int) = 2 := by decide +kernel
  have hbb := bl_of_lt hb2
  rcases (by omega : above = 0 ∨ 0 < above ∨ above < 0) with h0 | h0 | h0
  · subst h0
    have hz : v = 0 := by
      have pb : (0 : Rat) < (below : Rat) := by exact_mod_cast hb
      have e0 : ((0 : Int) : Rat) = 0 := rfl
      rw [e0] at hv
      exact Rat.le_antisymm (rat_le_of_mul pb (by rw [hv, Rat.zero_mul]; exact Rat.le_refl)) (rat_le_of_mul pb (by rw [hv, Rat.zero_mul]; exact Rat.le_refl))
    have fin := Hid.mk (h Mp.zero (.zero hz rfl))
    clear h hv
    refine CallW_def (d := d) F.f46 _ _ (binds_46_4 F.f46 _ _ _ _) (by decide) (by decide) (by decide) rfl rfl rfl ?_
    repeat' kbo_bools
    exact fin.out
  · obtain ⟨u, hu⟩ : ∃ u : Rat, u * (below : Rat) = (above : Rat) := ⟨v, hv⟩
    have hbs := bl_of_lt ha
    have sv := sgR_mul (sg := 0) hb (.inl ⟨rfl, rfl⟩) hu hv
    have up0 : 0 < u := by
      have pb : (0 : Rat) < (below : Rat) := by exact_mod_cast hb
      refine rat_lt_of_mul pb ?_
      rw [hu, Rat.zero_mul]; exact_mod_cast h0
    have g1 : (Builtin.Int.intBits above : Int) = (bl above : Int) := rfl
    have g2 : (Builtin.Int.intBits below : Int) = (bl below : Int) := rfl
    have hs := h0
    have p1 : (0 : Int) ≤ p ∧ (Builtin.Int.intBits 2 : Int) * p ≤ 2 ^ 27 ∧ (2 : Int) ^ p.toNat = 2 ^ p.toNat := ⟨by omega, by rw [b2]; omega, rfl⟩
    have fin := fun (M E : Int) (c : Cell (!up) u p M E) (r : Mp) (k : CanM 0 M E r) => h r (by rw [← sv]; exact qr_of (.inl rfl) up0 (by simpa using c) k)
    replace fin := Hid.mk fin
    clear h sv hv
    cases up with
    | false =>
      refine CallW_def (d := d) F.f46 _ _ (binds_46_4 F.f46 _ _ _ _) (by decide) (by decide) (by decide) rfl rfl rfl ?_
      rw [show rn false = ("f" : Str) from rfl]
      repeat' kbo_bools
      refine loop1 F hs hb hp hp2 hbs hbb hu rfl (by repeat (first | exact sub_nil | refine sub_cons rfl ?_)) fun e w r l he1 he2 g hlt => ?_
      have gc : Cell true u p w e ∧ 0 < w := good_cell hb hp hu g hlt (by rw [if_neg (by intro h; cases h.1)])
      replace fin := fun m e' k => Hid.mk (fin.out w e gc.1 ⟨0, m, e', bl m⟩ k)
      replace gc := gc.2
      clear g hlt
      repeat' kbo_bools
      refine loop2 gc (by repeat (first | exact sub_nil | refine sub_cons rfl ?_)) fun e' m k => ?_
      replace fin := fin m e' k
      repeat' kbo_bools
      exact fin.out
    | true =>
      refine CallW_def (d := d) F.f46 _ _ (binds_46_4 F.f46 _ _ _ _) (by decide) (by decide) (by decide) rfl rfl rfl ?_
      rw [show rn true = ("c" : Str) from rfl]
      repeat' kbo_bools
      refine loop1 F hs hb hp hp2 hbs hbb hu rfl (by repeat (first | exact sub_nil | refine sub_cons rfl ?_)) fun e w r l he1 he2 g hlt => ?_
      have gr : 0 ≤ r := by rw [g.hr]; exact Int.emod_nonneg _ (Int.ne_of_gt (lL_pos hb))
      rcases (by omega : r = 0 ∨ 0 < r) with r0 | r0
      · have gc : Cell false u p w e ∧ 0 < w := good_cell hb hp hu g hlt (by rw [if_neg (by intro h; omega)])
        replace fin := fun m e' k => Hid.mk (fin.out w e gc.1 ⟨0, m, e', bl m⟩ k)
        replace gc := gc.2
        clear g hlt
        repeat' kbo_bools
        refine loop2 gc (by repeat (first | exact sub_nil | refine sub_cons rfl ?_)) fun e' m k => ?_
        replace fin := fin m e' k
        repeat' kbo_bools
        exact fin.out
      · have gc : Cell false u p (w + 1) e ∧ 0 < w + 1 := good_cell hb hp hu g hlt (by rw [if_pos ⟨rfl, r0⟩])
        replace fin := fun m e' k => Hid.mk (fin.out (w + 1) e gc.1 ⟨0, m, e', bl m⟩ k)
        replace gc := gc.2
        clear g hlt
        repeat' kbo_bools
        refine loop2 gc (by repeat (first | exact sub_nil | refine sub_cons rfl ?_)) fun e' m k => ?_
        replace fin := fin m e' k
        repeat' kbo_bools
        exact fin.out
  · obtain ⟨size, hsz⟩ : ∃ z : Int, -above = z := ⟨_, rfl⟩
    have hs : 0 < size := by omega
    obtain ⟨u, hu⟩ : ∃ u : Rat, u * (below : Rat) = (size : Rat) := ⟨-v, by rw [Rat.neg_mul, hv, ← hsz]; simp⟩
    have hbs : bl size ≤ 200 := bl_of_lt (by omega)
    have sv := sgR_mul (sg := 1) hb (.inr ⟨rfl, by omega⟩) hu hv
    have up0 : 0 < u := by
      have pb : (0 : Rat) < (below : Rat) := by exact_mod_cast hb
      refine rat_lt_of_mul pb ?_
      rw [hu, Rat.zero_mul]; exact_mod_cast hs
    have g1 : (Builtin.Int.intBits size : Int) = (bl size : Int) := rfl
    have g2 : (Builtin.Int.intBits below : Int) = (bl below : Int) := rfl
    have p1 : (0 : Int) ≤ p ∧ (Builtin.Int.intBits 2 : Int) * p ≤ 2 ^ 27 ∧ (2 : Int) ^ p.toNat = 2 ^ p.toNat := ⟨by omega, by rw [b2]; omega, rfl⟩
    have fin := fun (M E : Int) (c : Cell up u p M E) (r : Mp) (k : CanM 1 M E r) => h r (by rw [← sv]; exact qr_of (.inr rfl) up0 (by simpa using c) k)
    replace fin := Hid.mk fin
    clear h sv hv
    cases up with
    | false =>
      refine CallW_def (d := d) F.f46 _ _ (binds_46_4 F.f46 _ _ _ _) (by decide) (by decide) (by decide) rfl rfl rfl ?_
      rw [show rn false = ("f" : Str) from rfl]
      repeat' kbo_bools
      refine loop1 F hs hb hp hp2 hbs hbb hu rfl (by repeat (first | exact sub_nil | refine sub_cons rfl ?_)) fun e w r l he1 he2 g hlt => ?_
      have gr : 0 ≤ r := by rw [g.hr]; exact Int.emod_nonneg _ (Int.ne_of_gt (lL_pos hb))
      rcases (by omega : r = 0 ∨ 0 < r) with r0 | r0
      · have gc : Cell false u p w e ∧ 0 < w := good_cell hb hp hu g hlt (by rw [if_neg (by intro h; omega)])
        replace fin := fun m e' k => Hid.mk (fin.out w e gc.1 ⟨1, m, e', bl m⟩ k)
        replace gc := gc.2
        clear g hlt
        repeat' kbo_bools
        refine loop2 gc (by repeat (first | exact sub_nil | refine sub_cons rfl ?_)) fun e' m k => ?_
        replace fin := fin m e' k
        repeat' kbo_bools
        exact fin.out
      · have gc : Cell false u p (w + 1) e ∧ 0 < w + 1 := good_cell hb hp hu g hlt (by rw [if_pos ⟨rfl, r0⟩])
        replace fin := fun m e' k => Hid.mk (fin.out (w + 1) e gc.1 ⟨1, m, e', bl m⟩ k)
        replace gc := gc.2
        clear g hlt
        repeat' kbo_bools
        refine loop2 gc (by repeat (first | exact sub_nil | refine sub_cons rfl ?_)) fun e' m k => ?_
        replace fin := fin m e' k
        repeat' kbo_bools
        exact fin.out
    | true =>
      refine CallW_def (d := d) F.f46 _ _ (binds_46_4 F.f46 _ _ _ _) (by decide) (by decide) (by decide) rfl rfl rfl ?_
      rw [show rn true = ("c" : Str) from rfl]
      repeat' kbo_bools
      refine loop1 F hs hb hp hp2 hbs hbb hu rfl (by repeat (first | exact sub_nil | refine sub_cons rfl ?_)) fun e w r l he1 he2 g hlt => ?_
      have gc : Cell true u p w e ∧ 0 < w := good_cell hb hp hu g hlt (by rw [if_neg (by intro h; cases h.1)])
      replace fin := fun m e' k => Hid.mk (fin.out w e gc.1 ⟨1, m, e', bl m⟩ k)
      replace gc := gc.2
      clear g hlt
      repeat' kbo_bools
      refine loop2 gc (by repeat (first | exact sub_nil | refine sub_cons rfl ?_)) fun e' m k => ?_
      replace fin := fin m e' k
      repeat' kbo_bools
      exact fin.out

end
end Mine
end

section
open PySem PySem.W PySem.Calls PyProof.Rows
set_option Elab.async false
set_option maxRecDepth 100000
namespace Mine
theorem bindL_keep {k : Str → Option NameKind} {y : Str} : ∀ {bs : List (Str × Value)} {m : Str → Option Value}, bs.lookup y = none → bindL k bs m y = m y
  | [], _, _ => rfl
  | (n, v) :: r, m, h => by
    rw [List.lookup_cons] at h
    have hn : ¬ y = n := by rintro rfl; simp at h
    rw [show (y == n) = false from by simpa using hn] at h
    show bindL k r _ y = m y
    rw [bindL_keep h]
    split
    · simp [hn]
    · rfl
theorem bindC_keep {k : Str → Option NameKind} {y : Str} : ∀ {bs : List (Str × Value)} {m : Str → Option Value}, bs.lookup y = none → bindC k bs m y = m y
  | [], _, _ => rfl
  | (n, v) :: r, m, h => by
    rw [List.lookup_cons] at h
    have hn : ¬ y = n := by rintro rfl; simp at h
    rw [show (y == n) = false from by simpa using hn] at h
    show bindC k r _ y = m y
    rw [bindC_keep h]
    split
    · rfl
    · simp [hn]
theorem lookup_none_of_nodup {n : Str} : ∀ {bs : List (Str × Value)}, n ∉ bs.map (·.1) → bs.lookup n = none
  | [], _ => rfl
  | (m, v) :: r, h => by
    rw [List.lookup_cons]
    have h1 : ¬ n = m := fun e => h (by rw [e]; exact .head _)
    rw [show (n == m) = false from by simpa using h1]
    exact lookup_none_of_nodup fun hm => h (.tail _ hm)
theorem bindL_is {k : Str → Option NameKind} {y : Str} {v : Value} (hk : k y = some .local) : ∀ {bs : List (Str × Value)} {m : Str → Option Value}, (bs.map (·.1)).Nodup → bs.lookup y = some v → bindL k bs m y = some v
  | [], _, _, h => by simp at h
  | (n, w) :: r, m, hd, h => by
    simp only [List.map_cons, List.nodup_cons] at hd
    rw [List.lookup_cons] at h
    show bindL k r _ y = some v
    by_cases e : y = n
    · subst e
      rw [show (y == y) = true from by simp] at h
      cases h
      rw [bindL_keep (lookup_none_of_nodup hd.1), if_pos hk]; simp
    · rw [show (y == n) = false from by simpa using e] at h
      exact bindL_is hk hd.2 h
theorem bindC_is {k : Str → Option NameKind} {y : Str} {v : Value} (hk : k y = some .cell) : ∀ {bs : List (Str × Value)} {m : Str → Option Value}, (bs.map (·.1)).Nodup → bs.lookup y = some v → bindC k bs m y = some v
  | [], _, _, h => by simp at h
  | (n, w) :: r, m, hd, h => by
    simp only [List.map_cons, List.nodup_cons] at hd
    rw [List.lookup_cons] at h
    show bindC k r _ y = some v
    by_cases e : y = n
    · subst e
      rw [show (y == y) = true from by simp] at h
      cases h
      rw [bindC_keep (lookup_none_of_nodup hd.1), if_neg (by rw [hk]; decide)]; simp
    · rw [show (y == n) = false from by simpa using e] at h
      exact bindC_is hk hd.2 h
theorem cellsFrom_acc {x : Str} : ∀ (names : List (Str × NameKind)) (n : Nat) (acc : List (Str × Addr)), (acc.lookup x).isSome = true → ((cellsFrom n names acc).lookup x).isSome = true
  | [], _, _, h => h
  | (m, k) :: r, n, acc, h => by
    unfold cellsFrom
    split
    · refine cellsFrom_acc r _ _ ?_
      rw [List.lookup_cons]
      split
      · rfl
      · exact h
    · exact cellsFrom_acc r _ _ h
theorem cellsFrom_has {x : Str} : ∀ (names : List (Str × NameKind)) (n : Nat) (acc : List (Str × Addr)), names.lookup x = some .cell → ((cellsFrom n names acc).lookup x).isSome = true
  | [], _, _, h => by simp at h
  | (m, k) :: r, n, acc, h => by
    rw [List.lookup_cons] at h
    unfold cellsFrom
    by_cases e : x = m
    · subst e
      rw [show (x == x) = true from by simp] at h
      cases h
      rw [if_pos (by decide)]
      refine cellsFrom_acc r _ _ ?_
      rw [List.lookup_cons, show (x == x) = true from by simp]; rfl
    · rw [show (x == m) = false from by simpa using e] at h
      split
      · exact cellsFrom_has r _ _ h
      · exact cellsFrom_has r _ _ h
section
variable {S : Sy} {d : Nat} {cs : Scope} {ρ : Rho} {X : Prop}
theorem CallW_defC {x : Str} {st : Stmt} {dv : List V} {fd : FuncData} {as : List V} {P : V → Prop} (F : FnIs S x st dv fd) (ps : List Str) (as' : List V)
    (hb : ∀ (s : Shared) vs, S.ok s.heap → RepL S.base s.heap vs as → ∃ bs : List (Str × Value), BindsTo s fd ⟨vs, []⟩ bs ∧ bs.map (·.1) = ps ∧ RepL S.base s.heap (bs.map (·.2)) as')
    (hnd : ps.Nodup) (hloc : (ps.all fun n => (scopeOf st).names.lookup n == some .local || (scopeOf st).names.lookup n == some .cell) = true)
    (hco : (scopeOf st).isCoroutine = false) (hgen : (scopeOf st).isGenerator = false) (hkd : (scopeOf st).kind = .function)
    (h : ExS S d (scopeOf st) (bodyOf st) (ps.zip as') (fun f _ => match f with | .ret v => P v | .next => P .none | _ => False) X) : CallW S (d + 1) (.raw (gl S x)) as P X := by
  rw [← F.sc] at hloc hco hgen hkd h
  refine ⟨fun A fl s fv vs pl r rl => ?_⟩
  cases r
  obtain ⟨a, oc, od, osl, hg, hl⟩ := F.is
  have e : gl S x = .ref a := by unfold gl; rw [hg]
  rw [e]
  obtain ⟨bs, hbind, hps, hrl⟩ := hb s vs pl.ok rl
  refine .of fun Q E q hE => wpAny_call ?_
  have hlook : ∀ y ∈ bs, fd.scope.names.lookup y.1 = some .local ∨ fd.scope.names.lookup y.1 = some .cell := fun y hy => by
    have := List.all_eq_true.mp hloc y.1 (hps ▸ List.mem_map_of_mem hy)
    simpa using this
  have hkind : ∀ y ∈ bs, fd.scope.names.lookup y.1 = some .local ∨ (fd.scope.names.lookup y.1 = some .cell ∧ ((cellsFrom (s.heap.objs.size + 1) fd.scope.names []).lookup y.1).isSome = true) := fun y hy =>
    (hlook y hy).imp id fun h => ⟨h, cellsFrom_has _ _ _ h⟩
  refine codeAny_call_function (by have := pl.dp; omega) (pl.ok.x _ _ hl) rfl hco hgen F.bd (codeRec_of pl.ok.x F.code) (hbind _ _ _ _ ?_)
  rw [F.clos]
  refine wpAny_toks (wpAny_newFunctionEnv_cells hkd hkind fun env he s₁ x₁ tk₁ => ?_)
  have henv : env = { scope := fd.scope, locals := s.heap.objs.size, globals := mainGlobals, cells := cellsFrom (s.heap.objs.size + 1) fd.scope.names [], qual := fd.qualname ++ ".<locals>.", func := some a, code := fd.code, frame := some s.heap.objs.size, builtins := builtinsNs } := by
    rw [he, F.glob, F.blt]; rfl
  obtain ⟨h₁, tk, rfl⟩ := x₁.toInCall.same
  have keep := x₁.toInCall.keep
  have hns := x₁.toInCall.ns
  have hce := x₁.cell
  have hap := x₁.apart
  have hab := x₁.above
  have hkk : ∀ y, env.kindOf y = fd.scope.names.lookup y := fun y => by rw [henv]; rfl
  have el : env.locals = s.heap.objs.size := by rw [henv]
  have ec : env.cells = cellsFrom (s.heap.objs.size + 1) fd.scope.names [] := by rw [henv]
  rw [el] at hns
  refine ⟨pl.ok.t.nolimit.keeps keep, codeAny_func ?_⟩
  have hbase : S.base.get? s.heap.objs.size = none := by
    cases hq : S.base.get? s.heap.objs.size with
    | none => rfl
    | some o => exact absurd (Heap.lt_size (pl.st _ o hq)) (Nat.lt_irrefl _)
  have a₀ : At S d fd.scope ⟨A.deeper env, env, s.heap.objs.size, s.heap, env :: fl⟩ (ps.zip as') { s with heap := h₁, toks := tk } := {
    scope := by rw [henv]
    kind := hkd
    locals := el
    globals := by rw [henv]
    builtins := by rw [henv]
    fr := Around.frames_deeper pl.fr
    hd := pl.hd
    dp := by have := pl.dp; show A.depth + 1 + d < _; omega
    un := by have := pl.un; show A.units + 3 + 8 * d + 200 < _; omega
    ok := pl.ok
    st := pl.st
    ff := fun h m Fh => .cons (by rw [henv]; show fd.scope.kind ≠ _; rw [hkd]; decide) (by rw [henv]) Fh.ns hbase (pl.ff.of_keeps fun b o e _ => ⟨o, Fh.keep b o e, rfl⟩)
    F := ⟨_, ⟨hns, keep, Nat.le_refl _⟩, fun y Y hy => by
      obtain ⟨v, hv, hr⟩ := repL_zip_lookup hps hrl y Y hy
      rcases hlook _ (mem_of_lookup hv) with hk | hk
      · exact .inl ⟨(hkk y).trans hk, v, bindL_is ((hkk y).trans hk) (hps ▸ hnd) hv, hr.imm (.of_stays keep)⟩
      · obtain ⟨c, hc⟩ := Option.isSome_iff_exists.mp (cellsFrom_has fd.scope.names (s.heap.objs.size + 1) [] hk)
        rw [← ec] at hc
        have := hce y c hc
        rw [bindC_is ((hkk y).trans hk) (hps ▸ hnd) hv] at this
        exact .inr (.inl ⟨(hkk y).trans hk, c, v, hc, this, hr.imm (.of_stays keep)⟩)⟩
    cells := by
      refine ⟨fun y hy => ?_, fun y c _ e => ⟨_, hce y c e⟩, fun y c _ _ e => ?_, fun y z c e e' => ?_⟩
      · obtain ⟨c, hc⟩ := Option.isSome_iff_exists.mp (cellsFrom_has fd.scope.names (s.heap.objs.size + 1) [] ((hkk y).symm.trans hy))
        exact ⟨c, by show env.cells.lookup y = _; rw [ec]; exact hc⟩
      · have h1 : env.locals < c := hab y c (PySem.mem_of_lookup e)
        rw [el] at h1
        show s.heap.get? c = none
        cases hq : s.heap.get? c with
        | none => rfl
        | some o => exact absurd (Heap.lt_size hq) (Nat.not_lt.mpr (Nat.le_of_lt h1))
      · exact name_of_addr hap (PySem.mem_of_lookup e) (PySem.mem_of_lookup e')
    tk := Nat.lt_of_lt_of_le pl.tk tk₁ }
  refine h.ev.run _ _ _ _ a₀ (fun fv fV ρ' s' a' n r p => ?_) (fun hX e s' f n => ?_)
  · obtain ⟨m', F', _⟩ := a'.F
    cases r with
    | next => exact q _ _ _ n.gens n.os F'.keep .none p
    | brk => exact p.elim
    | cont => exact p.elim
    | ret r => exact q _ _ _ n.gens n.os F'.keep r p
  · exact leave_fly a₀.fr (by rw [henv]) f fun s'' f' n' => hE hX _ _ f' ⟨n'.gens.trans n.gens, n'.os.trans n.os⟩
end
end Mine
end

section
open PySem PySem.W PySem.Calls PyProof.Rows
set_option Elab.async false
set_option maxRecDepth 100000
namespace Mine
/-! values without lists -/
mutual
inductive Flat : V → Prop
  | none : Flat .none
  | bool (b : Bool) : Flat (.bool b)
  | int (i : Int) : Flat (.int i)
  | str (x : Str) : Flat (.str x)
  | tup {l : List V} : FlatL l → Flat (.tup l)
inductive FlatL : List V → Prop
  | nil : FlatL []
  | cons {x : V} {l : List V} : Flat x → FlatL l → FlatL (x :: l)
end
mutual
theorem Rep.but {b h h' : Heap} {a : Addr} {o : Obj} (ho : h.get? a = some o) (hc : o.cls ≠ .type "tuple") (s : Heap.ExtBut a h h') : ∀ {v : Value} {x : V}, Flat x → Rep b h v x → Rep b h' v x
  | _, _, .none, .none => .none
  | _, _, .bool _, .bool c => .bool c
  | _, _, .int _, .int i t => .int i t
  | _, _, .str _, .str x t => .str x t
  | _, _, .tup f, .tup (a := a') ht r => .tup (by
      obtain ⟨o', ho', hc', n, hd⟩ := ht
      have : a' ≠ a := fun e => by rw [e, ho] at ho'; cases ho'; exact hc hc'
      exact ⟨o', s a' o' this ho', hc', n, hd⟩) (RepL.but ho hc s f r)
theorem RepL.but {b h h' : Heap} {a : Addr} {o : Obj} (ho : h.get? a = some o) (hc : o.cls ≠ .type "tuple") (s : Heap.ExtBut a h h') : ∀ {vs : List Value} {l : List V}, FlatL l → RepL b h vs l → RepL b h' vs l
  | _, _, .nil, .nil => .nil
  | _, _, .cons f fs, .cons r rs => .cons (Rep.but ho hc s f r) (RepL.but ho hc s fs rs)
end
theorem FlatL.append {l : List V} {x : V} (h : FlatL l) (hx : Flat x) : FlatL (l ++ [x]) := by
  induction l with
  | nil => exact .cons hx .nil
  | cons y l ih => cases h with | cons a b => exact .cons a (ih b)

/-! a comprehension's scope -/
def relS (scope cs : Scope) : Scope := { scope with names := scope.names.map fun (n, k) => if (k == .free && cs.kind == .function && cs.names.lookup n == some .cell) then (n, .cell) else (n, k) }
theorem relS_is {scope cs : Scope} {env : Env} (h : env.scope = cs) : relabel scope env = relS scope cs := by subst h; rfl
theorem relS_free {cs : Scope} (hk : cs.kind = .function) {x : Str} (hx : cs.names.lookup x = some .cell) : ∀ {names : List (Str × NameKind)}, names.lookup x = some .free →
    (names.map fun (n, k) => if (k == NameKind.free && cs.kind == .function && cs.names.lookup n == some .cell) then (n, NameKind.cell) else (n, k)).lookup x = some .cell
  | [], h => by simp at h
  | (n, k) :: r, h => by
    have ih := @relS_free cs hk x hx r
    show List.lookup x ((if (k == NameKind.free && cs.kind == .function && cs.names.lookup n == some .cell) = true then (n, NameKind.cell) else (n, k)) :: _) = _
    by_cases e : x = n
    · subst e
      rw [List.lookup_cons, show (x == x) = true from by simp] at h
      cases h
      have hc : (NameKind.free == NameKind.free && cs.kind == .function && cs.names.lookup x == some .cell) = true := by rw [hk, hx]; rfl
      rw [if_pos hc, List.lookup_cons, show (x == x) = true from by simp]
    · rw [List.lookup_cons, show (x == n) = false from by simpa using e] at h
      have h1 : ∀ k', List.lookup x ((n, k') :: (r.map fun (n, k) => if (k == NameKind.free && cs.kind == .function && cs.names.lookup n == some .cell) then (n, NameKind.cell) else (n, k))) = some .cell := fun k' => by
        rw [List.lookup_cons, show (x == n) = false from by simpa using e]; exact ih h
      split
      · exact h1 _
      · exact h1 _
theorem relS_cell {cs : Scope} {x : Str} : ∀ {names : List (Str × NameKind)}, (∀ y ∈ names, y.2 ≠ .cell) →
    (names.map fun (n, k) => if (k == NameKind.free && cs.kind == .function && cs.names.lookup n == some .cell) then (n, NameKind.cell) else (n, k)).lookup x = some .cell → names.lookup x = some .free ∧ cs.names.lookup x = some .cell
  | [], _, h => by simp at h
  | (n, k) :: r, hn, h => by
    have ih := @relS_cell cs x r fun y hy => hn y (.tail _ hy)
    change List.lookup x ((if (k == NameKind.free && cs.kind == .function && cs.names.lookup n == some .cell) = true then (n, NameKind.cell) else (n, k)) :: _) = _ at h
    by_cases e : x = n
    · subst e
      rw [List.lookup_cons, show (x == x) = true from by simp]
      split at h
      · rename_i hc
        simp only [Bool.and_eq_true, beq_iff_eq] at hc
        exact ⟨by rw [hc.1.1], hc.2⟩
      · rw [List.lookup_cons, show (x == x) = true from by simp] at h
        cases h; exact absurd rfl (hn _ (.head _))
    · rw [List.lookup_cons, show (x == n) = false from by simpa using e]
      split at h <;> (rw [List.lookup_cons, show (x == n) = false from by simpa using e] at h; exact ih h)
/-- the cells that a comprehension takes along -/
def cloL (cells : List (Str × Addr)) : List (Str × NameKind) → List (Str × Addr) → List (Str × Addr)
  | [], acc => acc
  | (n, k) :: r, acc => if k == .free then cloL cells r ((n, (cells.lookup n).getD 0) :: acc) else cloL cells r acc
theorem clo_forIn {env : Env} (f : Str × NameKind → List (Str × Addr) → Sem (ForInStep (List (Str × Addr))))
    (hf : ∀ n k acc, f (n, k) acc = if k == .free then (do let a ← cellOf env n; pure (.yield ((n, a) :: acc))) else pure (.yield acc)) :
    ∀ (names : List (Str × NameKind)) (acc : List (Str × Addr)), (∀ y ∈ names, y.2 = .free → (env.cells.lookup y.1).isSome = true) → forIn names acc f = pure (cloL env.cells names acc)
  | [], acc, _ => rfl
  | (n, k) :: r, acc, h => by
    have ih := clo_forIn f hf r
    rw [List.forIn_cons, hf]
    unfold cloL
    by_cases hk : (k == NameKind.free) = true
    · rw [if_pos hk, if_pos hk]
      obtain ⟨c, hc⟩ := Option.isSome_iff_exists.mp (h (n, k) (.head _) (beq_iff_eq.mp hk))
      have e1 : cellOf env n = pure c := by unfold cellOf; rw [hc]
      rw [e1, hc]
      simp only [pure_bind, Option.getD_some]
      exact ih _ fun y hy => h y (.tail _ hy)
    · rw [if_neg hk, if_neg hk]
      simp only [pure_bind]
      exact ih _ fun y hy => h y (.tail _ hy)
theorem closureFor_is {scope : Scope} {env : Env} (h : ∀ y ∈ scope.names, y.2 = .free → (env.cells.lookup y.1).isSome = true) : closureFor scope env = pure (cloL env.cells scope.names []) := by
  unfold closureFor
  simp only
  rw [clo_forIn (env := env) _ (fun n k acc => by cases hk : k == NameKind.free <;> simp) scope.names [] h]
  rfl
theorem cloL_acc {cells : List (Str × Addr)} {x : Str} {c : Addr} : ∀ {names : List (Str × NameKind)} {acc : List (Str × Addr)}, (∀ y ∈ names, y.2 = .free → (cells.lookup y.1).isSome = true) →
    (∀ n a, acc.lookup n = some a → cells.lookup n = some a) → (cloL cells names acc).lookup x = some c → cells.lookup x = some c
  | [], _, _, ha, h => ha _ _ h
  | (n, k) :: r, acc, hn, ha, h => by
    unfold cloL at h
    split at h
    · rename_i hk
      refine cloL_acc (fun y hy => hn y (.tail _ hy)) (fun m a hm => ?_) h
      rw [List.lookup_cons] at hm
      by_cases e : m = n
      · subst e
        rw [show (m == m) = true from by simp] at hm
        cases hm
        obtain ⟨c, hc⟩ := Option.isSome_iff_exists.mp (hn (m, k) (.head _) (beq_iff_eq.mp hk))
        rw [hc]; rfl
      · rw [show (m == n) = false from by simpa using e] at hm; exact ha _ _ hm
    · exact cloL_acc (fun y hy => hn y (.tail _ hy)) ha h
theorem cloL_keep {cells : List (Str × Addr)} {x : Str} : ∀ {names : List (Str × NameKind)} {acc : List (Str × Addr)}, (acc.lookup x).isSome = true → ((cloL cells names acc).lookup x).isSome = true
  | [], _, h => h
  | (n, k) :: r, acc, h => by
    unfold cloL
    split
    · refine cloL_keep ?_
      rw [List.lookup_cons]; split
      · rfl
      · exact h
    · exact cloL_keep h
theorem cloL_has {cells : List (Str × Addr)} {x : Str} : ∀ {names : List (Str × NameKind)} {acc : List (Str × Addr)}, names.lookup x = some .free → ((cloL cells names acc).lookup x).isSome = true
  | [], _, h => by simp at h
  | (n, k) :: r, acc, h => by
    rw [List.lookup_cons] at h
    unfold cloL
    by_cases e : x = n
    · subst e
      rw [show (x == x) = true from by simp] at h
      cases h
      rw [if_pos (by decide)]
      refine cloL_keep ?_
      rw [List.lookup_cons, show (x == x) = true from by simp]; rfl
    · rw [show (x == n) = false from by simpa using e] at h
      split
      · exact cloL_has h
      · exact cloL_has h
section
variable {S : Sy} {d : Nat} {cs : Scope} {ρ : Rho} {X : Prop}
/-- what is asked of a comprehension's scope, by looking -/
def compOk (scope cs : Scope) : Bool := scope.kind == .function && (scope.names.all fun n => n.2 != .cell) && (scope.names.all fun n => n.2 != .free || cs.names.lookup n.1 == some .cell) &&
  (scope.names.all fun n => n.2 != .local || scope.names.lookup n.1 == some .local) && (((relS scope cs).names.lookup dot0).isSome)
structure CompOk (scope cs : Scope) : Prop where
  kind : scope.kind = .function
  cell : ∀ y ∈ scope.names, y.2 ≠ .cell
  free : ∀ y ∈ scope.names, y.2 = .free → cs.names.lookup y.1 = some .cell
  loc : ∀ y ∈ scope.names, y.2 = .local → scope.names.lookup y.1 = some .local
  dot : (relS scope cs).names.lookup dot0 ≠ none
theorem compOk_is {scope cs : Scope} (h : compOk scope cs = true) : CompOk scope cs := by
  unfold compOk at h
  simp only [Bool.and_eq_true, List.all_eq_true, Bool.or_eq_true, bne_iff_ne, beq_iff_eq, ne_eq] at h
  obtain ⟨⟨⟨⟨h1, h2⟩, h3⟩, h4⟩, h5⟩ := h
  exact ⟨h1, h2, fun y hy hk => (h3 y hy).resolve_left (fun n => n hk), fun y hy hk => (h4 y hy).resolve_left (fun n => n hk), fun e => by rw [e] at h5; cases h5⟩
theorem comp_at {l : Loc} {s₁ s' : Shared} {scope : Scope} {C : Addr} {m : Str → Option Value} {ρf : Rho} (k : CompOk scope cs) (a : At S d cs l ρ s₁) (hns : s'.heap.Ns C m) (st : s₁.heap.StaysIn s'.heap) (hC : s₁.heap.objs.size ≤ C) (htk : s₁.toks ≤ s'.toks)
    (hf : ∀ x V, ρf.lookup x = some V → ρ.lookup x = some V ∧ scope.names.lookup x = some .free ∧ cs.names.lookup x = some .cell) :
    At S d (relS scope cs) ⟨l.A, compEnvC scope (cloL l.env.cells scope.names []) C l.env, C, s₁.heap, l.fl⟩ ρf s' := by
  have hkk : ∀ y, l.env.kindOf y = cs.names.lookup y := fun y => by unfold Env.kindOf; rw [a.scope]
  have hcl : ∀ y ∈ scope.names, y.2 = .free → (l.env.cells.lookup y.1).isSome = true := fun y hy h => by
    obtain ⟨c, hc⟩ := a.cells.has y.1 ((hkk _).trans (k.free y hy h)); rw [hc]; rfl
  have sub : ∀ x c, (cloL l.env.cells scope.names []).lookup x = some c → l.env.cells.lookup x = some c := fun x c h => cloL_acc hcl (fun n a h => by simp at h) h
  have hrel : (compEnvC scope (cloL l.env.cells scope.names []) C l.env).scope = relS scope cs := relS_is a.scope
  have hk2 : ∀ y, (compEnvC scope (cloL l.env.cells scope.names []) C l.env).kindOf y = (relS scope cs).names.lookup y := fun y => by unfold Env.kindOf; rw [hrel]
  refine {
    scope := hrel
    kind := k.kind
    locals := rfl
    globals := a.globals
    builtins := a.builtins
    fr := a.fr
    hd := a.hd
    dp := a.dp
    un := a.un
    ok := a.pl.ok
    st := a.pl.st
    ff := fun h m' Fh => by obtain ⟨m₁, F₁, _⟩ := a.F; exact a.ff _ _ (fr_keeps F₁ Fh.keep)
    F := ⟨m, ⟨hns, st, hC⟩, fun x V h => ?_⟩
    cells := ⟨fun x hx => ?_, fun x c hx hc => ?_, fun x c hz _ _ => ?_, fun x y c hx hy => a.cells.inj x y c (sub _ _ hx) (sub _ _ hy)⟩
    tk := Nat.lt_of_lt_of_le a.tk htk }
  · obtain ⟨h1, h2, h3⟩ := hf x V h
    obtain ⟨m₁, _, R⟩ := a.F
    rcases R x V h1 with ⟨hl, _⟩ | ⟨hl, c, v, hc, hi, hr⟩ | ⟨hl, _⟩
    · rw [hkk, h3] at hl; cases hl
    · obtain ⟨c', hc'⟩ := Option.isSome_iff_exists.mp (cloL_has (cells := l.env.cells) (acc := []) h2)
      have := sub _ _ hc'
      rw [hc] at this; cases this
      exact .inr (.inl ⟨by rw [hk2]; exact relS_free a.kind h3 h2, c, v, hc', isCell_keeps st hi, hr.imm (.of_stays st)⟩)
    · rw [hkk, h3] at hl; cases hl
  · rw [hk2] at hx
    obtain ⟨h1, _⟩ := relS_cell k.cell hx
    exact Option.isSome_iff_exists.mp (cloL_has (cells := l.env.cells) (acc := []) h1)
  · rw [hk2] at hx
    obtain ⟨_, h2⟩ := relS_cell k.cell hx
    obtain ⟨v, i⟩ := a.cells.cell x c ((hkk x).trans h2) (sub _ _ hc)
    exact ⟨v, isCell_keeps st i⟩
  · exact absurd (by rw [← hrel]; exact hz) k.dot
end
end Mine
end

section
open PySem PySem.W PySem.Calls PyProof.Rows
set_option Elab.async false
set_option maxRecDepth 100000
namespace Mine
section
variable {S : Sy} {d : Nat} {cs : Scope} {ρ : Rho} {X : Prop}
/-- what one turn yields -/
abbrev Turn (S : Sy) (d : Nat) (cc : Scope) (elt : Expr) (na nb : Str) (ρf : Rho) (p : V × V) (r : V) : Prop :=
  EvE S d cc elt ((nb, p.2) :: (na, p.1) :: ρf) (fun r' _ => r' = r) False
inductive Turns (S : Sy) (d : Nat) (cc : Scope) (elt : Expr) (na nb : Str) (ρf : Rho) : List (V × V) → List V → Prop
  | nil : Turns S d cc elt na nb ρf [] []
  | cons {p : V × V} {r : V} {ps : List (V × V)} {rs : List V} : Turn S d cc elt na nb ρf p r → Flat r → Turns S d cc elt na nb ρf ps rs → Turns S d cc elt na nb ρf (p :: ps) (r :: rs)
structure LoopI (S : Sy) (s₁ : Shared) (lst I D C : Addr) (done : List V) (i : Nat) (s' : Shared) : Prop where
  gens : s'.gens = s₁.gens
  os : s'.os = s₁.os
  stays : s₁.heap.StaysIn s'.heap
  it : s'.heap.IsListIter I lst i
  acc : ∃ ys : List Value, s'.heap.IsList D ys.toArray ∧ RepL S.base s'.heap ys done ∧ ys.length = i
  ns : ∃ m, s'.heap.Ns C m
  toks : s₁.toks ≤ s'.toks
theorem ns_cls {h : Heap} {C : Addr} {m : Str → Option Value} (n : h.Ns C m) : ∃ o es ep, h.get? C = some o ∧ o.data = .dict es ep := ns_dict n
theorem isTup_not_dict {h : Heap} {a C : Addr} {xs : Array Value} {m : Str → Option Value} (x : IsTup h a xs) (n : h.Ns C m) : a ≠ C := fun e => by
  obtain ⟨o, ho, _, k, hd⟩ := x
  obtain ⟨o', es, ep, ho', hd'⟩ := ns_dict n
  rw [e, ho'] at ho; cases ho; rw [hd] at hd'; cases hd'
mutual
theorem Rep.butNs {b h h' : Heap} {C : Addr} {m : Str → Option Value} (n : h.Ns C m) (s : Heap.SameBut C h h') : ∀ {v : Value} {x : V}, Flat x → Rep b h v x → Rep b h' v x
  | _, _, .none, .none => .none
  | _, _, .bool _, .bool c => .bool c
  | _, _, .int _, .int i t => .int i t
  | _, _, .str _, .str x t => .str x t
  | _, _, .tup f, .tup ht r => .tup (by
      have ne := isTup_not_dict ht n
      obtain ⟨o', ho', hc', n, hd⟩ := ht
      exact ⟨o', (s.2 _ ne).trans ho', hc', n, hd⟩) (RepL.butNs n s f r)
theorem RepL.butNs {b h h' : Heap} {C : Addr} {m : Str → Option Value} (n : h.Ns C m) (s : Heap.SameBut C h h') : ∀ {vs : List Value} {l : List V}, FlatL l → RepL b h vs l → RepL b h' vs l
  | _, _, .nil, .nil => .nil
  | _, _, .cons f fs, .cons r rs => .cons (Rep.butNs n s f r) (RepL.butNs n s fs rs)
end
theorem repL_snoc {b h : Heap} {vs : List Value} {v : Value} {l : List V} {x : V} (r : RepL b h vs l) (q : Rep b h v x) : RepL b h (vs ++ [v]) (l ++ [x]) := by
  induction vs generalizing l with
  | nil => cases r; exact .cons q .nil
  | cons w vs ih => cases r with | cons a r => exact .cons a (ih r)
theorem repL_at {b h : Heap} : ∀ {vs : List Value} {l : List V} {i : Nat} {x : V}, RepL b h vs l → l[i]? = some x → ∃ v, vs[i]? = some v ∧ Rep b h v x
  | _, _, 0, _, .cons a _, e => by simp at e; subst e; exact ⟨_, rfl, a⟩
  | _, _, i + 1, _, .cons _ r, e => by simp at e; simpa using repL_at r e
theorem comp_loop {elt iter : Expr} {na nb : Str} {pa pb tp : Pos} {tk : Nat} {scope : Scope} {pos : Pos} {l : Loc} {s₁ : Shared} {lst I D C : Addr} {vs : List Value} {items : List (V × V)} {rs : List V} {ρf : Rho}
    {R : Result → Shared → Prop} (k : CompOk scope cs) (hna : (relS scope cs).names.lookup na = some .local) (hnb : (relS scope cs).names.lookup nb = some .local) (a : At S d cs l ρ s₁)
    (hl : s₁.heap.IsList lst vs.toArray) (hvs : RepL S.base s₁.heap vs (items.map fun p => .tup [p.1, p.2])) (hlen : items.length ≤ 1000)
    (hI : s₁.heap.get? I = none) (hD : s₁.heap.get? D = none) (hC : s₁.heap.objs.size ≤ C) (hID : I ≠ D) (hIC : I ≠ C) (hDC : D ≠ C)
    (hf : ∀ x V, ρf.lookup x = some V → ρ.lookup x = some V ∧ scope.names.lookup x = some .free ∧ cs.names.lookup x = some .cell)
    (ht : Turns S d (relS scope cs) elt na nb ρf items rs) (hR : ∀ s', LoopI S s₁ lst I D C rs items.length s' ∨ (s'.gens = s₁.gens ∧ s'.os = s₁.os ∧ s₁.heap.StaysIn s'.heap ∧ (∃ ys : List Value, s'.heap.IsList D ys.toArray ∧ RepL S.base s'.heap ys rs) ∧ (∃ m, s'.heap.Ns C m) ∧ s₁.toks ≤ s'.toks) → R (.ok .next) s')
    {s' : Shared} (h0 : LoopI S s₁ lst I D C [] 0 s') :
    codeAny (model S.prog S.w) l.A (.compLoop (.ListComp elt [⟨.Tuple [.Name na pa, .Name nb pb] tk tp, iter, [], 0⟩] scope pos) 0 (.ref I) (.ref D) (compEnvC scope (cloL l.env.cells scope.names []) C l.env)) R s' := by
  have hvl : vs.length = items.length := by rw [repL_length hvs]; simp
  refine LCp.codeAny_compLoop_pair (fun n s' => ∃ i done items' rs', n = items'.length ∧ items = items.take i ++ items' ∧ i + items'.length = items.length ∧ rs = done ++ rs' ∧ Turns S d (relS scope cs) elt na nb ρf items' rs' ∧ FlatL done ∧ LoopI S s₁ lst I D C done i s')
    (fun n s' hi => ?_) items.length ⟨0, [], items, rs, rfl, by simp, by simp, by simp, ht, .nil, h0⟩
  obtain ⟨i, done, items', rs', hn, hit, hsum, hrs, hT, hfl, L⟩ := hi
  have hls : s'.heap.IsList lst vs.toArray := by obtain ⟨o, ho, r⟩ := hl; exact ⟨o, L.stays _ _ ho, r⟩
  cases hT with
  | nil =>
    refine wpAny_pyNext_list_end a.hd L.it hls (by simp at hsum ⊢; omega) fun h' he => ?_
    obtain ⟨ys, hy, hr, hyl⟩ := L.acc
    obtain ⟨m, hm⟩ := L.ns
    refine hR _ (.inr ⟨L.gens, L.os, fun b o e => he b o (fun q => by rw [q, hI] at e; cases e) (L.stays b o e), ⟨ys, ?_, ?_⟩, ⟨m, ?_⟩, L.toks⟩)
    · obtain ⟨o, ho, r⟩ := hy; exact ⟨o, he _ _ hID.symm ho, r⟩
    · have hz : rs = done := by rw [hrs]; simp
      rw [hz]
      -- the rest stands
      obtain ⟨o, ho, hc, _⟩ := L.it
      exact RepL.but ho (by rw [hc]; decide) he hfl hr
    · exact hm.at fun o e => he _ _ hIC.symm e
  | @cons p r ps rs'' t fr T =>
    have hi : items[i]? = some p := by
      rw [hit, List.getElem?_append_right (by simp; omega)]
      have : i - (items.take i).length = 0 := by simp at hsum ⊢; omega
      rw [this]; rfl
    obtain ⟨v, hv, hrv⟩ := repL_at hvs (i := i) (x := .tup [p.1, p.2]) (by rw [List.getElem?_map, hi]; rfl)
    refine wpAny_pyNext_list_item L.it hls (by simpa using hv) fun h' hit' hs' => ?_
    have fI : ∀ {h₂ : Heap}, Heap.ExtBut I s'.heap h₂ → s₁.heap.StaysIn h₂ := fun he b o e => he b o (fun q => by rw [q, hI] at e; cases e) (L.stays b o e)
    have st' := fI hs'.extBut
    obtain ⟨m, hm⟩ := L.ns
    have hm' : h'.Ns C m := hm.at fun o e => hs'.extBut _ _ hIC.symm e
    have a' := comp_at (s' := { s' with heap := h' }) k a hm' st' hC L.toks hf
    obtain ⟨ys, hy, hr, hyl⟩ := L.acc
    have hy' : h'.IsList D ys.toArray := by obtain ⟨o, ho, r⟩ := hy; exact ⟨o, hs'.extBut _ _ hID.symm ho, r⟩
    have hr' : RepL S.base h' ys done := by
      obtain ⟨o, ho, hc, _⟩ := L.it
      exact RepL.but ho (by rw [hc]; decide) hs'.extBut hfl hr
    have hrv' := hrv.imm (.of_stays st')
    cases hrv' with
    | @tup ta tv _ htt htl =>
    refine wpAny_letOwnedTupleGo_listiter hit' ?_
    rw [arm_assign_Tuple]
    refine wpAny_bind (wpAny_standAt ?_)
    unfold unpack
    rw [assignEach_names (nps := [(na, pa), (nb, pb)]) rfl]
    refine wpAny_bind (wpAny_holding (a'.unpackA (xs := [p.1, p.2]) (.tup htt htl) (.inl rfl) rfl fun ws s₂ a₂ k₂ r₂ => ?_))
    refine At.storeEach (ns := [na, nb]) a₂ r₂ rfl (fun n hn' => ?_) (fun s₃ a₃ n₃ => ?_) _ rfl fun j hj hj' w Q' s'' hx => ?_
    · simp only [List.mem_cons, List.not_mem_nil, or_false] at hn'
      rcases hn' with rfl | rfl
      · exact .inl hna
      · exact .inl hnb
    · refine t.at a₃ (fun h => h.elim) fun w Vr ρ₄ s₄ a₄ n₄ r₄ p₄ _ => ?_
      subst p₄
      have im : Imm h' s₄.heap := (k₂.nx.imm.trans n₃.imm).trans n₄.imm
      have hy4 := isList_imm im hy'
      have hr4 := hr'.imm im
      obtain ⟨m₄, F₄, _⟩ := a₄.F
      have it4 : s₄.heap.IsListIter I lst (i + 1) := by
        obtain ⟨o, ho, hc, hd⟩ := hit'
        exact ⟨o, im _ _ ho (fun _ _ e => by rw [hd] at e; cases e) (fun _ e => by rw [hd] at e; cases e), hc, hd⟩
      refine wpAny_list_append hy4 (fun h₅ hy5 hs5 => ?_) (by simp only [List.size_toArray]; rw [sizeLine_eq]; omega)
      have fr' := fr
      refine ⟨ps.length, by rw [hn]; simp, i + 1, done ++ [Vr], ps, rs'', rfl, ?_, ?_, ?_, T, hfl.append fr', ?_⟩
      · have e1 : items.take (i + 1) = items.take i ++ [p] := by rw [List.take_add_one, hi]; rfl
        rw [e1, List.append_assoc]; exact hit
      · simp at hsum ⊢; omega
      · rw [hrs]; simp
      · have e5 : Heap.ExtBut D s₄.heap h₅ := hs5.extBut
        obtain ⟨o4, ho4, hc4, hd4⟩ := hy4
        have hne : o4.cls ≠ .type "tuple" := by rw [hc4]; decide
        refine ⟨n₄.gens.trans (n₃.gens.trans (k₂.gens.trans L.gens)), n₄.os.trans (n₃.os.trans (k₂.os.trans L.os)), fun b o e => e5 b o (fun q => by rw [q, hD] at e; cases e) (F₄.keep b o e), ?_, ⟨ys ++ [_], by simpa using hy5, repL_snoc (RepL.but ho4 hne e5 hfl hr4) (Rep.but ho4 hne e5 fr' r₄), by simp; omega⟩, ⟨m₄, F₄.ns.at fun o e => e5 _ _ hDC.symm e⟩, ?_⟩
        · obtain ⟨o, ho, r⟩ := it4; exact ⟨o, e5 _ _ hID ho, r⟩
        · have := L.toks; have := k₂.toks; have := n₃.toks; have := n₄.toks
          exact Nat.le_trans (Nat.le_trans L.toks k₂.toks) (Nat.le_trans n₃.toks n₄.toks)
    · match j, hj with
      | 0, _ => exact PyProof.Rows.assign_Name hx
      | 1, _ => exact PyProof.Rows.assign_Name hx
end
end Mine
end

section
open PySem PySem.W PySem.Calls PyProof.Rows
set_option Elab.async false
set_option maxRecDepth 100000
namespace Mine
section
variable {S : Sy} {d : Nat} {cs : Scope} {ρ : Rho} {X : Prop}
structure CompEnd (S : Sy) (s₁ : Shared) (D C : Addr) (rs : List V) (s' : Shared) : Prop where
  gens : s'.gens = s₁.gens
  os : s'.os = s₁.os
  stays : s₁.heap.StaysIn s'.heap
  acc : ∃ ys : List Value, s'.heap.IsList D ys.toArray ∧ RepL S.base s'.heap ys rs
  ns : ∃ m, s'.heap.Ns C m
  toks : s₁.toks ≤ s'.toks
theorem comp_block {elt iter : Expr} {na nb : Str} {pa pb tp : Pos} {tk : Nat} {scope : Scope} {pos : Pos} {l : Loc} {s₁ : Shared} {v : Value} {items : List (V × V)} {rs : List V} {ρf : Rho} {E : Value → Shared → Prop}
    {RR : Value → Addr → Result → Shared → Prop} (k : CompOk scope cs) (hna : (relS scope cs).names.lookup na = some .local) (hnb : (relS scope cs).names.lookup nb = some .local) (a : At S d cs l ρ s₁)
    (hv : Rep S.base s₁.heap v (.list (items.map fun p => .tup [p.1, p.2]))) (hlen : items.length ≤ 1000)
    (hf : ∀ x V, ρf.lookup x = some V → ρ.lookup x = some V ∧ scope.names.lookup x = some .free ∧ cs.names.lookup x = some .cell)
    (ht : Turns S d (relS scope cs) elt na nb ρf items rs)
    (hR : ∀ D C s', CompEnd S s₁ D C rs s' → s₁.heap.get? D = none → s₁.heap.get? C = none → D ≠ C → RR (.ref D) C (.ok .next) s') :
    wpAny (model S.prog S.w) l.A (pyIter v) (fun it s₂ => wpAny (model S.prog S.w) l.A (newList []) (fun acc s₃ =>
      wpAny (model S.prog S.w) l.A (newFunctionEnv scope l.env.globals (cloL l.env.cells scope.names []) [] l.env.qual none .none (some l.env)) (fun cenv s₄ =>
        codeAny (model S.prog S.w) l.A (.compStart (.ListComp elt [⟨.Tuple [.Name na pa, .Name nb pb] tk tp, iter, [], 0⟩] scope pos) 0 it acc { cenv with scope := relabel scope l.env }) (RR acc cenv.locals) s₄) E s₃) E s₂) E s₁ := by
  cases hv with
  | @list lst vs _ hl hr =>
  refine wpAny_pyIter_list hl ?_
  refine wpAny_newList ?_ (by simp [sizeLine_eq])
  refine wpAny_newFunctionEnv k.cell (by intro y hy; simp at hy) (fun h₁ hns hsb => ?_) k.kind
  dsimp only at hns hsb ⊢
  have s0 : (s₁.heap.push { cls := .type "list_iterator", data := .fields #[.ref lst, .int 0 0] }).objs.size = s₁.heap.objs.size + 1 := Heap.size_push ..
  have s2 : ((s₁.heap.push { cls := .type "list_iterator", data := .fields #[.ref lst, .int 0 0] }).push { cls := .type "list", data := .seq ([] : List Value).toArray }).objs.size = s₁.heap.objs.size + 2 := by rw [Heap.size_push, s0]
  have fresh : ∀ a, s₁.heap.objs.size ≤ a → s₁.heap.get? a = none := fun a ha => by
    cases e : s₁.heap.get? a with
    | none => rfl
    | some o' => exact absurd (Heap.lt_size e) (Nat.not_lt.mpr ha)
  have gI : h₁.get? s₁.heap.objs.size = some { cls := .type "list_iterator", data := .fields #[.ref lst, .int 0 0] } := by
    refine (hsb.2 _ (Nat.ne_of_lt (by rw [s2]; exact Nat.lt_succ_of_lt (Nat.lt_succ_self _)))).trans ?_
    exact Heap.get?_push_of_some _ (Heap.get?_push_of_some _ (Heap.get?_push_size _ rfl))
  have gD : h₁.get? (s₁.heap.objs.size + 1) = some { cls := .type "list", data := .seq ([] : List Value).toArray } := by
    refine (hsb.2 _ (Nat.ne_of_lt (by rw [s2]; exact Nat.lt_succ_self _))).trans ?_
    refine Heap.get?_push_of_some _ ?_
    rw [← s0]; exact Heap.get?_push_size _ rfl
  have st : s₁.heap.StaysIn h₁ := fun b o e => by
    have := Heap.lt_size e
    exact (hsb.2 b (Nat.ne_of_lt (by rw [s2]; exact Nat.lt_succ_of_lt (Nat.lt_succ_of_lt this)))).trans (Heap.get?_push_of_some _ (Heap.get?_push_of_some _ (Heap.get?_push_of_some _ e)))
  rw [s2] at hns ⊢
  rw [s0]
  have it0 : h₁.IsListIter s₁.heap.objs.size lst 0 := ⟨_, gI, rfl, rfl⟩
  have L0 : LoopI S s₁ lst s₁.heap.objs.size (s₁.heap.objs.size + 1) (s₁.heap.objs.size + 2) [] 0 { s₁ with heap := h₁, toks := s₁.toks + ([] : List (Str × Value)).length } :=
    ⟨rfl, rfl, st, it0, ⟨[], ⟨_, gD, rfl, _, rfl⟩, .nil, rfl⟩, ⟨_, hns⟩, Nat.le_refl _⟩
  have loop : codeAny (model S.prog S.w) l.A (.compLoop (.ListComp elt [⟨.Tuple [.Name na pa, .Name nb pb] tk tp, iter, [], 0⟩] scope pos) 0 (.ref s₁.heap.objs.size) (.ref (s₁.heap.objs.size + 1)) (compEnvC scope (cloL l.env.cells scope.names []) (s₁.heap.objs.size + 2) l.env))
      (RR (.ref (s₁.heap.objs.size + 1)) (s₁.heap.objs.size + 2)) { s₁ with heap := h₁, toks := s₁.toks + ([] : List (Str × Value)).length } := by
    refine comp_loop k hna hnb a hl hr hlen (fresh _ (Nat.le_refl _)) (fresh _ (Nat.le_succ _)) (Nat.le_add_right _ 2) (Nat.ne_of_lt (Nat.lt_succ_self _)) (Nat.ne_of_lt (Nat.lt_add_of_pos_right (by decide))) (Nat.ne_of_lt (Nat.lt_succ_self _)) hf ht (fun s' h => ?_) L0
    refine hR _ _ s' ?_ (fresh _ (Nat.le_succ _)) (fresh _ (Nat.le_add_right _ 2)) (Nat.ne_of_lt (Nat.lt_succ_self _))
    rcases h with h | h
    · obtain ⟨ys, h1, h2, _⟩ := h.acc
      exact ⟨h.gens, h.os, h.stays, ⟨ys, h1, h2⟩, h.ns, h.toks⟩
    · exact ⟨h.1, h.2.1, h.2.2.1, h.2.2.2.1, h.2.2.2.2.1, h.2.2.2.2.2⟩
  exact codeAny_compStart_list loop (wpAny_pyIter_listiter it0 loop)
theorem turns_flat {cc : Scope} {elt : Expr} {na nb : Str} {ρf : Rho} {items : List (V × V)} {rs : List V} (h : Turns S d cc elt na nb ρf items rs) : FlatL rs := by
  induction h with
  | nil => exact .nil
  | cons _ f _ ih => exact .cons f ih
theorem CompEnd.but {s₁ s' : Shared} {D C : Addr} {rs : List V} {h' : Heap} (c : CompEnd S s₁ D C rs s') (fl : FlatL rs) (hC : s₁.heap.get? C = none) (hDC : D ≠ C) (hs : Heap.SameBut C s'.heap h') :
    Kp s₁ { s' with heap := h' } ∧ Rep S.base h' (.ref D) (.list rs) := by
  obtain ⟨ys, h1, h2⟩ := c.acc
  obtain ⟨m, hm⟩ := c.ns
  refine ⟨⟨c.gens, c.os, fun b o e => (hs.2 b (fun q => by rw [q, hC] at e; cases e)).trans (c.stays b o e), c.toks⟩, .list ?_ (RepL.butNs hm hs fl h2)⟩
  obtain ⟨o, ho, r⟩ := h1
  exact ⟨o, (hs.2 D hDC).trans ho, r⟩
theorem hclos_is {l : Loc} {scope : Scope} {s : Shared} (k : CompOk scope cs) (a : At S d cs l ρ s) : closureFor scope l.env = pure (cloL l.env.cells scope.names []) :=
  closureFor_is fun y hy h => by
    obtain ⟨c, hc⟩ := a.cells.has y.1 (by unfold Env.kindOf; rw [a.scope]; exact k.free y hy h); rw [hc]; rfl
theorem EvE_comp2 {elt iter : Expr} {na nb : Str} {pa pb tp : Pos} {tk : Nat} {scope : Scope} {pos : Pos} {P : V → Rho → Prop} (ρf : Rho)
    (h : EvE S d cs iter ρ (fun x ρ₁ => ∃ items rs, x = .list (items.map fun p => .tup [p.1, p.2]) ∧ items.length ≤ 1000 ∧
      (∀ x V, ρf.lookup x = some V → ρ₁.lookup x = some V ∧ scope.names.lookup x = some .free ∧ cs.names.lookup x = some .cell) ∧ Turns S d (relS scope cs) elt na nb ρf items rs ∧ P (.list rs) ρ₁) X)
    (hk : compOk scope cs = true := by decide) (hna : (relS scope cs).names.lookup na = some .local := by decide) (hnb : (relS scope cs).names.lookup nb = some .local := by decide)
    (hs : ∀ env x, foldedSetIterable iter env x = pure x := by intro _ _; rfl) :
    EvE S d cs (.ListComp elt [⟨.Tuple [.Name na pa, .Name nb pb] tk tp, iter, [], 0⟩] scope pos) ρ P X := by
  refine ⟨⟨fun l s Q E a hQ hE => ?_⟩⟩
  have k := compOk_is hk
  rw [eval_ListComp]
  refine wpAny_comprehension_free (use := none) rfl (hs _) (hclos_is k a) k.kind k.loc (h.at a hE fun v x ρ₁ s₁ a₁ n₁ r₁ p₁ hE₁ => ?_)
  obtain ⟨items, rs, rfl, hlen, hf, ht, p⟩ := p₁
  refine comp_block (RR := fun acc C => compPost (model S.prog S.w) l.A E none Q acc C) k hna hnb a₁ r₁ hlen hf ht fun D C s' c hD hC hDC => ?_
  obtain ⟨m, hm⟩ := c.ns
  refine ⟨m, hm, fun h' hs' => ?_⟩
  obtain ⟨kp, hr⟩ := c.but (turns_flat ht) hC hDC hs'
  exact hQ _ _ _ _ (a₁.kp kp) (n₁.trans kp.nx) hr p
/-- storing in a local name, with what stays -/
theorem At.storeL {l : Loc} {s : Shared} {x : Str} {v : Value} {x' : V} {Q : Unit → Shared → Prop} {E : Value → Shared → Prop} (a : At S d cs l ρ s) (r : Rep S.base s.heap v x')
    (hk : cs.names.lookup x = some .local) (k : ∀ s', At S d cs l ((x, x') :: ρ) s' → Nx s s' → Heap.SameBut l.L s.heap s'.heap → Q () s') :
    wpAny (model S.prog S.w) l.A (storeName l.env x v) Q E s := by
  obtain ⟨m, F, R⟩ := a.F
  have hkf : l.env.scope.kind = .function := by rw [a.scope]; exact a.kind
  have hns : s.heap.Ns l.env.locals m := by rw [a.locals]; exact F.ns
  obtain ⟨oL, es, ep, hL, hLd⟩ := ns_dict F.ns
  have hk' : l.env.kindOf x = some .local := by unfold Env.kindOf; rw [a.scope]; exact hk
  refine wpAny_storeName_local hk' hns (fun h' hn hs => ?_) (by rw [hkf]; rfl)
  rw [a.locals] at hn hs
  have im : Imm s.heap h' := fun b o e nd nc => (hs.2 b (fun q => by rw [q, hL] at e; cases e; exact nd _ _ hLd)).trans e
  have cellk : ∀ c v, s.heap.IsCell c v → h'.IsCell c v := fun c v ⟨o, ho, hd⟩ => ⟨o, (hs.2 c (fun q => by rw [q, hL] at ho; cases ho; rw [hd] at hLd; cases hLd)).trans ho, hd⟩
  refine k _ { a with F := ⟨_, F.set hn hs, ?_⟩, cells := ⟨a.cells.has, fun y c e e' => let ⟨v, i⟩ := a.cells.cell y c e e'; ⟨v, cellk _ _ i⟩, a.cells.fresh, a.cells.inj⟩, tk := Nat.lt_succ_of_lt a.tk } ⟨rfl, rfl, im, Nat.le_succ _⟩ hs
  intro y Y hy
  by_cases e : y = x
  · subst e; rw [lookup_cons_eq] at hy; cases hy
    exact .inl ⟨hk', v, by simp, r.imm im⟩
  · rw [lookup_cons_ne e] at hy
    rcases R y Y hy with ⟨a1, w, a2, a3⟩ | ⟨a1, c, w, a2, a3, a4⟩ | ⟨a1, c, w, a2, a3, a4⟩
    · exact .inl ⟨a1, w, by simp [e, a2], a3.imm im⟩
    · exact .inr (.inl ⟨a1, c, w, a2, cellk _ _ a3, a4.imm im⟩)
    · exact .inr (.inr ⟨a1, c, w, a2, cellk _ _ a3, a4.imm im⟩)
theorem At.butNs {l : Loc} {s : Shared} {C : Addr} {h' : Heap} {m : Str → Option Value} (a : At S d cs l ρ s) (hm : s.heap.Ns C m) (hs : Heap.SameBut C s.heap h') (hC0 : l.h₀.get? C = none) (hCL : l.L ≠ C) :
    At S d cs l ρ { s with heap := h' } ∧ Nx s { s with heap := h' } := by
  obtain ⟨oC, es, ep, hC, hCd⟩ := ns_dict hm
  have im : Imm s.heap h' := fun b o e nd nc => (hs.2 b (fun q => by rw [q, hC] at e; cases e; exact nd _ _ hCd)).trans e
  have cellk : ∀ c v, s.heap.IsCell c v → h'.IsCell c v := fun c v ⟨o, ho, hd⟩ => ⟨o, (hs.2 c (fun q => by rw [q, hC] at ho; cases ho; rw [hd] at hCd; cases hCd)).trans ho, hd⟩
  obtain ⟨m₁, F, R⟩ := a.F
  refine ⟨{ a with F := ⟨m₁, ⟨F.ns.sameBut hs hCL, fun b o e => (hs.2 b (fun q => by rw [q, hC0] at e; cases e)).trans (F.keep b o e), F.above⟩, fun y Y hy => ?_⟩, cells := ⟨a.cells.has, fun y c e e' => let ⟨v, i⟩ := a.cells.cell y c e e'; ⟨v, cellk _ _ i⟩, a.cells.fresh, a.cells.inj⟩, tk := a.tk }, rfl, rfl, im, Nat.le_refl _⟩
  rcases R y Y hy with ⟨a1, w, a2, a3⟩ | ⟨a1, c, w, a2, a3, a4⟩ | ⟨a1, c, w, a2, a3, a4⟩
  · exact .inl ⟨a1, w, a2, a3.imm im⟩
  · exact .inr (.inl ⟨a1, c, w, a2, cellk _ _ a3, a4.imm im⟩)
  · exact .inr (.inr ⟨a1, c, w, a2, cellk _ _ a3, a4.imm im⟩)
theorem Ex1_assign_comp2 {elt iter : Expr} {y na nb : Str} {py pa pb tp : Pos} {tk : Nat} {scope : Scope} {pos spos : Pos} {P : Fw → Rho → Prop} (ρf : Rho)
    (h : EvE S d cs iter ρ (fun x ρ₁ => ∃ items rs, x = .list (items.map fun p => .tup [p.1, p.2]) ∧ items.length ≤ 1000 ∧
      (∀ x V, ρf.lookup x = some V → ρ₁.lookup x = some V ∧ scope.names.lookup x = some .free ∧ cs.names.lookup x = some .cell) ∧ Turns S d (relS scope cs) elt na nb ρf items rs ∧ P .next ((y, .list rs) :: ρ₁)) X)
    (hk : compOk scope cs = true := by decide) (hna : (relS scope cs).names.lookup na = some .local := by decide) (hnb : (relS scope cs).names.lookup nb = some .local := by decide)
    (hy : cs.names.lookup y = some .local := by rfl)
    (hs : ∀ env x, foldedSetIterable iter env x = pure x := by intro _ _; rfl)
    (hsw : ∀ env : Env, env.scope = cs → swapsWith (.ListComp elt [⟨.Tuple [.Name na pa, .Name nb pb] tk tp, iter, [], 0⟩] scope pos) (some (.Name y py)) spos.line env = pure true := by intro env henv; obtain ⟨sc, _, _, _, _, _, _, _, _⟩ := env; cases henv; rfl) :
    Ex1 S d cs (.Assign [.Name y py] (.ListComp elt [⟨.Tuple [.Name na pa, .Name nb pb] tk tp, iter, [], 0⟩] scope pos) spos) ρ P X := by
  refine ⟨⟨fun l s Q E a hQ hE => ?_⟩⟩
  have k := compOk_is hk
  rw [exec_Assign_Name_used _ _ _ _ (hsw _ a.scope)]
  refine wpAny_bind (wpAny_standAt (wpAny_bind ?_))
  show wpAny _ l.A (do let _ ← comprehension (.ListComp elt [⟨.Tuple [.Name na pa, .Name nb pb] tk tp, iter, [], 0⟩] scope pos) scope l.env _ (newList []) false (eval iter l.env) (some (assign (.Name y py) l.env))) _ _ s
  refine wpAny_bind (wpAny_mono (wpAny_comprehension_free (use := some (assign (.Name y py) l.env)) (Q := fun _ s' => Q .next s') rfl (hs _) (hclos_is k a) k.kind k.loc
    (h.at a hE fun v x ρ₁ s₁ a₁ n₁ r₁ p₁ hE₁ => ?_)) (fun _ s' hq => wpAny_pure (wpAny_pure hq)) fun _ _ e => e)
  obtain ⟨items, rs, rfl, hlen, hf, ht, p⟩ := p₁
  refine comp_block (RR := fun acc C => compPost (model S.prog S.w) l.A E (some (assign (.Name y py) l.env)) (fun _ s' => Q .next s') acc C) k hna hnb a₁ r₁ hlen hf ht fun D C s' c hD hC hDC => ?_
  obtain ⟨m, hm⟩ := c.ns
  obtain ⟨kp, hr⟩ := c.but (turns_flat ht) hC hDC (.refl ..)
  show wpAny _ l.A (assign (.Name y py) l.env (.ref D)) _ _ _
  refine PyProof.Rows.assign_Name ((a₁.kp kp).storeL hr hy fun s'' a'' n'' hs'' => ?_)
  obtain ⟨m₁, F₁, _⟩ := a₁.F
  have hLC : l.L ≠ C := fun e => by
    obtain ⟨o, es, ep, ho, _⟩ := ns_dict F₁.ns
    rw [e, hC] at ho; cases ho
  have hC0 : l.h₀.get? C = none := by
    cases e : l.h₀.get? C with
    | none => rfl
    | some o => have := F₁.keep _ _ e; rw [hC] at this; cases this
  have hm'' : s''.heap.Ns C m := hm.sameBut hs'' hLC.symm
  refine ⟨m, hm'', fun h' hs' => ?_⟩
  obtain ⟨af, nf⟩ := a''.butNs hm'' hs' hC0 hLC
  exact hQ _ _ _ _ af (n₁.trans (kp.nx.trans (n''.trans nf))) .next p
end
end Mine
end

section
open PySem PySem.W PySem.Calls PyProof.Rows PySem.NumText PySem.StrLaws PySem.Builtin PySem.Builtin.Str
set_option Elab.async false
set_option maxRecDepth 100000
namespace Mine

-- expressions
local macro_rules | `(tactic| kaf_pre) => `(tactic| first | refine EvE_name (by rfl) ?_ | refine EvE_glob (by assumption) ?_ | refine EvE_built (by assumption) ?_ | refine EvE_int ?_ | refine EvE_binop ?_ | refine EvE_cmp ?_ | refine EvE_unop ?_ | refine EvE_str ?_ | refine EvE_bool ?_ | refine EvE_call ?_ | refine EvE_meth0 ?_ | refine EvE_meth ?_ | refine EvE_sub ?_ | refine EvE_tuple ?_ | refine EvE_ifexp ?_ | refine EvE_one ?_ | refine EvE_and ?_ | refine EvE_or ?_ | refine EvE_list ?_ | refine EvE_walrus ?_)
-- operators
local macro_rules | `(tactic| kaf_suf) => `(tactic| first | refine bi_add ?_ | refine bi_sub ?_ | refine bi_and ?_ | refine bi_xor ?_ | refine bi_shr (by omega) ?_)
local macro_rules | `(tactic| tb_start) => `(tactic| first | refine cmp_eq ?_ | refine cmp_lt ?_ | refine cmp_gt ?_ | refine cmp_le ?_ | refine cmp_ge ?_ | refine cmp_ne ?_ | refine cmp_eqS ?_ | refine cmp_eq4 ?_)
local macro_rules | `(tactic| kct_strs) => `(tactic| first | refine ib_add ?_ | refine ib_sub ?_ | refine ib_xor ?_ | refine ib_shr (by omega) ?_)
local macro_rules | `(tactic| ktu_off1L) => `(tactic| first | refine un_neg ?_ | refine un_not ?_)
-- tests
local macro_rules | `(tactic| kba_ints) => `(tactic| first | refine EvT_not ?_ | refine EvT_cmp ?_ | refine EvT_and ?_ | refine EvT_and_nil ?_ | refine EvT_or ?_ | refine EvT_or_nil ?_ | refine EvT_name ?_ | refine EvT_call ?_ | refine EvT_sub ?_ | refine EvT_bin ?_)
-- statements
local macro_rules | `(tactic| kcf_m) => `(tactic| first | refine Ex1_if ?_ | refine Ex1_ret ?_ | refine Ex1_assign ?_ | refine Ex1_aug (by rfl) ?_ | refine Ex1_unpack4 ?_ | refine Ex1_unpack2 ?_ | refine Ex1_unpack3 ?_ | refine Ex1_swap ?_ | refine Ex1_assert ?_)
-- calls
local macro_rules | `(tactic| tb_rel) => `(tactic| first | refine call_bits ?_)
-- items
local macro_rules | `(tactic| ktu_offI) => `(tactic| first | refine sub_tup (by decide) (by decide) rfl rfl ?_ | refine sub_list (by decide) (by decide) rfl ?_)
-- a test's two ways: what cannot be goes at once
local macro_rules | `(tactic| krn_off) => `(tactic| ((refine ⟨fun h => ?_, fun h => ?_⟩) <;> first
    | (exact absurd h (by decide))
    | ((simp only [decide_eq_true_eq, decide_eq_false_iff_not, beq_iff_eq, bne_iff_ne, beq_eq_false_iff_ne, bne_eq_false_iff_eq, Bool.not_eq_true', Bool.not_eq_false', Bool.not_true, Bool.not_false, ne_eq, Decidable.not_not, gt_iff_lt, ge_iff_le, Int.not_lt, Int.not_le] at h) <;> (try (exfalso; omega)))
    | skip))
local macro_rules | `(tactic| kbo_bools) => `(tactic| first
    | ((with_reducible show EvE _ _ _ _ _ _ _); kaf_pre)
    | ((with_reducible show BinW _ _ _ _ _ _ _); kaf_suf) | ((with_reducible show CmpW _ _ _ _ _ _ _); tb_start) | ((with_reducible show InpW _ _ _ _ _ _ _); kct_strs)
    | ((with_reducible show Ex1 _ _ _ _ _ _ _); kcf_m)
    | ((with_reducible show ExS _ _ _ _ _ _ _); (first | refine ExS_cons ?_ | refine ExS_nil ?_))
    | ((with_reducible show EvT _ _ _ _ _ _ _); kba_ints)
    | ((with_reducible show EvL _ _ _ _ _ _ _ _); (first | refine EvL_cons ?_ | refine EvL_nil ?_))
    | ((with_reducible show UnW _ _ _ _ _ _); ktu_off1L)
    | ((with_reducible show CallW _ _ _ _ _ _); tb_rel)
    | ((with_reducible show SubW _ _ _ _ _ _ _ _); ktu_offI)
    | ((with_reducible show (_ = true → _) ∧ (_ = false → _)); krn_off)
    | ((with_reducible show (_ = false → _) ∧ (_ = true → _)); krn_off)
    | ((with_reducible show _ = true ∧ _); refine ⟨?_, ?_⟩)
    | ((with_reducible show ∃ b, TruthIs _ b ∧ _); refine ⟨_, rfl, ?_⟩)
    | ((with_reducible show List.length _ ≤ 1000 ∧ _); refine ⟨by simp only [List.length_cons, List.length_nil]; decide, ?_⟩)
    | ((with_reducible show ∃ fv, V.raw _ = V.raw fv ∧ _); refine ⟨_, rfl, by assumption, ?_⟩)
    | ((with_reducible show ∃ id, MethIs _ _ _ id ∧ _); refine ⟨_, meth_bits, ?_⟩)
    | ((with_reducible show ∃ a, _); (first | refine ⟨_, _, _, _, rfl, ?_⟩ | refine ⟨_, _, rfl, ?_⟩ | refine ⟨_, _, _, rfl, ?_⟩)))

section
variable {S : Sy} {d : Nat} {X : Prop}
local macro_rules | `(tactic| kaf_pre) => `(tactic| first | refine EvE_name (by rfl) ?_ | refine EvE_glob (by with_reducible assumption) ?_ | refine EvE_built (by with_reducible assumption) ?_ | refine EvE_int ?_ | refine EvE_binop ?_ | refine EvE_cmp ?_ | refine EvE_unop ?_ | refine EvE_str ?_ | refine EvE_bool ?_ | refine EvE_call ?_ | refine EvE_methW0 ?_ | ((with_reducible show EvE _ _ _ (Expr.Call (Expr.Attribute _ (Str.ofString "replace") _) [Expr.Constant (Const.str _) _ _, Expr.Constant (Const.str _) _ _] [] _) _ _ _); refine EvE_replace' ?_) | refine EvE_methW ?_ | refine EvE_slice_nsE ?_ | refine EvE_slice_snE ?_ | refine EvE_sub ?_ | refine EvE_tuple ?_ | refine EvE_ifexp ?_ | refine EvE_one ?_ | refine EvE_and ?_ | refine EvE_or ?_ | refine EvE_list ?_ | refine EvE_walrus ?_)
local macro_rules | `(tactic| kcf_m) => `(tactic| first | refine Ex1_if ?_ | refine Ex1_ret ?_ | refine Ex1_assign ?_ | refine Ex1_aug (by rfl) ?_ | ((with_reducible show Ex1 _ _ _ (Stmt.Assign [Expr.Tuple [Expr.Name _ _, Expr.Name _ _] _ _] (Expr.Tuple _ _ _) _) _ _ _); refine Ex1_swap2 ?_) | ((with_reducible show Ex1 _ _ _ (Stmt.Assign [Expr.Tuple [Expr.Name _ _, Expr.Name _ _, Expr.Name _ _] _ _] (Expr.Tuple _ _ _) _) _ _ _); refine Ex1_swap3 ?_) | refine Ex1_unpackA2 ?_ | refine Ex1_unpackA3 ?_ | refine Ex1_assert ?_)
local macro_rules | `(tactic| tb_start) => `(tactic| first | refine cmp_eq ?_ | refine cmp_lt ?_ | refine cmp_gt ?_ | refine cmp_le ?_ | refine cmp_ge ?_ | refine cmp_ne ?_ | refine cmp_eqSb (by with_reducible assumption) ?_ | refine cmp_neSb (by with_reducible assumption) ?_ | refine cmp_eqS ?_ | refine cmp_neS ?_ | refine cmp_in (by with_reducible assumption) ?_ | refine cmp_notin (by with_reducible assumption) ?_)
local macro_rules | `(tactic| kaf_suf) => `(tactic| first | refine bi_addE (by with_reducible assumption) ?_ | refine bi_subE (by with_reducible assumption) ?_ | refine bi_mulE (by with_reducible assumption) ?_ | refine bi_fdivE (by with_reducible assumption) (by decide) (by decide) ?_ | refine bi_modE (by with_reducible assumption) (by omega) ?_ | refine bi_powE (by with_reducible assumption) ?_ | refine bi_mulSE (by with_reducible assumption) ?_ | refine bi_addSb (by omega) (by omega) (by with_reducible assumption) ?_ | refine bi_add ?_ | refine bi_sub ?_ | refine bi_fdiv (by decide) (by decide) ?_ | refine bi_mod (by decide) ?_)
local macro_rules | `(tactic| tb_rel) => `(tactic| first | refine call_bitsE (by with_reducible assumption) ?_ | refine call_strE (by with_reducible assumption) ?_ | refine call_maxE (by with_reducible assumption) ?_ | refine call_lenSE (by with_reducible assumption) (by omega) ?_ | refine call_lenLE (by with_reducible assumption) ?_ | refine call_lenL1 ?_ | refine call_lenL2 ?_ | refine call_intS (by with_reducible assumption) (by omega) ?_ | refine call_absE (by with_reducible assumption) ?_ | refine call_abs ?_)
local macro_rules | `(tactic| ktu_off1L) => `(tactic| first | refine un_negE (by with_reducible assumption) ?_ | refine un_neg ?_ | refine un_not ?_)
local macro_rules | `(tactic| ktu_offI) => `(tactic| first | refine sub_tup (by decide) (by decide) rfl rfl ?_ | refine sub_listE (by with_reducible assumption) ?_ | refine sub_list (by decide) (by decide) rfl ?_ | refine sub_strb (by omega) (by omega) (by omega) (by with_reducible assumption) ?_)
local macro_rules | `(tactic| kbo_bools) => `(tactic| first
    | ((with_reducible show EvE _ _ _ _ _ _ _); kaf_pre)
    | ((with_reducible show BinW _ _ _ _ _ _ _); kaf_suf) | ((with_reducible show CmpW _ _ _ _ _ _ _); tb_start) | ((with_reducible show InpW _ _ _ _ _ _ _); kct_strs)
    | ((with_reducible show Ex1 _ _ _ _ _ _ _); kcf_m)
    | ((with_reducible show ExS _ _ _ _ _ _ _); (first | refine ExS_cons ?_ | refine ExS_nil ?_))
    | ((with_reducible show EvT _ _ _ _ _ _ _); kba_ints)
    | ((with_reducible show EvL _ _ _ _ _ _ _ _); (first | refine EvL_cons ?_ | refine EvL_nil ?_))
    | ((with_reducible show UnW _ _ _ _ _ _); ktu_off1L)
    | ((with_reducible show CallW _ _ _ _ _ _); tb_rel)
    | ((with_reducible show SubW _ _ _ _ _ _ _ _); ktu_offI)
    | ((with_reducible show (_ = true → _) ∧ (_ = false → _)); krn_off)
    | ((with_reducible show (_ = false → _) ∧ (_ = true → _)); krn_off)
    | ((with_reducible show _ = true ∧ _); refine ⟨?_, ?_⟩)
    | ((with_reducible show ∃ b, TruthIs _ b ∧ _); refine ⟨_, rfl, ?_⟩)
    | ((with_reducible show List.length _ ≤ 1000 ∧ _); refine ⟨by simp only [List.length_cons, List.length_nil]; decide, ?_⟩)
    | ((with_reducible show ∃ fv, V.raw _ = V.raw fv ∧ _); refine ⟨_, rfl, by with_reducible assumption, ?_⟩)
    | ((with_reducible show ∃ id, MethW _ _ _ id ∧ _); (first | with_reducible apply mx_bits | with_reducible apply mx_lower | with_reducible apply mx_strip | with_reducible apply mx_rstrip | with_reducible apply mx_split | with_reducible apply mx_startswith))
    | ((with_reducible show ∃ a, _); (first | refine ⟨_, _, .inl rfl, ?_⟩ | refine ⟨_, _, .inr rfl, ?_⟩ | refine ⟨_, _, _, rfl, rfl, by omega, by with_reducible assumption, ?_⟩ | refine ⟨_, _, rfl, by omega, by with_reducible assumption, ?_⟩ | refine ⟨_, _, _, rfl, ?_⟩ | refine ⟨_, _, rfl, ?_⟩ | refine ⟨_, rfl, rfl, ?_⟩)))
/-! bounds of sizes -/
def Bd (k : Nat) (a : Int) : Prop := a.natAbs < 2 ^ k
theorem Bd.mono {k m : Nat} {a : Int} (h : Bd k a) (hk : k ≤ m) : Bd m a := Nat.lt_of_lt_of_le h (Nat.pow_le_pow_right (by decide) hk)
theorem Bd.mul {k m : Nat} {a b : Int} (h : Bd k a) (h' : Bd m b) : Bd (k + m) (a * b) := by
  unfold Bd at *
  rw [Int.natAbs_mul, Nat.pow_add]
  exact Nat.mul_lt_mul'' h h'
theorem Bd.add {k m : Nat} {a b : Int} (h : Bd k a) (h' : Bd m b) : Bd (k + m + 1) (a + b) := by
  unfold Bd at *
  have h1 : 2 ^ k ≤ 2 ^ (k + m) := Nat.pow_le_pow_right (by decide) (by omega)
  have h2 : 2 ^ m ≤ 2 ^ (k + m) := Nat.pow_le_pow_right (by decide) (by omega)
  have := Int.natAbs_add_le a b
  rw [Nat.pow_succ]; omega
theorem Bd.neg {k : Nat} {a : Int} (h : Bd k a) : Bd k (-a) := by unfold Bd at *; rw [Int.natAbs_neg]; exact h
theorem Bd.sub {k m : Nat} {a b : Int} (h : Bd k a) (h' : Bd m b) : Bd (k + m + 1) (a - b) := by rw [Int.sub_eq_add_neg]; exact h.add h'.neg
theorem Bd.mok {k m : Nat} {a b : Int} (h : Bd k a) (h' : Bd m b) (hk : k + m ≤ 100000) : IntMulOk a b := mulok_small (by
  have h1 := bl_of_lt h; have h2 := bl_of_lt h'; omega)
theorem Bd.abs {k : Nat} {a : Int} (h : Bd k a) : Bd k (if a < 0 then -a else a) := by split; exact h.neg; exact h
theorem Bd.pow2 (k : Nat) : Bd (k + 1) (2 ^ k) := by
  unfold Bd
  rw [Int.natAbs_pow]
  show 2 ^ k < 2 ^ (k + 1)
  rw [Nat.pow_succ]; have := Nat.two_pow_pos k; omega
/-! all of a list of two -/
theorem call_allTT {P : V → Prop} (p : P (.bool true)) : CallW S d (.raw (.builtin "all")) [.list [.bool true, .bool true]] P X := by
  refine ⟨fun A fl s fv vs pl r rl => ?_⟩
  cases r
  cases rl with | cons r rl => cases r with | @list a ws _ hl hr => cases rl with | nil =>
  cases hr with | cons r1 hr => cases r1; cases hr with | cons r2 hr => cases r2; cases hr with | nil =>
  refine .of fun Q E q _ => call_all_walk (wpAny_pyIter_list hl ?_)
  have hne : a ≠ s.heap.objs.size := by obtain ⟨o, ho, _⟩ := hl; exact Nat.ne_of_lt (Heap.lt_size ho)
  have hh : A.in1.handled = none := pl.hd
  refine ⟨_, _, _, _, _, _, fun _ => true, rfl, Walks.list hh s.heap.objs.size a hne _, ⟨⟨_, Heap.get?_push_size _ rfl, rfl, rfl⟩, hl.push _⟩, fun i v s' Q' E' hP hQ => ?_, fun h' tk hk => ?_⟩
  · have : v = .bool true := by
      match i, hP with
      | 0, h => simpa using h.symm
      | 1, h => simpa using h.symm
      | i + 2, h => simp at h
    subst this
    exact wpAny_truthy_bool hQ
  · refine q (.bool true) _ _ rfl rfl (fun b o e => hk b o (fun hm => ?_) (Heap.get?_push_of_some _ e)) (.bool true) p
    simp only [List.mem_singleton] at hm
    exact absurd (Heap.lt_size e) (by rw [hm]; exact Nat.lt_irrefl _)
/-! two floats against two -/
theorem eqv4 (a b c e : Int) : PyData.eqv (.tuple ([a, b, c, e].map PyData.int)) (.tuple ([a, b, c, e].map PyData.int)) = true := by
  rw [show PyData.eqv (.tuple ([a, b, c, e].map PyData.int)) (.tuple ([a, b, c, e].map PyData.int)) = PyData.eqvAll ([a, b, c, e].map PyData.int) ([a, b, c, e].map PyData.int) from rfl, ked_eqvAll]
  simp
theorem dataM (r : Mp) : DataOf r.v (.tuple ([r.s, r.m, r.e, r.b].map PyData.int)) := .tup (.cons (.int _) (.cons (.int _) (.cons (.int _) (.cons (.int _) .nil))))
theorem cmp_held {a b : Mp} {P : V → Prop} (p : P (.bool true)) : CmpW S d .Eq (.tup [a.v, b.v]) (.tup [a.v, b.v]) P X := by
  have hd : DataOf (.tup [a.v, b.v]) (.tuple [.tuple ([a.s, a.m, a.e, a.b].map PyData.int), .tuple ([b.s, b.m, b.e, b.b].map PyData.int)]) := .tup (.cons (dataM a) (.cons (dataM b) .nil))
  have sh : SeqAt.shaped (.tuple [.tuple ([a.s, a.m, a.e, a.b].map PyData.int), .tuple ([b.s, b.m, b.e, b.b].map PyData.int)]) = true := by rfl
  refine cmp_eqD hd hd sh sh ?_
  have : PyData.eqv (.tuple [.tuple ([a.s, a.m, a.e, a.b].map PyData.int), .tuple ([b.s, b.m, b.e, b.b].map PyData.int)]) (.tuple [.tuple ([a.s, a.m, a.e, a.b].map PyData.int), .tuple ([b.s, b.m, b.e, b.b].map PyData.int)]) = true := by
    show (PyData.eqv (.tuple ([a.s, a.m, a.e, a.b].map PyData.int)) (.tuple ([a.s, a.m, a.e, a.b].map PyData.int)) && (PyData.eqv (.tuple ([b.s, b.m, b.e, b.b].map PyData.int)) (.tuple ([b.s, b.m, b.e, b.b].map PyData.int)) && PyData.eqvAll [] [])) = true
    rw [eqv4, eqv4]; rfl
  rw [this]; exact p
local macro_rules | `(tactic| tb_start) => `(tactic| first | refine cmp_held ?_ | refine cmp_eq ?_)
set_option maxHeartbeats 4000000 in
theorem held_walk (F : Facts S) {a b : Mp} {x0 x1 y0 y1 p : Int} {vx vy : Rat} {P : V → Prop} (hp : 1 ≤ p) (hp2 : p ≤ 60) (hx : 0 < x1) (hy : 0 < y1) (bx0 : Bd 200 x0) (bx1 : Bd 200 x1) (by0 : Bd 200 y0) (by1 : Bd 200 y1)
    (ex : vx * (x1 : Rat) = (x0 : Rat)) (ey : vy * (y1 : Rat) = (y0 : Rat)) (qa : QR false vx p a) (qb : QR true vy p b) (h : P (.bool true)) :
    CallW S (d + 2) (.raw (gl S "_law_held")) [.tup [a.v, b.v], .tup [.int x0, .int x1], .tup [.int y0, .int y1], .int p] P X := by
  have f1 := F.f46.glob'
  have f2 := F.f46.can
  have c1 : ∀ {P : V → Prop}, P a.v → CallW S (d + 1) (.raw (gl S "_law_rounded")) [.int x0, .int x1, .int p, .str "f"] P X := fun {P} h =>
    rounded_walk F (up := false) hx hp hp2 bx0 bx1 ex fun r hr => by rw [qr_unique hr qa]; exact h
  have c2 : ∀ {P : V → Prop}, P b.v → CallW S (d + 1) (.raw (gl S "_law_rounded")) [.int y0, .int y1, .int p, .str "c"] P X := fun {P} h =>
    rounded_walk F (up := true) hy hp hp2 by0 by1 ey fun r hr => by rw [qr_unique hr qb]; exact h
  refine CallW_def (d := d + 1) F.f49 _ _ (binds_49_4 F.f49 _ _ _ _) (by decide) (by decide) (by decide) rfl rfl rfl ?_
  repeat' kbo_bools
  refine c1 ?_
  repeat' kbo_bools
  refine c2 ?_
  repeat' kbo_bools
  all_goals exact h

/-! a float's worth -/
theorem val_worth {r : Mp} (hs : r.s = 0 ∨ r.s = 1) : r.val = ((if r.s = 1 then -r.m else r.m : Int) : Rat) * q2 r.e := by
  unfold Mp.val sgR
  rcases hs with h | h
  · rw [h, if_pos rfl, if_neg (by decide)]
  · rw [h, if_neg (by decide), if_pos rfl, Rat.intCast_neg, Rat.neg_mul]
theorem q2_up {e : Int} (h : 0 ≤ e) : q2 e = ((2 ^ e.toNat : Int) : Rat) := by
  have : e = (e.toNat : Int) := by omega
  conv => lhs; rw [this]
  rw [q2_nat]
theorem q2_dn {e ne : Int} (h : e < 0) (hn : -e = ne) : q2 e * ((2 ^ ne.toNat : Int) : Rat) = 1 := by
  have : e = -(ne.toNat : Int) := by omega
  have q := q2_inv ne.toNat
  rwa [← this] at q
theorem rat_one : ((1 : Int) : Rat) = 1 := rfl
set_option exponentiation.threshold 10000 in
set_option maxHeartbeats 4000000 in
theorem worth_walk (F : Facts S) {r : Mp} {P : V → Prop} (hc : Can r) (he : -5000 ≤ r.e ∧ r.e ≤ 5000) (hb : r.b ≤ 1000)
    (h : ∀ n D : Int, 0 < D → r.val * (D : Rat) = (n : Rat) → Bd 7000 n → Bd 7000 D → P (.tup [.int n, .int D])) : CallW S (d + 1) (.raw (gl S "_law_worth")) [r.v] P X := by
  obtain ⟨s, m, e, b⟩ := r
  obtain ⟨k1, k2, k3, k4, k5⟩ := can_facts hc
  have hv := val_worth k1
  dsimp only at *
  have b2 : (Builtin.Int.intBits 2 : Int) = 2 := by decide +kernel
  have bm : Bd 1000 m := by
    unfold Bd
    rcases (by omega : m = 0 ∨ 0 < m) with h0 | h0
    · subst h0; exact Nat.two_pow_pos _
    · have h1 := (bl_specI h0).2.1
      have h2 : (2 : Nat) ^ bl m ≤ 2 ^ 1000 := Nat.pow_le_pow_right (by decide) (by omega)
      have : m.natAbs < 2 ^ bl m := by
        have e1 : ((m.natAbs : Nat) : Int) < ((2 ^ bl m : Nat) : Int) := by rw [Int.natAbs_of_nonneg (Int.le_of_lt h0)]; exact_mod_cast h1
        exact_mod_cast e1
      omega
  show CallW S (d + 1) (.raw (gl S "_law_worth")) [.tup [.int s, .int m, .int e, .int b]] P X
  rcases k1 with rfl | rfl <;> rcases (by omega : 0 ≤ e ∨ e < 0) with h0 | h0
  · have p1 : (0 : Int) ≤ e ∧ (Builtin.Int.intBits 2 : Int) * e ≤ 2 ^ 27 ∧ (2 : Int) ^ e.toNat = 2 ^ e.toNat := ⟨h0, by rw [b2]; omega, rfl⟩
    have bp := (Bd.pow2 e.toNat).mono (show e.toNat + 1 ≤ 5001 by omega)
    have m1 : IntMulOk m (2 ^ e.toNat) ∧ m * 2 ^ e.toNat = m * 2 ^ e.toNat := ⟨bm.mok bp (by decide), rfl⟩
    have fin := Hid.mk (h (m * 2 ^ e.toNat) 1 (by decide) (by
      rw [hv, if_neg (by decide), q2_up h0, rat_one, Rat.mul_one, Rat.intCast_mul]) ((bm.mul bp).mono (by decide)) (Nat.one_lt_two_pow (by decide)))
    clear h hv k3 k5
    refine CallW_def (d := d) F.f45 _ _ (binds_45_1 F.f45 _) (by decide) (by decide) (by decide) rfl rfl rfl ?_
    repeat' kbo_bools
    exact fin.out
  · obtain ⟨ne, hne⟩ : ∃ z : Int, -e = z := ⟨_, rfl⟩
    have p1 : (0 : Int) ≤ ne ∧ (Builtin.Int.intBits 2 : Int) * ne ≤ 2 ^ 27 ∧ (2 : Int) ^ ne.toNat = 2 ^ ne.toNat := ⟨by omega, by rw [b2]; omega, rfl⟩
    have bp := (Bd.pow2 ne.toNat).mono (show ne.toNat + 1 ≤ 5001 by omega)
    have fin := Hid.mk (h m (2 ^ ne.toNat) (Int.pow_pos (by decide)) (by
      rw [hv, if_neg (by decide), Rat.mul_assoc, q2_dn h0 hne, Rat.mul_one]) (bm.mono (by decide)) (bp.mono (by decide)))
    clear h hv k3 k5
    refine CallW_def (d := d) F.f45 _ _ (binds_45_1 F.f45 _) (by decide) (by decide) (by decide) rfl rfl rfl ?_
    repeat' kbo_bools
    exact fin.out
  · obtain ⟨nm, hnm⟩ : ∃ z : Int, -m = z := ⟨_, rfl⟩
    have bn : Bd 1000 nm := hnm ▸ bm.neg
    have p1 : (0 : Int) ≤ e ∧ (Builtin.Int.intBits 2 : Int) * e ≤ 2 ^ 27 ∧ (2 : Int) ^ e.toNat = 2 ^ e.toNat := ⟨h0, by rw [b2]; omega, rfl⟩
    have bp := (Bd.pow2 e.toNat).mono (show e.toNat + 1 ≤ 5001 by omega)
    have m1 : IntMulOk nm (2 ^ e.toNat) ∧ nm * 2 ^ e.toNat = nm * 2 ^ e.toNat := ⟨bn.mok bp (by decide), rfl⟩
    have fin := Hid.mk (h (nm * 2 ^ e.toNat) 1 (by decide) (by
      rw [hv, if_pos rfl, hnm, q2_up h0, rat_one, Rat.mul_one, Rat.intCast_mul]) ((bn.mul bp).mono (by decide)) (Nat.one_lt_two_pow (by decide)))
    clear h hv k3 k5
    refine CallW_def (d := d) F.f45 _ _ (binds_45_1 F.f45 _) (by decide) (by decide) (by decide) rfl rfl rfl ?_
    repeat' kbo_bools
    exact fin.out
  · obtain ⟨nm, hnm⟩ : ∃ z : Int, -m = z := ⟨_, rfl⟩
    have bn : Bd 1000 nm := hnm ▸ bm.neg
    obtain ⟨ne, hne⟩ : ∃ z : Int, -e = z := ⟨_, rfl⟩
    have p1 : (0 : Int) ≤ ne ∧ (Builtin.Int.intBits 2 : Int) * ne ≤ 2 ^ 27 ∧ (2 : Int) ^ ne.toNat = 2 ^ ne.toNat := ⟨by omega, by rw [b2]; omega, rfl⟩
    have bp := (Bd.pow2 ne.toNat).mono (show ne.toNat + 1 ≤ 5001 by omega)
    have fin := Hid.mk (h nm (2 ^ ne.toNat) (Int.pow_pos (by decide)) (by
      rw [hv, if_pos rfl, hnm, Rat.mul_assoc, q2_dn h0 hne, Rat.mul_one]) (bn.mono (by decide)) (bp.mono (by decide)))
    clear h hv k3 k5
    refine CallW_def (d := d) F.f45 _ _ (binds_45_1 F.f45 _) (by decide) (by decide) (by decide) rfl rfl rfl ?_
    repeat' kbo_bools
    exact fin.out

end
end Mine
end

section
open PySem
set_option Elab.async false
namespace Mine
theorem ab_int {vx : Rat} {line one : Int} (hl : 0 < line) (h : vx * (line : Rat) = (one : Rat)) : ((if one < 0 then -one else one : Int) : Rat) = ab vx * (line : Rat) := by
  have pl : (0 : Rat) < (line : Rat) := by exact_mod_cast hl
  unfold ab
  by_cases h0 : one < 0
  · rw [if_pos h0]
    have : (one : Rat) < 0 := by exact_mod_cast h0
    have hv : ¬ 0 ≤ vx := fun hv => by have := Rat.mul_nonneg hv (Rat.le_of_lt pl); grind
    rw [if_neg hv, Rat.intCast_neg, ← h, Rat.neg_mul]
  · rw [if_neg h0]
    have : (0 : Rat) ≤ (one : Rat) := by exact_mod_cast (by omega : 0 ≤ one)
    have hv : 0 ≤ vx := rat_le_of_mul pl (by rw [h, Rat.zero_mul]; exact this)
    rw [if_pos hv, h]
theorem int_le {a b : Int} (h : (a : Rat) ≤ (b : Rat)) : a ≤ b := by exact_mod_cast h
/-- what is asked of one end, in whole numbers -/
theorem bey_int {vx R g : Rat} {line one other W B G : Int} (hB : 0 < B) (hl : 0 < line) (h1 : vx * (line : Rat) = (one : Rat)) (h2 : R * (line : Rat) = (other : Rat)) (hG : (G : Rat) = g * (line : Rat) * (B : Rat))
    (lo : 0 ≤ g) (lo2 : g * (W : Rat) ≤ 16 * (ab vx + R)) : 0 ≤ G ∧ G * W ≤ 16 * ((if one < 0 then -one else one) + other) * B := by
  have pl : (0 : Rat) < (line : Rat) := by exact_mod_cast hl
  have pB : (0 : Rat) < (B : Rat) := by exact_mod_cast hB
  have pp := Rat.mul_pos pl pB
  refine ⟨int_le ?_, int_le ?_⟩
  · rw [hG, Rat.mul_assoc]; exact Rat.mul_nonneg lo (Rat.le_of_lt pp)
  · have e1 := ab_int hl h1
    have e16 : ((16 : Int) : Rat) = 16 := rfl
    rw [Rat.intCast_mul, Rat.intCast_mul, Rat.intCast_mul, Rat.intCast_add, e1, ← h2, hG, e16]
    have := Rat.mul_le_mul_of_nonneg_right lo2 (Rat.le_of_lt pp)
    grind
theorem gap_lo {vx R av : Rat} {line one other la lb : Int} (h1 : vx * (line : Rat) = (one : Rat)) (h2 : R * (line : Rat) = (other : Rat)) (h3 : av * (lb : Rat) = (la : Rat)) :
    (((one - other) * lb - la * line : Int) : Rat) = (vx - R - av) * (line : Rat) * (lb : Rat) := by
  rw [Rat.intCast_sub, Rat.intCast_mul, Rat.intCast_mul, Rat.intCast_sub, ← h1, ← h2, ← h3]; grind
theorem gap_hi {vx R bv : Rat} {line one other ha hb : Int} (h1 : vx * (line : Rat) = (one : Rat)) (h2 : R * (line : Rat) = (other : Rat)) (h3 : bv * (hb : Rat) = (ha : Rat)) :
    ((ha * line - (one + other) * hb : Int) : Rat) = (bv - vx - R) * (line : Rat) * (hb : Rat) := by
  rw [Rat.intCast_sub, Rat.intCast_mul, Rat.intCast_mul, Rat.intCast_add, ← h1, ← h2, ← h3]; grind
structure Bey (vx R : Rat) (p : Int) (a b : Mp) : Prop where
  lo : 0 ≤ vx - R - a.val
  lo2 : (vx - R - a.val) * ((2 ^ p.toNat : Int) : Rat) ≤ 16 * (ab vx + R)
  hi : 0 ≤ b.val - vx - R
  hi2 : (b.val - vx - R) * ((2 ^ p.toNat : Int) : Rat) ≤ 16 * (ab vx + R)
end Mine
end

section
open PySem PySem.W PySem.Calls PyProof.Rows PySem.NumText PySem.StrLaws PySem.Builtin PySem.Builtin.Str
set_option Elab.async false
set_option maxRecDepth 100000
namespace Mine

-- expressions
local macro_rules | `(tactic| kaf_pre) => `(tactic| first | refine EvE_name (by rfl) ?_ | refine EvE_glob (by assumption) ?_ | refine EvE_built (by assumption) ?_ | refine EvE_int ?_ | refine EvE_binop ?_ | refine EvE_cmp ?_ | refine EvE_unop ?_ | refine EvE_str ?_ | refine EvE_bool ?_ | refine EvE_call ?_ | refine EvE_meth0 ?_ | refine EvE_meth ?_ | refine EvE_sub ?_ | refine EvE_tuple ?_ | refine EvE_ifexp ?_ | refine EvE_one ?_ | refine EvE_and ?_ | refine EvE_or ?_ | refine EvE_list ?_ | refine EvE_walrus ?_)
-- operators
local macro_rules | `(tactic| kaf_suf) => `(tactic| first | refine bi_add ?_ | refine bi_sub ?_ | refine bi_and ?_ | refine bi_xor ?_ | refine bi_shr (by omega) ?_)
local macro_rules | `(tactic| tb_start) => `(tactic| first | refine cmp_eq ?_ | refine cmp_lt ?_ | refine cmp_gt ?_ | refine cmp_le ?_ | refine cmp_ge ?_ | refine cmp_ne ?_ | refine cmp_eqS ?_ | refine cmp_eq4 ?_)
local macro_rules | `(tactic| kct_strs) => `(tactic| first | refine ib_add ?_ | refine ib_sub ?_ | refine ib_xor ?_ | refine ib_shr (by omega) ?_)
local macro_rules | `(tactic| ktu_off1L) => `(tactic| first | refine un_neg ?_ | refine un_not ?_)
-- tests
local macro_rules | `(tactic| kba_ints) => `(tactic| first | refine EvT_not ?_ | refine EvT_cmp ?_ | refine EvT_and ?_ | refine EvT_and_nil ?_ | refine EvT_or ?_ | refine EvT_or_nil ?_ | refine EvT_name ?_ | refine EvT_call ?_ | refine EvT_sub ?_ | refine EvT_bin ?_)
-- statements
local macro_rules | `(tactic| kcf_m) => `(tactic| first | refine Ex1_if ?_ | refine Ex1_ret ?_ | refine Ex1_assign ?_ | refine Ex1_aug (by rfl) ?_ | refine Ex1_unpack4 ?_ | refine Ex1_unpack2 ?_ | refine Ex1_unpack3 ?_ | refine Ex1_swap ?_ | refine Ex1_assert ?_)
-- calls
local macro_rules | `(tactic| tb_rel) => `(tactic| first | refine call_bits ?_)
-- items
local macro_rules | `(tactic| ktu_offI) => `(tactic| first | refine sub_tup (by decide) (by decide) rfl rfl ?_ | refine sub_list (by decide) (by decide) rfl ?_)
-- a test's two ways: what cannot be goes at once
local macro_rules | `(tactic| krn_off) => `(tactic| ((refine ⟨fun h => ?_, fun h => ?_⟩) <;> first
    | (exact absurd h (by decide))
    | ((simp only [decide_eq_true_eq, decide_eq_false_iff_not, beq_iff_eq, bne_iff_ne, beq_eq_false_iff_ne, bne_eq_false_iff_eq, Bool.not_eq_true', Bool.not_eq_false', Bool.not_true, Bool.not_false, ne_eq, Decidable.not_not, gt_iff_lt, ge_iff_le, Int.not_lt, Int.not_le] at h) <;> (try (exfalso; omega)))
    | skip))
local macro_rules | `(tactic| kbo_bools) => `(tactic| first
    | ((with_reducible show EvE _ _ _ _ _ _ _); kaf_pre)
    | ((with_reducible show BinW _ _ _ _ _ _ _); kaf_suf) | ((with_reducible show CmpW _ _ _ _ _ _ _); tb_start) | ((with_reducible show InpW _ _ _ _ _ _ _); kct_strs)
    | ((with_reducible show Ex1 _ _ _ _ _ _ _); kcf_m)
    | ((with_reducible show ExS _ _ _ _ _ _ _); (first | refine ExS_cons ?_ | refine ExS_nil ?_))
    | ((with_reducible show EvT _ _ _ _ _ _ _); kba_ints)
    | ((with_reducible show EvL _ _ _ _ _ _ _ _); (first | refine EvL_cons ?_ | refine EvL_nil ?_))
    | ((with_reducible show UnW _ _ _ _ _ _); ktu_off1L)
    | ((with_reducible show CallW _ _ _ _ _ _); tb_rel)
    | ((with_reducible show SubW _ _ _ _ _ _ _ _); ktu_offI)
    | ((with_reducible show (_ = true → _) ∧ (_ = false → _)); krn_off)
    | ((with_reducible show (_ = false → _) ∧ (_ = true → _)); krn_off)
    | ((with_reducible show _ = true ∧ _); refine ⟨?_, ?_⟩)
    | ((with_reducible show ∃ b, TruthIs _ b ∧ _); refine ⟨_, rfl, ?_⟩)
    | ((with_reducible show List.length _ ≤ 1000 ∧ _); refine ⟨by simp only [List.length_cons, List.length_nil]; decide, ?_⟩)
    | ((with_reducible show ∃ fv, V.raw _ = V.raw fv ∧ _); refine ⟨_, rfl, by assumption, ?_⟩)
    | ((with_reducible show ∃ id, MethIs _ _ _ id ∧ _); refine ⟨_, meth_bits, ?_⟩)
    | ((with_reducible show ∃ a, _); (first | refine ⟨_, _, _, _, rfl, ?_⟩ | refine ⟨_, _, rfl, ?_⟩ | refine ⟨_, _, _, rfl, ?_⟩)))

section
variable {S : Sy} {d : Nat} {X : Prop}
local macro_rules | `(tactic| kaf_pre) => `(tactic| first | refine EvE_name (by rfl) ?_ | refine EvE_glob (by with_reducible assumption) ?_ | refine EvE_built (by with_reducible assumption) ?_ | refine EvE_int ?_ | refine EvE_binop ?_ | refine EvE_cmp ?_ | refine EvE_unop ?_ | refine EvE_str ?_ | refine EvE_bool ?_ | refine EvE_call ?_ | refine EvE_methW0 ?_ | ((with_reducible show EvE _ _ _ (Expr.Call (Expr.Attribute _ (Str.ofString "replace") _) [Expr.Constant (Const.str _) _ _, Expr.Constant (Const.str _) _ _] [] _) _ _ _); refine EvE_replace' ?_) | refine EvE_methW ?_ | refine EvE_slice_nsE ?_ | refine EvE_slice_snE ?_ | refine EvE_sub ?_ | refine EvE_tuple ?_ | refine EvE_ifexp ?_ | refine EvE_one ?_ | refine EvE_and ?_ | refine EvE_or ?_ | refine EvE_list ?_ | refine EvE_walrus ?_)
local macro_rules | `(tactic| kcf_m) => `(tactic| first | refine Ex1_if ?_ | refine Ex1_ret ?_ | refine Ex1_assign ?_ | refine Ex1_aug (by rfl) ?_ | ((with_reducible show Ex1 _ _ _ (Stmt.Assign [Expr.Tuple [Expr.Name _ _, Expr.Name _ _] _ _] (Expr.Tuple _ _ _) _) _ _ _); refine Ex1_swap2 ?_) | ((with_reducible show Ex1 _ _ _ (Stmt.Assign [Expr.Tuple [Expr.Name _ _, Expr.Name _ _, Expr.Name _ _] _ _] (Expr.Tuple _ _ _) _) _ _ _); refine Ex1_swap3 ?_) | refine Ex1_unpackA2 ?_ | refine Ex1_unpackA3 ?_ | refine Ex1_assert ?_)
local macro_rules | `(tactic| tb_start) => `(tactic| first | refine cmp_eq ?_ | refine cmp_lt ?_ | refine cmp_gt ?_ | refine cmp_le ?_ | refine cmp_ge ?_ | refine cmp_ne ?_ | refine cmp_eqSb (by with_reducible assumption) ?_ | refine cmp_neSb (by with_reducible assumption) ?_ | refine cmp_eqS ?_ | refine cmp_neS ?_ | refine cmp_in (by with_reducible assumption) ?_ | refine cmp_notin (by with_reducible assumption) ?_)
local macro_rules | `(tactic| kaf_suf) => `(tactic| first | refine bi_addE (by with_reducible assumption) ?_ | refine bi_subE (by with_reducible assumption) ?_ | refine bi_mulE (by with_reducible assumption) ?_ | refine bi_fdivE (by with_reducible assumption) (by decide) (by decide) ?_ | refine bi_modE (by with_reducible assumption) (by omega) ?_ | refine bi_powE (by with_reducible assumption) ?_ | refine bi_mulSE (by with_reducible assumption) ?_ | refine bi_addSb (by omega) (by omega) (by with_reducible assumption) ?_ | refine bi_add ?_ | refine bi_sub ?_ | refine bi_fdiv (by decide) (by decide) ?_ | refine bi_mod (by decide) ?_)
local macro_rules | `(tactic| tb_rel) => `(tactic| first | refine call_bitsE (by with_reducible assumption) ?_ | refine call_strE (by with_reducible assumption) ?_ | refine call_maxE (by with_reducible assumption) ?_ | refine call_lenSE (by with_reducible assumption) (by omega) ?_ | refine call_lenLE (by with_reducible assumption) ?_ | refine call_lenL1 ?_ | refine call_lenL2 ?_ | refine call_intS (by with_reducible assumption) (by omega) ?_ | refine call_absE (by with_reducible assumption) ?_ | refine call_abs ?_)
local macro_rules | `(tactic| ktu_off1L) => `(tactic| first | refine un_negE (by with_reducible assumption) ?_ | refine un_neg ?_ | refine un_not ?_)
local macro_rules | `(tactic| ktu_offI) => `(tactic| first | refine sub_tup (by decide) (by decide) rfl rfl ?_ | refine sub_listE (by with_reducible assumption) ?_ | refine sub_list (by decide) (by decide) rfl ?_ | refine sub_strb (by omega) (by omega) (by omega) (by with_reducible assumption) ?_)
local macro_rules | `(tactic| kbo_bools) => `(tactic| first
    | ((with_reducible show EvE _ _ _ _ _ _ _); kaf_pre)
    | ((with_reducible show BinW _ _ _ _ _ _ _); kaf_suf) | ((with_reducible show CmpW _ _ _ _ _ _ _); tb_start) | ((with_reducible show InpW _ _ _ _ _ _ _); kct_strs)
    | ((with_reducible show Ex1 _ _ _ _ _ _ _); kcf_m)
    | ((with_reducible show ExS _ _ _ _ _ _ _); (first | refine ExS_cons ?_ | refine ExS_nil ?_))
    | ((with_reducible show EvT _ _ _ _ _ _ _); kba_ints)
    | ((with_reducible show EvL _ _ _ _ _ _ _ _); (first | refine EvL_cons ?_ | refine EvL_nil ?_))
    | ((with_reducible show UnW _ _ _ _ _ _); ktu_off1L)
    | ((with_reducible show CallW _ _ _ _ _ _); tb_rel)
    | ((with_reducible show SubW _ _ _ _ _ _ _ _); ktu_offI)
    | ((with_reducible show (_ = true → _) ∧ (_ = false → _)); krn_off)
    | ((with_reducible show (_ = false → _) ∧ (_ = true → _)); krn_off)
    | ((with_reducible show _ = true ∧ _); refine ⟨?_, ?_⟩)
    | ((with_reducible show ∃ b, TruthIs _ b ∧ _); refine ⟨_, rfl, ?_⟩)
    | ((with_reducible show List.length _ ≤ 1000 ∧ _); refine ⟨by simp only [List.length_cons, List.length_nil]; decide, ?_⟩)
    | ((with_reducible show ∃ fv, V.raw _ = V.raw fv ∧ _); refine ⟨_, rfl, by with_reducible assumption, ?_⟩)
    | ((with_reducible show ∃ id, MethW _ _ _ id ∧ _); (first | with_reducible apply mx_bits | with_reducible apply mx_lower | with_reducible apply mx_strip | with_reducible apply mx_rstrip | with_reducible apply mx_split | with_reducible apply mx_startswith))
    | ((with_reducible show ∃ a, _); (first | refine ⟨_, _, .inl rfl, ?_⟩ | refine ⟨_, _, .inr rfl, ?_⟩ | refine ⟨_, _, _, rfl, rfl, by omega, by with_reducible assumption, ?_⟩ | refine ⟨_, _, rfl, by omega, by with_reducible assumption, ?_⟩ | refine ⟨_, _, _, rfl, ?_⟩ | refine ⟨_, _, rfl, ?_⟩ | refine ⟨_, rfl, rfl, ?_⟩)))
theorem hf_nil {ρ : Rho} {a b : List (Str × NameKind)} : ∀ x V, List.lookup x ([] : Rho) = some V → ρ.lookup x = some V ∧ a.lookup x = some .free ∧ b.lookup x = some .cell := fun x V h => by simp at h
theorem hf_cons {k : Str} {v : V} {ρf ρ : Rho} {a b : List (Str × NameKind)} (h1 : ρ.lookup k = some v) (h2 : a.lookup k = some .free) (h3 : b.lookup k = some .cell)
    (h : ∀ x V, ρf.lookup x = some V → ρ.lookup x = some V ∧ a.lookup x = some .free ∧ b.lookup x = some .cell) : ∀ x V, List.lookup x ((k, v) :: ρf) = some V → ρ.lookup x = some V ∧ a.lookup x = some .free ∧ b.lookup x = some .cell := fun x V hx => by
  rw [List.lookup_cons] at hx
  by_cases q : (x == k) = true
  · rw [q] at hx; cases hx; rw [beq_iff_eq.mp q]; exact ⟨h1, h2, h3⟩
  · simp only [Bool.not_eq_true] at q; rw [q] at hx; exact h x V hx
set_option maxHeartbeats 8000000 in
theorem beyond_walk (F : Facts S) {a b : Mp} {x0 x1 y0 y1 p : Int} {vx R : Rat} {P : V → Prop} (hp : 1 ≤ p) (hp2 : p ≤ 60) (hx : 0 < x1) (hy : 0 < y1) (bx0 : Bd 1000 x0) (bx1 : Bd 1000 x1) (by0 : Bd 1000 y0) (by1 : Bd 1000 y1)
    (ex : vx * (x1 : Rat) = (x0 : Rat)) (ey : R * (y1 : Rat) = (y0 : Rat)) (hy0 : 0 ≤ y0) (ca : Can a) (cb : Can b) (ea : -5000 ≤ a.e ∧ a.e ≤ 5000) (eb : -5000 ≤ b.e ∧ b.e ≤ 5000) (ba : a.b ≤ 1000) (bb : b.b ≤ 1000)
    (be : Bey vx R p a b) (h : P (.bool true)) :
    CallW S (d + 2) (.raw (gl S "_law_beyond")) [.tup [a.v, b.v], .tup [.int x0, .int x1], .tup [.int y0, .int y1], .int p] P X := by
  have f1 := F.f45.glob'
  have f2 := F.f45.can
  have f3 := F.b_abs
  have f4 := F.b_all
  have c1 : CanCall S (.builtin "abs") := .inr (.inl ⟨_, rfl⟩)
  have c2 : CanCall S (.builtin "all") := .inr (.inl ⟨_, rfl⟩)
  have b2 : (Builtin.Int.intBits 2 : Int) = 2 := by decide +kernel
  obtain ⟨line, hline⟩ : ∃ z : Int, x1 * y1 = z := ⟨_, rfl⟩
  obtain ⟨one, hone⟩ : ∃ z : Int, x0 * y1 = z := ⟨_, rfl⟩
  obtain ⟨other, hother⟩ : ∃ z : Int, y0 * x1 = z := ⟨_, rfl⟩
  have m1 : IntMulOk x1 y1 ∧ x1 * y1 = line := ⟨bx1.mok by1 (by decide), hline⟩
  have m2 : IntMulOk x0 y1 ∧ x0 * y1 = one := ⟨bx0.mok by1 (by decide), hone⟩
  have m3 : IntMulOk y0 x1 ∧ y0 * x1 = other := ⟨by0.mok bx1 (by decide), hother⟩
  have a1 : (if y0 < 0 then -y0 else y0) = y0 := if_neg (by omega)
  have bl1 : Bd 2000 line := hline ▸ bx1.mul by1
  have bo1 : Bd 2000 one := hone ▸ bx0.mul by1
  have bo2 : Bd 2000 other := hother ▸ by0.mul bx1
  have hl0 : 0 < line := hline ▸ Int.mul_pos hx hy
  have h1 : vx * (line : Rat) = (one : Rat) := by rw [← hline, ← hone, Rat.intCast_mul, Rat.intCast_mul, ← ex]; grind
  have h2 : R * (line : Rat) = (other : Rat) := by rw [← hline, ← hother, Rat.intCast_mul, Rat.intCast_mul, ← ey]; grind
  obtain ⟨df, hdf⟩ : ∃ z : Int, one - other = z := ⟨_, rfl⟩
  obtain ⟨sm, hsm⟩ : ∃ z : Int, one + other = z := ⟨_, rfl⟩
  have bdf : Bd 4001 df := hdf ▸ bo1.sub bo2
  have bsm : Bd 4001 sm := hsm ▸ bo1.add bo2
  have p1 : (0 : Int) ≤ p ∧ (Builtin.Int.intBits 2 : Int) * p ≤ 2 ^ 27 ∧ (2 : Int) ^ p.toNat = 2 ^ p.toNat := ⟨by omega, by rw [b2]; omega, rfl⟩
  have bw : Bd 61 (2 ^ p.toNat) := (Bd.pow2 p.toNat).mono (by omega)
  obtain ⟨ao, hao⟩ : ∃ z : Int, (if one < 0 then -one else one) = z := ⟨_, rfl⟩
  have bao : Bd 2000 ao := hao ▸ bo1.abs
  obtain ⟨as, has⟩ : ∃ z : Int, ao + other = z := ⟨_, rfl⟩
  have bas : Bd 4001 as := has ▸ bao.add bo2
  obtain ⟨rs, hrs⟩ : ∃ z : Int, 16 * as = z := ⟨_, rfl⟩
  have m4 : IntMulOk 16 as ∧ 16 * as = rs := ⟨.of_left (by decide +kernel), hrs⟩
  have brs : Bd 4101 rs := hrs ▸ ((show Bd 5 16 by unfold Bd; decide).mul bas).mono (by decide)
  have fh := Hid.mk h
  clear h
  refine CallW_defC (d := d + 1) F.f50 _ _ (binds_50_4 F.f50 _ _ _ _) (by decide) (by decide) rfl rfl rfl ?_
  repeat' kbo_bools
  refine worth_walk F ca ea ba fun la lb hlb hla bla blb => ?_
  repeat' kbo_bools
  refine worth_walk F cb eb bb fun ha hb hhb hha bha bhb => ?_
  obtain ⟨t1, ht1⟩ : ∃ z : Int, df * lb = z := ⟨_, rfl⟩
  obtain ⟨t2, ht2⟩ : ∃ z : Int, la * line = z := ⟨_, rfl⟩
  obtain ⟨t3, ht3⟩ : ∃ z : Int, ha * line = z := ⟨_, rfl⟩
  obtain ⟨t4, ht4⟩ : ∃ z : Int, sm * hb = z := ⟨_, rfl⟩
  obtain ⟨g1, hg1⟩ : ∃ z : Int, t1 - t2 = z := ⟨_, rfl⟩
  obtain ⟨g2, hg2⟩ : ∃ z : Int, t3 - t4 = z := ⟨_, rfl⟩
  have m5 : IntMulOk df lb ∧ df * lb = t1 := ⟨bdf.mok blb (by decide), ht1⟩
  have m6 : IntMulOk la line ∧ la * line = t2 := ⟨bla.mok bl1 (by decide), ht2⟩
  have m7 : IntMulOk ha line ∧ ha * line = t3 := ⟨bha.mok bl1 (by decide), ht3⟩
  have m8 : IntMulOk sm hb ∧ sm * hb = t4 := ⟨bsm.mok bhb (by decide), ht4⟩
  have bg1 : Bd 25000 g1 := (hg1 ▸ (ht1 ▸ bdf.mul blb : Bd _ t1).sub (ht2 ▸ bla.mul bl1 : Bd _ t2)).mono (by decide)
  have bg2 : Bd 25000 g2 := (hg2 ▸ (ht3 ▸ bha.mul bl1 : Bd _ t3).sub (ht4 ▸ bsm.mul bhb : Bd _ t4)).mono (by decide)
  have m9 : IntMulOk g1 (2 ^ p.toNat) ∧ g1 * 2 ^ p.toNat = g1 * 2 ^ p.toNat := ⟨bg1.mok bw (by decide), rfl⟩
  have m10 : IntMulOk g2 (2 ^ p.toNat) ∧ g2 * 2 ^ p.toNat = g2 * 2 ^ p.toNat := ⟨bg2.mok bw (by decide), rfl⟩
  have m11 : IntMulOk rs lb ∧ rs * lb = rs * lb := ⟨brs.mok blb (by decide), rfl⟩
  have m12 : IntMulOk rs hb ∧ rs * hb = rs * hb := ⟨brs.mok bhb (by decide), rfl⟩
  have G1 : 0 ≤ g1 ∧ g1 * 2 ^ p.toNat ≤ rs * lb := by
    have := bey_int (vx := vx) (R := R) (g := vx - R - a.val) (line := line) (one := one) (other := other) (W := 2 ^ p.toNat) (B := lb) (G := g1) hlb hl0 h1 h2 (by
      rw [← hg1, ← ht1, ← ht2, ← hdf]; exact gap_lo h1 h2 hla) be.lo be.lo2
    rw [hao, has, hrs] at this; exact this
  have G2 : 0 ≤ g2 ∧ g2 * 2 ^ p.toNat ≤ rs * hb := by
    have := bey_int (vx := vx) (R := R) (g := b.val - vx - R) (line := line) (one := one) (other := other) (W := 2 ^ p.toNat) (B := hb) (G := g2) hhb hl0 h1 h2 (by
      rw [← hg2, ← ht3, ← ht4, ← hsm]; exact gap_hi h1 h2 hha) be.hi be.hi2
    rw [hao, has, hrs] at this; exact this
  obtain ⟨G1a, G1b⟩ := G1
  obtain ⟨G2a, G2b⟩ := G2
  replace G1b := Hid.mk G1b
  replace G2b := Hid.mk G2b
  clear be ex ey h1 h2 hla hha ht1 ht2 ht3 ht4 hrs hline hone hother
  repeat' kbo_bools
  refine EvE_comp2 [("one", .int one), ("other", .int other), ("prec", .int p)] ?_
  repeat' kbo_bools
  refine ⟨[(.int g1, .int lb), (.int g2, .int hb)], [.bool true, .bool true], rfl, by simp, ?_, ?_, ?_⟩
  · exact hf_cons rfl rfl rfl (hf_cons rfl rfl rfl (hf_cons rfl rfl rfl hf_nil))
  · refine .cons ?_ (.bool _) (.cons ?_ (.bool _) .nil)
    · show EvE _ _ _ _ _ _ _
      repeat' kbo_bools
      exact congrArg V.bool (decide_eq_true G1b.out)
    · show EvE _ _ _ _ _ _ _
      repeat' kbo_bools
      exact congrArg V.bool (decide_eq_true G2b.out)
  · repeat' kbo_bools
    refine call_allTT ?_
    repeat' kbo_bools
    exact fh.out

end
end Mine
end

section
open PySem
set_option Elab.async false
namespace Mine
theorem ab_bounds (v : Rat) : v ≤ ab v ∧ -v ≤ ab v ∧ 0 ≤ ab v := by unfold ab; split <;> (refine ⟨?_, ?_, ?_⟩ <;> grind)
theorem ab_of_nonneg {v : Rat} (h : 0 ≤ v) : ab v = v := if_pos h
theorem ab_le {v c : Rat} (h1 : v ≤ c) (h2 : -v ≤ c) : ab v ≤ c := by unfold ab; split <;> assumption
theorem mulm {a b c : Rat} (hc : 0 ≤ c) (h : a ≤ b) : a * c ≤ b * c := Rat.mul_le_mul_of_nonneg_right h hc
/-- the reach as it is reckoned -/
theorem reach_le {e A vy R y0 m mv y1 w yy : Rat} (he : 0 < e) (he2 : 1000 * e ≤ 1) (hA : 0 ≤ A) (hv : 0 ≤ vy) (hR : R * 100 = A * vy)
    (y0a : vy ≤ y0) (y0b : y0 - vy ≤ e * vy) (ma : A ≤ m) (mb : m - A ≤ e * A) (hmv : mv = m * y0) (y1a : mv ≤ y1) (y1b : y1 - mv ≤ e * mv) (hw : w * 100 = y1) (yya : w ≤ yy) (yyb : yy - w ≤ e * w) :
    R ≤ yy ∧ yy - R ≤ 5 * (e * R) := by
  have Av : 0 ≤ A * vy := Rat.mul_nonneg hA hv
  have ee : e * e ≤ e * (1 / 1000) := by
    have := Rat.mul_le_mul_of_nonneg_left (show e ≤ 1 / 1000 by grind) (Rat.le_of_lt he)
    exact this
  have m0 : 0 ≤ m := by grind
  have y00 : 0 ≤ y0 := by grind
  have p1 : A * vy ≤ m * y0 := by
    have h1 := mulm hv ma
    have h2 := Rat.mul_le_mul_of_nonneg_left y0a m0
    grind
  have mu : m ≤ (1 + e) * A := by grind
  have yu : y0 ≤ (1 + e) * vy := by grind
  have eA : 0 ≤ (1 + e) * A := Rat.mul_nonneg (by grind) hA
  have p2 : m * y0 ≤ ((1 + e) * A) * ((1 + e) * vy) := by
    have h1 := mulm y00 mu
    have h2 := Rat.mul_le_mul_of_nonneg_left yu eA
    grind
  have uu : (1 + e) * (1 + e) ≤ 1 + e * (2001 / 1000) := by grind
  have p3 : m * y0 ≤ (1 + e * (2001 / 1000)) * (A * vy) := by
    have := mulm Av uu
    grind
  have mv0 : 0 ≤ mv := by grind
  have y1u : y1 ≤ (1 + e) * mv := by grind
  have w0 : 0 ≤ w := by grind
  have yyu : yy ≤ (1 + e) * w := by grind
  have p4 : yy * 100 ≤ (1 + e) * ((1 + e) * mv) := by
    have a1 : yy * 100 ≤ (1 + e) * y1 := by
      rw [← hw]
      have := mulm (show (0 : Rat) ≤ 100 by decide) yyu
      grind
    exact Rat.le_trans a1 (Rat.mul_le_mul_of_nonneg_left y1u (show 0 ≤ 1 + e by grind))
  have p5 : yy * 100 ≤ (1 + e * (2001 / 1000)) * mv := by
    have := mulm mv0 uu
    grind
  have p6 : yy * 100 ≤ (1 + e * (2001 / 1000)) * ((1 + e * (2001 / 1000)) * (A * vy)) := by
    have := Rat.mul_le_mul_of_nonneg_left p3 (show 0 ≤ 1 + e * (2001 / 1000) by grind)
    rw [hmv] at p5
    grind
  have uu2 : (1 + e * (2001 / 1000)) * (1 + e * (2001 / 1000)) ≤ 1 + 5 * e := by
    have : (1 + e * (2001 / 1000)) * (1 + e * (2001 / 1000)) = 1 + e * (4002 / 1000) + e * e * (2001 / 1000 * (2001 / 1000)) := by grind
    rw [this]
    have := mulm (show (0 : Rat) ≤ 2001 / 1000 * (2001 / 1000) by grind) ee
    grind
  have p7 : yy * 100 ≤ (1 + 5 * e) * (A * vy) := by
    have := mulm Av uu2
    grind
  rw [← hR] at p7 p1
  constructor
  · grind
  · grind
theorem q2_up' {e : Int} (h : 0 ≤ e) : q2 e = ((2 ^ e.toNat : Int) : Rat) := by
  have : e = (e.toNat : Int) := by omega
  conv => lhs; rw [this]
  rw [q2_nat]
/-- the ends against the exact ones -/
theorem bey_of {p : Int} {vx R : Rat} {xa xb yy a b : Mp} (hp : 1 ≤ p) (hR : 0 ≤ R) (qa : QR false vx (p + 20) xa) (qb : QR true vx (p + 20) xb)
    (y1 : R ≤ yy.val) (y2 : yy.val - R ≤ 5 * (q2 (1 - (p + 20)) * R)) (ra : QR false (xa.val + -yy.val) p a) (rb : QR true (xb.val + yy.val) p b) : Bey vx R p a b := by
  have ea := (qr_err qa).1 rfl
  have eb := (qr_err qb).2 rfl
  have fa := (qr_err ra).1 rfl
  have fb := (qr_err rb).2 rfl
  obtain ⟨A1, A2, A0⟩ := ab_bounds vx
  generalize hA : ab vx = A at *
  have he : 0 < q2 (1 - (p + 20)) := q2_pos _
  have hd : 0 < q2 (1 - p) := q2_pos _
  have ed : q2 (1 - p) = q2 (1 - (p + 20)) * 1048576 := by
    have : q2 (1 - p) = q2 (1 - (p + 20)) * q2 20 := by rw [← q2_add]; congr 1; omega
    rw [this]; congr 1
  have dw : q2 (1 - p) * ((2 ^ p.toNat : Int) : Rat) = 2 := by
    have h2 : ((2 ^ p.toNat : Int) : Rat) = q2 p := (q2_up' (by omega)).symm
    rw [h2, ← q2_add]
    have : 1 - p + p = 1 := by omega
    rw [this, q2_one]
  have d1 : q2 (1 - p) ≤ 1 := by
    have := q2_le (a := 1 - p) (b := 0) (by omega)
    rw [q2_zero] at this; exact this
  have hW : (0 : Rat) ≤ ((2 ^ p.toNat : Int) : Rat) := by
    have : (0 : Int) ≤ 2 ^ p.toNat := Int.le_of_lt (Int.pow_pos (by decide))
    exact_mod_cast this
  generalize q2 (1 - (p + 20)) = e at *
  generalize q2 (1 - p) = dl at *
  obtain ⟨W, hWd⟩ : ∃ W : Rat, ((2 ^ p.toNat : Int) : Rat) = W := ⟨_, rfl⟩
  rw [hWd] at dw hW
  have Z0 : 0 ≤ A + R := by grind
  have eA : 0 ≤ e * A := Rat.mul_nonneg (Rat.le_of_lt he) A0
  have eR : 0 ≤ e * R := Rat.mul_nonneg (Rat.le_of_lt he) hR
  have eZ : 5 * (e * (A + R)) ≤ A + R := by
    have := mulm Z0 (show 5 * e ≤ 1 by grind)
    grind
  have key : ∀ t r : Rat, ab t ≤ 2 * (A + R) → (r ≤ 5 * (e * (A + R)) + dl * ab t) → r * W ≤ 16 * (A + R) := fun t r h1 h2 => by
    have h3 := Rat.mul_le_mul_of_nonneg_left h1 (Rat.le_of_lt hd)
    have h4 : r ≤ dl * (7 * (A + R)) := by
      have : e * (A + R) ≤ dl * (A + R) := mulm Z0 (by grind)
      grind
    have h5 := mulm hW h4
    have h6 : dl * (7 * (A + R)) * W = dl * W * (7 * (A + R)) := by grind
    rw [h6, dw] at h5
    grind
  refine ⟨by rw [hA] at *; grind, ?_, by grind, ?_⟩
  · rw [hA, hWd]
    refine key (xa.val + -yy.val) _ (ab_le (by grind) (by grind)) ?_
    grind
  · rw [hA, hWd]
    refine key (xb.val + yy.val) _ (ab_le (by grind) (by grind)) ?_
    grind
/-- the chain's ends lie beyond -/
theorem ab_bey {percent : Bool} {vx vy R : Rat} {p : Int} {a b : Mp} (hp : 1 ≤ p) (hv : 0 ≤ vy) (hR : (percent = false → R = vy) ∧ (percent = true → R * 100 = ab vx * vy)) (h : AB percent vx vy p a b) : Bey vx R p a b := by
  obtain ⟨xa, xb, yy, qa, qb, hf, ht, ra, rb⟩ := h.ex
  have he : 0 < q2 (1 - (p + 20)) := q2_pos _
  have he2 : 1000 * q2 (1 - (p + 20)) ≤ 1 := by
    have h1 := q2_le (a := 1 - (p + 20)) (b := -20) (by omega)
    have h2 : q2 (-20) * ((2 ^ 20 : Int) : Rat) = 1 := q2_inv 20
    have h3 : ((2 ^ 20 : Int) : Rat) = 1048576 := rfl
    rw [h3] at h2
    grind
  obtain ⟨A1, A2, A0⟩ := ab_bounds vx
  cases percent with
  | false =>
    have hR := hR.1 rfl
    subst hR
    obtain ⟨y1, y2⟩ := (qr_err (hf rfl)).2 rfl
    rw [ab_of_nonneg hv] at y2
    have := Rat.mul_nonneg (Rat.le_of_lt he) hv
    exact bey_of hp hv qa qb y1 (by grind) ra rb
  | true =>
    have hR := hR.2 rfl
    obtain ⟨y0, m, y1, w, q0, m1, m2, m3, q1, hw, qy⟩ := ht rfl
    obtain ⟨xa1, xa2⟩ := (qr_err qa).1 rfl
    obtain ⟨xb1, xb2⟩ := (qr_err qb).2 rfl
    obtain ⟨y01, y02⟩ := (qr_err q0).2 rfl
    obtain ⟨y11, y12⟩ := (qr_err q1).2 rfl
    obtain ⟨yy1, yy2⟩ := (qr_err qy).2 rfl
    have eA : 0 ≤ q2 (1 - (p + 20)) * ab vx := Rat.mul_nonneg (Rat.le_of_lt he) A0
    obtain ⟨a1, a2, a0⟩ := ab_bounds xa.val
    obtain ⟨b1, b2, b0⟩ := ab_bounds xb.val
    have ma : ab vx ≤ m.val := ab_le (by grind) (by grind)
    have mb : m.val - ab vx ≤ q2 (1 - (p + 20)) * ab vx := by
      have h1 : ab xa.val ≤ ab vx + q2 (1 - (p + 20)) * ab vx := ab_le (by grind) (by grind)
      have h2 : ab xb.val ≤ ab vx + q2 (1 - (p + 20)) * ab vx := ab_le (by grind) (by grind)
      rcases m3 with h | h <;> rw [h] <;> grind
    have y00 : 0 ≤ y0.val := by grind
    have mv0 : 0 ≤ m.val * y0.val := Rat.mul_nonneg (by grind) y00
    have w0 : 0 ≤ w := by grind
    rw [ab_of_nonneg hv] at y02
    rw [ab_of_nonneg mv0] at y12
    rw [ab_of_nonneg w0] at yy2
    have hR0 : 0 ≤ R := by have := Rat.mul_nonneg A0 hv; grind
    obtain ⟨r1, r2⟩ := reach_le (R := R) he he2 A0 hv hR y01 y02 ma mb rfl y11 y12 hw yy1 yy2
    exact bey_of hp hR0 qa qb r1 r2 ra rb
/-- sizes of the ends -/
theorem ab_fl {percent : Bool} {vx vy : Rat} {p : Int} {a b : Mp} (h : AB percent vx vy p a b) : Can a ∧ Can b := by
  obtain ⟨xa, xb, yy, _, _, _, _, ra, rb⟩ := h.ex
  exact ⟨qr_can ra, qr_can rb⟩
end Mine
end

section
open PySem
set_option Elab.async false
namespace Mine
theorem val_int {x : Mp} {K : Int} (hc : Can x) (h : -K ≤ x.e) : ∃ X : Int, x.val = (X : Rat) * q2 (-K) := by
  obtain ⟨k1, _⟩ := can_facts hc
  have e := q2_split h
  rcases k1 with k | k
  · refine ⟨x.m * 2 ^ (x.e - -K).toNat, ?_⟩
    have : x.val = (x.m : Rat) * q2 x.e := by unfold Mp.val sgR; rw [if_pos k]
    rw [this, e, Rat.intCast_mul]; grind
  · refine ⟨-(x.m * 2 ^ (x.e - -K).toNat), ?_⟩
    have : x.val = -((x.m : Rat) * q2 x.e) := by unfold Mp.val sgR; rw [if_neg (by omega)]
    rw [this, e, Rat.intCast_neg, Rat.intCast_mul]; grind
theorem ab_neg (v : Rat) : ab (-v) = ab v := by
  unfold ab
  by_cases h : 0 ≤ v
  · rw [if_pos h]
    by_cases h2 : 0 ≤ -v
    · rw [if_pos h2]; grind
    · rw [if_neg h2]; grind
  · rw [if_neg h, if_pos (by grind)]
theorem ab_add (u v : Rat) : ab (u + v) ≤ ab u + ab v := by
  obtain ⟨a1, a2, _⟩ := ab_bounds u
  obtain ⟨b1, b2, _⟩ := ab_bounds v
  exact ab_le (by grind) (by grind)
theorem sum_szI {u v : Rat} {K L M U W : Int} (hu : u = (U : Rat) * q2 (-K)) (hv : v = (W : Rat) * q2 (-K)) (h1 : ab u < q2 L) (h2 : ab v < q2 L) (hK : K ≤ M) (hL : L + 1 ≤ M) : Sz M (u + v) := by
  refine ⟨fun h0 => ?_, ?_⟩
  · have e : u + v = ((U + W : Int) : Rat) * q2 (-K) := by rw [hu, hv, Rat.intCast_add]; grind
    have hn : U + W ≠ 0 := fun h => h0 (by rw [e, h]; exact Rat.zero_mul _)
    have hq := q2_le (a := -M) (b := -K) (by omega)
    have p := q2_pos (-K)
    rw [e]
    rcases (by omega : 1 ≤ U + W ∨ U + W ≤ -1) with h | h
    · have := le_mul_q2 (-K) h
      have h1 : ((1 : Int) : Rat) = 1 := rfl
      rw [h1, Rat.one_mul] at this
      have := (ab_bounds (((U + W : Int) : Rat) * q2 (-K))).1
      grind
    · have := le_mul_q2 (-K) h
      have h1 : ((-1 : Int) : Rat) = -1 := rfl
      rw [h1] at this
      have := (ab_bounds (((U + W : Int) : Rat) * q2 (-K))).2.1
      grind
  · have := ab_add u v
    have h3 := q2_succ L
    have := q2_le hL
    grind
theorem sum_sz {x y : Mp} {K L M : Int} (hx : Can x) (hy : Can y) (ex : -K ≤ x.e) (ey : -K ≤ y.e) (h1 : ab x.val < q2 L) (h2 : ab y.val < q2 L) (hK : K ≤ M) (hL : L + 1 ≤ M) : Sz M (x.val + y.val) ∧ Sz M (x.val + -y.val) := by
  obtain ⟨X, hX⟩ := val_int hx ex
  obtain ⟨Y, hY⟩ := val_int hy ey
  refine ⟨sum_szI hX hY h1 h2 hK hL, sum_szI (W := -Y) hX (by rw [hY, Rat.intCast_neg, Rat.neg_mul]) h1 (by rw [ab_neg]; exact h2) hK hL⟩
theorem sz_ab {L : Int} {v : Rat} (s : Sz L v) : Sz L (ab v) := by
  have e : Mine.ab (Mine.ab v) = Mine.ab v := if_pos (ab_nonneg v)
  exact ⟨fun h => by rw [e]; exact s.lo fun h0 => h (ab_zero_iff.mpr h0), by rw [e]; exact s.hi⟩
/-- the ends' parts -/
theorem ab_parts {percent : Bool} {vx vy : Rat} {p : Int} {a b : Mp} (hp : 1 ≤ p) (hp2 : p ≤ 60) (sx : Sz 2000 vx) (sy : Sz 2000 vy) (h : AB percent vx vy p a b) :
    (Can a ∧ a.b ≤ 1000 ∧ -5000 ≤ a.e ∧ a.e ≤ 5000) ∧ (Can b ∧ b.b ≤ 1000 ∧ -5000 ≤ b.e ∧ b.e ≤ 5000) := by
  obtain ⟨ca, cb⟩ := ab_fl h
  obtain ⟨xa, xb, yy, qa, qb, hf, ht, ra, rb⟩ := h.ex
  obtain ⟨_, xa2, xa3⟩ := sx.parts (by omega) (by decide) qa
  obtain ⟨_, xb2, xb3⟩ := sx.parts (by omega) (by decide) qb
  have za := sx.qr (by omega) qa
  have zb := sx.qr (by omega) qb
  obtain ⟨cy, ey, hy⟩ : Can yy ∧ -4100 ≤ yy.e ∧ ab yy.val < q2 4020 := by
    cases percent with
    | false =>
      have q := hf rfl
      obtain ⟨_, e1, _⟩ := sy.parts (by omega) (by decide) q
      have z := (sy.qr (by omega) q).hi
      have := q2_le (a := 2000 + 1) (b := 4020) (by decide)
      exact ⟨qr_can q, by omega, by grind⟩
    | true =>
      obtain ⟨y0, m, y1, w, q0, m1, m2, m3, q1, hw, qy⟩ := ht rfl
      have zm : Sz 2001 m.val := m3.elim (fun h => by rw [h]; exact sz_ab za) (fun h => by rw [h]; exact sz_ab zb)
      have z0 := sy.qr (by omega) q0
      have z1 := (zm.mul z0).qr (by omega) q1
      have zw := z1.div100 hw
      obtain ⟨_, e1, _⟩ := zw.parts (by omega) (by decide) qy
      have z := (zw.qr (by omega) qy).hi
      have := q2_le (a := 2001 + (2000 + 1) + 1 + 7 + 1) (b := 4020) (by decide)
      exact ⟨qr_can qy, by omega, by grind⟩
  have hxa : ab xa.val < q2 4020 := by have := za.hi; have := q2_le (a := 2000 + 1) (b := 4020) (by decide); grind
  have hxb : ab xb.val < q2 4020 := by have := zb.hi; have := q2_le (a := 2000 + 1) (b := 4020) (by decide); grind
  have sa := (sum_sz (K := 4100) (M := 4200) (qr_can qa) cy (by omega) ey hxa hy (by decide) (by decide)).2
  have sb := (sum_sz (K := 4100) (M := 4200) (qr_can qb) cy (by omega) ey hxb hy (by decide) (by decide)).1
  obtain ⟨a1, a2, a3⟩ := sa.parts hp (by decide) ra
  obtain ⟨b1, b2, b3⟩ := sb.parts hp (by decide) rb
  exact ⟨⟨ca, by omega, by omega, by omega⟩, ⟨cb, by omega, by omega, by omega⟩⟩
end Mine
end

section
open PySem PySem.W PySem.NumText PySem.StrLaws PySem.Builtin.Str
set_option Elab.async false
set_option maxRecDepth 100000
namespace Mine
theorem lnum_sz {v : Rat} {above below : Int} (h : v * (below : Rat) = (above : Rat)) (hb : 0 < below) (b1 : below < 10 ^ 50) (a1 : above.natAbs < 10 ^ 50) : Sz 2000 v := by
  have e := ab_int hb h
  have pb : (0 : Rat) < (below : Rat) := by exact_mod_cast hb
  have hW : (1 : Int) * 10 ^ 50 ≤ 2 ^ 2000 := by decide +kernel
  have q1 : q2 2000 = ((2 ^ 2000 : Int) : Rat) := q2_nat 2000
  have q0 : q2 (-2000) * ((2 ^ 2000 : Int) : Rat) = 1 := q2_inv 2000
  have hbW : (below : Rat) ≤ ((2 ^ 2000 : Int) : Rat) := by exact_mod_cast (by omega : below ≤ 2 ^ 2000)
  have habs : (if above < 0 then -above else above) < 2 ^ 2000 := by split <;> omega
  have habs' : ((if above < 0 then -above else above : Int) : Rat) < ((2 ^ 2000 : Int) : Rat) := by exact_mod_cast habs
  have b1' : (1 : Rat) ≤ (below : Rat) := by exact_mod_cast (by omega : (1 : Int) ≤ below)
  rw [e] at habs'
  refine ⟨fun h0 => ?_, ?_⟩
  · have hn : above ≠ 0 := fun h1 => by
      rw [h1] at h
      have hz : v * (below : Rat) = 0 * (below : Rat) := by rw [h, Rat.zero_mul]; rfl
      exact h0 (Rat.le_antisymm (rat_le_of_mul pb (by rw [hz]; exact Rat.le_refl)) (rat_le_of_mul pb (by rw [hz]; exact Rat.le_refl)))
    have h1 : (1 : Rat) ≤ ((if above < 0 then -above else above : Int) : Rat) := by exact_mod_cast (by split <;> omega : (1 : Int) ≤ if above < 0 then -above else above)
    rw [e] at h1
    refine rat_le_of_mul pb ?_
    have h2 := Rat.mul_le_mul_of_nonneg_left hbW (Rat.le_of_lt (q2_pos (-2000)))
    rw [q0] at h2
    exact Rat.le_trans h2 h1
  · rw [q1]
    refine rat_lt_of_mul pb ?_
    have h2 := Rat.mul_le_mul_of_nonneg_left b1' (show (0 : Rat) ≤ ((2 ^ 2000 : Int) : Rat) from by rw [← q1]; exact Rat.le_of_lt (q2_pos _))
    rw [Rat.mul_one] at h2
    grind
/-! the signs of a numeral -/
abbrev Nm (l : List Nat) : Prop := ∀ c ∈ l, c = 45 ∨ c = 46 ∨ c = 101 ∨ (48 ≤ c ∧ c ≤ 57)
theorem nm_not {l : List Nat} (h : Nm l) (k : Nat) (h1 : k ≠ 45 := by decide) (h2 : k ≠ 46 := by decide) (h3 : k ≠ 101 := by decide) (h4 : k < 48 ∨ 57 < k := by decide) : k ∉ l := fun hk => by have := h k hk; omega
theorem nm_filter {l : List Nat} (h : Nm l) (k : Nat) (h1 : k ≠ 45 := by decide) (h2 : k ≠ 46 := by decide) (h3 : k ≠ 101 := by decide) (h4 : k < 48 ∨ 57 < k := by decide) : l.filter (· != k) = l :=
  List.filter_eq_self.mpr fun x hx => by simp; rintro rfl; exact nm_not h _ h1 h2 h3 h4 hx
abbrev spc (k : Nat) : List Nat := List.replicate k 32
theorem spc_filter (k : Nat) : (spc k).filter (· != 32) = [] := by
  refine List.filter_eq_nil_iff.mpr fun x hx => ?_
  rw [(List.mem_replicate.mp hx).2]; decide
theorem repl_out (s : String) (c : Nat) (l : List Nat) (h : Str.ofString s = ⟨#[c]⟩ := by decide +kernel) : Txt.replace (T l) s "" = T (l.filter (· != c)) := by
  rw [h, show (Str.ofString "" : Str) = Str.empty from by decide +kernel]; exact replace_out (T l) c
theorem has_one (s : String) (c : Nat) (l : List Nat) (b : Bool) (hb : decide (c ∈ l) = b) (h : Str.ofString s = ⟨#[c]⟩ := by decide +kernel) : Txt.contains (T l) s = b := by
  rw [h, contains_one]; exact hb
theorem no_pm {l : List Nat} (h : 43 ∉ l) : Txt.contains (T l) "+-" = false := contains_no (c := 43) (by decide +kernel) h
theorem item0 (c : Nat) (l : List Nat) : Txt.item (T (c :: l)) 0 = T [c] := by
  have : Txt.charAt (T (c :: l)) 0 = some c := by
    unfold Txt.charAt
    have hs : seqIndex? 0 (T (c :: l)).length = some 0 := by
      unfold seqIndex?; rw [len_T]; simp
    rw [hs]; rfl
  unfold Txt.item; rw [this]; rfl
theorem item_last (c : Nat) (l : List Nat) : Txt.item (T (l ++ [c])) (-1) = T [c] := by
  have : Txt.charAt (T (l ++ [c])) (-1) = some c := by
    unfold Txt.charAt
    have hs : seqIndex? (-1) (T (l ++ [c])).length = some l.length := by
      unfold seqIndex?; rw [len_T]; simp; omega
    rw [hs]
    show (T (l ++ [c])).cps[l.length]? = some c
    simp [T]
  unfold Txt.item; rw [this]; rfl
theorem split1 (s : String) (c : Nat) {a b : List Nat} (ha : c ∉ a) (hb : c ∉ b) (h : Str.ofString s = ⟨#[c]⟩ := by decide +kernel) : Txt.split (T (a ++ c :: b)) s = [T a, T b] := by
  rw [h]; exact split_two ha hb rfl
end Mine
end

section
open PySem PySem.W PySem.Calls PyProof.Rows PySem.NumText PySem.StrLaws PySem.Builtin PySem.Builtin.Str
set_option Elab.async false
set_option maxRecDepth 100000
namespace Mine

-- expressions
local macro_rules | `(tactic| kaf_pre) => `(tactic| first | refine EvE_name (by rfl) ?_ | refine EvE_glob (by assumption) ?_ | refine EvE_built (by assumption) ?_ | refine EvE_int ?_ | refine EvE_binop ?_ | refine EvE_cmp ?_ | refine EvE_unop ?_ | refine EvE_str ?_ | refine EvE_bool ?_ | refine EvE_call ?_ | refine EvE_meth0 ?_ | refine EvE_meth ?_ | refine EvE_sub ?_ | refine EvE_tuple ?_ | refine EvE_ifexp ?_ | refine EvE_one ?_ | refine EvE_and ?_ | refine EvE_or ?_ | refine EvE_list ?_ | refine EvE_walrus ?_)
-- operators
local macro_rules | `(tactic| kaf_suf) => `(tactic| first | refine bi_add ?_ | refine bi_sub ?_ | refine bi_and ?_ | refine bi_xor ?_ | refine bi_shr (by omega) ?_)
local macro_rules | `(tactic| tb_start) => `(tactic| first | refine cmp_eq ?_ | refine cmp_lt ?_ | refine cmp_gt ?_ | refine cmp_le ?_ | refine cmp_ge ?_ | refine cmp_ne ?_ | refine cmp_eqS ?_ | refine cmp_eq4 ?_)
local macro_rules | `(tactic| kct_strs) => `(tactic| first | refine ib_add ?_ | refine ib_sub ?_ | refine ib_xor ?_ | refine ib_shr (by omega) ?_)
local macro_rules | `(tactic| ktu_off1L) => `(tactic| first | refine un_neg ?_ | refine un_not ?_)
-- tests
local macro_rules | `(tactic| kba_ints) => `(tactic| first | refine EvT_not ?_ | refine EvT_cmp ?_ | refine EvT_and ?_ | refine EvT_and_nil ?_ | refine EvT_or ?_ | refine EvT_or_nil ?_ | refine EvT_name ?_ | refine EvT_call ?_ | refine EvT_sub ?_ | refine EvT_bin ?_)
-- statements
local macro_rules | `(tactic| kcf_m) => `(tactic| first | refine Ex1_if ?_ | refine Ex1_ret ?_ | refine Ex1_assign ?_ | refine Ex1_aug (by rfl) ?_ | refine Ex1_unpack4 ?_ | refine Ex1_unpack2 ?_ | refine Ex1_unpack3 ?_ | refine Ex1_swap ?_ | refine Ex1_assert ?_)
-- calls
local macro_rules | `(tactic| tb_rel) => `(tactic| first | refine call_bits ?_)
-- items
local macro_rules | `(tactic| ktu_offI) => `(tactic| first | refine sub_tup (by decide) (by decide) rfl rfl ?_ | refine sub_list (by decide) (by decide) rfl ?_)
-- a test's two ways: what cannot be goes at once
local macro_rules | `(tactic| krn_off) => `(tactic| ((refine ⟨fun h => ?_, fun h => ?_⟩) <;> first
    | (exact absurd h (by decide))
    | ((simp only [decide_eq_true_eq, decide_eq_false_iff_not, beq_iff_eq, bne_iff_ne, beq_eq_false_iff_ne, bne_eq_false_iff_eq, Bool.not_eq_true', Bool.not_eq_false', Bool.not_true, Bool.not_false, ne_eq, Decidable.not_not, gt_iff_lt, ge_iff_le, Int.not_lt, Int.not_le] at h) <;> (try (exfalso; omega)))
    | skip))
local macro_rules | `(tactic| kbo_bools) => `(tactic| first
    | ((with_reducible show EvE _ _ _ _ _ _ _); kaf_pre)
    | ((with_reducible show BinW _ _ _ _ _ _ _); kaf_suf) | ((with_reducible show CmpW _ _ _ _ _ _ _); tb_start) | ((with_reducible show InpW _ _ _ _ _ _ _); kct_strs)
    | ((with_reducible show Ex1 _ _ _ _ _ _ _); kcf_m)
    | ((with_reducible show ExS _ _ _ _ _ _ _); (first | refine ExS_cons ?_ | refine ExS_nil ?_))
    | ((with_reducible show EvT _ _ _ _ _ _ _); kba_ints)
    | ((with_reducible show EvL _ _ _ _ _ _ _ _); (first | refine EvL_cons ?_ | refine EvL_nil ?_))
    | ((with_reducible show UnW _ _ _ _ _ _); ktu_off1L)
    | ((with_reducible show CallW _ _ _ _ _ _); tb_rel)
    | ((with_reducible show SubW _ _ _ _ _ _ _ _); ktu_offI)
    | ((with_reducible show (_ = true → _) ∧ (_ = false → _)); krn_off)
    | ((with_reducible show (_ = false → _) ∧ (_ = true → _)); krn_off)
    | ((with_reducible show _ = true ∧ _); refine ⟨?_, ?_⟩)
    | ((with_reducible show ∃ b, TruthIs _ b ∧ _); refine ⟨_, rfl, ?_⟩)
    | ((with_reducible show List.length _ ≤ 1000 ∧ _); refine ⟨by simp only [List.length_cons, List.length_nil]; decide, ?_⟩)
    | ((with_reducible show ∃ fv, V.raw _ = V.raw fv ∧ _); refine ⟨_, rfl, by assumption, ?_⟩)
    | ((with_reducible show ∃ id, MethIs _ _ _ id ∧ _); refine ⟨_, meth_bits, ?_⟩)
    | ((with_reducible show ∃ a, _); (first | refine ⟨_, _, _, _, rfl, ?_⟩ | refine ⟨_, _, rfl, ?_⟩ | refine ⟨_, _, _, rfl, ?_⟩)))

section
variable {S : Sy} {d : Nat} {X : Prop}
local macro_rules | `(tactic| kaf_pre) => `(tactic| first | refine EvE_name (by rfl) ?_ | refine EvE_glob (by with_reducible assumption) ?_ | refine EvE_built (by with_reducible assumption) ?_ | refine EvE_int ?_ | refine EvE_binop ?_ | refine EvE_cmp ?_ | refine EvE_unop ?_ | refine EvE_str ?_ | refine EvE_bool ?_ | refine EvE_call ?_ | refine EvE_methW0 ?_ | ((with_reducible show EvE _ _ _ (Expr.Call (Expr.Attribute _ (Str.ofString "replace") _) [Expr.Constant (Const.str _) _ _, Expr.Constant (Const.str _) _ _] [] _) _ _ _); refine EvE_replace' ?_) | refine EvE_methW ?_ | refine EvE_slice_nsE ?_ | refine EvE_slice_snE ?_ | refine EvE_sub ?_ | refine EvE_tuple ?_ | refine EvE_ifexp ?_ | refine EvE_one ?_ | refine EvE_and ?_ | refine EvE_or ?_ | refine EvE_list ?_ | refine EvE_walrus ?_)
local macro_rules | `(tactic| kcf_m) => `(tactic| first | refine Ex1_if ?_ | refine Ex1_ret ?_ | refine Ex1_assign ?_ | refine Ex1_aug (by rfl) ?_ | ((with_reducible show Ex1 _ _ _ (Stmt.Assign [Expr.Tuple [Expr.Name _ _, Expr.Name _ _] _ _] (Expr.Tuple _ _ _) _) _ _ _); refine Ex1_swap2 ?_) | ((with_reducible show Ex1 _ _ _ (Stmt.Assign [Expr.Tuple [Expr.Name _ _, Expr.Name _ _, Expr.Name _ _] _ _] (Expr.Tuple _ _ _) _) _ _ _); refine Ex1_swap3 ?_) | refine Ex1_unpackA2 ?_ | refine Ex1_unpackA3 ?_ | refine Ex1_assert ?_)
local macro_rules | `(tactic| tb_start) => `(tactic| first | refine cmp_eq ?_ | refine cmp_lt ?_ | refine cmp_gt ?_ | refine cmp_le ?_ | refine cmp_ge ?_ | refine cmp_ne ?_ | refine cmp_eqSb (by with_reducible assumption) ?_ | refine cmp_neSb (by with_reducible assumption) ?_ | refine cmp_eqS ?_ | refine cmp_neS ?_ | refine cmp_in (by with_reducible assumption) ?_ | refine cmp_notin (by with_reducible assumption) ?_)
local macro_rules | `(tactic| kaf_suf) => `(tactic| first | refine bi_addE (by with_reducible assumption) ?_ | refine bi_subE (by with_reducible assumption) ?_ | refine bi_mulE (by with_reducible assumption) ?_ | refine bi_fdivE (by with_reducible assumption) (by decide) (by decide) ?_ | refine bi_modE (by with_reducible assumption) (by omega) ?_ | refine bi_powE (by with_reducible assumption) ?_ | refine bi_mulSE (by with_reducible assumption) ?_ | refine bi_addSb (by omega) (by omega) (by with_reducible assumption) ?_ | refine bi_add ?_ | refine bi_sub ?_ | refine bi_fdiv (by decide) (by decide) ?_ | refine bi_mod (by decide) ?_)
local macro_rules | `(tactic| tb_rel) => `(tactic| first | refine call_bitsE (by with_reducible assumption) ?_ | refine call_strE (by with_reducible assumption) ?_ | refine call_maxE (by with_reducible assumption) ?_ | refine call_lenSE (by with_reducible assumption) (by omega) ?_ | refine call_lenLE (by with_reducible assumption) ?_ | refine call_lenL1 ?_ | refine call_lenL2 ?_ | refine call_intS (by with_reducible assumption) (by omega) ?_ | refine call_absE (by with_reducible assumption) ?_ | refine call_abs ?_)
local macro_rules | `(tactic| ktu_off1L) => `(tactic| first | refine un_negE (by with_reducible assumption) ?_ | refine un_neg ?_ | refine un_not ?_)
local macro_rules | `(tactic| ktu_offI) => `(tactic| first | refine sub_tup (by decide) (by decide) rfl rfl ?_ | refine sub_listE (by with_reducible assumption) ?_ | refine sub_list (by decide) (by decide) rfl ?_ | refine sub_strb (by omega) (by omega) (by omega) (by with_reducible assumption) ?_)
local macro_rules | `(tactic| kbo_bools) => `(tactic| first
    | ((with_reducible show EvE _ _ _ _ _ _ _); kaf_pre)
    | ((with_reducible show BinW _ _ _ _ _ _ _); kaf_suf) | ((with_reducible show CmpW _ _ _ _ _ _ _); tb_start) | ((with_reducible show InpW _ _ _ _ _ _ _); kct_strs)
    | ((with_reducible show Ex1 _ _ _ _ _ _ _); kcf_m)
    | ((with_reducible show ExS _ _ _ _ _ _ _); (first | refine ExS_cons ?_ | refine ExS_nil ?_))
    | ((with_reducible show EvT _ _ _ _ _ _ _); kba_ints)
    | ((with_reducible show EvL _ _ _ _ _ _ _ _); (first | refine EvL_cons ?_ | refine EvL_nil ?_))
    | ((with_reducible show UnW _ _ _ _ _ _); ktu_off1L)
    | ((with_reducible show CallW _ _ _ _ _ _); tb_rel)
    | ((with_reducible show SubW _ _ _ _ _ _ _ _); ktu_offI)
    | ((with_reducible show (_ = true → _) ∧ (_ = false → _)); krn_off)
    | ((with_reducible show (_ = false → _) ∧ (_ = true → _)); krn_off)
    | ((with_reducible show _ = true ∧ _); refine ⟨?_, ?_⟩)
    | ((with_reducible show ∃ b, TruthIs _ b ∧ _); refine ⟨_, rfl, ?_⟩)
    | ((with_reducible show List.length _ ≤ 1000 ∧ _); refine ⟨by simp only [List.length_cons, List.length_nil]; decide, ?_⟩)
    | ((with_reducible show ∃ fv, V.raw _ = V.raw fv ∧ _); refine ⟨_, rfl, by with_reducible assumption, ?_⟩)
    | ((with_reducible show ∃ id, MethW _ _ _ id ∧ _); (first | with_reducible apply mx_bits | with_reducible apply mx_lower | with_reducible apply mx_strip | with_reducible apply mx_rstrip | with_reducible apply mx_split | with_reducible apply mx_startswith))
    | ((with_reducible show ∃ a, _); (first | refine ⟨_, _, .inl rfl, ?_⟩ | refine ⟨_, _, .inr rfl, ?_⟩ | refine ⟨_, _, _, rfl, rfl, by omega, by with_reducible assumption, ?_⟩ | refine ⟨_, _, rfl, by omega, by with_reducible assumption, ?_⟩ | refine ⟨_, _, _, rfl, ?_⟩ | refine ⟨_, _, rfl, ?_⟩ | refine ⟨_, rfl, rfl, ?_⟩)))
theorem nt_ne {n i f e} (ok : NOk n i f e) : ∃ c r, nt n i f e = c :: r := by
  have h : 0 < (nt n i f e).length := by
    unfold nt
    have := List.length_pos_iff.mpr ok.ne
    simp; omega
  cases hl : nt n i f e with
  | nil => rw [hl] at h; simp at h
  | cons c r => exact ⟨c, r, rfl⟩
theorem nt_nm {n i f e} (ok : NOk n i f e) : Nm (nt n i f e) := fun _ hc => nt_mem ok hc
theorem T_ne {l m : List Nat} (h : l ≠ m) : (T l == T m) = false := beq_eq_false_iff_ne.mpr fun e => h (by have := congrArg cp e; rwa [cp_T, cp_T] at this)
section
variable {n i f e n' i' f' e'} {p : Int} {k : Nat} {P : V → Prop}
abbrev E3 (e : Option (Bool × List Nat)) : Prop := -300 ≤ ev e ∧ ev e ≤ 300
theorem m0 (F : Facts S) (ok : NOk n i f e) (he : E3 e) (hp : 1 ≤ p) (hp2 : p ≤ 60) (hk : k ≤ 10) (h : ∀ a b, QR false (nv n i f e) p a → QR true (nv n i f e) p b → P (.tup [a.v, b.v])) :
    CallW S (d + 10) (.raw (gl S "mpi_from_str")) [.str (T (spc k ++ nt n i f e)), .int p] P X := by
  have nm := nt_nm ok
  have hl := nt_len ok
  refine mfs0 F (s := T (nt n i f e)) (v := nv n i f e) (by rw [len_T]; simp; omega) (by rw [len_T]; omega) (by rw [repl_out " " 32, List.filter_append, spc_filter, nm_filter nm 32]; rfl)
    (no_pm (nm_not nm 43)) (has_one "(" 40 _ _ (decide_eq_false (nm_not nm 40))) (has_one "," 44 _ _ (decide_eq_false (nm_not nm 44))) (fun Q hQ => num_fs (d := d + 3) (up := false) F ok hp (by omega) he hQ) (fun Q hQ => num_fs (d := d + 3) (up := true) F ok hp (by omega) he hQ) h
theorem m1 (F : Facts S) (ok : NOk n i f e) (he : E3 e) (ok' : NOk n' i' f' e') (he' : E3 e') (hp : 1 ≤ p) (hp2 : p ≤ 60) (hk : k ≤ 10) (h : ∀ a b, QR false (nv n i f e) p a → QR true (nv n' i' f' e') p b → P (.tup [a.v, b.v])) :
    CallW S (d + 10) (.raw (gl S "mpi_from_str")) [.str (T (91 :: (nt n i f e ++ 44 :: (spc k ++ (nt n' i' f' e' ++ [93]))))), .int p] P X := by
  have nm := nt_nm ok
  have hl := nt_len ok
  have nm' := nt_nm ok'
  have hl' := nt_len ok'
  have hn : ∀ c : Nat, c ≠ 45 → c ≠ 46 → c ≠ 101 → (c < 48 ∨ 57 < c) → c ∉ nt n i f e ∧ c ∉ nt n' i' f' e' := fun c h1 h2 h3 h4 => ⟨nm_not nm c h1 h2 h3 h4, nm_not nm' c h1 h2 h3 h4⟩
  generalize hA : nv n i f e = va at *
  generalize hB : nv n' i' f' e' = vb at *
  refine mfs1 F (s := T (91 :: (nt n i f e ++ 44 :: (nt n' i' f' e' ++ [93])))) (s2 := T (nt n i f e ++ 44 :: (nt n' i' f' e' ++ [93]))) (s3 := T (nt n i f e ++ 44 :: nt n' i' f' e')) (x := T (nt n i f e)) (y := T (nt n' i' f' e')) (c0 := T [91]) (vx := va) (vy := vb)
    (by rw [len_T]; simp; omega) (by rw [len_T]; simp; omega) (by rw [len_T]; simp; omega) (by rw [len_T]; simp; omega) (by rw [len_T]; simp) ?_ ?_ ?_ ?_ ?_ ?_ (item0 _ _) ?_ ?_ ?_ ?_
    (fun Q hQ => num_fs (d := d + 3) (up := false) F ok hp (by omega) he (by rw [hA]; exact hQ)) (fun Q hQ => num_fs (d := d + 3) (up := true) F ok' hp (by omega) he' (by rw [hB]; exact hQ)) h
  · rw [repl_out " " 32]; simp [nm_filter nm 32, nm_filter nm' 32]
  · exact no_pm (by have := hn 43 (by decide) (by decide) (by decide) (by decide); simp [this])
  · exact has_one "(" 40 _ _ (decide_eq_false (by have := hn 40 (by decide) (by decide) (by decide) (by decide); simp [this]))
  · exact has_one "," 44 _ _ (decide_eq_true (by simp))
  · exact has_one "[" 91 _ _ (decide_eq_true (by simp))
  · exact has_one "]" 93 _ _ (decide_eq_true (by simp))
  · rw [lit_T "[" [91]]; exact beq_self_eq_true _
  · rw [repl_out "[" 91]; simp [nm_filter nm 91, nm_filter nm' 91]
  · rw [repl_out "]" 93]; simp [nm_filter nm 93, nm_filter nm' 93]
  · have := hn 44 (by decide) (by decide) (by decide) (by decide)
    exact split1 "," 44 this.1 this.2
theorem abw (F : Facts S) {percent : Bool} (ok : NOk n i f e) (he : E3 e) (ok' : NOk n' i' f' e') (he' : E3 e') (hp : 1 ≤ p) (hp2 : p ≤ 60) (sx : Sz 2000 (nv n i f e)) (sy : Sz 2000 (nv n' i' f' e')) (ny : 0 ≤ nv n' i' f' e')
    {Q : V → Prop} (h : ∀ a b, AB percent (nv n i f e) (nv n' i' f' e') p a b → Q (.tup [a.v, b.v])) :
    CallW S (d + 9) (.raw (gl S "mpi_from_str_a_b")) [.str (T (nt n i f e)), .str (T (nt n' i' f' e')), .bool percent, .int p] Q X :=
  ab_walk F hp hp2 sx sy ny (fun Q hQ => num_fs (d := d + 2) (up := false) F ok (by omega) (by omega) he hQ) (fun Q hQ => num_fs (d := d + 2) (up := true) F ok (by omega) (by omega) he hQ)
    (fun Q hQ => num_fs (d := d + 2) (up := true) F ok' (by omega) (by omega) he' hQ) h
theorem m3 (F : Facts S) (ok : NOk n i f e) (he : E3 e) (ok' : NOk n' i' f' e') (he' : E3 e') (hp : 1 ≤ p) (hp2 : p ≤ 60) (hk : k ≤ 10) (sx : Sz 2000 (nv n i f e)) (sy : Sz 2000 (nv n' i' f' e')) (ny : 0 ≤ nv n' i' f' e')
    (h : ∀ a b, AB false (nv n i f e) (nv n' i' f' e') p a b → P (.tup [a.v, b.v])) :
    CallW S (d + 10) (.raw (gl S "mpi_from_str")) [.str (T (nt n i f e ++ (spc k ++ 43 :: 45 :: (spc k ++ nt n' i' f' e')))), .int p] P X := by
  have nm := nt_nm ok
  have hl := nt_len ok
  have nm' := nt_nm ok'
  have hl' := nt_len ok'
  have AW := fun (Q : V → Prop) hQ => abw (d := d) (X := X) (percent := false) (Q := Q) F ok he ok' he' hp hp2 sx sy ny hQ
  generalize nv n i f e = va at *
  generalize nv n' i' f' e' = vb at *
  have pm : cp ("+-" : Str) = [43, 45] := by decide +kernel
  refine mfs3 F (s := T (nt n i f e ++ cp ("+-" : Str) ++ nt n' i' f' e')) (x := T (nt n i f e)) (y := T (nt n' i' f' e')) (vx := va) (vy := vb)
    (by rw [len_T]; simp; omega) (by rw [len_T, pm]; simp; omega) ?_ (contains_mid (cp_T _)) (split_pm (c := 43) (by rw [pm]; decide) (nm_not nm 43) (nm_not nm' 43) (cp_T _)) AW h
  rw [repl_out " " 32, pm]; simp [nm_filter nm 32, nm_filter nm' 32]
theorem m4 (F : Facts S) (ok : NOk n i f e) (he : E3 e) (ok' : NOk n' i' f' e') (he' : E3 e') (hp : 1 ≤ p) (hp2 : p ≤ 60) (hk : k ≤ 10) (sx : Sz 2000 (nv n i f e)) (sy : Sz 2000 (nv n' i' f' e')) (ny : 0 ≤ nv n' i' f' e')
    (h : ∀ a b, AB false (nv n i f e) (nv n' i' f' e') p a b → P (.tup [a.v, b.v])) :
    CallW S (d + 10) (.raw (gl S "mpi_from_str")) [.str (T (nt n i f e ++ (spc k ++ 40 :: (nt n' i' f' e' ++ [41])))), .int p] P X := by
  have nm := nt_nm ok
  have hl := nt_len ok
  have nm' := nt_nm ok'
  have hl' := nt_len ok'
  have hn : ∀ c : Nat, c ≠ 45 → c ≠ 46 → c ≠ 101 → (c < 48 ∨ 57 < c) → c ∉ nt n i f e ∧ c ∉ nt n' i' f' e' := fun c h1 h2 h3 h4 => ⟨nm_not nm c h1 h2 h3 h4, nm_not nm' c h1 h2 h3 h4⟩
  have AW := fun (Q : V → Prop) hQ => abw (d := d) (X := X) (percent := false) (Q := Q) F ok he ok' he' hp hp2 sx sy ny hQ
  generalize nv n i f e = va at *
  generalize nv n' i' f' e' = vb at *
  obtain ⟨c, r, hc⟩ := nt_ne ok
  have hcm : c ≠ 40 := fun h => by have := nm c (by rw [hc]; exact .head _); omega
  refine mfs4 F (s := T (nt n i f e ++ 40 :: (nt n' i' f' e' ++ [41]))) (s2 := T (nt n i f e ++ 40 :: nt n' i' f' e')) (x := T (nt n i f e)) (y := T (nt n' i' f' e')) (c0 := T [c]) (vx := va) (vy := vb)
    (by rw [len_T]; simp; omega) (by rw [len_T]; simp; omega) (by rw [len_T]; simp; omega) (by rw [len_T]; simp; omega) ?_ ?_ ?_ ?_ ?_ ?_ ?_ ?_ ?_ AW h
  · rw [repl_out " " 32]; simp [nm_filter nm 32, nm_filter nm' 32]
  · exact no_pm (by have := hn 43 (by decide) (by decide) (by decide) (by decide); simp [this])
  · exact has_one "(" 40 _ _ (decide_eq_true (by simp))
  · rw [hc]; exact item0 _ _
  · rw [lit_T "(" [40]]; exact T_ne (by simpa using hcm)
  · exact has_one ")" 41 _ _ (decide_eq_true (by simp))
  · rw [repl_out ")" 41]; simp [nm_filter nm 41, nm_filter nm' 41]
  · exact has_one "%" 37 _ _ (decide_eq_false (by have := hn 37 (by decide) (by decide) (by decide) (by decide); simp [this]))
  · have := hn 40 (by decide) (by decide) (by decide) (by decide)
    exact split1 "(" 40 this.1 this.2
theorem m5 (F : Facts S) (ok : NOk n i f e) (he : E3 e) (ok' : NOk n' i' f' e') (he' : E3 e') (hp : 1 ≤ p) (hp2 : p ≤ 60) (hk : k ≤ 10) (sx : Sz 2000 (nv n i f e)) (sy : Sz 2000 (nv n' i' f' e')) (ny : 0 ≤ nv n' i' f' e')
    (h : ∀ a b, AB true (nv n i f e) (nv n' i' f' e') p a b → P (.tup [a.v, b.v])) :
    CallW S (d + 10) (.raw (gl S "mpi_from_str")) [.str (T (nt n i f e ++ (spc k ++ 40 :: (nt n' i' f' e' ++ [37, 41])))), .int p] P X := by
  have nm := nt_nm ok
  have hl := nt_len ok
  have nm' := nt_nm ok'
  have hl' := nt_len ok'
  have hn : ∀ c : Nat, c ≠ 45 → c ≠ 46 → c ≠ 101 → (c < 48 ∨ 57 < c) → c ∉ nt n i f e ∧ c ∉ nt n' i' f' e' := fun c h1 h2 h3 h4 => ⟨nm_not nm c h1 h2 h3 h4, nm_not nm' c h1 h2 h3 h4⟩
  have AW := fun (Q : V → Prop) hQ => abw (d := d) (X := X) (percent := true) (Q := Q) F ok he ok' he' hp hp2 sx sy ny hQ
  generalize nv n i f e = va at *
  generalize nv n' i' f' e' = vb at *
  obtain ⟨c, r, hc⟩ := nt_ne ok
  have hcm : c ≠ 40 := fun h => by have := nm c (by rw [hc]; exact .head _); omega
  refine mfs5 F (s := T (nt n i f e ++ 40 :: (nt n' i' f' e' ++ [37, 41]))) (s2 := T (nt n i f e ++ 40 :: (nt n' i' f' e' ++ [37]))) (s3 := T (nt n i f e ++ 40 :: nt n' i' f' e')) (x := T (nt n i f e)) (y := T (nt n' i' f' e')) (c0 := T [c]) (c9 := T [37]) (vx := va) (vy := vb)
    (by rw [len_T]; simp; omega) (by rw [len_T]; simp; omega) (by rw [len_T]; simp; omega) (by rw [len_T]; simp; omega) (by rw [len_T]; simp; omega) (by rw [len_T]; simp; omega) ?_ ?_ ?_ ?_ ?_ ?_ ?_ ?_ ?_ ?_ ?_ ?_ AW h
  · rw [repl_out " " 32]; simp [nm_filter nm 32, nm_filter nm' 32]
  · exact no_pm (by have := hn 43 (by decide) (by decide) (by decide) (by decide); simp [this])
  · exact has_one "(" 40 _ _ (decide_eq_true (by simp))
  · rw [hc]; exact item0 _ _
  · rw [lit_T "(" [40]]; exact T_ne (by simpa using hcm)
  · exact has_one ")" 41 _ _ (decide_eq_true (by simp))
  · rw [repl_out ")" 41]; simp [nm_filter nm 41, nm_filter nm' 41]
  · exact has_one "%" 37 _ _ (decide_eq_true (by simp))
  · have e1 : nt n i f e ++ 40 :: (nt n' i' f' e' ++ [37]) = (nt n i f e ++ 40 :: nt n' i' f' e') ++ [37] := by simp
    rw [e1]; exact item_last _ _
  · rw [lit_T "%" [37]]; simp
  · rw [repl_out "%" 37]; simp [nm_filter nm 37, nm_filter nm' 37]
  · have := hn 40 (by decide) (by decide) (by decide) (by decide)
    exact split1 "(" 40 this.1 this.2
end

end
end Mine
end

section
open PySem PySem.W PySem.Calls PyProof.Rows PySem.NumText PySem.StrLaws PySem.Builtin PySem.Builtin.Str
set_option Elab.async false
set_option maxRecDepth 100000
namespace Mine

-- expressions
local macro_rules | `(tactic| kaf_pre) => `(tactic| first | refine EvE_name (by rfl) ?_ | refine EvE_glob (by assumption) ?_ | refine EvE_built (by assumption) ?_ | refine EvE_int ?_ | refine EvE_binop ?_ | refine EvE_cmp ?_ | refine EvE_unop ?_ | refine EvE_str ?_ | refine EvE_bool ?_ | refine EvE_call ?_ | refine EvE_meth0 ?_ | refine EvE_meth ?_ | refine EvE_sub ?_ | refine EvE_tuple ?_ | refine EvE_ifexp ?_ | refine EvE_one ?_ | refine EvE_and ?_ | refine EvE_or ?_ | refine EvE_list ?_ | refine EvE_walrus ?_)
-- operators
local macro_rules | `(tactic| kaf_suf) => `(tactic| first | refine bi_add ?_ | refine bi_sub ?_ | refine bi_and ?_ | refine bi_xor ?_ | refine bi_shr (by omega) ?_)
local macro_rules | `(tactic| tb_start) => `(tactic| first | refine cmp_eq ?_ | refine cmp_lt ?_ | refine cmp_gt ?_ | refine cmp_le ?_ | refine cmp_ge ?_ | refine cmp_ne ?_ | refine cmp_eqS ?_ | refine cmp_eq4 ?_)
local macro_rules | `(tactic| kct_strs) => `(tactic| first | refine ib_add ?_ | refine ib_sub ?_ | refine ib_xor ?_ | refine ib_shr (by omega) ?_)
local macro_rules | `(tactic| ktu_off1L) => `(tactic| first | refine un_neg ?_ | refine un_not ?_)
-- tests
local macro_rules | `(tactic| kba_ints) => `(tactic| first | refine EvT_not ?_ | refine EvT_cmp ?_ | refine EvT_and ?_ | refine EvT_and_nil ?_ | refine EvT_or ?_ | refine EvT_or_nil ?_ | refine EvT_name ?_ | refine EvT_call ?_ | refine EvT_sub ?_ | refine EvT_bin ?_)
-- statements
local macro_rules | `(tactic| kcf_m) => `(tactic| first | refine Ex1_if ?_ | refine Ex1_ret ?_ | refine Ex1_assign ?_ | refine Ex1_aug (by rfl) ?_ | refine Ex1_unpack4 ?_ | refine Ex1_unpack2 ?_ | refine Ex1_unpack3 ?_ | refine Ex1_swap ?_ | refine Ex1_assert ?_)
-- calls
local macro_rules | `(tactic| tb_rel) => `(tactic| first | refine call_bits ?_)
-- items
local macro_rules | `(tactic| ktu_offI) => `(tactic| first | refine sub_tup (by decide) (by decide) rfl rfl ?_ | refine sub_list (by decide) (by decide) rfl ?_)
-- a test's two ways: what cannot be goes at once
local macro_rules | `(tactic| krn_off) => `(tactic| ((refine ⟨fun h => ?_, fun h => ?_⟩) <;> first
    | (exact absurd h (by decide))
    | ((simp only [decide_eq_true_eq, decide_eq_false_iff_not, beq_iff_eq, bne_iff_ne, beq_eq_false_iff_ne, bne_eq_false_iff_eq, Bool.not_eq_true', Bool.not_eq_false', Bool.not_true, Bool.not_false, ne_eq, Decidable.not_not, gt_iff_lt, ge_iff_le, Int.not_lt, Int.not_le] at h) <;> (try (exfalso; omega)))
    | skip))
local macro_rules | `(tactic| kbo_bools) => `(tactic| first
    | ((with_reducible show EvE _ _ _ _ _ _ _); kaf_pre)
    | ((with_reducible show BinW _ _ _ _ _ _ _); kaf_suf) | ((with_reducible show CmpW _ _ _ _ _ _ _); tb_start) | ((with_reducible show InpW _ _ _ _ _ _ _); kct_strs)
    | ((with_reducible show Ex1 _ _ _ _ _ _ _); kcf_m)
    | ((with_reducible show ExS _ _ _ _ _ _ _); (first | refine ExS_cons ?_ | refine ExS_nil ?_))
    | ((with_reducible show EvT _ _ _ _ _ _ _); kba_ints)
    | ((with_reducible show EvL _ _ _ _ _ _ _ _); (first | refine EvL_cons ?_ | refine EvL_nil ?_))
    | ((with_reducible show UnW _ _ _ _ _ _); ktu_off1L)
    | ((with_reducible show CallW _ _ _ _ _ _); tb_rel)
    | ((with_reducible show SubW _ _ _ _ _ _ _ _); ktu_offI)
    | ((with_reducible show (_ = true → _) ∧ (_ = false → _)); krn_off)
    | ((with_reducible show (_ = false → _) ∧ (_ = true → _)); krn_off)
    | ((with_reducible show _ = true ∧ _); refine ⟨?_, ?_⟩)
    | ((with_reducible show ∃ b, TruthIs _ b ∧ _); refine ⟨_, rfl, ?_⟩)
    | ((with_reducible show List.length _ ≤ 1000 ∧ _); refine ⟨by simp only [List.length_cons, List.length_nil]; decide, ?_⟩)
    | ((with_reducible show ∃ fv, V.raw _ = V.raw fv ∧ _); refine ⟨_, rfl, by assumption, ?_⟩)
    | ((with_reducible show ∃ id, MethIs _ _ _ id ∧ _); refine ⟨_, meth_bits, ?_⟩)
    | ((with_reducible show ∃ a, _); (first | refine ⟨_, _, _, _, rfl, ?_⟩ | refine ⟨_, _, rfl, ?_⟩ | refine ⟨_, _, _, rfl, ?_⟩)))

section
variable {S : Sy} {d : Nat} {X : Prop}
local macro_rules | `(tactic| kaf_pre) => `(tactic| first | refine EvE_name (by rfl) ?_ | refine EvE_glob (by with_reducible assumption) ?_ | refine EvE_built (by with_reducible assumption) ?_ | refine EvE_int ?_ | refine EvE_binop ?_ | refine EvE_cmp ?_ | refine EvE_unop ?_ | refine EvE_str ?_ | refine EvE_bool ?_ | refine EvE_call ?_ | refine EvE_methW0 ?_ | ((with_reducible show EvE _ _ _ (Expr.Call (Expr.Attribute _ (Str.ofString "replace") _) [Expr.Constant (Const.str _) _ _, Expr.Constant (Const.str _) _ _] [] _) _ _ _); refine EvE_replace' ?_) | refine EvE_methW ?_ | refine EvE_slice_nsE ?_ | refine EvE_slice_snE ?_ | refine EvE_sub ?_ | refine EvE_tuple ?_ | refine EvE_ifexp ?_ | refine EvE_one ?_ | refine EvE_and ?_ | refine EvE_or ?_ | refine EvE_list ?_ | refine EvE_walrus ?_)
local macro_rules | `(tactic| kcf_m) => `(tactic| first | refine Ex1_if ?_ | refine Ex1_ret ?_ | refine Ex1_assign ?_ | refine Ex1_aug (by rfl) ?_ | ((with_reducible show Ex1 _ _ _ (Stmt.Assign [Expr.Tuple [Expr.Name _ _, Expr.Name _ _] _ _] (Expr.Tuple _ _ _) _) _ _ _); refine Ex1_swap2 ?_) | ((with_reducible show Ex1 _ _ _ (Stmt.Assign [Expr.Tuple [Expr.Name _ _, Expr.Name _ _, Expr.Name _ _] _ _] (Expr.Tuple _ _ _) _) _ _ _); refine Ex1_swap3 ?_) | refine Ex1_unpackA2 ?_ | refine Ex1_unpackA3 ?_ | refine Ex1_assert ?_)
local macro_rules | `(tactic| tb_start) => `(tactic| first | refine cmp_eq ?_ | refine cmp_lt ?_ | refine cmp_gt ?_ | refine cmp_le ?_ | refine cmp_ge ?_ | refine cmp_ne ?_ | refine cmp_eqSb (by with_reducible assumption) ?_ | refine cmp_neSb (by with_reducible assumption) ?_ | refine cmp_eqS ?_ | refine cmp_neS ?_ | refine cmp_in (by with_reducible assumption) ?_ | refine cmp_notin (by with_reducible assumption) ?_)
local macro_rules | `(tactic| kaf_suf) => `(tactic| first | refine bi_addE (by with_reducible assumption) ?_ | refine bi_subE (by with_reducible assumption) ?_ | refine bi_mulE (by with_reducible assumption) ?_ | refine bi_fdivE (by with_reducible assumption) (by decide) (by decide) ?_ | refine bi_modE (by with_reducible assumption) (by omega) ?_ | refine bi_powE (by with_reducible assumption) ?_ | refine bi_mulSE (by with_reducible assumption) ?_ | refine bi_addSb (by omega) (by omega) (by with_reducible assumption) ?_ | refine bi_add ?_ | refine bi_sub ?_ | refine bi_fdiv (by decide) (by decide) ?_ | refine bi_mod (by decide) ?_)
local macro_rules | `(tactic| tb_rel) => `(tactic| first | refine call_bitsE (by with_reducible assumption) ?_ | refine call_strE (by with_reducible assumption) ?_ | refine call_maxE (by with_reducible assumption) ?_ | refine call_lenSE (by with_reducible assumption) (by omega) ?_ | refine call_lenLE (by with_reducible assumption) ?_ | refine call_lenL1 ?_ | refine call_lenL2 ?_ | refine call_intS (by with_reducible assumption) (by omega) ?_ | refine call_absE (by with_reducible assumption) ?_ | refine call_abs ?_)
local macro_rules | `(tactic| ktu_off1L) => `(tactic| first | refine un_negE (by with_reducible assumption) ?_ | refine un_neg ?_ | refine un_not ?_)
local macro_rules | `(tactic| ktu_offI) => `(tactic| first | refine sub_tup (by decide) (by decide) rfl rfl ?_ | refine sub_listE (by with_reducible assumption) ?_ | refine sub_list (by decide) (by decide) rfl ?_ | refine sub_strb (by omega) (by omega) (by omega) (by with_reducible assumption) ?_)
local macro_rules | `(tactic| kbo_bools) => `(tactic| first
    | ((with_reducible show EvE _ _ _ _ _ _ _); kaf_pre)
    | ((with_reducible show BinW _ _ _ _ _ _ _); kaf_suf) | ((with_reducible show CmpW _ _ _ _ _ _ _); tb_start) | ((with_reducible show InpW _ _ _ _ _ _ _); kct_strs)
    | ((with_reducible show Ex1 _ _ _ _ _ _ _); kcf_m)
    | ((with_reducible show ExS _ _ _ _ _ _ _); (first | refine ExS_cons ?_ | refine ExS_nil ?_))
    | ((with_reducible show EvT _ _ _ _ _ _ _); kba_ints)
    | ((with_reducible show EvL _ _ _ _ _ _ _ _); (first | refine EvL_cons ?_ | refine EvL_nil ?_))
    | ((with_reducible show UnW _ _ _ _ _ _); ktu_off1L)
    | ((with_reducible show CallW _ _ _ _ _ _); tb_rel)
    | ((with_reducible show SubW _ _ _ _ _ _ _ _); ktu_offI)
    | ((with_reducible show (_ = true → _) ∧ (_ = false → _)); krn_off)
    | ((with_reducible show (_ = false → _) ∧ (_ = true → _)); krn_off)
    | ((with_reducible show _ = true ∧ _); refine ⟨?_, ?_⟩)
    | ((with_reducible show ∃ b, TruthIs _ b ∧ _); refine ⟨_, rfl, ?_⟩)
    | ((with_reducible show List.length _ ≤ 1000 ∧ _); refine ⟨by simp only [List.length_cons, List.length_nil]; decide, ?_⟩)
    | ((with_reducible show ∃ fv, V.raw _ = V.raw fv ∧ _); refine ⟨_, rfl, by with_reducible assumption, ?_⟩)
    | ((with_reducible show ∃ id, MethW _ _ _ id ∧ _); (first | with_reducible apply mx_bits | with_reducible apply mx_lower | with_reducible apply mx_strip | with_reducible apply mx_rstrip | with_reducible apply mx_split | with_reducible apply mx_startswith))
    | ((with_reducible show ∃ a, _); (first | refine ⟨_, _, .inl rfl, ?_⟩ | refine ⟨_, _, .inr rfl, ?_⟩ | refine ⟨_, _, _, rfl, rfl, by omega, by with_reducible assumption, ?_⟩ | refine ⟨_, _, rfl, by omega, by with_reducible assumption, ?_⟩ | refine ⟨_, _, _, rfl, ?_⟩ | refine ⟨_, _, rfl, ?_⟩ | refine ⟨_, rfl, rfl, ?_⟩)))
theorem rstripK (l : List Nat) (k : Nat) : Txt.rstripChars (T l) ⟨#[k]⟩ = T (l.reverse.dropWhile (· == k)).reverse := by
  have hg : (#[k] : Array Nat).contains = (· == k) := by funext c; simp; rfl
  show Txt.stripBy (#[k] : Array Nat).contains false true (T l) = _
  rw [PyProof.Rows.stripBy_eq, hg]
  apply cp_inj
  show (strSub (T l) 0 _).cps.toList = (l.reverse.dropWhile (· == k)).reverse
  rw [strSub_toList]
  show (l.drop 0).take ((T l).length - ((l.drop 0).reverse.takeWhile (· == k)).length - 0) = _
  rw [List.drop_zero, Nat.sub_zero, len_T]
  have e : l.reverse.takeWhile (· == k) ++ l.reverse.dropWhile (· == k) = l.reverse := List.takeWhile_append_dropWhile
  have e2 : l = (l.reverse.dropWhile (· == k)).reverse ++ (l.reverse.takeWhile (· == k)).reverse := by
    rw [← List.reverse_append, e, List.reverse_reverse]
  have e3 : l.length - (l.reverse.takeWhile (· == k)).length = (l.reverse.dropWhile (· == k)).reverse.length := by
    have := congrArg List.length e; rw [List.length_append, List.length_reverse] at this; rw [List.length_reverse]; omega
  rw [e3]
  conv => lhs; arg 2; rw [e2]
  rw [List.take_left]
theorem rstrip1 (s : String) (k : Nat) {l : List Nat} (hl : k ∉ l) (h : Str.ofString s = ⟨#[k]⟩ := by decide +kernel) : Txt.rstripChars (T (l ++ [k])) s = T l := by
  rw [h, rstripK]
  congr 1
  rw [List.reverse_append]
  show (List.dropWhile (· == k) (k :: l.reverse)).reverse = l
  rw [List.dropWhile_cons, show (k == k) = true from by simp]
  simp only [if_true]
  have : l.reverse.dropWhile (· == k) = l.reverse := by
    cases hr : l.reverse with
    | nil => rfl
    | cons a r =>
      have : a ∈ l := List.mem_reverse.mp (by rw [hr]; exact .head _)
      rw [List.dropWhile_cons, show (a == k) = false from by simp; rintro rfl; exact hl this]
      rfl
  rw [this, List.reverse_reverse]
section
variable {A B C : List Nat} {e : Option (Bool × List Nat)} {p : Int} {P : V → Prop}
theorem er_nm (ok : NOk false A (some B) e) : ∀ c ∈ er e, c = 45 ∨ c = 101 ∨ (48 ≤ c ∧ c ≤ 57) := by
  intro c hc
  cases e with
  | none => simp [er] at hc
  | some e =>
    obtain ⟨m, ds⟩ := e
    rcases List.mem_cons.mp hc with h | h
    · exact .inr (.inl h)
    · rcases List.mem_append.mp h with h | h
      · exact .inl (mi_mem h)
      · exact .inr (.inr ((ok.de m ds rfl).1 c h))
theorem er_len (ok : NOk false A (some B) e) : (er e).length ≤ 62 := by
  cases e with
  | none => simp [er]
  | some e =>
    obtain ⟨m, ds⟩ := e
    have := (ok.de m ds rfl).2.2
    have := mi_len m
    simp [er]; omega
theorem m2 (F : Facts S) (ok : NOk false A (some B) e) (ok' : NOk false A (some C) e) (he : E3 e) (hp : 1 ≤ p) (hp2 : p ≤ 60)
    (h : ∀ a b, QR false (nv false A (some B) e) p a → QR true (nv false A (some C) e) p b → P (.tup [a.v, b.v])) :
    CallW S (d + 10) (.raw (gl S "mpi_from_str")) [.str (T (A ++ 46 :: 91 :: (B ++ 44 :: (C ++ 93 :: er e)))), .int p] P X := by
  have hen := er_nm ok
  have hel := er_len ok
  have hA := ok.di
  have hAl := ok.li
  have dB : Dg B := ok.df
  have dC : Dg C := ok'.df
  have lB : B.length ≤ 60 := ok.lf
  have lC : C.length ≤ 60 := ok'.lf
  have nt1 : nt false A (some B) e = A ++ [46] ++ B ++ er e := by simp [nt, mi, fr]
  have nt2 : nt false A (some C) e = A ++ [46] ++ C ++ er e := by simp [nt, mi, fr]
  have hn : ∀ c : Nat, c ≠ 45 → c ≠ 46 → c ≠ 101 → (c < 48 ∨ 57 < c) → c ∉ A ∧ c ∉ B ∧ c ∉ C ∧ c ∉ er e := fun c h1 h2 h3 h4 =>
    ⟨fun h => by have := hA c h; omega, fun h => by have := dB c h; omega, fun h => by have := dC c h; omega, fun h => by have := hen c h; omega⟩
  have FA := fun (Q : V → Prop) hQ => num_fs (d := d + 3) (X := X) (up := false) (P := Q) F ok hp (by omega) he hQ
  have FB := fun (Q : V → Prop) hQ => num_fs (d := d + 3) (X := X) (up := true) (P := Q) F ok' hp (by omega) he hQ
  rw [nt1] at FA
  rw [nt2] at FB
  generalize nv false A (some B) e = va at *
  generalize nv false A (some C) e = vb at *
  obtain ⟨c, r, hc⟩ : ∃ c r, A = c :: r := by
    cases hl : A with
    | nil => exact absurd hl ok.ne
    | cons c r => exact ⟨c, r, rfl⟩
  have hcm : c ≠ 91 := fun h => by have := hA c (by rw [hc]; exact .head _); omega
  have h43 := hn 43 (by decide) (by decide) (by decide) (by decide)
  have h40 := hn 40 (by decide) (by decide) (by decide) (by decide)
  have h32 := hn 32 (by decide) (by decide) (by decide) (by decide)
  have h91 := hn 91 (by decide) (by decide) (by decide) (by decide)
  have h93 := hn 93 (by decide) (by decide) (by decide) (by decide)
  have h44 := hn 44 (by decide) (by decide) (by decide) (by decide)
  have hlA : 1 ≤ A.length := by rw [hc]; simp
  have es : A ++ 46 :: 91 :: (B ++ 44 :: (C ++ 93 :: er e)) = (A ++ [46]) ++ 91 :: (B ++ 44 :: (C ++ 93 :: er e)) := by simp
  have g1 : Txt.replace (T (A ++ 46 :: 91 :: (B ++ 44 :: (C ++ 93 :: er e)))) " " "" = T (A ++ 46 :: 91 :: (B ++ 44 :: (C ++ 93 :: er e))) := by
    rw [repl_out " " 32, List.filter_eq_self.mpr]
    intro x hx
    simp
    rintro rfl
    simp [h32] at hx
  have g2 : Txt.contains (T (A ++ 46 :: 91 :: (B ++ 44 :: (C ++ 93 :: er e)))) "+-" = false := no_pm (by simp [h43])
  have g3 := has_one "(" 40 (A ++ 46 :: 91 :: (B ++ 44 :: (C ++ 93 :: er e))) false (decide_eq_false (by simp [h40]))
  have g4 := has_one "," 44 (A ++ 46 :: 91 :: (B ++ 44 :: (C ++ 93 :: er e))) true (decide_eq_true (by simp))
  have g5 := has_one "[" 91 (A ++ 46 :: 91 :: (B ++ 44 :: (C ++ 93 :: er e))) true (decide_eq_true (by simp))
  have g6 := has_one "]" 93 (A ++ 46 :: 91 :: (B ++ 44 :: (C ++ 93 :: er e))) true (decide_eq_true (by simp))
  have g7 : Txt.item (T (A ++ 46 :: 91 :: (B ++ 44 :: (C ++ 93 :: er e)))) 0 = T [c] := by rw [hc]; exact item0 _ _
  have g8 : (T [c] == ("[" : Str)) = false := by rw [lit_T "[" [91]]; exact T_ne (by simpa using hcm)
  have g9 : Txt.split (T (A ++ 46 :: 91 :: (B ++ 44 :: (C ++ 93 :: er e)))) "[" = [T (A ++ [46]), T (B ++ 44 :: (C ++ 93 :: er e))] := by
    rw [es]; exact split1 "[" 91 (by simp [h91]) (by simp [h91])
  have g10 : Txt.split (T (B ++ 44 :: (C ++ 93 :: er e))) "," = [T B, T (C ++ 93 :: er e)] := split1 "," 44 h44.2.1 (by simp [h44])
  have a1 : T (A ++ [46]) ++ T B = T (A ++ [46] ++ B) := T_append _ _
  have a2 : T (A ++ [46] ++ B) ++ T (er e) = T (A ++ [46] ++ B ++ er e) := T_append _ _
  have a3 : T (A ++ [46]) ++ T C = T (A ++ [46] ++ C) := T_append _ _
  have a4 : T (A ++ [46] ++ C) ++ T (er e) = T (A ++ [46] ++ C ++ er e) := T_append _ _
  have l1 : (T (A ++ 46 :: 91 :: (B ++ 44 :: (C ++ 93 :: er e)))).length ≤ 900 := by rw [len_T]; simp; omega
  have l2 : 1 ≤ (T (A ++ 46 :: 91 :: (B ++ 44 :: (C ++ 93 :: er e)))).length := by rw [len_T, List.length_append]; omega
  have l3 : (T (A ++ [46])).length ≤ 900 := by rw [len_T]; simp; omega
  have l4 : (T (B ++ 44 :: (C ++ 93 :: er e))).length ≤ 900 := by rw [len_T]; simp; omega
  have l5 : (T B).length ≤ 900 := by rw [len_T]; omega
  have l6 : (T (C ++ 93 :: er e)).length ≤ 900 := by rw [len_T]; simp; omega
  have l7 : (T C).length ≤ 900 := by rw [len_T]; omega
  have l8 : (T (er e)).length ≤ 900 := by rw [len_T]; omega
  have l9 : (T (A ++ [46] ++ B)).length ≤ 900 := by rw [len_T]; simp; omega
  have l10 : (T (A ++ [46] ++ C)).length ≤ 900 := by rw [len_T]; simp; omega
  cases e with
  | none =>
    have g11 := has_one "e" 101 (A ++ 46 :: 91 :: (B ++ 44 :: (C ++ 93 :: er none))) false (decide_eq_false (by
      have k1 : 101 ∉ A := fun h => by have := hA _ h; omega
      have k2 : 101 ∉ B := fun h => by have := dB _ h; omega
      have k3 : 101 ∉ C := fun h => by have := dC _ h; omega
      simp [k1, k2, k3, er]))
    have g12 : Txt.rstripChars (T (C ++ 93 :: er none)) "]" = T C := rstrip1 "]" 93 h93.2.2.1
    exact mfs2n F l1 l1 l2 l3 l4 l5 l6 l7 l8 l9 l10 g1 g2 g3 g4 g5 g6 g7 g8 g9 g10 g11 g12 (by decide +kernel) a1 a2 a3 a4 FA FB h
  | some e =>
    obtain ⟨m, ds⟩ := e
    have g11 := has_one "e" 101 (A ++ 46 :: 91 :: (B ++ 44 :: (C ++ 93 :: er (some (m, ds))))) true (decide_eq_true (by simp [er]))
    have g12 : Txt.split (T (C ++ 93 :: er (some (m, ds)))) "]" = [T C, T (er (some (m, ds)))] := split1 "]" 93 h93.2.2.1 h93.2.2.2
    exact mfs2e F l1 l1 l2 l3 l4 l5 l6 l7 l8 l9 l10 g1 g2 g3 g4 g5 g6 g7 g8 g9 g10 g11 g12 a1 a2 a3 a4 FA FB h
end

end
end Mine
end

section
open PySem PySem.W PySem.Calls PyProof.Rows
set_option Elab.async false
set_option maxRecDepth 100000
namespace Mine
/-- the claim's caller is on the stack -/
def hasC (l : List (Code × Pos)) : Bool := l.any fun x => match x with
  | (c, _) => match c with
    | .builtin "claim.caller" _ => true
    | _ => false
/-- a run below the claim's caller -/
def wpU {α : Type} (M : Model) (A : Around) (t : Sem α) (Q : α → Shared → Prop) (E : Value → Shared → Prop) (s : Shared) : Prop :=
  ∀ Γ p, Γ.In A → hasC ((Γ.code, p) :: Γ.below) = true → Sem.wp M Γ t (fun a _ s' => Q a s') (fun e _ s' => E e s') p s
def guarded {α : Type} (t d : Sem α) : Sem α := do if ← underTheClaimsCaller then t else d
theorem wp_guarded {α : Type} {M : Model} {Γ : Ctx} {t d : Sem α} {Q : α → Pos → Shared → Prop} {E : Value → Pos → Shared → Prop} {p : Pos} {s : Shared}
    (h : Sem.wp M Γ (if hasC ((Γ.code, p) :: Γ.below) = true then t else d) Q E p s) : Sem.wp M Γ (guarded t d) Q E p s := h
theorem wp_guarded' {α : Type} {M : Model} {Γ : Ctx} {t d : Sem α} {Q : α → Pos → Shared → Prop} {E : Value → Pos → Shared → Prop} {p : Pos} {s : Shared}
    (h : Sem.wp M Γ (guarded t d) Q E p s) : Sem.wp M Γ (if hasC ((Γ.code, p) :: Γ.below) = true then t else d) Q E p s := h
theorem sched_guarded {prog : Program} {w : World} {s s' : Shared} {t d : Sem Fin} {n : Nat} {o : Outcome} (hz : s.asleep)
    (h : schedN (denote table) prog w n (.single s ⟨guarded t d, .builtin "claim.caller" {}, default, []⟩) = .halted o s') :
    ∃ m, schedN (denote table) prog w m (.single s ⟨t, .builtin "claim.caller" {}, default, []⟩) = .halted o s' := by
  cases n with
  | zero => cases h
  | succ n =>
    refine ⟨n, ?_⟩
    have e1 : step (denote table) prog w s ⟨guarded t d, .builtin "claim.caller" {}, default, []⟩ = .go s ⟨t, .builtin "claim.caller" {}, default, []⟩ := rfl
    have e := (sstep_single (denote table) prog w s ⟨guarded t d, .builtin "claim.caller" {}, default, []⟩ rfl hz).resolve_right (by rw [e1]; intro x; cases x)
    rw [e1] at e
    simp only [schedN, e, Step.lift] at h
    exact h
end Mine
end

section
open PySem PySem.W PySem.Calls PyProof.Rows
set_option Elab.async false
set_option maxRecDepth 100000
namespace Mine
theorem unguard {c : ClaimW} {tree d : List Value → Sem Fin} {w : World} {s : Shared} {free : Addr → Prop} {gens : Prop} {kept : Heap → Prop} (hz : s.asleep)
    (h : c.CallFrom (fun vs => ⟨guarded (tree vs) (d vs), .builtin "claim.caller" {}, default, []⟩) w free gens kept s) :
    c.CallFrom (fun vs => ⟨tree vs, .builtin "claim.caller" {}, default, []⟩) w free gens kept s := by
  intro args h1 h2 ord h3
  obtain ⟨vs, s₁, hl, n, o, s', hs, rest⟩ := h args h1 h2 ord h3
  have hz' : s₁.asleep := Shared.asleep_of_life (layAllW_rest _ _ _ hl).2.2.2 hz
  obtain ⟨m, hm⟩ := sched_guarded hz' hs
  exact ⟨vs, s₁, hl, m, o, s', hm, rest⟩
theorem unguardH {c : ClaimW} {tree d : List Value → Sem Fin} {defs keeps : List Str} {writes : Bool}
    (h : c.HoldsOpenBy (fun vs => ⟨guarded (tree vs) (d vs), .builtin "claim.caller" {}, default, []⟩) defs keeps writes) :
    c.HoldsOpenBy (fun vs => ⟨tree vs, .builtin "claim.caller" {}, default, []⟩) defs keeps writes := by
  refine ⟨h.1, h.2.1, fun w => ⟨(h.2.2 w).1, fun s hs => ?_⟩⟩
  obtain ⟨s₀, hf, hg, s₁, hT, hd, hr, hr2, hc⟩ := (h.2.2 w).2 s hs
  have z : s₀.asleep := Shared.asleep_of_life (fence_lifeW hf) (AfterImport.life hs)
  exact ⟨s₀, hf, hg, s₁, hT, hd, hr, hr2, unguard (Shared.asleep_of_life hT.2.1 z) hc⟩

/-- what a walk below the caller shows -/
abbrev WalkU (q : Program) (loose : List Str) (XP : (Str → Option Value) → Heap → Prop) (YP : World → Heap → Prop) (r : RowW) (d : DefRec) (kwd : List (Str × Expr)) : Prop :=
  ∀ (w : World) (s₀ s₁ : Shared) (mg mb : Str → Option Value), Ground q loose r.records XP w s₀ mg mb s₁.heap → YP w s₁.heap → ∀ (a : Addr) (o : Obj) (pm cd doc dV kV : Value), s₁.heap.get? a = some o →
    o.data = .func { docDef d.name d.params d.body d.scope pm cd doc with defaults := dV, kwdefaults := kV } → s₁.heap.CodeRec cd d.name → Dflts mg s₁.heap d.params kwd dV kV → mg d.name = some (.ref a) → s₁.gens = #[] →
    ∀ (args : List WData) (vals : List Value) (as : List Addr), r.claim.pre args = true → WData.layableAll args = true → ReadsAllW r.records (classAt s₀.heap) s₁.heap vals args as → WellAll w.params s₁.heap vals args → (∀ a ∈ as, (a == sysModules) = false) →
      wpU (model r.prog w) callerA (PySem.call (.ref a) vals) (fun v s' => GoodWG r.claim (classAt s₀.heap) (ExcName.means s₀.heap) args s₁ (.ok (.ret v)) s') (fun e s' => GoodWG r.claim (classAt s₀.heap) (ExcName.means s₀.heap) args s₁ (.error e) s') s₁ ∧
      GoodWG r.claim (classAt s₀.heap) (ExcName.means s₀.heap) args s₁ (.ok (.ret (.bool true))) s₁

theorem PySem.W.holds_open {r : OpenRow} {q : Program} {loose : List Str} {Xt : Shared → Bool} {XP : (Str → Option Value) → Heap → Prop} {α : Type} {Yf : Shared → α} {Ya : World → α} {YP : World → Heap → Prop} {d : DefRec} {kwd : List (Str × Expr)} {N : Nat}
    (left : LeftO r.prog q loose Xt Yf Ya N) (hY : ∀ w s, Yf s = Ya w → YP w s.heap) (hYk : ∀ w h h', YP w h → (∀ b o, h.get? b = some o → h'.get? b = some o) → YP w h')
    (hX : ∀ s, Xt s = true → XP (s.heap.nsMap mainGlobals) s.heap) (hXk : ∀ mg h h', XP mg h → (∀ b o, h.get? b = some o → h'.get? b = some o) → XP mg h')
    (hdef : defOf q r.name = some (d, kwd)) (hp : r.prog.theDef r.name = some (d.params, d.body, d.scope)) (hk : kwWritten? d.params.kwonlyargs d.params.kw_defaults = some kwd) (hRf : ∀ s, Xt s = true → RecFacts r.records s.heap) (hwr : (!r.writes || r.records.isEmpty) = true)
    (k1 : r.wellSaid = true) (ok : (chainsOk q && opensWell r.prog && (frees r.toRowW && r.within.isEmpty)) = true) (hb : r.prog.bare) (hw : r.toRowW.promised)
    (call : WalkU q loose XP YP r.toRowW d kwd) : r.Holds := by
  refine ⟨k1, hw, unguardH (d := fun _ => pure (.done (.ret (.bool true)))) (open_anyG (r := r.toRowW) (run := fun f vs => guarded (PySem.call f vs) (pure (.bool true)))
    left hY hYk hX hXk hRf hwr ok hb hw (fun vs w s mg f Q E hg hf h Γ p hΓ => ?_) (fun w s hg G n hn => ?_) fun w s₀ s₁ mg mb G Y args vs as hpre hlay L low => ?_)⟩
  · have h1 := wp_guarded' (h Γ p hΓ)
    refine wp_guarded ?_
    cases hc : hasC ((Γ.code, p) :: Γ.below) with
    | true =>
      rw [hc] at h1
      simp only [if_true] at h1 ⊢
      have hg' : s.heap.Ns mainNs mg := hg
      rw [Sem.wp_bind', Sem.wp_nsGet _ _ _ _ _ hg', hf]
      dsimp only
      rw [Sem.wp_bind']
      exact h1
    | false =>
      rw [hc] at h1
      simp only [Bool.false_eq_true, if_false] at h1 ⊢
      exact h1
  · obtain rfl : n = r.name := by split at hn <;> simp_all
    exact pinned_of_view hg G hdef hp hk
  · obtain ⟨a, o, pm, cd, doc, dV, kV, h1, h2, h3, h4, h5⟩ := G.fn hdef
    obtain ⟨g1, g2⟩ := call w s₀ s₁ mg mb G Y a o pm cd doc dV kV h2 h3 h4 h5 (defOf_name hdef ▸ h1) L.gens args vs as hpre hlay L.reads L.well (L.low low)
    refine ⟨.ref a, h1, fun Γ p hΓ => wp_guarded ?_⟩
    cases hc : hasC ((Γ.code, p) :: Γ.below) with
    | true => rw [if_pos rfl]; exact g1 Γ p hΓ hc
    | false => rw [if_neg Bool.false_ne_true]; exact g2
end Mine
end

section
open PySem PySem.W PySem.Calls PyProof.Rows
set_option Elab.async false
set_option maxRecDepth 100000
namespace Mine
set_option maxHeartbeats 8000000 in
open_top top for PySem.Challenge.rw_ah5012_01
end Mine
end

section
open PySem PySem.W PySem.Calls PyProof.Rows PySem.Builtin PySem.Builtin.Str
set_option Elab.async false
set_option maxRecDepth 100000
namespace Mine
section
variable {α β : Type} {M : Model} {A : Around} {s : Shared} {E : Value → Shared → Prop}
theorem wpU_of_any {t : Sem α} {Q : α → Shared → Prop} (h : wpAny M A t Q E s) : wpU M A t Q E s := fun Γ p hΓ _ => h Γ p hΓ
theorem wpU_mono {t : Sem α} {Q Q' : α → Shared → Prop} {E' : Value → Shared → Prop} (h : wpU M A t Q E s) (hQ : ∀ a s, Q a s → Q' a s) (hE : ∀ e s, E e s → E' e s) : wpU M A t Q' E' s :=
  fun Γ p hΓ hc => Sem.wp_mono M Γ t (fun a _ s => hQ a s) (fun e _ s => hE e s) p s (h Γ p hΓ hc)
theorem hasC_pos {c : Code} {p p' : Pos} {l : List (Code × Pos)} : hasC ((c, p) :: l) = hasC ((c, p') :: l) := rfl
theorem wpU_bind {m : Sem α} {f : α → Sem β} {Q : β → Shared → Prop} (h : wpU M A m (fun a s' => wpU M A (f a) Q E s') E s) : wpU M A (m >>= f) Q E s := fun Γ p hΓ hc => by
  rw [Sem.wp_bind']
  exact Sem.wp_mono M Γ m (fun a p' s' h' => h' Γ p' hΓ hc) (fun _ _ _ h' => h') p s (h Γ p hΓ hc)
theorem wpU_holding {vs : List Value} {m : Sem α} {Q : α → Shared → Prop} (h : wpU M A m Q E s) : wpU M A (holding vs m) Q E s :=
  fun Γ p hΓ hc => by rw [Sem.wp_holding]; exact h Γ p hΓ hc
theorem wpU_keep {vs : List Value} {m : Sem α} {Q : α → Shared → Prop} (h : wpU M A m Q E s) : wpU M A (m.keep vs) Q E s :=
  fun Γ p hΓ hc => by rw [Sem.wp_keep]; exact h Γ p hΓ hc
theorem wpU_onRaise {m : Sem α} {k : Value → Sem Unit} {Q : α → Shared → Prop} (h : wpU M A m Q (fun e s' => wpU M A (k e) (fun _ s'' => E e s'') E s') s) : wpU M A (m.onRaise k) Q E s := fun Γ p hΓ hc => by
  rw [Sem.wp_onRaise]
  exact Sem.wp_mono M Γ m (fun _ _ _ h' => h') (fun e p' s' h' => h' Γ p' hΓ hc) p s (h Γ p hΓ hc)
theorem wpU_attempt {m : Sem α} {Q : Except Value α → Shared → Prop} (h : wpU M A m (fun a => Q (.ok a)) (fun e => Q (.error e)) s) : wpU M A m.attempt Q E s :=
  fun Γ p hΓ hc => by rw [Sem.wp_attempt]; exact h Γ p hΓ hc
/-- after what ends in a raise comes nothing -/
theorem wpU_then {m : Sem α} {f : α → Sem β} {Q : β → Shared → Prop} (h : wpU M A m (fun _ _ => False) E s) : wpU M A (m >>= f) Q E s := wpU_bind (wpU_mono h (fun _ _ x => x.elim) fun _ _ x => x)
def codeU (M : Model) (A : Around) (c : Code) (R : Result → Shared → Prop) (s : Shared) : Prop := ∀ Γ p, Γ.code = c → Γ.Below A → hasC Γ.below = true → wpCode M Γ R p s
theorem hasC_cons {c : Code} {p : Pos} {l : List (Code × Pos)} (h : hasC l = true) : hasC ((c, p) :: l) = true := by
  unfold hasC at *; rw [List.any_cons, h, Bool.or_true]
theorem codeU_mono {c : Code} {R R' : Result → Shared → Prop} (h : codeU M A c R s) (hR : ∀ r s, R r s → R' r s) : codeU M A c R' s := fun Γ p hc hΓ hC => wpCode_mono hR (h Γ p hc hΓ hC)
theorem wpU_call {f : Value} {pos : List Value} {kw : List (Str × Value)} {Q : Value → Shared → Prop}
    (h : codeU M A (.call f ⟨pos, kw⟩) (fun r s' => match r with | .ok (.ret v) => Q v s' | .ok _ => False | .error e => E e s') s) : wpU M A (call f pos kw) Q E s :=
  fun Γ p hΓ hc => by rw [Sem.wp_cmd_call]; exact h _ p rfl (hΓ.enter _ none p (by intro x; cases x)) hc
theorem codeU_of_tree {c : Code} {R : Result → Shared → Prop}
    (h : wpU M (A.under c) (M.den c) (fun fin s' => match fin with | .done f => R (.ok f) s' | .again c' => c'.quiet = true ∧ codeU M A c' R s') (fun e s' => R (.error e) s') s) : codeU M A c R s := fun Γ p hc hΓ hC => by
  rw [wpCode_iff_wp, hc]
  refine Sem.wp_mono M Γ _ (fun fin p' s' h' => ?_) (fun _ _ _ h' => h') p s (h Γ p (hc ▸ hΓ.in) (hasC_cons hC))
  cases fin with
  | done f => exact h'
  | again c' => exact ⟨h'.1, h'.2 (Γ.goto c') p' rfl (hΓ.goto c') hC⟩
end
section
variable {prog : Program} {w : World} {A : Around} {s : Shared} {R : Result → Shared → Prop}
theorem codeU_call_function {a : Addr} {args : Args} {o : Obj} {fd : FuncData} {body : List Stmt} (hroom : A.depth < recursionLimit) (ho : s.heap.get? a = some o)
    (hd' : o.data = .func fd) (hco : fd.scope.isCoroutine = false) (hgen : fd.scope.isGenerator = false) (hbody : fd.body = .stmts body) (hcd : s.heap.CodeRec fd.code fd.qualname)
    (h : wpAny (model prog w) A.in1 (bindArgs fd args) (fun binds s₁ =>
      wpAny (model prog w) A.in1 (newFunctionEnv fd.scope fd.globals fd.closure binds (fd.qualname ++ ".<locals>.") (some a) fd.code none fd.builtins)
        (fun env s₂ => s₂.heap.NoLimit ∧ codeU (model prog w) A (.func body env) R s₂) (fun e s' => R (.error e) s') s₁) (fun e s' => R (.error e) s') s) :
    codeU (model prog w) A (.call (.ref a) args) R s := by
  refine codeU_of_tree (wpU_of_any ?_)
  show wpAny _ A.in1 (callAny (.ref a) args) _ _ s
  simp only [callAny]
  refine wpAny_bind (wpAny_load ho ?_)
  obtain ⟨c, oc, vs, tq, hc, hoc, hdc, hq⟩ := hcd
  simp only [hd', callFunction, hco, hgen, hbody, hc]
  rw [hc] at h
  refine wpAny_bind (m := field (.ref c) 1) (wpAny_field hoc hdc hq (wpAny_bind (wpAny_pure ?_)))
  refine wpAny_bind (wpAny_mono h (fun binds s₁ h₁ => ?_) fun _ _ h' => h')
  refine wpAny_bind (wpAny_mono h₁ (fun env s₂ h₂ => ?_) fun _ _ h' => h')
  exact wpAny_bind (wpAny_enterFrame h₂.1 hroom (wpAny_pure ⟨rfl, h₂.2⟩))
theorem codeU_func {body : List Stmt} {env : Env}
    (h : wpU (model prog w) (A.deeper env) (execs body env) (fun f s' => R (.ok (.ret (match f with | .ret v => v | _ => .none))) s')
      (fun e s' => wpU (model prog w) (A.deeper env) (leaving env e) (fun _ s'' => R (.error e) s'') (fun e' s'' => R (.error e') s'') s') s) :
    codeU (model prog w) A (.func body env) R s := by
  refine codeU_of_tree ?_
  show wpU _ (A.deeper env) (do point; match ← (execs body env).onRaise (leaving env) with | .ret v => ret v | _ => ret .none) _ _ s
  refine wpU_bind (wpU_of_any (wpAny_point (wpU_bind (wpU_onRaise (wpU_mono h (fun f s' h' => ?_) fun _ _ h' => h')))))
  cases f <;> exact wpU_of_any (wpAny_pure h')
end
end Mine
end

section
open PySem PySem.W PySem.Calls PyProof.Rows PySem.Builtin PySem.Builtin.Str
set_option Elab.async false
set_option maxRecDepth 100000
namespace Mine
section
variable {M : Model} {A : Around} {s : Shared} {E : Value → Shared → Prop} {env : Env}
theorem callWithU_def {pos : Pos} {f : Addr} {o : Obj} {fd : FuncData} {e : Expr} {rest : List Expr} {Q : Value → Shared → Prop} (hdat : o.data = .func fd)
    (h : wpAny M A (spliced (backTo pos (starEach (e :: rest) env))) (fun vs s₁ => s₁.heap.get? f = some o ∧ wpU M A (call (.ref f) vs) (fun _ _ => False) E s₁) E s)
    (he : starEach (e :: rest) env = (false, eval e env) :: starEach rest env) :
    wpU M A (callWith pos (.ref f) [] (backTo pos (starEach (e :: rest) env)) []) Q E s := by
  rw [he] at h ⊢
  unfold callWith
  refine wpU_bind (wpU_holding (wpU_of_any (evalArgs_plain (wpAny_mono h (fun vs s₁ h₁ => ?_) fun _ _ x => x))))
  refine wpU_bind (wpU_of_any (wpAny_standAt ?_))
  have hk : ∀ {Q' : Keeper → Shared → Prop}, Q' .frame s₁ → wpU M A (keeperOf (.ref f)) Q' E s₁ := fun hq => by
    unfold keeperOf
    refine wpU_of_any (wpAny_bind (wpAny_load h₁.1 ?_))
    rw [hdat]; exact wpAny_pure hq
  refine wpU_bind (hk ?_)
  split
  · exact wpU_then (by unfold callMarked; exact wpU_keep h₁.2)
  · split
    · exact wpU_then h₁.2
    · exact wpU_then (by unfold callMarked; exact wpU_keep h₁.2)
  all_goals (rename_i h; first | exact absurd rfl h | simp_all)
theorem callWithU_type {pos : Pos} {T : String} {e : Expr} {rest : List Expr} {Q : Value → Shared → Prop}
    (h : wpAny M A (spliced (backTo pos (starEach (e :: rest) env))) (fun vs s₁ => wpU M A (call (.type T) vs) (fun _ _ => False) E s₁) E s)
    (he : starEach (e :: rest) env = (false, eval e env) :: starEach rest env) (hplain : (backTo pos (starEach rest env)).any (·.1) = false) :
    wpU M A (callWith pos (.type T) [] (backTo pos (starEach (e :: rest) env)) []) Q E s := by
  rw [he] at h ⊢
  unfold callWith
  refine wpU_bind (wpU_holding (wpU_of_any (evalArgs_plain (wpAny_mono h (fun vs s₁ h₁ => ?_) fun _ _ x => x))))
  refine wpU_bind (wpU_of_any (wpAny_standAt ?_))
  have hp : (List.any (backTo pos ((false, eval e env) :: starEach rest env)) fun x => x.1) = false := by
    show (false || (backTo pos (starEach rest env)).any (·.1)) = false
    rw [hplain]; rfl
  simp only [hp, List.any_nil, Bool.or_false]
  refine wpU_bind (wpU_of_any (wpAny_pure ?_))
  exact wpU_then h₁
end
section
variable {S : Sy} {d : Nat} {cs : Scope} {ρ : Rho}
/-- a call that ends in a ValueError -/
structure UR (S : Sy) (d : Nat) (f : V) (as : List V) : Prop where
  run : ∀ A fl s fv vs, Pl S d A fl s → Rep S.base s.heap fv f → RepL S.base s.heap vs as → ∀ (E : Value → Shared → Prop), (∀ e s', Fly S.base fl e s'.heap → Nt s s' → E (.ref e) s') → wpU (model S.prog S.w) A (call fv vs) (fun _ _ => False) E s
structure UX (S : Sy) (d : Nat) (cs : Scope) (sts : List Stmt) (ρ : Rho) : Prop where
  run : ∀ l s, At S d cs l ρ s → ∀ (E : Value → Shared → Prop), (∀ e s', Fly S.base l.fl e s'.heap → Nt s s' → E (.ref e) s') → wpU (model S.prog S.w) l.A (execs sts l.env) (fun _ _ => False) E s
structure U1 (S : Sy) (d : Nat) (cs : Scope) (st : Stmt) (ρ : Rho) : Prop where
  run : ∀ l s, At S d cs l ρ s → ∀ (E : Value → Shared → Prop), (∀ e s', Fly S.base l.fl e s'.heap → Nt s s' → E (.ref e) s') → wpU (model S.prog S.w) l.A (exec st l.env) (fun _ _ => False) E s
structure UE (S : Sy) (d : Nat) (cs : Scope) (e : Expr) (ρ : Rho) : Prop where
  run : ∀ l s, At S d cs l ρ s → ∀ (E : Value → Shared → Prop), (∀ e s', Fly S.base l.fl e s'.heap → Nt s s' → E (.ref e) s') → wpU (model S.prog S.w) l.A (eval e l.env) (fun _ _ => False) E s
theorem UR_of {f : V} {as : List V} (h : CallW S d f as (fun _ => False) True) : UR S d f as :=
  ⟨fun A fl s fv vs pl r rl _ hE => wpU_of_any ((h.run A fl s fv vs pl r rl).at (fun _ => hE) fun _ _ _ _ _ p => p)⟩
theorem UX_of {sts : List Stmt} (h : ExS S d cs sts ρ (fun _ _ => False) True) : UX S d cs sts ρ :=
  ⟨fun l s a _ hE => wpU_of_any (h.at a (fun _ => hE) fun _ _ _ _ _ _ _ p _ => p)⟩
theorem UX_cons {st : Stmt} {rest : List Stmt} (h : Ex1 S d cs st ρ (fun f ρ₁ => f = .next ∧ UX S d cs rest ρ₁) True) : UX S d cs (st :: rest) ρ := by
  refine ⟨fun l s a E hE => ?_⟩
  rw [execs_cons]
  refine wpU_bind (wpU_of_any (h.at a (fun _ => hE) fun v x ρ₁ s₁ a₁ n₁ r₁ p₁ hE₁ => ?_))
  obtain ⟨rfl, p⟩ := p₁
  cases r₁
  exact p.run l s₁ a₁ E (hE₁ trivial)
theorem UX_now {st : Stmt} {rest : List Stmt} (h : U1 S d cs st ρ) : UX S d cs (st :: rest) ρ := by
  refine ⟨fun l s a E hE => ?_⟩
  rw [execs_cons]
  exact wpU_then (h.run l s a E hE)
theorem U1_if {t : Expr} {b₁ b₂ : List Stmt} {pos : Pos} (h : EvT S d cs t ρ (fun b ρ₁ => (b = true → UX S d cs b₁ ρ₁) ∧ (b = false → UX S d cs b₂ ρ₁)) True) : U1 S d cs (.If t b₁ b₂ pos) ρ := by
  refine ⟨fun l s a E hE => ?_⟩
  rw [exec_If]
  refine wpU_bind (wpU_of_any (wpAny_standAt (wpU_bind (wpU_of_any (h.at a (fun _ => hE) fun v x ρ₁ s₁ a₁ n₁ r₁ p₁ hE₁ => ?_)))))
  cases r₁
  cases v with
  | true => exact (p₁.1 rfl).run l s₁ a₁ E (hE₁ trivial)
  | false => exact (p₁.2 rfl).run l s₁ a₁ E (hE₁ trivial)
theorem U1_assign {t : Expr} {e : Expr} {pos : Pos} (h : UE S d cs e ρ) (hs : ∀ env, swapsWithSole [t] e pos.line env = pure false := by intros; rfl) : U1 S d cs (.Assign [t] e pos) ρ := by
  refine ⟨fun l s a E hE => ?_⟩
  rw [exec_Assign, hs]
  refine wpU_bind (wpU_of_any (wpAny_standAt (wpU_bind (wpU_of_any (wpAny_pure ?_)))))
  rw [if_neg (by decide)]
  exact wpU_then (h.run l s a E hE)
theorem U1_ret {e : Expr} {pos : Pos} (h : UE S d cs e ρ) : U1 S d cs (.Return (some e) pos) ρ := by
  refine ⟨fun l s a E hE => ?_⟩
  rw [exec_Return_some]
  exact wpU_bind (wpU_of_any (wpAny_standAt (wpU_then (h.run l s a E hE))))
theorem UE_call {g : Str} {gp : Pos} {e : Expr} {es : List Expr} {pos : Pos}
    (h : EvE S d cs (.Name g gp) ρ (fun F ρ₁ => ∃ fv, F = .raw fv ∧ ((∃ a o fd, fv = .ref a ∧ S.K.lookup a = some o ∧ o.data = .func fd) ∨ (∃ T, fv = .type T)) ∧ EvL S d cs pos (e :: es) ρ₁ (fun as _ => UR S d (.raw fv) as) True) True)
    (he : plainArg e = true := by rfl) (hs : es.all plainArg = true := by rfl) : UE S d cs (.Call (.Name g gp) (e :: es) [] pos) ρ := by
  refine ⟨fun l s a E hE => ?_⟩
  rw [hc_name]
  refine wpU_bind (wpU_of_any (h.at a (fun _ => hE) fun fv F ρ₁ s₁ a₁ n₁ r₁ p₁ hE₁ => ?_))
  obtain ⟨fv', rfl, hcan, hl⟩ := p₁
  cases r₁
  rcases hcan with ⟨fa, o, fd, rfl, ho, hd⟩ | ⟨T, rfl⟩
  · have hx : ∀ {ρ' s'}, At S d cs l ρ' s' → s'.heap.get? fa = some o := fun b => let ⟨_, F, _⟩ := b.F; (b.ok.keeps F.keep).x _ _ ho
    refine callWithU_def hd (hl.at a₁ hE₁ fun vs xs ρ₂ s₂ a₂ n₂ r₂ p₂ hE₂ => ?_) (starEach_plain he)
    exact ⟨hx a₂, p₂.run _ _ _ _ _ a₂.pl (.raw _) r₂ E (hE₂ trivial)⟩
  · exact callWithU_type (hl.at a₁ hE₁ fun vs xs ρ₂ s₂ a₂ n₂ r₂ p₂ hE₂ => p₂.run _ _ _ _ _ a₂.pl (.raw _) r₂ E (hE₂ trivial)) (starEach_plain he) (any_plain hs)
end
end Mine
end

section
open PySem PySem.W PySem.Calls PyProof.Rows PySem.Builtin PySem.Builtin.Str
set_option Elab.async false
set_option maxRecDepth 100000
namespace Mine
theorem new_int_eq (x : Str) (u v : Tok) : Builtin.«int.__new__» ⟨[.type "int", .str x u, .int 10 v], []⟩ = ((int_private% "intFromText") (.str x u) (numTextOf x) 10 >>= fun r => ret r) := by
  unfold Builtin.«int.__new__»
  simp only [F.conv_sub_int, F.madeHere_int, pure_bind]
  rfl
theorem type_int_eq (a b : Value) : ∃ k, Builtin.«type.__call__» ⟨[.type "int", a, b], []⟩ = (holding [.builtin "int.__new__"] (call (.builtin "int.__new__") [.type "int", a, b] []) >>= k) := by
  obtain ⟨c, tl, hmro⟩ := F.called_int.mro
  have hmade := F.called_int.made
  have h1 := F.called_int.notType
  have h2 := F.called_int.canCreate
  unfold Builtin.«type.__call__»
  dsimp only
  rw [if_neg (by rw [h1]; exact Bool.false_ne_true)]
  simp only [typeCall_int_2, hmro, hmade, pure_bind]
  rw [if_neg (by rw [h2]; exact Bool.false_ne_true)]
  exact ⟨_, rfl⟩
/-- a text that is no number -/
def badInt (x : Str) (u : Tok) (base : Nat) : Sem Value := do
  rule "int.__new__.invalid-literal"
  let shown ← pyRepr (.str x u)
  let refusal ← newExc (.type "ValueError") [← mkStr (((s!"invalid literal for int() with base {base}: " : String) ++ ⟨shown.cps.extract 0 200⟩ : Str))]
  markTheRefusal ["int.__new__"] refusal
  raiseNew refusal
/-- what int refuses -/
def Bad (x : Str) : Prop := (∀ u : Tok, (int_private% "intFromText") (.str x u) (numTextOf x) 10 = badInt x u 10) ∧ (reprText x).length ≤ 1000
theorem bad_a : Bad ⟨#[97]⟩ := ⟨fun u => by kernel_rfl, by decide +kernel⟩
theorem bad_b : Bad ⟨#[98]⟩ := ⟨fun u => by kernel_rfl, by decide +kernel⟩
theorem bad_e : Bad ⟨#[]⟩ := ⟨fun u => by kernel_rfl, by decide +kernel⟩
theorem bad_s : Bad ⟨#[91, 49, 59, 50, 93]⟩ := ⟨fun u => by kernel_rfl, by decide +kernel⟩
section
variable {M : Model} {A : Around} {s : Shared} {E : Value → Shared → Prop}
theorem wpU_mark {own : List String} {e : Value} {Q : Unit → Shared → Prop} (h : Q () s) : wpU M A (markTheRefusal own e) Q E s := fun Γ p hΓ hc => by
  have hn : pythonCodeMadeTheCall own (((Γ.code, p) :: Γ.below).map (·.1)) = false := by
    unfold pythonCodeMadeTheCall
    rw [List.any_map, Bool.and_assoc, Bool.and_eq_false_iff]
    refine .inl ?_
    rw [Bool.not_eq_false']
    exact hc
  show Sem.wp M Γ (if pythonCodeMadeTheCall own (((Γ.code, p) :: Γ.below).map (·.1)) = true then _ else pure ()) _ _ p s
  rw [hn]
  exact h
theorem mkStr_len (x : Str) (p : String) (hp : (p : Str).length ≤ 1000) : ((p : Str) ++ (⟨x.cps.extract 0 200⟩ : Str)).length ≤ sizeLine := by
  rw [PySem.Str.length_append, sizeLine_eq]
  have : (⟨x.cps.extract 0 200⟩ : Str).length ≤ 200 := by
    show (x.cps.extract 0 200).size ≤ 200
    rw [Array.size_extract]; omega
  omega
end
section
variable {prog : Program} {w : World} {A : Around} {s : Shared} {E : Value → Shared → Prop}
theorem badInt_raises {x : Str} {u : Tok} (hx : (reprText x).length ≤ 1000) (hh : A.handled = none) (h : ∀ h' tk e args, Heap.MadeExc s.heap h' e "ValueError" args → E (.ref e) { s with heap := h', toks := tk }) :
    wpU (model prog w) A (badInt x u 10) (fun _ _ => False) E s := by
  unfold badInt
  refine wpU_bind (wpU_of_any (wpAny_rule (wpU_bind (wpU_of_any (wpAny_pyRepr_str ?_ (by rw [sizeLine_eq]; omega))))))
  refine wpU_bind (wpU_of_any (wpAny_mkStr ?_ (mkStr_len _ _ (by decide +kernel))))
  refine wpU_bind (wpU_of_any (wpAny_newExc_plain plainExc_ValueError fun h' e hm => ?_))
  refine wpU_bind (wpU_mark ?_)
  exact wpU_of_any (wpAny_raiseNew_none hh (h h' _ e _ hm))
theorem codeU_call_builtin {id : String} {args : Args} {R : Result → Shared → Prop} (hq : (Code.builtin id args).quiet = true) (hc : checkBuiltinCall id args = pure ()) (h : codeU (model prog w) A (.builtin id args) R s) :
    codeU (model prog w) A (.call (.builtin id) args) R s := by
  refine codeU_of_tree ?_
  show wpU _ _ (do checkBuiltinCall id args; again (.builtin id args)) _ _ s
  rw [hc]
  exact wpU_of_any (wpAny_bind (wpAny_pure (wpAny_pure ⟨hq, h⟩)))
theorem codeU_builtin {id : String} {args : Args} {b : Builtin} {R : Result → Shared → Prop} (hb : entryFor table id = some b)
    (h : wpU (model prog w) (A.under (.builtin id args)) (b args) (fun fin s' => match fin with | .done f => R (.ok f) s' | .again c' => c'.quiet = true ∧ codeU (model prog w) A c' R s') (fun e s' => R (.error e) s') s) :
    codeU (model prog w) A (.builtin id args) R s := by
  refine codeU_of_tree ?_
  show wpU _ _ (match entryFor table id with | some b => b args | none => unsupported ((withoutEnding? id "#data").getD id)) _ _ s
  rw [hb]; exact h
theorem int_raises {x : Str} {u v : Tok} (hx : Bad x) (hh : A.handled = none) (h : ∀ h' tk e args, Heap.MadeExc s.heap h' e "ValueError" args → E (.ref e) { s with heap := h', toks := tk }) :
    wpU (model prog w) A (call (.type "int") [.str x u, .int 10 v]) (fun _ _ => False) E s := by
  refine wpU_call (codeU_of_tree ?_)
  show wpU _ _ (callAny (.type "int") _) _ _ s
  refine wpU_of_any (wpAny_pure ⟨Code.quiet_builtin _ (by decide +kernel), codeU_builtin F.entry_type_call ?_⟩)
  obtain ⟨k, hk⟩ := type_int_eq (.str x u) (.int 10 v)
  rw [hk]
  refine wpU_then (wpU_holding (wpU_call (codeU_call_builtin (Code.quiet_builtin _ (by decide +kernel)) (newCall_int_2 _ _) (codeU_builtin F.entry_int_new ?_))))
  rw [new_int_eq, hx.1 u]
  exact wpU_then (badInt_raises hx.2 hh fun h' tk e args hm => h h' tk e args hm)
end
section
variable {S : Sy} {d : Nat} {cs : Scope} {ρ : Rho}
theorem UR_int {x : Str} (hx : Bad x) : UR S d (.raw (.type "int")) [.str x, .int 10] := by
  refine ⟨fun A fl s fv vs pl r rl E hE => ?_⟩
  cases r
  cases rl with | cons r rl => cases r with | str _ t => cases rl with | cons r rl => cases r with | int _ u => cases rl with | nil =>
  refine int_raises hx pl.hd fun h' tk e args hm => ?_
  obtain ⟨t, ht, _⟩ := hm.there
  refine hE e _ (.inl ⟨fun b o q => hm.keeps b o (pl.st b o q), pl.ff.of_keeps fun b o q _ => ⟨o, hm.keeps b o q, rfl⟩, ?_, _, _, ht, rfl, rfl, rfl⟩) ⟨rfl, rfl⟩
  cases hb : S.base.get? e with
  | none => rfl
  | some o => have := pl.st e o hb; rw [hm.new] at this; cases this
theorem leave_flyU {A : Around} {env : Env} {fl : List Env} {L e : Addr} {s : Shared} {Q : Unit → Shared → Prop} {E : Value → Shared → Prop} (hfr : A.frames = some (env :: fl)) (hf : env.frame = some L)
    (f : Fly S.base (env :: fl) e s.heap) (k : ∀ s', Fly S.base fl e s'.heap → Nt s s' → Q () s') : wpU (model S.prog S.w) A (leaving env (.ref e)) Q E s := wpU_of_any (leave_fly hfr hf f k)
theorem UR_def {x : Str} {st : Stmt} {dv : List V} {fd : FuncData} {as : List V} (F : FnIs S x st dv fd) (ps : List Str) (as' : List V)
    (hb : ∀ (s : Shared) vs, S.ok s.heap → RepL S.base s.heap vs as → ∃ bs : List (Str × Value), BindsTo s fd ⟨vs, []⟩ bs ∧ bs.map (·.1) = ps ∧ RepL S.base s.heap (bs.map (·.2)) as')
    (hnd : ps.Nodup) (hloc : (ps.all fun n => (scopeOf st).names.lookup n == some .local) = true) (hcell : ∀ x ∈ (scopeOf st).names, x.2 ≠ .cell)
    (hco : (scopeOf st).isCoroutine = false) (hgen : (scopeOf st).isGenerator = false) (hkd : (scopeOf st).kind = .function)
    (h : UX S d (scopeOf st) (bodyOf st) (ps.zip as')) : UR S (d + 1) (.raw (gl S x)) as := by
  rw [← F.sc] at hloc hcell hco hgen hkd h
  refine ⟨fun A fl s fv vs pl r rl E hE => ?_⟩
  cases r
  obtain ⟨a, oc, od, osl, hg, hl⟩ := F.is
  have e : gl S x = .ref a := by unfold gl; rw [hg]
  rw [e]
  obtain ⟨bs, hbind, hps, hrl⟩ := hb s vs pl.ok rl
  refine wpU_call ?_
  have hlook : ∀ y ∈ bs, fd.scope.names.lookup y.1 = some .local := fun y hy => by
    have := List.all_eq_true.mp hloc y.1 (hps ▸ List.mem_map_of_mem hy)
    simpa using this
  refine codeU_call_function (by have := pl.dp; omega) (pl.ok.x _ _ hl) rfl hco hgen F.bd (codeRec_of pl.ok.x F.code) (hbind _ _ _ _ ?_)
  refine wpAny_newFunctionEnv hcell hlook (fun h₀ hns hsb => ?_) hkd
  have hk : s.heap.StaysIn h₀ := fun b o q => hsb.extBut b o (Nat.ne_of_lt (Heap.lt_size q)) (Heap.get?_push_of_some _ q)
  refine ⟨pl.ok.t.nolimit.fresh _ hsb, codeU_func ?_⟩
  have hbase : S.base.get? s.heap.objs.size = none := by
    cases hq : S.base.get? s.heap.objs.size with
    | none => rfl
    | some o => exact absurd (Heap.lt_size (pl.st _ o hq)) (Nat.lt_irrefl _)
  have henv : callEnv fd s.heap.objs.size a = { scope := fd.scope, locals := s.heap.objs.size, globals := mainGlobals, cells := [], qual := fd.qualname ++ ".<locals>.", func := some a, code := fd.code, frame := some s.heap.objs.size, builtins := builtinsNs } := by
    show newEnv fd.scope _ fd.globals fd.closure _ _ fd.code none fd.builtins = _
    rw [F.glob, F.blt, F.clos]; rfl
  have stp : s.toks ≤ s.toks + bs.length := Nat.le_add_right _ _
  have a₀ : At S d fd.scope ⟨A.deeper (callEnv fd s.heap.objs.size a), callEnv fd s.heap.objs.size a, s.heap.objs.size, s.heap, callEnv fd s.heap.objs.size a :: fl⟩ (ps.zip as') { s with heap := h₀, toks := s.toks + bs.length } := {
    scope := by rw [henv]
    kind := hkd
    locals := by rw [henv]
    globals := by rw [henv]
    builtins := by rw [henv]
    fr := Around.frames_deeper pl.fr
    hd := pl.hd
    dp := by have := pl.dp; show A.depth + 1 + d < _; omega
    un := by have := pl.un; show A.units + 3 + 8 * d + 200 < _; omega
    ok := pl.ok
    st := pl.st
    ff := fun h m Fh => .cons (by rw [henv]; show fd.scope.kind ≠ _; rw [hkd]; decide) (by rw [henv]) Fh.ns hbase (pl.ff.of_keeps fun b o e _ => ⟨o, Fh.keep b o e, rfl⟩)
    F := ⟨_, ⟨hns, hk, Nat.le_refl _⟩, fun y Y hy => by
      obtain ⟨v, hv, hr⟩ := repL_zip_lookup hps hrl y Y hy
      refine .inl ⟨?_, v, ?_, hr.imm (.of_stays hk)⟩
      · have := hlook _ (mem_of_lookup hv)
        rw [henv]; exact this
      · show bs.reverse.lookup y = some v
        rw [lookup_reverse_nodup (hps ▸ hnd)]; exact hv⟩
    cells := by
      rw [henv]
      refine ⟨fun y hy => absurd rfl (hcell _ (mem_of_lookup hy)), fun y c _ e => ?_, fun y c _ _ e => ?_, fun y z c e => ?_⟩ <;> cases e
    tk := Nat.lt_of_lt_of_le pl.tk stp }
  refine wpU_mono (h.run _ _ a₀ (fun e s' => wpU (model S.prog S.w) (A.deeper (callEnv fd s.heap.objs.size a)) (leaving (callEnv fd s.heap.objs.size a) e) (fun _ s'' => E e s'') (fun e' s'' => E e' s'') s') fun e s' f n => ?_) (fun _ _ x => x.elim) fun _ _ x => x
  exact leave_flyU a₀.fr (by rw [henv]) f fun s'' f' n' => hE _ _ f' ⟨n'.gens.trans n.gens, n'.os.trans n.os⟩
end
end Mine
end

section
open PySem PySem.W PySem.Calls PyProof.Rows PySem.Builtin PySem.Builtin.Str
set_option Elab.async false
set_option maxRecDepth 100000
namespace Mine
section
variable {M : Model} {A : Around} {E : Value → Shared → Prop} {s s₀ : Shared} {m cm : Str → Option Value} {env : Env}
/-- a local's store makes a token -/
theorem store_tok {n : Str} {v : Value} {Q : Unit → Shared → Prop} (x : InCallC s₀ env.locals m env.cells cm s) (hk : env.scope.kind = .function) (hl : env.kindOf n = some .local)
    (h : ∀ s', InCallC s₀ env.locals (fun y => if y = n then some v else m y) env.cells cm s' → s'.toks = s.toks + 1 → Q () s') : wpAny M A (storeName env n v) Q E s := by
  obtain ⟨⟨⟨h₁, tk, rfl⟩, ns, keep, fresh⟩, cell, apart, above⟩ := x
  refine wpAny_storeName_local hl ns (fun h' hn hs => h _ ⟨⟨⟨h', _, rfl⟩, hn, fun b o e => ?_, fresh⟩, fun k c hc => ?_, apart, above⟩ rfl) (by rw [hk]; rfl)
  · exact hs.extBut b o (Nat.ne_of_lt (Nat.lt_of_lt_of_le (Heap.lt_size e) fresh)) (keep b o e)
  · exact (cell k c hc).sameBut hs (Nat.ne_of_gt (above k c (mem_of_lookup hc)))
theorem nfe_tok {scope : Scope} {globals : Addr} {n : Str} {v : Value} {r : List (Str × Value)} {qual : Str} {func : Option Addr} {code : Value} {builtins : Addr} {Q : Env → Shared → Prop}
    (hk : scope.kind = .function) (hl : scope.names.lookup n = some .local)
    (hkind : ∀ x ∈ r, scope.names.lookup x.1 = some .local ∨ (scope.names.lookup x.1 = some .cell ∧ ((cellsFrom (s.heap.objs.size + 1) scope.names []).lookup x.1).isSome = true))
    (hQ : ∀ env, env = newEnv scope s.heap.objs.size globals (cellsFrom (s.heap.objs.size + 1) scope.names []) qual func code none builtins →
      ∀ s', InCallC s env.locals (bindL env.kindOf ((n, v) :: r) fun _ => none) env.cells (bindC env.kindOf ((n, v) :: r) fun _ => none) s' → s.toks + 1 ≤ s'.toks → Q env s') :
    wpAny M A (newFunctionEnv scope globals [] ((n, v) :: r) qual func code none builtins) Q E s := by
  simp only [newFunctionEnv, Option.isSome_none, Bool.false_eq_true, if_false]
  refine wpAny_bind (wpAny_alloc ?_)
  refine wpAny_bind (wpAny_layCells _ (fun name kind cells => by cases hkc : kind == NameKind.cell <;> simp [hkc]) _ _ _ _ ?_)
  have ok := cellsFrom_ok scope.names (s.heap.push { cls := .type "frame", data := .dict #[] }) (s.heap.objs.size + 1) [] ⟨fun _ _ hm => (nomatch hm), List.Pairwise.nil⟩ (by rw [Heap.size_push]; exact Nat.le_refl _)
  rw [Heap.size_push] at ok
  rw [show ({ s with heap := s.heap.push { cls := .type "frame", data := .dict #[] } } : Shared).heap.objs.size = s.heap.objs.size + 1 from Heap.size_push ..]
  have x₀ : InCallC s (newEnv scope s.heap.objs.size globals (cellsFrom (s.heap.objs.size + 1) scope.names []) qual func code none builtins).locals (fun _ => none) (newEnv scope s.heap.objs.size globals (cellsFrom (s.heap.objs.size + 1) scope.names []) qual func code none builtins).cells (fun _ => none) { s with heap := pushCells (s.heap.push { cls := .type "frame", data := .dict #[] }) scope.names } :=
    ⟨⟨⟨_, _, rfl⟩, (Heap.Ns.new s.heap (.type "frame")).keeps (pushCells_keeps _ _), fun b o e => pushCells_keeps _ _ b o (Heap.get?_push_of_some _ e), Nat.le_refl _⟩,
      fun n c hc => (ok.empty n c (mem_of_lookup hc)).1, ok.apart, fun n c hm => (ok.empty n c hm).2⟩
  refine wpAny_bind ?_
  rw [List.forIn_cons]
  refine wpAny_bind (wpAny_bind (store_tok x₀ hk hl fun s' x' htk => wpAny_pure ?_))
  refine wpAny_mono (wpAny_toks_of (n := s.toks + 1) (Nat.le_of_eq htk.symm) (wpAny_bindParams (s₀ := s) (env := newEnv scope s.heap.objs.size globals (cellsFrom (s.heap.objs.size + 1) scope.names []) qual func code none builtins)
    _ (fun _ _ _ => rfl) hk r _ _ s' (fun _ s'' => ∀ (_ : s.toks + 1 ≤ s''.toks), wpAny M A _ Q E s'') x' hkind fun s'' x'' => ?_)) (fun _ s'' h => h.2 h.1) fun _ _ h => h.2
  intro hle
  refine wpAny_pure (hQ _ rfl s'' ?_ hle)
  have hl' : (newEnv scope s.heap.objs.size globals (cellsFrom (s.heap.objs.size + 1) scope.names []) qual func code none builtins).kindOf n = some .local := hl
  unfold bindL bindC
  rw [if_pos hl', if_pos hl']
  exact x''
end
end Mine
end

section
open PySem PySem.W PySem.Calls PyProof.Rows PySem.Builtin PySem.Builtin.Str
set_option Elab.async false
set_option maxRecDepth 100000
namespace Mine
section
variable {M : Model} {A : Around} {s : Shared} {E : Value → Shared → Prop} {env : Env}
theorem callWithU_ret {pos : Pos} {f : Addr} {o : Obj} {fd : FuncData} {e : Expr} {rest : List Expr} {Q : Value → Shared → Prop} (hdat : o.data = .func fd)
    (h : wpAny M A (spliced (backTo pos (starEach (e :: rest) env))) (fun vs s₁ => s₁.heap.get? f = some o ∧ wpU M A (call (.ref f) vs) Q E s₁) E s)
    (he : starEach (e :: rest) env = (false, eval e env) :: starEach rest env) :
    wpU M A (callWith pos (.ref f) [] (backTo pos (starEach (e :: rest) env)) []) Q E s := by
  rw [he] at h ⊢
  unfold callWith
  refine wpU_bind (wpU_holding (wpU_of_any (evalArgs_plain (wpAny_mono h (fun vs s₁ h₁ => ?_) fun _ _ x => x))))
  refine wpU_bind (wpU_of_any (wpAny_standAt ?_))
  have hk : ∀ {Q' : Keeper → Shared → Prop}, Q' .frame s₁ → wpU M A (keeperOf (.ref f)) Q' E s₁ := fun hq => by
    unfold keeperOf
    refine wpU_of_any (wpAny_bind (wpAny_load h₁.1 ?_))
    rw [hdat]; exact wpAny_pure hq
  refine wpU_bind (hk ?_)
  have fin : ∀ (r : Value) s₂, Q r s₂ → wpU M A (do holding [r] point; pure r) Q E s₂ := fun r s₂ q => wpU_of_any (wpAny_bind (wpAny_holding (wpAny_point (wpAny_pure q))))
  split
  · exact wpU_bind (wpU_mono (by unfold callMarked; exact wpU_keep h₁.2) fin fun _ _ x => x)
  · split
    · exact wpU_bind (wpU_mono h₁.2 fin fun _ _ x => x)
    · exact wpU_bind (wpU_mono (by unfold callMarked; exact wpU_keep h₁.2) fin fun _ _ x => x)
  all_goals (rename_i h; first | exact absurd rfl h | simp_all)
end
section
variable {S : Sy} {d : Nat} {cs : Scope} {ρ : Rho}
/-- a place, be a token made or not -/
structure Pl0 (S : Sy) (d : Nat) (A : Around) (fl : List Env) (s : Shared) : Prop where
  fr : A.frames = some fl
  hd : A.handled = none
  dp : A.depth + d < recursionLimit
  un : A.units + 8 * d + 200 < cLine
  ok : S.ok s.heap
  st : S.base.StaysIn s.heap
  ff : s.heap.FunFrames S.base fl
theorem Pl.zero {S : Sy} {d : Nat} {A : Around} {fl : List Env} {s : Shared} (p : Pl S d A fl s) : Pl0 S d A fl s := ⟨p.fr, p.hd, p.dp, p.un, p.ok, p.st, p.ff⟩
/-- a call that answers True -/
structure UT (S : Sy) (d : Nat) (f : V) (as : List V) : Prop where
  run : ∀ A fl s fv vs, Pl0 S d A fl s → Rep S.base s.heap fv f → RepL S.base s.heap vs as → ∀ (Q E : Value → Shared → Prop), (∀ s', S.base.StaysIn s'.heap → Nt s s' → Q (.bool true) s') → wpU (model S.prog S.w) A (call fv vs) Q E s
/-- statements that answer True -/
structure UB (S : Sy) (d : Nat) (cs : Scope) (sts : List Stmt) (ρ : Rho) : Prop where
  run : ∀ l s, At S d cs l ρ s → (∃ outer L, l.fl = l.env :: outer ∧ l.env.frame = some L) → ∀ (Q : Flow → Shared → Prop) (E : Value → Shared → Prop), (∀ s', S.base.StaysIn s'.heap → Nt s s' → Q (.ret (.bool true)) s') → wpU (model S.prog S.w) l.A (execs sts l.env) Q E s
structure UV (S : Sy) (d : Nat) (cs : Scope) (e : Expr) (ρ : Rho) : Prop where
  run : ∀ l s, At S d cs l ρ s → ∀ (Q E : Value → Shared → Prop), (∀ s', S.base.StaysIn s'.heap → Nt s s' → Q (.bool true) s') → wpU (model S.prog S.w) l.A (eval e l.env) Q E s
theorem UB_cons {st : Stmt} {rest : List Stmt} (h : Ex1 S d cs st ρ (fun f ρ₁ => f = .next ∧ UB S d cs rest ρ₁) False) : UB S d cs (st :: rest) ρ := by
  refine ⟨fun l s a hfr Q E hQ => ?_⟩
  rw [execs_cons]
  refine wpU_bind (wpU_of_any (h.at a (fun x => x.elim) fun v x ρ₁ s₁ a₁ n₁ r₁ p₁ hE₁ => ?_))
  obtain ⟨rfl, p⟩ := p₁
  cases r₁
  exact p.run l s₁ a₁ hfr Q E fun s' st n => hQ s' st ⟨n.gens.trans n₁.gens, n.os.trans n₁.os⟩
theorem UB_ret {e : Expr} {pos : Pos} {rest : List Stmt} (h : UV S d cs e ρ) : UB S d cs (.Return (some e) pos :: rest) ρ := by
  refine ⟨fun l s a hfr Q E hQ => ?_⟩
  rw [execs_cons, exec_Return_some]
  refine wpU_bind (wpU_bind (wpU_of_any (wpAny_standAt (wpU_bind (h.run l s a _ E fun s' st n => ?_)))))
  exact wpU_of_any (wpAny_pure (wpU_of_any (wpAny_pure (hQ s' st n))))
theorem UV_and {e e' : Expr} {pos : Pos} (h : EvE S d cs e ρ (fun x ρ₁ => x = .bool true ∧ UV S d cs e' ρ₁) False) : UV S d cs (.BoolOp .And [e, e'] pos) ρ := by
  refine ⟨fun l s a Q E hQ => ?_⟩
  rw [show eval (.BoolOp .And [e, e'] pos) l.env = (do
    let v ← eval e l.env
    standAt pos
    let t ← holding [v] (truthy v)
    match BoolOp.And, t with
    | .And, false | .Or, true => pure v
    | _, _ => eval e' l.env) from rfl]
  refine wpU_bind (wpU_of_any (h.at a (fun x => x.elim) fun v x ρ₁ s₁ a₁ n₁ r₁ p₁ hE₁ => ?_))
  obtain ⟨rfl, p⟩ := p₁
  cases r₁
  refine wpU_bind (wpU_of_any (wpAny_standAt (wpU_bind (wpU_holding (wpU_of_any (wpAny_truthy_bool ?_))))))
  exact p.run l s₁ a₁ Q E fun s' st n => hQ s' st ⟨n.gens.trans n₁.gens, n.os.trans n₁.os⟩
theorem UV_call {g : Str} {gp : Pos} {e : Expr} {es : List Expr} {pos : Pos}
    (h : EvE S d cs (.Name g gp) ρ (fun F ρ₁ => ∃ fv, F = .raw fv ∧ (∃ a o fd, fv = .ref a ∧ S.K.lookup a = some o ∧ o.data = .func fd) ∧ EvL S d cs pos (e :: es) ρ₁ (fun as _ => UT S d (.raw fv) as) False) False)
    (he : plainArg e = true := by rfl) : UV S d cs (.Call (.Name g gp) (e :: es) [] pos) ρ := by
  refine ⟨fun l s a Q E hQ => ?_⟩
  rw [hc_name]
  refine wpU_bind (wpU_of_any (h.at a (fun x => x.elim) fun fv F ρ₁ s₁ a₁ n₁ r₁ p₁ hE₁ => ?_))
  obtain ⟨fv', rfl, ⟨fa, o, fd, rfl, ho, hd⟩, hl⟩ := p₁
  cases r₁
  have hx : ∀ {ρ' s'}, At S d cs l ρ' s' → s'.heap.get? fa = some o := fun b => let ⟨_, F, _⟩ := b.F; (b.ok.keeps F.keep).x _ _ ho
  refine callWithU_ret hd (hl.at a₁ (fun x => x.elim) fun vs xs ρ₂ s₂ a₂ n₂ r₂ p₂ hE₂ => ?_) (starEach_plain he)
  exact ⟨hx a₂, p₂.run _ _ _ _ _ a₂.pl.zero (.raw _) r₂ Q E fun s' st n => hQ s' st ⟨(n.gens.trans n₂.gens).trans n₁.gens, (n.os.trans n₂.os).trans n₁.os⟩⟩
theorem U1_expr {e : Expr} {pos : Pos} (h : UE S d cs e ρ) (hs : ∀ env, swapsWith e none pos.line env = pure false := by intros; rfl) : U1 S d cs (.Expr e pos) ρ := by
  refine ⟨fun l s a E hE => ?_⟩
  have hi : interactive l.env = false := by
    unfold interactive
    rw [a.scope, a.kind]; rfl
  rw [exec_Expr l.env e pos hi (hs _)]
  exact wpU_bind (wpU_of_any (wpAny_standAt (wpU_then (h.run l s a E hE))))
/-- try: …; except ValueError: return True -/
theorem UB_try {b rest : List Stmt} {np rp hp tp cp : Pos} {k : Nat} (ok : S.ok S.base) (hv : BuiltIs S "ValueError" (.type "ValueError")) (hkk : cs.names.lookup ("ValueError" : Str) = some .globalImplicit) (h : UX S d cs b ρ) :
    UB S d cs (.Try b [.ExceptHandler (some (.Name "ValueError" np)) none [.Return (some (.Constant (.bool true) k cp)) rp] hp] [] [] tp :: rest) ρ := by
  refine ⟨fun l s a hfr Q E hQ => ?_⟩
  obtain ⟨outer, L, hfl, hL⟩ := hfr
  rw [execs_cons, arm_exec_Try]
  refine wpU_bind (wpU_bind (wpU_of_any (wpAny_standAt ?_)))
  unfold tryStmt
  simp only [List.isEmpty_nil, if_true, List.isEmpty_cons, Bool.false_and, Bool.false_eq_true, if_false]
  refine wpU_bind (wpU_attempt ?_)
  refine wpU_mono (h.run l s a (fun e s₁ => ∃ ea, e = .ref ea ∧ Fly S.base l.fl ea s₁.heap ∧ Nt s s₁) fun e s₁ f n => ⟨e, rfl, f, n⟩) (fun _ _ x => x.elim) fun e s₁ hx => ?_
  obtain ⟨ea, rfl, f, n⟩ := hx
  refine wpU_of_any ?_
  have hkf : l.env.scope.kind = .function := by rw [a.scope]; exact a.kind
  have hlook : ∀ (Q' : Unit → Shared → Prop) (E' : Value → Shared → Prop), (∀ h' a0, Heap.HeldW S.base l.fl ea (.type "ValueError") a0 L h' → Q' () { s₁ with heap := h' }) → wpAny (model S.prog S.w) l.A (noteFrame (.ref ea) l.env) Q' E' s₁ := by
    intro Q' E' k
    have hff := a.fr
    rw [hfl] at f hff k
    rcases f with ⟨st, ff, hn, oe, vs, he, hc, hd, h1⟩ | ⟨st, hn, ff, oe, vs, T, oT, ts, he, hc, hd, h1, hr⟩
    · unfold noteFrame
      simp only [hL]
      refine wpAny_bind (wpAny_field he hd h1 ?_)
      rw [if_neg (by decide)]
      have hsz : 1 < vs.size := (Array.getElem?_eq_some_iff.mp h1).1
      refine wpAny_entryW hff ff hL he st hn hd hsz (a0 := vs[0]) (by rw [Array.getElem?_eq_getElem]) fun h' hN => ?_
      obtain ⟨k1, k2, k3, k4⟩ := hN
      exact k h' _ ⟨k1, hn, k2, hc ▸ k3⟩
    · have hsz : 1 < vs.size := (Array.getElem?_eq_some_iff.mp h1).1
      exact wpAny_looks_onW hff hL ⟨st, hn, ff, oe, vs, T, oT, ts, he, ⟨hc, by rw [Array.getElem?_eq_getElem (show 0 < vs.size by omega)]⟩, hd, h1, hr⟩ fun h' hh _ => k h' _ hh
  refine wpAny_bind (hlook _ _ fun h₂ a0 hh => wpAny_bind (wpAny_landsW hh fun h₃ hf₃ _ => ?_))
  have okk : ∀ {h : Heap}, S.base.StaysIn h → S.ok h := fun st => ok.keeps st
  refine wpAny_handleBy_builtin (T := "ValueError") (X := "ValueError") (b := true) F.isExc_ValueError F.notTuple_ValueError F.self_ValueError ?_
  have o3 := okk hf₃.1
  obtain ⟨hn, hb, h9⟩ := hv
  refine Name_function_global hkf (by unfold Env.kindOf; rw [a.scope]; exact hkk) (loadGlobal_builtin (by rw [a.globals]; exact o3.t.g) (mg_none_of o3.x o3.t.g hn) (by rw [a.builtins]; exact o3.t.b) ((o3.t.builtins _ h9).trans hb) ?_) (by decide)
  refine ⟨rfl, hf₃.there, ?_⟩
  simp only [if_true]
  refine lands_againW hf₃ fun h₄ hf₄ _ => ?_
  refine wpAny_execs_cons (wpAny_Return_some (Constant_bool ?_))
  exact wpU_of_any (wpAny_pure (hQ _ hf₄.1 ⟨n.gens, n.os⟩))
theorem UT_def {x : Str} {st : Stmt} {dv : List V} {fd : FuncData} {as : List V} (F : FnIs S x st dv fd) (ps : List Str) (as' : List V)
    (hb : ∀ (s : Shared) vs, S.ok s.heap → RepL S.base s.heap vs as → ∃ bs : List (Str × Value), BindsTo s fd ⟨vs, []⟩ bs ∧ bs.map (·.1) = ps ∧ RepL S.base s.heap (bs.map (·.2)) as')
    (hnd : ps.Nodup) (hfst : (ps.head?.map fun n => (scopeOf st).names.lookup n == some .local) = some true) (hloc : (ps.all fun n => (scopeOf st).names.lookup n == some .local || (scopeOf st).names.lookup n == some .cell) = true)
    (hco : (scopeOf st).isCoroutine = false) (hgen : (scopeOf st).isGenerator = false) (hkd : (scopeOf st).kind = .function)
    (h : UB S d (scopeOf st) (bodyOf st) (ps.zip as')) : UT S (d + 1) (.raw (gl S x)) as := by
  rw [← F.sc] at hfst hloc hco hgen hkd h
  refine ⟨fun A fl s fv vs pl r rl Q E hQ => ?_⟩
  cases r
  obtain ⟨a, oc, od, osl, hg, hl⟩ := F.is
  have e : gl S x = .ref a := by unfold gl; rw [hg]
  rw [e]
  obtain ⟨bs, hbind, hps, hrl⟩ := hb s vs pl.ok rl
  refine wpU_call ?_
  have hlook : ∀ y ∈ bs, fd.scope.names.lookup y.1 = some .local ∨ fd.scope.names.lookup y.1 = some .cell := fun y hy => by
    have := List.all_eq_true.mp hloc y.1 (hps ▸ List.mem_map_of_mem hy)
    simpa using this
  have hkind : ∀ y ∈ bs, fd.scope.names.lookup y.1 = some .local ∨ (fd.scope.names.lookup y.1 = some .cell ∧ ((cellsFrom (s.heap.objs.size + 1) fd.scope.names []).lookup y.1).isSome = true) := fun y hy =>
    (hlook y hy).imp id fun h => ⟨h, cellsFrom_has _ _ _ h⟩
  refine codeU_call_function (by have := pl.dp; omega) (pl.ok.x _ _ hl) rfl hco hgen F.bd (codeRec_of pl.ok.x F.code) (hbind _ _ _ _ ?_)
  rw [F.clos]
  obtain ⟨b, bs', hbs⟩ : ∃ b bs', bs = b :: bs' := by
    cases bs with
    | nil => rw [← hps] at hfst; cases hfst
    | cons b bs' => exact ⟨b, bs', rfl⟩
  have hfst' : fd.scope.names.lookup b.1 = some .local := by
    rw [← hps, hbs] at hfst
    simpa using hfst
  rw [hbs] at hkind
  rw [hbs]
  refine nfe_tok hkd hfst' (fun y hy => hkind y (.tail _ hy)) fun env he s₁ x₁ tk₁ => ?_
  rw [← hbs] at x₁
  have henv : env = { scope := fd.scope, locals := s.heap.objs.size, globals := mainGlobals, cells := cellsFrom (s.heap.objs.size + 1) fd.scope.names [], qual := fd.qualname ++ ".<locals>.", func := some a, code := fd.code, frame := some s.heap.objs.size, builtins := builtinsNs } := by
    rw [he, F.glob, F.blt]; rfl
  obtain ⟨h₁, tk, rfl⟩ := x₁.toInCall.same
  have keep := x₁.toInCall.keep
  have hns := x₁.toInCall.ns
  have hce := x₁.cell
  have hap := x₁.apart
  have hab := x₁.above
  have hkk : ∀ y, env.kindOf y = fd.scope.names.lookup y := fun y => by rw [henv]; rfl
  have el : env.locals = s.heap.objs.size := by rw [henv]
  have ec : env.cells = cellsFrom (s.heap.objs.size + 1) fd.scope.names [] := by rw [henv]
  rw [el] at hns
  refine ⟨pl.ok.t.nolimit.keeps keep, codeU_func ?_⟩
  have hbase : S.base.get? s.heap.objs.size = none := by
    cases hq : S.base.get? s.heap.objs.size with
    | none => rfl
    | some o => exact absurd (Heap.lt_size (pl.st _ o hq)) (Nat.lt_irrefl _)
  have a₀ : At S d fd.scope ⟨A.deeper env, env, s.heap.objs.size, s.heap, env :: fl⟩ (ps.zip as') { s with heap := h₁, toks := tk } := {
    scope := by rw [henv]
    kind := hkd
    locals := el
    globals := by rw [henv]
    builtins := by rw [henv]
    fr := Around.frames_deeper pl.fr
    hd := pl.hd
    dp := by have := pl.dp; show A.depth + 1 + d < _; omega
    un := by have := pl.un; show A.units + 3 + 8 * d + 200 < _; omega
    ok := pl.ok
    st := pl.st
    ff := fun h m Fh => .cons (by rw [henv]; show fd.scope.kind ≠ _; rw [hkd]; decide) (by rw [henv]) Fh.ns hbase (pl.ff.of_keeps fun b o e _ => ⟨o, Fh.keep b o e, rfl⟩)
    F := ⟨_, ⟨hns, keep, Nat.le_refl _⟩, fun y Y hy => by
      obtain ⟨v, hv, hr⟩ := repL_zip_lookup hps hrl y Y hy
      rcases hlook _ (mem_of_lookup hv) with hk | hk
      · exact .inl ⟨(hkk y).trans hk, v, bindL_is ((hkk y).trans hk) (hps ▸ hnd) hv, hr.imm (.of_stays keep)⟩
      · obtain ⟨c, hc⟩ := Option.isSome_iff_exists.mp (cellsFrom_has fd.scope.names (s.heap.objs.size + 1) [] hk)
        rw [← ec] at hc
        have := hce y c hc
        rw [bindC_is ((hkk y).trans hk) (hps ▸ hnd) hv] at this
        exact .inr (.inl ⟨(hkk y).trans hk, c, v, hc, this, hr.imm (.of_stays keep)⟩)⟩
    cells := by
      refine ⟨fun y hy => ?_, fun y c _ e => ⟨_, hce y c e⟩, fun y c _ _ e => ?_, fun y z c e e' => ?_⟩
      · obtain ⟨c, hc⟩ := Option.isSome_iff_exists.mp (cellsFrom_has fd.scope.names (s.heap.objs.size + 1) [] ((hkk y).symm.trans hy))
        exact ⟨c, by show env.cells.lookup y = _; rw [ec]; exact hc⟩
      · have h1 : env.locals < c := hab y c (PySem.mem_of_lookup e)
        rw [el] at h1
        show s.heap.get? c = none
        cases hq : s.heap.get? c with
        | none => rfl
        | some o => exact absurd (Heap.lt_size hq) (Nat.not_lt.mpr (Nat.le_of_lt h1))
      · exact name_of_addr hap (PySem.mem_of_lookup e) (PySem.mem_of_lookup e')
    tk := Nat.lt_of_lt_of_le (Nat.succ_pos _) tk₁ }
  refine h.run _ _ a₀ ⟨fl, _, rfl, by rw [henv]⟩ _ _ fun s' st n => ?_
  exact hQ s' st ⟨n.gens, n.os⟩
end
end Mine
end

section
open PySem PySem.W PySem.Calls PyProof.Rows
set_option Elab.async false
set_option maxRecDepth 100000
namespace Mine

-- expressions
local macro_rules | `(tactic| kaf_pre) => `(tactic| first | refine EvE_name (by rfl) ?_ | refine EvE_glob (by assumption) ?_ | refine EvE_built (by assumption) ?_ | refine EvE_int ?_ | refine EvE_binop ?_ | refine EvE_cmp ?_ | refine EvE_unop ?_ | refine EvE_str ?_ | refine EvE_bool ?_ | refine EvE_call ?_ | refine EvE_meth0 ?_ | refine EvE_meth ?_ | refine EvE_sub ?_ | refine EvE_tuple ?_ | refine EvE_ifexp ?_ | refine EvE_one ?_ | refine EvE_and ?_ | refine EvE_or ?_ | refine EvE_list ?_ | refine EvE_walrus ?_)
-- operators
local macro_rules | `(tactic| kaf_suf) => `(tactic| first | refine bi_add ?_ | refine bi_sub ?_ | refine bi_and ?_ | refine bi_xor ?_ | refine bi_shr (by omega) ?_)
local macro_rules | `(tactic| tb_start) => `(tactic| first | refine cmp_eq ?_ | refine cmp_lt ?_ | refine cmp_gt ?_ | refine cmp_le ?_ | refine cmp_ge ?_ | refine cmp_ne ?_ | refine cmp_eqS ?_ | refine cmp_eq4 ?_)
local macro_rules | `(tactic| kct_strs) => `(tactic| first | refine ib_add ?_ | refine ib_sub ?_ | refine ib_xor ?_ | refine ib_shr (by omega) ?_)
local macro_rules | `(tactic| ktu_off1L) => `(tactic| first | refine un_neg ?_ | refine un_not ?_)
-- tests
local macro_rules | `(tactic| kba_ints) => `(tactic| first | refine EvT_not ?_ | refine EvT_cmp ?_ | refine EvT_and ?_ | refine EvT_and_nil ?_ | refine EvT_or ?_ | refine EvT_or_nil ?_ | refine EvT_name ?_ | refine EvT_call ?_ | refine EvT_sub ?_ | refine EvT_bin ?_)
-- statements
local macro_rules | `(tactic| kcf_m) => `(tactic| first | refine Ex1_if ?_ | refine Ex1_ret ?_ | refine Ex1_assign ?_ | refine Ex1_aug (by rfl) ?_ | refine Ex1_unpack4 ?_ | refine Ex1_unpack2 ?_ | refine Ex1_unpack3 ?_ | refine Ex1_swap ?_ | refine Ex1_assert ?_)
-- calls
local macro_rules | `(tactic| tb_rel) => `(tactic| first | refine call_bits ?_)
-- items
local macro_rules | `(tactic| ktu_offI) => `(tactic| first | refine sub_tup (by decide) (by decide) rfl rfl ?_ | refine sub_list (by decide) (by decide) rfl ?_)
-- a test's two ways: what cannot be goes at once
local macro_rules | `(tactic| krn_off) => `(tactic| ((refine ⟨fun h => ?_, fun h => ?_⟩) <;> first
    | (exact absurd h (by decide))
    | ((simp only [decide_eq_true_eq, decide_eq_false_iff_not, beq_iff_eq, bne_iff_ne, beq_eq_false_iff_ne, bne_eq_false_iff_eq, Bool.not_eq_true', Bool.not_eq_false', Bool.not_true, Bool.not_false, ne_eq, Decidable.not_not, gt_iff_lt, ge_iff_le, Int.not_lt, Int.not_le] at h) <;> (try (exfalso; omega)))
    | skip))
local macro_rules | `(tactic| kbo_bools) => `(tactic| first
    | ((with_reducible show EvE _ _ _ _ _ _ _); kaf_pre)
    | ((with_reducible show BinW _ _ _ _ _ _ _); kaf_suf) | ((with_reducible show CmpW _ _ _ _ _ _ _); tb_start) | ((with_reducible show InpW _ _ _ _ _ _ _); kct_strs)
    | ((with_reducible show Ex1 _ _ _ _ _ _ _); kcf_m)
    | ((with_reducible show ExS _ _ _ _ _ _ _); (first | refine ExS_cons ?_ | refine ExS_nil ?_))
    | ((with_reducible show EvT _ _ _ _ _ _ _); kba_ints)
    | ((with_reducible show EvL _ _ _ _ _ _ _ _); (first | refine EvL_cons ?_ | refine EvL_nil ?_))
    | ((with_reducible show UnW _ _ _ _ _ _); ktu_off1L)
    | ((with_reducible show CallW _ _ _ _ _ _); tb_rel)
    | ((with_reducible show SubW _ _ _ _ _ _ _ _); ktu_offI)
    | ((with_reducible show (_ = true → _) ∧ (_ = false → _)); krn_off)
    | ((with_reducible show (_ = false → _) ∧ (_ = true → _)); krn_off)
    | ((with_reducible show _ = true ∧ _); refine ⟨?_, ?_⟩)
    | ((with_reducible show ∃ b, TruthIs _ b ∧ _); refine ⟨_, rfl, ?_⟩)
    | ((with_reducible show List.length _ ≤ 1000 ∧ _); refine ⟨by simp only [List.length_cons, List.length_nil]; decide, ?_⟩)
    | ((with_reducible show ∃ fv, V.raw _ = V.raw fv ∧ _); refine ⟨_, rfl, by assumption, ?_⟩)
    | ((with_reducible show ∃ id, MethIs _ _ _ id ∧ _); refine ⟨_, meth_bits, ?_⟩)
    | ((with_reducible show ∃ a, _); (first | refine ⟨_, _, _, _, rfl, ?_⟩ | refine ⟨_, _, rfl, ?_⟩ | refine ⟨_, _, _, rfl, ?_⟩)))

section
variable {S : Sy} {d : Nat} {X : Prop}
local macro_rules | `(tactic| kaf_pre) => `(tactic| first | refine EvE_name (by rfl) ?_ | refine EvE_glob (by with_reducible assumption) ?_ | refine EvE_built (by with_reducible assumption) ?_ | refine EvE_int ?_ | refine EvE_binop ?_ | refine EvE_cmp ?_ | refine EvE_unop ?_ | refine EvE_str ?_ | refine EvE_bool ?_ | refine EvE_call ?_ | refine EvE_methW0 ?_ | ((with_reducible show EvE _ _ _ (Expr.Call (Expr.Attribute _ (Str.ofString "replace") _) [Expr.Constant (Const.str _) _ _, Expr.Constant (Const.str _) _ _] [] _) _ _ _); refine EvE_replace' ?_) | refine EvE_methW ?_ | refine EvE_sub ?_ | refine EvE_tuple ?_ | refine EvE_ifexp ?_ | refine EvE_one ?_ | refine EvE_and ?_ | refine EvE_or ?_ | refine EvE_list ?_ | refine EvE_walrus ?_)
local macro_rules | `(tactic| kcf_m) => `(tactic| first | refine Ex1_if ?_ | refine Ex1_ret ?_ | refine Ex1_assign ?_ | refine Ex1_aug (by rfl) ?_ | ((with_reducible show Ex1 _ _ _ (Stmt.Assign [Expr.Tuple [Expr.Name _ _, Expr.Name _ _] _ _] (Expr.Tuple _ _ _) _) _ _ _); refine Ex1_swap2 ?_) | refine Ex1_unpackA2 ?_ | refine Ex1_assert ?_)
local macro_rules | `(tactic| tb_start) => `(tactic| first | refine cmp_eq ?_ | refine cmp_lt ?_ | refine cmp_gt ?_ | refine cmp_le ?_ | refine cmp_ge ?_ | refine cmp_ne ?_ | refine cmp_eqSb (by with_reducible assumption) ?_ | refine cmp_neSb (by with_reducible assumption) ?_ | refine cmp_eqS ?_ | refine cmp_neS ?_ | refine cmp_in (by with_reducible assumption) ?_ | refine cmp_notin (by with_reducible assumption) ?_)
local macro_rules | `(tactic| kaf_suf) => `(tactic| first | refine bi_add ?_ | refine bi_sub ?_ | refine bi_addSb (by omega) (by omega) (by with_reducible assumption) ?_)
local macro_rules | `(tactic| tb_rel) => `(tactic| first | refine call_bits ?_ | refine call_lower (by omega) (by with_reducible assumption) ?_ | refine call_strip (by omega) (by with_reducible assumption) ?_ | refine call_rstripC (by omega) (by with_reducible assumption) ?_ | refine call_splitA (by omega) rfl (by with_reducible assumption) ?_ | refine call_splitB (by omega) rfl (by with_reducible assumption) ?_ | refine call_lenL1 ?_ | refine call_lenL2 ?_ | refine call_lenS (by omega) ?_ | refine call_intS10 (by with_reducible assumption) (by omega) ?_ | refine call_intS (by with_reducible assumption) (by omega) ?_ | refine call_abs ?_ | refine call_pow (by decide) (by decide) ?_)
local macro_rules | `(tactic| kbo_bools) => `(tactic| first
    | ((with_reducible show EvE _ _ _ _ _ _ _); kaf_pre)
    | ((with_reducible show BinW _ _ _ _ _ _ _); kaf_suf) | ((with_reducible show CmpW _ _ _ _ _ _ _); tb_start) | ((with_reducible show InpW _ _ _ _ _ _ _); kct_strs)
    | ((with_reducible show Ex1 _ _ _ _ _ _ _); kcf_m)
    | ((with_reducible show ExS _ _ _ _ _ _ _); (first | refine ExS_cons ?_ | refine ExS_nil ?_))
    | ((with_reducible show EvT _ _ _ _ _ _ _); kba_ints)
    | ((with_reducible show EvL _ _ _ _ _ _ _ _); (first | refine EvL_cons ?_ | refine EvL_nil ?_))
    | ((with_reducible show UnW _ _ _ _ _ _); ktu_off1L)
    | ((with_reducible show CallW _ _ _ _ _ _); tb_rel)
    | ((with_reducible show SubW _ _ _ _ _ _ _ _); ktu_offI)
    | ((with_reducible show (_ = true → _) ∧ (_ = false → _)); krn_off)
    | ((with_reducible show (_ = false → _) ∧ (_ = true → _)); krn_off)
    | ((with_reducible show _ = true ∧ _); refine ⟨?_, ?_⟩)
    | ((with_reducible show ∃ b, TruthIs _ b ∧ _); refine ⟨_, rfl, ?_⟩)
    | ((with_reducible show List.length _ ≤ 1000 ∧ _); refine ⟨by simp only [List.length_cons, List.length_nil]; decide, ?_⟩)
    | ((with_reducible show ∃ fv, V.raw _ = V.raw fv ∧ _); refine ⟨_, rfl, by with_reducible assumption, ?_⟩)
    | ((with_reducible show ∃ id, MethW _ _ _ id ∧ _); (first | with_reducible apply mx_bits | with_reducible apply mx_lower | with_reducible apply mx_strip | with_reducible apply mx_rstrip | with_reducible apply mx_split | with_reducible apply mx_startswith))
    | ((with_reducible show ∃ a, _); (first | refine ⟨_, _, .inl rfl, ?_⟩ | refine ⟨_, _, .inr rfl, ?_⟩ | refine ⟨_, _, rfl, by omega, by with_reducible assumption, ?_⟩ | refine ⟨_, _, rfl, ?_⟩ | refine ⟨_, rfl, rfl, ?_⟩)))

local macro_rules | `(tactic| tb_rel) => `(tactic| first | refine call_exc ?_ | refine call_splitB (by omega) rfl (by with_reducible assumption) ?_ | refine call_splitA (by omega) rfl (by with_reducible assumption) ?_ | refine call_rstripC (by omega) (by with_reducible assumption) ?_)
local macro_rules | `(tactic| kaf_suf) => `(tactic| first | (refine bi_modS (by omega) ?_; intro zz) | refine bi_add ?_ | refine bi_addSb (by omega) (by omega) (by with_reducible assumption) ?_)
local macro_rules | `(tactic| tb_start) => `(tactic| first | refine cmp_in (by with_reducible assumption) ?_ | refine cmp_notin (by with_reducible assumption) ?_ | refine cmp_eqSb (by with_reducible assumption) ?_ | refine cmp_neSb (by with_reducible assumption) ?_)
local macro_rules | `(tactic| ktu_offI) => `(tactic| first | refine sub_list (by decide) (by decide) rfl ?_ | refine sub_strb (by omega) (by omega) (by omega) (by with_reducible assumption) ?_)
local macro_rules | `(tactic| kcf_m) => `(tactic| first | refine Ex1_if ?_ | refine Ex1_ret ?_ | refine Ex1_assign ?_ | refine Ex1_raise ?_ | refine Ex1_unpack_many ?_)
local macro_rules | `(tactic| tb_rel) => `(tactic| first | refine call_exc ?_ | refine call_splitC (by omega) rfl (by with_reducible assumption) ?_)
local macro_rules | `(tactic| kbo_bools) => `(tactic| ((with_reducible show ∃ xs, V.list _ = V.list xs ∧ 2 < List.length xs ∧ True); exact ⟨_, rfl, (Nat.lt_succ_self 2 : 2 < 3), trivial⟩))
local macro_rules | `(tactic| kbo_bools) => `(tactic| ((with_reducible show V.exc = V.exc ∧ True); exact ⟨rfl, trivial⟩))
set_option maxHeartbeats 4000000 in
theorem rb1 (F : Facts S) {s0 s c0 : Str} {p : Int} (l0 : s0.length ≤ 900) (l1 : s.length ≤ 900) (n1 : 1 ≤ s.length) (e1 : Txt.replace s0 " " "" = s) (c1 : Txt.contains s "+-" = false) (c2 : Txt.contains s "(" = true) (c6 : Txt.item s 0 = c0) (c7 : (c0 == ("(" : Str)) = true) :
    UR S (d + 10) (.raw (gl S "mpi_from_str")) [.str s0, .int p] := by
  have f1 := F.g_round_floor
  have f5 := F.b_ValueError
  have k1 : CanCall S (.type "ValueError") := .inr (.inr ⟨_, rfl⟩)
  refine UR_of (CallW_def (d := d + 9) F.f42 _ _ (binds_42_2 F.f42 _ _) (by decide) (by decide) (by decide) rfl rfl rfl ?_)
  repeat' kbo_bools
  all_goals exact trivial
set_option maxHeartbeats 4000000 in
theorem rb2 (F : Facts S) {s0 s c0 : Str} {p : Int} (l0 : s0.length ≤ 900) (l1 : s.length ≤ 900) (n1 : 1 ≤ s.length) (e1 : Txt.replace s0 " " "" = s) (c1 : Txt.contains s "+-" = false) (c2 : Txt.contains s "(" = true) (c6 : Txt.item s 0 = c0) (c7 : (c0 == ("(" : Str)) = false) (c8 : Txt.contains s ")" = false) :
    UR S (d + 10) (.raw (gl S "mpi_from_str")) [.str s0, .int p] := by
  have f1 := F.g_round_floor
  have f5 := F.b_ValueError
  have k1 : CanCall S (.type "ValueError") := .inr (.inr ⟨_, rfl⟩)
  refine UR_of (CallW_def (d := d + 9) F.f42 _ _ (binds_42_2 F.f42 _ _) (by decide) (by decide) (by decide) rfl rfl rfl ?_)
  repeat' kbo_bools
  all_goals exact trivial
set_option maxHeartbeats 4000000 in
theorem rb3 (F : Facts S) {s0 s c0 s2 c9 : Str} {p : Int} (l0 : s0.length ≤ 900) (l1 : s.length ≤ 900) (n1 : 1 ≤ s.length) (e1 : Txt.replace s0 " " "" = s) (l2 : s2.length ≤ 900) (n2 : 1 ≤ s2.length) (c1 : Txt.contains s "+-" = false) (c2 : Txt.contains s "(" = true) (c6 : Txt.item s 0 = c0) (c7 : (c0 == ("(" : Str)) = false) (c8 : Txt.contains s ")" = true) (e2 : Txt.replace s ")" "" = s2) (c3 : Txt.contains s2 "%" = true) (c4 : Txt.item s2 (-1) = c9) (c5 : (c9 != ("%" : Str)) = true) :
    UR S (d + 10) (.raw (gl S "mpi_from_str")) [.str s0, .int p] := by
  have f1 := F.g_round_floor
  have f5 := F.b_ValueError
  have k1 : CanCall S (.type "ValueError") := .inr (.inr ⟨_, rfl⟩)
  refine UR_of (CallW_def (d := d + 9) F.f42 _ _ (binds_42_2 F.f42 _ _) (by decide) (by decide) (by decide) rfl rfl rfl ?_)
  repeat' kbo_bools
  all_goals exact trivial
set_option maxHeartbeats 4000000 in
theorem rb4 (F : Facts S) {s0 s  : Str} {p : Int} (l0 : s0.length ≤ 900) (l1 : s.length ≤ 900) (n1 : 1 ≤ s.length) (e1 : Txt.replace s0 " " "" = s) (c1 : Txt.contains s "+-" = false) (c2 : Txt.contains s "(" = false) (c3 : Txt.contains s "," = true) (c4 : Txt.contains s "[" = false) :
    UR S (d + 10) (.raw (gl S "mpi_from_str")) [.str s0, .int p] := by
  have f1 := F.g_round_floor
  have f5 := F.b_ValueError
  have k1 : CanCall S (.type "ValueError") := .inr (.inr ⟨_, rfl⟩)
  refine UR_of (CallW_def (d := d + 9) F.f42 _ _ (binds_42_2 F.f42 _ _) (by decide) (by decide) (by decide) rfl rfl rfl ?_)
  repeat' kbo_bools
  all_goals exact trivial
set_option maxHeartbeats 4000000 in
theorem rb5 (F : Facts S) {s0 s  : Str} {p : Int} (l0 : s0.length ≤ 900) (l1 : s.length ≤ 900) (n1 : 1 ≤ s.length) (e1 : Txt.replace s0 " " "" = s) (c1 : Txt.contains s "+-" = false) (c2 : Txt.contains s "(" = false) (c3 : Txt.contains s "," = true) (c4 : Txt.contains s "[" = true) (c5 : Txt.contains s "]" = false) :
    UR S (d + 10) (.raw (gl S "mpi_from_str")) [.str s0, .int p] := by
  have f1 := F.g_round_floor
  have f5 := F.b_ValueError
  have k1 : CanCall S (.type "ValueError") := .inr (.inr ⟨_, rfl⟩)
  refine UR_of (CallW_def (d := d + 9) F.f42 _ _ (binds_42_2 F.f42 _ _) (by decide) (by decide) (by decide) rfl rfl rfl ?_)
  repeat' kbo_bools
  all_goals exact trivial
set_option maxHeartbeats 4000000 in
theorem rb6 (F : Facts S) {s0 s a b z : Str} {p : Int} (l0 : s0.length ≤ 900) (l1 : s.length ≤ 900) (n1 : 1 ≤ s.length) (e1 : Txt.replace s0 " " "" = s) (c1 : Txt.contains s "+-" = true) (c2 : Txt.split s "+-" = [a, b, z]) :
    UR S (d + 10) (.raw (gl S "mpi_from_str")) [.str s0, .int p] := by
  have f1 := F.g_round_floor
  have f5 := F.b_ValueError
  have k1 : CanCall S (.type "ValueError") := .inr (.inr ⟨_, rfl⟩)
  refine UR_of (CallW_def (d := d + 9) F.f42 _ _ (binds_42_2 F.f42 _ _) (by decide) (by decide) (by decide) rfl rfl rfl ?_)
  repeat' kbo_bools
  all_goals exact trivial
set_option maxHeartbeats 4000000 in
theorem rb7 (F : Facts S) {s0 s c0 s2 s3 a b z : Str} {p : Int} (l0 : s0.length ≤ 900) (l1 : s.length ≤ 900) (n1 : 1 ≤ s.length) (e1 : Txt.replace s0 " " "" = s) (l2 : s2.length ≤ 900) (l3 : s3.length ≤ 900) (c1 : Txt.contains s "+-" = false) (c2 : Txt.contains s "(" = false) (c3 : Txt.contains s "," = true) (c4 : Txt.contains s "[" = true) (c5 : Txt.contains s "]" = true) (c6 : Txt.item s 0 = c0) (c7 : (c0 == ("[" : Str)) = true) (e2 : Txt.replace s "[" "" = s2) (e3 : Txt.replace s2 "]" "" = s3) (e4 : Txt.split s3 "," = [a, b, z]) :
    UR S (d + 10) (.raw (gl S "mpi_from_str")) [.str s0, .int p] := by
  have f1 := F.g_round_floor
  have f5 := F.b_ValueError
  have k1 : CanCall S (.type "ValueError") := .inr (.inr ⟨_, rfl⟩)
  refine UR_of (CallW_def (d := d + 9) F.f42 _ _ (binds_42_2 F.f42 _ _) (by decide) (by decide) (by decide) rfl rfl rfl ?_)
  repeat' kbo_bools
  all_goals exact trivial
set_option maxHeartbeats 4000000 in
theorem rb8 (F : Facts S) {s0 s c0 s2 a b z : Str} {p : Int} (l0 : s0.length ≤ 900) (l1 : s.length ≤ 900) (n1 : 1 ≤ s.length) (e1 : Txt.replace s0 " " "" = s) (l2 : s2.length ≤ 900) (c1 : Txt.contains s "+-" = false) (c2 : Txt.contains s "(" = true) (c6 : Txt.item s 0 = c0) (c7 : (c0 == ("(" : Str)) = false) (c8 : Txt.contains s ")" = true) (e2 : Txt.replace s ")" "" = s2) (c3 : Txt.contains s2 "%" = false) (e4 : Txt.split s2 "(" = [a, b, z]) :
    UR S (d + 10) (.raw (gl S "mpi_from_str")) [.str s0, .int p] := by
  have f1 := F.g_round_floor
  have f5 := F.b_ValueError
  have k1 : CanCall S (.type "ValueError") := .inr (.inr ⟨_, rfl⟩)
  refine UR_of (CallW_def (d := d + 9) F.f42 _ _ (binds_42_2 F.f42 _ _) (by decide) (by decide) (by decide) rfl rfl rfl ?_)
  repeat' kbo_bools
  all_goals exact trivial
end

end Mine
end

section
open PySem PySem.W PySem.Calls PyProof.Rows
set_option Elab.async false
set_option maxRecDepth 100000
namespace Mine

-- expressions
local macro_rules | `(tactic| kaf_pre) => `(tactic| first | refine EvE_name (by rfl) ?_ | refine EvE_glob (by assumption) ?_ | refine EvE_built (by assumption) ?_ | refine EvE_int ?_ | refine EvE_binop ?_ | refine EvE_cmp ?_ | refine EvE_unop ?_ | refine EvE_str ?_ | refine EvE_bool ?_ | refine EvE_call ?_ | refine EvE_meth0 ?_ | refine EvE_meth ?_ | refine EvE_sub ?_ | refine EvE_tuple ?_ | refine EvE_ifexp ?_ | refine EvE_one ?_ | refine EvE_and ?_ | refine EvE_or ?_ | refine EvE_list ?_ | refine EvE_walrus ?_)
-- operators
local macro_rules | `(tactic| kaf_suf) => `(tactic| first | refine bi_add ?_ | refine bi_sub ?_ | refine bi_and ?_ | refine bi_xor ?_ | refine bi_shr (by omega) ?_)
local macro_rules | `(tactic| tb_start) => `(tactic| first | refine cmp_eq ?_ | refine cmp_lt ?_ | refine cmp_gt ?_ | refine cmp_le ?_ | refine cmp_ge ?_ | refine cmp_ne ?_ | refine cmp_eqS ?_ | refine cmp_eq4 ?_)
local macro_rules | `(tactic| kct_strs) => `(tactic| first | refine ib_add ?_ | refine ib_sub ?_ | refine ib_xor ?_ | refine ib_shr (by omega) ?_)
local macro_rules | `(tactic| ktu_off1L) => `(tactic| first | refine un_neg ?_ | refine un_not ?_)
-- tests
local macro_rules | `(tactic| kba_ints) => `(tactic| first | refine EvT_not ?_ | refine EvT_cmp ?_ | refine EvT_and ?_ | refine EvT_and_nil ?_ | refine EvT_or ?_ | refine EvT_or_nil ?_ | refine EvT_name ?_ | refine EvT_call ?_ | refine EvT_sub ?_ | refine EvT_bin ?_)
-- statements
local macro_rules | `(tactic| kcf_m) => `(tactic| first | refine Ex1_if ?_ | refine Ex1_ret ?_ | refine Ex1_assign ?_ | refine Ex1_aug (by rfl) ?_ | refine Ex1_unpack4 ?_ | refine Ex1_unpack2 ?_ | refine Ex1_unpack3 ?_ | refine Ex1_swap ?_ | refine Ex1_assert ?_)
-- calls
local macro_rules | `(tactic| tb_rel) => `(tactic| first | refine call_bits ?_)
-- items
local macro_rules | `(tactic| ktu_offI) => `(tactic| first | refine sub_tup (by decide) (by decide) rfl rfl ?_ | refine sub_list (by decide) (by decide) rfl ?_)
-- a test's two ways: what cannot be goes at once
local macro_rules | `(tactic| krn_off) => `(tactic| ((refine ⟨fun h => ?_, fun h => ?_⟩) <;> first
    | (exact absurd h (by decide))
    | ((simp only [decide_eq_true_eq, decide_eq_false_iff_not, beq_iff_eq, bne_iff_ne, beq_eq_false_iff_ne, bne_eq_false_iff_eq, Bool.not_eq_true', Bool.not_eq_false', Bool.not_true, Bool.not_false, ne_eq, Decidable.not_not, gt_iff_lt, ge_iff_le, Int.not_lt, Int.not_le] at h) <;> (try (exfalso; omega)))
    | skip))
local macro_rules | `(tactic| kbo_bools) => `(tactic| first
    | ((with_reducible show EvE _ _ _ _ _ _ _); kaf_pre)
    | ((with_reducible show BinW _ _ _ _ _ _ _); kaf_suf) | ((with_reducible show CmpW _ _ _ _ _ _ _); tb_start) | ((with_reducible show InpW _ _ _ _ _ _ _); kct_strs)
    | ((with_reducible show Ex1 _ _ _ _ _ _ _); kcf_m)
    | ((with_reducible show ExS _ _ _ _ _ _ _); (first | refine ExS_cons ?_ | refine ExS_nil ?_))
    | ((with_reducible show EvT _ _ _ _ _ _ _); kba_ints)
    | ((with_reducible show EvL _ _ _ _ _ _ _ _); (first | refine EvL_cons ?_ | refine EvL_nil ?_))
    | ((with_reducible show UnW _ _ _ _ _ _); ktu_off1L)
    | ((with_reducible show CallW _ _ _ _ _ _); tb_rel)
    | ((with_reducible show SubW _ _ _ _ _ _ _ _); ktu_offI)
    | ((with_reducible show (_ = true → _) ∧ (_ = false → _)); krn_off)
    | ((with_reducible show (_ = false → _) ∧ (_ = true → _)); krn_off)
    | ((with_reducible show _ = true ∧ _); refine ⟨?_, ?_⟩)
    | ((with_reducible show ∃ b, TruthIs _ b ∧ _); refine ⟨_, rfl, ?_⟩)
    | ((with_reducible show List.length _ ≤ 1000 ∧ _); refine ⟨by simp only [List.length_cons, List.length_nil]; decide, ?_⟩)
    | ((with_reducible show ∃ fv, V.raw _ = V.raw fv ∧ _); refine ⟨_, rfl, by assumption, ?_⟩)
    | ((with_reducible show ∃ id, MethIs _ _ _ id ∧ _); refine ⟨_, meth_bits, ?_⟩)
    | ((with_reducible show ∃ a, _); (first | refine ⟨_, _, _, _, rfl, ?_⟩ | refine ⟨_, _, rfl, ?_⟩ | refine ⟨_, _, _, rfl, ?_⟩)))

section
variable {S : Sy} {d : Nat} {X : Prop}
local macro_rules | `(tactic| kaf_pre) => `(tactic| first | refine EvE_name (by rfl) ?_ | refine EvE_glob (by with_reducible assumption) ?_ | refine EvE_built (by with_reducible assumption) ?_ | refine EvE_int ?_ | refine EvE_binop ?_ | refine EvE_cmp ?_ | refine EvE_unop ?_ | refine EvE_str ?_ | refine EvE_bool ?_ | refine EvE_call ?_ | refine EvE_methW0 ?_ | ((with_reducible show EvE _ _ _ (Expr.Call (Expr.Attribute _ (Str.ofString "replace") _) [Expr.Constant (Const.str _) _ _, Expr.Constant (Const.str _) _ _] [] _) _ _ _); refine EvE_replace' ?_) | refine EvE_methW ?_ | refine EvE_sub ?_ | refine EvE_tuple ?_ | refine EvE_ifexp ?_ | refine EvE_one ?_ | refine EvE_and ?_ | refine EvE_or ?_ | refine EvE_list ?_ | refine EvE_walrus ?_)
local macro_rules | `(tactic| kcf_m) => `(tactic| first | refine Ex1_if ?_ | refine Ex1_ret ?_ | refine Ex1_assign ?_ | refine Ex1_aug (by rfl) ?_ | ((with_reducible show Ex1 _ _ _ (Stmt.Assign [Expr.Tuple [Expr.Name _ _, Expr.Name _ _] _ _] (Expr.Tuple _ _ _) _) _ _ _); refine Ex1_swap2 ?_) | refine Ex1_unpackA2 ?_ | refine Ex1_assert ?_)
local macro_rules | `(tactic| tb_start) => `(tactic| first | refine cmp_eq ?_ | refine cmp_lt ?_ | refine cmp_gt ?_ | refine cmp_le ?_ | refine cmp_ge ?_ | refine cmp_ne ?_ | refine cmp_eqSb (by with_reducible assumption) ?_ | refine cmp_neSb (by with_reducible assumption) ?_ | refine cmp_eqS ?_ | refine cmp_neS ?_ | refine cmp_in (by with_reducible assumption) ?_ | refine cmp_notin (by with_reducible assumption) ?_)
local macro_rules | `(tactic| kaf_suf) => `(tactic| first | refine bi_add ?_ | refine bi_sub ?_ | refine bi_addSb (by omega) (by omega) (by with_reducible assumption) ?_)
local macro_rules | `(tactic| tb_rel) => `(tactic| first | refine call_bits ?_ | refine call_lower (by omega) (by with_reducible assumption) ?_ | refine call_strip (by omega) (by with_reducible assumption) ?_ | refine call_rstripC (by omega) (by with_reducible assumption) ?_ | refine call_splitA (by omega) rfl (by with_reducible assumption) ?_ | refine call_splitB (by omega) rfl (by with_reducible assumption) ?_ | refine call_lenL1 ?_ | refine call_lenL2 ?_ | refine call_lenS (by omega) ?_ | refine call_intS10 (by with_reducible assumption) (by omega) ?_ | refine call_intS (by with_reducible assumption) (by omega) ?_ | refine call_abs ?_ | refine call_pow (by decide) (by decide) ?_)
local macro_rules | `(tactic| kbo_bools) => `(tactic| first
    | ((with_reducible show EvE _ _ _ _ _ _ _); kaf_pre)
    | ((with_reducible show BinW _ _ _ _ _ _ _); kaf_suf) | ((with_reducible show CmpW _ _ _ _ _ _ _); tb_start) | ((with_reducible show InpW _ _ _ _ _ _ _); kct_strs)
    | ((with_reducible show Ex1 _ _ _ _ _ _ _); kcf_m)
    | ((with_reducible show ExS _ _ _ _ _ _ _); (first | refine ExS_cons ?_ | refine ExS_nil ?_))
    | ((with_reducible show EvT _ _ _ _ _ _ _); kba_ints)
    | ((with_reducible show EvL _ _ _ _ _ _ _ _); (first | refine EvL_cons ?_ | refine EvL_nil ?_))
    | ((with_reducible show UnW _ _ _ _ _ _); ktu_off1L)
    | ((with_reducible show CallW _ _ _ _ _ _); tb_rel)
    | ((with_reducible show SubW _ _ _ _ _ _ _ _); ktu_offI)
    | ((with_reducible show (_ = true → _) ∧ (_ = false → _)); krn_off)
    | ((with_reducible show (_ = false → _) ∧ (_ = true → _)); krn_off)
    | ((with_reducible show _ = true ∧ _); refine ⟨?_, ?_⟩)
    | ((with_reducible show ∃ b, TruthIs _ b ∧ _); refine ⟨_, rfl, ?_⟩)
    | ((with_reducible show List.length _ ≤ 1000 ∧ _); refine ⟨by simp only [List.length_cons, List.length_nil]; decide, ?_⟩)
    | ((with_reducible show ∃ fv, V.raw _ = V.raw fv ∧ _); refine ⟨_, rfl, by with_reducible assumption, ?_⟩)
    | ((with_reducible show ∃ id, MethW _ _ _ id ∧ _); (first | with_reducible apply mx_bits | with_reducible apply mx_lower | with_reducible apply mx_strip | with_reducible apply mx_rstrip | with_reducible apply mx_split | with_reducible apply mx_startswith))
    | ((with_reducible show ∃ a, _); (first | refine ⟨_, _, .inl rfl, ?_⟩ | refine ⟨_, _, .inr rfl, ?_⟩ | refine ⟨_, _, rfl, by omega, by with_reducible assumption, ?_⟩ | refine ⟨_, _, rfl, ?_⟩ | refine ⟨_, rfl, rfl, ?_⟩)))


/-- a text without any figure -/
structure BadT (x : Str) : Prop where
  bad : Bad x
  hx : x.length ≤ 300
  low : Txt.lower x = x
  str : Txt.strip x = x
  rs : Txt.rstripChars x "l" = x
  rp : Txt.replace x "_" "" = x
  se : Txt.split x "e" = [x]
  sd : Txt.split x "." = [x]
  sp : x ∉ (["inf", "+inf", "-inf", "nan", "oo", "+oo", "-oo"] : List Str)
  s1 : ∀ p ∈ (["0b", "-0b", "0B", "-0B"] : List Str), Txt.startswith x p = false
  s2 : ∀ p ∈ (["0x", "-0x", "0X", "-0X"] : List Str), Txt.startswith x p = false
  s3 : ∀ p ∈ (["0o", "-0o"] : List Str), Txt.startswith x p = false
  sl : Txt.contains x "/" = false
theorem badT_a : BadT ⟨#[97]⟩ := ⟨bad_a, by decide +kernel, by decide +kernel, by decide +kernel, by decide +kernel, by decide +kernel, by decide +kernel, by decide +kernel, by decide +kernel, by decide +kernel, by decide +kernel, by decide +kernel, by decide +kernel⟩
theorem badT_b : BadT ⟨#[98]⟩ := ⟨bad_b, by decide +kernel, by decide +kernel, by decide +kernel, by decide +kernel, by decide +kernel, by decide +kernel, by decide +kernel, by decide +kernel, by decide +kernel, by decide +kernel, by decide +kernel, by decide +kernel⟩
theorem badT_e : BadT ⟨#[]⟩ := ⟨bad_e, by decide +kernel, by decide +kernel, by decide +kernel, by decide +kernel, by decide +kernel, by decide +kernel, by decide +kernel, by decide +kernel, by decide +kernel, by decide +kernel, by decide +kernel, by decide +kernel⟩
theorem badT_s : BadT ⟨#[91, 49, 59, 50, 93]⟩ := ⟨bad_s, by decide +kernel, by decide +kernel, by decide +kernel, by decide +kernel, by decide +kernel, by decide +kernel, by decide +kernel, by decide +kernel, by decide +kernel, by decide +kernel, by decide +kernel, by decide +kernel⟩
theorem FnIs.fun {x : Str} {st : Stmt} {dv : List V} {fd : FuncData} (F : FnIs S x st dv fd) : ∃ a o fd, gl S x = .ref a ∧ S.K.lookup a = some o ∧ o.data = .func fd := by
  obtain ⟨a, oc, od, osl, h, h'⟩ := F.is
  exact ⟨a, _, fd, by unfold gl; rw [h], h', rfl⟩
local macro_rules | `(tactic| kbo_bools) => `(tactic| first
    | ((with_reducible show Fw.next = Fw.next ∧ _); refine ⟨rfl, ?_⟩))

set_option maxHeartbeats 4000000 in
theorem sme_bad (F : Facts S) {x : Str} (B : BadT x) : UR S (d + 1) (.raw (gl S "str_to_man_exp")) [.str x, .int 10] := by
  have f1 := F.b_int
  have f2 := F.b_len
  have f3 := F.b_pow
  have c1 : CanCall S (.type "int") := .inr (.inr ⟨_, rfl⟩)
  have c2 : CanCall S (.builtin "len") := .inr (.inl ⟨_, rfl⟩)
  have c3 : CanCall S (.builtin "pow") := .inr (.inl ⟨_, rfl⟩)
  obtain ⟨bad, hx, low, str, rs, rp, se, sd, sp, s1, s2, s3, sl⟩ := B
  clear sp
  refine UR_def (d := d) F.f36 _ _ (binds_36_2 F.f36 _ _) (by decide) (by decide) (by decide) rfl rfl rfl ?_
  refine UX_cons ?_
  repeat' kbo_bools
  refine UX_cons ?_
  repeat' kbo_bools
  refine UX_cons ?_
  repeat' kbo_bools
  refine UX_cons ?_
  repeat' kbo_bools
  refine UX_cons ?_
  repeat' kbo_bools
  refine UX_cons ?_
  repeat' kbo_bools
  refine UX_cons ?_
  repeat' kbo_bools
  refine UX_now (U1_assign (UE_call (EvE_built (by with_reducible assumption) ⟨_, rfl, .inr ⟨_, rfl⟩, ?_⟩)))
  repeat' kbo_bools
  exact UR_int bad
end

end Mine
end

section
open PySem PySem.W PySem.Calls PyProof.Rows
set_option Elab.async false
set_option maxRecDepth 100000
namespace Mine

-- expressions
local macro_rules | `(tactic| kaf_pre) => `(tactic| first | refine EvE_name (by rfl) ?_ | refine EvE_glob (by assumption) ?_ | refine EvE_built (by assumption) ?_ | refine EvE_int ?_ | refine EvE_binop ?_ | refine EvE_cmp ?_ | refine EvE_unop ?_ | refine EvE_str ?_ | refine EvE_bool ?_ | refine EvE_call ?_ | refine EvE_meth0 ?_ | refine EvE_meth ?_ | refine EvE_sub ?_ | refine EvE_tuple ?_ | refine EvE_ifexp ?_ | refine EvE_one ?_ | refine EvE_and ?_ | refine EvE_or ?_ | refine EvE_list ?_ | refine EvE_walrus ?_)
-- operators
local macro_rules | `(tactic| kaf_suf) => `(tactic| first | refine bi_add ?_ | refine bi_sub ?_ | refine bi_and ?_ | refine bi_xor ?_ | refine bi_shr (by omega) ?_)
local macro_rules | `(tactic| tb_start) => `(tactic| first | refine cmp_eq ?_ | refine cmp_lt ?_ | refine cmp_gt ?_ | refine cmp_le ?_ | refine cmp_ge ?_ | refine cmp_ne ?_ | refine cmp_eqS ?_ | refine cmp_eq4 ?_)
local macro_rules | `(tactic| kct_strs) => `(tactic| first | refine ib_add ?_ | refine ib_sub ?_ | refine ib_xor ?_ | refine ib_shr (by omega) ?_)
local macro_rules | `(tactic| ktu_off1L) => `(tactic| first | refine un_neg ?_ | refine un_not ?_)
-- tests
local macro_rules | `(tactic| kba_ints) => `(tactic| first | refine EvT_not ?_ | refine EvT_cmp ?_ | refine EvT_and ?_ | refine EvT_and_nil ?_ | refine EvT_or ?_ | refine EvT_or_nil ?_ | refine EvT_name ?_ | refine EvT_call ?_ | refine EvT_sub ?_ | refine EvT_bin ?_)
-- statements
local macro_rules | `(tactic| kcf_m) => `(tactic| first | refine Ex1_if ?_ | refine Ex1_ret ?_ | refine Ex1_assign ?_ | refine Ex1_aug (by rfl) ?_ | refine Ex1_unpack4 ?_ | refine Ex1_unpack2 ?_ | refine Ex1_unpack3 ?_ | refine Ex1_swap ?_ | refine Ex1_assert ?_)
-- calls
local macro_rules | `(tactic| tb_rel) => `(tactic| first | refine call_bits ?_)
-- items
local macro_rules | `(tactic| ktu_offI) => `(tactic| first | refine sub_tup (by decide) (by decide) rfl rfl ?_ | refine sub_list (by decide) (by decide) rfl ?_)
-- a test's two ways: what cannot be goes at once
local macro_rules | `(tactic| krn_off) => `(tactic| ((refine ⟨fun h => ?_, fun h => ?_⟩) <;> first
    | (exact absurd h (by decide))
    | ((simp only [decide_eq_true_eq, decide_eq_false_iff_not, beq_iff_eq, bne_iff_ne, beq_eq_false_iff_ne, bne_eq_false_iff_eq, Bool.not_eq_true', Bool.not_eq_false', Bool.not_true, Bool.not_false, ne_eq, Decidable.not_not, gt_iff_lt, ge_iff_le, Int.not_lt, Int.not_le] at h) <;> (try (exfalso; omega)))
    | skip))
local macro_rules | `(tactic| kbo_bools) => `(tactic| first
    | ((with_reducible show EvE _ _ _ _ _ _ _); kaf_pre)
    | ((with_reducible show BinW _ _ _ _ _ _ _); kaf_suf) | ((with_reducible show CmpW _ _ _ _ _ _ _); tb_start) | ((with_reducible show InpW _ _ _ _ _ _ _); kct_strs)
    | ((with_reducible show Ex1 _ _ _ _ _ _ _); kcf_m)
    | ((with_reducible show ExS _ _ _ _ _ _ _); (first | refine ExS_cons ?_ | refine ExS_nil ?_))
    | ((with_reducible show EvT _ _ _ _ _ _ _); kba_ints)
    | ((with_reducible show EvL _ _ _ _ _ _ _ _); (first | refine EvL_cons ?_ | refine EvL_nil ?_))
    | ((with_reducible show UnW _ _ _ _ _ _); ktu_off1L)
    | ((with_reducible show CallW _ _ _ _ _ _); tb_rel)
    | ((with_reducible show SubW _ _ _ _ _ _ _ _); ktu_offI)
    | ((with_reducible show (_ = true → _) ∧ (_ = false → _)); krn_off)
    | ((with_reducible show (_ = false → _) ∧ (_ = true → _)); krn_off)
    | ((with_reducible show _ = true ∧ _); refine ⟨?_, ?_⟩)
    | ((with_reducible show ∃ b, TruthIs _ b ∧ _); refine ⟨_, rfl, ?_⟩)
    | ((with_reducible show List.length _ ≤ 1000 ∧ _); refine ⟨by simp only [List.length_cons, List.length_nil]; decide, ?_⟩)
    | ((with_reducible show ∃ fv, V.raw _ = V.raw fv ∧ _); refine ⟨_, rfl, by assumption, ?_⟩)
    | ((with_reducible show ∃ id, MethIs _ _ _ id ∧ _); refine ⟨_, meth_bits, ?_⟩)
    | ((with_reducible show ∃ a, _); (first | refine ⟨_, _, _, _, rfl, ?_⟩ | refine ⟨_, _, rfl, ?_⟩ | refine ⟨_, _, _, rfl, ?_⟩)))

section
variable {S : Sy} {d : Nat} {X : Prop}
local macro_rules | `(tactic| kaf_pre) => `(tactic| first | refine EvE_name (by rfl) ?_ | refine EvE_glob (by with_reducible assumption) ?_ | refine EvE_built (by with_reducible assumption) ?_ | refine EvE_int ?_ | refine EvE_binop ?_ | refine EvE_cmp ?_ | refine EvE_unop ?_ | refine EvE_str ?_ | refine EvE_bool ?_ | refine EvE_call ?_ | refine EvE_methW0 ?_ | ((with_reducible show EvE _ _ _ (Expr.Call (Expr.Attribute _ (Str.ofString "replace") _) [Expr.Constant (Const.str _) _ _, Expr.Constant (Const.str _) _ _] [] _) _ _ _); refine EvE_replace' ?_) | refine EvE_methW ?_ | refine EvE_sub ?_ | refine EvE_tuple ?_ | refine EvE_ifexp ?_ | refine EvE_one ?_ | refine EvE_and ?_ | refine EvE_or ?_ | refine EvE_list ?_ | refine EvE_walrus ?_)
local macro_rules | `(tactic| kcf_m) => `(tactic| first | refine Ex1_if ?_ | refine Ex1_ret ?_ | refine Ex1_assign ?_ | refine Ex1_aug (by rfl) ?_ | ((with_reducible show Ex1 _ _ _ (Stmt.Assign [Expr.Tuple [Expr.Name _ _, Expr.Name _ _] _ _] (Expr.Tuple _ _ _) _) _ _ _); refine Ex1_swap2 ?_) | refine Ex1_unpackA2 ?_ | refine Ex1_assert ?_)
local macro_rules | `(tactic| tb_start) => `(tactic| first | refine cmp_eq ?_ | refine cmp_lt ?_ | refine cmp_gt ?_ | refine cmp_le ?_ | refine cmp_ge ?_ | refine cmp_ne ?_ | refine cmp_eqSb (by with_reducible assumption) ?_ | refine cmp_neSb (by with_reducible assumption) ?_ | refine cmp_eqS ?_ | refine cmp_neS ?_ | refine cmp_in (by with_reducible assumption) ?_ | refine cmp_notin (by with_reducible assumption) ?_)
local macro_rules | `(tactic| kaf_suf) => `(tactic| first | refine bi_add ?_ | refine bi_sub ?_ | refine bi_addSb (by omega) (by omega) (by with_reducible assumption) ?_)
local macro_rules | `(tactic| tb_rel) => `(tactic| first | refine call_bits ?_ | refine call_lower (by omega) (by with_reducible assumption) ?_ | refine call_strip (by omega) (by with_reducible assumption) ?_ | refine call_rstripC (by omega) (by with_reducible assumption) ?_ | refine call_splitA (by omega) rfl (by with_reducible assumption) ?_ | refine call_splitB (by omega) rfl (by with_reducible assumption) ?_ | refine call_lenL1 ?_ | refine call_lenL2 ?_ | refine call_lenS (by omega) ?_ | refine call_intS10 (by with_reducible assumption) (by omega) ?_ | refine call_intS (by with_reducible assumption) (by omega) ?_ | refine call_abs ?_ | refine call_pow (by decide) (by decide) ?_)
local macro_rules | `(tactic| kbo_bools) => `(tactic| first
    | ((with_reducible show EvE _ _ _ _ _ _ _); kaf_pre)
    | ((with_reducible show BinW _ _ _ _ _ _ _); kaf_suf) | ((with_reducible show CmpW _ _ _ _ _ _ _); tb_start) | ((with_reducible show InpW _ _ _ _ _ _ _); kct_strs)
    | ((with_reducible show Ex1 _ _ _ _ _ _ _); kcf_m)
    | ((with_reducible show ExS _ _ _ _ _ _ _); (first | refine ExS_cons ?_ | refine ExS_nil ?_))
    | ((with_reducible show EvT _ _ _ _ _ _ _); kba_ints)
    | ((with_reducible show EvL _ _ _ _ _ _ _ _); (first | refine EvL_cons ?_ | refine EvL_nil ?_))
    | ((with_reducible show UnW _ _ _ _ _ _); ktu_off1L)
    | ((with_reducible show CallW _ _ _ _ _ _); tb_rel)
    | ((with_reducible show SubW _ _ _ _ _ _ _ _); ktu_offI)
    | ((with_reducible show (_ = true → _) ∧ (_ = false → _)); krn_off)
    | ((with_reducible show (_ = false → _) ∧ (_ = true → _)); krn_off)
    | ((with_reducible show _ = true ∧ _); refine ⟨?_, ?_⟩)
    | ((with_reducible show ∃ b, TruthIs _ b ∧ _); refine ⟨_, rfl, ?_⟩)
    | ((with_reducible show List.length _ ≤ 1000 ∧ _); refine ⟨by simp only [List.length_cons, List.length_nil]; decide, ?_⟩)
    | ((with_reducible show ∃ fv, V.raw _ = V.raw fv ∧ _); refine ⟨_, rfl, by with_reducible assumption, ?_⟩)
    | ((with_reducible show ∃ id, MethW _ _ _ id ∧ _); (first | with_reducible apply mx_bits | with_reducible apply mx_lower | with_reducible apply mx_strip | with_reducible apply mx_rstrip | with_reducible apply mx_split | with_reducible apply mx_startswith))
    | ((with_reducible show ∃ a, _); (first | refine ⟨_, _, .inl rfl, ?_⟩ | refine ⟨_, _, .inr rfl, ?_⟩ | refine ⟨_, _, rfl, by omega, by with_reducible assumption, ?_⟩ | refine ⟨_, _, rfl, ?_⟩ | refine ⟨_, rfl, rfl, ?_⟩)))

local macro_rules | `(tactic| tb_start) => `(tactic| first | refine cmp_eq ?_ | refine cmp_gt ?_ | refine cmp_ge ?_ | refine cmp_in (by with_reducible assumption) ?_ | refine in_dict ⟨_, by with_reducible assumption, rfl⟩ ?_)
local macro_rules | `(tactic| kaf_suf) => `(tactic| first | refine bi_pow (by omega) (by first | omega | (show (4 : Int) * _ ≤ _; omega)) ?_ | refine bi_mul (by assumption) ?_)
local macro_rules | `(tactic| tb_rel) => `(tactic| first | with_reducible assumption | refine call_lower (by omega) (by with_reducible assumption) ?_ | refine call_strip (by omega) (by with_reducible assumption) ?_ | refine call_abs ?_ | refine call_starts4 (by with_reducible assumption) ?_ | refine call_starts2 (by with_reducible assumption) ?_)
local macro_rules | `(tactic| kbo_bools) => `(tactic| first
    | ((with_reducible show Fw.next = Fw.next ∧ _); refine ⟨rfl, ?_⟩))

set_option maxHeartbeats 4000000 in
theorem fs_bad (F : Facts S) {up : Bool} {x : Str} {p : Int} (B : BadT x) : UR S (d + 2) (.raw (gl S "from_str")) [.str x, .int p, .str (rn up)] := by
  have f1 := F.g_special_str
  have f2 := F.f36.glob'
  have f3 := F.f36.fun
  have f9 := F.special x B.sp
  have g := sme_bad (d := d) F B
  obtain ⟨bad, hx, low, str, rs, rp, se, sd, sp, s1, s2, s3, sl⟩ := B
  clear sp
  refine UR_def (d := d + 1) F.f38 _ _ (binds_38_3 F.f38 _ _ _) (by decide) (by decide) (by decide) rfl rfl rfl ?_
  refine UX_cons ?_
  repeat' kbo_bools
  refine UX_cons ?_
  repeat' kbo_bools
  refine UX_cons ?_
  repeat' kbo_bools
  refine UX_cons ?_
  repeat' kbo_bools
  refine UX_now (U1_assign (UE_call (EvE_glob (by with_reducible assumption) ⟨_, rfl, .inl f3, ?_⟩)))
  repeat' kbo_bools
  all_goals exact g
end
section
variable {S : Sy} {d : Nat} {X : Prop}
local macro_rules | `(tactic| kaf_pre) => `(tactic| first | refine EvE_name (by rfl) ?_ | refine EvE_glob (by with_reducible assumption) ?_ | refine EvE_built (by with_reducible assumption) ?_ | refine EvE_int ?_ | refine EvE_binop ?_ | refine EvE_cmp ?_ | refine EvE_unop ?_ | refine EvE_str ?_ | refine EvE_bool ?_ | refine EvE_call ?_ | refine EvE_methW0 ?_ | ((with_reducible show EvE _ _ _ (Expr.Call (Expr.Attribute _ (Str.ofString "replace") _) [Expr.Constant (Const.str _) _ _, Expr.Constant (Const.str _) _ _] [] _) _ _ _); refine EvE_replace' ?_) | refine EvE_methW ?_ | refine EvE_sub ?_ | refine EvE_tuple ?_ | refine EvE_ifexp ?_ | refine EvE_one ?_ | refine EvE_and ?_ | refine EvE_or ?_ | refine EvE_list ?_ | refine EvE_walrus ?_)
local macro_rules | `(tactic| kcf_m) => `(tactic| first | refine Ex1_if ?_ | refine Ex1_ret ?_ | refine Ex1_assign ?_ | refine Ex1_aug (by rfl) ?_ | ((with_reducible show Ex1 _ _ _ (Stmt.Assign [Expr.Tuple [Expr.Name _ _, Expr.Name _ _] _ _] (Expr.Tuple _ _ _) _) _ _ _); refine Ex1_swap2 ?_) | refine Ex1_unpackA2 ?_ | refine Ex1_assert ?_)
local macro_rules | `(tactic| tb_start) => `(tactic| first | refine cmp_eq ?_ | refine cmp_lt ?_ | refine cmp_gt ?_ | refine cmp_le ?_ | refine cmp_ge ?_ | refine cmp_ne ?_ | refine cmp_eqSb (by with_reducible assumption) ?_ | refine cmp_neSb (by with_reducible assumption) ?_ | refine cmp_eqS ?_ | refine cmp_neS ?_ | refine cmp_in (by with_reducible assumption) ?_ | refine cmp_notin (by with_reducible assumption) ?_)
local macro_rules | `(tactic| kaf_suf) => `(tactic| first | refine bi_add ?_ | refine bi_sub ?_ | refine bi_addSb (by omega) (by omega) (by with_reducible assumption) ?_)
local macro_rules | `(tactic| tb_rel) => `(tactic| first | refine call_bits ?_ | refine call_lower (by omega) (by with_reducible assumption) ?_ | refine call_strip (by omega) (by with_reducible assumption) ?_ | refine call_rstripC (by omega) (by with_reducible assumption) ?_ | refine call_splitA (by omega) rfl (by with_reducible assumption) ?_ | refine call_splitB (by omega) rfl (by with_reducible assumption) ?_ | refine call_lenL1 ?_ | refine call_lenL2 ?_ | refine call_lenS (by omega) ?_ | refine call_intS10 (by with_reducible assumption) (by omega) ?_ | refine call_intS (by with_reducible assumption) (by omega) ?_ | refine call_abs ?_ | refine call_pow (by decide) (by decide) ?_)
local macro_rules | `(tactic| kbo_bools) => `(tactic| first
    | ((with_reducible show EvE _ _ _ _ _ _ _); kaf_pre)
    | ((with_reducible show BinW _ _ _ _ _ _ _); kaf_suf) | ((with_reducible show CmpW _ _ _ _ _ _ _); tb_start) | ((with_reducible show InpW _ _ _ _ _ _ _); kct_strs)
    | ((with_reducible show Ex1 _ _ _ _ _ _ _); kcf_m)
    | ((with_reducible show ExS _ _ _ _ _ _ _); (first | refine ExS_cons ?_ | refine ExS_nil ?_))
    | ((with_reducible show EvT _ _ _ _ _ _ _); kba_ints)
    | ((with_reducible show EvL _ _ _ _ _ _ _ _); (first | refine EvL_cons ?_ | refine EvL_nil ?_))
    | ((with_reducible show UnW _ _ _ _ _ _); ktu_off1L)
    | ((with_reducible show CallW _ _ _ _ _ _); tb_rel)
    | ((with_reducible show SubW _ _ _ _ _ _ _ _); ktu_offI)
    | ((with_reducible show (_ = true → _) ∧ (_ = false → _)); krn_off)
    | ((with_reducible show (_ = false → _) ∧ (_ = true → _)); krn_off)
    | ((with_reducible show _ = true ∧ _); refine ⟨?_, ?_⟩)
    | ((with_reducible show ∃ b, TruthIs _ b ∧ _); refine ⟨_, rfl, ?_⟩)
    | ((with_reducible show List.length _ ≤ 1000 ∧ _); refine ⟨by simp only [List.length_cons, List.length_nil]; decide, ?_⟩)
    | ((with_reducible show ∃ fv, V.raw _ = V.raw fv ∧ _); refine ⟨_, rfl, by with_reducible assumption, ?_⟩)
    | ((with_reducible show ∃ id, MethW _ _ _ id ∧ _); (first | with_reducible apply mx_bits | with_reducible apply mx_lower | with_reducible apply mx_strip | with_reducible apply mx_rstrip | with_reducible apply mx_split | with_reducible apply mx_startswith))
    | ((with_reducible show ∃ a, _); (first | refine ⟨_, _, .inl rfl, ?_⟩ | refine ⟨_, _, .inr rfl, ?_⟩ | refine ⟨_, _, rfl, by omega, by with_reducible assumption, ?_⟩ | refine ⟨_, _, rfl, ?_⟩ | refine ⟨_, rfl, rfl, ?_⟩)))

local macro_rules | `(tactic| tb_rel) => `(tactic| first | refine call_exc ?_ | refine call_splitB (by omega) rfl (by with_reducible assumption) ?_ | refine call_splitA (by omega) rfl (by with_reducible assumption) ?_ | refine call_rstripC (by omega) (by with_reducible assumption) ?_)
local macro_rules | `(tactic| kaf_suf) => `(tactic| first | (refine bi_modS (by omega) ?_; intro zz) | refine bi_add ?_ | refine bi_addSb (by omega) (by omega) (by with_reducible assumption) ?_)
local macro_rules | `(tactic| tb_start) => `(tactic| first | refine cmp_in (by with_reducible assumption) ?_ | refine cmp_notin (by with_reducible assumption) ?_ | refine cmp_eqSb (by with_reducible assumption) ?_ | refine cmp_neSb (by with_reducible assumption) ?_)
local macro_rules | `(tactic| ktu_offI) => `(tactic| first | refine sub_list (by decide) (by decide) rfl ?_ | refine sub_strb (by omega) (by omega) (by omega) (by with_reducible assumption) ?_)
local macro_rules | `(tactic| kbo_bools) => `(tactic| first
    | ((with_reducible show Fw.next = Fw.next ∧ _); refine ⟨rfl, ?_⟩))

local macro_rules | `(tactic| tb_rel) => `(tactic| with_reducible assumption)
set_option maxHeartbeats 4000000 in
theorem mfs_bad (F : Facts S) {x : Str} {p : Int} (B : BadT x) (l0 : x.length ≤ 900) (e1 : Txt.replace x " " "" = x) (c1 : Txt.contains x "+-" = false) (c2 : Txt.contains x "(" = false) (c3 : Txt.contains x "," = false) :
    UR S (d + 3) (.raw (gl S "mpi_from_str")) [.str x, .int p] := by
  have f1 := F.g_round_floor
  have f2 := F.f38.glob'
  have f3 := F.f38.fun
  have f5 := F.b_ValueError
  have k1 : CanCall S (.type "ValueError") := .inr (.inr ⟨_, rfl⟩)
  have g := fs_bad (d := d) (up := false) (p := p) F B
  clear B
  refine UR_def (d := d + 2) F.f42 _ _ (binds_42_2 F.f42 _ _) (by decide) (by decide) (by decide) rfl rfl rfl ?_
  refine UX_cons ?_
  repeat' kbo_bools
  refine UX_cons ?_
  repeat' kbo_bools
  refine UX_cons ?_
  repeat' kbo_bools
  refine UX_now (U1_if ?_)
  repeat' kbo_bools
  refine UX_now (U1_if ?_)
  repeat' kbo_bools
  refine UX_now (U1_if ?_)
  repeat' kbo_bools
  refine UX_now (U1_assign (UE_call (EvE_glob (by with_reducible assumption) ⟨_, rfl, .inl f3, ?_⟩)))
  repeat' kbo_bools
  all_goals exact g
set_option maxHeartbeats 4000000 in
theorem ab_bad (F : Facts S) {x y : Str} {p : Int} (hx : ∀ (up : Bool) (Q : V → Prop), (∀ r, Q r) → CallW S (d + 6) (.raw (gl S "from_str")) [.str x, .int (p + 20), .str (rn up)] Q True) (B : BadT y) :
    UR S (d + 7) (.raw (gl S "mpi_from_str_a_b")) [.str x, .str y, .bool false, .int p] := by
  have f1 := F.g_round_floor
  have f2 := F.g_round_ceiling
  have f3 := F.f38.glob'
  have f4 := F.f38.can
  have f5 := F.f38.fun
  have g := fs_bad (d := d + 4) (up := true) (p := p + 20) F B
  have g1 : ∀ (Q : V → Prop), (∀ r, Q r) → CallW S (d + 6) (.raw (gl S "from_str")) [.str x, .int (p + 20), .str "f"] Q True := fun Q h => hx false Q h
  have g2 : ∀ (Q : V → Prop), (∀ r, Q r) → CallW S (d + 6) (.raw (gl S "from_str")) [.str x, .int (p + 20), .str "c"] Q True := fun Q h => hx true Q h
  clear B
  refine UR_def (d := d + 6) F.f41 _ _ (binds_41_4 F.f41 _ _ _ _) (by decide) (by decide) (by decide) rfl rfl rfl ?_
  refine UX_cons ?_
  repeat' kbo_bools
  refine UX_cons ?_
  repeat' kbo_bools
  refine g1 _ fun r1 => ?_
  repeat' kbo_bools
  refine UX_cons ?_
  repeat' kbo_bools
  refine g2 _ fun r2 => ?_
  repeat' kbo_bools
  refine UX_now (U1_assign (UE_call (EvE_glob (by with_reducible assumption) ⟨_, rfl, .inl f5, ?_⟩)))
  repeat' kbo_bools
  all_goals exact g
end
section
variable {S : Sy} {d : Nat} {X : Prop}
local macro_rules | `(tactic| kaf_pre) => `(tactic| first | refine EvE_name (by rfl) ?_ | refine EvE_glob (by with_reducible assumption) ?_ | refine EvE_built (by with_reducible assumption) ?_ | refine EvE_int ?_ | refine EvE_binop ?_ | refine EvE_cmp ?_ | refine EvE_unop ?_ | refine EvE_str ?_ | refine EvE_bool ?_ | refine EvE_call ?_ | refine EvE_methW0 ?_ | ((with_reducible show EvE _ _ _ (Expr.Call (Expr.Attribute _ (Str.ofString "replace") _) [Expr.Constant (Const.str _) _ _, Expr.Constant (Const.str _) _ _] [] _) _ _ _); refine EvE_replace' ?_) | refine EvE_methW ?_ | refine EvE_sub ?_ | refine EvE_tuple ?_ | refine EvE_ifexp ?_ | refine EvE_one ?_ | refine EvE_and ?_ | refine EvE_or ?_ | refine EvE_list ?_ | refine EvE_walrus ?_)
local macro_rules | `(tactic| kcf_m) => `(tactic| first | refine Ex1_if ?_ | refine Ex1_ret ?_ | refine Ex1_assign ?_ | refine Ex1_aug (by rfl) ?_ | ((with_reducible show Ex1 _ _ _ (Stmt.Assign [Expr.Tuple [Expr.Name _ _, Expr.Name _ _] _ _] (Expr.Tuple _ _ _) _) _ _ _); refine Ex1_swap2 ?_) | refine Ex1_unpackA2 ?_ | refine Ex1_assert ?_)
local macro_rules | `(tactic| tb_start) => `(tactic| first | refine cmp_eq ?_ | refine cmp_lt ?_ | refine cmp_gt ?_ | refine cmp_le ?_ | refine cmp_ge ?_ | refine cmp_ne ?_ | refine cmp_eqSb (by with_reducible assumption) ?_ | refine cmp_neSb (by with_reducible assumption) ?_ | refine cmp_eqS ?_ | refine cmp_neS ?_ | refine cmp_in (by with_reducible assumption) ?_ | refine cmp_notin (by with_reducible assumption) ?_)
local macro_rules | `(tactic| kaf_suf) => `(tactic| first | refine bi_add ?_ | refine bi_sub ?_ | refine bi_addSb (by omega) (by omega) (by with_reducible assumption) ?_)
local macro_rules | `(tactic| tb_rel) => `(tactic| first | refine call_bits ?_ | refine call_lower (by omega) (by with_reducible assumption) ?_ | refine call_strip (by omega) (by with_reducible assumption) ?_ | refine call_rstripC (by omega) (by with_reducible assumption) ?_ | refine call_splitA (by omega) rfl (by with_reducible assumption) ?_ | refine call_splitB (by omega) rfl (by with_reducible assumption) ?_ | refine call_lenL1 ?_ | refine call_lenL2 ?_ | refine call_lenS (by omega) ?_ | refine call_intS10 (by with_reducible assumption) (by omega) ?_ | refine call_intS (by with_reducible assumption) (by omega) ?_ | refine call_abs ?_ | refine call_pow (by decide) (by decide) ?_)
local macro_rules | `(tactic| kbo_bools) => `(tactic| first
    | ((with_reducible show EvE _ _ _ _ _ _ _); kaf_pre)
    | ((with_reducible show BinW _ _ _ _ _ _ _); kaf_suf) | ((with_reducible show CmpW _ _ _ _ _ _ _); tb_start) | ((with_reducible show InpW _ _ _ _ _ _ _); kct_strs)
    | ((with_reducible show Ex1 _ _ _ _ _ _ _); kcf_m)
    | ((with_reducible show ExS _ _ _ _ _ _ _); (first | refine ExS_cons ?_ | refine ExS_nil ?_))
    | ((with_reducible show EvT _ _ _ _ _ _ _); kba_ints)
    | ((with_reducible show EvL _ _ _ _ _ _ _ _); (first | refine EvL_cons ?_ | refine EvL_nil ?_))
    | ((with_reducible show UnW _ _ _ _ _ _); ktu_off1L)
    | ((with_reducible show CallW _ _ _ _ _ _); tb_rel)
    | ((with_reducible show SubW _ _ _ _ _ _ _ _); ktu_offI)
    | ((with_reducible show (_ = true → _) ∧ (_ = false → _)); krn_off)
    | ((with_reducible show (_ = false → _) ∧ (_ = true → _)); krn_off)
    | ((with_reducible show _ = true ∧ _); refine ⟨?_, ?_⟩)
    | ((with_reducible show ∃ b, TruthIs _ b ∧ _); refine ⟨_, rfl, ?_⟩)
    | ((with_reducible show List.length _ ≤ 1000 ∧ _); refine ⟨by simp only [List.length_cons, List.length_nil]; decide, ?_⟩)
    | ((with_reducible show ∃ fv, V.raw _ = V.raw fv ∧ _); refine ⟨_, rfl, by with_reducible assumption, ?_⟩)
    | ((with_reducible show ∃ id, MethW _ _ _ id ∧ _); (first | with_reducible apply mx_bits | with_reducible apply mx_lower | with_reducible apply mx_strip | with_reducible apply mx_rstrip | with_reducible apply mx_split | with_reducible apply mx_startswith))
    | ((with_reducible show ∃ a, _); (first | refine ⟨_, _, .inl rfl, ?_⟩ | refine ⟨_, _, .inr rfl, ?_⟩ | refine ⟨_, _, rfl, by omega, by with_reducible assumption, ?_⟩ | refine ⟨_, _, rfl, ?_⟩ | refine ⟨_, rfl, rfl, ?_⟩)))

local macro_rules | `(tactic| tb_rel) => `(tactic| first | refine call_exc ?_ | refine call_splitB (by omega) rfl (by with_reducible assumption) ?_ | refine call_splitA (by omega) rfl (by with_reducible assumption) ?_ | refine call_rstripC (by omega) (by with_reducible assumption) ?_)
local macro_rules | `(tactic| kaf_suf) => `(tactic| first | (refine bi_modS (by omega) ?_; intro zz) | refine bi_add ?_ | refine bi_addSb (by omega) (by omega) (by with_reducible assumption) ?_)
local macro_rules | `(tactic| tb_start) => `(tactic| first | refine cmp_in (by with_reducible assumption) ?_ | refine cmp_notin (by with_reducible assumption) ?_ | refine cmp_eqSb (by with_reducible assumption) ?_ | refine cmp_neSb (by with_reducible assumption) ?_)
local macro_rules | `(tactic| ktu_offI) => `(tactic| first | refine sub_list (by decide) (by decide) rfl ?_ | refine sub_strb (by omega) (by omega) (by omega) (by with_reducible assumption) ?_)
local macro_rules | `(tactic| kbo_bools) => `(tactic| first
    | ((with_reducible show Fw.next = Fw.next ∧ _); refine ⟨rfl, ?_⟩))

set_option maxHeartbeats 4000000 in
theorem mfs_bad2 (F : Facts S) {s0 s x y : Str} {p : Int} (l0 : s0.length ≤ 900) (l1 : s.length ≤ 900) (e1 : Txt.replace s0 " " "" = s) (c1 : Txt.contains s "+-" = true) (c2 : Txt.split s "+-" = [x, y])
    (hx : ∀ (up : Bool) (Q : V → Prop), (∀ r, Q r) → CallW S (d + 6) (.raw (gl S "from_str")) [.str x, .int (p + 20), .str (rn up)] Q True) (B : BadT y) :
    UR S (d + 8) (.raw (gl S "mpi_from_str")) [.str s0, .int p] := by
  have f2 := F.f41.glob'
  have f3 := F.f41.fun
  have f5 := F.b_ValueError
  have k1 : CanCall S (.type "ValueError") := .inr (.inr ⟨_, rfl⟩)
  have g := ab_bad F hx B
  clear B
  refine UR_def (d := d + 7) F.f42 _ _ (binds_42_2 F.f42 _ _) (by decide) (by decide) (by decide) rfl rfl rfl ?_
  refine UX_cons ?_
  repeat' kbo_bools
  refine UX_cons ?_
  repeat' kbo_bools
  refine UX_cons ?_
  repeat' kbo_bools
  refine UX_now (U1_if ?_)
  repeat' kbo_bools
  refine UX_cons ?_
  repeat' kbo_bools
  refine UX_now (U1_ret (UE_call (EvE_glob (by with_reducible assumption) ⟨_, rfl, .inl f3, ?_⟩)))
  repeat' kbo_bools
  all_goals exact g
end

end Mine
end

section
open PySem PySem.W PySem.Calls PyProof.Rows PySem.Builtin PySem.Builtin.Str
set_option Elab.async false
set_option maxRecDepth 100000
namespace Mine

-- expressions
local macro_rules | `(tactic| kaf_pre) => `(tactic| first | refine EvE_name (by rfl) ?_ | refine EvE_glob (by assumption) ?_ | refine EvE_built (by assumption) ?_ | refine EvE_int ?_ | refine EvE_binop ?_ | refine EvE_cmp ?_ | refine EvE_unop ?_ | refine EvE_str ?_ | refine EvE_bool ?_ | refine EvE_call ?_ | refine EvE_meth0 ?_ | refine EvE_meth ?_ | refine EvE_sub ?_ | refine EvE_tuple ?_ | refine EvE_ifexp ?_ | refine EvE_one ?_ | refine EvE_and ?_ | refine EvE_or ?_ | refine EvE_list ?_ | refine EvE_walrus ?_)
-- operators
local macro_rules | `(tactic| kaf_suf) => `(tactic| first | refine bi_add ?_ | refine bi_sub ?_ | refine bi_and ?_ | refine bi_xor ?_ | refine bi_shr (by omega) ?_)
local macro_rules | `(tactic| tb_start) => `(tactic| first | refine cmp_eq ?_ | refine cmp_lt ?_ | refine cmp_gt ?_ | refine cmp_le ?_ | refine cmp_ge ?_ | refine cmp_ne ?_ | refine cmp_eqS ?_ | refine cmp_eq4 ?_)
local macro_rules | `(tactic| kct_strs) => `(tactic| first | refine ib_add ?_ | refine ib_sub ?_ | refine ib_xor ?_ | refine ib_shr (by omega) ?_)
local macro_rules | `(tactic| ktu_off1L) => `(tactic| first | refine un_neg ?_ | refine un_not ?_)
-- tests
local macro_rules | `(tactic| kba_ints) => `(tactic| first | refine EvT_not ?_ | refine EvT_cmp ?_ | refine EvT_and ?_ | refine EvT_and_nil ?_ | refine EvT_or ?_ | refine EvT_or_nil ?_ | refine EvT_name ?_ | refine EvT_call ?_ | refine EvT_sub ?_ | refine EvT_bin ?_)
-- statements
local macro_rules | `(tactic| kcf_m) => `(tactic| first | refine Ex1_if ?_ | refine Ex1_ret ?_ | refine Ex1_assign ?_ | refine Ex1_aug (by rfl) ?_ | refine Ex1_unpack4 ?_ | refine Ex1_unpack2 ?_ | refine Ex1_unpack3 ?_ | refine Ex1_swap ?_ | refine Ex1_assert ?_)
-- calls
local macro_rules | `(tactic| tb_rel) => `(tactic| first | refine call_bits ?_)
-- items
local macro_rules | `(tactic| ktu_offI) => `(tactic| first | refine sub_tup (by decide) (by decide) rfl rfl ?_ | refine sub_list (by decide) (by decide) rfl ?_)
-- a test's two ways: what cannot be goes at once
local macro_rules | `(tactic| krn_off) => `(tactic| ((refine ⟨fun h => ?_, fun h => ?_⟩) <;> first
    | (exact absurd h (by decide))
    | ((simp only [decide_eq_true_eq, decide_eq_false_iff_not, beq_iff_eq, bne_iff_ne, beq_eq_false_iff_ne, bne_eq_false_iff_eq, Bool.not_eq_true', Bool.not_eq_false', Bool.not_true, Bool.not_false, ne_eq, Decidable.not_not, gt_iff_lt, ge_iff_le, Int.not_lt, Int.not_le] at h) <;> (try (exfalso; omega)))
    | skip))
local macro_rules | `(tactic| kbo_bools) => `(tactic| first
    | ((with_reducible show EvE _ _ _ _ _ _ _); kaf_pre)
    | ((with_reducible show BinW _ _ _ _ _ _ _); kaf_suf) | ((with_reducible show CmpW _ _ _ _ _ _ _); tb_start) | ((with_reducible show InpW _ _ _ _ _ _ _); kct_strs)
    | ((with_reducible show Ex1 _ _ _ _ _ _ _); kcf_m)
    | ((with_reducible show ExS _ _ _ _ _ _ _); (first | refine ExS_cons ?_ | refine ExS_nil ?_))
    | ((with_reducible show EvT _ _ _ _ _ _ _); kba_ints)
    | ((with_reducible show EvL _ _ _ _ _ _ _ _); (first | refine EvL_cons ?_ | refine EvL_nil ?_))
    | ((with_reducible show UnW _ _ _ _ _ _); ktu_off1L)
    | ((with_reducible show CallW _ _ _ _ _ _); tb_rel)
    | ((with_reducible show SubW _ _ _ _ _ _ _ _); ktu_offI)
    | ((with_reducible show (_ = true → _) ∧ (_ = false → _)); krn_off)
    | ((with_reducible show (_ = false → _) ∧ (_ = true → _)); krn_off)
    | ((with_reducible show _ = true ∧ _); refine ⟨?_, ?_⟩)
    | ((with_reducible show ∃ b, TruthIs _ b ∧ _); refine ⟨_, rfl, ?_⟩)
    | ((with_reducible show List.length _ ≤ 1000 ∧ _); refine ⟨by simp only [List.length_cons, List.length_nil]; decide, ?_⟩)
    | ((with_reducible show ∃ fv, V.raw _ = V.raw fv ∧ _); refine ⟨_, rfl, by assumption, ?_⟩)
    | ((with_reducible show ∃ id, MethIs _ _ _ id ∧ _); refine ⟨_, meth_bits, ?_⟩)
    | ((with_reducible show ∃ a, _); (first | refine ⟨_, _, _, _, rfl, ?_⟩ | refine ⟨_, _, rfl, ?_⟩ | refine ⟨_, _, _, rfl, ?_⟩)))

section
variable {S : Sy} {d : Nat} {X : Prop}
local macro_rules | `(tactic| kaf_pre) => `(tactic| first | refine EvE_name (by rfl) ?_ | refine EvE_glob (by with_reducible assumption) ?_ | refine EvE_built (by with_reducible assumption) ?_ | refine EvE_int ?_ | refine EvE_binop ?_ | refine EvE_cmp ?_ | refine EvE_unop ?_ | refine EvE_str ?_ | refine EvE_bool ?_ | refine EvE_call ?_ | refine EvE_methW0 ?_ | ((with_reducible show EvE _ _ _ (Expr.Call (Expr.Attribute _ (Str.ofString "replace") _) [Expr.Constant (Const.str _) _ _, Expr.Constant (Const.str _) _ _] [] _) _ _ _); refine EvE_replace' ?_) | refine EvE_methW ?_ | refine EvE_sub ?_ | refine EvE_tuple ?_ | refine EvE_ifexp ?_ | refine EvE_one ?_ | refine EvE_and ?_ | refine EvE_or ?_ | refine EvE_list ?_ | refine EvE_walrus ?_)
local macro_rules | `(tactic| kcf_m) => `(tactic| first | refine Ex1_if ?_ | refine Ex1_ret ?_ | refine Ex1_assign ?_ | refine Ex1_aug (by rfl) ?_ | ((with_reducible show Ex1 _ _ _ (Stmt.Assign [Expr.Tuple [Expr.Name _ _, Expr.Name _ _] _ _] (Expr.Tuple _ _ _) _) _ _ _); refine Ex1_swap2 ?_) | refine Ex1_unpackA2 ?_ | refine Ex1_assert ?_)
local macro_rules | `(tactic| tb_start) => `(tactic| first | refine cmp_eq ?_ | refine cmp_lt ?_ | refine cmp_gt ?_ | refine cmp_le ?_ | refine cmp_ge ?_ | refine cmp_ne ?_ | refine cmp_eqSb (by with_reducible assumption) ?_ | refine cmp_neSb (by with_reducible assumption) ?_ | refine cmp_eqS ?_ | refine cmp_neS ?_ | refine cmp_in (by with_reducible assumption) ?_ | refine cmp_notin (by with_reducible assumption) ?_)
local macro_rules | `(tactic| kaf_suf) => `(tactic| first | refine bi_add ?_ | refine bi_sub ?_ | refine bi_addSb (by omega) (by omega) (by with_reducible assumption) ?_)
local macro_rules | `(tactic| tb_rel) => `(tactic| first | refine call_bits ?_ | refine call_lower (by omega) (by with_reducible assumption) ?_ | refine call_strip (by omega) (by with_reducible assumption) ?_ | refine call_rstripC (by omega) (by with_reducible assumption) ?_ | refine call_splitA (by omega) rfl (by with_reducible assumption) ?_ | refine call_splitB (by omega) rfl (by with_reducible assumption) ?_ | refine call_lenL1 ?_ | refine call_lenL2 ?_ | refine call_lenS (by omega) ?_ | refine call_intS10 (by with_reducible assumption) (by omega) ?_ | refine call_intS (by with_reducible assumption) (by omega) ?_ | refine call_abs ?_ | refine call_pow (by decide) (by decide) ?_)
local macro_rules | `(tactic| kbo_bools) => `(tactic| first
    | ((with_reducible show EvE _ _ _ _ _ _ _); kaf_pre)
    | ((with_reducible show BinW _ _ _ _ _ _ _); kaf_suf) | ((with_reducible show CmpW _ _ _ _ _ _ _); tb_start) | ((with_reducible show InpW _ _ _ _ _ _ _); kct_strs)
    | ((with_reducible show Ex1 _ _ _ _ _ _ _); kcf_m)
    | ((with_reducible show ExS _ _ _ _ _ _ _); (first | refine ExS_cons ?_ | refine ExS_nil ?_))
    | ((with_reducible show EvT _ _ _ _ _ _ _); kba_ints)
    | ((with_reducible show EvL _ _ _ _ _ _ _ _); (first | refine EvL_cons ?_ | refine EvL_nil ?_))
    | ((with_reducible show UnW _ _ _ _ _ _); ktu_off1L)
    | ((with_reducible show CallW _ _ _ _ _ _); tb_rel)
    | ((with_reducible show SubW _ _ _ _ _ _ _ _); ktu_offI)
    | ((with_reducible show (_ = true → _) ∧ (_ = false → _)); krn_off)
    | ((with_reducible show (_ = false → _) ∧ (_ = true → _)); krn_off)
    | ((with_reducible show _ = true ∧ _); refine ⟨?_, ?_⟩)
    | ((with_reducible show ∃ b, TruthIs _ b ∧ _); refine ⟨_, rfl, ?_⟩)
    | ((with_reducible show List.length _ ≤ 1000 ∧ _); refine ⟨by simp only [List.length_cons, List.length_nil]; decide, ?_⟩)
    | ((with_reducible show ∃ fv, V.raw _ = V.raw fv ∧ _); refine ⟨_, rfl, by with_reducible assumption, ?_⟩)
    | ((with_reducible show ∃ id, MethW _ _ _ id ∧ _); (first | with_reducible apply mx_bits | with_reducible apply mx_lower | with_reducible apply mx_strip | with_reducible apply mx_rstrip | with_reducible apply mx_split | with_reducible apply mx_startswith))
    | ((with_reducible show ∃ a, _); (first | refine ⟨_, _, .inl rfl, ?_⟩ | refine ⟨_, _, .inr rfl, ?_⟩ | refine ⟨_, _, rfl, by omega, by with_reducible assumption, ?_⟩ | refine ⟨_, _, rfl, ?_⟩ | refine ⟨_, rfl, rfl, ?_⟩)))


theorem ok_one : NOk false [49] none none := ⟨by unfold Dg; decide, by decide, by unfold Dg fd; decide, fun _ _ h => by (cases h), by decide, by decide⟩
theorem one_fs (F : Facts S) {p : Int} (hp : 1 ≤ p) (hp2 : p ≤ 60) : ∀ (up : Bool) (Q : V → Prop), (∀ r, Q r) → CallW S (d + 6) (.raw (gl S "from_str")) [.str "1", .int (p + 20), .str (rn up)] Q True := fun up Q h => by
  have := num_fs (d := d) (up := up) (X := True) (P := Q) (p := p + 20) F ok_one (by omega) (by omega) ⟨by decide, by decide⟩ fun r _ => h _
  rw [show T (nt false [49] none none) = ("1" : Str) by decide +kernel] at this
  exact this
def wrongs : List Str := ["", "(1,2)", "1(2", "1,2", "1(2%3)", "[1,2", "1+-2+-3", "[1,2,3]", "a", "1+-b", "[1;2]", "1 (2) 3 (4)"]
theorem wrong0 (F : Facts S) {p : Int} (hp : 1 ≤ p) (hp2 : p ≤ 60) : UR S (d + 10) (.raw (gl S "mpi_from_str")) [.str "", .int p] := by
  have e : Str.ofString "" = ⟨#[]⟩ := by decide +kernel
  rw [e]
  exact mfs_bad (d := d + 7) F  badT_e (by decide +kernel) (by decide +kernel) (by decide +kernel) (by decide +kernel) (by decide +kernel)
theorem wrong1 (F : Facts S) {p : Int} (hp : 1 ≤ p) (hp2 : p ≤ 60) : UR S (d + 10) (.raw (gl S "mpi_from_str")) [.str "(1,2)", .int p] := by
  exact rb1 F (s := "(1,2)") (c0 := "(") (by decide +kernel) (by decide +kernel) (by decide +kernel) (by decide +kernel) (by decide +kernel) (by decide +kernel) (by decide +kernel) (by decide +kernel)
theorem wrong2 (F : Facts S) {p : Int} (hp : 1 ≤ p) (hp2 : p ≤ 60) : UR S (d + 10) (.raw (gl S "mpi_from_str")) [.str "1(2", .int p] := by
  exact rb2 F (s := "1(2") (c0 := "1") (by decide +kernel) (by decide +kernel) (by decide +kernel) (by decide +kernel) (by decide +kernel) (by decide +kernel) (by decide +kernel) (by decide +kernel) (by decide +kernel)
theorem wrong3 (F : Facts S) {p : Int} (hp : 1 ≤ p) (hp2 : p ≤ 60) : UR S (d + 10) (.raw (gl S "mpi_from_str")) [.str "1,2", .int p] := by
  exact rb4 F (s := "1,2") (by decide +kernel) (by decide +kernel) (by decide +kernel) (by decide +kernel) (by decide +kernel) (by decide +kernel) (by decide +kernel) (by decide +kernel)
theorem wrong4 (F : Facts S) {p : Int} (hp : 1 ≤ p) (hp2 : p ≤ 60) : UR S (d + 10) (.raw (gl S "mpi_from_str")) [.str "1(2%3)", .int p] := by
  exact rb3 F (s0 := "1(2%3)") (s := "1(2%3)") (c0 := "1") (s2 := "1(2%3") (c9 := "3") (by decide +kernel) (by decide +kernel) (by decide +kernel) (by decide +kernel) (by decide +kernel) (by decide +kernel) (by decide +kernel) (by decide +kernel) (by decide +kernel) (by decide +kernel) (by decide +kernel) (by decide +kernel) (by decide +kernel) (by decide +kernel) (by decide +kernel)
theorem wrong5 (F : Facts S) {p : Int} (hp : 1 ≤ p) (hp2 : p ≤ 60) : UR S (d + 10) (.raw (gl S "mpi_from_str")) [.str "[1,2", .int p] := by
  exact rb5 F (s := "[1,2") (by decide +kernel) (by decide +kernel) (by decide +kernel) (by decide +kernel) (by decide +kernel) (by decide +kernel) (by decide +kernel) (by decide +kernel) (by decide +kernel)
theorem wrong6 (F : Facts S) {p : Int} (hp : 1 ≤ p) (hp2 : p ≤ 60) : UR S (d + 10) (.raw (gl S "mpi_from_str")) [.str "1+-2+-3", .int p] := by
  exact rb6 F (s := "1+-2+-3") (a := "1") (b := "2") (z := "3") (by decide +kernel) (by decide +kernel) (by decide +kernel) (by decide +kernel) (by decide +kernel) (by decide +kernel)
theorem wrong7 (F : Facts S) {p : Int} (hp : 1 ≤ p) (hp2 : p ≤ 60) : UR S (d + 10) (.raw (gl S "mpi_from_str")) [.str "[1,2,3]", .int p] := by
  exact rb7 F (s := "[1,2,3]") (c0 := "[") (s2 := "1,2,3]") (s3 := "1,2,3") (a := "1") (b := "2") (z := "3") (by decide +kernel) (by decide +kernel) (by decide +kernel) (by decide +kernel) (by decide +kernel) (by decide +kernel) (by decide +kernel) (by decide +kernel) (by decide +kernel) (by decide +kernel) (by decide +kernel) (by decide +kernel) (by decide +kernel) (by decide +kernel) (by decide +kernel) (by decide +kernel)
theorem wrong8 (F : Facts S) {p : Int} (hp : 1 ≤ p) (hp2 : p ≤ 60) : UR S (d + 10) (.raw (gl S "mpi_from_str")) [.str "a", .int p] := by
  have e : Str.ofString "a" = ⟨#[97]⟩ := by decide +kernel
  rw [e]
  exact mfs_bad (d := d + 7) F  badT_a (by decide +kernel) (by decide +kernel) (by decide +kernel) (by decide +kernel) (by decide +kernel)
theorem wrong9 (F : Facts S) {p : Int} (hp : 1 ≤ p) (hp2 : p ≤ 60) : UR S (d + 10) (.raw (gl S "mpi_from_str")) [.str "1+-b", .int p] := by
  exact mfs_bad2 (d := d + 2) F (s := "1+-b") (x := "1") (y := ⟨#[98]⟩) (by decide +kernel) (by decide +kernel) (by decide +kernel) (by decide +kernel) (by decide +kernel) (one_fs F hp hp2) badT_b
theorem wrong10 (F : Facts S) {p : Int} (hp : 1 ≤ p) (hp2 : p ≤ 60) : UR S (d + 10) (.raw (gl S "mpi_from_str")) [.str "[1;2]", .int p] := by
  have e : Str.ofString "[1;2]" = ⟨#[91, 49, 59, 50, 93]⟩ := by decide +kernel
  rw [e]
  exact mfs_bad (d := d + 7) F  badT_s (by decide +kernel) (by decide +kernel) (by decide +kernel) (by decide +kernel) (by decide +kernel)
theorem wrong11 (F : Facts S) {p : Int} (hp : 1 ≤ p) (hp2 : p ≤ 60) : UR S (d + 10) (.raw (gl S "mpi_from_str")) [.str "1 (2) 3 (4)", .int p] := by
  exact rb8 F (s0 := "1 (2) 3 (4)") (s := "1(2)3(4)") (c0 := "1") (s2 := "1(23(4") (a := "1") (b := "23") (z := "4") (by decide +kernel) (by decide +kernel) (by decide +kernel) (by decide +kernel) (by decide +kernel) (by decide +kernel) (by decide +kernel) (by decide +kernel) (by decide +kernel) (by decide +kernel) (by decide +kernel) (by decide +kernel) (by decide +kernel)
theorem wrong_all (F : Facts S) {p : Int} (hp : 1 ≤ p) (hp2 : p ≤ 60) : ∀ t ∈ wrongs, UR S (d + 10) (.raw (gl S "mpi_from_str")) [.str t, .int p] := by
  intro t ht
  unfold wrongs at ht
  simp only [List.mem_cons, List.not_mem_nil, or_false] at ht
  rcases ht with rfl | rfl | rfl | rfl | rfl | rfl | rfl | rfl | rfl | rfl | rfl | rfl
  · exact wrong0 F hp hp2
  · exact wrong1 F hp hp2
  · exact wrong2 F hp hp2
  · exact wrong3 F hp hp2
  · exact wrong4 F hp hp2
  · exact wrong5 F hp hp2
  · exact wrong6 F hp hp2
  · exact wrong7 F hp hp2
  · exact wrong8 F hp hp2
  · exact wrong9 F hp hp2
  · exact wrong10 F hp hp2
  · exact wrong11 F hp hp2
theorem refused_walk (F : Facts S) (ok : S.ok S.base) {p : Int} {t : Str} (h : UR S d (.raw (gl S "mpi_from_str")) [.str t, .int p]) : UT S (d + 1) (.raw (gl S "_law_refused")) [.str t, .int p] := by
  have f1 := F.f42.glob'
  have f2 := F.f42.fun
  refine UT_def (d := d) F.f48 _ _ (binds_48_2 F.f48 _ _) (by decide) (by decide) (by decide) rfl rfl rfl ?_
  refine UB_try ok F.b_ValueError rfl ?_
  refine UX_now (U1_expr (UE_call (EvE_glob (by with_reducible assumption) ⟨_, rfl, .inl f2, ?_⟩)))
  repeat' kbo_bools
  all_goals exact h
end

end Mine
end

section
open PySem PySem.W PySem.Calls PyProof.Rows PySem.NumText PySem.StrLaws PySem.Builtin PySem.Builtin.Str
set_option Elab.async false
set_option maxRecDepth 100000
namespace Mine

-- expressions
local macro_rules | `(tactic| kaf_pre) => `(tactic| first | refine EvE_name (by rfl) ?_ | refine EvE_glob (by assumption) ?_ | refine EvE_built (by assumption) ?_ | refine EvE_int ?_ | refine EvE_binop ?_ | refine EvE_cmp ?_ | refine EvE_unop ?_ | refine EvE_str ?_ | refine EvE_bool ?_ | refine EvE_call ?_ | refine EvE_meth0 ?_ | refine EvE_meth ?_ | refine EvE_sub ?_ | refine EvE_tuple ?_ | refine EvE_ifexp ?_ | refine EvE_one ?_ | refine EvE_and ?_ | refine EvE_or ?_ | refine EvE_list ?_ | refine EvE_walrus ?_)
-- operators
local macro_rules | `(tactic| kaf_suf) => `(tactic| first | refine bi_add ?_ | refine bi_sub ?_ | refine bi_and ?_ | refine bi_xor ?_ | refine bi_shr (by omega) ?_)
local macro_rules | `(tactic| tb_start) => `(tactic| first | refine cmp_eq ?_ | refine cmp_lt ?_ | refine cmp_gt ?_ | refine cmp_le ?_ | refine cmp_ge ?_ | refine cmp_ne ?_ | refine cmp_eqS ?_ | refine cmp_eq4 ?_)
local macro_rules | `(tactic| kct_strs) => `(tactic| first | refine ib_add ?_ | refine ib_sub ?_ | refine ib_xor ?_ | refine ib_shr (by omega) ?_)
local macro_rules | `(tactic| ktu_off1L) => `(tactic| first | refine un_neg ?_ | refine un_not ?_)
-- tests
local macro_rules | `(tactic| kba_ints) => `(tactic| first | refine EvT_not ?_ | refine EvT_cmp ?_ | refine EvT_and ?_ | refine EvT_and_nil ?_ | refine EvT_or ?_ | refine EvT_or_nil ?_ | refine EvT_name ?_ | refine EvT_call ?_ | refine EvT_sub ?_ | refine EvT_bin ?_)
-- statements
local macro_rules | `(tactic| kcf_m) => `(tactic| first | refine Ex1_if ?_ | refine Ex1_ret ?_ | refine Ex1_assign ?_ | refine Ex1_aug (by rfl) ?_ | refine Ex1_unpack4 ?_ | refine Ex1_unpack2 ?_ | refine Ex1_unpack3 ?_ | refine Ex1_swap ?_ | refine Ex1_assert ?_)
-- calls
local macro_rules | `(tactic| tb_rel) => `(tactic| first | refine call_bits ?_)
-- items
local macro_rules | `(tactic| ktu_offI) => `(tactic| first | refine sub_tup (by decide) (by decide) rfl rfl ?_ | refine sub_list (by decide) (by decide) rfl ?_)
-- a test's two ways: what cannot be goes at once
local macro_rules | `(tactic| krn_off) => `(tactic| ((refine ⟨fun h => ?_, fun h => ?_⟩) <;> first
    | (exact absurd h (by decide))
    | ((simp only [decide_eq_true_eq, decide_eq_false_iff_not, beq_iff_eq, bne_iff_ne, beq_eq_false_iff_ne, bne_eq_false_iff_eq, Bool.not_eq_true', Bool.not_eq_false', Bool.not_true, Bool.not_false, ne_eq, Decidable.not_not, gt_iff_lt, ge_iff_le, Int.not_lt, Int.not_le] at h) <;> (try (exfalso; omega)))
    | skip))
local macro_rules | `(tactic| kbo_bools) => `(tactic| first
    | ((with_reducible show EvE _ _ _ _ _ _ _); kaf_pre)
    | ((with_reducible show BinW _ _ _ _ _ _ _); kaf_suf) | ((with_reducible show CmpW _ _ _ _ _ _ _); tb_start) | ((with_reducible show InpW _ _ _ _ _ _ _); kct_strs)
    | ((with_reducible show Ex1 _ _ _ _ _ _ _); kcf_m)
    | ((with_reducible show ExS _ _ _ _ _ _ _); (first | refine ExS_cons ?_ | refine ExS_nil ?_))
    | ((with_reducible show EvT _ _ _ _ _ _ _); kba_ints)
    | ((with_reducible show EvL _ _ _ _ _ _ _ _); (first | refine EvL_cons ?_ | refine EvL_nil ?_))
    | ((with_reducible show UnW _ _ _ _ _ _); ktu_off1L)
    | ((with_reducible show CallW _ _ _ _ _ _); tb_rel)
    | ((with_reducible show SubW _ _ _ _ _ _ _ _); ktu_offI)
    | ((with_reducible show (_ = true → _) ∧ (_ = false → _)); krn_off)
    | ((with_reducible show (_ = false → _) ∧ (_ = true → _)); krn_off)
    | ((with_reducible show _ = true ∧ _); refine ⟨?_, ?_⟩)
    | ((with_reducible show ∃ b, TruthIs _ b ∧ _); refine ⟨_, rfl, ?_⟩)
    | ((with_reducible show List.length _ ≤ 1000 ∧ _); refine ⟨by simp only [List.length_cons, List.length_nil]; decide, ?_⟩)
    | ((with_reducible show ∃ fv, V.raw _ = V.raw fv ∧ _); refine ⟨_, rfl, by assumption, ?_⟩)
    | ((with_reducible show ∃ id, MethIs _ _ _ id ∧ _); refine ⟨_, meth_bits, ?_⟩)
    | ((with_reducible show ∃ a, _); (first | refine ⟨_, _, _, _, rfl, ?_⟩ | refine ⟨_, _, rfl, ?_⟩ | refine ⟨_, _, _, rfl, ?_⟩)))

section
variable {S : Sy} {d : Nat} {X : Prop}
local macro_rules | `(tactic| kaf_pre) => `(tactic| first | refine EvE_name (by rfl) ?_ | refine EvE_glob (by with_reducible assumption) ?_ | refine EvE_built (by with_reducible assumption) ?_ | refine EvE_int ?_ | refine EvE_binop ?_ | refine EvE_cmp ?_ | refine EvE_unop ?_ | refine EvE_str ?_ | refine EvE_bool ?_ | refine EvE_call ?_ | refine EvE_methW0 ?_ | ((with_reducible show EvE _ _ _ (Expr.Call (Expr.Attribute _ (Str.ofString "replace") _) [Expr.Constant (Const.str _) _ _, Expr.Constant (Const.str _) _ _] [] _) _ _ _); refine EvE_replace' ?_) | refine EvE_methW ?_ | refine EvE_slice_nsE ?_ | refine EvE_slice_snE ?_ | refine EvE_sub ?_ | refine EvE_tuple ?_ | refine EvE_ifexp ?_ | refine EvE_one ?_ | refine EvE_and ?_ | refine EvE_or ?_ | refine EvE_list ?_ | refine EvE_walrus ?_)
local macro_rules | `(tactic| kcf_m) => `(tactic| first | refine Ex1_if ?_ | refine Ex1_ret ?_ | refine Ex1_assign ?_ | refine Ex1_aug (by rfl) ?_ | ((with_reducible show Ex1 _ _ _ (Stmt.Assign [Expr.Tuple [Expr.Name _ _, Expr.Name _ _] _ _] (Expr.Tuple _ _ _) _) _ _ _); refine Ex1_swap2 ?_) | ((with_reducible show Ex1 _ _ _ (Stmt.Assign [Expr.Tuple [Expr.Name _ _, Expr.Name _ _, Expr.Name _ _] _ _] (Expr.Tuple _ _ _) _) _ _ _); refine Ex1_swap3 ?_) | refine Ex1_unpackA2 ?_ | refine Ex1_unpackA3 ?_ | refine Ex1_assert ?_)
local macro_rules | `(tactic| tb_start) => `(tactic| first | refine cmp_eq ?_ | refine cmp_lt ?_ | refine cmp_gt ?_ | refine cmp_le ?_ | refine cmp_ge ?_ | refine cmp_ne ?_ | refine cmp_eqSb (by with_reducible assumption) ?_ | refine cmp_neSb (by with_reducible assumption) ?_ | refine cmp_eqS ?_ | refine cmp_neS ?_ | refine cmp_in (by with_reducible assumption) ?_ | refine cmp_notin (by with_reducible assumption) ?_)
local macro_rules | `(tactic| kaf_suf) => `(tactic| first | refine bi_addE (by with_reducible assumption) ?_ | refine bi_subE (by with_reducible assumption) ?_ | refine bi_mulE (by with_reducible assumption) ?_ | refine bi_fdivE (by with_reducible assumption) (by decide) (by decide) ?_ | refine bi_modE (by with_reducible assumption) (by omega) ?_ | refine bi_powE (by with_reducible assumption) ?_ | refine bi_mulSE (by with_reducible assumption) ?_ | refine bi_addSb (by omega) (by omega) (by with_reducible assumption) ?_ | refine bi_add ?_ | refine bi_sub ?_ | refine bi_fdiv (by decide) (by decide) ?_ | refine bi_mod (by decide) ?_)
local macro_rules | `(tactic| tb_rel) => `(tactic| first | refine call_bitsE (by with_reducible assumption) ?_ | refine call_strE (by with_reducible assumption) ?_ | refine call_maxE (by with_reducible assumption) ?_ | refine call_lenSE (by with_reducible assumption) (by omega) ?_ | refine call_lenLE (by with_reducible assumption) ?_ | refine call_lenL1 ?_ | refine call_lenL2 ?_ | refine call_intS (by with_reducible assumption) (by omega) ?_ | refine call_absE (by with_reducible assumption) ?_ | refine call_abs ?_)
local macro_rules | `(tactic| ktu_off1L) => `(tactic| first | refine un_negE (by with_reducible assumption) ?_ | refine un_neg ?_ | refine un_not ?_)
local macro_rules | `(tactic| ktu_offI) => `(tactic| first | refine sub_tup (by decide) (by decide) rfl rfl ?_ | refine sub_listE (by with_reducible assumption) ?_ | refine sub_list (by decide) (by decide) rfl ?_ | refine sub_strb (by omega) (by omega) (by omega) (by with_reducible assumption) ?_)
local macro_rules | `(tactic| kbo_bools) => `(tactic| first
    | ((with_reducible show EvE _ _ _ _ _ _ _); kaf_pre)
    | ((with_reducible show BinW _ _ _ _ _ _ _); kaf_suf) | ((with_reducible show CmpW _ _ _ _ _ _ _); tb_start) | ((with_reducible show InpW _ _ _ _ _ _ _); kct_strs)
    | ((with_reducible show Ex1 _ _ _ _ _ _ _); kcf_m)
    | ((with_reducible show ExS _ _ _ _ _ _ _); (first | refine ExS_cons ?_ | refine ExS_nil ?_))
    | ((with_reducible show EvT _ _ _ _ _ _ _); kba_ints)
    | ((with_reducible show EvL _ _ _ _ _ _ _ _); (first | refine EvL_cons ?_ | refine EvL_nil ?_))
    | ((with_reducible show UnW _ _ _ _ _ _); ktu_off1L)
    | ((with_reducible show CallW _ _ _ _ _ _); tb_rel)
    | ((with_reducible show SubW _ _ _ _ _ _ _ _); ktu_offI)
    | ((with_reducible show (_ = true → _) ∧ (_ = false → _)); krn_off)
    | ((with_reducible show (_ = false → _) ∧ (_ = true → _)); krn_off)
    | ((with_reducible show _ = true ∧ _); refine ⟨?_, ?_⟩)
    | ((with_reducible show ∃ b, TruthIs _ b ∧ _); refine ⟨_, rfl, ?_⟩)
    | ((with_reducible show List.length _ ≤ 1000 ∧ _); refine ⟨by simp only [List.length_cons, List.length_nil]; decide, ?_⟩)
    | ((with_reducible show ∃ fv, V.raw _ = V.raw fv ∧ _); refine ⟨_, rfl, by with_reducible assumption, ?_⟩)
    | ((with_reducible show ∃ id, MethW _ _ _ id ∧ _); (first | with_reducible apply mx_bits | with_reducible apply mx_lower | with_reducible apply mx_strip | with_reducible apply mx_rstrip | with_reducible apply mx_split | with_reducible apply mx_startswith))
    | ((with_reducible show ∃ a, _); (first | refine ⟨_, _, .inl rfl, ?_⟩ | refine ⟨_, _, .inr rfl, ?_⟩ | refine ⟨_, _, _, rfl, rfl, by omega, by with_reducible assumption, ?_⟩ | refine ⟨_, _, rfl, by omega, by with_reducible assumption, ?_⟩ | refine ⟨_, _, _, rfl, ?_⟩ | refine ⟨_, _, rfl, ?_⟩ | refine ⟨_, rfl, rfl, ?_⟩)))
theorem binds_51_1 {fd : FuncData} (F : FnIs S "law" (stmtAt 51) [] fd) (x1 : V) : ∀ (s : Shared) vs, S.ok s.heap → RepL S.base s.heap vs [x1] → ∃ bs : List (Str × Value), BindsTo s fd ⟨vs, []⟩ bs ∧ bs.map (·.1) = [("script" : Str)] ∧ RepL S.base s.heap (bs.map (·.2)) [x1] := by
  intro s vs ok rl
  have ar := F.ar
  have kw := F.kw
  have df := F.df
  obtain ⟨nm, qn, pr, bd, sc, gl, cl, dfl, kwd, doc, pm, an, cd, ct, bl⟩ := fd
  simp only at ar kw df
  subst ar kw
  rcases rl with _ | ⟨r1, rl⟩
  rcases rl with _ | _
  obtain ⟨_, rfl⟩ | ⟨h, _⟩ := df
  · exact ⟨[("script", _)], BindsTo.of_eq rfl, rfl, .cons r1 .nil⟩
  · exact absurd rfl h
def lawSt (i : Nat) : Stmt := (bodyOf (stmtAt 51)).getD i (.Pass default)
abbrev lawEnv (k : Nat) (tx ty : Str) (above below over under kind p first : Int) (sc : V) : Rho :=
  [("space", .str (T (spc k))), ("under", .int under), ("over", .int over), ("y", .str ty), ("below", .int below), ("above", .int above), ("x", .str tx), ("prec", .int p), ("kind", .int kind), ("first", .int first), ("script", sc)]
/-- what the last statements need -/
structure Rt (p first : Int) (ρ : Rho) : Prop where
  right : ρ.lookup ("right" : Str) = some (.bool true)
  prec : ρ.lookup ("prec" : Str) = some (.int p)
  first : ρ.lookup ("first" : Str) = some (.int first)
theorem bi_addT {x y z : Str} {P : V → Prop} (h : x.length ≤ 1000000 ∧ y.length ≤ 1000000 ∧ x ++ y = z) (p : P (.str z)) : BinW S d .Add (.str x) (.str y) P X := bi_addSb h.1 h.2.1 h.2.2 p
theorem apT {a b c : List Nat} (h : a ++ b = c) (hl : c.length ≤ 1000) : (T a).length ≤ 1000000 ∧ (T b).length ≤ 1000000 ∧ T a ++ T b = T c := by
  subst h
  rw [List.length_append] at hl
  exact ⟨by rw [len_T]; omega, by rw [len_T]; omega, T_append _ _⟩
theorem apL (s : String) {a b c : List Nat} (h : a ++ b = c) (hl : c.length ≤ 1000) (hs : Str.ofString s = T a := by decide +kernel) : (Str.ofString s).length ≤ 1000000 ∧ (T b).length ≤ 1000000 ∧ Str.ofString s ++ T b = T c := by rw [hs]; exact apT h hl
theorem apR (s : String) {a b c : List Nat} (h : a ++ b = c) (hl : c.length ≤ 1000) (hs : Str.ofString s = T b := by decide +kernel) : (T a).length ≤ 1000000 ∧ (Str.ofString s).length ≤ 1000000 ∧ T a ++ Str.ofString s = T c := by rw [hs]; exact apT h hl
theorem bd_small {a : Int} (h : a.natAbs < 10 ^ 50) : Bd 200 a := by
  unfold Bd
  have : (10 : Nat) ^ 50 < 2 ^ 200 := by decide +kernel
  omega
theorem spc_len (k : Nat) : (spc k).length = k := List.length_replicate
local macro_rules | `(tactic| kaf_suf) => `(tactic| first | refine bi_addT (by with_reducible assumption) ?_ | refine bi_addE (by with_reducible assumption) ?_ | refine bi_mulE (by with_reducible assumption) ?_)
local macro_rules | `(tactic| kbo_bools) => `(tactic| ((with_reducible show Fw.next = Fw.next ∧ _); refine ⟨rfl, rfl, rfl, rfl⟩))
section
variable {k : Nat} {tx ty : Str} {above below over under p first : Int} {neg neg' : Prop} {sc : V}
set_option maxHeartbeats 4000000 in
theorem kind0 (F : Facts S) (hp : 1 ≤ p) (hp2 : p ≤ 60) (hk : k ≤ 2) (N1 : LNum tx above below neg) :
    Ex1 S (d + 11) (scopeOf (stmtAt 51)) (lawSt 5) (lawEnv k tx ty above below over under 0 p first sc) (fun f ρ₁ => f = .next ∧ Rt p first ρ₁) X := by
  obtain ⟨⟨n, i, f, e, ok, e1, e2, rfl, hv, -, -⟩, pos, ha, hb⟩ := N1
  have f1 := F.f42.glob'
  have f2 := F.f42.can
  have f3 := F.f49.glob'
  have f4 := F.f49.can
  have nl := nt_len ok
  have sl := spc_len k
  have a1 := apT (a := spc k) (b := nt n i f e) rfl (by rw [List.length_append]; omega)
  have ba := bd_small ha
  have bb := bd_small (a := below) (by omega)
  repeat' kbo_bools
  refine m0 (d := d + 1) F ok ⟨by omega, by omega⟩ hp hp2 (by omega) fun a b qa qb => ?_
  repeat' kbo_bools
  refine held_walk (d := d + 9) F hp hp2 pos pos ba bb ba bb hv hv qa qb ?_
  repeat' kbo_bools
theorem nv_nonneg {v : Rat} {x0 x1 : Int} (h : v * (x1 : Rat) = (x0 : Rat)) (h1 : 0 < x1) (h0 : 0 ≤ x0) : 0 ≤ v := by
  refine rat_le_of_mul (c := (x1 : Rat)) (by exact_mod_cast h1) ?_
  rw [h, Rat.zero_mul]
  exact_mod_cast h0
theorem reach_is {v w : Rat} {x0 x1 y0 y1 ao rx hb ry : Int} (h : v * (x1 : Rat) = (x0 : Rat)) (h1 : 0 < x1) (h' : w * (y1 : Rat) = (y0 : Rat)) (h1' : 0 < y1) (hao : (if x0 < 0 then -x0 else x0) = ao) (hrx : ao * y0 = rx) (hh : 100 * x1 = hb) (hry : hb * y1 = ry) :
    ∃ R : Rat, R * 100 = ab v * w ∧ R * (ry : Rat) = (rx : Rat) := by
  refine ⟨ab v * w / 100, Rat.div_mul_cancel (by decide), ?_⟩
  have e1 := ab_int h1 h
  rw [hao] at e1
  rw [← hry, ← hh, ← hrx, Rat.intCast_mul, Rat.intCast_mul, Rat.intCast_mul, e1, ← h']
  have : ab v * w / 100 * 100 = ab v * w := Rat.div_mul_cancel (by decide)
  have h100 : ((100 : Int) : Rat) = 100 := rfl
  rw [h100]
  grind
set_option maxHeartbeats 4000000 in
theorem kind1 (F : Facts S) (hp : 1 ≤ p) (hp2 : p ≤ 60) (hk : k ≤ 2) (N1 : LNum tx above below neg) (N2 : LNum ty over under neg') :
    Ex1 S (d + 11) (scopeOf (stmtAt 51)) (lawSt 5) (lawEnv k tx ty above below over under 1 p first sc) (fun f ρ₁ => f = .next ∧ Rt p first ρ₁) X := by
  obtain ⟨⟨n, i, f, e, ok, e1, e2, rfl, hv, -, -⟩, pos, ha, hb⟩ := N1
  obtain ⟨⟨n', i', f', e', ok', e1', e2', rfl, hv', hneg, hnn⟩, pos', ha', hb'⟩ := N2
  have f1 := F.f42.glob'
  have f2 := F.f42.can
  have f3 := F.f49.glob'
  have f4 := F.f49.can
  have f5 := F.f50.glob'
  have f6 := F.f50.can
  have nl := nt_len ok
  have nl' := nt_len ok'
  have sl := spc_len k
  have ba := bd_small ha
  have bb := bd_small (a := below) (by omega)
  have ba' := bd_small ha'
  have bb' := bd_small (a := under) (by omega)
  have a1 := apL "[" (a := [91]) (b := nt n i f e) (c := 91 :: nt n i f e) rfl (by simp only [List.length_append, List.length_cons, List.length_nil, sl]; omega)
  have a2 := apR "," (a := 91 :: nt n i f e) (b := [44]) (c := 91 :: nt n i f e ++ [44]) rfl (by simp only [List.length_append, List.length_cons, List.length_nil, sl]; omega)
  have a3 := apT (a := 91 :: nt n i f e ++ [44]) (b := spc k) rfl (by simp only [List.length_append, List.length_cons, List.length_nil, sl]; omega)
  have a4 := apT (a := 91 :: nt n i f e ++ [44] ++ spc k) (b := nt n' i' f' e') rfl (by simp only [List.length_append, List.length_cons, List.length_nil, sl]; omega)
  have a5 := apR "]" (a := 91 :: nt n i f e ++ [44] ++ spc k ++ nt n' i' f' e') (b := [93]) (c := 91 :: (nt n i f e ++ 44 :: (spc k ++ (nt n' i' f' e' ++ [93])))) (by simp) (by simp only [List.length_append, List.length_cons, List.length_nil, sl]; omega)
  repeat' kbo_bools
  refine m1 (d := d + 1) F ok ⟨by omega, by omega⟩ ok' ⟨by omega, by omega⟩ hp hp2 (by omega) fun a b qa qb => ?_
  repeat' kbo_bools
  refine held_walk (d := d + 9) F hp hp2 pos pos' ba bb ba' bb' hv hv' qa qb ?_
  repeat' kbo_bools
set_option maxHeartbeats 4000000 in
theorem kind3 (F : Facts S) (hp : 1 ≤ p) (hp2 : p ≤ 60) (hk : k ≤ 2) (N1 : LNum tx above below neg) (N2 : LNum ty over under neg') (hn' : ¬ neg') :
    Ex1 S (d + 11) (scopeOf (stmtAt 51)) (lawSt 5) (lawEnv k tx ty above below over under 3 p first sc) (fun f ρ₁ => f = .next ∧ Rt p first ρ₁) X := by
  obtain ⟨⟨n, i, f, e, ok, e1, e2, rfl, hv, -, -⟩, pos, ha, hb⟩ := N1
  obtain ⟨⟨n', i', f', e', ok', e1', e2', rfl, hv', hneg, hnn⟩, pos', ha', hb'⟩ := N2
  have f1 := F.f42.glob'
  have f2 := F.f42.can
  have f3 := F.f49.glob'
  have f4 := F.f49.can
  have f5 := F.f50.glob'
  have f6 := F.f50.can
  have nl := nt_len ok
  have nl' := nt_len ok'
  have sl := spc_len k
  have ba := bd_small ha
  have bb := bd_small (a := below) (by omega)
  have ba' := bd_small ha'
  have bb' := bd_small (a := under) (by omega)
  have sx := lnum_sz hv pos hb ha
  have sy := lnum_sz hv' pos' hb' ha'
  have o0 : 0 ≤ over := by
    cases n' with
    | true => exact (hn' (hneg rfl)).elim
    | false => exact hnn rfl
  have ny : 0 ≤ nv n' i' f' e' := nv_nonneg hv' pos' o0
  have a1 := apT (a := nt n i f e) (b := spc k) rfl (by simp only [List.length_append, List.length_cons, List.length_nil, sl]; omega)
  have a2 := apR "+-" (a := nt n i f e ++ spc k) (b := [43, 45]) rfl (by simp only [List.length_append, List.length_cons, List.length_nil, sl]; omega)
  have a3 := apT (a := nt n i f e ++ spc k ++ [43, 45]) (b := spc k) rfl (by simp only [List.length_append, List.length_cons, List.length_nil, sl]; omega)
  have a4 := apT (a := nt n i f e ++ spc k ++ [43, 45] ++ spc k) (b := nt n' i' f' e') (c := nt n i f e ++ (spc k ++ 43 :: 45 :: (spc k ++ nt n' i' f' e'))) (by simp) (by simp only [List.length_append, List.length_cons, List.length_nil, sl]; omega)
  repeat' kbo_bools
  refine m3 (d := d + 1) F ok ⟨by omega, by omega⟩ ok' ⟨by omega, by omega⟩ hp hp2 (by omega) sx sy ny fun a b q => ?_
  obtain ⟨⟨ca, a1b, a2b, a3b⟩, cb, b1b, b2b, b3b⟩ := ab_parts hp hp2 sx sy q
  have be := ab_bey (R := nv n' i' f' e') hp ny ⟨fun _ => rfl, fun h => (by cases h)⟩ q
  repeat' kbo_bools
  refine beyond_walk (d := d + 9) F hp hp2 pos pos' (ba.mono (by decide)) (bb.mono (by decide)) (ba'.mono (by decide)) (bb'.mono (by decide)) hv hv' o0 ca cb ⟨a2b, a3b⟩ ⟨b2b, b3b⟩ a1b b1b be ?_
  repeat' kbo_bools
set_option maxHeartbeats 4000000 in
theorem kind4 (F : Facts S) (hp : 1 ≤ p) (hp2 : p ≤ 60) (hk : k ≤ 2) (N1 : LNum tx above below neg) (N2 : LNum ty over under neg') (hn' : ¬ neg') :
    Ex1 S (d + 11) (scopeOf (stmtAt 51)) (lawSt 5) (lawEnv k tx ty above below over under 4 p first sc) (fun f ρ₁ => f = .next ∧ Rt p first ρ₁) X := by
  obtain ⟨⟨n, i, f, e, ok, e1, e2, rfl, hv, -, -⟩, pos, ha, hb⟩ := N1
  obtain ⟨⟨n', i', f', e', ok', e1', e2', rfl, hv', hneg, hnn⟩, pos', ha', hb'⟩ := N2
  have f1 := F.f42.glob'
  have f2 := F.f42.can
  have f3 := F.f49.glob'
  have f4 := F.f49.can
  have f5 := F.f50.glob'
  have f6 := F.f50.can
  have nl := nt_len ok
  have nl' := nt_len ok'
  have sl := spc_len k
  have ba := bd_small ha
  have bb := bd_small (a := below) (by omega)
  have ba' := bd_small ha'
  have bb' := bd_small (a := under) (by omega)
  have sx := lnum_sz hv pos hb ha
  have sy := lnum_sz hv' pos' hb' ha'
  have o0 : 0 ≤ over := by
    cases n' with
    | true => exact (hn' (hneg rfl)).elim
    | false => exact hnn rfl
  have ny : 0 ≤ nv n' i' f' e' := nv_nonneg hv' pos' o0
  have a1 := apT (a := nt n i f e) (b := spc k) rfl (by simp only [List.length_append, List.length_cons, List.length_nil, sl]; omega)
  have a2 := apR "(" (a := nt n i f e ++ spc k) (b := [40]) rfl (by simp only [List.length_append, List.length_cons, List.length_nil, sl]; omega)
  have a3 := apT (a := nt n i f e ++ spc k ++ [40]) (b := nt n' i' f' e') rfl (by simp only [List.length_append, List.length_cons, List.length_nil, sl]; omega)
  have a4 := apR ")" (a := nt n i f e ++ spc k ++ [40] ++ nt n' i' f' e') (b := [41]) (c := nt n i f e ++ (spc k ++ 40 :: (nt n' i' f' e' ++ [41]))) (by simp) (by simp only [List.length_append, List.length_cons, List.length_nil, sl]; omega)
  repeat' kbo_bools
  refine m4 (d := d + 1) F ok ⟨by omega, by omega⟩ ok' ⟨by omega, by omega⟩ hp hp2 (by omega) sx sy ny fun a b q => ?_
  obtain ⟨⟨ca, a1b, a2b, a3b⟩, cb, b1b, b2b, b3b⟩ := ab_parts hp hp2 sx sy q
  have be := ab_bey (R := nv n' i' f' e') hp ny ⟨fun _ => rfl, fun h => (by cases h)⟩ q
  repeat' kbo_bools
  refine beyond_walk (d := d + 9) F hp hp2 pos pos' (ba.mono (by decide)) (bb.mono (by decide)) (ba'.mono (by decide)) (bb'.mono (by decide)) hv hv' o0 ca cb ⟨a2b, a3b⟩ ⟨b2b, b3b⟩ a1b b1b be ?_
  repeat' kbo_bools
set_option maxHeartbeats 4000000 in
theorem kind5 (F : Facts S) (hp : 1 ≤ p) (hp2 : p ≤ 60) (hk : k ≤ 2) (N1 : LNum tx above below neg) (N2 : LNum ty over under neg') (hn' : ¬ neg') :
    Ex1 S (d + 11) (scopeOf (stmtAt 51)) (lawSt 5) (lawEnv k tx ty above below over under 5 p first sc) (fun f ρ₁ => f = .next ∧ Rt p first ρ₁) X := by
  obtain ⟨⟨n, i, f, e, ok, e1, e2, rfl, hv, -, -⟩, pos, ha, hb⟩ := N1
  obtain ⟨⟨n', i', f', e', ok', e1', e2', rfl, hv', hneg, hnn⟩, pos', ha', hb'⟩ := N2
  have f1 := F.f42.glob'
  have f2 := F.f42.can
  have f3 := F.f49.glob'
  have f4 := F.f49.can
  have f5 := F.f50.glob'
  have f6 := F.f50.can
  have nl := nt_len ok
  have nl' := nt_len ok'
  have sl := spc_len k
  have ba := bd_small ha
  have bb := bd_small (a := below) (by omega)
  have ba' := bd_small ha'
  have bb' := bd_small (a := under) (by omega)
  have sx := lnum_sz hv pos hb ha
  have sy := lnum_sz hv' pos' hb' ha'
  have o0 : 0 ≤ over := by
    cases n' with
    | true => exact (hn' (hneg rfl)).elim
    | false => exact hnn rfl
  have ny : 0 ≤ nv n' i' f' e' := nv_nonneg hv' pos' o0
  have a1 := apT (a := nt n i f e) (b := spc k) rfl (by simp only [List.length_append, List.length_cons, List.length_nil, sl]; omega)
  have a2 := apR "(" (a := nt n i f e ++ spc k) (b := [40]) rfl (by simp only [List.length_append, List.length_cons, List.length_nil, sl]; omega)
  have a3 := apT (a := nt n i f e ++ spc k ++ [40]) (b := nt n' i' f' e') rfl (by simp only [List.length_append, List.length_cons, List.length_nil, sl]; omega)
  have a4 := apR "%)" (a := nt n i f e ++ spc k ++ [40] ++ nt n' i' f' e') (b := [37, 41]) (c := nt n i f e ++ (spc k ++ 40 :: (nt n' i' f' e' ++ [37, 41]))) (by simp) (by simp only [List.length_append, List.length_cons, List.length_nil, sl]; omega)
  have g0 := F.b_abs
  have c1 : CanCall S (.builtin "abs") := .inr (.inl ⟨_, rfl⟩)
  obtain ⟨ao, hao⟩ : ∃ z : Int, (if above < 0 then -above else above) = z := ⟨_, rfl⟩
  obtain ⟨rx, hrx⟩ : ∃ z : Int, ao * over = z := ⟨_, rfl⟩
  obtain ⟨hb1, hh⟩ : ∃ z : Int, 100 * below = z := ⟨_, rfl⟩
  obtain ⟨ry, hry⟩ : ∃ z : Int, hb1 * under = z := ⟨_, rfl⟩
  have bao : Bd 200 ao := hao ▸ ba.abs
  have bh1 : Bd 207 hb1 := hh ▸ (show Bd 7 100 by unfold Bd; decide).mul bb
  have m1 : IntMulOk ao over ∧ ao * over = rx := ⟨bao.mok ba' (by decide), hrx⟩
  have m2 : IntMulOk 100 below ∧ 100 * below = hb1 := ⟨(show Bd 7 100 by unfold Bd; decide).mok bb (by decide), hh⟩
  have m3 : IntMulOk hb1 under ∧ hb1 * under = ry := ⟨bh1.mok bb' (by decide), hry⟩
  have brx : Bd 400 rx := hrx ▸ bao.mul ba'
  have bry : Bd 407 ry := hry ▸ bh1.mul bb'
  have pry : 0 < ry := hry ▸ Int.mul_pos (by omega) pos'
  have rx0 : 0 ≤ rx := hrx ▸ Int.mul_nonneg (by rw [← hao]; split <;> omega) o0
  repeat' kbo_bools
  refine m5 (d := d + 1) F ok ⟨by omega, by omega⟩ ok' ⟨by omega, by omega⟩ hp hp2 (by omega) sx sy ny fun a b q => ?_
  obtain ⟨⟨ca, a1b, a2b, a3b⟩, cb, b1b, b2b, b3b⟩ := ab_parts hp hp2 sx sy q
  obtain ⟨R, hR, hRE⟩ := reach_is hv pos hv' pos' hao hrx hh hry
  have be := ab_bey (R := R) hp ny ⟨fun h => (by cases h), fun _ => hR⟩ q
  repeat' kbo_bools
  refine beyond_walk (d := d + 9) F hp hp2 pos pry (ba.mono (by decide)) (bb.mono (by decide)) (brx.mono (by decide)) (bry.mono (by decide)) hv hRE rx0 ca cb ⟨a2b, a3b⟩ ⟨b2b, b3b⟩ a1b b1b be ?_
  repeat' kbo_bools
end

end
end Mine
end

section
open PySem PySem.W PySem.Calls PyProof.Rows PySem.NumText PySem.StrLaws PySem.Builtin PySem.Builtin.Str
set_option Elab.async false
set_option maxRecDepth 100000
namespace Mine

-- expressions
local macro_rules | `(tactic| kaf_pre) => `(tactic| first | refine EvE_name (by rfl) ?_ | refine EvE_glob (by assumption) ?_ | refine EvE_built (by assumption) ?_ | refine EvE_int ?_ | refine EvE_binop ?_ | refine EvE_cmp ?_ | refine EvE_unop ?_ | refine EvE_str ?_ | refine EvE_bool ?_ | refine EvE_call ?_ | refine EvE_meth0 ?_ | refine EvE_meth ?_ | refine EvE_sub ?_ | refine EvE_tuple ?_ | refine EvE_ifexp ?_ | refine EvE_one ?_ | refine EvE_and ?_ | refine EvE_or ?_ | refine EvE_list ?_ | refine EvE_walrus ?_)
-- operators
local macro_rules | `(tactic| kaf_suf) => `(tactic| first | refine bi_add ?_ | refine bi_sub ?_ | refine bi_and ?_ | refine bi_xor ?_ | refine bi_shr (by omega) ?_)
local macro_rules | `(tactic| tb_start) => `(tactic| first | refine cmp_eq ?_ | refine cmp_lt ?_ | refine cmp_gt ?_ | refine cmp_le ?_ | refine cmp_ge ?_ | refine cmp_ne ?_ | refine cmp_eqS ?_ | refine cmp_eq4 ?_)
local macro_rules | `(tactic| kct_strs) => `(tactic| first | refine ib_add ?_ | refine ib_sub ?_ | refine ib_xor ?_ | refine ib_shr (by omega) ?_)
local macro_rules | `(tactic| ktu_off1L) => `(tactic| first | refine un_neg ?_ | refine un_not ?_)
-- tests
local macro_rules | `(tactic| kba_ints) => `(tactic| first | refine EvT_not ?_ | refine EvT_cmp ?_ | refine EvT_and ?_ | refine EvT_and_nil ?_ | refine EvT_or ?_ | refine EvT_or_nil ?_ | refine EvT_name ?_ | refine EvT_call ?_ | refine EvT_sub ?_ | refine EvT_bin ?_)
-- statements
local macro_rules | `(tactic| kcf_m) => `(tactic| first | refine Ex1_if ?_ | refine Ex1_ret ?_ | refine Ex1_assign ?_ | refine Ex1_aug (by rfl) ?_ | refine Ex1_unpack4 ?_ | refine Ex1_unpack2 ?_ | refine Ex1_unpack3 ?_ | refine Ex1_swap ?_ | refine Ex1_assert ?_)
-- calls
local macro_rules | `(tactic| tb_rel) => `(tactic| first | refine call_bits ?_)
-- items
local macro_rules | `(tactic| ktu_offI) => `(tactic| first | refine sub_tup (by decide) (by decide) rfl rfl ?_ | refine sub_list (by decide) (by decide) rfl ?_)
-- a test's two ways: what cannot be goes at once
local macro_rules | `(tactic| krn_off) => `(tactic| ((refine ⟨fun h => ?_, fun h => ?_⟩) <;> first
    | (exact absurd h (by decide))
    | ((simp only [decide_eq_true_eq, decide_eq_false_iff_not, beq_iff_eq, bne_iff_ne, beq_eq_false_iff_ne, bne_eq_false_iff_eq, Bool.not_eq_true', Bool.not_eq_false', Bool.not_true, Bool.not_false, ne_eq, Decidable.not_not, gt_iff_lt, ge_iff_le, Int.not_lt, Int.not_le] at h) <;> (try (exfalso; omega)))
    | skip))
local macro_rules | `(tactic| kbo_bools) => `(tactic| first
    | ((with_reducible show EvE _ _ _ _ _ _ _); kaf_pre)
    | ((with_reducible show BinW _ _ _ _ _ _ _); kaf_suf) | ((with_reducible show CmpW _ _ _ _ _ _ _); tb_start) | ((with_reducible show InpW _ _ _ _ _ _ _); kct_strs)
    | ((with_reducible show Ex1 _ _ _ _ _ _ _); kcf_m)
    | ((with_reducible show ExS _ _ _ _ _ _ _); (first | refine ExS_cons ?_ | refine ExS_nil ?_))
    | ((with_reducible show EvT _ _ _ _ _ _ _); kba_ints)
    | ((with_reducible show EvL _ _ _ _ _ _ _ _); (first | refine EvL_cons ?_ | refine EvL_nil ?_))
    | ((with_reducible show UnW _ _ _ _ _ _); ktu_off1L)
    | ((with_reducible show CallW _ _ _ _ _ _); tb_rel)
    | ((with_reducible show SubW _ _ _ _ _ _ _ _); ktu_offI)
    | ((with_reducible show (_ = true → _) ∧ (_ = false → _)); krn_off)
    | ((with_reducible show (_ = false → _) ∧ (_ = true → _)); krn_off)
    | ((with_reducible show _ = true ∧ _); refine ⟨?_, ?_⟩)
    | ((with_reducible show ∃ b, TruthIs _ b ∧ _); refine ⟨_, rfl, ?_⟩)
    | ((with_reducible show List.length _ ≤ 1000 ∧ _); refine ⟨by simp only [List.length_cons, List.length_nil]; decide, ?_⟩)
    | ((with_reducible show ∃ fv, V.raw _ = V.raw fv ∧ _); refine ⟨_, rfl, by assumption, ?_⟩)
    | ((with_reducible show ∃ id, MethIs _ _ _ id ∧ _); refine ⟨_, meth_bits, ?_⟩)
    | ((with_reducible show ∃ a, _); (first | refine ⟨_, _, _, _, rfl, ?_⟩ | refine ⟨_, _, rfl, ?_⟩ | refine ⟨_, _, _, rfl, ?_⟩)))

section
variable {S : Sy} {d : Nat} {X : Prop}
local macro_rules | `(tactic| kaf_pre) => `(tactic| first | refine EvE_name (by rfl) ?_ | refine EvE_glob (by with_reducible assumption) ?_ | refine EvE_built (by with_reducible assumption) ?_ | refine EvE_int ?_ | refine EvE_binop ?_ | refine EvE_cmp ?_ | refine EvE_unop ?_ | refine EvE_str ?_ | refine EvE_bool ?_ | refine EvE_call ?_ | refine EvE_methW0 ?_ | ((with_reducible show EvE _ _ _ (Expr.Call (Expr.Attribute _ (Str.ofString "replace") _) [Expr.Constant (Const.str _) _ _, Expr.Constant (Const.str _) _ _] [] _) _ _ _); refine EvE_replace' ?_) | refine EvE_methW ?_ | refine EvE_slice_nsE ?_ | refine EvE_slice_snE ?_ | refine EvE_sub ?_ | refine EvE_tuple ?_ | refine EvE_ifexp ?_ | refine EvE_one ?_ | refine EvE_and ?_ | refine EvE_or ?_ | refine EvE_list ?_ | refine EvE_walrus ?_)
local macro_rules | `(tactic| kcf_m) => `(tactic| first | refine Ex1_if ?_ | refine Ex1_ret ?_ | refine Ex1_assign ?_ | refine Ex1_aug (by rfl) ?_ | ((with_reducible show Ex1 _ _ _ (Stmt.Assign [Expr.Tuple [Expr.Name _ _, Expr.Name _ _] _ _] (Expr.Tuple _ _ _) _) _ _ _); refine Ex1_swap2 ?_) | ((with_reducible show Ex1 _ _ _ (Stmt.Assign [Expr.Tuple [Expr.Name _ _, Expr.Name _ _, Expr.Name _ _] _ _] (Expr.Tuple _ _ _) _) _ _ _); refine Ex1_swap3 ?_) | refine Ex1_unpackA2 ?_ | refine Ex1_unpackA3 ?_ | refine Ex1_assert ?_)
local macro_rules | `(tactic| tb_start) => `(tactic| first | refine cmp_eq ?_ | refine cmp_lt ?_ | refine cmp_gt ?_ | refine cmp_le ?_ | refine cmp_ge ?_ | refine cmp_ne ?_ | refine cmp_eqSb (by with_reducible assumption) ?_ | refine cmp_neSb (by with_reducible assumption) ?_ | refine cmp_eqS ?_ | refine cmp_neS ?_ | refine cmp_in (by with_reducible assumption) ?_ | refine cmp_notin (by with_reducible assumption) ?_)
local macro_rules | `(tactic| kaf_suf) => `(tactic| first | refine bi_addE (by with_reducible assumption) ?_ | refine bi_subE (by with_reducible assumption) ?_ | refine bi_mulE (by with_reducible assumption) ?_ | refine bi_fdivE (by with_reducible assumption) (by decide) (by decide) ?_ | refine bi_modE (by with_reducible assumption) (by omega) ?_ | refine bi_powE (by with_reducible assumption) ?_ | refine bi_mulSE (by with_reducible assumption) ?_ | refine bi_addSb (by omega) (by omega) (by with_reducible assumption) ?_ | refine bi_add ?_ | refine bi_sub ?_ | refine bi_fdiv (by decide) (by decide) ?_ | refine bi_mod (by decide) ?_)
local macro_rules | `(tactic| tb_rel) => `(tactic| first | refine call_bitsE (by with_reducible assumption) ?_ | refine call_strE (by with_reducible assumption) ?_ | refine call_maxE (by with_reducible assumption) ?_ | refine call_lenSE (by with_reducible assumption) (by omega) ?_ | refine call_lenLE (by with_reducible assumption) ?_ | refine call_lenL1 ?_ | refine call_lenL2 ?_ | refine call_intS (by with_reducible assumption) (by omega) ?_ | refine call_absE (by with_reducible assumption) ?_ | refine call_abs ?_)
local macro_rules | `(tactic| ktu_off1L) => `(tactic| first | refine un_negE (by with_reducible assumption) ?_ | refine un_neg ?_ | refine un_not ?_)
local macro_rules | `(tactic| ktu_offI) => `(tactic| first | refine sub_tup (by decide) (by decide) rfl rfl ?_ | refine sub_listE (by with_reducible assumption) ?_ | refine sub_list (by decide) (by decide) rfl ?_ | refine sub_strb (by omega) (by omega) (by omega) (by with_reducible assumption) ?_)
local macro_rules | `(tactic| kbo_bools) => `(tactic| first
    | ((with_reducible show EvE _ _ _ _ _ _ _); kaf_pre)
    | ((with_reducible show BinW _ _ _ _ _ _ _); kaf_suf) | ((with_reducible show CmpW _ _ _ _ _ _ _); tb_start) | ((with_reducible show InpW _ _ _ _ _ _ _); kct_strs)
    | ((with_reducible show Ex1 _ _ _ _ _ _ _); kcf_m)
    | ((with_reducible show ExS _ _ _ _ _ _ _); (first | refine ExS_cons ?_ | refine ExS_nil ?_))
    | ((with_reducible show EvT _ _ _ _ _ _ _); kba_ints)
    | ((with_reducible show EvL _ _ _ _ _ _ _ _); (first | refine EvL_cons ?_ | refine EvL_nil ?_))
    | ((with_reducible show UnW _ _ _ _ _ _); ktu_off1L)
    | ((with_reducible show CallW _ _ _ _ _ _); tb_rel)
    | ((with_reducible show SubW _ _ _ _ _ _ _ _); ktu_offI)
    | ((with_reducible show (_ = true → _) ∧ (_ = false → _)); krn_off)
    | ((with_reducible show (_ = false → _) ∧ (_ = true → _)); krn_off)
    | ((with_reducible show _ = true ∧ _); refine ⟨?_, ?_⟩)
    | ((with_reducible show ∃ b, TruthIs _ b ∧ _); refine ⟨_, rfl, ?_⟩)
    | ((with_reducible show List.length _ ≤ 1000 ∧ _); refine ⟨by simp only [List.length_cons, List.length_nil]; decide, ?_⟩)
    | ((with_reducible show ∃ fv, V.raw _ = V.raw fv ∧ _); refine ⟨_, rfl, by with_reducible assumption, ?_⟩)
    | ((with_reducible show ∃ id, MethW _ _ _ id ∧ _); (first | with_reducible apply mx_bits | with_reducible apply mx_lower | with_reducible apply mx_strip | with_reducible apply mx_rstrip | with_reducible apply mx_split | with_reducible apply mx_startswith))
    | ((with_reducible show ∃ a, _); (first | refine ⟨_, _, .inl rfl, ?_⟩ | refine ⟨_, _, .inr rfl, ?_⟩ | refine ⟨_, _, _, rfl, rfl, by omega, by with_reducible assumption, ?_⟩ | refine ⟨_, _, rfl, by omega, by with_reducible assumption, ?_⟩ | refine ⟨_, _, _, rfl, ?_⟩ | refine ⟨_, _, rfl, ?_⟩ | refine ⟨_, rfl, rfl, ?_⟩)))
local macro_rules | `(tactic| kaf_suf) => `(tactic| first | refine bi_addT (by with_reducible assumption) ?_ | refine bi_addE (by with_reducible assumption) ?_ | refine bi_mulE (by with_reducible assumption) ?_ | refine bi_subE (by with_reducible assumption) ?_ | refine bi_fdivE (by with_reducible assumption) (by decide) (by decide) ?_ | refine bi_modE (by with_reducible assumption) (by omega) ?_ | refine bi_powE (by with_reducible assumption) ?_)
local macro_rules | `(tactic| kbo_bools) => `(tactic| ((with_reducible show Fw.next = Fw.next ∧ _); refine ⟨rfl, rfl, rfl, rfl⟩))
theorem dg_app {a b : List Nat} (ha : Dg a) (hb : Dg b) : Dg (a ++ b) := fun c hc => by
  rcases List.mem_append.mp hc with h | h
  · exact ha c h
  · exact hb c h
theorem ok_parts {na nb : Nat} {x : Option Int} (h1 : na < 10 ^ 7) (h2 : nb < 10 ^ 7) (hx : ∀ k, x = some k → k.natAbs ≤ 100) : NOk false (dgs na) (some (dgs nb)) (leo x) := by
  have l1 := dgs_len (k := 7) (by decide) h1
  have l2 := dgs_len (k := 7) (by decide) h2
  have ne : dgs na ≠ [] := List.ne_nil_of_length_pos (dgs_ne na)
  have o := ln_ok (minus := false) (u := 0) (sc := 0) (x := x) (by decide) (by decide) hx
  exact ⟨dgs_dg na, ne, dgs_dg nb, o.de, by omega, by show (dgs nb).length ≤ 60; omega⟩
theorem int_digits {l : List Nat} (h : Dg l) (hne : l ≠ []) (hl : l.length ≤ 600) : PySem.intText? (T l) = some (digitsVal l : Int) := by
  have := int_T (n := false) h hne hl
  exact this
theorem er_leo (k : Int) : er (leo (some k)) = 101 :: (mi (decide (k < 0)) ++ dgs k.natAbs) := rfl
structure Stop (p : Prop) : Prop where
  out : p
theorem Ex1_stop {cs : Scope} {st : Stmt} {ρ : Rho} {P : Fw → Rho → Prop} (h : Stop (Ex1 S d cs st ρ P X)) : Ex1 S d cs st ρ P X := h.out
local macro_rules | `(tactic| kcf_m) => `(tactic| ((with_reducible show Ex1 _ _ _ (Stmt.Assign [_] (Expr.ListComp _ _ _ _) _) _ _ _); refine Ex1_stop ?_))
theorem bd_dv {l : List Nat} (h : Dg l) (hl : l.length ≤ 14) : Bd 47 (digitsVal l : Int) := by
  unfold Bd
  have h1 := dv_lt l h
  have h2 : (10 : Nat) ^ l.length ≤ 10 ^ 14 := Nat.pow_le_pow_right (by decide) hl
  have h3 : (10 : Nat) ^ 14 < 2 ^ 47 := by decide +kernel
  show (digitsVal l : Int).natAbs < 2 ^ 47
  rw [Int.natAbs_natCast]; omega
theorem bd_p10 (k : Nat) : Bd (4 * k + 1) ((10 : Int) ^ k) := by
  unfold Bd
  rw [Int.natAbs_pow]
  show 10 ^ k < 2 ^ (4 * k + 1)
  have h1 : (10 : Nat) ^ k ≤ 16 ^ k := Nat.pow_le_pow_left (by decide) k
  have h2 : (16 : Nat) ^ k = 2 ^ (4 * k) := by rw [Nat.pow_mul]
  rw [Nat.pow_succ]
  have := Nat.two_pow_pos (4 * k)
  omega
theorem nv_leo (A B : List Nat) (x : Option Int) : nv false A (some B) (leo x) = (((digitsVal (A ++ B) : Nat) : Int) : Rat) * q10 (x.getD 0 - (B.length : Int)) := by
  unfold nv
  rw [ev_leo]
  rfl
theorem ends_is {low sh : Int} {n : Nat} (hb : Bd 47 low) (hn : n ≤ 7) (h1 : -20 ≤ sh) (h2 : sh ≤ 20) : ∃ x0 x1 : Int, 0 < x1 ∧ Bd 200 x0 ∧ Bd 200 x1 ∧ ((low : Rat) * q10 (sh - (n : Int)) * (x1 : Rat) = (x0 : Rat)) ∧
    ((0 ≤ sh ∧ low * 10 ^ sh.toNat = x0 ∧ IntMulOk low (10 ^ sh.toNat) ∧ 10 ^ n = x1) ∨ (sh < 0 ∧ low = x0 ∧ IntMulOk (10 ^ n) (10 ^ (-sh).toNat) ∧ 10 ^ n * 10 ^ (-sh).toNat = x1)) := by
  have b1 : Bd 29 ((10 : Int) ^ n) := (bd_p10 n).mono (by omega)
  have p1 : (0 : Int) < 10 ^ n := Int.pow_pos (by decide)
  rcases (by omega : 0 ≤ sh ∨ sh < 0) with h0 | h0
  · have b2 : Bd 81 ((10 : Int) ^ sh.toNat) := (bd_p10 sh.toNat).mono (by omega)
    exact ⟨_, _, p1, (hb.mul b2).mono (by decide), b1.mono (by decide), ln_val1 low n h0, .inl ⟨h0, rfl, hb.mok b2 (by decide), rfl⟩⟩
  · have b2 : Bd 81 ((10 : Int) ^ (-sh).toNat) := (bd_p10 (-sh).toNat).mono (by omega)
    exact ⟨_, _, Int.mul_pos p1 (Int.pow_pos (by decide)), hb.mono (by decide), (b1.mul b2).mono (by decide), ln_val2 low n h0, .inr ⟨h0, rfl, b1.mok b2 (by decide), rfl⟩⟩
section
local macro_rules | `(tactic| kaf_pre) => `(tactic| ((with_reducible show EvE _ _ _ (Expr.IfExp _ _ _ _) _ _ _); refine EvE_stop ?_))
variable {k : Nat} {tx ty : Str} {above below over under p first : Int} {sc : V}
set_option maxHeartbeats 8000000 in
theorem kind2 (F : Facts S) (hp : 1 ≤ p) (hp2 : p ≤ 60) :
    Ex1 S (d + 11) (scopeOf (stmtAt 51)) (lawSt 5) (lawEnv k tx ty above below over under 2 p first sc) (fun f ρ₁ => f = .next ∧ Rt p first ρ₁) X := by
  have f1 := F.f42.glob'
  have f2 := F.f42.can
  have f3 := F.f49.glob'
  have f4 := F.f49.can
  have f5 := F.b_int
  have f6 := F.b_str
  have f7 := F.b_len
  have c1 : CanCall S (.type "int") := .inr (.inr ⟨_, rfl⟩)
  have c2 : CanCall S (.type "str") := .inr (.inr ⟨_, rfl⟩)
  have c3 : CanCall S (.builtin "len") := .inr (.inl ⟨_, rfl⟩)
  have p6 : (0 : Int) ≤ 6 ∧ (Builtin.Int.intBits 10 : Int) * 6 ≤ 2 ^ 27 ∧ (10 : Int) ^ (6 : Int).toNat = 1000000 := by decide +kernel
  have p7 : (0 : Int) ≤ 7 ∧ (Builtin.Int.intBits 10 : Int) * 7 ≤ 2 ^ 27 ∧ (10 : Int) ^ (7 : Int).toNat = 10000000 := by decide +kernel
  have p13 : (0 : Int) ≤ 13 ∧ (Builtin.Int.intBits 10 : Int) * 13 ≤ 2 ^ 27 ∧ (10 : Int) ^ (13 : Int).toNat = 10000000000000 := by decide +kernel
  have b10 : (Builtin.Int.intBits 10 : Int) = 4 := by decide +kernel
  -- the numbers
  obtain ⟨q1, e1⟩ : ∃ z : Int, first.fdiv 1080 = z := ⟨_, rfl⟩
  have u1 : 0 ≤ q1.fmod 1000 ∧ q1.fmod 1000 < 1000 := by rw [Int.fmod_eq_emod_of_nonneg _ (by decide)]; omega
  obtain ⟨na, hna⟩ := Int.eq_ofNat_of_zero_le u1.1
  have e2 : q1.fmod 1000 = (na : Int) := hna
  have na3 : na < 1000 := by omega
  obtain ⟨q2, e3⟩ : ∃ z : Int, first.fdiv 10000000 = z := ⟨_, rfl⟩
  have u2 : 0 ≤ q2.fmod 1000000 ∧ q2.fmod 1000000 < 1000000 := by rw [Int.fmod_eq_emod_of_nonneg _ (by decide)]; omega
  obtain ⟨nb, hnb⟩ := Int.eq_ofNat_of_zero_le u2.1
  have e4 : q2.fmod 1000000 = (nb : Int) := hnb
  have nb6 : nb < 1000000 := by omega
  obtain ⟨q3, e5⟩ : ∃ z : Int, first.fdiv 10000000000000 = z := ⟨_, rfl⟩
  have u3 : 0 ≤ q3.fmod 41 ∧ q3.fmod 41 < 41 := by rw [Int.fmod_eq_emod_of_nonneg _ (by decide)]; omega
  obtain ⟨z3, e6⟩ : ∃ z : Int, q3.fmod 41 = z := ⟨_, rfl⟩
  obtain ⟨sh, e7⟩ : ∃ z : Int, z3 - 20 = z := ⟨_, rfl⟩
  have sh0 : -20 ≤ sh ∧ sh ≤ 20 := by omega
  clear hna hnb u1 u2
  have e8 : (nb : Int) + 7 = ((nb + 7 : Nat) : Int) := by omega
  obtain ⟨nc, hnc⟩ : ∃ n : Nat, nb + 7 = n := ⟨_, rfl⟩
  rw [hnc] at e8
  have nc6 : nc < 10000000 := by omega
  have s1 : (na : Int).natAbs.log2 < 1920 ∧ Str.ofString (toString (na : Int)) = T (dgs na) := ⟨log_small (k := 1920) (by
    have : (10 : Nat) ^ 18 < 2 ^ 1920 := by decide +kernel
    omega) (by decide), str_nat na⟩
  have s2 : (nb : Int).natAbs.log2 < 1920 ∧ Str.ofString (toString (nb : Int)) = T (dgs nb) := ⟨log_small (k := 1920) (by
    have : (10 : Nat) ^ 18 < 2 ^ 1920 := by decide +kernel
    omega) (by decide), str_nat nb⟩
  have s3 : (nc : Int).natAbs.log2 < 1920 ∧ Str.ofString (toString (nc : Int)) = T (dgs nc) := ⟨log_small (k := 1920) (by
    have : (10 : Nat) ^ 18 < 2 ^ 1920 := by decide +kernel
    omega) (by decide), str_nat nc⟩
  have la := dgs_len (m := na) (k := 7) (by decide) (by omega)
  have lb := dgs_len (m := nb) (k := 7) (by decide) (by omega)
  have lc := dgs_len (m := nc) (k := 7) (by decide) (by omega)
  have ne : dgs na ≠ [] := List.ne_nil_of_length_pos (dgs_ne na)
  obtain ⟨A, hA⟩ : ∃ l, dgs na = l := ⟨_, rfl⟩
  obtain ⟨B, hB⟩ : ∃ l, dgs nb = l := ⟨_, rfl⟩
  obtain ⟨C, hC⟩ : ∃ l, dgs nc = l := ⟨_, rfl⟩
  have dA : Dg A := hA ▸ dgs_dg na
  have dB : Dg B := hB ▸ dgs_dg nb
  have dC : Dg C := hC ▸ dgs_dg nc
  have okB : ∀ x : Option Int, (∀ k, x = some k → k.natAbs ≤ 100) → NOk false A (some B) (leo x) := fun x hx => hA ▸ hB ▸ ok_parts (na := na) (nb := nb) (by omega) (by omega) hx
  have okC : ∀ x : Option Int, (∀ k, x = some k → k.natAbs ≤ 100) → NOk false A (some C) (leo x) := fun x hx => hA ▸ hC ▸ ok_parts (na := na) (nb := nc) (by omega) (by omega) hx
  rw [hA] at s1 la ne
  rw [hB] at s2 lb
  rw [hC] at s3 lc
  clear hA hB hC hnc
  have t1 := apT (a := A) (b := B) rfl (by simp only [List.length_append, List.length_cons, List.length_nil]; omega)
  have t2 := apT (a := A) (b := C) rfl (by simp only [List.length_append, List.length_cons, List.length_nil]; omega)
  have lAB : (T (A ++ B)).length ≤ 640 := by rw [len_T]; simp only [List.length_append]; omega
  have lAC : (T (A ++ C)).length ≤ 640 := by rw [len_T]; simp only [List.length_append]; omega
  have lTB : (T B).length ≤ 640 := by rw [len_T]; omega
  have lTC : (T C).length ≤ 640 := by rw [len_T]; omega
  have neAB : A ++ B ≠ [] := by simp [ne]
  have neAC : A ++ C ≠ [] := by simp [ne]
  have i1 := int_digits (dg_app dA dB) neAB (by rw [List.length_append]; omega)
  have i2 := int_digits (dg_app dA dC) neAC (by rw [List.length_append]; omega)
  have bd1 := bd_dv (dg_app dA dB) (by rw [List.length_append]; omega)
  have bd2 := bd_dv (dg_app dA dC) (by rw [List.length_append]; omega)
  have n1 := fun x => nv_leo A B x
  have n2 := fun x => nv_leo A C x
  obtain ⟨low, hlow⟩ : ∃ z : Int, ((digitsVal (A ++ B) : Nat) : Int) = z := ⟨_, rfl⟩
  obtain ⟨high, hhigh⟩ : ∃ z : Int, ((digitsVal (A ++ C) : Nat) : Int) = z := ⟨_, rfl⟩
  rw [hlow] at i1 bd1 n1
  rw [hhigh] at i2 bd2 n2
  have g1 : ((T B).length : Int) = (B.length : Int) := by rw [len_T]
  have g2 : ((T C).length : Int) = (C.length : Int) := by rw [len_T]
  obtain ⟨DB, hDB⟩ : ∃ z : Int, (10 : Int) ^ B.length = z := ⟨_, rfl⟩
  obtain ⟨DC, hDC⟩ : ∃ z : Int, (10 : Int) ^ C.length = z := ⟨_, rfl⟩
  have pB : (0 : Int) ≤ (B.length : Int) ∧ (Builtin.Int.intBits 10 : Int) * (B.length : Int) ≤ 2 ^ 27 ∧ (10 : Int) ^ (B.length : Int).toNat = DB := ⟨by omega, by rw [b10]; omega, by rw [Int.toNat_natCast]; exact hDB⟩
  have pC : (0 : Int) ≤ (C.length : Int) ∧ (Builtin.Int.intBits 10 : Int) * (C.length : Int) ≤ 2 ^ 27 ∧ (10 : Int) ^ (C.length : Int).toNat = DC := ⟨by omega, by rw [b10]; omega, by rw [Int.toNat_natCast]; exact hDC⟩
  have a1 := apR "." (a := A) (b := [46]) rfl (by simp only [List.length_append, List.length_cons, List.length_nil]; omega)
  have a2 := apR "[" (a := A ++ [46]) (b := [91]) rfl (by simp only [List.length_append, List.length_cons, List.length_nil]; omega)
  have a3 := apT (a := A ++ [46] ++ [91]) (b := B) rfl (by simp only [List.length_append, List.length_cons, List.length_nil]; omega)
  have a4 := apR "," (a := A ++ [46] ++ [91] ++ B) (b := [44]) rfl (by simp only [List.length_append, List.length_cons, List.length_nil]; omega)
  have a5 := apT (a := A ++ [46] ++ [91] ++ B ++ [44]) (b := C) rfl (by simp only [List.length_append, List.length_cons, List.length_nil]; omega)
  have a6 := apR "]" (a := A ++ [46] ++ [91] ++ B ++ [44] ++ C) (b := [93]) rfl (by simp only [List.length_append, List.length_cons, List.length_nil]; omega)
  obtain ⟨x0, x1, px1, bx0, bx1, ex, hpx⟩ := ends_is (low := low) (sh := sh) (n := B.length) bd1 lb sh0.1 sh0.2
  obtain ⟨y0, y1, py1, by0, by1, ey, hpy⟩ := ends_is (low := high) (sh := sh) (n := C.length) bd2 lc sh0.1 sh0.2
  rw [hDB] at hpx
  rw [hDC] at hpy
  obtain ⟨x, hx0, hxb, hxx⟩ : ∃ x : Option Int, x.getD 0 = sh ∧ (∀ k, x = some k → k.natAbs ≤ 100) ∧ ((sh = 0 ∧ x = none) ∨ (sh ≠ 0 ∧ x = some sh)) := by
    rcases (by omega : sh = 0 ∨ sh ≠ 0) with h | h
    · exact ⟨none, h.symm, fun k hk => by (cases hk), .inl ⟨h, rfl⟩⟩
    · exact ⟨some sh, rfl, fun k hk => by (cases hk; omega), .inr ⟨h, rfl⟩⟩
  have ok := okB _ hxb
  have ok' := okC _ hxb
  have hev : ev (leo x) = sh := by rw [ev_leo, hx0]
  have n1' := n1 x
  have n2' := n2 x
  rw [hx0] at n1' n2'
  rw [← n1'] at ex
  rw [← n2'] at ey
  have ler : (er (leo x)).length ≤ 20 := by
    rcases hxx with ⟨_, h⟩ | ⟨_, h⟩
    · rw [h]; decide
    · rw [h, er_leo]
      have ls := dgs_len (m := sh.natAbs) (k := 7) (by decide) (by omega)
      have lm := mi_len (decide (sh < 0))
      simp only [List.length_cons, List.length_append]; omega
  have a7 := apT (a := A ++ [46] ++ [91] ++ B ++ [44] ++ C ++ [93]) (b := er (leo x)) (c := A ++ 46 :: 91 :: (B ++ 44 :: (C ++ 93 :: er (leo x)))) (by simp) (by simp; omega)
  clear n1 n2 n1' n2' okB okC dA dB dC neAB neAC ne hlow hhigh hx0 hxb
  replace ex := Hid.mk ex
  replace ey := Hid.mk ey
  replace hxx := Hid.mk hxx
  replace hpx := Hid.mk hpx
  replace hpy := Hid.mk hpy
  repeat' kbo_bools
  refine EvE_cut (.str (T (er (leo x)))) (EvE_ifexp ?_) ?_
  · rcases hxx.out with ⟨h, rfl⟩ | ⟨h, rfl⟩
    · repeat' kbo_bools
      exact ⟨congrArg V.str (by decide +kernel), rfl⟩
    · have s4 : sh.natAbs.log2 < 1920 ∧ Str.ofString (toString sh) = T (mi (decide (sh < 0)) ++ dgs sh.natAbs) := ⟨log_small (k := 1920) (by
        have : (10 : Nat) ^ 18 < 2 ^ 1920 := by decide +kernel
        omega) (by decide), str_int sh⟩
      have a8 := apL "e" (a := [101]) (b := mi (decide (sh < 0)) ++ dgs sh.natAbs) (c := er (leo (some sh))) rfl (by omega)
      repeat' kbo_bools
      exact ⟨rfl, rfl⟩
  repeat' kbo_bools
  refine ⟨?_⟩
  refine Ex1_assign_comp2 [("shift", .int sh)] ?_
  repeat' kbo_bools
  refine ⟨[(.int low, .int DB), (.int high, .int DC)], [.tup [.int x0, .int x1], .tup [.int y0, .int y1]], rfl, by simp, ?_, ?_, ?_⟩
  · exact hf_cons rfl rfl rfl hf_nil
  · refine .cons ?_ (.tup (.cons (.int _) (.cons (.int _) .nil))) (.cons ?_ (.tup (.cons (.int _) (.cons (.int _) .nil))) .nil)
    · show EvE _ _ _ _ _ _ _
      refine EvE_ifexp ?_
      rcases hpx.out with ⟨hs, rfl, mk1, rfl⟩ | ⟨hs, rfl, mk1, rfl⟩
      · have pW : (0 : Int) ≤ sh ∧ (Builtin.Int.intBits 10 : Int) * sh ≤ 2 ^ 27 ∧ (10 : Int) ^ sh.toNat = 10 ^ sh.toNat := ⟨by omega, by rw [b10]; omega, rfl⟩
        have mm : IntMulOk low (10 ^ sh.toNat) ∧ low * 10 ^ sh.toNat = low * 10 ^ sh.toNat := ⟨mk1, rfl⟩
        repeat' kbo_bools
        all_goals rfl
      · obtain ⟨ns, hns⟩ : ∃ z : Int, -sh = z := ⟨_, rfl⟩
        rw [hns] at mk1 ⊢
        have pW : (0 : Int) ≤ ns ∧ (Builtin.Int.intBits 10 : Int) * ns ≤ 2 ^ 27 ∧ (10 : Int) ^ ns.toNat = 10 ^ ns.toNat := ⟨by omega, by rw [b10]; omega, rfl⟩
        have mm : IntMulOk (DB : Int) (10 ^ ns.toNat) ∧ DB * 10 ^ ns.toNat = DB * 10 ^ ns.toNat := ⟨mk1, rfl⟩
        repeat' kbo_bools
        all_goals rfl
    · show EvE _ _ _ _ _ _ _
      refine EvE_ifexp ?_
      rcases hpy.out with ⟨hs, rfl, mk1, rfl⟩ | ⟨hs, rfl, mk1, rfl⟩
      · have pW : (0 : Int) ≤ sh ∧ (Builtin.Int.intBits 10 : Int) * sh ≤ 2 ^ 27 ∧ (10 : Int) ^ sh.toNat = 10 ^ sh.toNat := ⟨by omega, by rw [b10]; omega, rfl⟩
        have mm : IntMulOk high (10 ^ sh.toNat) ∧ high * 10 ^ sh.toNat = high * 10 ^ sh.toNat := ⟨mk1, rfl⟩
        repeat' kbo_bools
        all_goals rfl
      · obtain ⟨ns, hns⟩ : ∃ z : Int, -sh = z := ⟨_, rfl⟩
        rw [hns] at mk1 ⊢
        have pW : (0 : Int) ≤ ns ∧ (Builtin.Int.intBits 10 : Int) * ns ≤ 2 ^ 27 ∧ (10 : Int) ^ ns.toNat = 10 ^ ns.toNat := ⟨by omega, by rw [b10]; omega, rfl⟩
        have mm : IntMulOk (DC : Int) (10 ^ ns.toNat) ∧ DC * 10 ^ ns.toNat = DC * 10 ^ ns.toNat := ⟨mk1, rfl⟩
        repeat' kbo_bools
        all_goals rfl
  · repeat' kbo_bools
    refine m2 (d := d + 1) F ok ok' ⟨by omega, by omega⟩ hp hp2 fun a b qa qb => ?_
    repeat' kbo_bools
    refine held_walk (d := d + 9) F hp hp2 px1 py1 bx0 bx1 by0 by1 ex.out ey.out qa qb ?_
    repeat' kbo_bools
end

end
end Mine
end

section
open PySem PySem.W PySem.Calls PyProof.Rows PySem.NumText PySem.StrLaws PySem.Builtin PySem.Builtin.Str
set_option Elab.async false
set_option maxRecDepth 100000
namespace Mine

-- expressions
local macro_rules | `(tactic| kaf_pre) => `(tactic| first | refine EvE_name (by rfl) ?_ | refine EvE_glob (by assumption) ?_ | refine EvE_built (by assumption) ?_ | refine EvE_int ?_ | refine EvE_binop ?_ | refine EvE_cmp ?_ | refine EvE_unop ?_ | refine EvE_str ?_ | refine EvE_bool ?_ | refine EvE_call ?_ | refine EvE_meth0 ?_ | refine EvE_meth ?_ | refine EvE_sub ?_ | refine EvE_tuple ?_ | refine EvE_ifexp ?_ | refine EvE_one ?_ | refine EvE_and ?_ | refine EvE_or ?_ | refine EvE_list ?_ | refine EvE_walrus ?_)
-- operators
local macro_rules | `(tactic| kaf_suf) => `(tactic| first | refine bi_add ?_ | refine bi_sub ?_ | refine bi_and ?_ | refine bi_xor ?_ | refine bi_shr (by omega) ?_)
local macro_rules | `(tactic| tb_start) => `(tactic| first | refine cmp_eq ?_ | refine cmp_lt ?_ | refine cmp_gt ?_ | refine cmp_le ?_ | refine cmp_ge ?_ | refine cmp_ne ?_ | refine cmp_eqS ?_ | refine cmp_eq4 ?_)
local macro_rules | `(tactic| kct_strs) => `(tactic| first | refine ib_add ?_ | refine ib_sub ?_ | refine ib_xor ?_ | refine ib_shr (by omega) ?_)
local macro_rules | `(tactic| ktu_off1L) => `(tactic| first | refine un_neg ?_ | refine un_not ?_)
-- tests
local macro_rules | `(tactic| kba_ints) => `(tactic| first | refine EvT_not ?_ | refine EvT_cmp ?_ | refine EvT_and ?_ | refine EvT_and_nil ?_ | refine EvT_or ?_ | refine EvT_or_nil ?_ | refine EvT_name ?_ | refine EvT_call ?_ | refine EvT_sub ?_ | refine EvT_bin ?_)
-- statements
local macro_rules | `(tactic| kcf_m) => `(tactic| first | refine Ex1_if ?_ | refine Ex1_ret ?_ | refine Ex1_assign ?_ | refine Ex1_aug (by rfl) ?_ | refine Ex1_unpack4 ?_ | refine Ex1_unpack2 ?_ | refine Ex1_unpack3 ?_ | refine Ex1_swap ?_ | refine Ex1_assert ?_)
-- calls
local macro_rules | `(tactic| tb_rel) => `(tactic| first | refine call_bits ?_)
-- items
local macro_rules | `(tactic| ktu_offI) => `(tactic| first | refine sub_tup (by decide) (by decide) rfl rfl ?_ | refine sub_list (by decide) (by decide) rfl ?_)
-- a test's two ways: what cannot be goes at once
local macro_rules | `(tactic| krn_off) => `(tactic| ((refine ⟨fun h => ?_, fun h => ?_⟩) <;> first
    | (exact absurd h (by decide))
    | ((simp only [decide_eq_true_eq, decide_eq_false_iff_not, beq_iff_eq, bne_iff_ne, beq_eq_false_iff_ne, bne_eq_false_iff_eq, Bool.not_eq_true', Bool.not_eq_false', Bool.not_true, Bool.not_false, ne_eq, Decidable.not_not, gt_iff_lt, ge_iff_le, Int.not_lt, Int.not_le] at h) <;> (try (exfalso; omega)))
    | skip))
local macro_rules | `(tactic| kbo_bools) => `(tactic| first
    | ((with_reducible show EvE _ _ _ _ _ _ _); kaf_pre)
    | ((with_reducible show BinW _ _ _ _ _ _ _); kaf_suf) | ((with_reducible show CmpW _ _ _ _ _ _ _); tb_start) | ((with_reducible show InpW _ _ _ _ _ _ _); kct_strs)
    | ((with_reducible show Ex1 _ _ _ _ _ _ _); kcf_m)
    | ((with_reducible show ExS _ _ _ _ _ _ _); (first | refine ExS_cons ?_ | refine ExS_nil ?_))
    | ((with_reducible show EvT _ _ _ _ _ _ _); kba_ints)
    | ((with_reducible show EvL _ _ _ _ _ _ _ _); (first | refine EvL_cons ?_ | refine EvL_nil ?_))
    | ((with_reducible show UnW _ _ _ _ _ _); ktu_off1L)
    | ((with_reducible show CallW _ _ _ _ _ _); tb_rel)
    | ((with_reducible show SubW _ _ _ _ _ _ _ _); ktu_offI)
    | ((with_reducible show (_ = true → _) ∧ (_ = false → _)); krn_off)
    | ((with_reducible show (_ = false → _) ∧ (_ = true → _)); krn_off)
    | ((with_reducible show _ = true ∧ _); refine ⟨?_, ?_⟩)
    | ((with_reducible show ∃ b, TruthIs _ b ∧ _); refine ⟨_, rfl, ?_⟩)
    | ((with_reducible show List.length _ ≤ 1000 ∧ _); refine ⟨by simp only [List.length_cons, List.length_nil]; decide, ?_⟩)
    | ((with_reducible show ∃ fv, V.raw _ = V.raw fv ∧ _); refine ⟨_, rfl, by assumption, ?_⟩)
    | ((with_reducible show ∃ id, MethIs _ _ _ id ∧ _); refine ⟨_, meth_bits, ?_⟩)
    | ((with_reducible show ∃ a, _); (first | refine ⟨_, _, _, _, rfl, ?_⟩ | refine ⟨_, _, rfl, ?_⟩ | refine ⟨_, _, _, rfl, ?_⟩)))

section
variable {S : Sy} {d : Nat} {X : Prop}
local macro_rules | `(tactic| kaf_pre) => `(tactic| first | refine EvE_name (by rfl) ?_ | refine EvE_glob (by with_reducible assumption) ?_ | refine EvE_built (by with_reducible assumption) ?_ | refine EvE_int ?_ | refine EvE_binop ?_ | refine EvE_cmp ?_ | refine EvE_unop ?_ | refine EvE_str ?_ | refine EvE_bool ?_ | refine EvE_call ?_ | refine EvE_methW0 ?_ | ((with_reducible show EvE _ _ _ (Expr.Call (Expr.Attribute _ (Str.ofString "replace") _) [Expr.Constant (Const.str _) _ _, Expr.Constant (Const.str _) _ _] [] _) _ _ _); refine EvE_replace' ?_) | refine EvE_methW ?_ | refine EvE_slice_nsE ?_ | refine EvE_slice_snE ?_ | refine EvE_sub ?_ | refine EvE_tuple ?_ | refine EvE_ifexp ?_ | refine EvE_one ?_ | refine EvE_and ?_ | refine EvE_or ?_ | refine EvE_list ?_ | refine EvE_walrus ?_)
local macro_rules | `(tactic| kcf_m) => `(tactic| first | refine Ex1_if ?_ | refine Ex1_ret ?_ | refine Ex1_assign ?_ | refine Ex1_aug (by rfl) ?_ | ((with_reducible show Ex1 _ _ _ (Stmt.Assign [Expr.Tuple [Expr.Name _ _, Expr.Name _ _] _ _] (Expr.Tuple _ _ _) _) _ _ _); refine Ex1_swap2 ?_) | ((with_reducible show Ex1 _ _ _ (Stmt.Assign [Expr.Tuple [Expr.Name _ _, Expr.Name _ _, Expr.Name _ _] _ _] (Expr.Tuple _ _ _) _) _ _ _); refine Ex1_swap3 ?_) | refine Ex1_unpackA2 ?_ | refine Ex1_unpackA3 ?_ | refine Ex1_assert ?_)
local macro_rules | `(tactic| tb_start) => `(tactic| first | refine cmp_eq ?_ | refine cmp_lt ?_ | refine cmp_gt ?_ | refine cmp_le ?_ | refine cmp_ge ?_ | refine cmp_ne ?_ | refine cmp_eqSb (by with_reducible assumption) ?_ | refine cmp_neSb (by with_reducible assumption) ?_ | refine cmp_eqS ?_ | refine cmp_neS ?_ | refine cmp_in (by with_reducible assumption) ?_ | refine cmp_notin (by with_reducible assumption) ?_)
local macro_rules | `(tactic| kaf_suf) => `(tactic| first | refine bi_addE (by with_reducible assumption) ?_ | refine bi_subE (by with_reducible assumption) ?_ | refine bi_mulE (by with_reducible assumption) ?_ | refine bi_fdivE (by with_reducible assumption) (by decide) (by decide) ?_ | refine bi_modE (by with_reducible assumption) (by omega) ?_ | refine bi_powE (by with_reducible assumption) ?_ | refine bi_mulSE (by with_reducible assumption) ?_ | refine bi_addSb (by omega) (by omega) (by with_reducible assumption) ?_ | refine bi_add ?_ | refine bi_sub ?_ | refine bi_fdiv (by decide) (by decide) ?_ | refine bi_mod (by decide) ?_)
local macro_rules | `(tactic| tb_rel) => `(tactic| first | refine call_bitsE (by with_reducible assumption) ?_ | refine call_strE (by with_reducible assumption) ?_ | refine call_maxE (by with_reducible assumption) ?_ | refine call_lenSE (by with_reducible assumption) (by omega) ?_ | refine call_lenLE (by with_reducible assumption) ?_ | refine call_lenL1 ?_ | refine call_lenL2 ?_ | refine call_intS (by with_reducible assumption) (by omega) ?_ | refine call_absE (by with_reducible assumption) ?_ | refine call_abs ?_)
local macro_rules | `(tactic| ktu_off1L) => `(tactic| first | refine un_negE (by with_reducible assumption) ?_ | refine un_neg ?_ | refine un_not ?_)
local macro_rules | `(tactic| ktu_offI) => `(tactic| first | refine sub_tup (by decide) (by decide) rfl rfl ?_ | refine sub_listE (by with_reducible assumption) ?_ | refine sub_list (by decide) (by decide) rfl ?_ | refine sub_strb (by omega) (by omega) (by omega) (by with_reducible assumption) ?_)
local macro_rules | `(tactic| kbo_bools) => `(tactic| first
    | ((with_reducible show EvE _ _ _ _ _ _ _); kaf_pre)
    | ((with_reducible show BinW _ _ _ _ _ _ _); kaf_suf) | ((with_reducible show CmpW _ _ _ _ _ _ _); tb_start) | ((with_reducible show InpW _ _ _ _ _ _ _); kct_strs)
    | ((with_reducible show Ex1 _ _ _ _ _ _ _); kcf_m)
    | ((with_reducible show ExS _ _ _ _ _ _ _); (first | refine ExS_cons ?_ | refine ExS_nil ?_))
    | ((with_reducible show EvT _ _ _ _ _ _ _); kba_ints)
    | ((with_reducible show EvL _ _ _ _ _ _ _ _); (first | refine EvL_cons ?_ | refine EvL_nil ?_))
    | ((with_reducible show UnW _ _ _ _ _ _); ktu_off1L)
    | ((with_reducible show CallW _ _ _ _ _ _); tb_rel)
    | ((with_reducible show SubW _ _ _ _ _ _ _ _); ktu_offI)
    | ((with_reducible show (_ = true → _) ∧ (_ = false → _)); krn_off)
    | ((with_reducible show (_ = false → _) ∧ (_ = true → _)); krn_off)
    | ((with_reducible show _ = true ∧ _); refine ⟨?_, ?_⟩)
    | ((with_reducible show ∃ b, TruthIs _ b ∧ _); refine ⟨_, rfl, ?_⟩)
    | ((with_reducible show List.length _ ≤ 1000 ∧ _); refine ⟨by simp only [List.length_cons, List.length_nil]; decide, ?_⟩)
    | ((with_reducible show ∃ fv, V.raw _ = V.raw fv ∧ _); refine ⟨_, rfl, by with_reducible assumption, ?_⟩)
    | ((with_reducible show ∃ id, MethW _ _ _ id ∧ _); (first | with_reducible apply mx_bits | with_reducible apply mx_lower | with_reducible apply mx_strip | with_reducible apply mx_rstrip | with_reducible apply mx_split | with_reducible apply mx_startswith))
    | ((with_reducible show ∃ a, _); (first | refine ⟨_, _, .inl rfl, ?_⟩ | refine ⟨_, _, .inr rfl, ?_⟩ | refine ⟨_, _, _, rfl, rfl, by omega, by with_reducible assumption, ?_⟩ | refine ⟨_, _, rfl, by omega, by with_reducible assumption, ?_⟩ | refine ⟨_, _, _, rfl, ?_⟩ | refine ⟨_, _, rfl, ?_⟩ | refine ⟨_, rfl, rfl, ?_⟩)))
local macro_rules | `(tactic| kaf_suf) => `(tactic| first | refine bi_addE (by with_reducible assumption) ?_ | refine bi_mulE (by with_reducible assumption) ?_ | refine bi_subE (by with_reducible assumption) ?_ | refine bi_fdivE (by with_reducible assumption) (by decide) (by decide) ?_ | refine bi_modE (by with_reducible assumption) (by omega) ?_)
section
variable {p first : Int} {ρ : Rho}
section
local macro_rules | `(tactic| kaf_pre) => `(tactic| first | refine EvE_name (by with_reducible assumption) ?_ | refine EvE_int ?_ | refine EvE_binop ?_ | refine EvE_sub ?_)
theorem law_end (F : Facts S) (ok : S.ok S.base) (hp : 1 ≤ p) (hp2 : p ≤ 60) (rt : Rt p first ρ) : UB S (d + 11) (scopeOf (stmtAt 51)) [lawSt 7] (("wrong", .list (wrongs.map V.str)) :: ρ) := by
  have r1 : List.lookup ("right" : Str) (("wrong", V.list (wrongs.map V.str)) :: ρ) = some (.bool true) := rt.right
  have r2 : List.lookup ("prec" : Str) (("wrong", V.list (wrongs.map V.str)) :: ρ) = some (.int p) := rt.prec
  have r3 : List.lookup ("first" : Str) (("wrong", V.list (wrongs.map V.str)) :: ρ) = some (.int first) := rt.first
  have r4 : List.lookup ("wrong" : Str) (("wrong", V.list (wrongs.map V.str)) :: ρ) = some (V.list (wrongs.map V.str)) := rfl
  have f1 := F.f48.glob'
  have f2 := F.f48.fun
  have w := wrong_all (d := d) F hp hp2
  obtain ⟨q, e1⟩ : ∃ z : Int, first.fdiv 7 = z := ⟨_, rfl⟩
  have u : 0 ≤ q.fmod 12 ∧ q.fmod 12 < 12 := by rw [Int.fmod_eq_emod_of_nonneg _ (by decide)]; omega
  obtain ⟨i, e2⟩ : ∃ z : Int, q.fmod 12 = z := ⟨_, rfl⟩
  rw [e2] at u
  have hl : i.toNat < wrongs.length := by
    have : wrongs.length = 12 := rfl
    omega
  have e3 : 0 ≤ i ∧ i < 2 ^ 63 ∧ (wrongs.map V.str)[i.toNat]? = some (.str wrongs[i.toNat]) := ⟨u.1, by omega, by rw [List.getElem?_map, List.getElem?_eq_getElem hl]; rfl⟩
  have gt := refused_walk (d := d + 10) F ok (w _ (List.getElem_mem hl))
  generalize wrongs[i.toNat] = t at *
  clear w hl rt
  refine UB_ret (UV_and (EvE_name r1 ⟨rfl, UV_call (EvE_glob f1 ⟨_, rfl, f2, ?_⟩)⟩))
  repeat' kbo_bools
  all_goals exact gt
end

local macro_rules | `(tactic| kbo_bools) => `(tactic| ((with_reducible show Fw.next = Fw.next ∧ _); refine ⟨rfl, ?_⟩))
theorem law_kind (F : Facts S) (ok : S.ok S.base) {k : Nat} {tx ty : Str} {above below over under kind p first : Int} {neg neg' : Prop} {sc : V} (hp : 1 ≤ p) (hp2 : p ≤ 60) (hk : k ≤ 2) (k0 : 0 ≤ kind) (k6 : kind < 6)
    (N1 : LNum tx above below neg) (N2 : LNum ty over under neg') (hn' : ¬ neg') :
    UB S (d + 11) (scopeOf (stmtAt 51)) [lawSt 5, lawSt 6, lawSt 7] (lawEnv k tx ty above below over under kind p first sc) := by
  refine UB_cons (Ex1.mono (P := fun f ρ₁ => f = .next ∧ Rt p first ρ₁) ?_ fun f ρ₁ ⟨h1, rt⟩ => ⟨h1, UB_cons ?_⟩)
  · rcases (by omega : kind = 0 ∨ kind = 1 ∨ kind = 2 ∨ kind = 3 ∨ kind = 4 ∨ kind = 5) with rfl | rfl | rfl | rfl | rfl | rfl
    · exact kind0 F hp hp2 hk N1
    · exact kind1 F hp hp2 hk N1 N2
    · exact kind2 F hp hp2
    · exact kind3 F hp hp2 hk N1 N2 hn'
    · exact kind4 F hp hp2 hk N1 N2 hn'
    · exact kind5 F hp hp2 hk N1 N2 hn'
  · have fin := law_end (d := d) F ok hp hp2 rt
    clear N1 N2 hn' rt
    repeat' kbo_bools
    exact fin
set_option maxHeartbeats 4000000 in
theorem law_walk (F : Facts S) (ok : S.ok S.base) {fd : FuncData} (F51 : FnIs S "law" (stmtAt 51) [] fd) {ns : List Int} (hl : ns.length ≤ 63) : UT S (d + 12) (.raw (gl S "law")) [.list (ns.map V.int)] := by
  have f1 := F.f44.glob'
  have f2 := F.f44.can
  have f3 := F.f47.glob'
  have f4 := F.f47.can
  refine UT_def (d := d + 11) F51 _ _ (binds_51_1 F51 _) (by decide) (by decide) (by decide) rfl rfl rfl ?_
  refine UB_cons ?_
  repeat' kbo_bools
  refine mixed_walk (d := d + 10) F (by decide) (by decide) hl fun first h0 => ?_
  repeat' kbo_bools
  obtain ⟨r60, e1⟩ : ∃ z : Int, first.fmod 60 = z := ⟨_, rfl⟩
  have u1 : 0 ≤ r60 ∧ r60 < 60 := by rw [← e1, Int.fmod_eq_emod_of_nonneg _ (by decide)]; omega
  obtain ⟨p, e2⟩ : ∃ z : Int, 1 + r60 = z := ⟨_, rfl⟩
  obtain ⟨q60, e3⟩ : ∃ z : Int, first.fdiv 60 = z := ⟨_, rfl⟩
  obtain ⟨kind, e4⟩ : ∃ z : Int, q60.fmod 6 = z := ⟨_, rfl⟩
  have u2 : 0 ≤ kind ∧ kind < 6 := by rw [← e4, Int.fmod_eq_emod_of_nonneg _ (by decide)]; omega
  refine UB_cons ?_
  repeat' kbo_bools
  refine UB_cons ?_
  repeat' kbo_bools
  refine mixed_walk (d := d + 10) F (by decide) (by decide) hl fun r1 h1 => ?_
  repeat' kbo_bools
  refine number_walk (d := d + 10) F h1 (by decide) (by decide) fun tx above below N1 => ?_
  repeat' kbo_bools
  refine UB_cons ?_
  repeat' kbo_bools
  refine mixed_walk (d := d + 10) F (by decide) (by decide) hl fun r2 h2 => ?_
  obtain ⟨q4, e5⟩ : ∃ z : Int, r2.fdiv 4 = z := ⟨_, rfl⟩
  have u3 : 0 ≤ q4 := by rw [← e5, Int.fdiv_eq_ediv_of_nonneg _ (by decide)]; omega
  obtain ⟨w4, e6⟩ : ∃ z : Int, q4 * 4 = z := ⟨_, rfl⟩
  have m4 : IntMulOk q4 4 ∧ q4 * 4 = w4 := ⟨.of_right (by decide +kernel), e6⟩
  have hn : ¬ w4.fmod 4 = 1 := by rw [Int.fmod_eq_emod_of_nonneg _ (by decide)]; omega
  repeat' kbo_bools
  refine number_walk (d := d + 10) F (by omega) (by decide) (by decide) fun ty over under N2 => ?_
  repeat' kbo_bools
  obtain ⟨q360, e7⟩ : ∃ z : Int, first.fdiv 360 = z := ⟨_, rfl⟩
  obtain ⟨k, e8⟩ : ∃ z : Int, q360.fmod 3 = z := ⟨_, rfl⟩
  have u4 : 0 ≤ k ∧ k < 3 := by rw [← e8, Int.fmod_eq_emod_of_nonneg _ (by decide)]; omega
  have sp : 0 ≤ k ∧ k < 2 ^ 63 ∧ [V.str "", V.str " ", V.str "  "][k.toNat]? = some (.str (T (spc k.toNat))) := ⟨u4.1, by omega, by
    rcases (by omega : k = 0 ∨ k = 1 ∨ k = 2) with rfl | rfl | rfl
    · show some (V.str "") = _; rw [show (Str.ofString "" : Str) = T (spc (0 : Int).toNat) by decide +kernel]
    · show some (V.str " ") = _; rw [show (Str.ofString " " : Str) = T (spc (1 : Int).toNat) by decide +kernel]
    · show some (V.str "  ") = _; rw [show (Str.ofString "  " : Str) = T (spc (2 : Int).toNat) by decide +kernel]⟩
  have fin := law_kind (d := d) (first := first) (sc := .list (ns.map V.int)) F ok (show 1 ≤ p by omega) (show p ≤ 60 by omega) (show k.toNat ≤ 2 by omega) u2.1 u2.2 N1 N2 hn
  clear N1 N2 hn
  refine UB_cons ?_
  repeat' kbo_bools
  exact fin
end

end
end Mine
end

section
open PySem PySem.W PySem.Calls PyProof.Rows
set_option Elab.async false
set_option maxRecDepth 100000
namespace Mine
def kOf {q : Program} {loose : List Str} {XP : (Str → Option Value) → Heap → Prop} {K : Params → Frag} {as : List Addr} {e : ∀ P, as = (K P).map (·.1)} {r : RowW} {d : DefRec} {kwd : List (Str × Expr)} {G : Prop}
    (_ : WalkU q loose XP (kHook K as e).says r d kwd → G) : Params → Frag := K
noncomputable def theK : Params → Frag := kOf top
def objAt (K : Frag) (a : Addr) : Obj := (K.lookup a).getD ⟨.none, none, .plain, #[]⟩
def fdAt (K : Frag) (a : Addr) : FuncData := match (objAt K a).data with
  | .func fd => fd
  | _ => ⟨"", "", ⟨[], [], none, [], [], none, []⟩, .stmts [], ⟨.module, [], false, false, []⟩, 0, [], .none, .none, .none, .none, .none, .none, .none, 0⟩
def esAt (K : Frag) (a : Addr) : Array DictEntry := match (objAt K a).data with
  | .dict es _ => es
  | _ => #[]
def nAt (K : Frag) (a : Addr) : Nat := match (objAt K a).data with
  | .dict _ n => n
  | .seq _ n => n
  | _ => 0
noncomputable def theS (prog : Program) (w : World) (p : Program) (loose : List Str) (mean : ExcName → Option Value) (mg mb : Str → Option Value) (base : Heap) : Sy := ⟨prog, w, theK w.params, p, loose, mean, mg, mb, base⟩
theorem fnIs_mk {S : Sy} {x : Str} {st : Stmt} {dv : List V} (a : Addr) (h1 : nsIn S.K mainGlobals x = some (some (.ref a))) (h2 : S.K.lookup a = some ⟨(objAt S.K a).cls, (objAt S.K a).dict, .func (fdAt S.K a), (objAt S.K a).slots⟩)
    (h3 : codeIn S.K (fdAt S.K a).code (fdAt S.K a).qualname = true) (h4 : (fdAt S.K a).globals = mainGlobals) (h5 : (fdAt S.K a).builtins = builtinsNs) (h6 : (fdAt S.K a).closure = []) (h7 : (fdAt S.K a).body = .stmts (bodyOf st)) (h8 : (fdAt S.K a).scope = scopeOf st)
    (h9 : (fdAt S.K a).params = argsOf st) (h10 : (fdAt S.K a).kwdefaults = .none) (h11 : (dv = [] ∧ (fdAt S.K a).defaults = .none) ∨ dv ≠ [] ∧ ∃ T o items n, (fdAt S.K a).defaults = .ref T ∧ S.K.lookup T = some o ∧ o.data = .seq (List.toArray items) n ∧ ∀ h, S.ok h → RepL S.base h items dv) :
    FnIs S x st dv (fdAt S.K a) := ⟨⟨a, _, _, _, h1, h2⟩, h3, h4, h5, h6, h7, h8, h9, h10, h11⟩
theorem globTup {S : Sy} {x : Str} {vs : List Value} {l : List V} (a : Addr) (h1 : nsIn S.K mainGlobals x = some (some (.ref a))) (h2 : S.K.lookup a = some (objAt S.K a)) (h3 : (objAt S.K a).cls = .type "tuple") (h4 : (objAt S.K a).data = .seq vs.toArray (nAt S.K a)) (h5 : ∀ h, RepL S.base h vs l) : GlobIs S x (.tup l) :=
  ⟨_, h1, fun _ ok => .tup ⟨_, ok.x _ _ h2, h3, _, h4⟩ (h5 _)⟩
theorem repTup {S : Sy} {vs : List Value} {l : List V} (a : Addr) (h2 : S.K.lookup a = some (objAt S.K a)) (h3 : (objAt S.K a).cls = .type "tuple") (h4 : (objAt S.K a).data = .seq vs.toArray (nAt S.K a)) (h5 : ∀ h, RepL S.base h vs l) : ∀ h, S.ok h → Rep S.base h (.ref a) (.tup l) :=
  fun _ ok => .tup ⟨_, ok.x _ _ h2, h3, _, h4⟩ (h5 _)
theorem nsIn_none {K : Frag} {a : Addr} {x : Str} {es : Array DictEntry} {n : Nat} {c : Value} {d : Option Addr} {sl : Array (Option Value)} (h1 : K.lookup a = some ⟨c, d, .dict es n, sl⟩) (h2 : ∀ e ∈ es.toList, e.key.isStr x = false) (h3 : es.toList.any (·.refKey) = false) : nsIn K a x = some none := by
  unfold nsIn
  rw [h1]
  dsimp only
  have : es.toList.find? (·.key.isStr x) = none := List.find?_eq_none.mpr fun e he => by rw [h2 e he]; exact Bool.false_ne_true
  rw [this]
  dsimp only
  rw [h3]; rfl
section
variable {prog : Program} {w : World} {p : Program} {loose : List Str} {mean : ExcName → Option Value} {mg mb : Str → Option Value} {base : Heap}
theorem jf4 : FnIs (theS prog w p loose mean mg mb base) "trailing" (stmtAt 4) [] (fdAt (theK w.params) 21) :=
  fnIs_mk (S := (theS prog w p loose mean mg mb base)) 21 (by kernel_rfl) (by kernel_rfl) (by kernel_rfl) (by kernel_rfl) (by kernel_rfl) (by kernel_rfl) (by kernel_rfl) (by kernel_rfl) (by kernel_rfl) (by kernel_rfl) (.inl ⟨rfl, (by kernel_rfl)⟩)
theorem jf19 : FnIs (theS prog w p loose mean mg mb base) "_normalize" (stmtAt 19) [] (fdAt (theK w.params) 39) :=
  fnIs_mk (S := (theS prog w p loose mean mg mb base)) 39 (by kernel_rfl) (by kernel_rfl) (by kernel_rfl) (by kernel_rfl) (by kernel_rfl) (by kernel_rfl) (by kernel_rfl) (by kernel_rfl) (by kernel_rfl) (by kernel_rfl) (.inl ⟨rfl, (by kernel_rfl)⟩)
theorem jf20 : FnIs (theS prog w p loose mean mg mb base) "normalize" (stmtAt 20) [] (fdAt (theK w.params) 46) :=
  fnIs_mk (S := (theS prog w p loose mean mg mb base)) 46 (by kernel_rfl) (by kernel_rfl) (by kernel_rfl) (by kernel_rfl) (by kernel_rfl) (by kernel_rfl) (by kernel_rfl) (by kernel_rfl) (by kernel_rfl) (by kernel_rfl) (.inl ⟨rfl, (by kernel_rfl)⟩)
theorem jf21 : FnIs (theS prog w p loose mean mg mb base) "from_man_exp" (stmtAt 21) [.int 0, .str "d"] (fdAt (theK w.params) 54) :=
  fnIs_mk (S := (theS prog w p loose mean mg mb base)) 54 (by kernel_rfl) (by kernel_rfl) (by kernel_rfl) (by kernel_rfl) (by kernel_rfl) (by kernel_rfl) (by kernel_rfl) (by kernel_rfl) (by kernel_rfl) (by kernel_rfl) (.inr ⟨List.cons_ne_nil _ _, 47, objAt (theK w.params) 47, [Value.int 0 284, Value.str (Str.ofString "d") 212], nAt (theK w.params) 47, (by kernel_rfl), (by kernel_rfl), (by kernel_rfl), fun h _ => .cons (.int _ _) (.cons (.str _ _) .nil)⟩)
theorem jf22 : FnIs (theS prog w p loose mean mg mb base) "from_int" (stmtAt 22) [.int 0, .str "d"] (fdAt (theK w.params) 62) :=
  fnIs_mk (S := (theS prog w p loose mean mg mb base)) 62 (by kernel_rfl) (by kernel_rfl) (by kernel_rfl) (by kernel_rfl) (by kernel_rfl) (by kernel_rfl) (by kernel_rfl) (by kernel_rfl) (by kernel_rfl) (by kernel_rfl) (.inr ⟨List.cons_ne_nil _ _, 55, objAt (theK w.params) 55, [Value.int 0 298, Value.str (Str.ofString "d") 212], nAt (theK w.params) 55, (by kernel_rfl), (by kernel_rfl), (by kernel_rfl), fun h _ => .cons (.int _ _) (.cons (.str _ _) .nil)⟩)
theorem jf23 : FnIs (theS prog w p loose mean mg mb base) "from_rational" (stmtAt 23) [.str "d"] (fdAt (theK w.params) 70) :=
  fnIs_mk (S := (theS prog w p loose mean mg mb base)) 70 (by kernel_rfl) (by kernel_rfl) (by kernel_rfl) (by kernel_rfl) (by kernel_rfl) (by kernel_rfl) (by kernel_rfl) (by kernel_rfl) (by kernel_rfl) (by kernel_rfl) (.inr ⟨List.cons_ne_nil _ _, 63, objAt (theK w.params) 63, [Value.str (Str.ofString "d") 212], nAt (theK w.params) 63, (by kernel_rfl), (by kernel_rfl), (by kernel_rfl), fun h _ => .cons (.str _ _) .nil⟩)
theorem jf24 : FnIs (theS prog w p loose mean mg mb base) "mpf_cmp" (stmtAt 24) [] (fdAt (theK w.params) 77) :=
  fnIs_mk (S := (theS prog w p loose mean mg mb base)) 77 (by kernel_rfl) (by kernel_rfl) (by kernel_rfl) (by kernel_rfl) (by kernel_rfl) (by kernel_rfl) (by kernel_rfl) (by kernel_rfl) (by kernel_rfl) (by kernel_rfl) (.inl ⟨rfl, (by kernel_rfl)⟩)
theorem jf25 : FnIs (theS prog w p loose mean mg mb base) "mpf_ge" (stmtAt 25) [] (fdAt (theK w.params) 84) :=
  fnIs_mk (S := (theS prog w p loose mean mg mb base)) 84 (by kernel_rfl) (by kernel_rfl) (by kernel_rfl) (by kernel_rfl) (by kernel_rfl) (by kernel_rfl) (by kernel_rfl) (by kernel_rfl) (by kernel_rfl) (by kernel_rfl) (.inl ⟨rfl, (by kernel_rfl)⟩)
theorem jf27 : FnIs (theS prog w p loose mean mg mb base) "mpf_neg" (stmtAt 27) [.int 0, .str "d"] (fdAt (theK w.params) 100) :=
  fnIs_mk (S := (theS prog w p loose mean mg mb base)) 100 (by kernel_rfl) (by kernel_rfl) (by kernel_rfl) (by kernel_rfl) (by kernel_rfl) (by kernel_rfl) (by kernel_rfl) (by kernel_rfl) (by kernel_rfl) (by kernel_rfl) (.inr ⟨List.cons_ne_nil _ _, 93, objAt (theK w.params) 93, [Value.int 0 359, Value.str (Str.ofString "d") 212], nAt (theK w.params) 93, (by kernel_rfl), (by kernel_rfl), (by kernel_rfl), fun h _ => .cons (.int _ _) (.cons (.str _ _) .nil)⟩)
theorem jf28 : FnIs (theS prog w p loose mean mg mb base) "mpf_abs" (stmtAt 28) [.int 0, .str "d"] (fdAt (theK w.params) 108) :=
  fnIs_mk (S := (theS prog w p loose mean mg mb base)) 108 (by kernel_rfl) (by kernel_rfl) (by kernel_rfl) (by kernel_rfl) (by kernel_rfl) (by kernel_rfl) (by kernel_rfl) (by kernel_rfl) (by kernel_rfl) (by kernel_rfl) (.inr ⟨List.cons_ne_nil _ _, 101, objAt (theK w.params) 101, [Value.int 0 373, Value.str (Str.ofString "d") 212], nAt (theK w.params) 101, (by kernel_rfl), (by kernel_rfl), (by kernel_rfl), fun h _ => .cons (.int _ _) (.cons (.str _ _) .nil)⟩)
theorem jf29 : FnIs (theS prog w p loose mean mg mb base) "mpf_sign" (stmtAt 29) [] (fdAt (theK w.params) 115) :=
  fnIs_mk (S := (theS prog w p loose mean mg mb base)) 115 (by kernel_rfl) (by kernel_rfl) (by kernel_rfl) (by kernel_rfl) (by kernel_rfl) (by kernel_rfl) (by kernel_rfl) (by kernel_rfl) (by kernel_rfl) (by kernel_rfl) (.inl ⟨rfl, (by kernel_rfl)⟩)
theorem jf30 : FnIs (theS prog w p loose mean mg mb base) "mpf_add" (stmtAt 30) [.int 0, .str "d", .int 0] (fdAt (theK w.params) 123) :=
  fnIs_mk (S := (theS prog w p loose mean mg mb base)) 123 (by kernel_rfl) (by kernel_rfl) (by kernel_rfl) (by kernel_rfl) (by kernel_rfl) (by kernel_rfl) (by kernel_rfl) (by kernel_rfl) (by kernel_rfl) (by kernel_rfl) (.inr ⟨List.cons_ne_nil _ _, 116, objAt (theK w.params) 116, [Value.int 0 398, Value.str (Str.ofString "d") 212, Value.int 0 399], nAt (theK w.params) 116, (by kernel_rfl), (by kernel_rfl), (by kernel_rfl), fun h _ => .cons (.int _ _) (.cons (.str _ _) (.cons (.int _ _) .nil))⟩)
theorem jf31 : FnIs (theS prog w p loose mean mg mb base) "mpf_sub" (stmtAt 31) [.int 0, .str "d"] (fdAt (theK w.params) 131) :=
  fnIs_mk (S := (theS prog w p loose mean mg mb base)) 131 (by kernel_rfl) (by kernel_rfl) (by kernel_rfl) (by kernel_rfl) (by kernel_rfl) (by kernel_rfl) (by kernel_rfl) (by kernel_rfl) (by kernel_rfl) (by kernel_rfl) (.inr ⟨List.cons_ne_nil _ _, 124, objAt (theK w.params) 124, [Value.int 0 423, Value.str (Str.ofString "d") 212], nAt (theK w.params) 124, (by kernel_rfl), (by kernel_rfl), (by kernel_rfl), fun h _ => .cons (.int _ _) (.cons (.str _ _) .nil)⟩)
theorem jf32 : FnIs (theS prog w p loose mean mg mb base) "mpf_mul" (stmtAt 32) [.int 0, .str "d"] (fdAt (theK w.params) 139) :=
  fnIs_mk (S := (theS prog w p loose mean mg mb base)) 139 (by kernel_rfl) (by kernel_rfl) (by kernel_rfl) (by kernel_rfl) (by kernel_rfl) (by kernel_rfl) (by kernel_rfl) (by kernel_rfl) (by kernel_rfl) (by kernel_rfl) (.inr ⟨List.cons_ne_nil _ _, 132, objAt (theK w.params) 132, [Value.int 0 434, Value.str (Str.ofString "d") 212], nAt (theK w.params) 132, (by kernel_rfl), (by kernel_rfl), (by kernel_rfl), fun h _ => .cons (.int _ _) (.cons (.str _ _) .nil)⟩)
theorem jf33 : FnIs (theS prog w p loose mean mg mb base) "mpf_div" (stmtAt 33) [.str "d"] (fdAt (theK w.params) 147) :=
  fnIs_mk (S := (theS prog w p loose mean mg mb base)) 147 (by kernel_rfl) (by kernel_rfl) (by kernel_rfl) (by kernel_rfl) (by kernel_rfl) (by kernel_rfl) (by kernel_rfl) (by kernel_rfl) (by kernel_rfl) (by kernel_rfl) (.inr ⟨List.cons_ne_nil _ _, 140, objAt (theK w.params) 140, [Value.str (Str.ofString "d") 212], nAt (theK w.params) 140, (by kernel_rfl), (by kernel_rfl), (by kernel_rfl), fun h _ => .cons (.str _ _) .nil⟩)
theorem jf36 : FnIs (theS prog w p loose mean mg mb base) "str_to_man_exp" (stmtAt 36) [.int 10] (fdAt (theK w.params) 164) :=
  fnIs_mk (S := (theS prog w p loose mean mg mb base)) 164 (by kernel_rfl) (by kernel_rfl) (by kernel_rfl) (by kernel_rfl) (by kernel_rfl) (by kernel_rfl) (by kernel_rfl) (by kernel_rfl) (by kernel_rfl) (by kernel_rfl) (.inr ⟨List.cons_ne_nil _ _, 157, objAt (theK w.params) 157, [Value.int 10 511], nAt (theK w.params) 157, (by kernel_rfl), (by kernel_rfl), (by kernel_rfl), fun h _ => .cons (.int _ _) .nil⟩)
theorem jf38 : FnIs (theS prog w p loose mean mg mb base) "from_str" (stmtAt 38) [.int 0, .str "d", .int 0] (fdAt (theK w.params) 173) :=
  fnIs_mk (S := (theS prog w p loose mean mg mb base)) 173 (by kernel_rfl) (by kernel_rfl) (by kernel_rfl) (by kernel_rfl) (by kernel_rfl) (by kernel_rfl) (by kernel_rfl) (by kernel_rfl) (by kernel_rfl) (by kernel_rfl) (.inr ⟨List.cons_ne_nil _ _, 166, objAt (theK w.params) 166, [Value.int 0 541, Value.str (Str.ofString "d") 212, Value.int 0 542], nAt (theK w.params) 166, (by kernel_rfl), (by kernel_rfl), (by kernel_rfl), fun h _ => .cons (.int _ _) (.cons (.str _ _) (.cons (.int _ _) .nil))⟩)
theorem jf40 : FnIs (theS prog w p loose mean mg mb base) "MAX" (stmtAt 40) [] (fdAt (theK w.params) 180) :=
  fnIs_mk (S := (theS prog w p loose mean mg mb base)) 180 (by kernel_rfl) (by kernel_rfl) (by kernel_rfl) (by kernel_rfl) (by kernel_rfl) (by kernel_rfl) (by kernel_rfl) (by kernel_rfl) (by kernel_rfl) (by kernel_rfl) (.inl ⟨rfl, (by kernel_rfl)⟩)
theorem jf41 : FnIs (theS prog w p loose mean mg mb base) "mpi_from_str_a_b" (stmtAt 41) [] (fdAt (theK w.params) 187) :=
  fnIs_mk (S := (theS prog w p loose mean mg mb base)) 187 (by kernel_rfl) (by kernel_rfl) (by kernel_rfl) (by kernel_rfl) (by kernel_rfl) (by kernel_rfl) (by kernel_rfl) (by kernel_rfl) (by kernel_rfl) (by kernel_rfl) (.inl ⟨rfl, (by kernel_rfl)⟩)
theorem jf42 : FnIs (theS prog w p loose mean mg mb base) "mpi_from_str" (stmtAt 42) [] (fdAt (theK w.params) 194) :=
  fnIs_mk (S := (theS prog w p loose mean mg mb base)) 194 (by kernel_rfl) (by kernel_rfl) (by kernel_rfl) (by kernel_rfl) (by kernel_rfl) (by kernel_rfl) (by kernel_rfl) (by kernel_rfl) (by kernel_rfl) (by kernel_rfl) (.inl ⟨rfl, (by kernel_rfl)⟩)
theorem jf44 : FnIs (theS prog w p loose mean mg mb base) "_law_mixed" (stmtAt 44) [] (fdAt (theK w.params) 201) :=
  fnIs_mk (S := (theS prog w p loose mean mg mb base)) 201 (by kernel_rfl) (by kernel_rfl) (by kernel_rfl) (by kernel_rfl) (by kernel_rfl) (by kernel_rfl) (by kernel_rfl) (by kernel_rfl) (by kernel_rfl) (by kernel_rfl) (.inl ⟨rfl, (by kernel_rfl)⟩)
theorem jf45 : FnIs (theS prog w p loose mean mg mb base) "_law_worth" (stmtAt 45) [] (fdAt (theK w.params) 208) :=
  fnIs_mk (S := (theS prog w p loose mean mg mb base)) 208 (by kernel_rfl) (by kernel_rfl) (by kernel_rfl) (by kernel_rfl) (by kernel_rfl) (by kernel_rfl) (by kernel_rfl) (by kernel_rfl) (by kernel_rfl) (by kernel_rfl) (.inl ⟨rfl, (by kernel_rfl)⟩)
theorem jf46 : FnIs (theS prog w p loose mean mg mb base) "_law_rounded" (stmtAt 46) [] (fdAt (theK w.params) 215) :=
  fnIs_mk (S := (theS prog w p loose mean mg mb base)) 215 (by kernel_rfl) (by kernel_rfl) (by kernel_rfl) (by kernel_rfl) (by kernel_rfl) (by kernel_rfl) (by kernel_rfl) (by kernel_rfl) (by kernel_rfl) (by kernel_rfl) (.inl ⟨rfl, (by kernel_rfl)⟩)
theorem jf47 : FnIs (theS prog w p loose mean mg mb base) "_law_number" (stmtAt 47) [] (fdAt (theK w.params) 222) :=
  fnIs_mk (S := (theS prog w p loose mean mg mb base)) 222 (by kernel_rfl) (by kernel_rfl) (by kernel_rfl) (by kernel_rfl) (by kernel_rfl) (by kernel_rfl) (by kernel_rfl) (by kernel_rfl) (by kernel_rfl) (by kernel_rfl) (.inl ⟨rfl, (by kernel_rfl)⟩)
theorem jf48 : FnIs (theS prog w p loose mean mg mb base) "_law_refused" (stmtAt 48) [] (fdAt (theK w.params) 229) :=
  fnIs_mk (S := (theS prog w p loose mean mg mb base)) 229 (by kernel_rfl) (by kernel_rfl) (by kernel_rfl) (by kernel_rfl) (by kernel_rfl) (by kernel_rfl) (by kernel_rfl) (by kernel_rfl) (by kernel_rfl) (by kernel_rfl) (.inl ⟨rfl, (by kernel_rfl)⟩)
theorem jf49 : FnIs (theS prog w p loose mean mg mb base) "_law_held" (stmtAt 49) [] (fdAt (theK w.params) 236) :=
  fnIs_mk (S := (theS prog w p loose mean mg mb base)) 236 (by kernel_rfl) (by kernel_rfl) (by kernel_rfl) (by kernel_rfl) (by kernel_rfl) (by kernel_rfl) (by kernel_rfl) (by kernel_rfl) (by kernel_rfl) (by kernel_rfl) (.inl ⟨rfl, (by kernel_rfl)⟩)
theorem jf50 : FnIs (theS prog w p loose mean mg mb base) "_law_beyond" (stmtAt 50) [] (fdAt (theK w.params) 241) :=
  fnIs_mk (S := (theS prog w p loose mean mg mb base)) 241 (by kernel_rfl) (by kernel_rfl) (by kernel_rfl) (by kernel_rfl) (by kernel_rfl) (by kernel_rfl) (by kernel_rfl) (by kernel_rfl) (by kernel_rfl) (by kernel_rfl) (.inl ⟨rfl, (by kernel_rfl)⟩)
theorem jf51 : FnIs (theS prog w p loose mean mg mb base) "law" (stmtAt 51) [] (fdAt (theK w.params) 246) :=
  fnIs_mk (S := (theS prog w p loose mean mg mb base)) 246 (by kernel_rfl) (by kernel_rfl) (by kernel_rfl) (by kernel_rfl) (by kernel_rfl) (by kernel_rfl) (by kernel_rfl) (by kernel_rfl) (by kernel_rfl) (by kernel_rfl) (.inl ⟨rfl, (by kernel_rfl)⟩)
theorem jg_fzero : GlobIs (theS prog w p loose mean mg mb base) "fzero" (.tup [.int 0, .int 0, .int 0, .int 0]) := globTup (S := (theS prog w p loose mean mg mb base)) (vs := [Value.int 0 215, Value.int 0 187, Value.int 0 216, Value.int 0 217]) 22 (by kernel_rfl) (by kernel_rfl) (by kernel_rfl) (by kernel_rfl) fun h => .cons (.int _ _) (.cons (.int _ _) (.cons (.int _ _) (.cons (.int _ _) .nil)))
theorem jg_fnan : GlobIs (theS prog w p loose mean mg mb base) "fnan" (.tup [.int 0, .int 0, .int (-123), .int (-1)]) := globTup (S := (theS prog w p loose mean mg mb base)) (vs := [Value.int 0 227, Value.int 0 187, Value.int (-123) 229, Value.int (-1) 231]) 25 (by kernel_rfl) (by kernel_rfl) (by kernel_rfl) (by kernel_rfl) fun h => .cons (.int _ _) (.cons (.int _ _) (.cons (.int _ _) (.cons (.int _ _) .nil)))
theorem jg_finf : GlobIs (theS prog w p loose mean mg mb base) "finf" (.tup [.int 0, .int 0, .int (-456), .int (-2)]) := globTup (S := (theS prog w p loose mean mg mb base)) (vs := [Value.int 0 233, Value.int 0 187, Value.int (-456) 235, Value.int (-2) 237]) 26 (by kernel_rfl) (by kernel_rfl) (by kernel_rfl) (by kernel_rfl) fun h => .cons (.int _ _) (.cons (.int _ _) (.cons (.int _ _) (.cons (.int _ _) .nil)))
theorem jg_fninf : GlobIs (theS prog w p loose mean mg mb base) "fninf" (.tup [.int 1, .int 0, .int (-789), .int (-3)]) := globTup (S := (theS prog w p loose mean mg mb base)) (vs := [Value.int 1 239, Value.int 0 187, Value.int (-789) 241, Value.int (-3) 243]) 27 (by kernel_rfl) (by kernel_rfl) (by kernel_rfl) (by kernel_rfl) fun h => .cons (.int _ _) (.cons (.int _ _) (.cons (.int _ _) (.cons (.int _ _) .nil)))
theorem jg_round_nearest : GlobIs (theS prog w p loose mean mg mb base) "round_nearest" (.str "n") := ⟨.str "n" 204, (by kernel_rfl), fun _ _ => .str _ _⟩
theorem jg_round_floor : GlobIs (theS prog w p loose mean mg mb base) "round_floor" (.str "f") := ⟨.str "f" 206, (by kernel_rfl), fun _ _ => .str _ _⟩
theorem jg_round_ceiling : GlobIs (theS prog w p loose mean mg mb base) "round_ceiling" (.str "c") := ⟨.str "c" 208, (by kernel_rfl), fun _ _ => .str _ _⟩
theorem jn_shifts_down : nsIn (theS prog w p loose mean mg mb base).K mainGlobals "shifts_down" = some (some (.ref 28)) := by kernel_rfl
theorem jg_shifts_down : GlobIs (theS prog w p loose mean mg mb base) "shifts_down" (.raw (gl (theS prog w p loose mean mg mb base) "shifts_down")) := ⟨.ref 28, jn_shifts_down, fun _ _ => by
  have : gl (theS prog w p loose mean mg mb base) "shifts_down" = .ref 28 := by unfold gl; rw [jn_shifts_down]
  rw [this]; exact .raw _⟩
theorem jl_shifts_down : (theS prog w p loose mean mg mb base).K.lookup 28 = some ⟨.type "dict", none, .dict (esAt (theK w.params) 28) (nAt (theK w.params) 28), #[]⟩ := by kernel_rfl
theorem jn_special_str : nsIn (theS prog w p loose mean mg mb base).K mainGlobals "special_str" = some (some (.ref 165)) := by kernel_rfl
theorem jg_special_str : GlobIs (theS prog w p loose mean mg mb base) "special_str" (.raw (gl (theS prog w p loose mean mg mb base) "special_str")) := ⟨.ref 165, jn_special_str, fun _ _ => by
  have : gl (theS prog w p loose mean mg mb base) "special_str" = .ref 165 := by unfold gl; rw [jn_special_str]
  rw [this]; exact .raw _⟩
theorem jl_special_str : (theS prog w p loose mean mg mb base).K.lookup 165 = some ⟨.type "dict", none, .dict (esAt (theK w.params) 165) (nAt (theK w.params) 165), #[]⟩ := by kernel_rfl
theorem je_shifts_down : (esAt (theK w.params) 28).toList = ([⟨PyData.keyHash w.params "f", .str "f" 206, .ref 29⟩, ⟨PyData.keyHash w.params "c", .str "c" 208, .ref 30⟩, ⟨PyData.keyHash w.params "d", .str "d" 212, .ref 31⟩, ⟨PyData.keyHash w.params "u", .str "u" 210, .ref 32⟩] : List DictEntry) := by kernel_rfl
theorem jk_shifts_down : KeysLit w.params (esAt (theK w.params) 28).toList := by rw [je_shifts_down]; exact ⟨⟨_, _, rfl, rfl⟩, ⟨⟨_, _, rfl, rfl⟩, ⟨⟨_, _, rfl, rfl⟩, ⟨⟨_, _, rfl, rfl⟩, trivial⟩⟩⟩⟩
theorem je_special_str : (esAt (theK w.params) 165).toList = ([⟨PyData.keyHash w.params "inf", .str "inf" 526, .ref 26⟩, ⟨PyData.keyHash w.params "+inf", .str "+inf" 527, .ref 26⟩, ⟨PyData.keyHash w.params "-inf", .str "-inf" 528, .ref 27⟩, ⟨PyData.keyHash w.params "nan", .str "nan" 529, .ref 25⟩, ⟨PyData.keyHash w.params "oo", .str "oo" 530, .ref 26⟩, ⟨PyData.keyHash w.params "+oo", .str "+oo" 531, .ref 26⟩, ⟨PyData.keyHash w.params "-oo", .str "-oo" 532, .ref 27⟩] : List DictEntry) := by kernel_rfl
theorem jk_special_str : KeysLit w.params (esAt (theK w.params) 165).toList := by rw [je_special_str]; exact ⟨⟨_, _, rfl, rfl⟩, ⟨⟨_, _, rfl, rfl⟩, ⟨⟨_, _, rfl, rfl⟩, ⟨⟨_, _, rfl, rfl⟩, ⟨⟨_, _, rfl, rfl⟩, ⟨⟨_, _, rfl, rfl⟩, ⟨⟨_, _, rfl, rfl⟩, trivial⟩⟩⟩⟩⟩⟩⟩
theorem jsd_f : DictIs (theS prog w p loose mean mg mb base) "shifts_down" "f" (some (.tup [.int 1, .int 0])) :=
  ⟨28, _, _, jn_shifts_down, jl_shifts_down, jk_shifts_down, by decide +kernel, .ref 29, (by kernel_rfl), repTup (S := (theS prog w p loose mean mg mb base)) (vs := [Value.int 1 245, Value.int 0 246]) 29 (by kernel_rfl) (by kernel_rfl) (by kernel_rfl) fun h => .cons (.int _ _) (.cons (.int _ _) .nil)⟩
theorem jsd_c : DictIs (theS prog w p loose mean mg mb base) "shifts_down" "c" (some (.tup [.int 0, .int 1])) :=
  ⟨28, _, _, jn_shifts_down, jl_shifts_down, jk_shifts_down, by decide +kernel, .ref 30, (by kernel_rfl), repTup (S := (theS prog w p loose mean mg mb base)) (vs := [Value.int 0 247, Value.int 1 248]) 30 (by kernel_rfl) (by kernel_rfl) (by kernel_rfl) fun h => .cons (.int _ _) (.cons (.int _ _) .nil)⟩
theorem jspecial (x : Str) (hx : x ∉ (["inf", "+inf", "-inf", "nan", "oo", "+oo", "-oo"] : List Str)) : DictIs (theS prog w p loose mean mg mb base) "special_str" x none := by
  refine ⟨165, _, _, jn_special_str, jl_special_str, jk_special_str, by decide +kernel, nsIn_none jl_special_str ?_ ?_⟩
  · rw [je_special_str]
    intro e he
    simp only [List.mem_cons, List.not_mem_nil, or_false, not_or] at he hx
    obtain ⟨x1, x2, x3, x4, x5, x6, x7⟩ := hx
    have ne : ∀ {y : Str} {t : Tok}, ¬ x = y → (Value.str y t).isStr x = false := fun h => beq_eq_false_iff_ne.mpr fun q => h q.symm
    rcases he with rfl | rfl | rfl | rfl | rfl | rfl | rfl <;> exact ne (by assumption)
  · rw [je_special_str]; rfl
theorem jb_int : BuiltIs (theS prog w p loose mean mg mb base) "int" (.type "int") := ⟨by kernel_rfl, by kernel_rfl, by decide +kernel⟩
theorem jb_str : BuiltIs (theS prog w p loose mean mg mb base) "str" (.type "str") := ⟨by kernel_rfl, by kernel_rfl, by decide +kernel⟩
theorem jb_ValueError : BuiltIs (theS prog w p loose mean mg mb base) "ValueError" (.type "ValueError") := ⟨by kernel_rfl, by kernel_rfl, by decide +kernel⟩
theorem jb_isinstance : BuiltIs (theS prog w p loose mean mg mb base) "isinstance" (.builtin "isinstance") := ⟨by kernel_rfl, by kernel_rfl, by decide +kernel⟩
theorem jb_len : BuiltIs (theS prog w p loose mean mg mb base) "len" (.builtin "len") := ⟨by kernel_rfl, by kernel_rfl, by decide +kernel⟩
theorem jb_max : BuiltIs (theS prog w p loose mean mg mb base) "max" (.builtin "max") := ⟨by kernel_rfl, by kernel_rfl, by decide +kernel⟩
theorem jb_divmod : BuiltIs (theS prog w p loose mean mg mb base) "divmod" (.builtin "divmod") := ⟨by kernel_rfl, by kernel_rfl, by decide +kernel⟩
theorem jb_pow : BuiltIs (theS prog w p loose mean mg mb base) "pow" (.builtin "pow") := ⟨by kernel_rfl, by kernel_rfl, by decide +kernel⟩
theorem jb_abs : BuiltIs (theS prog w p loose mean mg mb base) "abs" (.builtin "abs") := ⟨by kernel_rfl, by kernel_rfl, by decide +kernel⟩
theorem jb_all : BuiltIs (theS prog w p loose mean mg mb base) "all" (.builtin "all") := ⟨by kernel_rfl, by kernel_rfl, by decide +kernel⟩
noncomputable def theFacts : Facts (theS prog w p loose mean mg mb base) where
  fd4 := _
  fd19 := _
  fd20 := _
  fd21 := _
  fd22 := _
  fd23 := _
  fd24 := _
  fd25 := _
  fd27 := _
  fd28 := _
  fd29 := _
  fd30 := _
  fd31 := _
  fd32 := _
  fd33 := _
  fd36 := _
  fd38 := _
  fd40 := _
  fd41 := _
  fd42 := _
  fd44 := _
  fd45 := _
  fd46 := _
  fd47 := _
  fd48 := _
  fd49 := _
  fd50 := _
  f4 := jf4
  f19 := jf19
  f20 := jf20
  f21 := jf21
  f22 := jf22
  f23 := jf23
  f24 := jf24
  f25 := jf25
  f27 := jf27
  f28 := jf28
  f29 := jf29
  f30 := jf30
  f31 := jf31
  f32 := jf32
  f33 := jf33
  f36 := jf36
  f38 := jf38
  f40 := jf40
  f41 := jf41
  f42 := jf42
  f44 := jf44
  f45 := jf45
  f46 := jf46
  f47 := jf47
  f48 := jf48
  f49 := jf49
  f50 := jf50
  g_fzero := jg_fzero
  g_fnan := jg_fnan
  g_finf := jg_finf
  g_fninf := jg_fninf
  g_round_nearest := jg_round_nearest
  g_round_floor := jg_round_floor
  g_round_ceiling := jg_round_ceiling
  g_shifts_down := jg_shifts_down
  g_special_str := jg_special_str
  sdf := jsd_f
  sdc := jsd_c
  special := jspecial
  b_int := jb_int
  b_str := jb_str
  b_ValueError := jb_ValueError
  b_isinstance := jb_isinstance
  b_len := jb_len
  b_max := jb_max
  b_divmod := jb_divmod
  b_pow := jb_pow
  b_abs := jb_abs
  b_all := jb_all
end
end Mine
end

section
open PySem PySem.W PySem.Calls PyProof.Rows
set_option Elab.async false
set_option maxRecDepth 100000
namespace Mine
theorem law_top {prog : Program} {w : World} {p : Program} {loose : List Str} {mean : ExcName → Option Value} {mg mb : Str → Option Value} {s₁ : Shared} {a : Addr} {ns : List Int} {l : Addr} {vs : List Value} {E : Value → Shared → Prop} {Q : Value → Shared → Prop}
    (KX : (theK w.params).In s₁.heap) (T : Top p loose mean mg mb s₁.heap) (hmg : mg "law" = some (.ref a)) (hl : s₁.heap.IsList l vs.toArray) (hr : RepL s₁.heap s₁.heap vs (ns.map V.int)) (hlen : ns.length ≤ 63)
    (hQ : ∀ s', (∀ b o, s₁.heap.get? b = some o → s'.heap.get? b = some o) → s'.gens = s₁.gens → s'.os = s₁.os → Q (.bool true) s') : wpU (model prog w) callerA (PySem.call (.ref a) [.ref l]) Q E s₁ := by
  have ok : (theS prog w p loose mean mg mb s₁.heap).ok s₁.heap := ⟨KX, T⟩
  have W := law_walk (S := theS prog w p loose mean mg mb s₁.heap) (d := 0) theFacts ok jf51 (ns := ns) hlen
  have F51 := jf51 (prog := prog) (w := w) (p := p) (loose := loose) (mean := mean) (mg := mg) (mb := mb) (base := s₁.heap)
  obtain ⟨a', oc, od, osl, hn, hk⟩ := F51.is
  have e1 : mg "law" = some (.ref a') := mg_of KX T.g hn
  have e2 : a' = a := by rw [hmg] at e1; cases e1; rfl
  subst e2
  have e3 : gl (theS prog w p loose mean mg mb s₁.heap) "law" = .ref a' := by unfold gl; rw [hn]
  have pl : Pl0 (theS prog w p loose mean mg mb s₁.heap) 12 callerA [] s₁ := ⟨rfl, rfl, by decide, by decide, ok, fun _ _ e => e, trivial⟩
  have := W.run callerA [] s₁ (gl (theS prog w p loose mean mg mb s₁.heap) "law") [.ref l] pl (.raw _) (.cons (.list hl hr) .nil) Q E fun s' st n => hQ s' st n.gens n.os
  rw [e3] at this
  exact this
end Mine
end

section
open PySem PySem.W PySem.Calls PyProof.Rows
set_option Elab.async false
set_option maxRecDepth 100000
namespace Mine
theorem repL_ints {b h : Heap} : ∀ {vs : List Value} {ns : List Int}, IntsAre vs ns → RepL b h vs (ns.map V.int)
  | _, _, .nil => .nil
  | _, _, .cons _ _ r => .cons (.int _ _) (repL_ints r)
theorem join {c : ClaimW} {cl : Str → Option Addr} {mean mean' : ExcName → Option Value} {args : List WData} {prog : Program} {w : World} {p : Program} {loose : List Str} {mg mb : Str → Option Value} {s₁ : Shared} {a : Addr} {ns : List Int} {l : Addr} {vs : List Value}
    (KX : (theK w.params).In s₁.heap) (T : Top p loose mean' mg mb s₁.heap) (hm : mg "law" = some (.ref a)) (hg : s₁.gens = #[]) (hl : s₁.heap.IsList l vs.toArray) (hi : IntsAre vs ns) (hlen : ns.length ≤ 63)
    (hn : ∀ cls, c.raises args cls = false) (hp : c.post args (.bool true) args = true) :
    wpU (model prog w) callerA (PySem.call (.ref a) [.ref l]) (fun v s' => GoodWG c cl mean args s₁ (.ok (.ret v)) s') (fun e s' => GoodWG c cl mean args s₁ (.error e) s') s₁ ∧ GoodWG c cl mean args s₁ (.ok (.ret (.bool true))) s₁ := by
  have good : ∀ s' : Shared, (∀ b o, s₁.heap.get? b = some o → s'.heap.get? b = some o) → s'.gens = s₁.gens → s'.os = s₁.os → GoodWG c cl mean args s₁ (.ok (.ret (.bool true))) s' := fun s' k g o =>
    GoodW.toG ⟨.inl ⟨_, _, _, rfl, hn, .bool true, hp, unshared_nil⟩, k, o, g.trans hg⟩
  exact ⟨law_top KX T hm hl (repL_ints hi) hlen good, good _ (fun _ _ e => e) rfl rfl⟩
set_option maxHeartbeats 4000000 in
theorem final : PySem.Challenge.rw_ah5012_01.Holds := by
  refine top ?_
  intro w s₀ s₁ mg mb G Y a o pm cd doc dV kV ho hd hcd hD hmg hg args vals as hpre hlay hrd hwl hlo
  have KX : (theK w.params).In s₁.heap := kIn_of Y
  have T := G.T
  have hm : mg "law" = some (.ref a) := hmg
  clear hmg ho hd hcd hD Y G
  wrow_args hpre hlay hrd hwl hlo
  exact join KX T hm hg (by assumption) (by assumption) (by omega) (raisesW_false allW_false_nil) (postW_of rfl rfl (same_self _))
end Mine
end
open PySem PySem.W
set_option maxRecDepth 100000 in
theorem PySem.Challenge.cw_ah5012_01_holds : PySem.Challenge.rw_ah5012_01.Holds :=
  Mine.final
