import PyProof.Rows.All
import Wide.All
import OpenK.AllK
import Wide.FinOn
import PySem.Challenge.RW_nb0059_01
open PySem PySem.W PyProof.Rows PySem.Calls
set_option Elab.async false
set_option maxRecDepth 100000
set_option maxHeartbeats 8000000
set_option linter.unusedVariables false
set_option linter.unusedSimpArgs false
namespace Mine
open_top hd for PySem.Challenge.rw_nb0059_01
section

/-- the objects that the call has made and that are known -/
abbrev Led := List (Addr × Obj)

/-- the ground: program, world, the written part of the heap as the top left it -/
structure Gr where
  prog : Program
  w : World
  K : Frag
  base : Heap
  p : Program
  loose : List Str
  mean : ExcName → Option Value
  mg : Str → Option Value
  mb : Str → Option Value
  os : OsState
  X : K.In base
  T : Top p loose mean mg mb base

abbrev Gr.M (G : Gr) : Model := model G.prog G.w

structure Room (k : Nat) (A : Around) : Prop where
  depth : A.depth + k < 900
  units : A.units + 8 * k < 9000
  handled : A.handled = none

theorem Room.d {k A} (r : Room k A) : A.depth < recursionLimit := by
  have := r.depth; show A.depth < 1000; omega
theorem Room.u {k A} (r : Room k A) : A.units < cLine := by
  have := r.units; show A.units < 9900; omega
theorem Room.deeper {k A env} (r : Room (k + 1) A) : Room k (A.deeper env) :=
  ⟨by have := r.depth; show A.depth + 1 + k < 900; omega, by have := r.units; show A.units + 3 + 8 * k < 9000; omega, r.handled⟩
theorem Room.in1 {k A} (r : Room (k + 1) A) : Room k A.in1 :=
  ⟨by have := r.depth; show A.depth + k < 900; omega, by have := r.units; show A.units + 1 + 8 * k < 9000; omega, r.handled⟩
theorem Room.in1' {j k A} (r : Room k A) (h : j + 2 ≤ k) : Room j A.in1 :=
  ⟨by have := r.depth; show A.depth + j < 900; omega, by have := r.units; show A.units + 1 + 8 * j < 9000; omega, r.handled⟩
theorem Room.le {k j A} (r : Room k A) (h : j ≤ k) : Room j A :=
  ⟨by have := r.depth; omega, by have := r.units; omega, r.handled⟩

/-- what is known of the state: the ground is kept, the ledger stands -/
structure Hd (G : Gr) (l : Led) (s : Shared) : Prop where
  keep : ∀ b o, G.base.get? b = some o → s.heap.get? b = some o
  nd : (l.map (·.1)).Nodup
  led : ∀ p ∈ l, s.heap.get? p.1 = some p.2 ∧ G.base.get? p.1 = none
  gens : s.gens = #[]
  os : s.os = G.os

structure Fh (G : Gr) (L : Addr) (m : Str → Option Value) (l : Led) (s : Shared) : Prop extends Hd G l s where
  ns : s.heap.Ns L m
  above : G.base.objs.size ≤ L
  apart : L ∉ l.map (·.1)

theorem Fh.fr {G L m l s} (H : Fh G L m l s) : Fr G.base L s.heap m := ⟨H.ns, H.keep, H.above⟩
theorem Fh.news {G L m l s} (H : Fh G L m l s) : News G.base L s.heap l :=
  fun p hp => ⟨(H.led p hp).1, fun e => H.apart (e ▸ List.mem_map_of_mem hp), (H.led p hp).2⟩
theorem Fh.of {G L m l} {s : Shared} (F : Fr G.base L s.heap m) (N : News G.base L s.heap l) (nd : (l.map (·.1)).Nodup) (hg : s.gens = #[]) (ho : s.os = G.os) : Fh G L m l s :=
  { keep := F.keep, nd := nd, led := fun p hp => ⟨(N p hp).1, (N p hp).2.2⟩, gens := hg, os := ho, ns := F.ns, above := F.above,
    apart := fun e => by obtain ⟨p, hp, q⟩ := List.mem_map.mp e; exact (N p hp).2.1 q }
theorem Fh.toks {G L m l s} (H : Fh G L m l s) (n : Nat) : Fh G L m l { s with toks := n } :=
  { keep := H.keep, nd := H.nd, led := H.led, gens := H.gens, os := H.os, ns := H.ns, above := H.above, apart := H.apart }
theorem Hd.toks {G l s} (H : Hd G l s) (n : Nat) : Hd G l { s with toks := n } :=
  { keep := H.keep, nd := H.nd, led := H.led, gens := H.gens, os := H.os }

/-- the values of the frame's names, by position -/
def Loc (N : List Str) (vals : List (Option Value)) : Str → Option Value := fun y => ((N.zip vals).lookup y).join

/-- name x has value v -/
inductive GetAt : List Str → List (Option Value) → Str → Value → Prop
  | here {x N v r} : GetAt (x :: N) (some v :: r) x v
  | there {x y N u v r} : GetAt N r x v → GetAt (y :: N) (u :: r) x v
/-- name x is given value v -/
inductive PutAt : List Str → List (Option Value) → Str → Value → List (Option Value) → Prop
  | here {x N u v r} : PutAt (x :: N) (u :: r) x v (some v :: r)
  | there {x y N u v r r'} : PutAt N r x v r' → PutAt (y :: N) (u :: r) x v (u :: r')

theorem GetAt.mem {N r x v} (h : GetAt N r x v) : x ∈ N := by
  induction h with
  | here => exact List.mem_cons_self
  | there _ ih => exact List.mem_cons_of_mem _ ih
theorem PutAt.mem {N r x v r'} (h : PutAt N r x v r') : x ∈ N := by
  induction h with
  | here => exact List.mem_cons_self
  | there _ ih => exact List.mem_cons_of_mem _ ih
theorem PutAt.len {N r x v r'} (h : PutAt N r x v r') : r'.length = r.length := by
  induction h with
  | here => rfl
  | there _ ih => simp [ih]
theorem GetAt.loc {N r x v} (h : GetAt N r x v) (nd : N.Nodup) : Loc N r x = some v := by
  induction h with
  | here => simp [Loc, List.lookup]
  | there h ih =>
    have nd' := List.nodup_cons.mp nd
    rename_i x y N u v r
    have hne : (x == y) = false := beq_eq_false_iff_ne.mpr fun e => nd'.1 (e ▸ h.mem)
    have ih := ih nd'.2
    simp only [Loc, List.zip_cons_cons, List.lookup, hne] at ih ⊢
    exact ih
theorem PutAt.loc {N r x v r'} (h : PutAt N r x v r') (nd : N.Nodup) : (fun y => if y = x then some v else Loc N r y) = Loc N r' := by
  induction h with
  | here =>
    rename_i x N u v r
    funext y
    by_cases e : y = x
    · subst e; simp [Loc, List.lookup]
    · have : (y == x) = false := beq_eq_false_iff_ne.mpr e
      simp [Loc, List.lookup, e, this]
  | there h ih =>
    rename_i x z N u v r r'
    have nd' := List.nodup_cons.mp nd
    have hne : x ≠ z := fun e => nd'.1 (e ▸ h.mem)
    funext y
    have ihy := congrFun (ih nd'.2) y
    by_cases e : y = z
    · subst e
      have : y ≠ x := fun q => hne q.symm
      simp [Loc, List.lookup, this]
    · have b : (y == z) = false := beq_eq_false_iff_ne.mpr e
      simp only [Loc, List.zip_cons_cons, List.lookup, b] at ihy ⊢
      exact ihy

/-- the first names are bound, the others not yet -/
theorem loc_start : ∀ {binds : List (Str × Value)} {N' : List Str}, (binds.map (·.1) ++ N').Nodup →
    Loc (binds.map (·.1) ++ N') (binds.map (fun p => some p.2) ++ N'.map fun _ => none) = fun x => binds.reverse.lookup x := by
  intro binds N' nd
  have none_all : ∀ (N' : List Str) y, Loc N' (N'.map fun _ => none) y = none := by
    intro N' y
    induction N' with
    | nil => rfl
    | cons z N' ih =>
      simp only [Loc, List.map_cons, List.zip_cons_cons, List.lookup] at ih ⊢
      split
      · rfl
      · exact ih
  have look_none : ∀ (l : List (Str × Value)) y, y ∉ l.map (·.1) → l.lookup y = none := by
    intro l y
    induction l with
    | nil => intro _; rfl
    | cons p l ih =>
      intro hy
      simp only [List.map_cons, List.mem_cons, not_or] at hy
      simp only [List.lookup]
      rw [beq_eq_false_iff_ne.mpr hy.1]
      exact ih hy.2
  have look_app : ∀ (l l' : List (Str × Value)) y, (l ++ l').lookup y = (l.lookup y).or (l'.lookup y) := by
    intro l l' y
    induction l with
    | nil => simp
    | cons p l ih =>
      obtain ⟨a, b⟩ := p
      simp only [List.cons_append, List.lookup]
      split
      · rfl
      · exact ih
  funext y
  induction binds with
  | nil => exact none_all N' y
  | cons p binds ih =>
    obtain ⟨z, v⟩ := p
    simp only [List.map_cons, List.cons_append] at nd
    have nd' := List.nodup_cons.mp nd
    have ih := ih nd'.2
    rw [List.reverse_cons, look_app]
    by_cases e : y = z
    · subst e
      rw [look_none binds.reverse y (by
        intro hm
        rw [List.map_reverse, List.mem_reverse] at hm
        exact nd'.1 (List.mem_append_left _ hm))]
      simp [Loc, List.lookup]
    · have b : (y == z) = false := beq_eq_false_iff_ne.mpr e
      have : [(z, v)].lookup y = none := by simp [List.lookup, b]
      rw [this, Option.or_none, ← ih]
      simp only [Loc, List.map_cons, List.cons_append, List.zip_cons_cons, List.lookup, b]

def Glb (G : Gr) (x : Str) (v : Value) : Prop := nsIn G.K mainGlobals x = some (some v) ∨ (nsIn G.K mainGlobals x = some none ∧ bootBuiltins x = some v ∧ x ≠ "__name__")

/-- a frame under way: its names, the globals that it reads, its cells -/
structure Fm (G : Gr) (N : List Str) (Gs : List (Str × Value)) (Cs : List (Str × Addr)) where
  env : Env
  nd : N.Nodup
  kind : env.scope.kind = .function
  loc : ∀ x ∈ N, env.scope.names.lookup x = some .local ∧ (x == ("__debug__" : Str)) = false
  glb : ∀ p ∈ Gs, env.scope.names.lookup p.1 = some .globalImplicit ∧ (p.1 == ("__debug__" : Str)) = false ∧ Glb G p.1 p.2
  globals : env.globals = mainGlobals
  builtins : env.builtins = builtinsNs
  cells : env.cells = Cs

section
variable {G : Gr} {N : List Str} {Gs : List (Str × Value)} {Cs : List (Str × Addr)}

structure St (fm : Fm G N Gs Cs) (vals : List (Option Value)) (l : Led) (s : Shared) : Prop where
  h : Fh G fm.env.locals (Loc N vals) l s
  len : vals.length = N.length

abbrev Po (α : Type) := α → List (Option Value) → Led → Prop

/-- from such a state the tree ends in such a state, and never raises -/
structure T (fm : Fm G N Gs Cs) (k : Nat) (vals : List (Option Value)) (l : Led) {α : Type} (t : Sem α) (P : Po α) : Prop where
  go : ∀ A s, Room k A → St fm vals l s → wpAny G.M A t (fun a s' => ∃ vals' l', St fm vals' l' s' ∧ P a vals' l') (fun _ _ => False) s
/-- the same of a code (a loop) -/
structure C (fm : Fm G N Gs Cs) (k : Nat) (vals : List (Option Value)) (l : Led) (c : Code) (P : Po Flow) : Prop where
  go : ∀ A s, Room k A → St fm vals l s → codeAny G.M A c (fun r s' => ∃ f vals' l', r = .ok f ∧ St fm vals' l' s' ∧ P f vals' l') s

variable {fm : Fm G N Gs Cs} {k : Nat} {vals : List (Option Value)} {l : Led} {α β : Type}

theorem St.toks {s} (H : St fm vals l s) (n : Nat) : St fm vals l { s with toks := n } := ⟨H.h.toks n, H.len⟩

theorem T_pure {a : α} {P : Po α} (h : P a vals l) : T fm k vals l (pure a) P := .mk fun _ _ _ H => wpAny_pure ⟨vals, l, H, h⟩
theorem T_mono {t : Sem α} {P P' : Po α} (h : T fm k vals l t P) (hP : ∀ a v l, P a v l → P' a v l) : T fm k vals l t P' :=
  .mk fun A s r H => wpAny_mono (h.go A s r H) (fun a s' ⟨v, l, H', p⟩ => ⟨v, l, H', hP a v l p⟩) fun _ _ x => x
theorem C_mono {c : Code} {P P' : Po Flow} (h : C fm k vals l c P) (hP : ∀ a v l, P a v l → P' a v l) : C fm k vals l c P' :=
  .mk fun A s r H => codeAny_mono (h.go A s r H) (fun _ s' ⟨f, v, l, e, H', p⟩ => ⟨f, v, l, e, H', hP f v l p⟩)
theorem T_bind {m : Sem α} {f : α → Sem β} {P : Po β} (h : T fm k vals l m fun a v l => T fm k v l (f a) P) : T fm k vals l (m >>= f) P :=
  .mk fun A s r H => wpAny_bind (wpAny_mono (h.go A s r H) (fun a s' ⟨_, _, H', p⟩ => p.go A s' r H') fun _ _ x => x)
theorem T_in {t : Sem α} {P : Po α} {A s} (h : T fm k vals l t P) (r : Room k A) (H : St fm vals l s) {Q : α → Shared → Prop} {E : Value → Shared → Prop} (hQ : ∀ a v l s', St fm v l s' → P a v l → Q a s') :
    wpAny G.M A t Q E s := wpAny_mono (h.go A s r H) (fun a s' ⟨v, l, H', p⟩ => hQ a v l s' H' p) fun _ _ x => x.elim

/-- what comes behind a statement -/
def Kn (fm : Fm G N Gs Cs) (k : Nat) (rest : List Stmt) (P : Po Flow) : Po Flow := fun f vals l =>
  match f with
  | .next => T fm k vals l (execs rest fm.env) P
  | f => P f vals l
theorem K_next {rest P} (h : T fm k vals l (execs rest fm.env) P) : Kn fm k rest P .next vals l := h
theorem K_ret {rest P v} (h : P (.ret v) vals l) : Kn fm k rest P (.ret v) vals l := h
theorem K_cont {rest P} (h : P .cont vals l) : Kn fm k rest P .cont vals l := h
theorem K_brk {rest P} (h : P .brk vals l) : Kn fm k rest P .brk vals l := h

theorem T_nil {P : Po Flow} (h : P .next vals l) : T fm k vals l (execs [] fm.env) P := .mk fun _ _ _ H => wpAny_execs_nil ⟨vals, l, H, h⟩
theorem T_cons {st rest} {P : Po Flow} (h : T fm k vals l (exec st fm.env) (Kn fm k rest P)) : T fm k vals l (execs (st :: rest) fm.env) P :=
  .mk fun A s r H => wpAny_execs_cons (T_in h r H fun f v l' s' H' p => by
    cases f
    · exact p.go A s' r H'
    all_goals exact ⟨v, l', H', p⟩)

theorem T_BinOp {a op b pos} {P : Po Value} (h : T fm k vals l (eval a fm.env) fun x v l => T fm k v l (eval b fm.env) fun y v l => T fm k v l (binaryOp op x y) P) :
    T fm k vals l (eval (.BinOp a op b pos) fm.env) P := .mk fun A s r H =>
  wpAny_BinOp (T_in h r H fun x _ _ s₁ H₁ h₁ => T_in h₁ r H₁ fun y _ _ s₂ H₂ h₂ => h₂.go A s₂ r H₂)
theorem T_UnaryOp {op a pos} {P : Po Value} (h : T fm k vals l (eval a fm.env) fun x v l => T fm k v l (unaryOp op x) P) :
    T fm k vals l (eval (.UnaryOp op a pos) fm.env) P := .mk fun A s r H => wpAny_UnaryOp (T_in h r H fun x _ _ s₁ H₁ h₁ => h₁.go A s₁ r H₁)
theorem T_Compare {a op b pos} {P : Po Value} (hm : behindInMarks op b = false) (h : T fm k vals l (eval a fm.env) fun x v l => T fm k v l (eval b fm.env) fun y v l => T fm k v l (compareOp op x y) P)
    : T fm k vals l (eval (.Compare a [op] [b] pos) fm.env) P := .mk fun A s r H =>
  wpAny_Compare1 (T_in h r H fun x _ _ s₁ H₁ h₁ => T_in h₁ r H₁ fun y _ _ s₂ H₂ h₂ => h₂.go A s₂ r H₂) hm
theorem T_isTrue_Compare {a op b pos whole} {P : Po Bool} (hm : behindInMarks op b = false)
    (h : T fm k vals l (eval a fm.env) fun x v l => T fm k v l (eval b fm.env) fun y v l => T fm k v l (compareOp op x y) fun c v l => T fm k v l (truthy c) P) :
    T fm k vals l (isTrue (.Compare a [op] [b] pos) fm.env whole) P := .mk fun A s r H =>
  wpAny_isTrue_Compare1 (T_in h r H fun x _ _ s₁ H₁ h₁ => T_in h₁ r H₁ fun y _ _ s₂ H₂ h₂ => T_in h₂ r H₂ fun c _ _ s₃ H₃ h₃ => h₃.go A s₃ r H₃) hm
theorem T_isTrue_Not {a pos whole} {P : Po Bool} (h : T fm k vals l (isTrue a fm.env (eval a fm.env)) fun b v l => P (!b) v l) : T fm k vals l (isTrue (.UnaryOp .Not a pos) fm.env whole) P := .mk fun A s r H =>
  wpAny_isTrue_Not (h.go A s r H)
theorem T_isTrue_val {e whole} {P : Po Bool} (he : isTrue e fm.env whole = (do let v ← whole; standAt e.pos; holding [v] (truthy v))) (h : T fm k vals l whole fun x v l => T fm k v l (truthy x) P)
     : T fm k vals l (isTrue e fm.env whole) P := .mk fun A s r H => wpAny_isTrue_value (T_in h r H fun x _ _ s₁ H₁ h₁ => h₁.go A s₁ r H₁) he
theorem T_isTrue_BoolOp {op vs pos whole} {P : Po Bool} (h : T fm k vals l (allTrue op vs fm.env) P) : T fm k vals l (isTrue (.BoolOp op vs pos) fm.env whole) P := .mk fun A s r H => wpAny_isTrue_BoolOp (h.go A s r H)
theorem T_and_nil {P : Po Bool} (h : P true vals l) : T fm k vals l (allTrue .And [] fm.env) P := .mk fun _ _ _ H => wpAny_allTrue_And_nil ⟨vals, l, H, h⟩
theorem T_or_nil {P : Po Bool} (h : P false vals l) : T fm k vals l (allTrue .Or [] fm.env) P := .mk fun _ _ _ H => wpAny_allTrue_Or_nil ⟨vals, l, H, h⟩

/-- two ways of a test -/
def If2 (b : Bool) (X Y : Prop) : Prop := if b then X else Y
theorem If2.t {X Y : Prop} (h : X) : If2 true X Y := h
theorem If2.f {X Y : Prop} (h : Y) : If2 false X Y := h
theorem If2.both {b : Bool} {X Y : Prop} (h : b = true → X) (h' : b = false → Y) : If2 b X Y := by cases b; exact h' rfl; exact h rfl
theorem If2.pos {b : Bool} {X Y : Prop} (e : b = true) (h : X) : If2 b X Y := by rw [e]; exact h
theorem If2.neg {b : Bool} {X Y : Prop} (e : b = false) (h : Y) : If2 b X Y := by rw [e]; exact h
theorem If2.dec {p : Prop} [Decidable p] {X Y : Prop} (h : p → X) (h' : ¬ p → Y) : If2 (decide p) X Y := If2.both (fun e => h (of_decide_eq_true e)) fun e => h' (of_decide_eq_false e)

theorem T_and_cons {x rest} {P : Po Bool} (h : T fm k vals l (isTrue x fm.env (eval x fm.env)) fun b v l => If2 b (T fm k v l (allTrue .And rest fm.env) P) (P false v l)) :
    T fm k vals l (allTrue .And (x :: rest) fm.env) P := .mk fun A s r H => wpAny_allTrue_And_cons (T_in h r H fun b v l s₁ H₁ h₁ => by
      cases b
      · exact ⟨v, l, H₁, h₁⟩
      · exact h₁.go A s₁ r H₁)
theorem T_or_cons {x rest} {P : Po Bool} (h : T fm k vals l (isTrue x fm.env (eval x fm.env)) fun b v l => If2 b (P true v l) (T fm k v l (allTrue .Or rest fm.env) P)) :
    T fm k vals l (allTrue .Or (x :: rest) fm.env) P := .mk fun A s r H => wpAny_allTrue_Or_cons (T_in h r H fun b v l s₁ H₁ h₁ => by
      cases b
      · exact h₁.go A s₁ r H₁
      · exact ⟨v, l, H₁, h₁⟩)
theorem T_IfExp {c a b pos} {P : Po Value} (h : T fm k vals l (isTrue c fm.env (eval c fm.env)) fun t v l => If2 t (T fm k v l (eval a fm.env) P) (T fm k v l (eval b fm.env) P)) :
    T fm k vals l (eval (.IfExp c a b pos) fm.env) P := .mk fun A s r H => wpAny_IfExp (T_in h r H fun t _ _ s₁ H₁ h₁ => by cases t <;> exact h₁.go A s₁ r H₁)
theorem T_If {c a b pos} {P : Po Flow} (h : T fm k vals l (isTrue c fm.env (eval c fm.env)) fun t v l => If2 t (T fm k v l (execs a fm.env) P) (T fm k v l (execs b fm.env) P)) :
    T fm k vals l (exec (.If c a b pos) fm.env) P := .mk fun A s r H => wpAny_If (T_in h r H fun t _ _ s₁ H₁ h₁ => by cases t <;> exact h₁.go A s₁ r H₁)
theorem T_Return {e pos} {P : Po Flow} (h : T fm k vals l (eval e fm.env) fun x v l => P (.ret x) v l) : T fm k vals l (exec (.Return (some e) pos) fm.env) P := .mk fun A s r H =>
  wpAny_Return_some (h.go A s r H)
theorem T_Continue {pos} {P : Po Flow} (h : P .cont vals l) : T fm k vals l (exec (.Continue pos) fm.env) P := .mk fun A s r H => wpAny_Continue ⟨vals, l, H, h⟩
theorem T_Expr {e pos} {P : Po Flow} (hs : swapsWith e none pos.line fm.env = pure false) (h : T fm k vals l (eval e fm.env) fun _ v l => P .next v l) : T fm k vals l (exec (.Expr e pos) fm.env) P := .mk fun A s r H =>
  wpAny_Expr_any (h.go A s r H) (by unfold interactive; rw [fm.kind]; rfl) hs

theorem plainScope (fm : Fm G N Gs Cs) : (fm.env.scope.kind == .class || (fm.env.scope.kind == .module && fm.env.locals != fm.env.globals)) = false := by rw [fm.kind]; rfl
theorem T_store {x v vals'} {P : Po Unit} (hx : PutAt N vals x v vals') (h : P () vals' l) : T fm k vals l (storeName fm.env x v) P := .mk fun A s r H => by
  refine wpAny_storeName_local (fm.loc x hx.mem).1 H.h.ns (fun h' hn hsb => ⟨vals', l, ⟨?_, hx.len.trans H.len⟩, h⟩) (plainScope fm)
  have F := H.h.fr.set hn hsb
  rw [hx.loc fm.nd] at F
  exact Fh.of F (H.h.news.set hsb) H.h.nd H.h.gens H.h.os
theorem T_Assign {x pos' e pos} {P : Po Flow} (hs : swapsWith e (some (.Name x pos')) pos.line fm.env = pure false)
    (h : T fm k vals l (eval e fm.env) fun v vs l => T fm k vs l (storeName fm.env x v) fun _ vs l => P .next vs l) : T fm k vals l (exec (.Assign [.Name x pos'] e pos) fm.env) P := .mk fun A s r H =>
  wpAny_Assign_Name (T_in h r H fun v vs l₁ s₁ H₁ h₁ => h₁.go A s₁ r H₁) hs
theorem T_loadName {x v} {P : Po Value} (hx : GetAt N vals x v) (h : P v vals l) : T fm k vals l (loadName fm.env x) P := .mk fun _ _ _ H =>
  wpAny_loadName_local fm.kind (fm.loc x hx.mem).1 H.h.ns (hx.loc fm.nd) ⟨vals, l, H, h⟩
theorem T_Aug {x pos' op e pos} {P : Po Flow} (h : T fm k vals l (loadName fm.env x) fun o v l => T fm k v l (eval e fm.env) fun y v l => T fm k v l (inplaceOp op o y) fun z v l => T fm k v l (storeName fm.env x z) fun _ v l => P .next v l) :
    T fm k vals l (exec (.AugAssign (.Name x pos') op e pos) fm.env) P := .mk fun A s r H =>
  wpAny_AugAssign_Name (T_in h r H fun _ _ _ s₁ H₁ h₁ => T_in h₁ r H₁ fun _ _ _ s₂ H₂ h₂ => T_in h₂ r H₂ fun _ _ _ s₃ H₃ h₃ => h₃.go A s₃ r H₃)

theorem T_local {x pos v} {P : Po Value} (hx : GetAt N vals x v) (h : P v vals l) : T fm k vals l (eval (.Name x pos) fm.env) P := .mk fun A s r H =>
  wpAny_Name ((T_loadName (k := k) hx h).go A s r H) (fm.loc x hx.mem).2

theorem T_glob {x pos v} {P : Po Value} (hx : (x, v) ∈ Gs) (h : P v vals l) : T fm k vals l (eval (.Name x pos) fm.env) P := .mk fun A s _ H => by
  obtain ⟨hk, hd, hg⟩ := fm.glb _ hx
  have hget : s.heap.Ns fm.env.globals G.mg := by rw [fm.globals]; exact G.T.g.keeps H.h.keep
  have hgb : s.heap.Ns fm.env.builtins G.mb := by rw [fm.builtins]; exact G.T.b.keeps H.h.keep
  rcases hg with hg | ⟨hg, hb, hn⟩
  · exact Name_function_global fm.kind hk (loadGlobal_global hget (mg_of G.X G.T.g hg) ⟨vals, l, H, h⟩) hd
  · exact Name_function_global fm.kind hk (loadGlobal_builtin hget (mg_none_of G.X G.T.g hg) hgb ((G.T.builtins x hn).trans hb) ⟨vals, l, H, h⟩) hd

theorem T_int {n j pos} {P : Po Value} (h : ∀ t, P (.int n t) vals l) : T fm k vals l (eval (.Constant (.int n) j pos) fm.env) P := .mk fun _ s _ H => wpAny_Constant_int ⟨vals, l, H.toks _, h _⟩
theorem T_str {n j pos} {P : Po Value} (h : ∀ t, P (.str n t) vals l) : T fm k vals l (eval (.Constant (.str n) j pos) fm.env) P := .mk fun _ s _ H => wpAny_Constant_str ⟨vals, l, H.toks _, h _⟩
theorem T_bool {n j pos} {P : Po Value} (h : P (.bool n) vals l) : T fm k vals l (eval (.Constant (.bool n) j pos) fm.env) P := .mk fun _ s _ H => wpAny_Constant_bool ⟨vals, l, H, h⟩
theorem T_none {j pos} {P : Po Value} (h : P .none vals l) : T fm k vals l (eval (.Constant .none j pos) fm.env) P := .mk fun _ s _ H => wpAny_Constant_none ⟨vals, l, H, h⟩

section
variable {a b : Int} {t u : Tok} {P : Po Value}
theorem T_add (h : ∀ t, P (.int (a + b) t) vals l) : T fm k vals l (binaryOp .Add (.int a t) (.int b u)) P := .mk fun _ _ _ H => add_int ⟨vals, l, H.toks _, h _⟩
theorem T_iadd (h : ∀ t, P (.int (a + b) t) vals l) : T fm k vals l (inplaceOp .Add (.int a t) (.int b u)) P := .mk fun _ _ _ H => iadd_int ⟨vals, l, H.toks _, h _⟩
theorem T_subi (h : ∀ t, P (.int (a - b) t) vals l) : T fm k vals l (binaryOp .Sub (.int a t) (.int b u)) P := .mk fun _ _ _ H => sub_int ⟨vals, l, H.toks _, h _⟩
theorem T_isubi (h : ∀ t, P (.int (a - b) t) vals l) : T fm k vals l (inplaceOp .Sub (.int a t) (.int b u)) P := .mk fun _ _ _ H => isub_int ⟨vals, l, H.toks _, h _⟩
theorem T_mod (hb : b ≠ 0) (h : ∀ t, P (.int (a.fmod b) t) vals l) : T fm k vals l (binaryOp .Mod (.int a t) (.int b u)) P := .mk fun _ _ _ H => mod_int' hb ⟨vals, l, H.toks _, h _⟩
theorem T_fdiv (hb : b ≠ 0) (hs : b.natAbs < 1073741824) (h : ∀ t, P (.int (a.fdiv b) t) vals l) : T fm k vals l (binaryOp .FloorDiv (.int a t) (.int b u)) P := .mk fun _ _ _ H =>
  floordiv_int hb ⟨vals, l, H.toks _, h _⟩ (.inl (PyProof.noPylong_small hs))
theorem T_gt (h : P (.bool (decide (a > b))) vals l) : T fm k vals l (compareOp .Gt (.int a t) (.int b u)) P := .mk fun _ _ _ H => gt_int ⟨vals, l, H, h⟩
theorem T_ge (h : P (.bool (decide (a ≥ b))) vals l) : T fm k vals l (compareOp .GtE (.int a t) (.int b u)) P := .mk fun _ _ _ H => ge_int ⟨vals, l, H, h⟩
theorem T_lt (h : P (.bool (decide (a < b))) vals l) : T fm k vals l (compareOp .Lt (.int a t) (.int b u)) P := .mk fun _ _ _ H => lt_int ⟨vals, l, H, h⟩
theorem T_eqi (h : P (.bool (a == b)) vals l) : T fm k vals l (compareOp .Eq (.int a t) (.int b u)) P := .mk fun _ _ _ H => eq_int ⟨vals, l, H, h⟩
theorem T_nei (h : P (.bool (a != b)) vals l) : T fm k vals l (compareOp .NotEq (.int a t) (.int b u)) P := .mk fun _ _ _ H => ne_int ⟨vals, l, H, h⟩
theorem T_truthy_bool {b : Bool} {P : Po Bool} (h : P b vals l) : T fm k vals l (truthy (.bool b)) P := .mk fun _ _ _ H => wpAny_truthy_bool ⟨vals, l, H, h⟩
end
end

/-! the ledger -/
inductive Pick (p : Addr × Obj) : Led → Led → Prop
  | head {l} : Pick p (p :: l) l
  | tail {q l l'} : Pick p l l' → Pick p (q :: l) (q :: l')
theorem Pick.perm {p l l'} (h : Pick p l l') : l.Perm (p :: l') := by
  induction h with
  | head => exact .refl _
  | tail _ ih => exact (List.Perm.cons _ ih).trans (.swap _ _ _)
theorem Pick.mem {p l l'} (h : Pick p l l') : p ∈ l := h.perm.mem_iff.mpr List.mem_cons_self
/-- ps are taken out of l, rest is left -/
inductive SubL : Led → Led → Led → Prop
  | nil {l} : SubL [] l l
  | cons {p ps l l₁ rest} : Pick p l l₁ → SubL ps l₁ rest → SubL (p :: ps) l rest
theorem SubL.perm {ps l rest} (h : SubL ps l rest) : l.Perm (ps ++ rest) := by
  induction h with
  | nil => exact .refl _
  | cons h _ ih => exact h.perm.trans (List.Perm.cons _ ih)
/-- a is kept of b -/
inductive Sbl : Led → Led → Prop
  | refl {a} : Sbl a a
  | pick {p a b b'} : Pick p b b' → Sbl a b' → Sbl (p :: a) b
  | drop {p a b} : Sbl a b → Sbl a (p :: b)
theorem Sbl.sub {a b} (h : Sbl a b) : ∃ r, b.Perm (a ++ r) := by
  induction h with
  | refl => exact ⟨[], by rw [List.append_nil]⟩
  | pick h _ ih => obtain ⟨r, e⟩ := ih; exact ⟨r, h.perm.trans (List.Perm.cons _ e)⟩
  | drop _ ih => obtain ⟨r, e⟩ := ih; exact ⟨_ :: r, (List.Perm.cons _ e).trans (List.perm_middle.symm)⟩
/-- one object changed in place -/
inductive Upd1 (a : Addr) (o o' : Obj) : Led → Led → Prop
  | head {r} : Upd1 a o o' ((a, o) :: r) ((a, o') :: r)
  | tail {p r r'} : Upd1 a o o' r r' → Upd1 a o o' (p :: r) (p :: r')
theorem Upd1.mem {a o o' l l'} (h : Upd1 a o o' l l') : (a, o) ∈ l := by
  induction h with
  | head => exact List.mem_cons_self
  | tail _ ih => exact List.mem_cons_of_mem _ ih
theorem Upd1.fst {a o o' l l'} (h : Upd1 a o o' l l') : l'.map (·.1) = l.map (·.1) := by
  induction h with
  | head => rfl
  | tail _ ih => simp [ih]
theorem Upd1.of {a o o' l l'} (h : Upd1 a o o' l l') : (l.map (·.1)).Nodup → ∀ p ∈ l', p = (a, o') ∨ (p ∈ l ∧ p.1 ≠ a) := by
  induction h with
  | head =>
    intro nd p hp
    rcases List.mem_cons.mp hp with rfl | hp
    · exact .inl rfl
    · refine .inr ⟨List.mem_cons_of_mem _ hp, fun e => ?_⟩
      have := (List.nodup_cons.mp nd).1
      refine this ?_
      show a ∈ _
      rw [← e]
      exact List.mem_map_of_mem (f := (·.1)) hp
  | tail h ih =>
    intro nd p hp
    have nd' := List.nodup_cons.mp nd
    rcases List.mem_cons.mp hp with rfl | hp
    · refine .inr ⟨List.mem_cons_self, fun e => nd'.1 ?_⟩
      show p.1 ∈ _
      rw [e]; exact List.mem_map_of_mem (f := (·.1)) h.mem
    · exact (ih nd'.2 p hp).imp id fun q => ⟨List.mem_cons_of_mem _ q.1, q.2⟩
theorem Upd1.upd {a o o' l l'} (h : Upd1 a o o' l l') : (l.map (·.1)).Nodup → Upd a o o' l l' := by
  induction h with
  | head => intro nd; exact .head fun p hp e => (List.nodup_cons.mp nd).1 (by show a ∈ _; rw [← e]; exact List.mem_map_of_mem (f := (·.1)) hp)
  | tail h ih => rename_i q _ _; intro nd; exact .tail (fun e => (List.nodup_cons.mp nd).1 (by show q.1 ∈ _; rw [e]; exact List.mem_map_of_mem (f := (·.1)) h.mem)) (ih (List.nodup_cons.mp nd).2)

theorem Hd.perm {G a b s} (H : Hd G a s) (h : a.Perm b) : Hd G b s :=
  { keep := H.keep, nd := (h.map _).nodup_iff.mp H.nd, led := fun p hp => H.led p (h.mem_iff.mpr hp), gens := H.gens, os := H.os }
theorem Hd.left {G a b s} (H : Hd G (a ++ b) s) : Hd G a s :=
  { keep := H.keep, nd := (List.nodup_append.mp (by have := H.nd; rwa [List.map_append] at this)).1, led := fun p hp => H.led p (List.mem_append_left _ hp), gens := H.gens, os := H.os }
theorem Hd.sbl {G a b s} (H : Hd G b s) (h : Sbl a b) : Hd G a s := by
  obtain ⟨r, e⟩ := h.sub
  exact (H.perm e).left
theorem Fh.perm {G L m a b s} (H : Fh G L m a s) (h : a.Perm b) : Fh G L m b s :=
  { H.toHd.perm h with ns := H.ns, above := H.above, apart := fun e => H.apart ((h.map _).mem_iff.mpr e) }
theorem Fh.sbl {G L m a b s} (H : Fh G L m b s) (h : Sbl a b) : Fh G L m a s := by
  obtain ⟨r, e⟩ := h.sub
  exact { (H.toHd.perm e).left with ns := H.ns, above := H.above, apart := fun q => (H.perm e).apart (by rw [List.map_append]; exact List.mem_append_left _ q) }

/-- a contract: the objects pre are looked at or changed, all the rest is kept -/
structure Sp (G : Gr) (k : Nat) (pre : Led) (f : Value) (pos : List Value) (kw : List (Str × Value)) (P : Value → Led → Prop) : Prop where
  go : ∀ rest A s, Room k A → Hd G (pre ++ rest) s → G.base.objs.size ≤ s.heap.objs.size →
    codeAny G.M A (.call f ⟨pos, kw⟩) (fun r s' => ∃ v post, r = .ok (.ret v) ∧ Hd G (post ++ rest) s' ∧ P v post) s

theorem Sp_mono {G k pre f pos kw P P'} (h : Sp G k pre f pos kw P) (hP : ∀ v l, P v l → P' v l) : Sp G k pre f pos kw P' :=
  .mk fun rest A s r H big => codeAny_mono (h.go rest A s r H big) (fun _ s' ⟨v, post, e, H', p⟩ => ⟨v, post, e, H', hP v post p⟩)

section
variable {G : Gr} {N : List Str} {Gs : List (Str × Value)} {Cs : List (Str × Addr)} {fm : Fm G N Gs Cs} {k : Nat} {vals : List (Option Value)} {l : Led} {α β : Type}

theorem T_weak {t : Sem α} {P : Po α} {l' : Led} (h : Sbl l' l) (hT : T fm k vals l' t P) : T fm k vals l t P := .mk fun A s r H => hT.go A s r ⟨H.h.sbl h, H.len⟩
theorem C_weak {c : Code} {P : Po Flow} {l' : Led} (h : Sbl l' l) (hT : C fm k vals l' c P) : C fm k vals l c P := .mk fun A s r H => hT.go A s r ⟨H.h.sbl h, H.len⟩

/-- the frame itself as one of the objects that are kept -/
theorem St.out {s} (H : St fm vals l s) : ∃ oL, Hd G ((fm.env.locals, oL) :: l) s ∧ G.base.objs.size ≤ s.heap.objs.size ∧
    ∀ l' s', Hd G ((fm.env.locals, oL) :: l') s' → St fm vals l' s' := by
  obtain ⟨oL, es, ep, hL, hLd, hLk, hLf⟩ := H.h.ns
  have bL : G.base.get? fm.env.locals = none := by
    cases hq : G.base.get? fm.env.locals with
    | none => rfl
    | some o => exact absurd (Nat.lt_of_lt_of_le (Heap.lt_size hq) H.h.above) (Nat.lt_irrefl _)
  refine ⟨oL, { keep := H.h.keep, nd := by rw [List.map_cons]; exact List.nodup_cons.mpr ⟨H.h.apart, H.h.nd⟩, led := fun p hp => ?_, gens := H.h.gens, os := H.h.os }, Nat.le_trans H.h.above (Nat.le_of_lt (Heap.lt_size hL)), fun l' s' H4 => ?_⟩
  · rcases List.mem_cons.mp hp with rfl | hp
    · exact ⟨hL, bL⟩
    · exact H.h.led p hp
  · have nd4 := List.nodup_cons.mp (by have := H4.nd; rwa [List.map_cons] at this)
    exact ⟨{ keep := H4.keep, nd := nd4.2, led := fun p hp => H4.led p (List.mem_cons_of_mem _ hp), gens := H4.gens, os := H4.os
             ns := ⟨oL, es, ep, (H4.led _ List.mem_cons_self).1, hLd, hLk, hLf⟩, above := H.h.above, apart := nd4.1 }, H.len⟩

theorem Sp_at {f : Value} {pos kw} {pre rest : Led} {Q : Value → Led → Prop} {j : Nat} (hS : Sp G j pre f pos kw Q) {A s} (r : Room j A) (H : St fm vals l s) (hsub : SubL pre l rest) :
    codeAny G.M A (.call f ⟨pos, kw⟩) (fun x s' => ∃ v post, x = .ok (.ret v) ∧ St fm vals (post ++ rest) s' ∧ Q v post) s := by
  obtain ⟨oL, H2, big, back⟩ := H.out
  have p1 : ((fm.env.locals, oL) :: l).Perm (pre ++ (fm.env.locals, oL) :: rest) := (List.Perm.cons _ hsub.perm).trans List.perm_middle.symm
  exact codeAny_mono (hS.go _ A s r (H2.perm p1) big) fun _ s' ⟨v, post, e, H3, q⟩ => ⟨v, post, e, back _ s' (H3.perm List.perm_middle), q⟩

theorem T_call {f : Value} {pos kw} {pre rest : Led} {Q : Value → Led → Prop} {P : Po Value} {j : Nat} (hS : Sp G j pre f pos kw Q) (hj : j ≤ k) (hsub : SubL pre l rest) (hP : ∀ v post, Q v post → P v vals (post ++ rest)) :
    T fm k vals l (call f pos kw) P := .mk fun A s r H =>
  wpAny_call (codeAny_mono (Sp_at hS (r.le hj) H hsub) fun x s' ⟨v, post, e, H', q⟩ => by subst e; exact ⟨vals, _, H', hP v post q⟩)

/-- the value that a def hands back -/
def flowV : Flow → Value
  | .ret v => v
  | _ => .none
end

/-- a def of the text is entered -/
theorem enter {G : Gr} {k : Nat} {pre : Led} {P : Value → Led → Prop} {name qual : Str} {params : Arguments} {body : List Stmt} {scope : Scope} {dV kV doc pm cdv ct oc : Value} {an od : Option Addr} {osl : Array (Option Value)} {f : Addr}
    {pos : List Value} {kw : List (Str × Value)} {binds : List (Str × Value)} {N : List Str} {vals : List (Option Value)} {Gs : List (Str × Value)}
    (ho : G.K.lookup f = some ⟨oc, od, .func (fnX name qual params body scope [] dV kV doc pm an cdv ct), osl⟩) (hcd : codeIn G.K cdv qual = true)
    (hbind : ∀ s : Shared, G.K.In s.heap → BindsTo s (fnX name qual params body scope [] dV kV doc pm an cdv ct) ⟨pos, kw⟩ binds)
    (N' : List Str) (hN : N = binds.map (·.1) ++ N') (hv : vals = binds.map (fun p => some p.2) ++ N'.map fun _ => none)
    (hnd : N.Nodup) (hloc : (N.all fun x => decide (scope.names.lookup x = some .local) && !(x == ("__debug__" : Str))) = true)
    (hglb : ∀ p ∈ Gs, scope.names.lookup p.1 = some .globalImplicit ∧ (p.1 == ("__debug__" : Str)) = false ∧ Glb G p.1 p.2)
    (hcell : (scope.names.all fun x => decide (x.2 ≠ .cell)) = true)
    (hco : scope.isCoroutine = false) (hgen : scope.isGenerator = false) (hk : scope.kind = .function)
    (h : ∀ (fm : Fm G N Gs []) (rest : Led), T fm k vals (pre ++ rest) (execs body fm.env) fun fl _ l' => ∃ post, Sbl (post ++ rest) l' ∧ P (flowV fl) post) :
    Sp G (k + 1) pre (.ref f) pos kw P := by
  refine .mk ?_
  intro rest A s r H big
  have X := G.X.keeps H.keep
  have locs : ∀ x ∈ N, scope.names.lookup x = some .local ∧ (x == ("__debug__" : Str)) = false := fun x hx => by
    have := List.all_eq_true.mp hloc x hx
    simp only [Bool.and_eq_true, decide_eq_true_eq, Bool.not_eq_true'] at this
    exact this
  refine codeAny_call_def (fd := fnX name qual params body scope [] dV kV doc pm an cdv ct) (body := body) (binds := binds) r.d (X _ _ ho) rfl (G.T.nolimit.keeps H.keep) (codeRec_of X hcd) rfl (hbind s X)
    (fun x hx => of_decide_eq_true (List.all_eq_true.mp hcell x hx)) (fun x hx => (locs x.1 (by rw [hN]; exact List.mem_append_left _ (List.mem_map_of_mem hx))).1) (fun h₁ hns hk₁ => ?_) hco hgen hk
  let fm : Fm G N Gs [] := { env := callEnv (fnX name qual params body scope [] dV kV doc pm an cdv ct) s.heap.objs.size f, nd := hnd, kind := hk, loc := locs, glb := hglb, globals := rfl, builtins := rfl, cells := rfl }
  have H1 : St fm vals (pre ++ rest) { s with heap := h₁, toks := s.toks + binds.length } := by
    refine ⟨{ keep := fun b o e => hk₁ b o (H.keep b o e), nd := H.nd, led := fun p hp => ⟨hk₁ _ _ (H.led p hp).1, (H.led p hp).2⟩, gens := H.gens, os := H.os, ns := ?_, above := ?_, apart := ?_ }, ?_⟩
    · have e := loc_start (binds := binds) (N' := N') (hN ▸ hnd)
      rw [← hN, ← hv] at e
      rw [e]; exact hns
    · exact big
    · intro e
      obtain ⟨p, hp, q⟩ := List.mem_map.mp e
      exact Nat.lt_irrefl _ (q ▸ Heap.lt_size (H.led p hp).1)
    · rw [hN, hv]; simp
  refine wpAny_mono ((h fm rest).go _ _ r.deeper H1) (fun fl s' ⟨v', l', H2, post, hs, hp⟩ => ?_) fun _ _ x => x.elim
  exact ⟨flowV fl, post, by cases fl <;> rfl, H2.h.toHd.sbl hs, hp⟩

/-! objects -/
section
variable {G : Gr} {N : List Str} {Gs : List (Str × Value)} {Cs : List (Str × Addr)} {fm : Fm G N Gs Cs} {k : Nat} {vals : List (Option Value)} {l : Led} {α β : Type}

theorem St.X {s} (H : St fm vals l s) : G.K.In s.heap := G.X.keeps H.h.keep
theorem St.at {s a o} (H : St fm vals l s) (h : (a, o) ∈ l) : s.heap.get? a = some o := (H.h.led _ h).1
theorem St.keeps {s h' n} (H : St fm vals l s) (hk : ∀ b o, s.heap.get? b = some o → h'.get? b = some o) : St fm vals l { s with heap := h', toks := n } :=
  ⟨{ keep := fun b o e => hk b o (H.h.keep b o e), nd := H.h.nd, led := fun p hp => ⟨hk _ _ (H.h.led p hp).1, (H.h.led p hp).2⟩, gens := H.h.gens, os := H.h.os, ns := H.h.ns.keeps hk, above := H.h.above, apart := H.h.apart }, H.len⟩
theorem St.frN {s h' n l'} (H : St fm vals l s) (F : Fr G.base fm.env.locals h' (Loc N vals)) (Nw : News G.base fm.env.locals h' l') (nd : (l'.map (·.1)).Nodup) : St fm vals l' { s with heap := h', toks := n } :=
  ⟨Fh.of F Nw nd H.h.gens H.h.os, H.len⟩
/-- a new object -/
theorem St.new {s a o h' n} (H : St fm vals l s) (hk : ∀ b o, s.heap.get? b = some o → h'.get? b = some o) (ho : h'.get? a = some o) (hn : s.heap.get? a = none) : St fm vals ((a, o) :: l) { s with heap := h', toks := n } := by
  have H' := H.keeps (n := n) hk
  refine ⟨{ keep := H'.h.keep, nd := ?_, led := fun p hp => ?_, gens := H.h.gens, os := H.h.os, ns := H'.h.ns, above := H.h.above, apart := ?_ }, H.len⟩
  · rw [List.map_cons]
    refine List.nodup_cons.mpr ⟨fun e => ?_, H.h.nd⟩
    obtain ⟨p, hp, q⟩ := List.mem_map.mp e
    have z := (H.h.led p hp).1
    rw [q, hn] at z; cases z
  · rcases List.mem_cons.mp hp with rfl | hp
    · refine ⟨ho, ?_⟩
      cases q : G.base.get? a with
      | none => rfl
      | some o' => have := H.h.keep _ _ q; rw [hn] at this; cases this
    · exact H'.h.led p hp
  · intro e
    rw [List.map_cons] at e
    rcases List.mem_cons.mp e with q | q
    · obtain ⟨oL, _, _, hL, _⟩ := H.h.ns
      have q' : fm.env.locals = a := q
      rw [q', hn] at hL; cases hL
    · exact H.h.apart q
theorem get?_size (h : Heap) : h.get? h.objs.size = none := by
  cases q : h.get? h.objs.size with
  | none => rfl
  | some o => exact absurd (Heap.lt_size q) (Nat.lt_irrefl _)
theorem St.push {s n} (H : St fm vals l s) (o : Obj) (hf : o.isFreed = false := by rfl) : St fm vals ((s.heap.objs.size, o) :: l) { s with heap := s.heap.push o, toks := n } :=
  H.new (fun b o' e => Heap.get?_push_of_some _ e) (Heap.get?_push_size _ hf) (get?_size _)
/-- an object changed -/
theorem St.upd {s a o o' l' h' n} (H : St fm vals l s) (U : Upd1 a o o' l l') (hs : Heap.SameBut a s.heap h') (ho : h'.get? a = some o') : St fm vals l' { s with heap := h', toks := n } := by
  have ha := H.h.led _ U.mem
  have hL : fm.env.locals ≠ a := fun e => H.h.apart (e ▸ List.mem_map_of_mem (f := (·.1)) U.mem)
  refine ⟨{ keep := fun b ob e => ?_, nd := U.fst ▸ H.h.nd, led := fun p hp => ?_, gens := H.h.gens, os := H.h.os, ns := H.h.ns.sameBut hs hL, above := H.h.above, apart := U.fst ▸ H.h.apart }, H.len⟩
  · have hb : b ≠ a := fun q => by rw [q, ha.2] at e; cases e
    exact (hs.2 b hb).trans (H.h.keep b ob e)
  · rcases U.of H.h.nd p hp with rfl | ⟨hp', hne⟩
    · exact ⟨ho, ha.2⟩
    · exact ⟨(hs.2 _ hne).trans (H.h.led p hp').1, (H.h.led p hp').2⟩
/-- an object forgotten, whatever became of it -/
theorem St.forget {s a o l' h' n} (H : St fm vals l s) (U : Pick (a, o) l l') (hx : Heap.ExtBut a s.heap h') : St fm vals l' { s with heap := h', toks := n } := by
  have H1 := H.h.perm U.perm
  have nd1 := List.nodup_cons.mp (by have := H1.nd; rwa [List.map_cons] at this)
  have ha := H1.led _ List.mem_cons_self
  have hL : fm.env.locals ≠ a := fun e => H1.apart (by rw [List.map_cons]; exact e ▸ List.mem_cons_self)
  refine ⟨{ keep := fun b ob e => hx b ob (fun q => ?_) (H.h.keep b ob e), nd := nd1.2, led := fun p hp => ?_, gens := H.h.gens, os := H.h.os, ns := H.h.ns.extBut hx hL, above := H.h.above, apart := fun e => H1.apart (by rw [List.map_cons]; exact List.mem_cons_of_mem _ e) }, H.len⟩
  · rw [q, ha.2] at e; cases e
  · have z := H1.led p (List.mem_cons_of_mem _ hp)
    exact ⟨hx _ _ (fun q => nd1.1 (by show a ∈ _; rw [← q]; exact List.mem_map_of_mem (f := (·.1)) hp)) z.1, z.2⟩
/-- a heap that keeps all but a place that was free -/
theorem St.extNew {s a h' n} (H : St fm vals l s) (hn : s.heap.get? a = none) (hx : Heap.ExtBut a s.heap h') : St fm vals l { s with heap := h', toks := n } :=
  H.keeps fun b o e => hx b o (fun q => by rw [q, hn] at e; cases e) e

theorem T_newList {vs : List Value} {P : Po Value} (h : ∀ a, P (.ref a) vals ((a, listOf vs.toArray 0) :: l)) (hsz : vs.length ≤ sizeLine := by size_fits) : T fm k vals l (newList vs) P := .mk fun A s r H =>
  wpAny_newObj_type ⟨vals, _, H.push _, h _⟩ (by show vs.toArray.size ≤ sizeLine; rw [List.size_toArray]; exact hsz)
abbrev tupOf (its : Array Value) : Obj := { cls := .type "tuple", data := .seq its }
theorem T_newTuple {vs : List Value} {P : Po Value} (h : ∀ a, P (.ref a) vals ((a, tupOf vs.toArray) :: l)) (hsz : vs.length ≤ sizeLine := by size_fits) : T fm k vals l (newTuple vs) P := .mk fun A s r H =>
  wpAny_newObj_type ⟨vals, _, H.push _, h _⟩ (by show vs.toArray.size ≤ sizeLine; rw [List.size_toArray]; exact hsz)

/-! calls and attributes, the trees -/
variable {P : Po Value}
theorem T_args_nil {pos} {P : Po (List Value)} (h : P [] vals l) : T fm k vals l (spliced (backTo pos (starEach [] fm.env))) P := .mk fun A s r H => spliced_none ⟨vals, l, H, h⟩
theorem T_args_cons {pos e rest} {P : Po (List Value)} (he : starEach (e :: rest) fm.env = (false, eval e fm.env) :: starEach rest fm.env)
    (h : T fm k vals l (eval e fm.env) fun v vs l => T fm k vs l (spliced (backTo pos (starEach rest fm.env))) fun vs' => P (v :: vs')) : T fm k vals l (spliced (backTo pos (starEach (e :: rest) fm.env))) P := .mk fun A s r H =>
  spliced_more (T_in h r H fun v _ _ s₁ H₁ h₁ => h₁.go A s₁ r H₁) he
theorem T_List {elts pos} (h : T fm k vals l (spliced (backTo pos (starEach elts fm.env))) fun vs v l => T fm k v l (newList vs) P) : T fm k vals l (eval (.List elts pos) fm.env) P := .mk fun A s r H =>
  List_ (T_in h r H fun v _ _ s₁ H₁ h₁ => h₁.go A s₁ r H₁)
theorem T_Tuple {elts j pos} (h : T fm k vals l (spliced (backTo pos (starEach elts fm.env))) fun vs v l => T fm k v l (newTuple vs) P) : T fm k vals l (eval (.Tuple elts j pos) fm.env) P := .mk fun A s r H =>
  Tuple_ (T_in h r H fun v _ _ s₁ H₁ h₁ => h₁.go A s₁ r H₁)
theorem T_CallN {x np args pos} (h : T fm k vals l (eval (.Name x np) fm.env) fun f v l => T fm k v l (callWith pos f [] (backTo pos (starEach args fm.env)) []) P) :
    T fm k vals l (eval (.Call (.Name x np) args [] pos) fm.env) P := .mk fun A s r H => wpAny_Call_ofName (T_in h r H fun v _ _ s₁ H₁ h₁ => h₁.go A s₁ r H₁)
/-- what comes behind the look for a method -/
def Cm (fm : Fm G N Gs Cs) (k : Nat) (pos : Pos) (args : List Expr) (P : Po Value) : Po (Value × List Value) := fun fx v l => T fm k v l (callWith pos fx.1 fx.2 (backTo pos (starEach args fm.env)) []) P
theorem M_mk {pos args f first} (h : T fm k vals l (callWith pos f first (backTo pos (starEach args fm.env)) []) P) : Cm fm k pos args P (f, first) vals l := h
theorem T_CallM {o name apos args pos} {pl : Sem Bool} (he : eval (.Call (.Attribute o name apos) args [] pos) fm.env = (do
      let ov ← eval o fm.env
      standAt apos.atName
      let (f, first) ← holding [ov] (getMethod ov name pl)
      callWith pos f first (backTo pos (starEach args fm.env)) []))
    (h : T fm k vals l (eval o fm.env) fun ov v l => T fm k v l (getMethod ov name pl) (Cm fm k pos args P)) :
    T fm k vals l (eval (.Call (.Attribute o name apos) args [] pos) fm.env) P := .mk fun A s r H =>
  MethodCall_ (T_in h r H fun v _ _ s₁ H₁ h₁ => T_in h₁ r H₁ fun v _ _ s₂ H₂ h₂ => h₂.go A s₂ r H₂) he
theorem T_Attr {o name pos} (he : eval (.Attribute o name pos) fm.env = (do
      let v ← eval o fm.env
      standAt pos.atName
      let r ← holding [v] (getAttr v name true)
      letTemporaryGo o v r
      pure r)) (h : T fm k vals l (eval o fm.env) fun ov v l => T fm k v l (getAttr ov name true) P) : T fm k vals l (eval (.Attribute o name pos) fm.env) P := .mk fun A s r H =>
  Attribute_any_ (T_in h r H fun v _ _ s₁ H₁ h₁ => h₁.go A s₁ r H₁) he
/-- calls of what is known -/
theorem T_b0 {pos id first} (h : T fm k vals l (call (.builtin id) first) P) : T fm k vals l (callWith pos (.builtin id) first (backTo pos (starEach [] fm.env)) []) P := .mk fun A s r H => callWith_method0 (h.go A s r H)
theorem T_b1 {pos id e rest} (he : starEach (e :: rest) fm.env = (false, eval e fm.env) :: starEach rest fm.env) (hp : (backTo pos (starEach rest fm.env)).any (·.1) = false)
    (h : T fm k vals l (spliced (backTo pos (starEach (e :: rest) fm.env))) fun vs v l => T fm k v l (call (.builtin id) vs) P) :
    T fm k vals l (callWith pos (.builtin id) [] (backTo pos (starEach (e :: rest) fm.env)) []) P := .mk fun A s r H =>
  callWith_method1 (T_in h r H fun v _ _ s₁ H₁ h₁ => h₁.go A s₁ r H₁) he hp
theorem T_b2 {pos id x e rest} (he : starEach (e :: rest) fm.env = (false, eval e fm.env) :: starEach rest fm.env) (hp : (backTo pos (starEach rest fm.env)).any (·.1) = false)
    (h : T fm k vals l (spliced (backTo pos (starEach (e :: rest) fm.env))) fun vs v l => T fm k v l (call (.builtin id) (x :: vs)) P) :
    T fm k vals l (callWith pos (.builtin id) [x] (backTo pos (starEach (e :: rest) fm.env)) []) P := .mk fun A s r H =>
  callWith_method1 (T_in h r H fun v _ _ s₁ H₁ h₁ => h₁.go A s₁ r H₁) he hp
theorem T_ty0 {pos ty} (h : T fm k vals l (call (.type ty) []) P) : T fm k vals l (callWith pos (.type ty) [] (backTo pos (starEach [] fm.env)) []) P := .mk fun A s r H => callWith_type0 (h.go A s r H)
theorem T_ty1 {pos ty e rest} (he : starEach (e :: rest) fm.env = (false, eval e fm.env) :: starEach rest fm.env) (hp : (backTo pos (starEach rest fm.env)).any (·.1) = false)
    (h : T fm k vals l (spliced (backTo pos (starEach (e :: rest) fm.env))) fun vs v l => T fm k v l (call (.type ty) vs) P) :
    T fm k vals l (callWith pos (.type ty) [] (backTo pos (starEach (e :: rest) fm.env)) []) P := .mk fun A s r H =>
  callWith_type1 (T_in h r H fun v _ _ s₁ H₁ h₁ => h₁.go A s₁ r H₁) he hp
/-- a def or class of the text -/
theorem T_k0 {pos f first} (hk : keepIn G.K f = true) (h : T fm k vals l (call f first) P) : T fm k vals l (callWith pos f first (backTo pos (starEach [] fm.env)) []) P := .mk fun A s r H =>
  callWith_of rfl (keeps_K hk) (evalArgs_nil3 ⟨H.X, (List.append_nil first).symm ▸ h.go A s r H⟩)
theorem T_k1 {pos f e rest} (hk : keepIn G.K f = true) (he : starEach (e :: rest) fm.env = (false, eval e fm.env) :: starEach rest fm.env) (hp : (backTo pos (starEach rest fm.env)).any (·.1) = false)
    (h : T fm k vals l (spliced (backTo pos (starEach (e :: rest) fm.env))) fun vs v l => T fm k v l (call f vs) P) :
    T fm k vals l (callWith pos f [] (backTo pos (starEach (e :: rest) fm.env)) []) P := .mk fun A s r H => by
  have h1 := T_in (A := A) (s := s) h r H (Q := fun vs s₁ => G.K.In s₁.heap ∧ wpAny G.M A (call f ([] ++ vs)) (fun a s' => ∃ vals' l', St fm vals' l' s' ∧ P a vals' l') (fun _ _ => False) s₁) (E := fun _ _ => False) fun v _ _ s₁ H₁ h₁ => ⟨H₁.X, h₁.go A s₁ r H₁⟩
  rw [he] at h1 ⊢
  exact callWith_of (by show ((false || (backTo pos (starEach rest fm.env)).any (·.1)) || false) = false; rw [hp]; rfl) (keeps_K hk) (evalArgs_plain h1)
theorem T_k2 {pos f x e rest} (hk : keepIn G.K f = true) (he : starEach (e :: rest) fm.env = (false, eval e fm.env) :: starEach rest fm.env) (hp : (backTo pos (starEach rest fm.env)).any (·.1) = false)
    (h : T fm k vals l (spliced (backTo pos (starEach (e :: rest) fm.env))) fun vs v l => T fm k v l (call f (x :: vs)) P) :
    T fm k vals l (callWith pos f [x] (backTo pos (starEach (e :: rest) fm.env)) []) P := .mk fun A s r H => by
  have h1 := T_in (A := A) (s := s) h r H (Q := fun vs s₁ => G.K.In s₁.heap ∧ wpAny G.M A (call f ([x] ++ vs)) (fun a s' => ∃ vals' l', St fm vals' l' s' ∧ P a vals' l') (fun _ _ => False) s₁) (E := fun _ _ => False) fun v _ _ s₁ H₁ h₁ => ⟨H₁.X, h₁.go A s₁ r H₁⟩
  rw [he] at h1 ⊢
  exact callWith_of (by show ((false || (backTo pos (starEach rest fm.env)).any (·.1)) || false) = false; rw [hp]; rfl) (keeps_K hk) (evalArgs_plain h1)
/-- a function object of the call's own -/
theorem T_f1 {pos f o fd e rest} (hd : o.data = .func fd) (he : starEach (e :: rest) fm.env = (false, eval e fm.env) :: starEach rest fm.env) (hp : (backTo pos (starEach rest fm.env)).any (·.1) = false)
    (h : T fm k vals l (spliced (backTo pos (starEach (e :: rest) fm.env))) fun vs v l => (f, o) ∈ l ∧ T fm k v l (call (.ref f) vs) P) :
    T fm k vals l (callWith pos (.ref f) [] (backTo pos (starEach (e :: rest) fm.env)) []) P := .mk fun A s r H => by
  have h1 := T_in (A := A) (s := s) h r H (Q := fun vs s₁ => s₁.heap.get? f = some o ∧ wpAny G.M A (call (.ref f) ([] ++ vs)) (fun a s' => ∃ vals' l', St fm vals' l' s' ∧ P a vals' l') (fun _ _ => False) s₁) (E := fun _ _ => False) fun v _ _ s₁ H₁ h₁ => ⟨H₁.at h₁.1, h₁.2.go A s₁ r H₁⟩
  rw [he] at h1 ⊢
  refine callWith_of (P := fun h => h.get? f = some o) (by show ((false || (backTo pos (starEach rest fm.env)).any (·.1)) || false) = false; rw [hp]; rfl) (fun h ho => ⟨.frame, .inl rfl, ?_⟩) (evalArgs_plain h1)
  refine (Looks.ld (part := none) ho).andThen ?_
  rw [hd]; exact .now

/-! instances of the text's classes -/
/-- C is a plain class whose instances bear name themselves -/
structure OwnA (K : Frag) (C : Addr) (name : Str) : Prop where
  get : plainGet K C name = true
  dict : hasDictIn K C = true
  find : findIn K (.ref C) name = some none
structure SetA (K : Frag) (C : Addr) (name : Str) : Prop where
  set : findIn K (.ref C) "__setattr__" = some (some (.builtin "object.__setattr__"))
  over : plainOver K C = true
  taker : takerIn K C name = some none
  dict : hasDictIn K C = true
structure MethA (K : Frag) (C : Addr) (name : Str) (f : Addr) : Prop where
  get : plainGet K C name = true
  dict : hasDictIn K C = true
  find : findIn K (.ref C) name = some (some (.ref f))
  fn : isFn K (.ref f) = true
  bind : specialIn K (.ref f) "__get__" = some (some (.builtin "function.__get__"))
  takes : takesIn K (.ref f) = some false
  plain : copiedNames.contains name = false

theorem St.inst {s x C dx od} (H : St fm vals l s) (hx : (x, instObj C dx) ∈ l) (hd : (dx, od) ∈ l) : InstAt s.heap x (instObj C dx) C (some od) := ⟨H.at hx, rfl, rfl, H.at hd⟩
theorem T_getown {x C dx es n name v b} (hx : (x, instObj C dx) ∈ l) (hd : (dx, dictOf es n) ∈ l) (ka : OwnA G.K C name) (hl : getL name es = some (some v)) (hv : handedIn v = true) (h : P v vals l) :
    T fm k vals l (getAttr (.ref x) name b) P := .mk fun A s r H =>
  get_own H.h.fr G.X (H.inst hx hd) ka.get ka.dict ka.find rfl hl hv ⟨vals, l, H.toks _, h⟩
theorem T_getmeth {x C dx es n name f b} (hx : (x, instObj C dx) ∈ l) (hd : (dx, dictOf es n) ∈ l) (ka : MethA G.K C name f) (hl : getL name es = some none) (h : ∀ q, P (.ref q) vals ((q, methodObj (.ref f) (.ref x)) :: l)) :
    T fm k vals l (getAttr (.ref x) name b) P := .mk fun A s r H =>
  kbm_bound H.h.fr G.X H.h.news (H.inst hx hd) ka.get ka.dict ka.find ka.fn ka.bind ka.takes ka.plain hl (fun q h' F' N' lt => ⟨vals, _, H.frN F' N' (by
    rw [List.map_cons]
    refine List.nodup_cons.mpr ⟨fun e => ?_, H.h.nd⟩
    obtain ⟨p, hp, q'⟩ := List.mem_map.mp e
    exact Nat.lt_irrefl _ (q' ▸ lt p hp)), h q⟩)
theorem T_method {x C dx es n name f pl} {P : Po (Value × List Value)} (hx : (x, instObj C dx) ∈ l) (hd : (dx, dictOf es n) ∈ l) (ka : MethA G.K C name f) (hl : getL name es = some none) (h : P (.ref f, [.ref x]) vals l) :
    T fm k vals l (getMethod (.ref x) name pl) P := .mk fun A s r H =>
  method_inst H.h.fr G.X (H.inst hx hd) ka.get ka.find ka.fn hl ⟨vals, l, H, h⟩
theorem T_method_own {x C dx es n name v pl} {P : Po (Value × List Value)} (hx : (x, instObj C dx) ∈ l) (hd : (dx, dictOf es n) ∈ l) (ka : OwnA G.K C name) (hl : getL name es = some (some v)) (hv : handedIn v = true) (h : P (v, []) vals l) :
    T fm k vals l (getMethod (.ref x) name pl) P := .mk fun A s r H =>
  method_usual H.X (H.inst hx hd) (plainGet_of ka.get).1 (plainGet_of ka.get).2 ka.find rfl (get_own H.h.fr G.X (H.inst hx hd) ka.get ka.dict ka.find rfl hl hv ⟨vals, l, H.toks _, h⟩)
theorem T_setattr {x C dx es n name v} {l' : Tok → Led} {es' : Tok → List DictEntry} {n' : Nat} {P : Po Unit} (hx : (x, instObj C dx) ∈ l) (ka : SetA G.K C name) (hl : (getL name es).isSome = true)
    (e : ∀ t, (putL name (PyData.keyHash G.w.params name) (.str name t) v es, putN name es n) = (es' t, n')) (U : ∀ t, Upd1 dx (dictOf es n) (dictOf (es' t) n') l (l' t)) (hz : ∀ t, (es' t).length ≤ 1000) (h : ∀ t, P () vals (l' t)) :
    T fm k vals l (setAttr (.ref x) name v) P := .mk fun A s r H =>
  set_dict H.h.fr G.X H.h.news (H.inst hx (U 0).mem) rfl ka.set ka.over ka.taker ka.dict hl (e (s.toks + 1)) ((U (s.toks + 1)).upd H.h.nd) (hz _) (fun h' F' N' => ⟨vals, _, H.frN F' N' ((U _).fst ▸ H.h.nd), h _⟩)

theorem T_AssignA {o name apos e pos} {P : Po Flow} (hs : swapsWith e (some (.Attribute o name apos)) pos.line fm.env = pure false)
    (h : T fm k vals l (eval e fm.env) fun v vs l => T fm k vs l (eval o fm.env) fun ov vs l => T fm k vs l (setAttr ov name v) fun _ vs l => P .next vs l) :
    T fm k vals l (exec (.Assign [.Attribute o name apos] e pos) fm.env) P := .mk fun A s r H =>
  plainObj_wpAny_Assign_Attribute (T_in h r H fun _ _ _ s₁ H₁ h₁ => T_in h₁ r H₁ fun _ _ _ s₂ H₂ h₂ => h₂.go A s₂ r H₂) hs
theorem T_AugA {o name tpos op e pos} {P : Po Flow} (h : T fm k vals l (eval o fm.env) fun ov v l => T fm k v l (getAttr ov name true) fun old v l => T fm k v l (eval e fm.env) fun y v l => T fm k v l (inplaceOp op old y) fun z v l => T fm k v l (setAttr ov name z) fun _ v l => P .next v l) :
    T fm k vals l (exec (.AugAssign (.Attribute o name tpos) op e pos) fm.env) P := .mk fun A s r H =>
  wpAny_AugAssign_AttributeAny (T_in h r H fun _ _ _ s₁ H₁ h₁ => T_in h₁ r H₁ fun _ _ _ s₂ H₂ h₂ => T_in h₂ r H₂ fun _ _ _ s₃ H₃ h₃ => T_in h₃ r H₃ fun _ _ _ s₄ H₄ h₄ => h₄.go A s₄ r H₄)
end
end
section
section
variable {G : Gr} {N : List Str} {Gs : List (Str × Value)} {Cs : List (Str × Addr)} {fm : Fm G N Gs Cs} {k : Nat} {vals : List (Option Value)} {l : Led} {α β : Type}

/-! loops -/
/-- what comes behind a loop's turn -/
def Lk (fm : Fm G N Gs Cs) (k : Nat) (c : Code) (P : Po Flow) : Po Flow := fun f vals l =>
  match f with
  | .next | .cont => C fm k vals l c P
  | .brk => P .next vals l
  | .ret v => P (.ret v) vals l
theorem L_next {c P} (h : C fm k vals l c P) : Lk fm k c P .next vals l := h
theorem L_cont {c P} (h : C fm k vals l c P) : Lk fm k c P .cont vals l := h
theorem L_brk {c P} (h : P .next vals l) : Lk fm k c P .brk vals l := h
theorem L_ret {c P v} (h : P (.ret v) vals l) : Lk fm k c P (.ret v) vals l := h

theorem T_While {test body orelse pos} {P : Po Flow} (h : C fm k vals l (.whileLoop test body orelse fm.env) P) : T fm k vals l (exec (.While test body orelse pos) fm.env) P := .mk fun A s r H =>
  wpAny_While (codeAny_mono (h.go A s r H) fun x s' ⟨f, v, l', e, H', p⟩ => by subst e; exact ⟨v, l', H', p⟩)
theorem C_while {test body orelse} {P : Po Flow} (h : T fm k vals l (isTrue test fm.env (eval test fm.env)) fun b v l =>
      If2 b (T fm k v l (execs body fm.env) (Lk fm k (.whileLoop test body orelse fm.env) P)) (T fm k v l (execs orelse fm.env) P)) :
    C fm k vals l (.whileLoop test body orelse fm.env) P := .mk fun A s r H => by
  refine codeAny_of_tree ?_
  show wpAny _ A ((whileTurn test body orelse fm.env).onRaise (fun x => do noteFrame x fm.env; theTreesLotGoes x)) _ _ s
  refine wpAny_noted ?_
  simp only [whileTurn]
  refine wpAny_bind (T_in h r H fun b v l₁ s₁ H₁ h₁ => ?_)
  cases b with
  | false =>
    simp only [Bool.false_eq_true, if_false]
    exact wpAny_bind (T_in (show T fm k v l₁ (execs orelse fm.env) P from h₁) r H₁ fun f v l₂ s₂ H₂ h₂ => wpAny_pure ⟨f, v, l₂, rfl, H₂, h₂⟩)
  | true =>
    simp only [if_true]
    refine wpAny_bind (T_in (show T fm k v l₁ (execs body fm.env) _ from h₁) r H₁ fun f v l₂ s₂ H₂ h₂ => ?_)
    cases f with
    | next => exact wpAny_pure ⟨rfl, h₂.go A s₂ r H₂⟩
    | cont => exact wpAny_pure ⟨rfl, h₂.go A s₂ r H₂⟩
    | brk => exact wpAny_pure ⟨.next, v, l₂, rfl, H₂, h₂⟩
    | ret x => exact wpAny_pure ⟨.ret x, v, l₂, rfl, H₂, h₂⟩

/-- a for loop's turn, behind the iterator's answer -/
def Fk (fm : Fm G N Gs Cs) (k : Nat) (target : Expr) (it : Value) (body orelse : List Stmt) (P : Po Flow) : Po (Option Value) := fun o vals l =>
  match o with
  | none => T fm k vals l (execs orelse fm.env) P
  | some x => T fm k vals l (letOwnedTupleGo target it x) fun _ v l => T fm k v l (assign target fm.env x) fun _ v l => T fm k v l (execs body fm.env) (Lk fm k (.forLoop target it body orelse fm.env) P)
theorem F_none {target it body orelse P} (h : T fm k vals l (execs orelse fm.env) P) : Fk fm k target it body orelse P none vals l := h
theorem F_some {target it body orelse P x} (ht : letOwnedTupleGo target it x = pure ()) (h : T fm k vals l (assign target fm.env x) fun _ v l => T fm k v l (execs body fm.env) (Lk fm k (.forLoop target it body orelse fm.env) P)) :
    Fk fm k target it body orelse P (some x) vals l := by
  show T fm k vals l (letOwnedTupleGo target it x) _
  rw [ht]; exact T_pure h
theorem T_For {target iter body orelse pos} {P : Po Flow} (hs : ∀ x, foldedSetIterable iter fm.env x = pure x)
    (h : T fm k vals l (eval iter fm.env) fun x v l => T fm k v l (pyIter x) fun it v l => C fm k v l (.forLoop target it body orelse fm.env) P) :
    T fm k vals l (exec (.For target iter body orelse pos) fm.env) P := .mk fun A s r H =>
  wpAny_For (T_in h r H fun x _ _ s₁ H₁ h₁ => T_in h₁ r H₁ fun it _ _ s₂ H₂ h₂ => codeAny_mono (h₂.go A s₂ r H₂) fun x s' ⟨f, v, l', e, H', p⟩ => by subst e; exact ⟨v, l', H', p⟩) hs
theorem C_for {target it body orelse} {P : Po Flow} (h : T fm k vals l (pyNext it) (Fk fm k target it body orelse P)) :
    C fm k vals l (.forLoop target it body orelse fm.env) P := .mk fun A s r H => by
  refine codeAny_of_tree ?_
  show wpAny _ A ((forTurn target it body orelse fm.env).onRaise (fun x => do noteFrame x fm.env; theTreesLotGoes x)) _ _ s
  refine wpAny_noted ?_
  simp only [forTurn]
  refine wpAny_bind (wpAny_standAt (wpAny_bind (wpAny_onRaise (T_in h r H fun o v l₁ s₁ H₁ h₁ => ?_))))
  cases o with
  | none =>
    refine wpAny_pure ⟨rfl, codeAny_block ?_⟩
    exact T_in (show T fm k v l₁ (execs orelse fm.env) P from h₁) r H₁ fun f v l₂ s₂ H₂ h₂ => ⟨f, v, l₂, rfl, H₂, h₂⟩
  | some x =>
    refine wpAny_bind (T_in (show T fm k v l₁ (letOwnedTupleGo target it x) _ from h₁) r H₁ fun _ v l₂ s₂ H₂ h₂ => ?_)
    refine wpAny_bind (T_in h₂ r H₂ fun _ v l₃ s₃ H₃ h₃ => wpAny_bind (T_in h₃ r H₃ fun f v l₄ s₄ H₄ h₄ => ?_))
    cases f with
    | next => exact wpAny_pure ⟨rfl, h₄.go A s₄ r H₄⟩
    | cont => exact wpAny_pure ⟨rfl, h₄.go A s₄ r H₄⟩
    | brk => exact wpAny_pure ⟨.next, v, l₄, rfl, H₄, h₄⟩
    | ret x => exact wpAny_pure ⟨.ret x, v, l₄, rfl, H₄, h₄⟩
theorem T_assignN {x pos v vals'} {P : Po Unit} (hx : PutAt N vals x v vals') (h : P () vals' l) : T fm k vals l (assign (.Name x pos) fm.env v) P := .mk fun A s r H =>
  wpAny_assign_Name ((T_store (k := k) hx h).go A s r H)

/-- the tree's text and what is wanted behind it by names -/
theorem C_any {c : Code} {P : Po Flow} (h : ∀ c' P', c' = c → P' = P → C fm k vals l c' P') : C fm k vals l c P := h c P rfl rfl
theorem T_any {t : Sem α} {P : Po α} (h : ∀ t' P', t' = t → P' = P → T fm k vals l t' P') : T fm k vals l t P := h t P rfl rfl
/-- the ways of an if meet again -/
def Jn (J : List (Option Value) → Led → Prop) (P : Po Flow) : Po Flow := fun f v l =>
  match f with
  | .next => J v l
  | f => P f v l
theorem J_next {J P} (h : J vals l) : Jn J P .next vals l := h
theorem J_ret {J P v} (h : P (.ret v) vals l) : Jn J P (.ret v) vals l := h
theorem J_cont {J P} (h : P .cont vals l) : Jn J P .cont vals l := h
theorem T_IfJ {c a b pos} {P : Po Flow} (J : List (Option Value) → Led → Prop)
    (h : T fm k vals l (isTrue c fm.env (eval c fm.env)) fun t v l => If2 t (T fm k v l (execs a fm.env) (Jn J P)) (T fm k v l (execs b fm.env) (Jn J P))) (hJ : ∀ v l, J v l → P .next v l) :
    T fm k vals l (exec (.If c a b pos) fm.env) P := by
  refine T_If (T_mono h fun t v l h' => ?_)
  have up : ∀ f v l, Jn J P f v l → P f v l := fun f v l x => by cases f <;> first | exact hJ v l x | exact x
  cases t
  · exact T_mono (show T fm k v l (execs b fm.env) (Jn J P) from h') up
  · exact T_mono (show T fm k v l (execs a fm.env) (Jn J P) from h') up

/-! iterators -/
def ListIt (o : Obj) (a : Addr) (i : Nat) : Prop := o.cls = .type "list_iterator" ∧ o.data = .fields #[.ref a, .int i 0]
theorem T_iter_list {a its n} {P : Po Value} (ha : (a, listOf its n) ∈ l) (h : ∀ it o, ListIt o a 0 → P (.ref it) vals ((it, o) :: l)) : T fm k vals l (pyIter (.ref a)) P := .mk fun A s r H =>
  wpAny_pyIter_list ⟨_, H.at ha, rfl, n, rfl⟩ ⟨vals, _, H.push _, h _ _ ⟨rfl, rfl⟩⟩
theorem T_next_list {it a its n i x o} {l' : Obj → Led} {P : Po (Option Value)} (hi : ListIt o a i) (U : ∀ o', Upd1 it o o' l (l' o')) (ha : (a, listOf its n) ∈ l) (hx : its[i]? = some x) (h : ∀ o', ListIt o' a (i + 1) → P (some x) vals (l' o')) :
    T fm k vals l (pyNext (.ref it)) P := .mk fun A s r H =>
  wpAny_pyNext_list_item ⟨o, H.at (U o).mem, hi.1, hi.2⟩ ⟨_, H.at ha, rfl, n, rfl⟩ hx fun h' ⟨o', ho, c, d⟩ hs => ⟨vals, l' o', H.upd (U o') hs ho, h o' ⟨c, d⟩⟩
theorem T_end_list {it a its n i o l'} {P : Po (Option Value)} (hi : ListIt o a i) (U : Pick (it, o) l l') (ha : (a, listOf its n) ∈ l) (hx : its[i]? = none) (h : P none vals l') :
    T fm k vals l (pyNext (.ref it)) P := .mk fun A s r H =>
  wpAny_pyNext_list_end r.handled ⟨o, H.at U.mem, hi.1, hi.2⟩ ⟨_, H.at ha, rfl, n, rfl⟩ hx fun h' hx => ⟨vals, l', H.forget U hx, h⟩
theorem T_iter_listiter {it a i o} {P : Po Value} (hi : ListIt o a i) (ha : (it, o) ∈ l) (h : P (.ref it) vals l) : T fm k vals l (pyIter (.ref it)) P := .mk fun A s r H =>
  wpAny_pyIter_listiter ⟨o, H.at ha, hi.1, hi.2⟩ ⟨vals, l, H, h⟩

/-! iter(f, sentinel) -/
theorem callBorrowed_ {M : Model} {A : Around} {E : Value → Shared → Prop} {s : Shared} {f : Value} {pos : List Value} {Q : Value → Shared → Prop}
    (hc : codeAny M A (.call f ⟨pos, []⟩) (fun r s' => match r with | .ok (.ret v) => Q v s' | .ok _ => False | .error e => E e s') s) : wpAny M A (callBorrowed f pos) Q E s := fun Γ p hΓ => by
  unfold callBorrowed
  rw [Sem.wp_call]
  refine wpCode_mono (fun r s' hr => ?_) (hc _ p rfl (hΓ.enter _ none p (by intro x; cases x)))
  cases r with
  | error e => exact hr
  | ok f => cases f <;> first | exact hr | exact hr.elim
theorem slot_callit_next : Slot "callable_iterator" "__next__" "callable_iterator.__next__" :=
  .of (owner := "callable_iterator") (n := "__next__") (by rw [typeLookup_type, builtinLookup_eq_fast]; kernel_rfl) (by decide +kernel) (by decide +kernel) (by decide +kernel)
    (by first | exact .inl (by decide +kernel) | exact .inr (by decide +kernel)) (by rw [isSubtype_type]; kernel_rfl)
theorem slot_callit_iter : Slot "callable_iterator" "__iter__" "callable_iterator.__iter__" :=
  .of (owner := "callable_iterator") (n := "__iter__") (by rw [typeLookup_type, builtinLookup_eq_fast]; kernel_rfl) (by decide +kernel) (by decide +kernel) (by decide +kernel)
    (by first | exact .inl (by decide +kernel) | exact .inr (by decide +kernel)) (by rw [isSubtype_type]; kernel_rfl)
theorem entry_callit_next : entryFor table "callable_iterator.__next__" = some Builtin.«callable_iterator.__next__» := entryFor_of_fast (by kernel_rfl)
theorem entry_callit_iter : entryFor table "callable_iterator.__iter__" = some Builtin.«dict_keyiterator.__iter__» :=
  entryFor_alias (id' := "dict_keyiterator.__iter__") (by kernel_rfl) rfl (by decide +kernel) (by kernel_rfl)
theorem args_callit_next (a : Value) : argsOk "callable_iterator.__next__" ⟨[a], []⟩ := by unfold argsOk; kernel_rfl
theorem args_callit_iter (a : Value) : argsOk "callable_iterator.__iter__" ⟨[a], []⟩ := by unfold argsOk; kernel_rfl

abbrev callIt (f sent : Value) (ended : Bool) : Obj := { cls := .type "callable_iterator", data := .fields #[f, sent, .bool ended] }
abbrev goneIt : Obj := { cls := .type "callable_iterator", data := .fields #[.none, .none, .bool true] }

theorem T_iter_callit {it f sent b} {P : Po Value} (ha : (it, callIt f sent b) ∈ l) (h : P (.ref it) vals l) : T fm k vals l (pyIter (.ref it)) P := .mk fun A s r H => by
  have hT : s.TypeIs (.ref it) "callable_iterator" := ⟨_, H.at ha, rfl⟩
  refine wpAny_pyIter_slot hT slot_callit_iter (wpAny_call_entry slot_callit_iter hT entry_callit_iter ?_ (args_callit_iter _))
  show wpAny _ _ (ret (.ref it)) _ _ s
  exact wpAny_pure ⟨_, rfl, "callable_iterator", _, hT, slot_callit_next.lookup, vals, l, H, h⟩

theorem stop_ {M : Model} {A : Around} {s : Shared} {Q : α → Shared → Prop} {E : Value → Shared → Prop} (hh : A.handled = none)
    (h : ∀ h' e, (∀ b o, s.heap.get? b = some o → h'.get? b = some o) → (∃ o, h'.get? e = some o ∧ o.cls = .type "StopIteration") → E (.ref e) { s with heap := h' }) :
    wpAny M A (Builtin.SmallTypes.stopIteration : Sem α) Q E s := by
  unfold Builtin.SmallTypes.stopIteration
  refine wpAny_bind ?_
  simp only [newExc, newTuple]
  refine wpAny_bind (wpAny_newObj_type ?_ (by size_fits))
  refine wpAny_bind (m := firstArgMember _ _) (wpAny_of_eq (a := Value.none) (by first | rfl | (simp only [firstArgMember]; rfl)) ?_)
  refine wpAny_newObj_type ?_ (by size_fits)
  simp only [raiseNew]
  refine wpAny_bind (wpAny_handled ?_)
  rw [hh]
  refine wpAny_bind (wpAny_pure (wpAny_throw (h _ _ (fun b o e => Heap.get?_push_of_some _ (Heap.get?_push_of_some _ e)) ⟨_, Heap.get?_push_size _ rfl, rfl⟩)))
end
end
section
section
variable {G : Gr} {N : List Str} {Gs : List (Str × Value)} {Cs : List (Str × Addr)} {fm : Fm G N Gs Cs} {k : Nat} {vals : List (Option Value)} {l : Led} {α β : Type}

theorem Upd1.append_left {a o o' l l'} (p : Led) (h : Upd1 a o o' l l') : Upd1 a o o' (p ++ l) (p ++ l') := by
  induction p with
  | nil => exact h
  | cons q p ih => exact .tail ih
theorem T_next_gone {it} {P : Po (Option Value)} (ha : (it, goneIt) ∈ l) (h : P none vals l) : T fm k vals l (pyNext (.ref it)) P := .mk fun A s r H => by
  have hT : s.TypeIs (.ref it) "callable_iterator" := ⟨_, H.at ha, rfl⟩
  unfold pyNext
  refine wpAny_bind (wpAny_attempt (wpAny_callSpecial?_slot (name := Str.ofString "__next__") hT slot_callit_next
    (wpAny_call_entry slot_callit_next hT entry_callit_next ?_ (args_callit_next _))))
  show wpAny _ _ (field (.ref it) 2 >>= _) _ _ s
  refine wpAny_bind (wpAny_field (H.at ha) rfl (x := .bool true) rfl ?_)
  show wpAny _ _ (if (Value.bool true == Value.bool true) = true then _ else _) _ _ s
  rw [if_pos (by rfl)]
  refine wpAny_bind (wpAny_rule (wpAny_bind (stop_ r.handled fun h' e hk ⟨o, ho, hc⟩ => ?_)))
  refine wpAny_bind (wpAny_isInstance (T := "StopIteration") (b := true) ⟨o, ho, hc⟩ isSubtype_stop ?_)
  exact wpAny_pure ⟨vals, l, H.keeps hk, h⟩

theorem borrows_ {M : Model} {A : Around} {s : Shared} {E : Value → Shared → Prop} {q f : Addr} {self : Value} {o : Obj} {fd : FuncData} {Q : Bool → Shared → Prop} (hq : s.heap.get? q = some (methodObj (.ref f) self)) (hf : s.heap.get? f = some o) (hd : o.data = .func fd) (h : Q true s) :
    wpAny M A (borrowsExactly (.ref q)) Q E s := by
  unfold borrowsExactly
  refine wpAny_bind (wpAny_load hq ?_)
  show wpAny _ _ (if (Value.type "method" == Value.type "method") = true then _ else _) _ _ s
  rw [if_pos (by decide)]
  show wpAny _ _ (load f >>= _) _ _ s
  refine wpAny_bind (wpAny_load hf ?_)
  rw [hd]; exact wpAny_pure h

/-- one more call of the iterator's function: a text that is not the sentinel, or the end -/
theorem T_next_callit {it q f self sent t j oc od fd osl} {pre rest rest' : Led} {Q : Value → Led → Prop} {P : Po (Option Value)}
    (hf : G.K.lookup f = some ⟨oc, od, .func fd, osl⟩) (hS : Sp G j pre (.ref f) [.ref self] [] Q) (hj : j + 2 ≤ k) (hsub : SubL pre l rest)
    (hq : (q, methodObj (.ref f) (.ref self)) ∈ rest) (U : Upd1 it (callIt (.ref q) (.str sent t) false) goneIt rest rest')
    (h : ∀ v post, Q v post → ∃ c u, v = .str c u ∧ (sent ≠ c → P (some (.str c u)) vals (post ++ rest)) ∧ (sent = c → P none vals (post ++ rest'))) :
    T fm k vals l (pyNext (.ref it)) P := .mk fun A s r H => by
  have hr : ∀ p ∈ rest, p ∈ l := fun p hp => hsub.perm.mem_iff.mpr (List.mem_append_right _ hp)
  have ha := H.at (hr _ U.mem)
  have hT : s.TypeIs (.ref it) "callable_iterator" := ⟨_, ha, rfl⟩
  unfold pyNext
  refine wpAny_bind (wpAny_attempt (wpAny_callSpecial?_slot (name := Str.ofString "__next__") hT slot_callit_next
    (wpAny_call_entry slot_callit_next hT entry_callit_next ?_ (args_callit_next _))))
  show wpAny _ _ (field (.ref it) 2 >>= _) _ _ s
  refine wpAny_bind (wpAny_field ha rfl (x := .bool false) rfl ?_)
  show wpAny _ _ (if (Value.bool false == Value.bool true) = true then _ else _) _ _ s
  rw [if_neg (by decide)]
  show wpAny _ _ (field (.ref it) 0 >>= _) _ _ s
  refine wpAny_bind (wpAny_field ha rfl (x := .ref q) rfl (wpAny_bind (wpAny_attempt ?_)))
  show wpAny _ _ (borrowsExactly (.ref q) >>= _) _ _ s
  refine wpAny_bind (borrows_ (H.at (hr _ hq)) (H.X _ _ hf) rfl ?_)
  rw [if_pos rfl]
  refine callBorrowed_ (method_call (H.at (hr _ hq)) (codeAny_mono (Sp_at hS (r.in1' hj) H hsub) fun x s' ⟨v, post, e, H', hv⟩ => ?_))
  subst e
  obtain ⟨c, u, rfl, h1, h2⟩ := h v post hv
  have ha' := H'.at (List.mem_append_right post U.mem)
  show wpAny _ _ (field (.ref it) 2 >>= _) _ _ s'
  refine wpAny_bind (wpAny_field ha' rfl (x := .bool false) rfl ?_)
  show wpAny _ _ (if (Value.bool false == Value.bool true) = true then _ else _) _ _ s'
  rw [if_neg (by decide)]
  show wpAny _ _ (field (.ref it) 1 >>= _) _ _ s'
  refine wpAny_bind (wpAny_field ha' rfl (x := .str sent t) rfl (wpAny_bind (wpAny_holding (wpAny_eqBool_str ?_))))
  by_cases e : sent = c
  · rw [decide_eq_true e]
    show wpAny _ _ (rule _ >>= _) _ _ s'
    refine wpAny_bind (wpAny_rule ?_)
    refine wpAny_bind ?_
    refine wpAny_bind ?_
    refine wpAny_field ha' rfl (x := .ref q) rfl ?_
    refine wpAny_bind ?_
    show wpAny _ _ (borrowsExactly (.ref q) >>= _) _ _ s'
    refine wpAny_bind (borrows_ (H'.at (List.mem_append_right post hq)) (H'.X _ _ hf) rfl ?_)
    rw [if_pos rfl]
    refine wpAny_pure ?_
    refine wpAny_bind (wpAny_setField_rec ha' (by simp) fun h1' o1 s1 => ?_)
    refine wpAny_bind (wpAny_setField_rec o1 (by simp) fun h2' o2 s2 => ?_)
    refine wpAny_setField_rec o2 (by simp) fun h3' o3 s3 => ?_
    have Hg := H'.upd (n := s'.toks) (h' := h3') (Upd1.append_left post U) ((s1.trans s2).trans s3) o3
    refine stop_ r.handled fun h' ee hk ⟨o, ho, hc⟩ => ?_
    refine wpAny_bind (wpAny_isInstance (T := "StopIteration") (b := true) ⟨o, ho, hc⟩ isSubtype_stop ?_)
    exact wpAny_pure ⟨vals, _, Hg.keeps hk, h2 e⟩
  · rw [decide_eq_false e]
    show wpAny _ _ (ret (.str c u) >>= _) _ _ s'
    exact wpAny_bind (wpAny_pure (wpAny_pure ⟨_, rfl, wpAny_pure ⟨vals, _, H', h1 e⟩⟩))
end
end
section
/-! cells -/
abbrev CellO (o : Obj) (v : Option Value) : Prop := o.data = .cell v
section
variable {G : Gr} {N : List Str} {Gs : List (Str × Value)} {Cs : List (Str × Addr)} {fm : Fm G N Gs Cs} {k : Nat} {vals : List (Option Value)} {l : Led} {α β : Type}

theorem T_cell {x c o v pos} {P : Po Value} (hk : fm.env.scope.names.lookup x = some .cell) (hx : (x == ("__debug__" : Str)) = false) (hc : Cs.lookup x = some c) (ho : (c, o) ∈ l) (hv : CellO o (some v)) (h : P v vals l) :
    T fm k vals l (eval (.Name x pos) fm.env) P := .mk fun A s r H =>
  wpAny_Name (wpAny_loadName_cell fm.kind hk (by rw [fm.cells]; exact hc) ⟨o, H.at ho, hv⟩ ⟨vals, l, H, h⟩) hx
theorem T_free {x c o v pos} {P : Po Value} (hk : fm.env.scope.names.lookup x = some .free) (hx : (x == ("__debug__" : Str)) = false) (hn : (x == ("__classdict__" : Str)) = false) (hc : Cs.lookup x = some c) (ho : (c, o) ∈ l) (hv : CellO o (some v)) (h : P v vals l) :
    T fm k vals l (eval (.Name x pos) fm.env) P := .mk fun A s r H =>
  wpAny_Name (wpAny_loadName_free fm.kind hk (by rw [fm.cells]; exact hc) ⟨o, H.at ho, hv⟩ ⟨vals, l, H, h⟩ hn) hx
theorem T_storeCell {x c o v v₀} {l' : Obj → Led} {P : Po Unit} (hk : fm.env.scope.names.lookup x = some .cell) (hc : Cs.lookup x = some c) (U : ∀ o', Upd1 c o o' l (l' o')) (hv : CellO o v₀) (h : ∀ o', CellO o' (some v) → P () vals (l' o')) :
    T fm k vals l (storeName fm.env x v) P := .mk fun A s r H =>
  wpAny_storeName_cell fm.kind hk (by rw [fm.cells]; exact hc) ⟨o, H.at (U o).mem, hv⟩ fun h' ⟨o', ho', hd'⟩ hs => ⟨vals, l' o', H.upd (U o') hs ho', h o' hd'⟩
end

/-- what a def with one cell is entered with -/
theorem enterC {G : Gr} {k : Nat} {pre : Led} {P : Value → Led → Prop} {name qual : Str} {params : Arguments} {body : List Stmt} {scope : Scope} {dV kV doc pm cdv ct oc : Value} {an od : Option Addr} {osl : Array (Option Value)} {f : Addr}
    {pos : List Value} {kw : List (Str × Value)} {binds : List (Str × Value)} {N : List Str} {vals : List (Option Value)} {Gs : List (Str × Value)} {x : Str} {cv : Option Value}
    (ho : G.K.lookup f = some ⟨oc, od, .func (fnX name qual params body scope [] dV kV doc pm an cdv ct), osl⟩) (hcd : codeIn G.K cdv qual = true)
    (hbind : ∀ s : Shared, G.K.In s.heap → BindsTo s (fnX name qual params body scope [] dV kV doc pm an cdv ct) ⟨pos, kw⟩ binds)
    (hlen : vals.length = N.length) (hL : ∀ y, bindL (fun y => scope.names.lookup y) binds (fun _ => none) y = Loc N vals y) (hC : bindC (fun y => scope.names.lookup y) binds (fun _ => none) x = cv)
    (hcells : ∀ n, cellsFrom n scope.names [] = [(x, n)]) (hx : scope.names.lookup x = some .cell)
    (hkind : (binds.all fun y => decide (scope.names.lookup y.1 = some .local) || (y.1 == x)) = true)
    (hnd : N.Nodup) (hloc : (N.all fun x => decide (scope.names.lookup x = some .local) && !(x == ("__debug__" : Str))) = true)
    (hglb : ∀ p ∈ Gs, scope.names.lookup p.1 = some .globalImplicit ∧ (p.1 == ("__debug__" : Str)) = false ∧ Glb G p.1 p.2)
    (hco : scope.isCoroutine = false) (hgen : scope.isGenerator = false) (hk : scope.kind = .function)
    (h : ∀ (L : Addr) (o : Obj) (fm : Fm G N Gs [(x, L + 1)]) (rest : Led), CellO o cv → fm.env = callEnvC (fnX name qual params body scope [] dV kV doc pm an cdv ct) L f →
      T fm k vals ((L + 1, o) :: pre ++ rest) (execs body fm.env) fun fl _ l' => ∃ post, Sbl (post ++ rest) l' ∧ P (flowV fl) post) :
    Sp G (k + 1) pre (.ref f) pos kw P := by
  refine .mk ?_
  intro rest A s r H big
  have X := G.X.keeps H.keep
  have locs : ∀ x ∈ N, scope.names.lookup x = some .local ∧ (x == ("__debug__" : Str)) = false := fun x hx => by
    have := List.all_eq_true.mp hloc x hx
    simp only [Bool.and_eq_true, decide_eq_true_eq, Bool.not_eq_true'] at this
    exact this
  refine codeAny_call_function (fd := fnX name qual params body scope [] dV kV doc pm an cdv ct) r.d (X _ _ ho) rfl hco hgen rfl (codeRec_of X hcd) (hbind s X _ _ _ _ ?_)
  refine wpAny_newFunctionEnv_cells hk (fun y hy => ?_) fun env' he s' x' => ?_
  · have := List.all_eq_true.mp hkind y hy
    rcases Bool.or_eq_true_iff.mp this with q | q
    · exact .inl (of_decide_eq_true q)
    · have q' : y.1 = x := beq_iff_eq.mp q
      refine .inr ⟨by rw [q']; exact hx, ?_⟩
      show ((cellsFrom _ scope.names []).lookup y.1).isSome = true
      rw [hcells, q']; simp
  subst he
  obtain ⟨h₁, tk, rfl, hk₁⟩ := x'.done
  have e0 : (callEnvC (fnX name qual params body scope [] dV kV doc pm an cdv ct) s.heap.objs.size f).cells = [(x, s.heap.objs.size + 1)] := hcells _
  obtain ⟨o, hoc, hod⟩ := x'.cell x (s.heap.objs.size + 1) (by
    show (cellsFrom _ scope.names []).lookup x = _
    rw [hcells]; simp)
  refine ⟨(G.T.nolimit.keeps H.keep).keeps hk₁, codeAny_func ?_⟩
  let fm : Fm G N Gs [(x, s.heap.objs.size + 1)] := { env := callEnvC (fnX name qual params body scope [] dV kV doc pm an cdv ct) s.heap.objs.size f, nd := hnd, kind := hk, loc := locs, glb := hglb, globals := rfl, builtins := rfl, cells := e0 }
  have hne : s.heap.get? (s.heap.objs.size + 1) = none := by
    cases q : s.heap.get? (s.heap.objs.size + 1) with
    | none => rfl
    | some o => exact absurd (Heap.lt_size q) (Nat.not_lt.mpr (Nat.le_succ _))
  have H1 : St fm vals (((s.heap.objs.size + 1), o) :: pre ++ rest) { s with heap := h₁, toks := tk } := by
    refine ⟨{ keep := fun b o e => hk₁ b o (H.keep b o e), nd := ?_, led := fun p hp => ?_, gens := H.gens, os := H.os, ns := ?_, above := big, apart := ?_ }, hlen⟩
    · show (((s.heap.objs.size + 1), o).1 :: (pre ++ rest).map (·.1)).Nodup
      refine List.nodup_cons.mpr ⟨fun e => ?_, H.nd⟩
      obtain ⟨p, hp, q⟩ := List.mem_map.mp e
      have z := (H.led p hp).1
      rw [show p.1 = s.heap.objs.size + 1 from q, hne] at z; cases z
    · rcases List.mem_cons.mp hp with rfl | hp
      · refine ⟨hoc, ?_⟩
        cases q : G.base.get? (s.heap.objs.size + 1) with
        | none => rfl
        | some o' => have := H.keep _ _ q; rw [hne] at this; cases this
      · exact ⟨hk₁ _ _ (H.led p hp).1, (H.led p hp).2⟩
    · have e : bindL (fun y => scope.names.lookup y) binds (fun _ => none) = Loc N vals := funext hL
      rw [← e]; exact x'.toInCall.ns
    · intro e
      have e' : s.heap.objs.size ∈ (s.heap.objs.size + 1) :: (pre ++ rest).map (·.1) := e
      rcases List.mem_cons.mp e' with q | q
      · omega
      · obtain ⟨p, hp, q⟩ := List.mem_map.mp q
        exact Nat.lt_irrefl _ (q ▸ Heap.lt_size (H.led p hp).1)
  refine wpAny_mono ((h _ o fm rest ?_ rfl).go _ _ r.deeper H1) (fun fl s' ⟨v', l', H2, post, hs, hp⟩ => ?_) fun _ _ x => x.elim
  · show o.data = .cell cv
    rw [← hC]; exact hod
  · exact ⟨flowV fl, post, by cases fl <;> rfl, H2.h.toHd.sbl hs, hp⟩

/-! lambdas -/
section
variable {G : Gr} {N : List Str} {Gs : List (Str × Value)} {Cs : List (Str × Addr)} {fm : Fm G N Gs Cs} {k : Nat} {vals : List (Option Value)} {l : Led} {α β : Type}
/-- the name and the code's own word of a function object's code -/
def CodeO (o : Obj) (qual : Str) : Prop := ∃ vs t, o.data = .fields vs ∧ vs[1]? = some (.str qual t)
theorem St.nd2 {s a b oa ob h' n l'} (H : St fm vals l s) (F : Fr G.base fm.env.locals h' (Loc N vals)) (Nw : News G.base fm.env.locals h' ((a, oa) :: (b, ob) :: l')) (e : l'.map (·.1) = l.map (·.1)) (h1 : ∀ q ∈ l, q.1 < b) (h2 : b < a) :
    St fm vals ((a, oa) :: (b, ob) :: l') { s with heap := h', toks := n } := by
  refine H.frN F Nw ?_
  rw [List.map_cons, List.map_cons, e]
  refine List.nodup_cons.mpr ⟨fun q => ?_, List.nodup_cons.mpr ⟨fun q => ?_, H.h.nd⟩⟩
  · rcases List.mem_cons.mp q with q | q
    · exact Nat.lt_irrefl _ ((show a = b from q) ▸ h2)
    · obtain ⟨p, hp, q'⟩ := List.mem_map.mp q
      exact Nat.lt_irrefl _ (Nat.lt_trans ((show p.1 = a from q') ▸ h1 p hp) h2)
  · obtain ⟨p, hp, q'⟩ := List.mem_map.mp q
    exact Nat.lt_irrefl _ ((show p.1 = b from q') ▸ h1 p hp)
theorem Upd1.updF {a o l} {l' : Obj → Led} (U : ∀ o', Upd1 a o o' l (l' o')) (nd : (l.map (·.1)).Nodup) : UpdF a o l l' := by
  have key : ∀ o', ∃ pre post, l = pre ++ (a, o) :: post ∧ l' o' = pre ++ (a, o') :: post := fun o' => by
    have := U o'
    generalize l' o' = m at this
    clear U nd
    induction this with
    | head => exact ⟨[], _, rfl, rfl⟩
    | tail _ ih => obtain ⟨pre, post, e1, e2⟩ := ih; exact ⟨_ :: pre, post, by rw [e1]; rfl, by rw [e2]; rfl⟩
  obtain ⟨pre, post, e1, -⟩ := key o
  have uniq : ∀ (pre' post' : Led), pre ++ (a, o) :: post = pre' ++ (a, o) :: post' → pre' = pre ∧ post' = post := by
    intro pre' post' e
    rw [e1, List.map_append, List.map_cons] at nd
    clear key e1
    induction pre generalizing pre' with
    | nil =>
      cases pre' with
      | nil => simp at e; exact ⟨rfl, e.symm⟩
      | cons q r =>
        simp only [List.nil_append, List.cons_append, List.cons.injEq] at e
        simp only [List.map_nil, List.nil_append] at nd
        exact absurd (List.mem_map_of_mem (f := (·.1)) (e.2 ▸ List.mem_append_right _ List.mem_cons_self)) (List.nodup_cons.mp nd).1
    | cons q pre ih =>
      cases pre' with
      | nil =>
        simp only [List.nil_append, List.cons_append, List.cons.injEq] at e
        simp only [List.map_cons, List.cons_append] at nd
        exact absurd (by rw [e.1]; exact List.mem_append_right _ List.mem_cons_self) (List.nodup_cons.mp nd).1
      | cons q' r =>
        simp only [List.cons_append, List.cons.injEq] at e
        simp only [List.map_cons, List.cons_append] at nd
        obtain ⟨a1, a2⟩ := ih (List.nodup_cons.mp nd).2 r e.2
        exact ⟨by rw [a1, e.1], a2⟩
  have e2 : l' = fun o' => pre ++ (a, o') :: post := funext fun o' => by
    obtain ⟨pre', post', f1, f2⟩ := key o'
    obtain ⟨g1, g2⟩ := uniq pre' post' (e1 ▸ f1)
    rw [f2, g1, g2]
  rw [e2, e1]
  rw [e1] at nd
  clear uniq key e2 e1 U
  induction pre with
  | nil => exact .head fun p hp e => (List.nodup_cons.mp nd).1 (by show a ∈ _; rw [← e]; exact List.mem_map_of_mem (f := (·.1)) hp)
  | cons q pre ih =>
    refine .tail (fun e => (List.nodup_cons.mp nd).1 ?_) (ih (List.nodup_cons.mp nd).2)
    show q.1 ∈ (pre ++ (a, o) :: post).map (·.1)
    rw [e, List.map_append]; exact List.mem_append_right _ List.mem_cons_self

theorem T_lambda {c Pt : Addr} {ps : Array Value} {params body scope pos cn cs a} {clos : List (Str × Addr)} {l' : Obj → Led} {P : Po Value} (he : fm.env = envX cn cs fm.env.locals a (.ref c) Cs) (hdef : defaultsOf params fm.env = ([], []))
    (hC : CodeHd G.base c Pt) (U : ∀ o', Upd1 Pt (tabObj ps) o' l (l' o')) (ht : TriplesOk ps.toList) (hnf : codeAmong pos ps.toList = none) (hcl : closureFor scope fm.env = pure clos)
    (h : ∀ f c' oc ctv, CodeO oc (fm.env.qual ++ "<lambda>") → P (.ref f) vals ((f, kla_obj "<lambda>" (fm.env.qual ++ "<lambda>") params body scope clos ((G.mg "__name__").getD .none) c' ctv) :: (c', oc) :: l' (tabObj (ps ++ #[rawInt pos.line, rawInt pos.col, .ref c'])))) :
    T fm k vals l (eval (.Lambda params body scope pos) fm.env) P := .mk fun A s r H => by
  refine kla_eval hdef ?_
  have e1 : makeFunction "<lambda>" (fm.env.qual ++ "<lambda>") params (.expr body) scope fm.env [] [] [] pos pos.line = makeFunction "<lambda>" (fm.env.qual ++ "<lambda>") params (.expr body) scope (envX cn cs fm.env.locals a (.ref c) Cs) [] [] [] pos pos.line := by rw [← he]
  rw [e1]
  refine kla_nest H.h.fr H.h.news G.T hC rfl (Upd1.updF U H.h.nd) ht hnf (by rw [← he]; exact hcl) fun f c' oc vs t ctv h' tk F' N' hd hv h1 h2 => ?_
  exact ⟨vals, _, H.nd2 F' N' (U _).fst h1 h2, h f c' oc ctv ⟨vs, t, hd, hv⟩⟩
theorem T_lambdaHit {c Pt c' : Addr} {ps : Array Value} {params body scope pos cn cs a} {clos : List (Str × Addr)} {P : Po Value} (he : fm.env = envX cn cs fm.env.locals a (.ref c) Cs) (hdef : defaultsOf params fm.env = ([], []))
    (hC : CodeHd G.base c Pt) (hm : (Pt, tabObj ps) ∈ l) (ht : TriplesOk ps.toList) (hf : codeAmong pos ps.toList = some (.ref c')) (hcl : closureFor scope fm.env = pure clos)
    (h : ∀ f ctv, P (.ref f) vals ((f, kla_obj "<lambda>" (fm.env.qual ++ "<lambda>") params body scope clos ((G.mg "__name__").getD .none) c' ctv) :: l)) :
    T fm k vals l (eval (.Lambda params body scope pos) fm.env) P := .mk fun A s r H => by
  refine kla_eval hdef ?_
  have e1 : makeFunction "<lambda>" (fm.env.qual ++ "<lambda>") params (.expr body) scope fm.env [] [] [] pos pos.line = makeFunction "<lambda>" (fm.env.qual ++ "<lambda>") params (.expr body) scope (envX cn cs fm.env.locals a (.ref c) Cs) [] [] [] pos pos.line := by rw [← he]
  rw [e1]
  refine kla_hit H.h.fr H.h.news G.T hC rfl hm ht hf (by rw [← he]; exact hcl) fun f ctv h' tk F' N' h1 => ?_
  refine ⟨vals, _, H.frN F' N' ?_, h f ctv⟩
  rw [List.map_cons]
  refine List.nodup_cons.mpr ⟨fun q => ?_, H.h.nd⟩
  obtain ⟨p, hp, q'⟩ := List.mem_map.mp q
  exact Nat.lt_irrefl _ ((show p.1 = f from q') ▸ h1 p hp)
end

/-- a lambda is entered -/
theorem enterL {G : Gr} {k : Nat} {pre : Led} {P : Value → Led → Prop} {name qual : Str} {params : Arguments} {body : Expr} {scope : Scope} {pm ctv : Value} {cl : List (Str × Addr)} {f c' : Addr} {oc : Obj}
    {pos : List Value} {binds : List (Str × Value)} {N : List Str} {vals : List (Option Value)} {Gs : List (Str × Value)}
    (ho : (f, kla_obj name qual params body scope cl pm c' ctv) ∈ pre) (hoc : (c', oc) ∈ pre) (hcd : CodeO oc qual)
    (hbind : bindArgs (kla_fn name qual params body scope cl pm (.ref c') ctv) ⟨pos, []⟩ = pure binds)
    (N' : List Str) (hN : N = binds.map (·.1) ++ N') (hv : vals = binds.map (fun p => some p.2) ++ N'.map fun _ => none)
    (hnd : N.Nodup) (hloc : (N.all fun x => decide (scope.names.lookup x = some .local) && !(x == ("__debug__" : Str))) = true)
    (hglb : ∀ p ∈ Gs, scope.names.lookup p.1 = some .globalImplicit ∧ (p.1 == ("__debug__" : Str)) = false ∧ Glb G p.1 p.2)
    (hcell : (scope.names.all fun x => decide (x.2 ≠ .cell)) = true)
    (hco : scope.isCoroutine = false) (hgen : scope.isGenerator = false) (hk : scope.kind = .function)
    (h : ∀ (fm : Fm G N Gs cl) (rest : Led), fm.env.scope = scope → T fm k vals (pre ++ rest) (eval body fm.env) fun v _ l' => ∃ post, Sbl (post ++ rest) l' ∧ P v post) :
    Sp G (k + 1) pre (.ref f) pos [] P := by
  refine .mk ?_
  intro rest A s r H big
  have locs : ∀ x ∈ N, scope.names.lookup x = some .local ∧ (x == ("__debug__" : Str)) = false := fun x hx => by
    have := List.all_eq_true.mp hloc x hx
    simp only [Bool.and_eq_true, decide_eq_true_eq, Bool.not_eq_true'] at this
    exact this
  have fo := (H.led _ (List.mem_append_left rest ho)).1
  have co := (H.led _ (List.mem_append_left rest hoc)).1
  obtain ⟨vs, t, hd, hq⟩ := hcd
  refine kla_callFunE r.d fo rfl hco hgen rfl ⟨c', oc, vs, t, rfl, co, hd, hq⟩ ?_
  rw [hbind]
  refine wpAny_pure (wpAny_newFunctionEnv (fun x hx => of_decide_eq_true (List.all_eq_true.mp hcell x hx)) (fun x hx => (locs x.1 (by rw [hN]; exact List.mem_append_left _ (List.mem_map_of_mem hx))).1) (fun h₁ hns hsb => ⟨(G.T.nolimit.keeps H.keep).fresh _ hsb, ?_⟩) hk)
  show codeAny _ _ (.expr body (callEnv (kla_fn name qual params body scope cl pm (.ref c') ctv) s.heap.objs.size f)) _ _
  have hk₁ : ∀ b o, s.heap.get? b = some o → h₁.get? b = some o := fun b o e => hsb.extBut b o (Nat.ne_of_lt (Heap.lt_size e)) (Heap.get?_push_of_some _ e)
  let fm : Fm G N Gs cl := { env := callEnv (kla_fn name qual params body scope cl pm (.ref c') ctv) s.heap.objs.size f, nd := hnd, kind := hk, loc := locs, glb := hglb, globals := rfl, builtins := rfl, cells := rfl }
  have H1 : St fm vals (pre ++ rest) { s with heap := h₁, toks := s.toks + binds.length } := by
    refine ⟨{ keep := fun b o e => hk₁ b o (H.keep b o e), nd := H.nd, led := fun p hp => ⟨hk₁ _ _ (H.led p hp).1, (H.led p hp).2⟩, gens := H.gens, os := H.os, ns := ?_, above := ?_, apart := ?_ }, ?_⟩
    · have e := loc_start (binds := binds) (N' := N') (hN ▸ hnd)
      rw [← hN, ← hv] at e
      rw [e]; exact hns
    · exact big
    · intro e
      obtain ⟨p, hp, q⟩ := List.mem_map.mp e
      exact Nat.lt_irrefl _ (q ▸ Heap.lt_size (H.led p hp).1)
    · rw [hN, hv]; simp
  refine kla_codeExpr (wpAny_mono ((h fm rest rfl).go _ _ r.deeper H1) (fun v s' ⟨v', l', H2, post, hs, hp⟩ => ?_) fun _ _ x => x.elim)
  exact ⟨v, post, rfl, H2.h.toHd.sbl hs, hp⟩
end
section
/-- a text by its signs -/
def S (cs : List Nat) : Str := ⟨cs.toArray⟩
theorem S_app (a b : List Nat) : S a ++ S b = S (a ++ b) := by
  show Str.append (S a) (S b) = _
  simp [Str.append, S]
theorem S_len (a : List Nat) : (S a).length = a.length := by simp [S, Str.length]
theorem S_inj {a b : List Nat} (h : S a = S b) : a = b := by
  have := congrArg Str.cps h
  simpa [S] using this
theorem S_eq {a b : List Nat} : S a = S b ↔ a = b := ⟨S_inj, fun h => h ▸ rfl⟩
theorem S_cps (a : List Nat) : (S a).cps.toList = a := by simp [S]
theorem S_of (x : Str) : S x.cps.toList = x := by cases x; simp [S]
theorem line20 {n : Nat} (h : n ≤ 1048576) : n ≤ sizeLine := by show n ≤ 2 ^ 24; omega
section
variable {G : Gr} {N : List Str} {Gs : List (Str × Value)} {Cs : List (Str × Addr)} {fm : Fm G N Gs Cs} {k : Nat} {vals : List (Option Value)} {l : Led} {α β : Type}

section
variable {x y : Str} {t u : Tok} {P : Po Value}
theorem madeApp {Q : Value → Shared → Prop} {s : Shared} (hsz : (x ++ y).length ≤ sizeLine) (h : ∀ t n, Q (.str (x ++ y) t) { s with toks := n }) :
    (if x.length == 0 then Made.val (.str y u) else if y.length == 0 then Made.val (.str x t) else Made.str (x ++ y)).post Q s := by
  split
  · rename_i e
    have : x = S [] := by
      have e' : x.length = 0 := by simpa using e
      rw [← S_of x]; congr 1
      exact List.eq_nil_of_length_eq_zero (by simpa [Str.length] using e')
    have e2 : x ++ y = y := by rw [this, ← S_of y, S_app]; rfl
    have := h u s.toks
    rw [e2] at this; exact this
  · split
    · rename_i _ e
      have : y = S [] := by
        have e' : y.length = 0 := by simpa using e
        rw [← S_of y]; congr 1
        exact List.eq_nil_of_length_eq_zero (by simpa [Str.length] using e')
      have e2 : x ++ y = x := by rw [this, ← S_of x, S_app, List.append_nil]
      have := h t s.toks
      rw [e2] at this; exact this
    · exact ⟨hsz, h _ _⟩
theorem T_adds (hsz : (x ++ y).length ≤ sizeLine) (h : ∀ t, P (.str (x ++ y) t) vals l) : T fm k vals l (binaryOp .Add (.str x t) (.str y u)) P := .mk fun _ _ _ H =>
  PySem.P.add_str (madeApp hsz fun t n => ⟨vals, l, H.toks _, h t⟩)
theorem T_iadds (hsz : (x ++ y).length ≤ sizeLine) (h : ∀ t, P (.str (x ++ y) t) vals l) : T fm k vals l (inplaceOp .Add (.str x t) (.str y u)) P := .mk fun _ _ _ H =>
  PySem.P.iadd_str (madeApp hsz fun t n => ⟨vals, l, H.toks _, h t⟩)
theorem eqL (x y : Str) : (x.cps.toList == y.cps.toList) = decide (x = y) := by
  rw [Bool.eq_iff_iff, beq_iff_eq, decide_eq_true_eq]
  constructor
  · intro e; rw [← S_of x, ← S_of y, e]
  · intro e; rw [e]
theorem T_eqs (h : P (.bool (decide (x = y))) vals l) : T fm k vals l (compareOp .Eq (.str x t) (.str y u)) P := .mk fun _ _ _ H => PySem.P.eq_str (by rw [eqL]; exact ⟨vals, l, H, h⟩)
theorem T_nes (h : P (.bool (!decide (x = y))) vals l) : T fm k vals l (compareOp .NotEq (.str x t) (.str y u)) P := .mk fun _ _ _ H => PySem.P.ne_str (by
  show ∃ _, _
  rw [show (x.cps.toList != y.cps.toList) = !decide (x = y) by rw [← eqL]; rfl]; exact ⟨vals, l, H, h⟩)
theorem T_in_ch {c : Nat} (h : P (.bool (decide (c ∈ x.cps.toList))) vals l) : T fm k vals l (compareOp .In (.str (S [c]) u) (.str x t)) P := .mk fun _ _ _ H => PySem.P.in_str (by
  rw [show S [c] = ⟨#[c]⟩ from rfl, StrLaws.found_one]; exact ⟨vals, l, H, h⟩)
theorem T_truthy_str {P : Po Bool} (hsz : x.length ≤ sizeLine) (h : P (decide (x ≠ S [])) vals l) : T fm k vals l (truthy (.str x t)) P := .mk fun _ _ _ H =>
  PySem.P.truthy_str (by have : sizeLine = 16777216 := by decide
                         omega) (by
    have e : ((x.length : Int) != 0) = decide (x ≠ S []) := by
      rw [Bool.eq_iff_iff, bne_iff_ne, decide_eq_true_eq]
      have : x.length = 0 ↔ x = S [] := by
        constructor
        · intro e'; rw [← S_of x]; congr 1
          exact List.eq_nil_of_length_eq_zero (by simpa [Str.length] using e')
        · intro e'; rw [e', S_len]; rfl
      rw [ne_eq, ne_eq, ← this]; omega
    rw [e]; exact ⟨vals, l, H.toks _, h⟩)
end

/-! lists -/
section
variable {a : Addr} {its : Array Value} {n : Nat} {P : Po Value}
theorem fit63 {n : Nat} (h : n ≤ sizeLine) : (n : Int) < 2 ^ 63 := by
  have : sizeLine = 16777216 := by decide
  omega
theorem T_truthy_list {P : Po Bool} (ha : (a, listOf its n) ∈ l) (hsz : its.size ≤ sizeLine) (h : P (!its.isEmpty) vals l) : T fm k vals l (truthy (.ref a)) P := .mk fun _ _ _ H =>
  wpAny_truthy_list ⟨_, H.at ha, rfl, n, rfl⟩ (fit63 hsz) ⟨vals, l, H.toks _, h⟩
theorem T_len_list (ha : (a, listOf its n) ∈ l) (hsz : its.size ≤ sizeLine) (h : ∀ t, P (.int its.size t) vals l) : T fm k vals l (call (.builtin "len") [.ref a]) P := .mk fun _ _ _ H =>
  len_list ⟨_, H.at ha, rfl, n, rfl⟩ (fit63 hsz) ⟨vals, l, H.toks _, h _⟩
theorem T_meth_list {name id pl} {P : Po (Value × List Value)} (slot : Slot "list" name id) (hty : typeOf (.builtin id) = pure (.type "method_descriptor")) (ha : (a, listOf its n) ∈ l) (h : P (.builtin id, [.ref a]) vals l) :
    T fm k vals l (getMethod (.ref a) name pl) P := .mk fun _ _ _ H =>
  getMethod_builtin ⟨_, H.at ha, rfl⟩ PySem.F.plainAttrs_list slot hty (fun b e => by cases e; exact ⟨_, H.at ha, rfl⟩) ⟨vals, l, H, h⟩
theorem T_append {x l'} (U : Upd1 a (listOf its n) (listOf (its.push x) (n + 1)) l l') (hsz : its.size ≤ sizeLine) (h : P .none vals l') : T fm k vals l (call (.builtin "list.append") [.ref a, x]) P := .mk fun _ _ _ H =>
  append_at (hsz := hsz) (H.at U.mem) fun h' hs ho' => ⟨vals, l', H.upd U hs ho', h⟩
theorem T_appendL {vs : List Value} {x l'} (U : Upd1 a (listOf vs.toArray n) (listOf (vs ++ [x]).toArray (n + 1)) l l') (hsz : vs.length ≤ sizeLine) (h : P .none vals l') : T fm k vals l (call (.builtin "list.append") [.ref a, x]) P :=
  T_append (its := vs.toArray) (by rw [show vs.toArray.push x = (vs ++ [x]).toArray by simp]; exact U) (by simpa using hsz) h
theorem T_pop0 {u x r l'} (hits : its = (x :: r).toArray) (U : Upd1 a (listOf its n) (listOf r.toArray (n + 1)) l l') (hsz : its.size ≤ sizeLine) (h : P x vals l') : T fm k vals l (call (.builtin "list.pop") [.ref a, .int 0 u]) P := .mk fun A s r' H => by
  subst hits
  refine call_meets PySem.F.slot_list_pop ⟨_, H.at U.mem, rfl⟩ PySem.F.entry_list_pop (PySem.F.args_list_pop_2 _ _) (PySem.MeetsSeq.list_pop_at a _ n 0 u 0 x (by decide +kernel) (by simp [seqIndex?]) (by simp) hsz) ⟨H.at U.mem, vals, l', ?_, h⟩
  refine H.upd U (Heap.SameBut.update ..) ?_
  have e := Heap.get?_update_self (h := s.heap) (a := a) (Obj.mapSeq fun xs => xs.eraseIdxIfInBounds 0) (H.at U.mem) rfl
  rw [e]
  simp [Obj.mapSeq, W.listOf, Array.eraseIdxIfInBounds]
end

/-! iter(f, sentinel) -/
theorem T_iter2 {q f self sent} {P : Po Value} (hq : (q, methodObj (.ref f) self) ∈ l) (h : ∀ it, P (.ref it) vals ((it, callIt (.ref q) sent false) :: l)) : T fm k vals l (call (.builtin "iter") [.ref q, sent]) P := .mk fun A s r H => by
  refine call_function_entry (by decide +kernel) (by decide +kernel) (b := Builtin.«iter») (entryFor_of_fast (by kernel_rfl)) (by unfold argsOk; kernel_rfl) ?_
  show wpAny _ _ (specialOf (.ref q) "__call__" >>= _) _ _ s
  have hT : s.TypeIs (.ref q) "method" := ⟨_, H.at hq, rfl⟩
  have hl : typeLookup (.type "method") "__call__" = pure (some (.builtin "method.__call__")) := by rw [typeLookup_type, builtinLookup_eq_fast]; kernel_rfl
  refine wpAny_bind (wpAny_specialOf hT hl ?_)
  show wpAny _ _ (rule _ >>= _) _ _ s
  exact wpAny_bind (wpAny_rule (wpAny_bind (wpAny_newObj_type (wpAny_pure ⟨_, rfl, vals, _, H.push _, h _⟩))))

/-! an object of the text's class is made -/
theorem Room.make {j k A C vals} (r : Room k A) (h : j + 2 ≤ k) : Room j (A.under (.builtin "type.__call__" ⟨.ref C :: vals, []⟩)) :=
  ⟨by have := r.depth; show A.depth + 1 + j < 900; omega, by have := r.units; show A.units + 1 + 8 * j < 9000; omega, r.handled⟩
theorem T_new {C fI : Addr} {args : List Value} {j : Nat} {Q : Addr → Addr → Value → Led → Prop} {P : Po Value} (hm : makesIn G.K C = true) (hi : findIn G.K (.ref C) "__init__" = some (some (.ref fI))) (hf : isFn G.K (.ref fI) = true)
    (hS : ∀ x dx, Sp G j [(x, instObj C dx), (dx, dictOf [] 0)] (.ref fI) (.ref x :: args) [] (Q x dx)) (hj : j + 2 ≤ k) (hP : ∀ x dx v post, Q x dx v post → v = .none ∧ P (.ref x) vals (post ++ l)) :
    T fm k vals l (call (.ref C) args) P := .mk fun A s r H => by
  refine call_cls H.h.fr G.X H.h.news hm hi hf fun x dx h' F' N' h1 h2 => ?_
  have nd : (((x, instObj C dx) :: (dx, dictOf [] 0) :: l).map (·.1)).Nodup := by
    rw [List.map_cons, List.map_cons]
    refine List.nodup_cons.mpr ⟨fun q => ?_, List.nodup_cons.mpr ⟨fun q => ?_, H.h.nd⟩⟩
    · rcases List.mem_cons.mp q with q | q
      · exact Nat.lt_irrefl _ ((show x = dx from q) ▸ h2)
      · obtain ⟨p, hp, q'⟩ := List.mem_map.mp q
        exact Nat.lt_irrefl _ (Nat.lt_trans ((show p.1 = x from q') ▸ h1 p hp) h2)
    · obtain ⟨p, hp, q'⟩ := List.mem_map.mp q
      exact Nat.lt_irrefl _ ((show p.1 = dx from q') ▸ h1 p hp)
  have H1 : St fm vals ((x, instObj C dx) :: (dx, dictOf [] 0) :: l) { s with heap := h' } := ⟨Fh.of F' N' nd H.h.gens H.h.os, H.len⟩
  refine codeAny_mono (Sp_at (hS x dx) (r.make hj) H1 (rest := l) (.cons .head (.cons .head .nil))) fun y s' ⟨v, post, e, H', q⟩ => ?_
  subst e
  obtain ⟨rfl, p⟩ := hP x dx v post q
  exact ⟨rfl, vals, _, H', p⟩
end
end
section
section
variable {G : Gr} {N : List Str} {Gs : List (Str × Value)} {Cs : List (Str × Addr)} {fm : Fm G N Gs Cs} {k : Nat} {vals : List (Option Value)} {l : Led} {α β : Type} {P : Po Value}

/-! type(x), is -/
theorem T_type {x : Value} {ty : String} (hx : ∀ s : Shared, s.TypeIs x ty) (hnb : (Value.type ty == Value.type "builtin_function_or_method") = false) (h : P (.type ty) vals l) : T fm k vals l (call (.type "type") [x]) P := .mk fun _ s _ H =>
  call_type_of (hx s) hnb ⟨vals, l, H, h⟩
theorem T_is {a b : Value} (hp : plainIs a b = true) (h : P (.bool (a == b)) vals l) : T fm k vals l (compareOp .Is a b) P := .mk fun _ s _ H => wpAny_is_plain hp ⟨vals, l, H, h⟩
theorem T_isnot {a b : Value} (hp : plainIs a b = true) (h : P (.bool (!(a == b))) vals l) : T fm k vals l (compareOp .IsNot a b) P := .mk fun _ s _ H => wpAny_isNot_plain hp ⟨vals, l, H, h⟩

/-! ints as bits -/
section
variable {a b : Int} {t u : Tok}
theorem T_mul (hm : IntMulOk a b) (h : ∀ t, P (.int (a * b) t) vals l) : T fm k vals l (binaryOp .Mult (.int a t) (.int b u)) P := .mk fun _ _ _ H => mul_int ⟨vals, l, H.toks _, h _⟩ hm
theorem T_neg (h : ∀ t, P (.int (-a) t) vals l) : T fm k vals l (unaryOp .USub (.int a t)) P := .mk fun _ _ _ H => PySem.P.neg_int ⟨vals, l, H.toks _, h _⟩
theorem T_lshift {n : Int} (hn : 0 ≤ n) (hn2 : n ≤ 1000000) (ha : a.natAbs < 2 ^ 64) (h : ∀ t, P (.int (a * 2 ^ n.toNat) t) vals l) : T fm k vals l (binaryOp .LShift (.int a t) (.int n u)) P := .mk fun _ _ _ H =>
  lshift_int_small hn hn2 ha ⟨vals, l, H.toks _, h _⟩
theorem T_rshift {n : Int} (hn : 0 ≤ n) (h : ∀ t, P (.int (a.fdiv (2 ^ n.toNat)) t) vals l) : T fm k vals l (binaryOp .RShift (.int a t) (.int n u)) P := .mk fun _ _ _ H => rshift_int hn ⟨vals, l, H.toks _, h _⟩
theorem T_and (h : ∀ t, P (.int (Builtin.bitAnd a b) t) vals l) : T fm k vals l (binaryOp .BitAnd (.int a t) (.int b u)) P := .mk fun _ _ _ H => and_int ⟨vals, l, H.toks _, h _⟩
theorem T_or (h : ∀ t, P (.int (Builtin.bitOr a b) t) vals l) : T fm k vals l (binaryOp .BitOr (.int a t) (.int b u)) P := .mk fun _ _ _ H => or_int ⟨vals, l, H.toks _, h _⟩
end

/-! bytes -/
theorem T_bytes {n j pos} (h : ∀ t, P (.bytes n.toArray t) vals l) : T fm k vals l (eval (.Constant (.bytes n) j pos) fm.env) P := .mk fun _ s _ H => by
  show wpAny _ _ (mkTextBytes n.toArray) _ _ _
  exact wpAny_mkTextBytes ⟨vals, l, H.toks _, h _⟩
theorem T_bytes_of {a : Addr} {vs : List Value} {n : Nat} {ns : List Int} (ha : (a, listOf vs.toArray n) ∈ l) (hi : IntsAre vs ns) (hr : ∀ n ∈ ns, 0 ≤ n ∧ n < 256) (hz : vs.length ≤ sizeLine) (h : ∀ t, P (.bytes (byteArr ns) t) vals l) :
    T fm k vals l (call (.type "bytes") [.ref a]) P := .mk fun _ s r H =>
  call_bytes_ints ⟨_, H.at ha, rfl, n, rfl⟩ hi hr hz r.handled fun h' t n hk => ⟨vals, l, H.keeps hk, h t⟩
def BytesIt (o : Obj) (b : Array UInt8) (t : Tok) (i : Nat) : Prop := o.cls = .type "bytes_iterator" ∧ o.data = .fields #[.bytes b t, .int i 0]
theorem T_iter_bytes {b t} (h : ∀ it o, BytesIt o b t 0 → P (.ref it) vals ((it, o) :: l)) : T fm k vals l (pyIter (.bytes b t)) P := .mk fun A s r H =>
  KBw.pyIter_bytes ⟨vals, _, H.push _, h _ _ ⟨rfl, rfl⟩⟩
theorem T_iter_bytesiter {it b t i o} (hi : BytesIt o b t i) (ha : (it, o) ∈ l) (h : P (.ref it) vals l) : T fm k vals l (pyIter (.ref it)) P := .mk fun A s r H =>
  KBw.pyIter_self ⟨o, H.at ha, hi.1, hi.2⟩ ⟨vals, l, H, h⟩
theorem T_next_bytes {it b t i c o} {l' : Obj → Led} {P : Po (Option Value)} (hi : BytesIt o b t i) (U : ∀ o', Upd1 it o o' l (l' o')) (hx : b[i]? = some c) (h : ∀ o' u, BytesIt o' b t (i + 1) → P (some (.int (c.toNat : Int) u)) vals (l' o')) :
    T fm k vals l (pyNext (.ref it)) P := .mk fun A s r H =>
  KBw.next_item ⟨o, H.at (U o).mem, hi.1, hi.2⟩ hx fun h' ⟨o', ho, c, d⟩ hs => ⟨vals, l' o', H.upd (U o') hs ho, h o' _ ⟨c, d⟩⟩
theorem T_end_bytes {it b t i o l'} {P : Po (Option Value)} (hi : BytesIt o b t i) (U : Pick (it, o) l l') (hx : b[i]? = none) (h : P none vals l') :
    T fm k vals l (pyNext (.ref it)) P := .mk fun A s r H =>
  KBw.next_end r.handled ⟨o, H.at U.mem, hi.1, hi.2⟩ hx fun h' hx => ⟨vals, l', H.forget U hx, h⟩
theorem T_len_bytes {b : Array UInt8} {t} (hsz : b.size ≤ sizeLine) (h : ∀ t, P (.int b.size t) vals l) : T fm k vals l (call (.builtin "len") [.bytes b t]) P := .mk fun _ _ _ H =>
  KBw.len_K rfl (by rw [KBw.ints_length]; exact Nat.le_trans hsz (by decide)) (by rw [KBw.ints_length]; exact ⟨vals, l, H.toks _, h _⟩)

/-! subscripts -/
theorem T_Subscript {value slice pos} (h : T fm k vals l (eval value fm.env) fun o v l => T fm k v l (eval slice fm.env) fun i v l => T fm k v l (subscriptTail value slice o i) P) :
    T fm k vals l (eval (.Subscript value slice pos) fm.env) P := .mk fun A s r H =>
  Subscript_ (T_in h r H fun o _ _ s₁ H₁ h₁ => T_in h₁ r H₁ fun i _ _ s₂ H₂ h₂ => h₂.go A s₂ r H₂)
theorem T_item_bytes {value slice b t i ui} (h0 : 0 ≤ i) (h1 : i < (b.size : Int)) (hsz : b.size ≤ sizeLine) (hs : subscripted slice false (.bytes b t) (.int i ui) = operate [.bytes b t, .int i ui] (getItem (.bytes b t) (.int i ui)))
    (ht : ∀ r, letTemporaryGo value (.bytes b t) r = pure ()) (h : ∀ u, P (.int ((KBw.bInts b).getD i.toNat 0) u) vals l) : T fm k vals l (subscriptTail value slice (.bytes b t) (.int i ui)) P := .mk fun _ _ _ H =>
  KBw.item_K rfl (by rw [KBw.ints_length]; exact Nat.le_trans hsz (by decide)) h0 (by rw [KBw.ints_length]; exact h1) (fun t' n _ _ => ⟨vals, l, H.toks _, h t'⟩) hs ht

/-! calls by keywords -/
theorem T_CallNk {x np args kws pos} (h : T fm k vals l (eval (.Name x np) fm.env) fun f v l => T fm k v l (callWith pos f [] (backTo pos (starEach args fm.env)) (backToKw pos (keywordEach kws fm.env))) P) :
    T fm k vals l (eval (.Call (.Name x np) args kws pos) fm.env) P := .mk fun A s r H => wpAny_Call_Name_kw (T_in h r H fun v _ _ s₁ H₁ h₁ => h₁.go A s₁ r H₁)
theorem T_kk1 {pos f e rest kws} (hk : keepIn G.K f = true) (hall : (backToKw pos (keywordEach kws fm.env)).all (·.1.isSome) = true) (he : starEach (e :: rest) fm.env = (false, eval e fm.env) :: starEach rest fm.env)
    (hp : ((backTo pos (starEach (e :: rest) fm.env)).any (·.1) || (backToKw pos (keywordEach kws fm.env)).any (·.1.isNone)) = false)
    (h : T fm k vals l (spliced (backTo pos (starEach (e :: rest) fm.env))) fun vs v l => T fm k v l (evalAll ((backToKw pos (keywordEach kws fm.env)).map (·.2))) fun ks v l => T fm k v l (call f vs (((backToKw pos (keywordEach kws fm.env)).filterMap (·.1)).zip ks)) P) :
    T fm k vals l (callWith pos f [] (backTo pos (starEach (e :: rest) fm.env)) (backToKw pos (keywordEach kws fm.env))) P := .mk fun A s r H =>
  callWith_KW (h₀ := G.base) G.X hk hall (T_in h r H fun vs _ _ s₁ H₁ h₁ => T_in h₁ r H₁ fun ks _ _ s₂ H₂ h₂ => ⟨H₂.X, h₂.go A s₂ r H₂⟩) hp he
theorem T_kw_nil {pos} {P : Po (List Value)} (h : P [] vals l) : T fm k vals l (evalAll ((backToKw pos (keywordEach [] fm.env)).map (·.2))) P := .mk fun A s r H => kwAll_nil ⟨vals, l, H, h⟩
theorem T_kw_cons {pos p name value rest} {P : Po (List Value)} (h : T fm k vals l (eval value fm.env) fun v vs l => T fm k vs l (evalAll ((backToKw pos (keywordEach rest fm.env)).map (·.2))) fun ks => P (v :: ks)) :
    T fm k vals l (evalAll ((backToKw pos (keywordEach (⟨some name, value, p⟩ :: rest) fm.env)).map (·.2))) P := .mk fun A s r H => kwAll_cons (T_in h r H fun v _ _ s₁ H₁ h₁ => h₁.go A s₁ r H₁)
end
end
section
section
variable {G : Gr} {N : List Str} {Gs : List (Str × Value)} {Cs : List (Str × Addr)} {fm : Fm G N Gs Cs} {k : Nat} {vals : List (Option Value)} {l : Led} {α β : Type} {P : Po Value}

theorem T_Assert {test msg pos} {P : Po Flow} (h : T fm k vals l (isTrue test fm.env (eval test fm.env)) fun b v l => b = true ∧ P .next v l) : T fm k vals l (exec (.Assert test msg pos) fm.env) P := .mk fun A s r H =>
  wpAny_Assert_holds (T_in h r H fun b v l s₁ H₁ h₁ => ⟨h₁.1, v, l, H₁, h₁.2⟩)
theorem T_meth_bytes {b t name id pl} {P : Po (Value × List Value)} (slot : Slot "bytes" name id) (hty : typeOf (.builtin id) = pure (.type "method_descriptor")) (h : P (.builtin id, [.bytes b t]) vals l) :
    T fm k vals l (getMethod (.bytes b t) name pl) P := .mk fun _ _ _ H =>
  getMethod_builtin (typeIs_bytes _ _ _) FB.plainAttrs_bytes slot hty (fun b e => nomatch e) ⟨vals, l, H, h⟩
theorem T_meth_str {x t name id pl} {P : Po (Value × List Value)} (slot : Slot "str" name id) (hty : typeOf (.builtin id) = pure (.type "method_descriptor")) (h : P (.builtin id, [.str x t]) vals l) :
    T fm k vals l (getMethod (.str x t) name pl) P := .mk fun _ _ _ H =>
  getMethod_builtin (typeIs_str _ _ _) PySem.F.plainAttrs_str slot hty (fun b e => nomatch e) ⟨vals, l, H, h⟩
theorem T_meth_type {ty name v pl} {P : Po (Value × List Value)} (ht : typeOf (.type ty) = pure (.type "type")) (hs : Manifest.isStub ty = false)
    (e : findCls G.K (.type ty) (.type "type") name = some (.val v)) (hh : handedIn v = true) (h : P (v, []) vals l) :
    T fm k vals l (getMethod (.type ty) name pl) P := .mk fun _ _ _ H => method_type H.h.fr G.X ht hs e hh ⟨vals, l, H.toks _, h⟩

/-! bytes.maketrans, bytes.translate -/
section
variable {M : Model} {A : Around} {E : Value → Shared → Prop} {s : Shared}
theorem look_bbuf : typeLookup (.type "bytes") "__buffer__" = pure (some (.builtin "bytes.__buffer__")) := by rw [typeLookup_type, builtinLookup_eq_fast]; kernel_rfl
theorem look_brel : typeLookup (.type "bytes") "__release_buffer__" = pure none := by rw [typeLookup_type, builtinLookup_eq_fast]; kernel_rfl
theorem own_b {b t} {Q : Bool → Shared → Prop} (h : Q true s) : wpAny M A (Builtin.Bytes.slotIsOwn (.bytes b t) "__buffer__") Q E s := by
  unfold Builtin.Bytes.slotIsOwn
  refine wpAny_bind (wpAny_specialOf (typeIs_bytes s b t) look_bbuf ?_)
  have e1 : ("bytes.__buffer__".endsWith ("." ++ "__buffer__")) = true := by decide +kernel
  have e2 : ("bytes.__buffer__".dropRight ("__buffer__".length + 1)) = "bytes" := by decide +kernel
  dsimp only
  rw [e1, e2]
  show wpAny M A (isInstance (.bytes b t) (.type "bytes")) Q E s
  refine wpAny_of_eq (a := true) ?_ h
  show (do let c ← typeOf (.bytes b t); isSubtype c (.type "bytes")) = pure true
  have : isSubtype (.type "bytes") (.type "bytes") = pure true := by rw [isSubtype_type]; kernel_rfl
  exact this
theorem rel_b {b t} {Q : Bool → Shared → Prop} (h : Q false s) : wpAny M A (Builtin.Bytes.ownRelease (.bytes b t)) Q E s := by
  unfold Builtin.Bytes.ownRelease Builtin.Bytes.slotIsOwn
  exact wpAny_bind (wpAny_bind (wpAny_specialOf (typeIs_bytes s b t) look_brel (wpAny_pure (wpAny_pure h))))
theorem like_b {id b t} {Q : Array UInt8 → Shared → Prop} (h : Q b s) : wpAny M A (Builtin.Bytes.bytesLike id (.bytes b t)) Q E s := by
  unfold Builtin.Bytes.bytesLike Builtin.Bytes.buffer?
  refine wpAny_bind (wpAny_bind (wpAny_specialOf (typeIs_bytes s b t) look_bbuf (wpAny_bind (own_b ?_))))
  refine wpAny_bind (wpAny_specialOf (typeIs_bytes s b t) look_bbuf ?_)
  exact wpAny_bind (rel_b (wpAny_bind (wpAny_pure (wpAny_pure (wpAny_pure h)))))
end
def identity8 : Array UInt8 := (Array.range 256).map (·.toUInt8)
def transTab (a b : Array UInt8) : Array UInt8 := (a.toList.zip b.toList).foldl (fun t (f, x) => t.setIfInBounds f.toNat x) identity8
theorem T_maketrans {a b t u} (hs : a.size = b.size) (hz : (transTab a b).size ≤ sizeLine) (h : ∀ w, P (.bytes (transTab a b) w) vals l) : T fm k vals l (call (.builtin "bytes.maketrans") [.bytes a t, .bytes b u]) P := .mk fun A s r H => by
  refine wpAny_call (codeAny_call_builtin (b := Builtin.«bytes.maketrans») (by decide +kernel) (entryFor_of_fast (by kernel_rfl)) ?_)
  have hk : builtinKind "bytes.maketrans" = some .staticMethod := by decide +kernel
  have hs2 : splitId "bytes.maketrans" = some ("bytes", "maketrans") := by decide +kernel
  have ha : argsOk "bytes.maketrans" ⟨[.bytes a t, .bytes b u], []⟩ := by unfold argsOk; kernel_rfl
  have hc : checkBuiltinCall "bytes.maketrans" ⟨[.bytes a t, .bytes b u], []⟩ = pure () := by
    unfold checkBuiltinCall
    rw [hk, hs2]
    simp only [argsOk] at ha
    cases hsig : Manifest.signature? "bytes.maketrans" with
    | none => rfl
    | some sig =>
      rw [hsig] at ha
      exact ha
  rw [hc]
  refine wpAny_pure ?_
  unfold Builtin.«bytes.maketrans» Builtin.Bytes.maketransM
  refine wpAny_bind (wpAny_pure (wpAny_bind (wpAny_pure (wpAny_bind (like_b (wpAny_bind (like_b ?_)))))))
  dsimp only
  rw [if_neg (by simp [hs])]
  refine wpAny_bind ?_
  show wpAny _ _ (mkBytes (transTab a b)) _ _ _
  unfold mkBytes
  rw [if_neg (by omega)]
  exact wpAny_bind (wpAny_fresh (wpAny_pure (wpAny_pure ⟨vals, l, H.toks _, h _⟩)))
theorem slot_translate : Slot "bytes" "translate" "bytes.translate" :=
  .of (owner := "bytes") (n := "translate") (by rw [typeLookup_type, builtinLookup_eq_fast]; kernel_rfl) (by decide +kernel) (by decide +kernel) (by decide +kernel)
    (by first | exact .inl (by decide +kernel) | exact .inr (by decide +kernel)) (by rw [isSubtype_type]; kernel_rfl)
theorem T_translate {a b t u} (ht : b.size = 256) (hz : a.size ≤ sizeLine) (h : ∀ w, P (.bytes (a.map fun c => b.getD c.toNat c) w) vals l) : T fm k vals l (call (.builtin "bytes.translate") [.bytes a t, .bytes b u]) P := .mk fun A s r H => by
  refine wpAny_call (codeAny_call_builtin (b := Builtin.«bytes.translate») slot_translate.plain (entryFor_of_fast (by kernel_rfl)) (slot_translate.check _ _ _ _ _ _ _ _ (typeIs_bytes _ _ _) (by unfold argsOk; kernel_rfl) ?_))
  unfold Builtin.«bytes.translate» Builtin.Bytes.translateM
  have hf : a.filter (fun c => !(#[] : Array UInt8).contains c) = a := by simp
  refine wpAny_bind (like_b ?_)
  rw [if_neg (by simp [ht])]
  refine wpAny_bind (wpAny_pure (wpAny_bind (wpAny_pure (wpAny_bind (wpAny_pure ?_)))))
  dsimp only
  rw [hf]
  split
  · rename_i e
    refine wpAny_bind (wpAny_rule ?_)
    refine wpAny_bind (wpAny_pure (wpAny_pure ⟨vals, l, H, ?_⟩))
    have := h t
    rw [beq_iff_eq.mp e] at this
    exact this
  · refine wpAny_bind ?_
    show wpAny _ _ (mkBytes (a.map fun c => b.getD c.toNat c)) _ _ _
    unfold mkBytes
    rw [if_neg (by simp; omega)]
    exact wpAny_bind (wpAny_fresh (wpAny_pure (wpAny_pure ⟨vals, l, H.toks _, h _⟩)))
end
end
section
theorem lookup_relabel {env : Env} {kd : NameKind} (hk : kd ≠ .free) : ∀ {names : List (Str × NameKind)} {x : Str}, names.lookup x = some kd →
    (names.map fun (n, k) => if (k == NameKind.free && env.scope.kind == .function && env.kindOf n == some .cell) then (n, NameKind.cell) else (n, k)).lookup x = some kd
  | [], _, h => by simp at h
  | (n, k) :: r, x, h => by
    have ih := @lookup_relabel env kd hk r x
    show List.lookup x ((if (k == NameKind.free && env.scope.kind == .function && env.kindOf n == some .cell) = true then (n, NameKind.cell) else (n, k)) :: _) = _
    cases hx : x == n with
    | true =>
      simp only [List.lookup_cons, hx] at h
      cases h
      rw [if_neg (by simp [hk])]
      simp [List.lookup_cons, hx]
    | false =>
      simp only [List.lookup_cons, hx] at h
      by_cases hc : (k == NameKind.free && env.scope.kind == .function && env.kindOf n == some .cell) = true
      · rw [if_pos hc]; simp only [List.lookup_cons, hx]; exact ih h
      · rw [if_neg hc]; simp only [List.lookup_cons, hx]; exact ih h
theorem lookup_relabel_free {env : Env} : ∀ {names : List (Str × NameKind)} {x : Str}, names.lookup x = some .free → env.scope.kind = .function → env.kindOf x = some .cell →
    (names.map fun (n, k) => if (k == NameKind.free && env.scope.kind == .function && env.kindOf n == some .cell) then (n, NameKind.cell) else (n, k)).lookup x = some .cell
  | [], _, h => by simp at h
  | (n, k) :: r, x, h => by
    intro hk hc0
    have ih := @lookup_relabel_free env r x
    show List.lookup x ((if (k == NameKind.free && env.scope.kind == .function && env.kindOf n == some .cell) = true then (n, NameKind.cell) else (n, k)) :: _) = _
    cases hx : x == n with
    | true =>
      simp only [List.lookup_cons, hx] at h
      cases h
      have e := beq_iff_eq.mp hx
      subst e
      rw [if_pos (by simp [hk, hc0])]
      simp [List.lookup_cons]
    | false =>
      simp only [List.lookup_cons, hx] at h
      by_cases hc : (k == NameKind.free && env.scope.kind == .function && env.kindOf n == some .cell) = true
      · rw [if_pos hc]; simp only [List.lookup_cons, hx]; exact ih h hk hc0
      · rw [if_neg hc]; simp only [List.lookup_cons, hx]; exact ih h hk hc0
section
variable {G : Gr} {N : List Str} {Gs : List (Str × Value)} {Cs : List (Str × Addr)} {fm : Fm G N Gs Cs} {k : Nat} {vals : List (Option Value)} {l : Led} {α β : Type}

/-- a turn of a list comprehension, behind the iterator's answer -/
def Ck (fm : Fm G N Gs Cs) (k : Nat) (elt target iter : Expr) (scope : Scope) (pos : Pos) (it acc : Value) (P : Po Flow) : Po (Option Value) := fun o vals l =>
  match o with
  | none => P .next vals l
  | some x => letOwnedTupleGo target it x = pure () ∧ T fm k vals l (assign target fm.env x) fun _ v l => T fm k v l (eval elt fm.env) fun y v l => T fm k v l (call (.builtin "list.append") [acc, y]) fun _ v l =>
      C fm k v l (.compLoop (.ListComp elt [⟨target, iter, [], 0⟩] scope pos) 0 it acc fm.env) P
theorem Ck_none {elt target iter scope pos it acc} {P : Po Flow} (h : P .next vals l) : Ck fm k elt target iter scope pos it acc P none vals l := h
theorem Ck_some {elt target iter scope pos it acc x} {P : Po Flow} (ht : letOwnedTupleGo target it x = pure ()) (h : T fm k vals l (assign target fm.env x) fun _ v l => T fm k v l (eval elt fm.env) fun y v l => T fm k v l (call (.builtin "list.append") [acc, y]) fun _ v l =>
      C fm k v l (.compLoop (.ListComp elt [⟨target, iter, [], 0⟩] scope pos) 0 it acc fm.env) P) : Ck fm k elt target iter scope pos it acc P (some x) vals l := ⟨ht, h⟩
theorem C_comp {elt target iter scope pos it acc} {P : Po Flow} (h : T fm k vals l (pyNext it) (Ck fm k elt target iter scope pos it acc P)) :
    C fm k vals l (.compLoop (.ListComp elt [⟨target, iter, [], 0⟩] scope pos) 0 it acc fm.env) P := .mk fun A s r H => by
  refine codeAny_of_tree ?_
  show wpAny _ A ((compTurn (.ListComp elt [⟨target, iter, [], 0⟩] scope pos) 0 it acc fm.env).onRaise (fun x => do noteFrame x fm.env; theTreesLotGoes x)) _ _ s
  refine wpAny_noted ?_
  rw [compTurn_list1]
  refine wpAny_bind (wpAny_standAt (wpAny_bind (T_in h r H fun o v l₁ s₁ H₁ h₁ => ?_)))
  cases o with
  | none => exact wpAny_pure ⟨.next, v, l₁, rfl, H₁, h₁⟩
  | some x =>
    refine wpAny_bind (wpAny_of_eq h₁.1 ?_)
    refine wpAny_bind (T_in h₁.2 r H₁ fun _ v l₂ s₂ H₂ h₂ => ?_)
    exact wpAny_bind (wpAny_bind (T_in h₂ r H₂ fun y v l₃ s₃ H₃ h₃ => wpAny_bind (T_in h₃ r H₃ fun _ v l₄ s₄ H₄ h₄ => wpAny_pure (wpAny_pure ⟨rfl, h₄.go A s₄ r H₄⟩))))
theorem C_cstart {elt target iter scope pos it acc} {P : Po Flow} (h0 : C fm k vals l (.compLoop (.ListComp elt [⟨target, iter, [], 0⟩] scope pos) 0 it acc fm.env) P)
    (h : T fm k vals l (pyIter it) fun it' v l' => it' = it ∧ v = vals ∧ l' = l) :
    C fm k vals l (.compStart (.ListComp elt [⟨target, iter, [], 0⟩] scope pos) 0 it acc fm.env) P := .mk fun A s r H =>
  codeAny_compStart_list (h0.go A s r H) (T_in h r H fun it' v l' s' H' ⟨e1, e2, e3⟩ => by subst e1 e2 e3; exact h0.go A s' r H')

/-- an object that is a table of names -/
def IsNs (o : Obj) : Prop := ∃ m, ∀ (h : Heap) a, h.get? a = some o → h.Ns a m
theorem comp_core {elt target iter : Expr} {scope : Scope} {pos pos' : Pos} {cl : List (Str × Addr)} {Nc : List Str} {Gc : List (Str × Value)} {use : Option (Value → Sem Unit)} {Q : Value → Shared → Prop} {D : Addr → List (Option Value) → Led → Prop}
    (hs : ∀ x, foldedSetIterable iter fm.env x = pure x) (hclos : closureFor scope fm.env = pure cl)
    (hkind : scope.kind = .function) (hcell : (scope.names.all fun x => decide (x.2 ≠ .cell)) = true) (hnames : (scope.names.all fun x => decide (x.2 = .local → scope.names.lookup x.1 = some .local)) = true)
    (hnd : Nc.Nodup) (hloc : (Nc.all fun x => decide (scope.names.lookup x = some .local) && !(x == ("__debug__" : Str))) = true)
    (hglb : ∀ p ∈ Gc, scope.names.lookup p.1 = some .globalImplicit ∧ (p.1 == ("__debug__" : Str)) = false ∧ Glb G p.1 p.2)
    (h : T fm k vals l (eval iter fm.env) fun x v l => T fm k v l (pyIter x) fun it v l => ∀ acc oL (cfm : Fm G Nc Gc cl), cfm.env.scope = relabel scope fm.env →
      C cfm k (Nc.map fun _ => none) ((acc, listOf #[] 0) :: (fm.env.locals, oL) :: l) (.compStart (.ListComp elt [⟨target, iter, [], 0⟩] scope pos) 0 it (.ref acc) cfm.env) fun _ _ l'' => ∃ l', Sbl ((fm.env.locals, oL) :: l') l'' ∧ D acc v l')
    {A s} (r : Room k A) (H : St fm vals l s)
    (hD : ∀ acc v l' Cn oC s' f, D acc v l' → IsNs oC → St fm v ((Cn, oC) :: l') s' → compPost G.M A (fun _ _ => False) use Q (.ref acc) Cn (.ok f) s') :
    wpAny G.M A (comprehension (.ListComp elt [⟨target, iter, [], 0⟩] scope pos) scope fm.env pos' (newList []) false (eval iter fm.env) use) Q (fun _ _ => False) s := by
  refine wpAny_comprehension_free (g := ⟨target, iter, [], 0⟩) (gs := []) rfl hs hclos hkind (fun x hx => of_decide_eq_true (List.all_eq_true.mp hnames x hx)) ?_
  refine T_in h r H fun x v₁ l₁ s₁ H₁ h₁ => T_in h₁ r H₁ fun it v₂ l₂ s₂ H₂ h₂ => ?_
  refine wpAny_newObj_type (T := "list") ?_
  refine wpAny_newFunctionEnv (fun x hx => of_decide_eq_true (List.all_eq_true.mp hcell x hx)) (by intro y hy; simp at hy) (fun h₁ hns hsb => ?_) hkind
  have H3 := H₂.push (n := s₂.toks) (listOf #[] 0)
  dsimp only at hns hsb ⊢
  generalize hsz : s₂.heap.objs.size = acc at H3 ⊢
  obtain ⟨oL, H4, big, back⟩ := H3.out
  have locs : ∀ x ∈ Nc, (relabel scope fm.env).names.lookup x = some .local ∧ (x == ("__debug__" : Str)) = false := fun x hx => by
    have := List.all_eq_true.mp hloc x hx
    simp only [Bool.and_eq_true, decide_eq_true_eq, Bool.not_eq_true'] at this
    exact ⟨lookup_relabel (by decide) this.1, this.2⟩
  generalize hH : s₂.heap.push (listOf #[] 0) = hp at *
  let cfm : Fm G Nc Gc cl := { env := compEnvC scope cl hp.objs.size fm.env, nd := hnd, kind := hkind, loc := locs
                               glb := fun p hp => ⟨lookup_relabel (by decide) (hglb p hp).1, (hglb p hp).2⟩, globals := fm.globals, builtins := fm.builtins, cells := rfl }
  have hk₁ : ∀ b o, hp.get? b = some o → h₁.get? b = some o := fun b o e => hsb.extBut b o (Nat.ne_of_lt (Heap.lt_size e)) (Heap.get?_push_of_some _ e)
  have e1 : (fun x => ([] : List (Str × Value)).reverse.lookup x) = Loc Nc (Nc.map fun _ => none) := by
    have := loc_start (binds := []) (N' := Nc) (by simpa using hnd)
    simpa using this.symm
  have H5 : St cfm (Nc.map fun _ => none) ((acc, listOf #[] 0) :: (fm.env.locals, oL) :: l₂) { s₂ with heap := h₁, toks := s₂.toks + ([] : List (Str × Value)).length } := by
    have H4' := H4.perm (List.Perm.swap _ _ _)
    refine ⟨{ keep := fun b o e => hk₁ b o (H4'.keep b o e), nd := H4'.nd, led := fun p hp => ⟨hk₁ _ _ (H4'.led p hp).1, (H4'.led p hp).2⟩, gens := H4'.gens, os := H4'.os, ns := ?_, above := big, apart := ?_ }, by simp⟩
    · rw [← e1]; exact hns
    · intro e
      obtain ⟨p, hp', q⟩ := List.mem_map.mp e
      exact Nat.lt_irrefl _ (Heap.lt_size (q ▸ (H4'.led p hp').1))
  refine codeAny_mono ((h₂ acc oL cfm rfl).go A _ r H5) fun x s' ⟨f, vc, l'', e, H6, l', hsub, d⟩ => ?_
  subst e
  obtain ⟨oC, H7, _, back'⟩ := H6.out
  obtain ⟨oC', es, ep, hL, hLd, hLk, hLf⟩ := H6.h.ns
  have eo : oC' = oC := by have := (H7.led _ List.mem_cons_self).1; rw [show (cfm.env.locals, oC).1 = cfm.env.locals from rfl, hL] at this; injection this
  subst eo
  have H8 : Hd G ((fm.env.locals, oL) :: (cfm.env.locals, oC') :: l') s' := by
    have : Sbl ((cfm.env.locals, oC') :: (fm.env.locals, oL) :: l') ((cfm.env.locals, oC') :: l'') := .pick .head hsub
    exact (H7.sbl this).perm (List.Perm.swap _ _ _)
  have H9 : St fm v₂ ((cfm.env.locals, oC') :: l') s' := back _ _ H8
  exact hD acc v₂ l' _ oC' s' f d ⟨_, fun h a e => ⟨oC', es, ep, e, hLd, hLk, hLf⟩⟩ H9

theorem T_comp {elt target iter : Expr} {scope : Scope} {pos : Pos} {cl : List (Str × Addr)} {P : Po Value} (Nc : List Str) (Gc : List (Str × Value))
    (hs : ∀ x, foldedSetIterable iter fm.env x = pure x) (hclos : closureFor scope fm.env = pure cl)
    (hkind : scope.kind = .function) (hcell : (scope.names.all fun x => decide (x.2 ≠ .cell)) = true) (hnames : (scope.names.all fun x => decide (x.2 = .local → scope.names.lookup x.1 = some .local)) = true)
    (hnd : Nc.Nodup) (hloc : (Nc.all fun x => decide (scope.names.lookup x = some .local) && !(x == ("__debug__" : Str))) = true)
    (hglb : ∀ p ∈ Gc, scope.names.lookup p.1 = some .globalImplicit ∧ (p.1 == ("__debug__" : Str)) = false ∧ Glb G p.1 p.2)
    (h : T fm k vals l (eval iter fm.env) fun x v l => T fm k v l (pyIter x) fun it v l => ∀ acc oL (cfm : Fm G Nc Gc cl), cfm.env.scope = relabel scope fm.env →
      C cfm k (Nc.map fun _ => none) ((acc, listOf #[] 0) :: (fm.env.locals, oL) :: l) (.compStart (.ListComp elt [⟨target, iter, [], 0⟩] scope pos) 0 it (.ref acc) cfm.env) fun _ _ l'' => ∃ l', Sbl ((fm.env.locals, oL) :: l') l'' ∧ P (.ref acc) v l') :
    T fm k vals l (eval (.ListComp elt [⟨target, iter, [], 0⟩] scope pos) fm.env) P := .mk fun A s r H => by
  rw [eval_ListComp]
  refine comp_core (use := none) (D := fun acc v l' => P (.ref acc) v l') hs hclos hkind hcell hnames hnd hloc hglb h r H fun acc v l' Cn oC s' f d ⟨m, hm⟩ H' => ?_
  exact ⟨m, hm _ _ (H'.at List.mem_cons_self), fun h' hs' => ⟨v, l', H'.forget .head hs'.extBut, d⟩⟩
theorem T_AssignComp {elt target iter : Expr} {scope : Scope} {pos py spos : Pos} {y : Str} {cl : List (Str × Addr)} {P : Po Flow} (Nc : List Str) (Gc : List (Str × Value))
    (hsw : (py.line == pos.line && !(scope.names.any fun (n, k) => n == y && (k == .local || k == .cell))) = true) (hy : y ∈ N)
    (hs : ∀ x, foldedSetIterable iter fm.env x = pure x) (hclos : closureFor scope fm.env = pure cl)
    (hkind : scope.kind = .function) (hcell : (scope.names.all fun x => decide (x.2 ≠ .cell)) = true) (hnames : (scope.names.all fun x => decide (x.2 = .local → scope.names.lookup x.1 = some .local)) = true)
    (hnd : Nc.Nodup) (hloc : (Nc.all fun x => decide (scope.names.lookup x = some .local) && !(x == ("__debug__" : Str))) = true)
    (hglb : ∀ p ∈ Gc, scope.names.lookup p.1 = some .globalImplicit ∧ (p.1 == ("__debug__" : Str)) = false ∧ Glb G p.1 p.2)
    (h : T fm k vals l (eval iter fm.env) fun x v l => T fm k v l (pyIter x) fun it v l => ∀ acc oL (cfm : Fm G Nc Gc cl), cfm.env.scope = relabel scope fm.env →
      C cfm k (Nc.map fun _ => none) ((acc, listOf #[] 0) :: (fm.env.locals, oL) :: l) (.compStart (.ListComp elt [⟨target, iter, [], 0⟩] scope pos) 0 it (.ref acc) cfm.env) fun _ _ l'' => ∃ l', Sbl ((fm.env.locals, oL) :: l') l'' ∧
        ∃ v', PutAt N v y (.ref acc) v' ∧ P .next v' l') :
    T fm k vals l (exec (.Assign [.Name y py] (.ListComp elt [⟨target, iter, [], 0⟩] scope pos) spos) fm.env) P := .mk fun A s r H => by
  have hsw' : swapsWith (.ListComp elt [⟨target, iter, [], 0⟩] scope pos) (some (.Name y py)) spos.line fm.env = pure true := by
    have e1 : fm.env.blockKind = .function := by
      unfold Env.blockKind; rw [fm.kind]; rfl
    have e2 : fm.env.kindOf y = some .local := (fm.loc y hy).1
    rw [Bool.and_eq_true] at hsw
    simp only [swapsWith, e1, e2, Expr.pos, hsw.1, hsw.2]
    rfl
  rw [exec_Assign_Name_used _ _ _ _ hsw']
  refine wpAny_bind (wpAny_standAt (wpAny_bind ?_))
  show wpAny _ A (do let _ ← comprehension (.ListComp elt [⟨target, iter, [], 0⟩] scope pos) scope fm.env _ (newList []) false (eval iter fm.env) (some (assign (.Name y py) fm.env))) _ _ s
  refine wpAny_bind (wpAny_mono (Q := fun _ s' => ∃ v l', St fm v l' s' ∧ P .next v l') ?_ (fun _ s' hq => wpAny_pure (wpAny_pure hq)) fun _ _ e => e)
  refine comp_core (use := some (assign (.Name y py) fm.env)) (D := fun acc v l' => ∃ v', PutAt N v y (.ref acc) v' ∧ P .next v' l') hs hclos hkind hcell hnames hnd hloc hglb h r H fun acc v l' Cn oC s' f ⟨v', hput, d⟩ ⟨m, hm⟩ H' => ?_
  show wpAny _ A (assign (.Name y py) fm.env (.ref acc)) _ _ _
  refine T_in (T_assignN (P := fun _ v l => v = v' ∧ l = (Cn, oC) :: l') hput ⟨rfl, rfl⟩) r H' fun _ v l s'' H'' ⟨e1, e2⟩ => ?_
  subst e1 e2
  exact ⟨m, hm _ _ (H''.at List.mem_cons_self), fun h' hs' => ⟨v, l', H''.forget .head hs'.extBut, d⟩⟩
end
end
section
open PySem.MeetsSeq PySem.SeqAt
/-! slices -/
abbrev sliceO (a b : Value) : Obj := { cls := .type "slice", data := .fields #[a, b, .none] }
def slc {α : Type} (xs : List α) (lo hi : Option Int) : List α := (xs.drop (lo.elim 0 (clipAt xs.length))).take (hi.elim xs.length (clipAt xs.length) - lo.elim 0 (clipAt xs.length))
theorem slc_all {α : Type} (xs : List α) : slc xs none none = xs := by simp [slc]
theorem slc_to {α : Type} (xs : List α) (b : Nat) : slc xs none (some (b : Int)) = xs.take b := by
  simp only [slc, Option.elim, clipAt_nat, List.drop_zero, Nat.sub_zero]
  rw [List.take_eq_take_iff]; omega
theorem slc_from {α : Type} (xs : List α) (a : Nat) : slc xs (some (a : Int)) none = xs.drop a := by
  simp only [slc, Option.elim, clipAt_nat]
  rw [List.take_of_length_le (by simp)]
  by_cases h : a ≤ xs.length
  · rw [Nat.min_eq_left h]
  · rw [Nat.min_eq_right (by omega), List.drop_length, List.drop_eq_nil_of_le (by omega)]
theorem slc_both {α : Type} (xs : List α) (a b : Nat) : slc xs (some (a : Int)) (some (b : Int)) = (xs.drop a).take (b - a) := by
  simp only [slc, Option.elim, clipAt_nat]
  by_cases h : a ≤ xs.length
  · rw [Nat.min_eq_left h, List.take_eq_take_iff]; simp; omega
  · rw [Nat.min_eq_right (by omega : xs.length ≤ a), List.drop_length, List.drop_eq_nil_of_le (by omega : xs.length ≤ a)]; simp
theorem slc_length_le {α : Type} (xs : List α) (lo hi : Option Int) : (slc xs lo hi).length ≤ xs.length := by simp [slc]; omega
theorem slicePick_slc (vs : List Value) (lo hi : Option Int) : slicePick vs.toArray lo hi none = (slc vs lo hi).toArray := by
  rw [slicePick_plain]; simp [slc]
theorem idx_plain (lo hi : Option Int) (n : Nat) : Builtin.Str.strSliceIndices lo hi 1 n = (List.range (hi.elim n (clipAt n) - lo.elim 0 (clipAt n))).map (lo.elim 0 (clipAt n) + ·) := by
  have e : Builtin.Str.strSliceIndices lo hi 1 n = sliceRange (sliceBounds lo hi none n).1 (sliceBounds lo hi none n).2.1 (sliceBounds lo hi none n).2.2 := by
    cases lo <;> cases hi <;> rfl
  rw [e, sliceBounds_plain, sliceRange_one]
theorem slice_slc (cs : List Nat) (lo hi : Option Int) : Txt.slice (S cs) lo hi = S (slc cs lo hi) := by
  have hb : hi.elim cs.length (clipAt cs.length) ≤ cs.length := by
    cases hi with
    | none => exact Nat.le_refl _
    | some b =>
      have := clipAt_cast cs.length b
      show clipAt cs.length b ≤ cs.length
      omega
  unfold Txt.slice
  rw [idx_plain, S_len]
  split
  · rename_i h
    simp only [beq_self_eq_true, Bool.true_and, List.length_map, List.length_range, beq_iff_eq] at h
    unfold slc
    by_cases h0 : lo.elim 0 (clipAt cs.length) = 0
    · rw [h0] at h ⊢
      rw [List.drop_zero, h, List.take_length]
    · have : cs = [] := List.eq_nil_of_length_eq_zero (by omega)
      subst this; simp
  · unfold slc
    have e : (S cs).cps = cs.toArray := rfl
    rw [e, pick_run]
    rfl
section
variable {G : Gr} {N : List Str} {Gs : List (Str × Value)} {Cs : List (Str × Addr)} {fm : Fm G N Gs Cs} {k : Nat} {vals : List (Option Value)} {l : Led} {α β : Type} {P : Po Value}
theorem T_part_none (h : P .none vals l) : T fm k vals l (evalPart none fm.env) P := .mk fun A s r H => wpAny_pure ⟨vals, l, H, h⟩
theorem T_part_some {e} (h : T fm k vals l (eval e fm.env) P) : T fm k vals l (evalPart (some e) fm.env) P := h
theorem T_Slice {lo hi p} (h : T fm k vals l (evalPart lo fm.env) fun a v l => T fm k v l (evalPart hi fm.env) fun b v l => ∀ sl, P (.ref sl) v ((sl, sliceO a b) :: l)) :
    T fm k vals l (eval (.Slice lo hi none p) fm.env) P := .mk fun A s r H =>
  wpAny_Slice (T_in h r H fun a v₁ l₁ s₁ H₁ h₁ => T_in h₁ r H₁ fun b v₂ l₂ s₂ H₂ h₂ => wpAny_pure ⟨v₂, _, H₂.push _, h₂ _⟩)
theorem tail_go {prog w A E s} {value slice : Expr} {o i : Value} {ty id : String} {L : List Value} {Q : Value → Shared → Prop} (hT : s.TypeIs o ty) (hl : typeLookup (.type ty) "__getitem__" = pure (some (.builtin id)))
    (hs : subscripted slice false o i = operate L (getItem o i)) (h : wpAny (model prog w) A (getItem o i) Q E s) : wpAny (model prog w) A (subscriptTail value slice o i) Q E s := by
  unfold subscriptTail
  refine wpAny_bind ?_
  rw [getitemInPython_of_ne hT.not_modules]
  refine wpAny_bind (wpAny_specialOf hT hl ?_)
  have fin : wpAny (model prog w) A (subscripted slice false o i) (fun r s₃ => wpAny (model prog w) A (letTemporaryGo value o r >>= fun _ => pure r) Q E s₃) E s := by
    rw [hs]
    exact wpAny_operating (wpAny_mono h (fun r s₃ h₃ => wpAny_bind (wpAny_letTemporaryGo (wpAny_pure h₃))) fun _ _ x => x)
  first
    | exact wpAny_pure (wpAny_bind fin)
    | exact wpAny_bind (wpAny_pure (wpAny_bind fin))
    | exact wpAny_bind fin
theorem T_slice_list {value lo' hi' p a sl} {vs : List Value} {n : Nat} {vl vu : Value} {lo hi : Option Int} (ha : (a, listOf vs.toArray n) ∈ l) (hs : (sl, sliceO vl vu) ∈ l) (pl : IsPart vl lo) (pu : IsPart vu hi) (hsz : vs.length ≤ sizeLine)
    (h : ∀ D, P (.ref D) vals ((D, listOf (slc vs lo hi).toArray 0) :: l)) : T fm k vals l (subscriptTail value (.Slice lo' hi' none p) (.ref a) (.ref sl)) P := .mk fun A s r H => by
  refine tail_go (ty := "list") ⟨_, H.at ha, rfl⟩ list_getitem_lookup (L := [.ref sl, .ref a]) rfl ?_
  refine wpAny_getItem_list_slice (vs := .none) ⟨_, H.at ha, rfl, n, rfl⟩ ⟨_, H.at hs, rfl, rfl⟩ pl pu .none (by simp) ?_ (by simpa using hsz)
  rw [slicePick_slc]
  exact ⟨vals, _, H.push _, h _⟩
theorem T_slice_str {value lo' hi' p sl} {cs : List Nat} {t : Tok} {vl vu : Value} {lo hi : Option Int} (hs : (sl, sliceO vl vu) ∈ l) (pl : IsPart vl lo) (pu : IsPart vu hi) (hsz : cs.length ≤ sizeLine)
    (h : ∀ t, P (.str (S (slc cs lo hi)) t) vals l) : T fm k vals l (subscriptTail value (.Slice lo' hi' none p) (.str (S cs) t) (.ref sl)) P := .mk fun A s r H => by
  refine tail_go (ty := "str") (typeIs_str _ _ _) PySem.F.slot_str_getitem.lookup (L := [.ref sl, .str (S cs) t]) rfl ?_
  have fin : ∀ (lp up : Option (Int × Tok)), partValue lp = vl → partValue up = vu → lp.map (·.1) = lo → up.map (·.1) = hi → wpAny G.M A (getItem (.str (S cs) t) (.ref sl)) (fun a s' => ∃ vals' l', St fm vals' l' s' ∧ P a vals' l') (fun _ _ => False) s := by
    intro lp up e1 e2 e3 e4
    refine wpAny_getItem_str_slice (l := lp) (u := up) (st := none) ⟨_, H.at hs, rfl, by rw [e1, e2]; rfl⟩ rfl ?_
    have hle : (Txt.slice (S cs) lo hi).length ≤ sizeLine := Nat.le_trans (Txt.slice_le _ _ _) (by rw [S_len]; exact hsz)
    unfold sliceMade slicePicked
    rw [e3, e4]
    refine post_val_or_str ⟨hle, fun t' k' => ⟨vals, l, H.toks _, ?_⟩⟩
    show P (.str (Txt.slice (S cs) lo hi) t') vals l
    rw [slice_slc]; exact h t'
  cases pl with
  | none => cases pu with
    | none => exact fin none none rfl rfl rfl rfl
    | int j u => exact fin none (some (j, u)) rfl rfl rfl rfl
  | int i u' => cases pu with
    | none => exact fin (some (i, u')) none rfl rfl rfl rfl
    | int j u => exact fin (some (i, u')) (some (j, u)) rfl rfl rfl rfl
/-! items -/
theorem T_item_list {value slice a vs n i u x} (ha : (a, listOf vs n) ∈ l) (h0 : 0 ≤ i) (hfit : i < 2 ^ 63) (hx : vs[i.toNat]? = some x) (hs : subscripted slice false (.ref a) (.int i u) = operate [.ref a, .int i u] (getItem (.ref a) (.int i u))) (h : P x vals l) :
    T fm k vals l (subscriptTail value slice (.ref a) (.int i u)) P := .mk fun A s r H =>
  tail_go (ty := "list") ⟨_, H.at ha, rfl⟩ list_getitem_lookup hs (wpAny_getItem_list ⟨_, H.at ha, rfl, n, rfl⟩ h0 hfit hx ⟨vals, l, H, h⟩)
theorem T_item_str {value slice t u} {cs : List Nat} {i c : Nat} (hx : cs[i]? = some c) (hfit : i < 2 ^ 60) (hs : subscripted slice false (.str (S cs) t) (.int i u) = operate [.str (S cs) t, .int i u] (getItem (.str (S cs) t) (.int i u))) (h : ∀ t, P (.str (S [c]) t) vals l) :
    T fm k vals l (subscriptTail value slice (.str (S cs) t) (.int i u)) P := .mk fun A s r H => by
  obtain ⟨hi, e⟩ := List.getElem?_eq_some_iff.mp hx
  have e3 : Txt.charAt (S cs) (i : Int) = some c := by
    unfold Txt.charAt
    rw [S_len]
    have : seqIndex? (i : Int) cs.length = some i := by
      have hn : ¬ (i : Int) < 0 := by omega
      simp [seqIndex?, hn, hi]
    rw [this]
    show cs.toArray[i]? = some c
    simpa using hx
  have e2 : Txt.item (S cs) (i : Int) = S [c] := by
    unfold Txt.item; rw [e3]; rfl
  refine tail_go (ty := "str") (typeIs_str _ _ _) PySem.F.slot_str_getitem.lookup hs (SB.getItem (by unfold fitsSsize; simp; omega) (by rw [e3]; rfl) ?_)
  rw [e2]
  exact ⟨vals, l, H.toks _, h _⟩
/-! lists -/
theorem T_add_lists {a b vs ws n m} (ha : (a, listOf (List.toArray vs) n) ∈ l) (hb : (b, listOf (List.toArray ws) m) ∈ l) (hsz : vs.length + ws.length ≤ sizeLine) (h : ∀ D, P (.ref D) vals ((D, listOf (vs ++ ws).toArray 0) :: l)) :
    T fm k vals l (binaryOp .Add (.ref a) (.ref b)) P := .mk fun A s r H =>
  add_lists H.h.fr H.h.news ⟨_, H.at ha, rfl, n, rfl⟩ ⟨_, H.at hb, rfl, m, rfl⟩ (fun h' F' N' => ⟨vals, _, H.frN F' N' (by
    rw [List.map_cons]
    refine List.nodup_cons.mpr ⟨fun e => ?_, H.h.nd⟩
    obtain ⟨p, hp, q⟩ := List.mem_map.mp e
    exact Nat.lt_irrefl _ (q ▸ Heap.lt_size (H.h.led p hp).1)), h _⟩) hsz
theorem T_extend {a b n m} {vs ws : List Value} {l' : Nat → Led} (U : ∀ e, Upd1 a (listOf vs.toArray n) (listOf (vs ++ ws).toArray e) l (l' e)) (hb : (b, listOf ws.toArray m) ∈ l) (hsz : vs.length + ws.length ≤ sizeLine) (h : ∀ e, P .none vals (l' e)) :
    T fm k vals l (call (.builtin "list.extend") [.ref a, .ref b]) P := .mk fun A s r H => by
  have hsz' : vs.toArray.size + ws.toArray.size ≤ sizeLine := by simpa using hsz
  refine call_meets PySem.F.slot_list_extend ⟨_, H.at (U 0).mem, rfl⟩ PySem.F.entry_list_extend (PySem.F.args_list_extend_2 _ _) (AutoSeq1.list_extend_list_list_0 a vs.toArray n b ws.toArray m (extend_door hsz') (Nat.le_trans (Nat.le_add_right _ _) hsz')) ⟨H.at (U 0).mem, H.at hb, ?_⟩
  have e : vs.toArray ++ ws.toArray = (vs ++ ws).toArray := by simp
  have ho' := Heap.get?_update_self (h := s.heap) (a := a) (Obj.mapSeq fun x => x ++ ws.toArray) (H.at (U 0).mem) (by rw [mapSeq_app]; rfl)
  rw [mapSeq_app, e] at ho'
  exact ⟨vals, _, H.upd (U _) (Heap.SameBut.update ..) ho', h _⟩
/-! range -/
abbrev rangeO (a b c : Int) (t u v : Tok) : Obj := { cls := .type "range", data := .fields #[.int a t, .int b u, .int c v] }
abbrev rangeIt (x left step : Int) : Obj := { cls := .type "range_iterator", data := .fields #[rawInt x, rawInt left, rawInt step] }
theorem T_range3 {a b c t u v} (hc : c ≠ 0) (hp : Builtin.divisionGoesByPylong (b - a) c = false) (h : ∀ D, P (.ref D) vals ((D, rangeO a b c t u v) :: l)) : T fm k vals l (call (.type "range") [.int a t, .int b u, .int c v]) P := .mk fun A s r H =>
  call_range_3 hc ⟨vals, _, H.push _, h _⟩ (.inl hp)
theorem T_iter_range {D a b c t u v} (hD : (D, rangeO a b c t u v) ∈ l) (hsm : Builtin.Range.small a b c = true) (h : ∀ it, P (.ref it) vals ((it, rangeIt a (Builtin.Range.rangeSize a b c) c) :: l)) : T fm k vals l (pyIter (.ref D)) P := .mk fun A s r H =>
  wpAny_pyIter_range (H.at hD) hsm ⟨vals, _, H.push _, h _⟩
theorem T_next_range {it x left step l'} {P : Po (Option Value)} (U : Upd1 it (rangeIt x left step) (rangeIt (x + step) (left - 1) step) l l') (hl : 0 < left) (h : ∀ t, P (some (.int x t)) vals l') : T fm k vals l (pyNext (.ref it)) P := .mk fun A s r H =>
  wpAny_pyNext_range_item (H.at U.mem) hl fun h' ho hs => ⟨vals, l', H.upd U hs ho, h _⟩
theorem T_end_range {it x left step l'} {P : Po (Option Value)} (U : Pick (it, rangeIt x left step) l l') (hl : left ≤ 0) (h : P none vals l') : T fm k vals l (pyNext (.ref it)) P := .mk fun A s r H =>
  wpAny_pyNext_range_end r.handled (H.at U.mem) hl fun h' hx => ⟨vals, l', H.forget U hx, h⟩
/-! the signs of a text -/
def StrIt (o : Obj) (cs : List Nat) (t : Tok) (i : Nat) : Prop := o.cls = .type "str_ascii_iterator" ∧ o.data = .fields #[.str (S cs) t, .int i 0]
theorem T_iter_str {cs t} (ha : ∀ c ∈ cs, c < 128) (h : ∀ it o, StrIt o cs t 0 → P (.ref it) vals ((it, o) :: l)) : T fm k vals l (pyIter (.str (S cs) t)) P := .mk fun A s r H =>
  wpAny_pyIter_ascii (by simpa [S] using ha) ⟨vals, _, H.push _, h _ _ ⟨rfl, rfl⟩⟩
theorem T_iter_striter {it cs t i o} (hi : StrIt o cs t i) (ha : (it, o) ∈ l) (h : P (.ref it) vals l) : T fm k vals l (pyIter (.ref it)) P := .mk fun A s r H =>
  wpAny_pyIter_striter_ascii ⟨o, H.at ha, hi.1, hi.2⟩ ⟨vals, l, H, h⟩
theorem T_next_str {it cs t i c o} {l' : Obj → Led} {P : Po (Option Value)} (hi : StrIt o cs t i) (U : ∀ o', Upd1 it o o' l (l' o')) (hx : cs[i]? = some c) (h : ∀ o' u, StrIt o' cs t (i + 1) → P (some (.str (S [c]) u)) vals (l' o')) :
    T fm k vals l (pyNext (.ref it)) P := .mk fun A s r H =>
  wpAny_pyNext_ascii_item ⟨o, H.at (U o).mem, hi.1, hi.2⟩ (by show cs.toArray[i]? = some c; simpa using hx) fun h' ⟨o', ho, c, d⟩ hs => ⟨vals, l' o', H.upd (U o') hs ho, h o' _ ⟨c, d⟩⟩
theorem T_end_str {it cs t i o l'} {P : Po (Option Value)} (hi : StrIt o cs t i) (U : Pick (it, o) l l') (hx : cs[i]? = none) (h : P none vals l') : T fm k vals l (pyNext (.ref it)) P := .mk fun A s r H =>
  wpAny_pyNext_ascii_end r.handled ⟨o, H.at U.mem, hi.1, hi.2⟩ (by show cs.toArray[i]? = none; simpa using hx) fun h' hx => ⟨vals, l', H.forget U hx, h⟩
/-! calls on texts and numbers -/
theorem T_len_str {cs t} (hsz : cs.length ≤ sizeLine) (h : ∀ t, P (.int cs.length t) vals l) : T fm k vals l (call (.builtin "len") [.str (S cs) t]) P := .mk fun A s r H =>
  PySem.P.len_str (by rw [S_len]; have := fit63 hsz; omega) ⟨vals, l, H.toks _, by rw [S_len]; exact h _⟩
theorem T_ord {c : Nat} {t} (h : ∀ t, P (.int c t) vals l) : T fm k vals l (call (.builtin "ord") [.str (S [c]) t]) P := .mk fun A s r H => PySem.P.ord_of_char ⟨vals, l, H.toks _, h _⟩
theorem T_chr {c : Nat} {t} (hc : c < 256) (h : ∀ t, P (.str (S [c]) t) vals l) : T fm k vals l (call (.builtin "chr") [.int c t]) P := .mk fun A s r H =>
  PySem.P.chr_of_int (by simp; omega) ⟨vals, l, H.toks _, h _⟩
theorem T_min {a b t u} (h : ∀ t, P (.int (if b < a then b else a) t) vals l) : T fm k vals l (call (.builtin "min") [.int a t, .int b u]) P := .mk fun A s r H =>
  min_two_ints r.handled fun h' tk hk => ⟨vals, l, H.keeps hk, by
    by_cases e : b < a
    · rw [if_pos e]; have := h u; rw [if_pos e] at this; exact this
    · rw [if_neg e]; have := h t; rw [if_neg e] at this; exact this⟩
theorem T_neb {b c t u} (h : P (.bool (b.toList != c.toList)) vals l) : T fm k vals l (compareOp .NotEq (.bytes b t) (.bytes c u)) P := .mk fun A s r H => ne_bytes ⟨vals, l, H, h⟩
theorem T_join {a its n ys t} (ha : (a, listOf its n) ∈ l) (hi : StrsAre its.toList ys) (hw : (ys.map (·.length)).sum + ys.length ≤ 1048576) (h : ∀ t, P (.str (Txt.join (S []) ys) t) vals l) : T fm k vals l (call (.builtin "str.join") [.str (S []) t, .ref a]) P := .mk fun A s r H =>
  join_listW ⟨_, H.at ha, rfl, n, rfl⟩ hi (by decide) hw fun t' k' => ⟨vals, l, H.toks _, h _⟩
theorem T_muls {x t n u} (hok : MulOk x n) (h : ∀ t, P (.str (Txt.mul x n) t) vals l) : T fm k vals l (binaryOp .Mult (.str x t) (.int n u)) P := .mk fun A s r H => SB.mul hok fun t' k' => ⟨vals, l, H.toks _, h _⟩
theorem T_count {x t y u} (h : ∀ t, P (.int (Txt.count x y) t) vals l) : T fm k vals l (call (.builtin "str.count") [.str x t, .str y u]) P := .mk fun A s r H => SC.count ⟨vals, l, H.toks _, h _⟩
/-! among texts -/
theorem sx_any {vs : List Value} {ys : List Str} (h : StrsAre vs ys) (x : Str) : (vs.any fun v => match v with | .str y _ => decide (y = x) | _ => false) = decide (x ∈ ys) := by
  induction h with
  | nil => rfl
  | cons y t _ ih =>
    rw [List.any_cons, ih]
    by_cases e : y = x
    · subst e; simp
    · have : x ≠ y := fun q => e q.symm
      simp [e, this]
theorem sx_is {vs : List Value} {ys : List Str} (h : StrsAre vs ys) : ∀ v ∈ vs, ∃ y t, v = .str y t := by
  induction h with
  | nil => intro v hv; cases hv
  | cons y t _ ih =>
    intro v hv
    rcases List.mem_cons.mp hv with rfl | hv
    · exact ⟨y, t, rfl⟩
    · exact ih v hv
theorem eqAt_str {A s x t y u} : EqAt A s (.str y t) (.str x u) (decide (y = x)) := by
  have := (PySem.SeqRoads2.EqGives.str y x t u).at A s
  rwa [eqL] at this
theorem T_in_strs {a vs n ys x u} (ha : (a, listOf (List.toArray vs) n) ∈ l) (hi : StrsAre vs ys) (h : P (.bool (decide (x ∈ ys))) vals l) : T fm k vals l (compareOp .In (.str x u) (.ref a)) P := .mk fun A s r H => by
  refine in_listAt (fun v => match v with | .str y _ => decide (y = x) | _ => false) ⟨_, H.at ha, rfl, n, rfl⟩ (fun y hy => ?_) ⟨vals, l, H, ?_⟩
  · obtain ⟨y, t, rfl⟩ := sx_is hi y (by simpa using hy)
    exact eqAt_str
  · rw [List.any_toArray, sx_any hi]; exact h
theorem T_notin_strs {a vs n ys x u} (ha : (a, listOf (List.toArray vs) n) ∈ l) (hi : StrsAre vs ys) (h : P (.bool (!decide (x ∈ ys))) vals l) : T fm k vals l (compareOp .NotIn (.str x u) (.ref a)) P := .mk fun A s r H => by
  refine notIn_listAt (fun v => match v with | .str y _ => decide (y = x) | _ => false) ⟨_, H.at ha, rfl, n, rfl⟩ (fun y hy => ?_) ⟨vals, l, H, ?_⟩
  · obtain ⟨y, t, rfl⟩ := sx_is hi y (by simpa using hy)
    exact eqAt_str
  · rw [List.any_toArray, sx_any hi]; exact h
theorem sx_len {vs : List Value} {ys : List Str} (h : StrsAre vs ys) : vs.length = ys.length := by induction h with | nil => rfl | cons _ _ _ ih => simp [ih]
theorem sx_get {vs : List Value} {ys : List Str} (h : StrsAre vs ys) : ∀ (i : Nat) (y : Str), ys[i]? = some y → ∃ t, vs[i]? = some (.str y t) := by
  induction h with
  | nil => intro i y e; simp at e
  | cons y t _ ih =>
    intro i z e
    cases i with
    | zero => simp at e; subst e; exact ⟨t, rfl⟩
    | succ i => simpa using ih i z (by simpa using e)
theorem sx_app {a b ns ms} (h : StrsAre a ns) (h' : StrsAre b ms) : StrsAre (a ++ b) (ns ++ ms) := by
  induction h with
  | nil => exact h'
  | cons n t _ ih => exact .cons n t ih
theorem sx_drop {a ns} (h : StrsAre a ns) : ∀ n, StrsAre (a.drop n) (ns.drop n) := by
  induction h with
  | nil => intro n; simp; exact .nil
  | cons y t h' ih => intro n; cases n with
    | zero => exact .cons y t h'
    | succ n => exact ih n
theorem sx_take {a ns} (h : StrsAre a ns) : ∀ n, StrsAre (a.take n) (ns.take n) := by
  induction h with
  | nil => intro n; simp; exact .nil
  | cons y t h' ih => intro n; cases n with
    | zero => exact .nil
    | succ n => exact .cons y t (ih n)
theorem T_eq_strs {a b vs ws n m ys zs} (ha : (a, listOf (List.toArray vs) n) ∈ l) (hb : (b, listOf (List.toArray ws) m) ∈ l) (hi : StrsAre vs ys) (hj : StrsAre ws zs) (h : P (.bool (decide (ys = zs))) vals l) : T fm k vals l (compareOp .Eq (.ref a) (.ref b)) P := .mk fun A s r H => by
  by_cases e : vs.length = ws.length
  · refine eq_listAt (e := fun j => decide (ys[j]? = zs[j]?)) ⟨_, H.at ha, rfl, n, rfl⟩ ⟨_, H.at hb, rfl, m, rfl⟩ (by simpa using e) r.u (fun j h1 h2 => ?_) ⟨vals, l, H, ?_⟩
    · have h1' : j < ys.length := by rw [← sx_len hi]; simpa using h1
      have h2' : j < zs.length := by rw [← sx_len hj]; simpa using h2
      obtain ⟨t, e1⟩ := sx_get hi j _ (List.getElem?_eq_getElem h1')
      obtain ⟨u, e2⟩ := sx_get hj j _ (List.getElem?_eq_getElem h2')
      have f1 : vs.toArray[j] = .str ys[j] t := by
        obtain ⟨_, q⟩ := List.getElem?_eq_some_iff.mp e1; simpa using q
      have f2 : ws.toArray[j] = .str zs[j] u := by
        obtain ⟨_, q⟩ := List.getElem?_eq_some_iff.mp e2; simpa using q
      rw [f1, f2, List.getElem?_eq_getElem h1', List.getElem?_eq_getElem h2']
      have : decide (some ys[j] = some zs[j]) = decide (ys[j] = zs[j]) := by simp
      rw [this]
      exact eqAt_str
    · have : (List.range vs.toArray.size).all (fun j => decide (ys[j]? = zs[j]?)) = decide (ys = zs) := by
        rw [Bool.eq_iff_iff, List.all_eq_true]
        simp only [List.mem_range, decide_eq_true_eq]
        constructor
        · intro q
          apply List.ext_getElem?
          intro j
          by_cases hj' : j < vs.toArray.size
          · exact q j hj'
          · have l1 : ys.length ≤ j := by rw [← sx_len hi]; simpa using hj'
            have l2 : zs.length ≤ j := by rw [← sx_len hj, ← e]; simpa using hj'
            rw [List.getElem?_eq_none l1, List.getElem?_eq_none l2]
        · intro q j _; rw [q]
      rw [this]; exact h
  · refine eq_list_lengthsAt ⟨_, H.at ha, rfl, n, rfl⟩ ⟨_, H.at hb, rfl, m, rfl⟩ (by simpa using e) r.u ⟨vals, l, H, ?_⟩
    have : decide (ys = zs) = false := decide_eq_false fun q => e (by rw [sx_len hi, sx_len hj, q])
    rw [← this]; exact h
/-! unpacking -/
theorem T_holding {xs : List Value} {m : Sem α} {P : Po α} (h : T fm k vals l m P) : T fm k vals l (holding xs m) P := .mk fun A s r H => wpAny_holding (h.go A s r H)
theorem T_draw_list {it a n} {its : Array Value} (ha : (a, listOf its n) ∈ l) : ∀ (m i : Nat) (o : Obj) (P : Po (List Value)), ListIt o a i → i + m ≤ its.size → (∀ o', ListIt o' a (i + m) → P ((its.toList.drop i).take m) vals ((it, o') :: l)) →
    T fm k vals ((it, o) :: l) (draw (.ref it) m) P
  | 0, i, o, P, hi, _, h => .mk fun A s r H => wpAny_pure ⟨vals, _, H, by simpa using h o hi⟩
  | m + 1, i, o, P, hi, hle, h => by
    have hlt : i < its.size := by omega
    show T fm k vals _ (pyNext (.ref it) >>= _) P
    refine T_bind (T_next_list hi (fun o' => .head) (List.mem_cons_of_mem _ ha) (Array.getElem?_eq_getElem hlt) fun o' hi' => ?_)
    refine T_bind (T_holding (T_draw_list ha m (i + 1) o' (fun x v l' => T fm k v l' (pure (its[i] :: x)) P) hi' (by omega) (fun o'' h'' => ?_)))
    refine T_pure ?_
    have hd : its.toList.drop i = its[i] :: its.toList.drop (i + 1) := by simp [List.drop_eq_getElem_cons, hlt]
    have := h o'' (by rw [show i + (m + 1) = i + 1 + m by omega]; exact h'')
    rw [hd, List.take_succ_cons] at this
    exact this
theorem T_unpack_list {elts kx pos a n} {vs : List Value} {P : Po Unit} (ha : (a, listOf vs.toArray n) ∈ l) (hn : (assignEach elts fm.env).length = vs.length) (hstar : (assignEach elts fm.env).findIdx? (·.1) = none)
    (h : T fm k vals l (assignInOrder ((assignEach elts fm.env).map (·.2)) vs) P) : T fm k vals l (assign (.Tuple elts kx pos) fm.env (.ref a)) P := by
  rw [assign_Tuple]
  refine T_bind (.mk fun A s r H => wpAny_standAt ⟨vals, l, H, ?_⟩)
  unfold unpack
  rw [hn, hstar]
  have key : T fm k vals l (unpackItems (.ref a) vs.length none) (fun x v l' => T fm k v l' (assignInOrder ((assignEach elts fm.env).map (·.2)) x) P) := by
    have h0 : T fm k vals l (notIterableAtAll (.ref a)) (fun b v l' => b = false ∧ v = vals ∧ l' = l) := .mk fun A s r H => by
      unfold notIterableAtAll
      exact wpAny_bind (wpAny_specialOf ⟨_, H.at ha, rfl⟩ slot_list_iter.lookup (wpAny_pure ⟨vals, l, H, rfl, rfl, rfl⟩))
    unfold unpackItems
    refine T_bind (T_mono h0 fun b v l' hb => ?_)
    obtain ⟨rfl, rfl, rfl⟩ := hb
    simp only [Bool.false_eq_true, if_false]
    refine T_bind (T_holding (T_iter_list (k := k) ha (P := fun it v l' => T fm k v l' _ _) (fun it o hi => ?_)))
    refine T_bind (T_holding (T_draw_list (k := k) ha vs.length 0 o (fun x v l' => T fm k v l' _ _) hi (by simp) (fun o' hi' => ?_)))
    have e1 : List.take vs.length (List.drop 0 vs.toArray.toList) = vs := by simp
    rw [e1, if_neg (by simp)]
    refine T_bind (T_holding (T_end_list (k := k) hi' .head (List.mem_cons_of_mem _ ha) (by simp) (P := fun x v l' => T fm k v l' _ _) ?_))
    simp only [Option.isSome_none, Bool.false_eq_true, if_false]
    exact T_pure h
  exact T_bind (T_holding (key))
theorem T_asg_nil {P : Po Unit} (h : P () vals l) : T fm k vals l (assignInOrder ((assignEach [] fm.env).map (·.2)) []) P := T_pure h
theorem T_asg_cons {e es x xs} {P : Po Unit} (he : assignEach (e :: es) fm.env = (false, assign e fm.env) :: assignEach es fm.env) (h : T fm k vals l (assign e fm.env x) fun _ v l => T fm k v l (assignInOrder ((assignEach es fm.env).map (·.2)) xs) P) :
    T fm k vals l (assignInOrder ((assignEach (e :: es) fm.env).map (·.2)) (x :: xs)) P := by
  rw [he]
  show T fm k vals l (holding xs (assign e fm.env x) >>= fun _ => assignInOrder _ xs) P
  exact T_bind (T_holding h)
theorem T_AssignT {elts kx tpos value pos} {P : Po Flow} (hs : swapsWithSole [.Tuple elts kx tpos] value pos.line fm.env = pure false) (hw : swappedStores [.Tuple elts kx tpos] value fm.env = pure none)
    (h : T fm k vals l (eval value fm.env) fun x v l => T fm k v l (assign (.Tuple elts kx tpos) fm.env x) fun _ v l => P .next v l) : T fm k vals l (exec (.Assign [.Tuple elts kx tpos] value pos) fm.env) P := .mk fun A s r H =>
  Assign_Tuple (T_in h r H fun x _ _ s₁ H₁ h₁ => h₁.go A s₁ r H₁) hs hw
/-! a place of a list -/
theorem T_AugS {o i pos' op value pos} {P : Po Flow} (h : T fm k vals l (eval o fm.env) fun ov v l => T fm k v l (eval i fm.env) fun iv v l => T fm k v l (getItem ov iv) fun old v l => T fm k v l (eval value fm.env) fun w v l =>
      T fm k v l (inplaceOp op old w) fun new v l => T fm k v l (setItem ov iv new) fun _ v l => P .next v l)
    (ha : ∀ ov iv new, augStore i ov iv new = (do holding [new, ov, iv] (setItem ov iv new); release [new, ov, iv] []; pure .next)) :
    T fm k vals l (exec (.AugAssign (.Subscript o i pos') op value pos) fm.env) P := .mk fun A s r H =>
  wpAny_AugAssign_Subscript_any (T_in h r H fun _ _ _ s₁ H₁ h₁ => T_in h₁ r H₁ fun _ _ _ s₂ H₂ h₂ => T_in h₂ r H₂ fun _ _ _ s₃ H₃ h₃ => T_in h₃ r H₃ fun _ _ _ s₄ H₄ h₄ => T_in h₄ r H₄ fun _ _ _ s₅ H₅ h₅ =>
    T_in h₅ r H₅ fun _ v l s₆ H₆ h₆ => ⟨v, l, H₆, h₆⟩) ha
theorem T_get_last {a n x u} {vs : List Value} (ha : (a, listOf (vs ++ [x]).toArray n) ∈ l) (h : P x vals l) : T fm k vals l (getItem (.ref a) (.int (-1) u)) P := .mk fun A s r H =>
  wpAny_getItem_list_neg ⟨_, H.at ha, rfl, n, rfl⟩ (by decide) (by simp; omega) (by decide) (by simp; rw [show (-1 + ((vs.length : Int) + 1)).toNat = vs.length by omega]; simp) ⟨vals, l, H, h⟩
theorem T_item_last {value slice a n x u} {vs : List Value} (ha : (a, listOf (vs ++ [x]).toArray n) ∈ l) (hs : subscripted slice false (.ref a) (.int (-1) u) = operate [.ref a, .int (-1) u] (getItem (.ref a) (.int (-1) u))) (h : P x vals l) :
    T fm k vals l (subscriptTail value slice (.ref a) (.int (-1) u)) P := .mk fun A s r H =>
  tail_go (ty := "list") ⟨_, H.at ha, rfl⟩ list_getitem_lookup hs ((T_get_last (k := k) ha h).go A s r H)
theorem T_set_last {a n x y u} {vs : List Value} {l' : Nat → Led} {P : Po Unit} (U : ∀ e, Upd1 a (listOf (vs ++ [x]).toArray n) (listOf (vs ++ [y]).toArray e) l (l' e)) (hz : vs.length < 1000000) (h : ∀ e, P () vals (l' e)) :
    T fm k vals l (setItem (.ref a) (.int (-1) u) y) P := .mk fun A s r H => by
  have ho := H.at (U 0).mem
  have hT : s.TypeIs (.ref a) "list" := ⟨_, ho, rfl⟩
  unfold setItem
  try with_reducible refine wpAny_holding ?_
  first | refine wpAny_bind (wpAny_pure ?_) | skip
  refine wpAny_bind (wpAny_sequenceKey hT (by decide) ?_)
  refine wpAny_bind (wpAny_callSpecial?_slot (name := Str.ofString "__setitem__") hT PySem.slot_list_setitem
    (wpAny_call_entry PySem.slot_list_setitem hT PySem.entry_list_setitem ?_ (PySem.args_list_setitem _ _ _)))
  show wpAny _ _ (Builtin.List.listSubscript? (.int (-1) u) >>= _) _ _ s
  refine wpAny_bind (wpAny_listSubscript_int (fitsIndex_neg (by decide) (by decide)) ?_)
  have hidx : seqIndex? (-1) (vs ++ [x]).toArray.size = some vs.length := by
    rw [PySem.seqIndex_neg (by decide) (by simp; omega)]; congr 1; simp; omega
  show wpAny _ _ ((Builtin.List.listItems (.ref a) >>= fun xs => pure ((seqIndex? (Int.negSucc 0) xs.size).bind fun i => xs[i]?.map (i, ·))) >>= _) _ _ s
  refine wpAny_bind (wpAny_bind ?_)
  show wpAny _ _ (seqItems? (.ref a) >>= _) _ _ s
  refine wpAny_bind (wpAny_seqItems ho rfl (wpAny_pure (wpAny_pure ?_)))
  rw [show (Int.negSucc 0) = (-1 : Int) from rfl, hidx]
  have hx : (vs ++ [x]).toArray[vs.length]? = some x := by simp
  simp only [Option.bind_some, hx, Option.map_some]
  show wpAny _ _ (setSeqItemAt a vs.length y >>= _) _ _ s
  refine wpAny_bind (wpAny_setSeqItemAt ho rfl ?_)
  have hset : (vs ++ [x]).toArray.setIfInBounds vs.length y = (vs ++ [y]).toArray := by simp
  have ho' := Heap.get?_update_self (h := s.heap) (a := a) (Obj.mapSeq fun z => z.setIfInBounds vs.length y) ho rfl
  have e3 : Obj.mapSeq (fun z => z.setIfInBounds vs.length y) (listOf (vs ++ [x]).toArray n) = listOf (vs ++ [y]).toArray (if ((vs ++ [x]).toArray.setIfInBounds vs.length y).size == (vs ++ [x]).toArray.size then n else n + 1) := by
    rw [← hset]; rfl
  rw [e3] at ho'
  have fin := (⟨vals, _, H.upd (U _) (Heap.SameBut.update ..) ho', h _⟩ : ∃ vals' l'', St fm vals' l'' { s with heap := s.heap.update a (Obj.mapSeq fun z => z.setIfInBounds vs.length y), toks := s.toks } ∧ P () vals' l'')
  first
    | exact wpAny_bind (wpAny_pure (wpAny_pure ⟨.none, rfl, wpAny_pure fin⟩))
    | exact wpAny_pure ⟨.none, rfl, wpAny_pure fin⟩
theorem T_isinstance {x : Value} {ty : String} (hx : ∀ s : Shared, s.TypeIs x ty) (hty : typeOf (.type ty) = pure (.type "type")) (hsub : isSubtype (.type ty) (.type ty) = pure true) (h : P (.bool true) vals l) :
    T fm k vals l (call (.builtin "isinstance") [x, .type ty]) P := .mk fun A s r H =>
  call_function_meets PySem.F.kind_isinstance PySem.F.plain_isinstance PySem.F.entry_isinstance (PySem.F.args_isinstance_2 _ _) (isinstance_true (Tx := ty) hty hsub) ⟨hx s, vals, l, H, h⟩
end
end
section
open PySem.MeetsSeq PySem.SeqAt
/-! comprehensions with one name, whole -/
section
variable {G : Gr} {Gs : List (Str × Value)} {Cs : List (Str × Addr)} {x : Str} {fm : Fm G [x] Gs Cs} {k : Nat} {L : Addr} {oL : Obj} {rest : Led}
theorem C_comp1 {tpos elt iter scope pos it acc oi} {P : Po Flow} (I : Nat → Obj → Prop) (n : Nat) (V : Nat → Value → Prop) (J : Nat → List Value → Prop)
    (hsz : n ≤ 1048576) (hI : I 0 oi) (hJ : J 0 [])
    (hnt : ∀ v, letOwnedTupleGo (.Name x tpos) (.ref it) v = pure ())
    (hself : T fm k [none] ((acc, listOf #[] 0) :: (L, oL) :: (it, oi) :: rest) (pyIter (.ref it)) fun it' v l' => it' = .ref it ∧ v = [none] ∧ l' = (acc, listOf #[] 0) :: (L, oL) :: (it, oi) :: rest)
    (hnext : ∀ i o u ys e (Pn : Po (Option Value)), i < n → I i o → (∀ o' v, I (i + 1) o' → V i v → Pn (some v) [u] ((acc, listOf (List.toArray ys) e) :: (L, oL) :: (it, o') :: rest)) →
      T fm k [u] ((acc, listOf (List.toArray ys) e) :: (L, oL) :: (it, o) :: rest) (pyNext (.ref it)) Pn)
    (hend : ∀ o u ys e (Pn : Po (Option Value)), I n o → Pn none [u] ((acc, listOf (List.toArray ys) e) :: (L, oL) :: rest) →
      T fm k [u] ((acc, listOf (List.toArray ys) e) :: (L, oL) :: (it, o) :: rest) (pyNext (.ref it)) Pn)
    (hstep : ∀ i v o ys e, i < n → V i v → I (i + 1) o → J i ys → T fm k [some v] ((acc, listOf (List.toArray ys) e) :: (L, oL) :: (it, o) :: rest) (eval elt fm.env)
      fun y vals' l' => J (i + 1) (ys ++ [y]) ∧ vals' = [some v] ∧ Sbl ((acc, listOf (List.toArray ys) e) :: (L, oL) :: (it, o) :: rest) l')
    (hfin : ∀ u ys e, ys.length = n → J n ys → P .next [u] ((acc, listOf (List.toArray ys) e) :: (L, oL) :: rest)) :
    C fm k [none] ((acc, listOf #[] 0) :: (L, oL) :: (it, oi) :: rest) (.compStart (.ListComp elt [⟨.Name x tpos, iter, [], 0⟩] scope pos) 0 (.ref it) (.ref acc) fm.env) P := by
  refine C_cstart ?_ hself
  have key : ∀ (m i : Nat) (o : Obj) (u : Option Value) (ys : List Value) (e : Nat), i + m = n → I i o → J i ys → ys.length = i →
      C fm k [u] ((acc, listOf ys.toArray e) :: (L, oL) :: (it, o) :: rest) (.compLoop (.ListComp elt [⟨.Name x tpos, iter, [], 0⟩] scope pos) 0 (.ref it) (.ref acc) fm.env) P := by
    intro m
    induction m with
    | zero =>
      intro i o u ys e him hi hj hl
      have : i = n := by omega
      subst this
      exact C_comp (hend o u ys e _ hi (Ck_none (hfin u ys e hl hj)))
    | succ m ih =>
      intro i o u ys e him hi hj hl
      refine C_comp (hnext i o u ys e _ (by omega) hi fun o' v hi' hv => Ck_some (hnt v) ?_)
      refine T_assignN .here (T_mono (hstep i v o' ys e (by omega) hv hi' hj) ?_)
      rintro y _ l' ⟨hj', rfl, hs⟩
      refine T_weak hs (T_appendL .head (line20 (by omega)) ?_)
      exact ih (i + 1) o' _ _ _ (by omega) hi' hj' (by simp [hl])
  exact key n 0 oi none [] 0 (by omega) hI hJ rfl
/-- over a list -/
theorem C_compL {tpos elt iter scope pos it acc oi a ne} {vs : List Value} {P : Po Flow} (J : Nat → List Value → Prop) (ha : (a, listOf vs.toArray ne) ∈ rest) (hoi : ListIt oi a 0) (hJ : J 0 []) (hsz : vs.length ≤ 1048576)
    (hnt : ∀ v, letOwnedTupleGo (.Name x tpos) (.ref it) v = pure ())
    (hstep : ∀ i v o ys e, vs[i]? = some v → J i ys → T fm k [some v] ((acc, listOf (List.toArray ys) e) :: (L, oL) :: (it, o) :: rest) (eval elt fm.env)
      fun y vals' l' => J (i + 1) (ys ++ [y]) ∧ vals' = [some v] ∧ Sbl ((acc, listOf (List.toArray ys) e) :: (L, oL) :: (it, o) :: rest) l')
    (hfin : ∀ u ys e, ys.length = vs.length → J vs.length ys → P .next [u] ((acc, listOf (List.toArray ys) e) :: (L, oL) :: rest)) :
    C fm k [none] ((acc, listOf #[] 0) :: (L, oL) :: (it, oi) :: rest) (.compStart (.ListComp elt [⟨.Name x tpos, iter, [], 0⟩] scope pos) 0 (.ref it) (.ref acc) fm.env) P := by
  refine C_comp1 (fun i o => ListIt o a i) vs.length (fun i v => vs[i]? = some v) J hsz hoi hJ hnt ?_ ?_ ?_ ?_ hfin
  · exact T_iter_listiter hoi (.tail _ (.tail _ (.head _))) ⟨rfl, rfl, rfl⟩
  · intro i o u ys e Pn hi ho h
    exact T_next_list ho (fun o' => .tail (.tail .head)) (.tail _ (.tail _ (.tail _ ha))) (x := vs[i]) (by simp [hi]) fun o' ho' => h o' _ ho' (by simp [hi])
  · intro o u ys e Pn ho h
    exact T_end_list ho (.tail (.tail .head)) (.tail _ (.tail _ (.tail _ ha))) (by simp) h
  · intro i v o ys e hi hv ho hj
    exact hstep i v o ys e hv hj
/-- over a text of plain signs -/
theorem C_compS {tpos elt iter scope pos it acc oi t} {cs : List Nat} {P : Po Flow} (J : Nat → List Value → Prop) (hoi : StrIt oi cs t 0) (hJ : J 0 []) (hsz : cs.length ≤ 1048576)
    (hnt : ∀ v, letOwnedTupleGo (.Name x tpos) (.ref it) v = pure ())
    (hstep : ∀ i c u o ys e, cs[i]? = some c → J i ys → T fm k [some (.str (S [c]) u)] ((acc, listOf (List.toArray ys) e) :: (L, oL) :: (it, o) :: rest) (eval elt fm.env)
      fun y vals' l' => J (i + 1) (ys ++ [y]) ∧ vals' = [some (.str (S [c]) u)] ∧ Sbl ((acc, listOf (List.toArray ys) e) :: (L, oL) :: (it, o) :: rest) l')
    (hfin : ∀ u ys e, ys.length = cs.length → J cs.length ys → P .next [u] ((acc, listOf (List.toArray ys) e) :: (L, oL) :: rest)) :
    C fm k [none] ((acc, listOf #[] 0) :: (L, oL) :: (it, oi) :: rest) (.compStart (.ListComp elt [⟨.Name x tpos, iter, [], 0⟩] scope pos) 0 (.ref it) (.ref acc) fm.env) P := by
  refine C_comp1 (fun i o => StrIt o cs t i) cs.length (fun i v => ∃ c u, cs[i]? = some c ∧ v = .str (S [c]) u) J hsz hoi hJ hnt ?_ ?_ ?_ ?_ hfin
  · exact T_iter_striter hoi (.tail _ (.tail _ (.head _))) ⟨rfl, rfl, rfl⟩
  · intro i o u ys e Pn hi ho h
    exact T_next_str ho (fun o' => .tail (.tail .head)) (c := cs[i]) (by simp [hi]) fun o' u' ho' => h o' _ ho' ⟨_, _, by simp [hi], rfl⟩
  · intro o u ys e Pn ho h
    exact T_end_str ho (.tail (.tail .head)) (by simp) h
  · rintro i v o ys e hi ⟨c, u, hc, rfl⟩ ho hj
    exact hstep i c u o ys e hc hj
/-- over bytes -/
theorem C_compB {tpos elt iter scope pos it acc oi t} {b : Array UInt8} {P : Po Flow} (J : Nat → List Value → Prop) (hoi : BytesIt oi b t 0) (hJ : J 0 []) (hsz : b.size ≤ 1048576)
    (hnt : ∀ v, letOwnedTupleGo (.Name x tpos) (.ref it) v = pure ())
    (hstep : ∀ i c u o ys e, b[i]? = some c → J i ys → T fm k [some (.int (c.toNat : Int) u)] ((acc, listOf (List.toArray ys) e) :: (L, oL) :: (it, o) :: rest) (eval elt fm.env)
      fun y vals' l' => J (i + 1) (ys ++ [y]) ∧ vals' = [some (.int (c.toNat : Int) u)] ∧ Sbl ((acc, listOf (List.toArray ys) e) :: (L, oL) :: (it, o) :: rest) l')
    (hfin : ∀ u ys e, ys.length = b.size → J b.size ys → P .next [u] ((acc, listOf (List.toArray ys) e) :: (L, oL) :: rest)) :
    C fm k [none] ((acc, listOf #[] 0) :: (L, oL) :: (it, oi) :: rest) (.compStart (.ListComp elt [⟨.Name x tpos, iter, [], 0⟩] scope pos) 0 (.ref it) (.ref acc) fm.env) P := by
  refine C_comp1 (fun i o => BytesIt o b t i) b.size (fun i v => ∃ c u, b[i]? = some c ∧ v = .int (c.toNat : Int) u) J hsz hoi hJ hnt ?_ ?_ ?_ ?_ hfin
  · exact T_iter_bytesiter hoi (.tail _ (.tail _ (.head _))) ⟨rfl, rfl, rfl⟩
  · intro i o u ys e Pn hi ho h
    exact T_next_bytes ho (fun o' => .tail (.tail .head)) (c := b[i]) (by simp [hi]) fun o' u' ho' => h o' _ ho' ⟨_, _, by simp [hi], rfl⟩
  · intro o u ys e Pn ho h
    exact T_end_bytes ho (.tail (.tail .head)) (by simp) h
  · rintro i v o ys e hi ⟨c, u, hc, rfl⟩ ho hj
    exact hstep i c u o ys e hc hj
end
theorem IntsAre.app {a b ns ms} (h : IntsAre a ns) (h' : IntsAre b ms) : IntsAre (a ++ b) (ns ++ ms) := by
  induction h with
  | nil => exact h'
  | cons n t _ ih => exact .cons n t ih
theorem IntsAre.snoc {a ns n t} (h : IntsAre a ns) : IntsAre (a ++ [.int n t]) (ns ++ [n]) := IntsAre.app h (.cons n t .nil)
theorem IntsAre.get {vs : List Value} {ns : List Int} (h : IntsAre vs ns) : ∀ (i : Nat) (v : Value), vs[i]? = some v → ∃ n t, v = .int n t ∧ ns[i]? = some n := by
  induction h with
  | nil => intro i v e; simp at e
  | cons n t _ ih =>
    intro i v e
    cases i with
    | zero => simp at e; subst e; exact ⟨n, t, rfl, rfl⟩
    | succ i => simpa using ih i v (by simpa using e)
theorem take_snoc {α : Type} {xs : List α} {i : Nat} {v : α} (h : xs[i]? = some v) : xs.take i ++ [v] = xs.take (i + 1) := by
  obtain ⟨hi, e⟩ := List.getElem?_eq_some_iff.mp h
  rw [List.take_add_one, h]; rfl
/-! texts by their signs -/
theorem join_S : ∀ xss : List (List Nat), Txt.join (S []) (xss.map S) = S xss.flatten
  | [] => by show Builtin.Str.glued _ _ = _; rw [StrLaws.glued_eq_join]; rfl
  | [x] => by show Builtin.Str.glued _ _ = _; rw [StrLaws.glued_eq_join]; show S x = _; simp
  | x :: y :: r => by
    have ih := join_S (y :: r)
    show Builtin.Str.glued _ _ = _
    have ih' : Str.join (S []) ((y :: r).map S) = S (y :: r).flatten := by rw [← StrLaws.glued_eq_join]; exact ih
    rw [StrLaws.glued_eq_join]
    show S x ++ S [] ++ Str.join (S []) ((y :: r).map S) = _
    rw [ih', S_app, S_app]; simp
theorem join_S1 (cs : List Nat) : Txt.join (S []) (cs.map fun c => S [c]) = S cs := by
  have := join_S (cs.map fun c => [c])
  rw [List.map_map] at this
  have e : (S ∘ fun c => [c]) = fun c : Nat => S [c] := rfl
  rw [e] at this
  rw [this]; congr 1
  clear this e
  induction cs with
  | nil => rfl
  | cons c cs ih => simp [ih]
theorem mul_S (c n : Nat) : Txt.mul (S [c]) (n : Int) = S (List.replicate n c) := by
  unfold Txt.mul
  by_cases h : (n : Int) < 1
  · have : n = 0 := by omega
    subst this; rfl
  · rw [if_neg h]
    split
    · rename_i h1
      have : n = 1 := by simp [S_len] at h1; omega
      subst this; rfl
    · have : ∀ (m : Nat) (acc : Array Nat), (List.replicate m (S [c]).cps).foldl (· ++ ·) acc = acc ++ (List.replicate m c).toArray := by
        intro m
        induction m with
        | zero => intro acc; simp
        | succ m ih =>
          intro acc
          rw [List.replicate_succ, List.foldl_cons, ih]
          show acc ++ [c].toArray ++ _ = _
          apply Array.ext'
          simp [List.replicate_succ]
      rw [this]
      simp [S]
theorem mulOk_S (c n : Nat) (h : n ≤ 1000) : MulOk (S [c]) (n : Int) := by
  refine ⟨?_, fun h1 _ => ?_, fun _ _ => ?_⟩
  · simp; omega
  · rw [S_len]
    have e : ((2 ^ 63 - 1 : Int) / (n : Int)) ≥ 1 := by
      have : (n : Int) * 1 ≤ 2 ^ 63 - 1 := by omega
      exact (Int.le_ediv_iff_mul_le (by omega)).mpr (by omega)
    simp only [List.length_cons, List.length_nil]; omega
  · rw [S_len]
    unfold Builtin.Str.tooLong
    simp only [List.length_cons, List.length_nil]
    have : sizeLine = 16777216 := by decide
    simp; omega
open StrLaws in
theorem count_S (cs : List Nat) (c : Nat) : Txt.count (S cs) (S [c]) = (cs.count c : Int) := by
  have key : ∀ (m a : Nat) (st : Array Nat × Nat), a + m = cs.length + 1 → st.snd ≤ a → st.fst.size + m < cs.length + 3 →
      (forIn (List.range' a m) st (occBody (S cs) (S [c]) cs.length (cs.length + 1))).run.fst.size = st.fst.size + (cs.drop a).count c := by
    intro m
    induction m with
    | zero =>
      intro a st h1 h2 h3
      rw [List.drop_eq_nil_of_le (by omega)]
      simp
    | succ m ih =>
      intro a st h1 h2 h3
      rw [List.range'_succ, List.forIn_cons]
      have hs := subAt_one (S cs) c a
      rw [S_len, S_cps] at hs
      by_cases hc : cs[a]? = some c
      · have hat := hs.mpr hc
        obtain ⟨hlt, e⟩ := List.getElem?_eq_some_iff.mp hc
        have hb : occBody (S cs) (S [c]) cs.length (cs.length + 1) a st = pure (ForInStep.yield (st.fst.push a, a + 1)) := by
          unfold occBody
          rw [if_pos ⟨⟨⟨by omega, h2⟩, hat.1⟩, hat.2⟩]; rfl
        rw [hb]
        have := ih (a + 1) (st.fst.push a, a + 1) (by omega) (Nat.le_refl _) (by simp; omega)
        simp only [pure_bind]
        rw [this, List.drop_eq_getElem_cons hlt, e]
        simp; omega
      · have hb : occBody (S cs) (S [c]) cs.length (cs.length + 1) a st = pure (ForInStep.yield (st.fst, st.snd)) := by
          unfold occBody
          rw [if_neg (fun q => hc (hs.mp ⟨q.1.2, q.2⟩))]
        rw [hb]
        have := ih (a + 1) (st.fst, st.snd) (by omega) (by show st.snd ≤ a + 1; omega) (by show st.fst.size + m < _; omega)
        simp only [pure_bind]
        rw [this]
        by_cases hlt : a < cs.length
        · rw [List.drop_eq_getElem_cons hlt, List.count_cons, if_neg (by
            intro q; apply hc; rw [List.getElem?_eq_getElem hlt, beq_iff_eq.mp q])]
          rfl
        · rw [List.drop_eq_nil_of_le (by omega), List.drop_eq_nil_of_le (by omega)]
  unfold Txt.count
  rw [S_len, occ_eq]
  have := key (cs.length + 1) 0 (#[], 0) (by omega) (Nat.le_refl _) (by simp)
  simp only [Nat.sub_zero, Array.length_toList]
  rw [this]; simp
end
section
open PySem.MeetsSeq PySem.SeqAt
section
variable {G : Gr} {N : List Str} {Gs : List (Str × Value)} {Cs : List (Str × Addr)} {fm : Fm G N Gs Cs} {k : Nat} {vals : List (Option Value)} {l : Led} {α β : Type} {P : Po Value}
/-! lists that lie in the ground -/
theorem St.baseList {s a its} (H : St fm vals l s) (hb : G.base.IsList a its) : s.heap.IsList a its :=
  let ⟨o, ho, r⟩ := hb; ⟨o, H.h.keep a o ho, r⟩
theorem T_truthy_base {a} {vs : List Value} {P : Po Bool} (hb : G.base.IsList a vs.toArray) (hsz : vs.length ≤ sizeLine) (h : P (!vs.isEmpty) vals l) : T fm k vals l (truthy (.ref a)) P := .mk fun _ _ _ H =>
  wpAny_truthy_list (H.baseList hb) (fit63 (by simpa using hsz)) ⟨vals, l, H.toks _, by simpa using h⟩
theorem T_item_base {value slice a i u x} {vs : List Value} (hb : G.base.IsList a vs.toArray) (h0 : 0 ≤ i) (hfit : i < 2 ^ 63) (hx : vs[i.toNat]? = some x) (hs : subscripted slice false (.ref a) (.int i u) = operate [.ref a, .int i u] (getItem (.ref a) (.int i u))) (h : P x vals l) :
    T fm k vals l (subscriptTail value slice (.ref a) (.int i u)) P := .mk fun A s r H => by
  have hl := H.baseList hb
  obtain ⟨o, ho, hc, _⟩ := id hl
  exact tail_go (ty := "list") ⟨o, ho, hc⟩ list_getitem_lookup hs (wpAny_getItem_list hl h0 hfit (by simpa using hx) ⟨vals, l, H, h⟩)
theorem T_slice_base {value lo' hi' p a sl} {vs : List Value} {vl vu : Value} {lo hi : Option Int} (hb : G.base.IsList a vs.toArray) (hs : (sl, sliceO vl vu) ∈ l) (pl : IsPart vl lo) (pu : IsPart vu hi) (hsz : vs.length ≤ sizeLine)
    (h : ∀ D, P (.ref D) vals ((D, listOf (slc vs lo hi).toArray 0) :: l)) : T fm k vals l (subscriptTail value (.Slice lo' hi' none p) (.ref a) (.ref sl)) P := .mk fun A s r H => by
  have hl := H.baseList hb
  obtain ⟨o, ho, hc, _⟩ := id hl
  refine tail_go (ty := "list") ⟨o, ho, hc⟩ list_getitem_lookup (L := [.ref sl, .ref a]) rfl ?_
  refine wpAny_getItem_list_slice (vs := .none) hl ⟨_, H.at hs, rfl, rfl⟩ pl pu .none (by simp) ?_ (by simpa using hsz)
  rw [slicePick_slc]
  exact ⟨vals, _, H.push _, h _⟩
/-! tuples -/
theorem T_unpack_tup {elts kx pos a} {vs : List Value} {P : Po Unit} (ha : (a, tupOf vs.toArray) ∈ l) (hn : (assignEach elts fm.env).length = vs.length) (hstar : (assignEach elts fm.env).findIdx? (·.1) = none)
    (h : T fm k vals l (assignInOrder ((assignEach elts fm.env).map (·.2)) vs) P) : T fm k vals l (assign (.Tuple elts kx pos) fm.env (.ref a)) P := .mk fun A s r H =>
  assign_Tuple_tuple r.handled ⟨_, H.at ha, rfl, _, rfl⟩ (by simpa using hn) hstar fun h' he => by
    simpa using h.go A _ r (H.extNew (n := s.toks) (get?_size _) he)
theorem T_owned_list {elts kx pos it a i o T'} {P : Po Unit} (hi : ListIt o a i) (ha : (it, o) ∈ l) (h : P () vals l) : T fm k vals l (letOwnedTupleGo (.Tuple elts kx pos) (.ref it) (.ref T')) P := .mk fun A s r H =>
  wpAny_letOwnedTupleGo_listiter ⟨o, H.at ha, hi.1, hi.2⟩ ⟨vals, l, H, h⟩
theorem F_someT {target it body orelse P x} (h : T fm k vals l (letOwnedTupleGo target it x) fun _ v l => T fm k v l (assign target fm.env x) fun _ v l => T fm k v l (execs body fm.env) (Lk fm k (.forLoop target it body orelse fm.env) P)) :
    Fk fm k target it body orelse P (some x) vals l := h
end
end
local macro_rules | `(tactic| walk_at "mem") => `(tactic| with_reducible (repeat (first | exact List.mem_cons_self | apply List.mem_cons_of_mem)))
local macro_rules | `(tactic| walk_at "upd") => `(tactic| with_reducible (intros; repeat (first | exact Upd1.head | apply Upd1.tail)))
local macro_rules | `(tactic| walk_at "pick") => `(tactic| with_reducible (repeat (first | exact Pick.head | apply Pick.tail)))
local macro_rules | `(tactic| walk_at "sub") => `(tactic| with_reducible (repeat (first | exact SubL.nil | apply SubL.cons (by walk_at "pick"))))
local macro_rules | `(tactic| walk_at "sbl") => `(tactic| with_reducible (repeat (first | apply Sbl.pick (by walk_at "pick"; done) | exact Sbl.refl | apply Sbl.drop)))
local macro_rules | `(tactic| walk_at "u") => `(tactic| with_unfolding_all rfl)
local macro_rules | `(tactic| walk_at "sbl2") => `(tactic| (simp only [List.cons_append, List.nil_append]; walk_at "sbl"))
abbrev C1 : Addr := 59
theorem own_lineno (w) : OwnA (Mine.hd.heap_39 w) 59 (Str.ofString "lineno") := ⟨by k_is, by k_is, by k_is⟩
theorem own_instream (w) : OwnA (Mine.hd.heap_39 w) 59 (Str.ofString "instream") := ⟨by k_is, by k_is, by k_is⟩
theorem own_whitespace (w) : OwnA (Mine.hd.heap_39 w) 59 (Str.ofString "whitespace") := ⟨by k_is, by k_is, by k_is⟩
theorem own_pushback (w) : OwnA (Mine.hd.heap_39 w) 59 (Str.ofString "pushback") := ⟨by k_is, by k_is, by k_is⟩
theorem own_read (w) : OwnA (Mine.hd.heap_39 w) 59 (Str.ofString "read") := ⟨by k_is, by k_is, by k_is⟩
theorem set_lineno (w) : SetA (Mine.hd.heap_39 w) 59 (Str.ofString "lineno") := ⟨by k_is, by k_is, by k_is, by k_is⟩
theorem set_instream (w) : SetA (Mine.hd.heap_39 w) 59 (Str.ofString "instream") := ⟨by k_is, by k_is, by k_is, by k_is⟩
theorem set_whitespace (w) : SetA (Mine.hd.heap_39 w) 59 (Str.ofString "whitespace") := ⟨by k_is, by k_is, by k_is, by k_is⟩
theorem set_pushback (w) : SetA (Mine.hd.heap_39 w) 59 (Str.ofString "pushback") := ⟨by k_is, by k_is, by k_is, by k_is⟩
theorem set_read (w) : SetA (Mine.hd.heap_39 w) 59 (Str.ofString "read") := ⟨by k_is, by k_is, by k_is, by k_is⟩
theorem meth_read_char (w) : MethA (Mine.hd.heap_39 w) 59 (Str.ofString "_read_char") 42 := ⟨by k_is, by k_is, by k_is, by k_is, by k_is, by k_is, by decide +kernel⟩
theorem meth_get_token (w) : MethA (Mine.hd.heap_39 w) 59 (Str.ofString "get_token") 49 := ⟨by k_is, by k_is, by k_is, by k_is, by k_is, by k_is, by decide +kernel⟩

abbrev kh (w : World) (x : Str) : Int := PyData.keyHash w.params x
/-- what an object of _netrclex's keeps -/
def md4 (w : World) (t1 t2 t3 t4 : Tok) (n : Int) (t : Tok) (fp : Value) (tw : Tok) (pb : Addr) : List DictEntry :=
  [⟨kh w (Str.ofString "lineno"), .str (Str.ofString "lineno") t1, .int n t⟩, ⟨kh w (Str.ofString "instream"), .str (Str.ofString "instream") t2, fp⟩,
   ⟨kh w (Str.ofString "whitespace"), .str (Str.ofString "whitespace") t3, .str (S [10, 9, 13, 32]) tw⟩, ⟨kh w (Str.ofString "pushback"), .str (Str.ofString "pushback") t4, .ref pb⟩]
/-- a machine of netrc's on a stream, as it lies -/
structure Mc (G : Gr) where
  m : Addr
  dm : Addr
  st : Addr
  ds : Addr
  fn : Addr
  cc : Addr
  cl : Addr
  sg : Addr
  pb : Addr
  t1 : Tok
  t2 : Tok
  t3 : Tok
  t4 : Tok
  tw : Tok
  se : List DictEntry
  sn : Nat
  lam : Obj
  occ : Obj
  ocl : Obj
  fd : FuncData
  hfd : lam.data = .func fd
  read : getL (Str.ofString "read") se = some (some (.ref fn))
  rd : ∀ (items : List Value) (e : Nat) (t : Tok), items.length ≤ 1048576 → Sp G 2 [(fn, lam), (cc, occ), (cl, ocl), (sg, listOf items.toArray e)] (.ref fn) [.int 1 t] [] fun v post =>
    match items with
    | [] => (∃ t, v = .str (S []) t) ∧ post = [(fn, lam), (cc, occ), (cl, ocl), (sg, listOf #[] e)]
    | x :: r => v = x ∧ post = [(fn, lam), (cc, occ), (cl, ocl), (sg, listOf r.toArray (e + 1))]

def Mc.md {G : Gr} (mc : Mc G) (n : Int) (t : Tok) : List DictEntry := md4 G.w mc.t1 mc.t2 mc.t3 mc.t4 n t (.ref mc.st) mc.tw mc.pb
/-- the machine: line n, these signs unread, these words pushed back -/
abbrev mled {G : Gr} (mc : Mc G) (n : Int) (t : Tok) (items : List Value) (e : Nat) (pbs : List Value) (pe : Nat) (tl : Led) : Led :=
  (mc.m, instObj C1 mc.dm) :: (mc.dm, dictOf (mc.md n t) 4) :: (mc.st, instObj C1 mc.ds) :: (mc.ds, dictOf mc.se mc.sn) :: (mc.fn, mc.lam) :: (mc.cc, mc.occ) :: (mc.cl, mc.ocl) :: (mc.sg, listOf items.toArray e) :: (mc.pb, listOf pbs.toArray pe) :: tl

theorem md_lineno {G} (mc : Mc G) (n t) : getL (Str.ofString "lineno") (mc.md n t) = some (some (.int n t)) := rfl
theorem md_instream {G} (mc : Mc G) (n t) : getL (Str.ofString "instream") (mc.md n t) = some (some (.ref mc.st)) := rfl
theorem md_whitespace {G} (mc : Mc G) (n t) : getL (Str.ofString "whitespace") (mc.md n t) = some (some (.str (S [10, 9, 13, 32]) mc.tw)) := rfl
theorem md_pushback {G} (mc : Mc G) (n t) : getL (Str.ofString "pushback") (mc.md n t) = some (some (.ref mc.pb)) := rfl
theorem md_read_char {G} (mc : Mc G) (n t) : getL (Str.ofString "_read_char") (mc.md n t) = some none := rfl
theorem md_get_token {G} (mc : Mc G) (n t) : getL (Str.ofString "get_token") (mc.md n t) = some none := rfl
theorem md_put {G} (mc : Mc G) (n t n' t' key) : (putL (Str.ofString "lineno") (PyData.keyHash G.w.params (Str.ofString "lineno")) key (.int n' t') (mc.md n t), putN (Str.ofString "lineno") (mc.md n t) 4) = (mc.md n' t', 4) := rfl

def Rd {G : Gr} (mc : Mc G) (n : Int) (t : Tok) (items : List Value) (e : Nat) (pbs : List Value) (pe : Nat) (v : Value) (post : Led) : Prop :=
  match items with
  | [] => (∃ t, v = .str (S []) t) ∧ post = mled mc n t [] e pbs pe []
  | x :: r => v = x ∧ ∃ n' t', (∀ c u, x = .str (S [c]) u → n' = if c = 10 then n + 1 else n) ∧ post = mled mc n' t' r (e + 1) pbs pe []

theorem read_char_spec (G : Gr) (hK : G.K = Mine.hd.heap_39 G.w.params) (mc : Mc G) (n : Int) (t : Tok) (items : List Value) (e : Nat) (pbs : List Value) (pe : Nat) (hl : items.length ≤ 1048576) (hs : ∀ x ∈ items, ∃ c u, x = Value.str (S [c]) u) :
    Sp G 3 (mled mc n t items e pbs pe []) (.ref 42) [.ref mc.m] [] (Rd mc n t items e pbs pe) := by
  refine enter (N := [Str.ofString "self", Str.ofString "ch"]) (Gs := []) (binds := [(Str.ofString "self", .ref mc.m)]) (vals := [some (.ref mc.m), none]) (ho := by rw [hK]; k_is) (hcd := by rw [hK]; k_is) (hbind := fun s X => BindsTo.of_eq rfl) [Str.ofString "ch"] (hN := rfl) (hv := rfl) (hnd := by decide) (hloc := by decide +kernel) (hglb := fun p hp => nomatch hp) (hcell := by decide +kernel) (hco := rfl) (hgen := rfl) (hk := rfl) ?_
  intro fm rest
  show T fm 2 _ (mled mc n t items e pbs pe rest) _ _
  (refine T_cons ?_; refine T_Assign (by walk_at "u") ?_; refine T_CallM (by walk_at "u") ?_; refine T_Attr (by walk_at "u") ?_; refine T_local .here ?_)
  refine T_getown (by walk_at "mem") (by walk_at "mem") (hK ▸ own_instream _) (md_instream ..) rfl ?_
  refine T_method_own (by walk_at "mem") (by walk_at "mem") (hK ▸ own_read _) mc.read rfl ?_
  (refine M_mk ?_)
  refine T_f1 mc.hfd (by walk_at "u") (by walk_at "u") ?_
  (refine T_args_cons (by walk_at "u") ?_; refine T_int ?_; intro _; refine T_args_nil ?_)
  refine ⟨by walk_at "mem", ?_⟩
  refine T_call (mc.rd items e _ hl) (by decide) (by walk_at "sub") ?_
  intro v post hv
  cases items with
  | nil =>
    obtain ⟨⟨tv, rfl⟩, rfl⟩ := hv
    simp only [List.cons_append, List.nil_append]
    (refine T_store (.there .here) ?_; refine K_next ?_; refine T_cons ?_; refine T_If ?_; refine T_isTrue_Compare (by walk_at "u") ?_; refine T_local (.there .here) ?_; refine T_str ?_; intro _; refine T_eqs ?_; refine T_truthy_bool ?_)
    refine If2.neg (by decide) ?_
    (refine T_nil ?_; refine K_next ?_; refine T_cons ?_; refine T_Return ?_; refine T_local (.there .here) ?_; refine K_ret ?_)
    exact ⟨mled mc n t [] e pbs pe [], by (simp only [List.cons_append, List.nil_append]; walk_at "sbl"), ⟨tv, rfl⟩, rfl⟩
  | cons x r =>
    obtain ⟨rfl, rfl⟩ := hv
    obtain ⟨c, u, rfl⟩ := hs v List.mem_cons_self
    simp only [List.cons_append, List.nil_append]
    (refine T_store (.there .here) ?_; refine K_next ?_; refine T_cons ?_; refine T_If ?_; refine T_isTrue_Compare (by walk_at "u") ?_; refine T_local (.there .here) ?_; refine T_str ?_; intro _; refine T_eqs ?_; refine T_truthy_bool ?_)
    refine If2.dec (fun hc => ?_) fun hc => ?_
    · have hc' : c = 10 := by
        have e1 : Str.ofString "\n" = S [10] := by decide +kernel
        rw [e1] at hc
        exact List.cons.inj (S_inj hc) |>.1
      (refine T_cons ?_; refine T_AugA ?_; refine T_local .here ?_)
      refine T_getown (by walk_at "mem") (by walk_at "mem") (hK ▸ own_lineno _) (md_lineno ..) rfl ?_
      (refine T_int ?_; intro _; refine T_iadd ?_; intro _)
      refine T_setattr (by walk_at "mem") (hK ▸ set_lineno _) rfl (fun _ => md_put ..) (by walk_at "upd") (fun _ => Nat.le_of_ble_eq_true rfl) ?_
      intro tt
      (refine K_next ?_; refine T_nil ?_; refine K_next ?_; refine T_cons ?_; refine T_Return ?_; refine T_local (.there .here) ?_; refine K_ret ?_)
      exact ⟨mled mc (n + 1) _ r (e + 1) pbs pe [], by (simp only [List.cons_append, List.nil_append]; walk_at "sbl"), rfl, n + 1, _, fun c' u' e' => by
        injection e' with e1 e2; rw [← (List.cons.inj (S_inj e1)).1, if_pos hc'], rfl⟩
    · have hc' : c ≠ 10 := fun q => hc (by rw [q]; decide +kernel)
      (refine T_nil ?_; refine K_next ?_; refine T_cons ?_; refine T_Return ?_; refine T_local (.there .here) ?_; refine K_ret ?_)
      exact ⟨mled mc n t r (e + 1) pbs pe [], by (simp only [List.cons_append, List.nil_append]; walk_at "sbl"), rfl, n, t, fun c' u' e' => by
        injection e' with e1 e2; rw [← (List.cons.inj (S_inj e1)).1, if_neg hc'], rfl⟩

inductive Signs : List Value → List Nat → Prop
  | nil : Signs [] []
  | cons {c u r cs} : Signs r cs → Signs (.str (S [c]) u :: r) (c :: cs)
theorem Signs.len {a b} (h : Signs a b) : a.length = b.length := by
  induction h with
  | nil => rfl
  | cons _ ih => simp [ih]
theorem Signs.snoc {a b c u} (h : Signs a b) : Signs (a ++ [.str (S [c]) u]) (b ++ [c]) := by
  induction h with
  | nil => exact .cons .nil
  | cons _ ih => exact .cons ih
theorem Signs.chars {a b} (h : Signs a b) : ∀ x ∈ a, ∃ c u, x = Value.str (S [c]) u := by
  induction h with
  | nil => intro x hx; cases hx
  | cons _ ih =>
    intro x hx
    rcases List.mem_cons.mp hx with rfl | hx
    · exact ⟨_, _, rfl⟩
    · exact ih x hx

def wsB (c : Nat) : Bool := decide (c ∈ [10, 9, 13, 32])
/-- within quotes: the word, what is left -/
def qRun : List Nat → Str → Str × List Nat
  | [], a => (a, [])
  | [c], a => if c = 34 then (a, []) else if c = 92 then (a, []) else (a ++ S [c], [])
  | c :: d :: r, a => if c = 34 then (a, d :: r) else if c = 92 then qRun r (a ++ S [d]) else qRun (d :: r) (a ++ S [c])
/-- within a bare word -/
def wRun : List Nat → Str → Str × List Nat
  | [], a => (a, [])
  | [c], a => if wsB c then (a, []) else if c = 92 then (a, []) else (a ++ S [c], [])
  | c :: d :: r, a => if wsB c then (a, d :: r) else if c = 92 then wRun r (a ++ S [d]) else wRun (d :: r) (a ++ S [c])
/-- get_token's answer and what is left unread -/
def tokRun : List Nat → Str × List Nat
  | [] => (S [], [])
  | c :: r => if wsB c then tokRun r else if c = 34 then qRun r (S []) else if c = 92 then (match r with | [] => (S [], []) | d :: r' => wRun r' (S [d])) else wRun r (S [c])

theorem tok_ws {c r} (h : wsB c = true) : tokRun (c :: r) = tokRun r := by simp [tokRun, h]
theorem tok_q {r} : tokRun (34 :: r) = qRun r (S []) := by simp [tokRun, show wsB 34 = false by decide]
theorem tok_e {d r} : tokRun (92 :: d :: r) = wRun r (S [d]) := by simp [tokRun, show wsB 92 = false by decide]
theorem tok_e0 : tokRun [92] = (S [], []) := by simp [tokRun, show wsB 92 = false by decide]
theorem tok_w {c r} (h : wsB c = false) (h1 : c ≠ 34) (h2 : c ≠ 92) : tokRun (c :: r) = wRun r (S [c]) := by simp [tokRun, h, h1, h2]
theorem q_q {r a} : qRun (34 :: r) a = (a, r) := by cases r <;> simp [qRun]
theorem q_e {d r a} : qRun (92 :: d :: r) a = qRun r (a ++ S [d]) := by simp [qRun]
theorem q_e0 {a} : qRun [92] a = (a, []) := by simp [qRun]
theorem q_c {c r a} (h1 : c ≠ 34) (h2 : c ≠ 92) : qRun (c :: r) a = qRun r (a ++ S [c]) := by cases r <;> simp [qRun, h1, h2]
theorem w_w {c r a} (h : wsB c = true) : wRun (c :: r) a = (a, r) := by cases r <;> simp [wRun, h]
theorem w_e {d r a} : wRun (92 :: d :: r) a = wRun r (a ++ S [d]) := by simp [wRun, show wsB 92 = false by decide]
theorem w_e0 {a} : wRun [92] a = (a, []) := by simp [wRun, show wsB 92 = false by decide]
theorem w_c {c r a} (h1 : wsB c = false) (h2 : c ≠ 92) : wRun (c :: r) a = wRun r (a ++ S [c]) := by cases r <;> simp [wRun, h1, h2]
theorem line_step {c : Nat} {n n' lines : Int} {cs : List Nat} (hlin : n + ((c :: cs).count 10 : Int) = lines) (hn : n' = if c = 10 then n + 1 else n) : n' + (cs.count 10 : Int) = lines := by
  rw [← hlin, hn, List.count_cons]
  by_cases q : c = 10
  · subst q; simp; omega
  · simp [q]
theorem len_app (x y : Str) : (x ++ y).length = x.length + y.length := by
  rw [← S_of x, ← S_of y, S_app, S_len, S_len, S_len, List.length_append]
theorem app_nil (x : Str) : x ++ S [] = x := by rw [← S_of x, S_app, List.append_nil]
theorem one_inj {a b : Nat} (h : S [a] = S [b]) : a = b := (List.cons.inj (S_inj h)).1
theorem lit34 : Str.ofString "\"" = S [34] := by decide +kernel
theorem lit92 : Str.ofString "\\" = S [92] := by decide +kernel

/-- the machine behind a get_token -/
def Gt {G : Gr} (mc : Mc G) (lines : Int) (res : Str × List Nat) (pe : Nat) (v : Value) (post : Led) : Prop :=
  ∃ u n' t' items' e', v = .str res.1 u ∧ Signs items' res.2 ∧ n' + (res.2.count 10 : Int) = lines ∧ post = mled mc n' t' items' e' [] pe []

theorem glb_iter (G : Gr) (hK : G.K = Mine.hd.heap_39 G.w.params) : Glb G (Str.ofString "iter") (.builtin "iter") := .inr ⟨by rw [hK]; k_is, by boot_by_name, by decide⟩

section
variable {G : Gr} {N : List Str} {Gs : List (Str × Value)} {Cs : List (Str × Addr)} {fm : Fm G N Gs Cs} {k : Nat} {vals : List (Option Value)}
abbrev itl {G : Gr} (mc : Mc G) (it q : Addr) (sn : Value) (rest : Led) : Led := (it, callIt (.ref q) sn false) :: (q, methodObj (.ref 42) (.ref mc.m)) :: rest
/-- the iterator's next sign -/
theorem T_next_sign {mc : Mc G} {n t c u r cs e pbs pe it q t2 sn rest} {P : Po (Option Value)} (hsn : Value.str (S []) t2 = sn) (hK : G.K = Mine.hd.heap_39 G.w.params) (hk : 5 ≤ k) (h : Signs r cs) (hl : r.length ≤ 1000000)
    (hP : ∀ n' t', n' = (if c = 10 then n + 1 else n) → P (some (.str (S [c]) u)) vals (mled mc n' t' r (e + 1) pbs pe (itl mc it q sn rest))) :
    T fm k vals (mled mc n t (.str (S [c]) u :: r) e pbs pe (itl mc it q sn rest)) (pyNext (.ref it)) P := by
  subst hsn
  refine T_next_callit (by rw [hK]; k_is) (read_char_spec G hK mc n t (.str (S [c]) u :: r) e pbs pe (by simp only [List.length_cons]; omega) (Signs.cons h).chars) (by omega) (rest := itl mc it q (.str (S []) t2) rest) (by walk_at "sub") (by walk_at "mem") (by walk_at "upd") ?_
  intro v post hv
  obtain ⟨rfl, n', t', hn, rfl⟩ := hv
  exact ⟨_, _, rfl, fun _ => hP n' t' (hn _ _ rfl), fun h => by cases S_inj h⟩
theorem T_next_no {mc : Mc G} {n t e pbs pe it q t2 sn rest} {P : Po (Option Value)} (hsn : Value.str (S []) t2 = sn) (hK : G.K = Mine.hd.heap_39 G.w.params) (hk : 5 ≤ k)
    (hP : P none vals (mled mc n t [] e pbs pe ((it, goneIt) :: (q, methodObj (.ref 42) (.ref mc.m)) :: rest))) :
    T fm k vals (mled mc n t [] e pbs pe (itl mc it q sn rest)) (pyNext (.ref it)) P := by
  subst hsn
  refine T_next_callit (by rw [hK]; k_is) (read_char_spec G hK mc n t [] e pbs pe (by decide) (by intro x hx; cases hx)) (by omega) (rest := itl mc it q (.str (S []) t2) rest) (by walk_at "sub") (by walk_at "mem") (by walk_at "upd") ?_
  intro v post hv
  obtain ⟨⟨tv, rfl⟩, rfl⟩ := hv
  exact ⟨_, _, rfl, fun h => absurd rfl h, fun _ => hP⟩
/-- self._read_char() itself -/
theorem T_read_sign {mc : Mc G} {n t c u r cs e pbs pe rest} {P : Po Value} (hK : G.K = Mine.hd.heap_39 G.w.params) (hk : 3 ≤ k) (h : Signs r cs) (hl : r.length ≤ 1000000)
    (hP : ∀ n' t', n' = (if c = 10 then n + 1 else n) → P (.str (S [c]) u) vals (mled mc n' t' r (e + 1) pbs pe rest)) :
    T fm k vals (mled mc n t (.str (S [c]) u :: r) e pbs pe rest) (call (.ref 42) [.ref mc.m]) P := by
  refine T_call (read_char_spec G hK mc n t (.str (S [c]) u :: r) e pbs pe (by simp only [List.length_cons]; omega) (Signs.cons h).chars) (by omega) (rest := rest) (by walk_at "sub") ?_
  intro v post hv
  obtain ⟨rfl, n', t', hn, rfl⟩ := hv
  exact hP n' t' (hn _ _ rfl)
theorem T_read_no {mc : Mc G} {n t e pbs pe rest} {P : Po Value} (hK : G.K = Mine.hd.heap_39 G.w.params) (hk : 3 ≤ k)
    (hP : ∀ u, P (.str (S []) u) vals (mled mc n t [] e pbs pe rest)) :
    T fm k vals (mled mc n t [] e pbs pe rest) (call (.ref 42) [.ref mc.m]) P := by
  refine T_call (read_char_spec G hK mc n t [] e pbs pe (by decide) (by intro x hx; cases hx)) (by omega) (rest := rest) (by walk_at "sub") ?_
  intro v post hv
  obtain ⟨⟨tv, rfl⟩, rfl⟩ := hv
  exact hP tv
end

theorem gt_end {G : Gr} {mc : Mc G} {lines : Int} {res : Str × List Nat} {pe : Nat} {rest garb : Led} {n' t' items' e' u} {x : Str} {cs : List Nat} (hres : res = (x, cs)) (hs : Signs items' cs) (hl : n' + (cs.count 10 : Int) = lines) :
    ∃ post, Sbl (post ++ rest) (mled mc n' t' items' e' [] pe ((garb ++ rest))) ∧ Gt mc lines res pe (flowV (.ret (.str x u))) post := by
  subst hres
  refine ⟨mled mc n' t' items' e' [] pe [], ?_, u, n', t', items', e', rfl, hs, hl, rfl⟩
  have : Sbl rest (garb ++ rest) := by
    induction garb with
    | nil => exact .refl
    | cons p g ih => exact .drop ih
  exact .pick .head (.pick .head (.pick .head (.pick .head (.pick .head (.pick .head (.pick .head (.pick .head (.pick .head this))))))))

theorem get_token_spec (G : Gr) (hK : G.K = Mine.hd.heap_39 G.w.params) (mc : Mc G) (n : Int) (t : Tok) (items : List Value) (cs : List Nat) (e : Nat) (pe : Nat) (hl : items.length ≤ 1000000) (hs : Signs items cs) :
    Sp G 6 (mled mc n t items e [] pe []) (.ref 49) [.ref mc.m] [] (Gt mc (n + (cs.count 10 : Int)) (tokRun cs) pe) := by
  refine enter (N := [Str.ofString "self", Str.ofString "token", Str.ofString "fiter", Str.ofString "ch"]) (Gs := [(Str.ofString "iter", .builtin "iter")]) (binds := [(Str.ofString "self", .ref mc.m)]) (vals := [some (.ref mc.m), none, none, none]) (ho := by rw [hK]; k_is) (hcd := by rw [hK]; k_is) (hbind := fun s X => BindsTo.of_eq rfl) [Str.ofString "token", Str.ofString "fiter", Str.ofString "ch"] (hN := rfl) (hv := rfl) (hnd := by decide) (hloc := by decide +kernel) (hglb := fun p hp => by cases hp with | head => exact ⟨by decide +kernel, by decide, glb_iter G hK⟩ | tail _ h => nomatch h) (hcell := by decide +kernel) (hco := rfl) (hgen := rfl) (hk := rfl) ?_
  intro fm rest
  show T fm 5 _ (mled mc n t items e [] pe rest) _ _
  (refine T_cons ?_; refine T_If ?_; refine T_isTrue_val (by walk_at "u") ?_; refine T_Attr (by walk_at "u") ?_; refine T_local .here ?_)
  refine T_getown (by walk_at "mem") (by walk_at "mem") (hK ▸ own_pushback _) (md_pushback ..) rfl ?_
  refine T_truthy_list (by walk_at "mem") (by decide) ?_
  refine If2.neg rfl ?_
  (refine T_nil ?_; refine K_next ?_; refine T_cons ?_; refine T_Assign (by walk_at "u") ?_; refine T_str ?_; intro _; refine T_store (.there .here) ?_; refine K_next ?_; refine T_cons ?_; refine T_Assign (by walk_at "u") ?_; refine T_CallN ?_; refine T_glob List.mem_cons_self ?_; refine T_b1 (by walk_at "u") (by walk_at "u") ?_; refine T_args_cons (by walk_at "u") ?_; refine T_Attr (by walk_at "u") ?_; refine T_local .here ?_)
  refine T_getmeth (by walk_at "mem") (by walk_at "mem") (hK ▸ meth_read_char _) (md_read_char ..) ?_
  intro q
  (refine T_args_cons (by walk_at "u") ?_; refine T_str ?_; intro _; refine T_args_nil ?_)
  rename_i t1 t2
  refine T_iter2 (by walk_at "mem") ?_
  intro it
  (refine T_store (.there (.there .here)) ?_; refine K_next ?_; refine T_cons ?_)
  refine T_For (fun _ => rfl) ?_
  (refine T_local (.there (.there .here)) ?_)
  refine T_iter_callit (by walk_at "mem") ?_
  have e0 : Str.ofString "" = S [] := by decide +kernel
  rw [e0]
  generalize hres : tokRun cs = res
  generalize hlin : n + (cs.count 10 : Int) = lines
  obtain ⟨chv, hchv⟩ : ∃ c : Option Value, c = none := ⟨_, rfl⟩
  rw [← hchv]
  clear hchv
  generalize hsn : Value.str (S []) t2 = sn
  refine C_weak (l' := mled mc n t items e [] pe (itl mc it q sn rest)) (by walk_at "sbl") ?_
  induction hs generalizing n t e chv with
  | nil =>
    refine C_for (T_next_no hsn hK (by decide) (F_none ?_))
    (refine T_nil ?_; refine K_next ?_; refine T_cons ?_; refine T_Return ?_; refine T_local (.there .here) ?_; refine K_ret ?_)
    exact gt_end (garb := [_, _]) hres.symm .nil hlin
  | cons h ih =>
    rename_i c u r cs
    have hl' : r.length ≤ 1000000 := by simp only [List.length_cons] at hl; omega
    refine C_for (T_next_sign hsn hK (by decide) h hl' fun n' t' hn => F_some rfl ?_)
    have hlin' := line_step hlin hn
    (refine T_assignN (.there (.there (.there .here))) ?_; refine T_cons ?_; refine T_If ?_; refine T_isTrue_Compare (by walk_at "u") ?_; refine T_local (.there (.there (.there .here))) ?_; refine T_Attr (by walk_at "u") ?_; refine T_local .here ?_)
    refine T_getown (by walk_at "mem") (by walk_at "mem") (hK ▸ own_whitespace _) (md_whitespace ..) rfl ?_
    refine T_in_ch ?_
    (refine T_truthy_bool ?_)
    rw [S_cps]
    refine If2.dec (fun hc => ?_) fun hc => ?_
    · (refine T_cons ?_; refine T_Continue ?_; refine K_cont ?_; refine K_cont ?_; refine L_cont ?_)
      exact ih n' t' (e + 1) hl' (by rw [← hres, tok_ws (decide_eq_true hc)]) hlin' _
    · have hw : wsB c = false := decide_eq_false hc
      clear ih
      (refine T_nil ?_; refine K_next ?_; refine T_cons ?_; refine T_If ?_; refine T_isTrue_Compare (by walk_at "u") ?_; refine T_local (.there (.there (.there .here))) ?_; refine T_str ?_; intro _; refine T_eqs ?_; refine T_truthy_bool ?_)
      rw [lit34]
      refine If2.dec (fun hq => ?_) fun hq => ?_
      · have hq' : c = 34 := one_inj hq
        have hres' : qRun cs (S []) = res := by rw [← hres, hq', tok_q]
        have htk : (S []).length + r.length ≤ 1000000 := by rw [S_len]; simpa using hl'
        clear hres hlin hn hc hw hq hq' hl
        refine T_cons (T_For (fun _ => rfl) ?_)
        (refine T_local (.there (.there .here)) ?_)
        refine T_iter_callit (by walk_at "mem") ?_
        generalize S [] = tk at hres' htk ⊢
        generalize some (Value.str (S [c]) u) = chv
        generalize e + 1 = e
        obtain ⟨M, hM⟩ : ∃ M, r.length = M := ⟨_, rfl⟩
        induction M using Nat.strongRecOn generalizing r cs n' t' e tk t1 chv with
        | ind M ih =>
          cases h with
          | nil =>
            refine C_for (T_next_no hsn hK (by decide) (F_none ?_))
            (refine T_nil ?_; refine K_next ?_; refine T_nil ?_; refine K_next ?_; refine T_nil ?_; refine L_next ?_)
            refine C_for (T_next_gone (by walk_at "mem") (F_none ?_))
            (refine T_nil ?_; refine K_next ?_; refine T_cons ?_; refine T_Return ?_; refine T_local (.there .here) ?_; refine K_ret ?_)
            exact gt_end (garb := [_, _]) hres'.symm .nil hlin'
          | cons h =>
            rename_i d u r cs
            have hl'' : r.length ≤ 1000000 := by simp only [List.length_cons] at hl'; omega
            refine C_for (T_next_sign hsn hK (by decide) h hl'' fun n2 t2 hn => F_some rfl ?_)
            have hlin2 := line_step hlin' hn
            have htk' : (tk ++ S [d]).length + r.length ≤ 1000000 := by
              simp only [List.length_cons] at htk; rw [len_app, S_len]; simp only [List.length_cons, List.length_nil]; omega
            have hlt : r.length < M := by rw [← hM]; simp
            (refine T_assignN (.there (.there (.there .here))) ?_; refine T_cons ?_; refine T_If ?_; refine T_isTrue_Compare (by walk_at "u") ?_; refine T_local (.there (.there (.there .here))) ?_; refine T_str ?_; intro _; refine T_eqs ?_; refine T_truthy_bool ?_)
            refine If2.dec (fun hq => ?_) fun hq => ?_
            · (refine T_cons ?_; refine T_Return ?_; refine T_local (.there .here) ?_; refine K_ret ?_; refine K_ret ?_; refine L_ret ?_; refine K_ret ?_; refine K_ret ?_; refine L_ret ?_; refine K_ret ?_)
              exact gt_end (garb := [_, _]) (by rw [← hres', one_inj hq, q_q]) h hlin2
            · have hq' : d ≠ 34 := fun q => hq (by rw [q])
              (refine T_cons ?_; refine T_If ?_; refine T_isTrue_Compare (by walk_at "u") ?_; refine T_local (.there (.there (.there .here))) ?_; refine T_str ?_; intro _; refine T_eqs ?_; refine T_truthy_bool ?_)
              rw [lit92]
              refine If2.dec (fun hb => ?_) fun hb => ?_
              · have hb' : d = 92 := one_inj hb
                (refine T_cons ?_; refine T_Assign (by walk_at "u") ?_; refine T_CallM (by walk_at "u") ?_; refine T_local .here ?_)
                refine T_method (by walk_at "mem") (by walk_at "mem") (hK ▸ meth_read_char _) (md_read_char ..) ?_
                (refine M_mk ?_; refine T_k0 (by rw [hK]; k_is) ?_)
                cases h with
                | nil =>
                  refine T_read_no hK (by decide) fun u' => ?_
                  (refine T_store (.there (.there (.there .here))) ?_; refine K_next ?_; refine T_nil ?_; refine K_next ?_; refine T_nil ?_; refine K_next ?_; refine T_cons ?_; refine T_Aug ?_; refine T_loadName (.there .here) ?_; refine T_local (.there (.there (.there .here))) ?_)
                  refine T_iadds (line20 (by rw [len_app, S_len]; simp only [List.length_nil]; omega)) ?_
                  (intro _; refine T_store (.there .here) ?_; refine K_next ?_; refine T_nil ?_; refine L_next ?_)
                  exact ih _ hlt _ .nil (by decide) _ _ hlin2 _ (by rw [← hres', hb', q_e0, app_nil]; rfl) (by rw [app_nil]; omega) _ _ rfl
                | cons h =>
                  rename_i d' u' r cs
                  simp only [List.length_cons] at hl'' htk hlt hM
                  refine T_read_sign hK (by decide) h (by omega) fun n3 t3 hn3 => ?_
                  have hlin3 := line_step hlin2 hn3
                  have htk3 : (tk ++ S [d']).length + r.length ≤ 1000000 := by rw [len_app, S_len]; simp only [List.length_cons, List.length_nil]; omega
                  (refine T_store (.there (.there (.there .here))) ?_; refine K_next ?_; refine T_nil ?_; refine K_next ?_; refine T_nil ?_; refine K_next ?_; refine T_cons ?_; refine T_Aug ?_; refine T_loadName (.there .here) ?_; refine T_local (.there (.there (.there .here))) ?_)
                  refine T_iadds (line20 (by omega)) ?_
                  (intro _; refine T_store (.there .here) ?_; refine K_next ?_; refine T_nil ?_; refine L_next ?_)
                  exact ih r.length (by omega) _ h (by omega) _ _ hlin3 _ (by rw [← hres', hb', q_e]) htk3 _ _ rfl
              · (refine T_nil ?_; refine K_next ?_; refine T_nil ?_; refine K_next ?_; refine T_cons ?_; refine T_Aug ?_; refine T_loadName (.there .here) ?_; refine T_local (.there (.there (.there .here))) ?_)
                refine T_iadds (line20 (by omega)) ?_
                (intro _; refine T_store (.there .here) ?_; refine K_next ?_; refine T_nil ?_; refine L_next ?_)
                exact ih _ hlt _ h hl'' _ _ hlin2 _ (by rw [← hres', q_c hq' (fun q => hb (by rw [q]))]) htk' _ _ rfl
      · have hq' : c ≠ 34 := fun q => hq (by rw [q])
        refine T_cons (T_IfJ (fun v l => ∃ x u n t r cs e, Signs r cs ∧ r.length ≤ 1000000 ∧ x.length ≤ 1 ∧ n + (cs.count 10 : Int) = lines ∧ wRun cs (S x) = res ∧ v = [some (Value.ref mc.m), some (Value.str (S []) t1), some (Value.ref it), some (Value.str (S x) u)] ∧ l = mled mc n t r e [] pe (itl mc it q sn rest)) ?_ ?_)
        · (refine T_isTrue_Compare (by walk_at "u") ?_; refine T_local (.there (.there (.there .here))) ?_; refine T_str ?_; intro _; refine T_eqs ?_; refine T_truthy_bool ?_)
          rw [lit92]
          refine If2.dec (fun hb => ?_) fun hb => ?_
          · have hb' : c = 92 := one_inj hb
            (refine T_cons ?_; refine T_Assign (by walk_at "u") ?_; refine T_CallM (by walk_at "u") ?_; refine T_local .here ?_)
            refine T_method (by walk_at "mem") (by walk_at "mem") (hK ▸ meth_read_char _) (md_read_char ..) ?_
            (refine M_mk ?_; refine T_k0 (by rw [hK]; k_is) ?_)
            cases h with
            | nil =>
              refine T_read_no hK (by decide) fun u' => ?_
              (refine T_store (.there (.there (.there .here))) ?_; refine K_next ?_; refine T_nil ?_; refine J_next ?_)
              exact ⟨[], _, _, _, _, _, _, .nil, by decide, by decide, hlin', by rw [← hres, hb', tok_e0]; rfl, rfl, rfl⟩
            | cons h =>
              rename_i d' u' r cs
              simp only [List.length_cons] at hl'
              refine T_read_sign hK (by decide) h (by omega) fun n3 t3 hn3 => ?_
              (refine T_store (.there (.there (.there .here))) ?_; refine K_next ?_; refine T_nil ?_; refine J_next ?_)
              exact ⟨[d'], _, _, _, _, _, _, h, by omega, Nat.le_refl 1, line_step hlin' hn3, by rw [← hres, hb', tok_e], rfl, rfl⟩
          · (refine T_nil ?_; refine J_next ?_)
            exact ⟨[c], _, _, _, _, _, _, h, hl', Nat.le_refl 1, hlin', by rw [← hres, tok_w hw hq' (fun q => hb (by rw [q]))], rfl, rfl⟩
        · rintro _ _ ⟨x, u, n, t, r, cs, e, h, hl', hx, hlin', hres', rfl, rfl⟩
          (refine K_next ?_; refine T_cons ?_; refine T_Aug ?_; refine T_loadName (.there .here) ?_; refine T_local (.there (.there (.there .here))) ?_)
          refine T_iadds (line20 (by rw [S_app, S_len]; simpa using Nat.le_trans hx (by decide))) ?_
          (intro _; refine T_store (.there .here) ?_; refine K_next ?_; refine T_cons ?_)
          rename_i t3
          rw [S_app, List.nil_append]
          have htk : (S x).length + r.length ≤ 1000001 := by rw [S_len]; omega
          clear hres hlin hn hc hw hq hq' hl
          refine T_For (fun _ => rfl) ?_
          (refine T_local (.there (.there .here)) ?_)
          refine T_iter_callit (by walk_at "mem") ?_
          generalize some (Value.str (S x) u) = chv
          generalize S x = tk at hres' htk ⊢
          obtain ⟨M, hM⟩ : ∃ M, r.length = M := ⟨_, rfl⟩
          induction M using Nat.strongRecOn generalizing r cs n t e tk t3 chv with
          | ind M ih =>
            cases h with
            | nil =>
              refine C_for (T_next_no hsn hK (by decide) (F_none ?_))
              (refine T_nil ?_; refine K_next ?_; refine T_nil ?_; refine K_next ?_; refine T_nil ?_; refine L_next ?_)
              refine C_for (T_next_gone (by walk_at "mem") (F_none ?_))
              (refine T_nil ?_; refine K_next ?_; refine T_cons ?_; refine T_Return ?_; refine T_local (.there .here) ?_; refine K_ret ?_)
              exact gt_end (garb := [_, _]) hres'.symm .nil hlin'
            | cons h =>
              rename_i d u r cs
              have hl'' : r.length ≤ 1000000 := by simp only [List.length_cons] at hl'; omega
              refine C_for (T_next_sign hsn hK (by decide) h hl'' fun n2 t2 hn => F_some rfl ?_)
              have hlin2 := line_step hlin' hn
              have htk' : (tk ++ S [d]).length + r.length ≤ 1000001 := by
                simp only [List.length_cons] at htk; rw [len_app, S_len]; simp only [List.length_cons, List.length_nil]; omega
              have hlt : r.length < M := by rw [← hM]; simp
              (refine T_assignN (.there (.there (.there .here))) ?_; refine T_cons ?_; refine T_If ?_; refine T_isTrue_Compare (by walk_at "u") ?_; refine T_local (.there (.there (.there .here))) ?_; refine T_Attr (by walk_at "u") ?_; refine T_local .here ?_)
              refine T_getown (by walk_at "mem") (by walk_at "mem") (hK ▸ own_whitespace _) (md_whitespace ..) rfl ?_
              refine T_in_ch ?_
              (refine T_truthy_bool ?_)
              rw [S_cps]
              refine If2.dec (fun hq => ?_) fun hq => ?_
              · (refine T_cons ?_; refine T_Return ?_; refine T_local (.there .here) ?_; refine K_ret ?_; refine K_ret ?_; refine L_ret ?_; refine K_ret ?_; refine K_ret ?_; refine L_ret ?_; refine K_ret ?_)
                exact gt_end (garb := [_, _]) (by rw [← hres', w_w (decide_eq_true hq)]) h hlin2
              · have hq' : wsB d = false := decide_eq_false hq
                (refine T_cons ?_; refine T_If ?_; refine T_isTrue_Compare (by walk_at "u") ?_; refine T_local (.there (.there (.there .here))) ?_; refine T_str ?_; intro _; refine T_eqs ?_; refine T_truthy_bool ?_)
                rw [lit92]
                refine If2.dec (fun hb => ?_) fun hb => ?_
                · have hb' : d = 92 := one_inj hb
                  (refine T_cons ?_; refine T_Assign (by walk_at "u") ?_; refine T_CallM (by walk_at "u") ?_; refine T_local .here ?_)
                  refine T_method (by walk_at "mem") (by walk_at "mem") (hK ▸ meth_read_char _) (md_read_char ..) ?_
                  (refine M_mk ?_; refine T_k0 (by rw [hK]; k_is) ?_)
                  cases h with
                  | nil =>
                    refine T_read_no hK (by decide) fun u' => ?_
                    (refine T_store (.there (.there (.there .here))) ?_; refine K_next ?_; refine T_nil ?_; refine K_next ?_; refine T_nil ?_; refine K_next ?_; refine T_cons ?_; refine T_Aug ?_; refine T_loadName (.there .here) ?_; refine T_local (.there (.there (.there .here))) ?_)
                    refine T_iadds (line20 (by rw [len_app, S_len]; simp only [List.length_nil]; omega)) ?_
                    (intro _; refine T_store (.there .here) ?_; refine K_next ?_; refine T_nil ?_; refine L_next ?_)
                    exact ih _ hlt _ _ _ _ _ .nil (by decide) hlin2 _ _ _ (by rw [← hres', hb', w_e0, app_nil]; rfl) (by rw [app_nil]; omega) rfl
                  | cons h =>
                    rename_i d' u' r cs
                    simp only [List.length_cons] at hl'' htk hlt hM
                    refine T_read_sign hK (by decide) h (by omega) fun n3 t3 hn3 => ?_
                    have hlin3 := line_step hlin2 hn3
                    have htk3 : (tk ++ S [d']).length + r.length ≤ 1000001 := by rw [len_app, S_len]; simp only [List.length_cons, List.length_nil]; omega
                    (refine T_store (.there (.there (.there .here))) ?_; refine K_next ?_; refine T_nil ?_; refine K_next ?_; refine T_nil ?_; refine K_next ?_; refine T_cons ?_; refine T_Aug ?_; refine T_loadName (.there .here) ?_; refine T_local (.there (.there (.there .here))) ?_)
                    refine T_iadds (line20 (by omega)) ?_
                    (intro _; refine T_store (.there .here) ?_; refine K_next ?_; refine T_nil ?_; refine L_next ?_)
                    exact ih r.length (by omega) _ _ _ _ _ h (by omega) hlin3 _ _ _ (by rw [← hres', hb', w_e]) htk3 rfl
                · (refine T_nil ?_; refine K_next ?_; refine T_nil ?_; refine K_next ?_; refine T_cons ?_; refine T_Aug ?_; refine T_loadName (.there .here) ?_; refine T_local (.there (.there (.there .here))) ?_)
                  refine T_iadds (line20 (by omega)) ?_
                  (intro _; refine T_store (.there .here) ?_; refine K_next ?_; refine T_nil ?_; refine L_next ?_)
                  exact ih _ hlt _ _ _ _ _ h hl'' hlin2 _ _ _ (by rw [← hres', w_c hq' (fun q => hb (by rw [q]))]) htk' rfl

/-- _netrclex.__init__ -/
theorem init_spec (G : Gr) (hK : G.K = Mine.hd.heap_39 G.w.params) (x dx : Addr) (fp : Value) :
    Sp G 1 [(x, instObj C1 dx), (dx, dictOf [] 0)] (.ref 35) [.ref x, fp] [] fun v post =>
      v = .none ∧ ∃ t1 t2 t3 t4 t tw pb, post = [(pb, listOf #[] 0), (x, instObj C1 dx), (dx, dictOf (md4 G.w t1 t2 t3 t4 1 t fp tw pb) 4)] := by
  refine enter (N := [Str.ofString "self", Str.ofString "fp"]) (Gs := []) (binds := [(Str.ofString "self", .ref x), (Str.ofString "fp", fp)]) (vals := [some (.ref x), some fp]) (ho := by rw [hK]; k_is) (hcd := by rw [hK]; k_is) (hbind := fun s X => BindsTo.of_eq rfl) [] (hN := rfl) (hv := rfl) (hnd := by decide) (hloc := by decide +kernel) (hglb := fun p hp => nomatch hp) (hcell := by decide +kernel) (hco := rfl) (hgen := rfl) (hk := rfl) ?_
  intro fm rest
  show T fm 0 _ ((x, instObj C1 dx) :: (dx, dictOf [] 0) :: rest) _ _
  (refine T_cons ?_; refine T_AssignA (by walk_at "u") ?_; refine T_int ?_; intro _; refine T_local .here ?_)
  rename_i t
  refine T_setattr (es' := fun t1 => [⟨kh G.w (Str.ofString "lineno"), .str (Str.ofString "lineno") t1, .int 1 t⟩]) (n' := 1) (by walk_at "mem") (hK ▸ set_lineno _) rfl (fun _ => rfl) (by walk_at "upd") (fun _ => Nat.le_of_ble_eq_true rfl) ?_
  intro t1
  (refine K_next ?_; refine T_cons ?_; refine T_AssignA (by walk_at "u") ?_; refine T_local (.there .here) ?_; refine T_local .here ?_)
  refine T_setattr (es' := fun t2 => [⟨kh G.w (Str.ofString "lineno"), .str (Str.ofString "lineno") t1, .int 1 t⟩, ⟨kh G.w (Str.ofString "instream"), .str (Str.ofString "instream") t2, fp⟩]) (n' := 2) (by walk_at "mem") (hK ▸ set_instream _) rfl (fun _ => rfl) (by walk_at "upd") (fun _ => Nat.le_of_ble_eq_true rfl) ?_
  intro t2
  (refine K_next ?_; refine T_cons ?_; refine T_AssignA (by walk_at "u") ?_; refine T_str ?_; intro _; refine T_local .here ?_)
  rename_i tw
  rw [show Str.ofString "\n\t\x0d " = S [10, 9, 13, 32] by decide +kernel]
  refine T_setattr (es' := fun t3 => [⟨kh G.w (Str.ofString "lineno"), .str (Str.ofString "lineno") t1, .int 1 t⟩, ⟨kh G.w (Str.ofString "instream"), .str (Str.ofString "instream") t2, fp⟩,
    ⟨kh G.w (Str.ofString "whitespace"), .str (Str.ofString "whitespace") t3, .str (S [10, 9, 13, 32]) tw⟩]) (n' := 3) (by walk_at "mem") (hK ▸ set_whitespace _) rfl (fun _ => rfl) (by walk_at "upd") (fun _ => Nat.le_of_ble_eq_true rfl) ?_
  intro t3
  (refine K_next ?_; refine T_cons ?_; refine T_AssignA (by walk_at "u") ?_; refine T_List ?_; refine T_args_nil ?_)
  refine T_newList ?_
  intro pb
  (refine T_local .here ?_)
  refine T_setattr (es' := fun t4 => md4 G.w t1 t2 t3 t4 1 t fp tw pb) (n' := 4) (by walk_at "mem") (hK ▸ set_pushback _) rfl (fun _ => rfl) (by walk_at "upd") (fun _ => Nat.le_of_ble_eq_true rfl) ?_
  intro t4
  (refine K_next ?_; refine T_nil ?_)
  exact ⟨[(pb, listOf #[] 0), (x, instObj C1 dx), (dx, dictOf (md4 G.w t1 t2 t3 t4 1 t fp tw pb) 4)], Sbl.refl, rfl, t1, t2, t3, t4, t, tw, pb, rfl⟩

theorem loc_none : ∀ (N : List Str) (y : Str), Loc N (N.map fun _ => none) y = none
  | [], _ => rfl
  | z :: N, y => by
    have ih := loc_none N y
    simp only [Loc, List.map_cons, List.zip_cons_cons, List.lookup] at ih ⊢
    split
    · rfl
    · exact ih
theorem mk_machine {G : Gr} {m dm st ds fn cc cl sg pb : Addr} {t t1 t2 t3 t4 tw : Tok} {se : List DictEntry} {sn : Nat} {lam occ ocl : Obj} {fd : FuncData} {x2 : Addr × Obj} {ps : Array Value} {items : List Value} {e : Nat} {rest : Led}
    (hfd : lam.data = .func fd) (read : getL (Str.ofString "read") se = some (some (.ref fn)))
    (rd : ∀ (items : List Value) (e : Nat) (t : Tok), items.length ≤ 1048576 → Sp G 2 [(fn, lam), (cc, occ), (cl, ocl), (sg, listOf items.toArray e)] (.ref fn) [.int 1 t] [] fun v post =>
      match items with
      | [] => (∃ t, v = .str (S []) t) ∧ post = [(fn, lam), (cc, occ), (cl, ocl), (sg, listOf #[] e)]
      | x :: r => v = x ∧ post = [(fn, lam), (cc, occ), (cl, ocl), (sg, listOf r.toArray (e + 1))]) :
    ∃ post, Sbl (post ++ rest) ([(pb, listOf #[] 0), (m, instObj C1 dm), (dm, dictOf (md4 G.w t1 t2 t3 t4 1 t (.ref st) tw pb) 4)] ++ (fn, lam) :: (cc, occ) :: x2 :: (st, instObj C1 ds) :: (ds, dictOf se sn) :: (cl, ocl) :: (95, tabObj ps) :: (sg, listOf items.toArray e) :: rest) ∧
      ∃ (mc : Mc G) (t : Tok) (ps : Array Value), mc.sg = sg ∧ flowV (.ret (.ref m)) = .ref mc.m ∧ post = mled mc 1 t items e [] 0 [(95, tabObj ps)] := by
  let mc : Mc G := { m := m, dm := dm, st := st, ds := ds, fn := fn, cc := cc, cl := cl, sg := sg, pb := pb, t1 := t1, t2 := t2, t3 := t3, t4 := t4, tw := tw, se := se, sn := sn, lam := lam, occ := occ, ocl := ocl, fd := fd, hfd := hfd, read := read, rd := rd }
  refine ⟨mled mc 1 t items e [] 0 [(95, tabObj ps)], ?_, mc, t, ps, rfl, rfl, rfl⟩
  show Sbl ((m, instObj C1 dm) :: (dm, dictOf (md4 G.w t1 t2 t3 t4 1 t (.ref st) tw pb) 4) :: (st, instObj C1 ds) :: (ds, dictOf se sn) :: (fn, lam) :: (cc, occ) :: (cl, ocl) :: (sg, listOf items.toArray e) :: (pb, listOf #[] 0) :: (95, tabObj ps) :: rest)
    ((pb, listOf #[] 0) :: (m, instObj C1 dm) :: (dm, dictOf (md4 G.w t1 t2 t3 t4 1 t (.ref st) tw pb) 4) :: (fn, lam) :: (cc, occ) :: x2 :: (st, instObj C1 ds) :: (ds, dictOf se sn) :: (cl, ocl) :: (95, tabObj ps) :: (sg, listOf items.toArray e) :: rest)
  walk_at "sbl"
/-- _law_machine, the first time -/
theorem machine_spec (G : Gr) (hK : G.K = Mine.hd.heap_39 G.w.params) (hC : CodeHd G.base 99 95) (hn : Glb G (Str.ofString "_netrclex") (.ref 59)) (sg : Addr) (items : List Value) (e : Nat) :
    Sp G 4 [(95, tabObj #[]), (sg, listOf items.toArray e)] (.ref 100) [.ref sg] [] fun v post => ∃ (mc : Mc G) (t : Tok) (ps : Array Value), mc.sg = sg ∧ v = .ref mc.m ∧ post = mled mc 1 t items e [] 0 [(95, tabObj ps)] := by
  refine enterC (N := [Str.ofString "stream"]) (Gs := [(Str.ofString "_netrclex", .ref 59)]) (binds := [(Str.ofString "signs", .ref sg)]) (vals := [none]) (x := Str.ofString "signs") (cv := some (.ref sg)) (ho := by rw [hK]; k_is) (hcd := by rw [hK]; k_is) (hbind := fun s X => BindsTo.of_eq rfl) rfl (hL := fun y => ?_) rfl (fun _ => rfl) rfl rfl (hnd := by decide) (hloc := by decide +kernel) (hglb := fun p hp => by cases hp with | head => exact ⟨by decide +kernel, by decide, hn⟩ | tail _ h => nomatch h) (hco := rfl) (hgen := rfl) (hk := rfl) ?_
  · exact (loc_none _ y).symm
  intro L o fm rest ho hE
  have hX : fm.env = envX (Str.ofString "_law_machine") fm.env.scope fm.env.locals 100 (.ref 99) [(Str.ofString "signs", L + 1)] := by rw [hE]; rfl
  have hcl : ∀ n p, closureFor { kind := .function, names := [(n, .local), (Str.ofString "signs", .free)], isGenerator := false, isCoroutine := false, more := p } fm.env = pure [(Str.ofString "signs", L + 1)] := by rw [hE]; intro n p; rfl
  generalize hc : L + 1 = c at fm ho hX hcl ⊢
  clear hE
  show T fm 3 _ ((c, o) :: (95, tabObj #[]) :: (sg, listOf items.toArray e) :: rest) _ _
  (refine T_cons ?_; refine T_Assign (by walk_at "u") ?_; refine T_CallN ?_; refine T_glob List.mem_cons_self ?_; refine T_k1 (by rw [hK]; k_is) (by walk_at "u") (by walk_at "u") ?_; refine T_args_cons (by walk_at "u") ?_; refine T_none ?_; refine T_args_nil ?_)
  refine T_new (by rw [hK]; k_is) (by rw [hK]; k_is) (by rw [hK]; k_is) (fun x dx => init_spec G hK x dx .none) (by decide) ?_
  rintro st ds v post ⟨rfl, u1, u2, u3, u4, u, uw, pb2, rfl⟩
  refine ⟨rfl, ?_⟩
  show T fm 3 _ ((pb2, listOf #[] 0) :: (st, instObj C1 ds) :: (ds, dictOf (md4 G.w u1 u2 u3 u4 1 u .none uw pb2) 4) :: (c, o) :: (95, tabObj #[]) :: (sg, listOf items.toArray e) :: rest) _ _
  (refine T_store .here ?_; refine K_next ?_; refine T_cons ?_; refine T_AssignA (by walk_at "u") ?_)
  refine T_lambda (ps := #[]) hX rfl hC (by walk_at "upd") (show TriplesOk [] from trivial) rfl (clos := [(Str.ofString "signs", c)]) (hcl _ _) ?_
  intro fn cc occ ctv hocc
  (refine T_local .here ?_)
  refine T_setattr (es' := fun t5 => md4 G.w u1 u2 u3 u4 1 u .none uw pb2 ++ [⟨kh G.w (Str.ofString "read"), .str (Str.ofString "read") t5, .ref fn⟩]) (n' := 5) (by walk_at "mem") (hK ▸ set_read _) rfl (fun _ => rfl) (by walk_at "upd") (fun _ => Nat.le_of_ble_eq_true rfl) ?_
  intro t5
  (refine K_next ?_; refine T_cons ?_; refine T_Return ?_; refine T_CallN ?_; refine T_glob List.mem_cons_self ?_; refine T_k1 (by rw [hK]; k_is) (by walk_at "u") (by walk_at "u") ?_; refine T_args_cons (by walk_at "u") ?_; refine T_local .here ?_; refine T_args_nil ?_)
  refine T_new (by rw [hK]; k_is) (by rw [hK]; k_is) (by rw [hK]; k_is) (fun x dx => init_spec G hK x dx (.ref st)) (by decide) ?_
  rintro m dm v post ⟨rfl, t1, t2, t3, t4, t, tw, pb, rfl⟩
  refine ⟨rfl, ?_⟩
  refine K_ret ?_
  refine mk_machine rfl rfl ?_
  clear hcl
  intro items e t hl
  refine enterL (N := [Str.ofString "size"]) (Gs := []) (binds := [(Str.ofString "size", .int 1 t)]) (vals := [some (.int 1 t)]) (ho := by walk_at "mem") (hoc := by walk_at "mem") hocc rfl [] (hN := rfl) (hv := rfl) (hnd := by decide) (hloc := by decide +kernel) (hglb := fun p hp => nomatch hp) (hcell := by decide +kernel) (hco := rfl) (hgen := rfl) (hk := rfl) ?_
  intro fm' rest' hsc
  simp only [List.cons_append, List.nil_append]
  (refine T_IfExp ?_; refine T_isTrue_val (by walk_at "u") ?_)
  refine T_free (by rw [hsc]; rfl) (by decide) (by decide) rfl (by walk_at "mem") ho ?_
  refine T_truthy_list (by walk_at "mem") (line20 (by simpa using hl)) ?_
  cases items with
  | nil =>
    refine If2.neg rfl ?_
    (refine T_str ?_; intro _)
    rename_i tv
    exact ⟨[_, _, _, _], Sbl.refl, ⟨tv, by rw [show Str.ofString "" = S [] by decide +kernel]⟩, rfl⟩
  | cons x r =>
    refine If2.pos (by simp) ?_
    (refine T_CallM (by walk_at "u") ?_)
    refine T_free (by rw [hsc]; rfl) (by decide) (by decide) rfl (by walk_at "mem") ho ?_
    refine T_meth_list PySem.F.slot_list_pop PySem.F.type_list_pop (by walk_at "mem") ?_
    (refine M_mk ?_; refine T_b2 (by walk_at "u") (by walk_at "u") ?_; refine T_args_cons (by walk_at "u") ?_; refine T_int ?_; intro _; refine T_args_nil ?_)
    refine T_pop0 rfl (by walk_at "upd") (line20 (by simpa using hl)) ?_
    exact ⟨[_, _, _, _], Sbl.refl, rfl, rfl⟩

/-! base 64 -/
def b64L : List Nat := (List.range 26).map (65 + ·) ++ (List.range 26).map (97 + ·) ++ (List.range 10).map (48 + ·) ++ [43, 47]
def b64A : Array UInt8 := (b64L.map Nat.toUInt8).toArray
theorem glb_B64 (G : Gr) (hK : G.K = Mine.hd.heap_39 G.w.params) : Glb G (Str.ofString "_B64") (.bytes b64A 272) := .inl (by rw [hK]; k_is)
theorem glb_type (G : Gr) (hK : G.K = Mine.hd.heap_39 G.w.params) : Glb G (Str.ofString "type") (.type "type") := .inr ⟨by rw [hK]; k_is, by boot_by_name, by decide⟩
theorem glb_bytes (G : Gr) (hK : G.K = Mine.hd.heap_39 G.w.params) : Glb G (Str.ofString "bytes") (.type "bytes") := .inr ⟨by rw [hK]; k_is, by boot_by_name, by decide⟩
theorem glb_bool (G : Gr) (hK : G.K = Mine.hd.heap_39 G.w.params) : Glb G (Str.ofString "bool") (.type "bool") := .inr ⟨by rw [hK]; k_is, by boot_by_name, by decide⟩
theorem glb_len (G : Gr) (hK : G.K = Mine.hd.heap_39 G.w.params) : Glb G (Str.ofString "len") (.builtin "len") := .inr ⟨by rw [hK]; k_is, by boot_by_name, by decide⟩
theorem glb_buffer (G : Gr) (hK : G.K = Mine.hd.heap_39 G.w.params) : Glb G (Str.ofString "_buffer") (.ref 70) := .inl (by rw [hK]; k_is)
theorem glb_truth (G : Gr) (hK : G.K = Mine.hd.heap_39 G.w.params) : Glb G (Str.ofString "_truth") (.ref 77) := .inl (by rw [hK]; k_is)

theorem buffer_spec (G : Gr) (hK : G.K = Mine.hd.heap_39 G.w.params) (b : Array UInt8) (t : Tok) : Sp G 1 [] (.ref 70) [.bytes b t] [] fun v post => v = .bytes b t ∧ post = [] := by
  refine enter (N := [Str.ofString "data", Str.ofString "t"]) (Gs := [(Str.ofString "type", .type "type"), (Str.ofString "bytes", .type "bytes")]) (binds := [(Str.ofString "data", .bytes b t)]) (vals := [some (.bytes b t), none]) (ho := by rw [hK]; k_is) (hcd := by rw [hK]; k_is) (hbind := fun s X => BindsTo.of_eq rfl) [Str.ofString "t"] (hN := rfl) (hv := rfl) (hnd := by decide) (hloc := by decide +kernel)
    (hglb := fun p hp => by
      rcases List.mem_cons.mp hp with rfl | hp
      · exact ⟨by decide +kernel, by decide, glb_type G hK⟩
      rcases List.mem_cons.mp hp with rfl | hp
      · exact ⟨by decide +kernel, by decide, glb_bytes G hK⟩
      cases hp) (hcell := by decide +kernel) (hco := rfl) (hgen := rfl) (hk := rfl) ?_
  intro fm rest
  (refine T_cons ?_; refine T_Assign (by walk_at "u") ?_; refine T_CallN ?_; refine T_glob List.mem_cons_self ?_; refine T_ty1 (by walk_at "u") (by walk_at "u") ?_; refine T_args_cons (by walk_at "u") ?_; refine T_local .here ?_; refine T_args_nil ?_)
  refine T_type (ty := "bytes") (fun s => typeIs_bytes _ _ _) (by decide) ?_
  (refine T_store (.there .here) ?_; refine K_next ?_; refine T_cons ?_; refine T_If ?_; refine T_isTrue_Compare (by walk_at "u") ?_; refine T_local (.there .here) ?_; refine T_glob (List.mem_cons_of_mem _ List.mem_cons_self) ?_; refine T_is (by walk_at "u") ?_; refine T_truthy_bool ?_)
  refine If2.pos (by decide) ?_
  (refine T_cons ?_; refine T_Return ?_; refine T_local .here ?_; refine K_ret ?_; refine K_ret ?_)
  exact ⟨[], Sbl.refl, rfl, rfl⟩

theorem truth_spec (G : Gr) (hK : G.K = Mine.hd.heap_39 G.w.params) (b : Bool) : Sp G 1 [] (.ref 77) [.bool b] [] fun v post => v = .bool b ∧ post = [] := by
  refine enter (N := [Str.ofString "x", Str.ofString "t"]) (Gs := [(Str.ofString "type", .type "type"), (Str.ofString "bool", .type "bool")]) (binds := [(Str.ofString "x", .bool b)]) (vals := [some (.bool b), none]) (ho := by rw [hK]; k_is) (hcd := by rw [hK]; k_is) (hbind := fun s X => BindsTo.of_eq rfl) [Str.ofString "t"] (hN := rfl) (hv := rfl) (hnd := by decide) (hloc := by decide +kernel)
    (hglb := fun p hp => by
      rcases List.mem_cons.mp hp with rfl | hp
      · exact ⟨by decide +kernel, by decide, glb_type G hK⟩
      rcases List.mem_cons.mp hp with rfl | hp
      · exact ⟨by decide +kernel, by decide, glb_bool G hK⟩
      cases hp) (hcell := by decide +kernel) (hco := rfl) (hgen := rfl) (hk := rfl) ?_
  intro fm rest
  (refine T_cons ?_; refine T_Assign (by walk_at "u") ?_; refine T_CallN ?_; refine T_glob List.mem_cons_self ?_; refine T_ty1 (by walk_at "u") (by walk_at "u") ?_; refine T_args_cons (by walk_at "u") ?_; refine T_local .here ?_; refine T_args_nil ?_)
  refine T_type (ty := "bool") (fun s => PySem.typeIs_bool _ _) (by decide) ?_
  (refine T_store (.there .here) ?_; refine K_next ?_; refine T_cons ?_; refine T_If ?_; refine T_isTrue_BoolOp ?_; refine T_or_cons ?_; refine T_isTrue_Compare (by walk_at "u") ?_; refine T_local .here ?_; refine T_none ?_; refine T_is (by walk_at "u") ?_; refine T_truthy_bool ?_)
  refine If2.neg (by cases b <;> rfl) ?_
  (refine T_or_cons ?_; refine T_isTrue_Compare (by walk_at "u") ?_; refine T_local (.there .here) ?_; refine T_glob (List.mem_cons_of_mem _ List.mem_cons_self) ?_; refine T_is (by walk_at "u") ?_; refine T_truthy_bool ?_)
  refine If2.pos (by decide) ?_
  refine If2.t ?_
  (refine T_cons ?_; refine T_Return ?_; refine T_IfExp ?_; refine T_isTrue_val (by walk_at "u") ?_; refine T_local .here ?_; refine T_truthy_bool ?_)
  cases b
  · refine If2.f ?_
    (refine T_bool ?_; refine K_ret ?_; refine K_ret ?_)
    exact ⟨[], Sbl.refl, rfl, rfl⟩
  · refine If2.t ?_
    (refine T_bool ?_; refine K_ret ?_; refine K_ret ?_)
    exact ⟨[], Sbl.refl, rfl, rfl⟩

/-- the figures that lie ready -/
def emits : Nat → Nat → Nat → List Nat
  | 0, _, _ => []
  | n + 1, lb, lc => if 6 ≤ lb then lc / 2 ^ (lb - 6) % 64 :: emits n (lb - 6) lc else []
theorem bitOr_nat (a b : Nat) : Builtin.bitOr (a : Int) (b : Int) = ((a ||| b : Nat) : Int) := by
  unfold Builtin.bitOr Builtin.bitAnd Builtin.bitNot
  have h1 : decide ((0 : Int) ≤ -(a : Int) - 1) = false := decide_eq_false (by omega)
  have h2 : decide ((0 : Int) ≤ -(b : Int) - 1) = false := decide_eq_false (by omega)
  rw [h1, h2]
  show -(-(((-(-(a : Int) - 1) - 1).toNat ||| (-(-(b : Int) - 1) - 1).toNat : Nat) : Int) - 1) - 1 = _
  have e1 : (-(-(a : Int) - 1) - 1).toNat = a := by omega
  have e2 : (-(-(b : Int) - 1) - 1).toNat = b := by omega
  rw [e1, e2]; omega
theorem or_shift (a c : Nat) (h : c < 256) : (a * 256 ||| c) = a * 256 + c := by
  have := Nat.two_pow_add_eq_or_of_lt (i := 8) (b := c) (by simpa using h) a
  rw [Nat.mul_comm a 256]
  exact this.symm
theorem fdiv_nat (a n : Nat) : (a : Int).fdiv (2 ^ n) = ((a / 2 ^ n : Nat) : Int) := by
  rw [Int.fdiv_eq_ediv_of_nonneg _ (by exact Int.le_of_lt (kbt_pos n))]
  rw [← kbt_cast]; rfl
/-- the figures of the octets, bits left over and the last two octets at the start -/
def enc : List Nat → Nat → Nat → List Nat
  | [], lb, lc => if lb = 2 then [lc % 4 * 16] else if lb = 4 then [lc % 16 * 4] else []
  | b :: r, lb, lc => emits 3 (lb + 8) ((lc * 256 + b) % 65536) ++ enc r ((lb + 2) % 6) ((lc * 256 + b) % 65536)
def pads (n : Nat) : List Int := List.replicate ((3 - n % 3) % 3) 61
def b64c (f : Nat) : Int := (KBw.bInts b64A).getD f 0
def encOut (os : List Nat) : List Int := (enc os 0 0).map b64c ++ pads os.length

theorem b64c_range (f : Nat) : 0 ≤ b64c f ∧ b64c f < 256 := by
  unfold b64c
  by_cases h : f < 64
  · have : ∀ f < 64, 0 ≤ (KBw.bInts b64A).getD f 0 ∧ (KBw.bInts b64A).getD f 0 < 256 := by decide +kernel
    exact this f h
  · rw [List.getD_eq_getElem?_getD, List.getElem?_eq_none (by rw [KBw.ints_length]; show 64 ≤ f; omega)]; decide
theorem encOut_range (os : List Nat) : ∀ n ∈ encOut os, 0 ≤ n ∧ n < 256 := by
  intro n hn
  rcases List.mem_append.mp hn with h | h
  · obtain ⟨f, _, rfl⟩ := List.mem_map.mp h; exact b64c_range f
  · rw [(List.mem_replicate.mp h).2]; decide
theorem b2a_spec (G : Gr) (hK : G.K = Mine.hd.heap_39 G.w.params) (b : Array UInt8) (t : Tok) (hb : b.size ≤ 100000) :
    Sp G 4 [] (.ref 85) [.bytes b t] [(Str.ofString "newline", .bool false)] fun v post => (∃ u, v = .bytes (byteArr (encOut (b.toList.map UInt8.toNat))) u) ∧ post = [] := by
  refine enter (N := [Str.ofString "data", Str.ofString "newline", Str.ofString "bin_data", Str.ofString "out", Str.ofString "leftbits", Str.ofString "leftchar", Str.ofString "b"])
    (Gs := [(Str.ofString "_buffer", .ref 70), (Str.ofString "_truth", .ref 77), (Str.ofString "_B64", .bytes b64A 272), (Str.ofString "bytes", .type "bytes")]) (binds := [(Str.ofString "data", .bytes b t), (Str.ofString "newline", .bool false)])
    (vals := [some (.bytes b t), some (.bool false), none, none, none, none, none]) (ho := by rw [hK]; k_is) (hcd := by rw [hK]; k_is) (hbind := fun s X => BindsTo.of_eq rfl) [Str.ofString "bin_data", Str.ofString "out", Str.ofString "leftbits", Str.ofString "leftchar", Str.ofString "b"] (hN := rfl) (hv := rfl) (hnd := by decide) (hloc := by decide +kernel)
    (hglb := fun p hp => by
      rcases List.mem_cons.mp hp with rfl | hp
      · exact ⟨by decide +kernel, by decide, glb_buffer G hK⟩
      rcases List.mem_cons.mp hp with rfl | hp
      · exact ⟨by decide +kernel, by decide, glb_truth G hK⟩
      rcases List.mem_cons.mp hp with rfl | hp
      · exact ⟨by decide +kernel, by decide, glb_B64 G hK⟩
      rcases List.mem_cons.mp hp with rfl | hp
      · exact ⟨by decide +kernel, by decide, glb_bytes G hK⟩
      cases hp) (hcell := by decide +kernel) (hco := rfl) (hgen := rfl) (hk := rfl) ?_
  intro fm rest
  show T fm 3 _ rest _ _
  (refine T_cons ?_; refine T_Assign (by walk_at "u") ?_; refine T_CallN ?_; refine T_glob List.mem_cons_self ?_; refine T_k1 (by rw [hK]; k_is) (by walk_at "u") (by walk_at "u") ?_; refine T_args_cons (by walk_at "u") ?_; refine T_local .here ?_; refine T_args_nil ?_)
  refine T_call (buffer_spec G hK b t) (by decide) .nil ?_
  rintro _ _ ⟨rfl, rfl⟩
  rw [List.nil_append]
  (refine T_store (.there (.there .here)) ?_; refine K_next ?_; refine T_cons ?_; refine T_Assign (by walk_at "u") ?_; refine T_CallN ?_; refine T_glob (List.mem_cons_of_mem _ List.mem_cons_self) ?_; refine T_k1 (by rw [hK]; k_is) (by walk_at "u") (by walk_at "u") ?_; refine T_args_cons (by walk_at "u") ?_; refine T_local (.there .here) ?_; refine T_args_nil ?_)
  refine T_call (truth_spec G hK false) (by decide) .nil ?_
  rintro _ _ ⟨rfl, rfl⟩
  rw [List.nil_append]
  (refine T_store (.there .here) ?_; refine K_next ?_; refine T_cons ?_; refine T_Assign (by walk_at "u") ?_; refine T_List ?_; refine T_args_nil ?_)
  refine T_newList ?_
  intro o
  (refine T_store (.there (.there (.there .here))) ?_; refine K_next ?_; refine T_cons ?_; refine T_Assign (by walk_at "u") ?_; refine T_int ?_; intro _; refine T_store (.there (.there (.there (.there .here)))) ?_; refine K_next ?_; refine T_cons ?_; refine T_Assign (by walk_at "u") ?_; refine T_int ?_; intro _; refine T_store (.there (.there (.there (.there (.there .here))))) ?_; refine K_next ?_; refine T_cons ?_)
  refine T_For (fun _ => rfl) ?_
  (refine T_local (.there (.there .here)) ?_)
  refine T_iter_bytes ?_
  intro it oi hoi
  rename_i t1 t2
  generalize htgt : encOut (b.toList.map UInt8.toNat) = tgt
  refine C_any fun cc P hc hP => ?_
  have key : ∀ (m i : Nat) (oi : Obj) (vs : List Value) (ns : List Int) (e lb lc : Nat) (ta tc : Tok) (bv : Option Value), b.size - i = m → i ≤ b.size → BytesIt oi b t i → IntsAre vs ns → ns.length ≤ 3 * i → lb = 2 * i % 6 → lc < 65536 →
      ns ++ (enc ((b.toList.map UInt8.toNat).drop i) lb lc).map b64c ++ pads b.size = tgt →
      C fm 3 [some (.bytes b t), some (.bool false), some (.bytes b t), some (.ref o), some (.int lb ta), some (.int lc tc), bv] ((it, oi) :: (o, listOf vs.toArray e) :: rest) cc P := by
    subst hc
    subst hP
    intro m
    induction m with
    | zero =>
      intro i oi vs ns e lb lc ta tc bv hm hi hoi hvs hlen hlb hlc henc
      have hi' : i = b.size := by omega
      have hdrop : (b.toList.map UInt8.toNat).drop i = [] := by rw [hi']; simp
      rw [hdrop] at henc
      have hl20 : vs.length + 10 ≤ 1048576 := by rw [hvs.length]; omega
      refine C_for (T_end_bytes hoi (by walk_at "pick") (by rw [hi']; simp) (F_none ?_))
      (refine T_nil ?_; refine K_next ?_; refine T_cons ?_; refine T_If ?_; refine T_isTrue_Compare (by walk_at "u") ?_; refine T_local (.there (.there (.there (.there .here)))) ?_; refine T_int ?_; intro _; refine T_eqi ?_; refine T_truthy_bool ?_)
      refine If2.both (fun h2 => ?_) fun h2 => ?_
      · have h2' : lb = 2 := by have := beq_iff_eq.mp h2; omega
        have hp : pads b.size = [61, 61] := by unfold pads; rw [show (3 - b.size % 3) % 3 = 2 by omega]; rfl
        have hv : Builtin.bitAnd (lc : Int) 3 * 2 ^ Int.toNat 4 = ((lc % 4 * 16 : Nat) : Int) := by rw [bitAnd_m2, show (2 : Int) ^ Int.toNat 4 = 16 from rfl]; omega
        (refine T_cons ?_; refine T_Expr (by walk_at "u") ?_; refine T_CallM (by walk_at "u") ?_; refine T_local (.there (.there (.there .here))) ?_; refine T_meth_list PySem.F.slot_list_append PySem.F.type_list_append (by walk_at "mem") ?_; refine M_mk ?_; refine T_b2 (by walk_at "u") (by walk_at "u") ?_; refine T_args_cons (by walk_at "u") ?_; refine T_Subscript ?_; refine T_glob (List.mem_cons_of_mem _ (List.mem_cons_of_mem _ List.mem_cons_self)) ?_; refine T_BinOp ?_; refine T_BinOp ?_; refine T_local (.there (.there (.there (.there (.there .here))))) ?_; refine T_int ?_; intro _)
        refine T_and ?_
        (intro _; refine T_int ?_; intro _)
        refine T_lshift (by decide) (by decide) (by rw [bitAnd_m2]; omega) ?_
        rw [hv]
        (intro _)
        refine T_item_bytes (by omega) (by show _ < (64 : Int); omega) (by decide) (by walk_at "u") (by intro _; rfl) ?_
        (intro _; refine T_args_nil ?_)
        refine T_appendL (by walk_at "upd") (line20 (by omega)) ?_
        (refine K_next ?_; refine T_cons ?_; refine T_Expr (by walk_at "u") ?_; refine T_CallM (by walk_at "u") ?_; refine T_local (.there (.there (.there .here))) ?_; refine T_meth_list PySem.F.slot_list_append PySem.F.type_list_append (by walk_at "mem") ?_; refine M_mk ?_; refine T_b2 (by walk_at "u") (by walk_at "u") ?_; refine T_args_cons (by walk_at "u") ?_; refine T_int ?_; intro _; refine T_args_nil ?_)
        refine T_appendL (by walk_at "upd") (line20 (by simp; omega)) ?_
        (refine K_next ?_; refine T_cons ?_; refine T_Expr (by walk_at "u") ?_; refine T_CallM (by walk_at "u") ?_; refine T_local (.there (.there (.there .here))) ?_; refine T_meth_list PySem.F.slot_list_append PySem.F.type_list_append (by walk_at "mem") ?_; refine M_mk ?_; refine T_b2 (by walk_at "u") (by walk_at "u") ?_; refine T_args_cons (by walk_at "u") ?_; refine T_int ?_; intro _; refine T_args_nil ?_)
        refine T_appendL (by walk_at "upd") (line20 (by simp; omega)) ?_
        (refine K_next ?_; refine T_nil ?_; refine K_next ?_; refine T_cons ?_; refine T_If ?_; refine T_isTrue_val (by walk_at "u") ?_; refine T_local (.there .here) ?_; refine T_truthy_bool ?_)
        refine If2.f ?_
        (refine T_nil ?_; refine K_next ?_; refine T_cons ?_; refine T_Return ?_; refine T_CallN ?_; refine T_glob (List.mem_cons_of_mem _ (List.mem_cons_of_mem _ (List.mem_cons_of_mem _ List.mem_cons_self))) ?_; refine T_ty1 (by walk_at "u") (by walk_at "u") ?_; refine T_args_cons (by walk_at "u") ?_; refine T_local (.there (.there (.there .here))) ?_; refine T_args_nil ?_)
        refine T_bytes_of (ns := tgt) (by walk_at "mem") ?_ (by rw [← htgt]; exact encOut_range _) (line20 (by simp; omega)) ?_
        · rw [← henc, h2', hp]
          simp only [List.append_assoc]
          exact IntsAre.app hvs (.cons _ _ (.cons _ _ (.cons _ _ .nil)))
        (intro _; refine K_ret ?_)
        exact ⟨[], by (walk_at "sbl"); exact Sbl.refl, ⟨_, rfl⟩, rfl⟩
      (refine T_cons ?_; refine T_If ?_; refine T_isTrue_Compare (by walk_at "u") ?_; refine T_local (.there (.there (.there (.there .here)))) ?_; refine T_int ?_; intro _; refine T_eqi ?_; refine T_truthy_bool ?_)
      refine If2.both (fun h4 => ?_) fun h4 => ?_
      · have h4' : lb = 4 := by have := beq_iff_eq.mp h4; omega
        have hp : pads b.size = [61] := by unfold pads; rw [show (3 - b.size % 3) % 3 = 1 by omega]; rfl
        have hv : Builtin.bitAnd (lc : Int) 15 * 2 ^ Int.toNat 2 = ((lc % 16 * 4 : Nat) : Int) := by rw [bitAnd_m4, show (2 : Int) ^ Int.toNat 2 = 4 from rfl]; omega
        (refine T_cons ?_; refine T_Expr (by walk_at "u") ?_; refine T_CallM (by walk_at "u") ?_; refine T_local (.there (.there (.there .here))) ?_; refine T_meth_list PySem.F.slot_list_append PySem.F.type_list_append (by walk_at "mem") ?_; refine M_mk ?_; refine T_b2 (by walk_at "u") (by walk_at "u") ?_; refine T_args_cons (by walk_at "u") ?_; refine T_Subscript ?_; refine T_glob (List.mem_cons_of_mem _ (List.mem_cons_of_mem _ List.mem_cons_self)) ?_; refine T_BinOp ?_; refine T_BinOp ?_; refine T_local (.there (.there (.there (.there (.there .here))))) ?_; refine T_int ?_; intro _)
        refine T_and ?_
        (intro _; refine T_int ?_; intro _)
        refine T_lshift (by decide) (by decide) (by rw [bitAnd_m4]; omega) ?_
        rw [hv]
        (intro _)
        refine T_item_bytes (by omega) (by show _ < (64 : Int); omega) (by decide) (by walk_at "u") (by intro _; rfl) ?_
        (intro _; refine T_args_nil ?_)
        refine T_appendL (by walk_at "upd") (line20 (by omega)) ?_
        (refine K_next ?_; refine T_cons ?_; refine T_Expr (by walk_at "u") ?_; refine T_CallM (by walk_at "u") ?_; refine T_local (.there (.there (.there .here))) ?_; refine T_meth_list PySem.F.slot_list_append PySem.F.type_list_append (by walk_at "mem") ?_; refine M_mk ?_; refine T_b2 (by walk_at "u") (by walk_at "u") ?_; refine T_args_cons (by walk_at "u") ?_; refine T_int ?_; intro _; refine T_args_nil ?_)
        refine T_appendL (by walk_at "upd") (line20 (by simp; omega)) ?_
        (refine K_next ?_; refine T_nil ?_; refine K_next ?_; refine T_nil ?_; refine K_next ?_; refine T_cons ?_; refine T_If ?_; refine T_isTrue_val (by walk_at "u") ?_; refine T_local (.there .here) ?_; refine T_truthy_bool ?_)
        refine If2.f ?_
        (refine T_nil ?_; refine K_next ?_; refine T_cons ?_; refine T_Return ?_; refine T_CallN ?_; refine T_glob (List.mem_cons_of_mem _ (List.mem_cons_of_mem _ (List.mem_cons_of_mem _ List.mem_cons_self))) ?_; refine T_ty1 (by walk_at "u") (by walk_at "u") ?_; refine T_args_cons (by walk_at "u") ?_; refine T_local (.there (.there (.there .here))) ?_; refine T_args_nil ?_)
        refine T_bytes_of (ns := tgt) (by walk_at "mem") ?_ (by rw [← htgt]; exact encOut_range _) (line20 (by simp; omega)) ?_
        · rw [← henc, h4', hp]
          simp only [List.append_assoc]
          exact IntsAre.app hvs (.cons _ _ (.cons _ _ .nil))
        (intro _; refine K_ret ?_)
        exact ⟨[], by (walk_at "sbl"); exact Sbl.refl, ⟨_, rfl⟩, rfl⟩
      (refine T_nil ?_; refine K_next ?_; refine T_nil ?_; refine K_next ?_; refine T_cons ?_; refine T_If ?_; refine T_isTrue_val (by walk_at "u") ?_; refine T_local (.there .here) ?_; refine T_truthy_bool ?_)
      refine If2.f ?_
      (refine T_nil ?_; refine K_next ?_; refine T_cons ?_; refine T_Return ?_; refine T_CallN ?_; refine T_glob (List.mem_cons_of_mem _ (List.mem_cons_of_mem _ (List.mem_cons_of_mem _ List.mem_cons_self))) ?_; refine T_ty1 (by walk_at "u") (by walk_at "u") ?_; refine T_args_cons (by walk_at "u") ?_; refine T_local (.there (.there (.there .here))) ?_; refine T_args_nil ?_)
      have h2' : lb ≠ 2 := by intro h; subst h; exact absurd h2 (by decide)
      have h4' : lb ≠ 4 := by intro h; subst h; exact absurd h4 (by decide)
      refine T_bytes_of (ns := tgt) (by walk_at "mem") ?_ (by rw [← htgt]; exact encOut_range _) (line20 (by omega)) ?_
      · have hp : pads b.size = [] := by unfold pads; rw [show (3 - b.size % 3) % 3 = 0 by omega]; rfl
        rw [← henc, hp]
        simp only [enc, if_neg h2', if_neg h4', List.map_nil, List.append_nil]
        exact hvs
      (intro _; refine K_ret ?_)
      exact ⟨[], by (walk_at "sbl"); exact Sbl.refl, ⟨_, rfl⟩, rfl⟩
    | succ m ih =>
      intro i oi vs ns e lb lc ta tc bv hm hi hoi hvs hlen hlb hlc henc
      have hi' : i < b.size := by omega
      refine C_for (T_next_bytes hoi (by walk_at "upd") (Array.getElem?_eq_getElem hi') fun o' ub hoi' => F_some rfl ?_)
      generalize hx : b[i] = x
      have hx256 : x.toNat < 256 := UInt8.toNat_lt x
      (refine T_assignN (.there (.there (.there (.there (.there (.there .here)))))) ?_; refine T_cons ?_; refine T_Assign (by walk_at "u") ?_; refine T_BinOp ?_; refine T_BinOp ?_; refine T_BinOp ?_; refine T_local (.there (.there (.there (.there (.there .here))))) ?_; refine T_int ?_; intro _)
      refine T_lshift (by decide) (by decide) (by omega) ?_
      (intro _; refine T_local (.there (.there (.there (.there (.there (.there .here)))))) ?_)
      refine T_or ?_
      (intro _; refine T_int ?_; intro _)
      refine T_and ?_
      (intro _; refine T_store (.there (.there (.there (.there (.there .here))))) ?_; refine K_next ?_; refine T_cons ?_; refine T_Assign (by walk_at "u") ?_; refine T_BinOp ?_; refine T_local (.there (.there (.there (.there .here)))) ?_; refine T_int ?_; intro _; refine T_add ?_; intro _; refine T_store (.there (.there (.there (.there .here)))) ?_; refine K_next ?_; refine T_cons ?_)
      have hlc' : Builtin.bitAnd (Builtin.bitOr ((lc : Int) * 2 ^ Int.toNat 8) (x.toNat : Int)) 65535 = (((lc * 256 + x.toNat) % 65536 : Nat) : Int) := by
        have e1 : (lc : Int) * 2 ^ Int.toNat 8 = ((lc * 256 : Nat) : Int) := by simp
        rw [e1, bitOr_nat, or_shift _ _ hx256, bitAnd_m16]; rfl
      rw [hlc']
      have hdrop : (b.toList.map UInt8.toNat).drop i = x.toNat :: (b.toList.map UInt8.toNat).drop (i + 1) := by
        rw [List.drop_eq_getElem_cons (by simpa using hi')]
        simp [← hx]
      rw [hdrop, enc] at henc
      have hlc2 : (lc * 256 + x.toNat) % 65536 < 65536 := Nat.mod_lt _ (by decide)
      generalize (lc * 256 + x.toNat) % 65536 = lc' at henc hlc2 ⊢
      rename_i t3 t4 t5 t6
      generalize some (Value.int (x.toNat : Int) ub) = bv'
      refine T_While (C_any fun cw PW hcw hPW => ?_)
      have key2 : ∀ (n lb' : Nat) (vs : List Value) (ns : List Int) (e : Nat) (ta : Tok), lb' < 6 * n + 6 → IntsAre vs ns → ns.length + n ≤ 3 * i + 3 → lb' % 6 = (lb + 2) % 6 → ns ++ (emits (n + 1) lb' lc').map b64c ++ (enc ((b.toList.map UInt8.toNat).drop (i + 1)) ((lb + 2) % 6) lc').map b64c ++ pads b.size = tgt →
          C fm 3 [some (.bytes b t), some (.bool false), some (.bytes b t), some (.ref o), some (.int lb' ta), some (.int lc' t4), bv'] ((it, o') :: (o, listOf vs.toArray e) :: rest) cw PW := by
        subst hcw
        intro n
        induction n with
        | zero => 
          intro lb' vs ns e ta hn hvs hlen hlb' henc
          refine C_while ?_
          (refine T_isTrue_Compare (by walk_at "u") ?_; refine T_local (.there (.there (.there (.there .here)))) ?_; refine T_int ?_; intro _; refine T_ge ?_; refine T_truthy_bool ?_)
          refine If2.neg (decide_eq_false (by omega)) ?_
          (refine T_nil ?_)
          subst hPW
          (refine K_next ?_; refine T_nil ?_; refine L_next ?_)
          refine ih (i + 1) o' vs ns e lb' lc' ta t4 bv' (by omega) (by omega) hoi' hvs (by omega) (by omega) hlc2 ?_
          have e0 : emits (0 + 1) lb' lc' = [] := if_neg (by omega)
          rw [e0, List.map_nil, List.append_nil] at henc
          rw [show lb' = (lb + 2) % 6 by omega]; exact henc
        | succ n ih2 =>
          intro lb' vs ns e ta hn hvs hlen hlb' henc
          refine C_while ?_
          (refine T_isTrue_Compare (by walk_at "u") ?_; refine T_local (.there (.there (.there (.there .here)))) ?_; refine T_int ?_; intro _; refine T_ge ?_; refine T_truthy_bool ?_)
          refine If2.dec (fun h6 => ?_) fun h6 => ?_
          · have hl20 : vs.length + 10 ≤ 1048576 := by rw [hvs.length]; omega
            (refine T_cons ?_; refine T_Expr (by walk_at "u") ?_; refine T_CallM (by walk_at "u") ?_; refine T_local (.there (.there (.there .here))) ?_; refine T_meth_list PySem.F.slot_list_append PySem.F.type_list_append (by walk_at "mem") ?_; refine M_mk ?_; refine T_b2 (by walk_at "u") (by walk_at "u") ?_; refine T_args_cons (by walk_at "u") ?_; refine T_Subscript ?_; refine T_glob (List.mem_cons_of_mem _ (List.mem_cons_of_mem _ List.mem_cons_self)) ?_; refine T_BinOp ?_; refine T_BinOp ?_; refine T_local (.there (.there (.there (.there (.there .here))))) ?_; refine T_BinOp ?_; refine T_local (.there (.there (.there (.there .here)))) ?_; refine T_int ?_; intro _; refine T_subi ?_; intro _)
            refine T_rshift (by omega) ?_
            (intro _; refine T_int ?_; intro _)
            refine T_and ?_
            (intro _)
            have hv : Builtin.bitAnd ((lc' : Int).fdiv (2 ^ Int.toNat ((lb' : Int) - 6))) 63 = ((lc' / 2 ^ (lb' - 6) % 64 : Nat) : Int) := by
              rw [show Int.toNat ((lb' : Int) - 6) = lb' - 6 by omega, fdiv_nat, bitAnd_m6]; rfl
            rw [hv]
            have hv64 : lc' / 2 ^ (lb' - 6) % 64 < 64 := Nat.mod_lt _ (by decide)
            refine T_item_bytes (by omega) (by show _ < (64 : Int); omega) (by decide) (by walk_at "u") (by intro _; rfl) ?_
            (intro _; refine T_args_nil ?_)
            refine T_appendL (by walk_at "upd") (line20 (by omega)) ?_
            (refine K_next ?_; refine T_cons ?_; refine T_Assign (by walk_at "u") ?_; refine T_BinOp ?_; refine T_local (.there (.there (.there (.there .here)))) ?_; refine T_int ?_; intro _; refine T_subi ?_; intro _; refine T_store (.there (.there (.there (.there .here)))) ?_; refine K_next ?_; refine T_nil ?_; refine L_next ?_)
            rw [show (lb' : Int) - 6 = ((lb' - 6 : Nat) : Int) by omega]
            refine ih2 (lb' - 6) _ _ _ _ (by omega) (IntsAre.snoc hvs) (by rw [List.length_append, List.length_singleton]; omega) (by omega) ?_
            rw [← henc]
            have e1 : emits (n + 1 + 1) lb' lc' = lc' / 2 ^ (lb' - 6) % 64 :: emits (n + 1) (lb' - 6) lc' := if_pos (by omega)
            rw [e1, List.map_cons]
            simp only [List.append_assoc, List.cons_append, List.nil_append]
            rfl
          · (refine T_nil ?_)
            subst hPW
            (refine K_next ?_; refine T_nil ?_; refine L_next ?_)
            refine ih (i + 1) o' vs ns e lb' lc' ta t4 bv' (by omega) (by omega) hoi' hvs (by omega) (by omega) hlc2 ?_
            have e0 : emits (n + 1 + 1) lb' lc' = [] := if_neg (by omega)
            rw [e0, List.map_nil, List.append_nil] at henc
            rw [show lb' = (lb + 2) % 6 by omega]; exact henc
      rw [show (lb : Int) + 8 = ((lb + 8 : Nat) : Int) by omega]
      exact key2 2 (lb + 8) vs ns e _ (by omega) hvs (by omega) (by omega) (by rw [← henc]; simp)
  exact key b.size 0 oi [] [] 0 0 0 t1 t2 none (by omega) (by omega) hoi .nil (by decide) rfl (by decide) (by rw [← htgt]; simp [encOut])

/-! _law_figure, b64encode -/
def figure (x : Int) : Int := if x.fmod 4 > 1 then 60 + x.fmod 4 else (x.fdiv 4).fmod 62
theorem figure_spec (G : Gr) (hK : G.K = Mine.hd.heap_39 G.w.params) (x : Int) (t : Tok) : Sp G 1 [] (.ref 107) [.int x t] [] fun v post => (∃ t', v = .int (figure x) t') ∧ post = [] := by
  refine enter (N := [Str.ofString "x"]) (Gs := []) (binds := [(Str.ofString "x", .int x t)]) (vals := [some (.int x t)]) (ho := by rw [hK]; k_is) (hcd := by rw [hK]; k_is) (hbind := fun s X => BindsTo.of_eq rfl) [] (hN := rfl) (hv := rfl) (hnd := by decide) (hloc := by decide +kernel) (hglb := fun p hp => nomatch hp) (hcell := by decide +kernel) (hco := rfl) (hgen := rfl) (hk := rfl) ?_
  intro fm rest
  (refine T_cons ?_; refine T_If ?_; refine T_isTrue_Compare (by walk_at "u") ?_; refine T_BinOp ?_; refine T_local .here ?_; refine T_int ?_; intro _; refine T_mod (by decide) ?_; intro _; refine T_int ?_; intro _; refine T_gt ?_; refine T_truthy_bool ?_)
  refine If2.dec (fun h => ?_) fun h => ?_
  · (refine T_cons ?_; refine T_Return ?_; refine T_BinOp ?_; refine T_int ?_; intro _; refine T_BinOp ?_; refine T_local .here ?_; refine T_int ?_; intro _; refine T_mod (by decide) ?_; intro _; refine T_add ?_; intro _; refine K_ret ?_; refine K_ret ?_)
    exact ⟨[], Sbl.refl, ⟨_, by unfold figure; rw [if_pos h]; rfl⟩, rfl⟩
  · (refine T_nil ?_; refine K_next ?_; refine T_cons ?_; refine T_Return ?_; refine T_BinOp ?_; refine T_BinOp ?_; refine T_local .here ?_; refine T_int ?_; intro _; refine T_fdiv (by decide) (by decide) ?_; intro _; refine T_int ?_; intro _; refine T_mod (by decide) ?_; intro _; refine K_ret ?_)
    exact ⟨[], Sbl.refl, ⟨_, by unfold figure; rw [if_neg h]; rfl⟩, rfl⟩

theorem glb_b2a (G : Gr) (hK : G.K = Mine.hd.heap_39 G.w.params) : Glb G (Str.ofString "b2a_base64") (.ref 85) := .inl (by rw [hK]; k_is)
theorem type_translate : typeOf (.builtin "bytes.translate") = pure (.type "method_descriptor") := by show builtinType _ = _; rw [builtinType_eq_fast]; kernel_rfl
theorem mkt_find (K : Frag) : findCls K (.type "bytes") (.type "type") "maketrans" = some (.val (.builtin "bytes.maketrans")) := by kernel_rfl
theorem mkt_t : typeOf (.type "bytes") = pure (.type "type") := by kernel_rfl
theorem mkt_h : handedIn (.builtin "bytes.maketrans") = true := by decide +kernel
theorem mkt_s : Manifest.isStub "bytes" = false := by decide +kernel
/-- the octets of a list of numbers -/
theorem byteArr_size (ns : List Int) : (byteArr ns).size = ns.length := by simp [byteArr]
theorem encOut_len (os : List Nat) : (encOut os).length ≤ 4 * os.length + 4 := by
  have h1 : ∀ n lb lc, (emits n lb lc).length ≤ n := by
    intro n
    induction n with
    | zero => intro lb lc; exact Nat.le_refl _
    | succ n ih =>
      intro lb lc
      unfold emits
      split
      · have := ih (lb - 6) lc; simp; omega
      · simp
  have h2 : ∀ os lb lc, (enc os lb lc).length ≤ 3 * os.length + 1 := by
    intro os
    induction os with
    | nil => intro lb lc; unfold enc; split <;> (try split) <;> simp
    | cons b r ih =>
      intro lb lc
      unfold enc
      have a1 := h1 3 (lb + 8) ((lc * 256 + b) % 65536)
      have a2 := ih ((lb + 2) % 6) ((lc * 256 + b) % 65536)
      simp; omega
  have := h2 os 0 0
  simp [encOut, pads]; omega
/-- what b64encode gives with the two signs p0, p1 -/
def swapB (p0 p1 : UInt8) (c : UInt8) : UInt8 := if c = 43 then p0 else if c = 47 then p1 else c
theorem swapB_tab (p0 p1 : UInt8) (c : UInt8) : (transTab #[43, 47] #[p0, p1]).getD c.toNat c = swapB p0 p1 c := by
  have h : c.toNat < 256 := UInt8.toNat_lt c
  have hi : ∀ n < 256, identity8[n]? = some n.toUInt8 := by intro n hn; simp [identity8, hn]
  have hs : identity8.size = 256 := by simp [identity8]
  show ((identity8.setIfInBounds 43 p0).setIfInBounds 47 p1).getD c.toNat c = _
  rw [Array.getD_eq_getD_getElem?, Array.getElem?_setIfInBounds, Array.getElem?_setIfInBounds, hi _ h]
  unfold swapB
  have e : c.toNat.toUInt8 = c := by simp
  by_cases h1 : c = 43
  · subst h1; simp [hs]
  · by_cases h2 : c = 47
    · subst h2; simp [hs]
    · have n1 : ¬ 43 = c.toNat := fun q => h1 (by rw [← e, ← q]; rfl)
      have n2 : ¬ 47 = c.toNat := fun q => h2 (by rw [← e, ← q]; rfl)
      simp [n1, n2, h1, h2]
theorem transTab_size (p0 p1 : UInt8) : (transTab #[43, 47] #[p0, p1]).size = 256 := by
  show ((identity8.setIfInBounds 43 p0).setIfInBounds 47 p1).size = 256
  rw [Array.size_setIfInBounds, Array.size_setIfInBounds]; simp [identity8]
section
variable {G : Gr} {N : List Str} {Gs : List (Str × Value)} {Cs : List (Str × Addr)} {fm : Fm G N Gs Cs} {k : Nat} {vals : List (Option Value)} {l : Led} {P : Po Value}
theorem T_swapTab {p0 p1 t u} (h : ∀ tab w, tab.size = 256 → (∀ c : UInt8, tab.getD c.toNat c = swapB p0 p1 c) → P (.bytes tab w) vals l) : T fm k vals l (call (.builtin "bytes.maketrans") [.bytes #[43, 47] t, .bytes #[p0, p1] u]) P :=
  T_maketrans rfl (by rw [transTab_size]; decide) fun w => h _ w (transTab_size p0 p1) (swapB_tab p0 p1)
end
theorem b64_spec (G : Gr) (hK : G.K = Mine.hd.heap_39 G.w.params) (b : Array UInt8) (t u : Tok) (p0 p1 : UInt8) (hb : b.size ≤ 100000) :
    Sp G 5 [] (.ref 93) [.bytes b t, .bytes #[p0, p1] u] [] fun v post => (∃ u, v = .bytes ((byteArr (encOut (b.toList.map UInt8.toNat))).map (swapB p0 p1)) u) ∧ post = [] := by
  refine enter (N := [Str.ofString "s", Str.ofString "altchars", Str.ofString "encoded"])
    (Gs := [(Str.ofString "b2a_base64", .ref 85), (Str.ofString "len", .builtin "len"), (Str.ofString "bytes", .type "bytes")]) (binds := [(Str.ofString "s", .bytes b t), (Str.ofString "altchars", .bytes #[p0, p1] u)])
    (vals := [some (.bytes b t), some (.bytes #[p0, p1] u), none]) (ho := by rw [hK]; k_is) (hcd := by rw [hK]; k_is) (hbind := fun s X => binds_K X rfl (by rw [hK]; k_is) rfl rfl rfl) [Str.ofString "encoded"] (hN := rfl) (hv := rfl) (hnd := by decide) (hloc := by decide +kernel)
    (hglb := fun p hp => by
      rcases List.mem_cons.mp hp with rfl | hp
      · exact ⟨by decide +kernel, by decide, glb_b2a G hK⟩
      rcases List.mem_cons.mp hp with rfl | hp
      · exact ⟨by decide +kernel, by decide, glb_len G hK⟩
      rcases List.mem_cons.mp hp with rfl | hp
      · exact ⟨by decide +kernel, by decide, glb_bytes G hK⟩
      cases hp) (hcell := by decide +kernel) (hco := rfl) (hgen := rfl) (hk := rfl) ?_
  intro fm rest
  (refine T_cons ?_; refine T_Assign (by walk_at "u") ?_; refine T_CallNk ?_; refine T_glob List.mem_cons_self ?_; refine T_kk1 (by rw [hK]; k_is) (by walk_at "u") (by walk_at "u") (by walk_at "u") ?_; refine T_args_cons (by walk_at "u") ?_; refine T_local .here ?_; refine T_args_nil ?_; refine T_kw_cons ?_; refine T_bool ?_; refine T_kw_nil ?_)
  refine T_call (b2a_spec G hK b t hb) (by decide) .nil ?_
  rintro _ _ ⟨⟨w, rfl⟩, rfl⟩
  rw [List.nil_append]
  (refine T_store (.there (.there .here)) ?_; refine K_next ?_; refine T_cons ?_; refine T_If ?_; refine T_isTrue_Compare (by walk_at "u") ?_; refine T_local (.there .here) ?_; refine T_none ?_; refine T_isnot (by walk_at "u") ?_; refine T_truthy_bool ?_)
  refine If2.pos rfl ?_
  (refine T_cons ?_; refine T_Assert ?_; refine T_isTrue_Compare (by walk_at "u") ?_; refine T_CallN ?_; refine T_glob (List.mem_cons_of_mem _ List.mem_cons_self) ?_; refine T_b1 (by walk_at "u") (by walk_at "u") ?_; refine T_args_cons (by walk_at "u") ?_; refine T_local (.there .here) ?_; refine T_args_nil ?_)
  refine T_len_bytes (line20 (by simp)) ?_
  (intro _; refine T_int ?_; intro _; refine T_eqi ?_; refine T_truthy_bool ?_)
  refine ⟨rfl, ?_⟩
  (refine K_next ?_; refine T_cons ?_; refine T_Return ?_; refine T_CallM (by walk_at "u") ?_; refine T_local (.there (.there .here)) ?_)
  refine T_meth_bytes slot_translate type_translate ?_
  (refine M_mk ?_; refine T_b2 (by walk_at "u") (by walk_at "u") ?_; refine T_args_cons (by walk_at "u") ?_; refine T_CallM (by walk_at "u") ?_; refine T_glob (List.mem_cons_of_mem _ (List.mem_cons_of_mem _ List.mem_cons_self)) ?_)
  refine T_meth_type mkt_t mkt_s (mkt_find _) mkt_h ?_
  (refine M_mk ?_; refine T_b1 (by walk_at "u") (by walk_at "u") ?_; refine T_args_cons (by walk_at "u") ?_; refine T_bytes ?_; intro _; refine T_args_cons (by walk_at "u") ?_; refine T_local (.there .here) ?_; refine T_args_nil ?_)
  refine T_swapTab ?_
  intro tab tw hts htc
  (refine T_args_nil ?_)
  refine T_translate hts ?_ ?_
  · rw [byteArr_size]
    have := encOut_len (b.toList.map UInt8.toNat)
    exact line20 (by simp at this; omega)
  intro w'
  (refine K_ret ?_; refine K_ret ?_)
  refine ⟨[], Sbl.refl, ⟨w', ?_⟩, rfl⟩
  show Value.bytes _ _ = _
  congr 1
  congr 1
  funext c
  exact htc c

/-! _law_octets -/
theorem glb_range (G : Gr) (hK : G.K = Mine.hd.heap_39 G.w.params) : Glb G (Str.ofString "range") (.type "range") := .inr ⟨by rw [hK]; k_is, by boot_by_name, by decide⟩
def nz (fs : List Nat) : List Int := fs.map fun n : Nat => (n : Int)
def octs : List Nat → List Nat
  | a :: b :: c :: d :: r => (a * 4 + b / 16) :: (b % 16 * 16 + c / 4) :: (c % 4 * 64 + d) :: octs r
  | [a, b, c] => [a * 4 + b / 16, b % 16 * 16 + c / 4]
  | [a, b] => [a * 4 + b / 16]
  | _ => []
theorem fdivN (a b : Nat) : (a : Int).fdiv (b : Int) = ((a / b : Nat) : Int) := by
  rw [Int.fdiv_eq_ediv_of_nonneg _ (by omega)]; rfl
theorem fmodN (a b : Nat) : (a : Int).fmod (b : Int) = ((a % b : Nat) : Int) := by
  rw [Int.fmod_eq_emod_of_nonneg _ (by omega)]; rfl

theorem octets_spec (G : Gr) (hK : G.K = Mine.hd.heap_39 G.w.params) (a : Addr) (vs : List Value) (fs : List Nat) (e : Nat) (hvs : IntsAre vs (nz fs)) (hlen : fs.length ≤ 1000) :
    Sp G 1 [(a, listOf vs.toArray e)] (.ref 114) [.ref a] [] fun v post => ∃ o os e', v = .ref o ∧ post = [(o, listOf (List.toArray os) e'), (a, listOf vs.toArray e)] ∧ IntsAre os (nz (octs fs)) := by
  refine enter (N := [Str.ofString "figures", Str.ofString "octets", Str.ofString "k", Str.ofString "four", Str.ofString "a", Str.ofString "b", Str.ofString "c", Str.ofString "d"])
    (Gs := [(Str.ofString "range", .type "range"), (Str.ofString "len", .builtin "len")]) (binds := [(Str.ofString "figures", .ref a)])
    (vals := [some (.ref a), none, none, none, none, none, none, none]) (ho := by rw [hK]; k_is) (hcd := by rw [hK]; k_is) (hbind := fun s X => BindsTo.of_eq rfl) [Str.ofString "octets", Str.ofString "k", Str.ofString "four", Str.ofString "a", Str.ofString "b", Str.ofString "c", Str.ofString "d"] (hN := rfl) (hv := rfl) (hnd := by decide) (hloc := by decide +kernel)
    (hglb := fun p hp => by
      rcases List.mem_cons.mp hp with rfl | hp
      · exact ⟨by decide +kernel, by decide, glb_range G hK⟩
      rcases List.mem_cons.mp hp with rfl | hp
      · exact ⟨by decide +kernel, by decide, glb_len G hK⟩
      cases hp) (hcell := by decide +kernel) (hco := rfl) (hgen := rfl) (hk := rfl) ?_
  intro fm rest
  rw [List.singleton_append]
  (refine T_cons ?_; refine T_Assign (by walk_at "u") ?_; refine T_List ?_; refine T_args_nil ?_)
  refine T_newList ?_
  intro o
  (refine T_store (.there .here) ?_; refine K_next ?_; refine T_cons ?_)
  refine T_For (fun _ => rfl) ?_
  have hl1 : vs.length = fs.length := by rw [hvs.length]; simp [nz]
  (refine T_CallN ?_; refine T_glob List.mem_cons_self ?_; refine T_ty1 (by walk_at "u") (by walk_at "u") ?_; refine T_args_cons (by walk_at "u") ?_; refine T_int ?_; intro _; refine T_args_cons (by walk_at "u") ?_; refine T_CallN ?_; refine T_glob (List.mem_cons_of_mem _ List.mem_cons_self) ?_; refine T_b1 (by walk_at "u") (by walk_at "u") ?_; refine T_args_cons (by walk_at "u") ?_; refine T_local .here ?_; refine T_args_nil ?_)
  refine T_len_list (by walk_at "mem") (line20 (by simp; omega)) ?_
  (intro _; refine T_args_cons (by walk_at "u") ?_; refine T_int ?_; intro _; refine T_args_nil ?_)
  refine T_range3 (by decide) (PyProof.noPylong_small (by decide)) ?_
  intro D
  have hrs : Builtin.Range.rangeSize 0 (vs.toArray.size : Int) 4 = (((fs.length + 3) / 4 : Nat) : Int) := by
    unfold Builtin.Range.rangeSize
    simp only [List.size_toArray, hl1]
    rw [if_pos (by decide)]
    split <;> omega
  refine T_iter_range (by walk_at "mem") ?_ ?_
  · unfold Builtin.Range.small
    rw [hrs]
    unfold Builtin.Range.rangeFitsLong
    simp only [List.size_toArray, hl1]
    simp
    omega
  intro it
  rw [hrs]
  refine C_any fun cc P hc hP => ?_
  rename_i ta tb tc
  have key : ∀ (m i : Nat) (os : List Value) (e1 : Nat) (kv fv av bv cv dv : Option Value), m = (fs.length - 4 * i + 3) / 4 → (∃ pre, octs fs = pre ++ octs (fs.drop (4 * i)) ∧ IntsAre os (nz pre) ∧ pre.length ≤ 3 * i) → i ≤ 300 →
      C fm 0 [some (.ref a), some (.ref o), kv, fv, av, bv, cv, dv] ((it, rangeIt ((4 * i : Nat) : Int) (m : Int) 4) :: (D, rangeO 0 (vs.toArray.size : Int) 4 ta tb tc) :: (o, listOf os.toArray e1) :: (a, listOf vs.toArray e) :: rest) cc P := by
    subst hc hP
    intro m
    induction m with
    | zero =>
      intro i os e1 kv fv av bv cv dv hm ⟨pre, ho, hos, hpl⟩ hi
      refine C_for (T_end_range (by walk_at "pick") (by decide) (F_none ?_))
      (refine T_nil ?_; refine K_next ?_; refine T_cons ?_; refine T_Return ?_; refine T_local (.there .here) ?_; refine K_ret ?_)
      refine ⟨[(o, listOf os.toArray e1), (a, listOf vs.toArray e)], by walk_at "sbl2", o, os, e1, rfl, rfl, ?_⟩
      rw [ho, List.drop_eq_nil_of_le (by omega)]
      simpa [octs] using hos
    | succ m ih =>
      intro i os e1 kv fv av bv cv dv hm ⟨pre, ho, hos, hpl⟩ hi
      have hol : os.length ≤ 3 * i := by rw [hos.length]; simpa [nz] using hpl
      refine C_for (T_next_range (by walk_at "upd") (by omega) fun tk => F_some rfl ?_)
      (refine T_assignN (.there (.there .here)) ?_; refine T_cons ?_; refine T_Assign (by walk_at "u") ?_; refine T_Subscript ?_; refine T_local .here ?_; refine T_Slice ?_; refine T_part_some ?_; refine T_local (.there (.there .here)) ?_; refine T_part_some ?_; refine T_BinOp ?_; refine T_local (.there (.there .here)) ?_; refine T_int ?_; intro _; refine T_add ?_; intro _; intro _)
      rename_i sl
      refine T_slice_list (lo := some ((4 * i : Nat) : Int)) (hi := some (((4 * i : Nat) : Int) + 4)) (by walk_at "mem") (by walk_at "mem") (.int _ _) (.int _ _) (line20 (by omega)) ?_
      intro D4
      rw [show ((4 * i : Nat) : Int) + 4 = ((4 * i + 4 : Nat) : Int) by omega, slc_both, show 4 * i + 4 - 4 * i = 4 by omega, show 4 * i + 4 = 4 * (i + 1) by omega, show ((m + 1 : Nat) : Int) - 1 = (m : Int) by omega]
      have hd : IntsAre (vs.drop (4 * i)) (nz (fs.drop (4 * i))) := by have := hvs.drop (4 * i); simpa [nz] using this
      have hd4 : fs.drop (4 * (i + 1)) = (fs.drop (4 * i)).drop 4 := by rw [List.drop_drop, Nat.mul_add]
      have hgl : (fs.drop (4 * i)).length = fs.length - 4 * i := by simp
      have ih' := fun os e1 kv fv av bv cv dv h1 h2 h3 => ih (i + 1) os e1 kv fv av bv cv dv h1 h2 h3
      rw [hd4] at ih'
      generalize vs.drop (4 * i) = ws at hd ⊢
      generalize fs.drop (4 * i) = gs at hd hgl ih' ho
      (refine T_store (.there (.there (.there .here))) ?_; refine K_next ?_; refine T_cons ?_; refine T_AssignT (by walk_at "u") (by walk_at "u") ?_; refine T_Subscript ?_; refine T_BinOp ?_; refine T_local (.there (.there (.there .here))) ?_; refine T_List ?_; refine T_args_cons (by walk_at "u") ?_; refine T_int ?_; intro _; refine T_args_cons (by walk_at "u") ?_; refine T_int ?_; intro _; refine T_args_cons (by walk_at "u") ?_; refine T_int ?_; intro _; refine T_args_nil ?_)
      refine T_newList ?_
      intro Z
      rename_i z1 z2 z3
      skip
      refine T_add_lists (by walk_at "mem") (by walk_at "mem") (line20 (by simp; omega)) ?_
      intro Sm
      (refine T_Slice ?_; refine T_part_none ?_; refine T_part_some ?_; refine T_int ?_; intro _; intro _)
      rename_i t4 sl2
      refine T_slice_list (lo := none) (hi := some 4) (by walk_at "mem") (by walk_at "mem") .none (.int _ _) (line20 (by simp; omega)) ?_
      intro D5
      rw [show (some (4 : Int)) = some ((4 : Nat) : Int) from rfl, slc_to]
      obtain ⟨x, y, z, u, tA, tB, tC, tE, n, hn, hn3, h4, hoc⟩ : ∃ (x y z u : Nat) (tA tB tC tE : Tok) (n : Nat), (List.take 4 ws).length = n + 1 ∧ n ≤ 3 ∧ List.take 4 (List.take 4 ws ++ [.int 0 z1, .int 0 z2, .int 0 z3]) = [.int x tA, .int y tB, .int z tC, .int u tE] ∧
          octs gs = ([x * 4 + y / 16, y % 16 * 16 + z / 4, z % 4 * 64 + u].take n) ++ octs (gs.drop 4) := by
        rcases gs with _ | ⟨x1, gs⟩
        · exfalso; simp at hgl; omega
        obtain ⟨t1, ws1, rfl, hd1⟩ := IntsAre.cons_inv hd
        rcases gs with _ | ⟨x2, gs⟩
        · obtain rfl := IntsAre.nil_inv hd1
          exact ⟨x1, 0, 0, 0, t1, z1, z2, z3, 0, rfl, by decide, rfl, rfl⟩
        obtain ⟨t2, ws2, rfl, hd2⟩ := IntsAre.cons_inv hd1
        rcases gs with _ | ⟨x3, gs⟩
        · obtain rfl := IntsAre.nil_inv hd2
          exact ⟨x1, x2, 0, 0, t1, t2, z1, z2, 1, rfl, by decide, rfl, rfl⟩
        obtain ⟨t3, ws3, rfl, hd3⟩ := IntsAre.cons_inv hd2
        rcases gs with _ | ⟨x4, gs⟩
        · obtain rfl := IntsAre.nil_inv hd3
          exact ⟨x1, x2, x3, 0, t1, t2, t3, z1, 2, rfl, by decide, rfl, rfl⟩
        obtain ⟨t4, ws4, rfl, hd4⟩ := IntsAre.cons_inv hd3
        exact ⟨x1, x2, x3, x4, t1, t2, t3, t4, 3, rfl, by decide, rfl, rfl⟩
      rw [h4]
      generalize List.take 4 ws = w4 at hn ⊢
      refine T_unpack_list (by walk_at "mem") rfl rfl ?_
      (refine T_asg_cons (by walk_at "u") ?_; refine T_assignN (.there (.there (.there (.there .here)))) ?_; refine T_asg_cons (by walk_at "u") ?_; refine T_assignN (.there (.there (.there (.there (.there .here))))) ?_; refine T_asg_cons (by walk_at "u") ?_; refine T_assignN (.there (.there (.there (.there (.there (.there .here)))))) ?_; refine T_asg_cons (by walk_at "u") ?_; refine T_assignN (.there (.there (.there (.there (.there (.there (.there .here))))))) ?_; refine T_asg_nil ?_; refine K_next ?_; refine T_cons ?_; refine T_Expr (by walk_at "u") ?_; refine T_CallM (by walk_at "u") ?_; refine T_local (.there .here) ?_; refine T_meth_list PySem.F.slot_list_extend PySem.F.type_list_extend (by walk_at "mem") ?_; refine M_mk ?_; refine T_b2 (by walk_at "u") (by walk_at "u") ?_; refine T_args_cons (by walk_at "u") ?_; refine T_Subscript ?_; refine T_List ?_; refine T_args_cons (by walk_at "u") ?_; refine T_BinOp ?_; refine T_BinOp ?_; refine T_local (.there (.there (.there (.there .here)))) ?_; refine T_int ?_; intro _)
      refine T_mul (.of_right (by decide)) ?_
      (intro _; refine T_BinOp ?_; refine T_local (.there (.there (.there (.there (.there .here))))) ?_; refine T_int ?_; intro _; refine T_fdiv (by decide) (by decide) ?_; intro _; refine T_add ?_; intro _; refine T_args_cons (by walk_at "u") ?_; refine T_BinOp ?_; refine T_BinOp ?_; refine T_BinOp ?_; refine T_local (.there (.there (.there (.there (.there .here))))) ?_; refine T_int ?_; intro _; refine T_mod (by decide) ?_; intro _; refine T_int ?_; intro _)
      refine T_mul (.of_right (by decide)) ?_
      (intro _; refine T_BinOp ?_; refine T_local (.there (.there (.there (.there (.there (.there .here)))))) ?_; refine T_int ?_; intro _; refine T_fdiv (by decide) (by decide) ?_; intro _; refine T_add ?_; intro _; refine T_args_cons (by walk_at "u") ?_; refine T_BinOp ?_; refine T_BinOp ?_; refine T_BinOp ?_; refine T_local (.there (.there (.there (.there (.there (.there .here)))))) ?_; refine T_int ?_; intro _; refine T_mod (by decide) ?_; intro _; refine T_int ?_; intro _)
      refine T_mul (.of_right (by decide)) ?_
      (intro _; refine T_local (.there (.there (.there (.there (.there (.there (.there .here))))))) ?_; refine T_add ?_; intro _; refine T_args_nil ?_)
      refine T_newList ?_
      intro D6
      rename_i t15 _ _ _ _ _ _ t8 _ _ _ _ t3
      (refine T_Slice ?_; refine T_part_none ?_; refine T_part_some ?_; refine T_BinOp ?_; refine T_CallN ?_; refine T_glob (List.mem_cons_of_mem _ List.mem_cons_self) ?_; refine T_b1 (by walk_at "u") (by walk_at "u") ?_; refine T_args_cons (by walk_at "u") ?_; refine T_local (.there (.there (.there .here))) ?_; refine T_args_nil ?_)
      refine T_len_list (by walk_at "mem") (line20 (by simp; omega)) ?_
      (intro _; refine T_int ?_; intro _; refine T_subi ?_; intro _; intro _)
      rename_i sl3
      refine T_slice_list (lo := none) (hi := some (n : Int)) (by walk_at "mem") (by walk_at "mem") .none (by rw [show ((w4.toArray.size : Int) - 1) = (n : Int) by simp; omega]; exact .int _ _) (line20 (by simp)) ?_
      intro D7
      rw [slc_to]
      (refine T_args_nil ?_)
      refine T_extend (fun _ => by walk_at "upd") (by walk_at "mem") (line20 (by simp; omega)) ?_
      intro e2
      (refine K_next ?_; refine T_nil ?_; refine L_next ?_)
      refine C_weak ?_ (ih' (os ++ List.take n [Value.int ((x : Int) * 4 + (y : Int).fdiv 16) t15, Value.int ((y : Int).fmod 16 * 16 + (z : Int).fdiv 4) t8, Value.int ((z : Int).fmod 4 * 64 + (u : Int)) t3]) e2 _ _ _ _ _ _ (by omega) ⟨pre ++ ([x * 4 + y / 16, y % 16 * 16 + z / 4, z % 4 * 64 + u].take n), ?_, ?_, ?_⟩ ?_)
      · walk_at "sbl"
      · rw [ho, hoc, List.append_assoc]
      · have hv : IntsAre [Value.int ((x : Int) * 4 + (y : Int).fdiv 16) t15, Value.int ((y : Int).fmod 16 * 16 + (z : Int).fdiv 4) t8, Value.int ((z : Int).fmod 4 * 64 + (u : Int)) t3] (nz [x * 4 + y / 16, y % 16 * 16 + z / 4, z % 4 * 64 + u]) := by
          have e1 : (x : Int) * 4 + (y : Int).fdiv 16 = ((x * 4 + y / 16 : Nat) : Int) := by rw [show (16 : Int) = ((16 : Nat) : Int) from rfl, fdivN]; omega
          have e2 : (y : Int).fmod 16 * 16 + (z : Int).fdiv 4 = ((y % 16 * 16 + z / 4 : Nat) : Int) := by rw [show (y : Int).fmod 16 = (y : Int).fmod ((16 : Nat) : Int) from rfl, fmodN, show (z : Int).fdiv 4 = (z : Int).fdiv ((4 : Nat) : Int) from rfl, fdivN]; omega
          have e3 : (z : Int).fmod 4 * 64 + (u : Int) = ((z % 4 * 64 + u : Nat) : Int) := by rw [show (z : Int).fmod 4 = (z : Int).fmod ((4 : Nat) : Int) from rfl, fmodN]; omega
          rw [e1, e2, e3]
          exact .cons _ _ (.cons _ _ (.cons _ _ .nil))
        have := IntsAre.app hos (hv.take n)
        simpa [nz] using this
      · simp; omega
      · omega
  exact key ((fs.length + 3) / 4) 0 [] 0 none none none none none none (by omega) ⟨[], rfl, .nil, by simp⟩ (by omega)

/-! _law_face -/
def alpha62 : List Nat := (List.range 26).map (65 + ·) ++ (List.range 26).map (97 + ·) ++ (List.range 10).map (48 + ·)
def sgn (p0 p1 : Nat) (f : Nat) : Nat := (alpha62 ++ [p0, p1]).getD f 0
def kept (fs : List Nat) : List Nat :=
  if fs.length % 4 = 1 then fs.dropLast else if fs.length % 4 = 0 then fs else
    fs.dropLast ++ [fs.getLast?.getD 0 - fs.getLast?.getD 0 % (if fs.length % 4 = 2 then 16 else 4)]
def face (fs : List Nat) (p0 p1 : Nat) : List Nat := (kept fs).map (sgn p0 p1) ++ List.replicate ((4 - (kept fs).length % 4) % 4) 61
theorem bindL_step {kd : Str → Option NameKind} {n v r N vals vals'} (nd : N.Nodup) (hk : kd n = some .local) (hp : PutAt N vals n v vals') : bindL kd ((n, v) :: r) (Loc N vals) = bindL kd r (Loc N vals') := by
  rw [bindL, if_pos hk, hp.loc nd]
theorem loc_nones (N : List Str) : (fun _ => none) = Loc N (N.map fun _ => none) := funext fun y => (loc_none N y).symm
theorem alpha_str : Str.ofString "ABCDEFGHIJKLMNOPQRSTUVWXYZabcdefghijklmnopqrstuvwxyz0123456789" = S alpha62 := by decide +kernel
theorem IntsAre.snoc_inv {a : List Int} {b : Int} : ∀ {ks : List Value}, IntsAre ks (a ++ [b]) → ∃ ks0 t, ks = ks0 ++ [.int b t] ∧ IntsAre ks0 a := by
  induction a with
  | nil =>
    intro ks h
    obtain ⟨t, ks', rfl, h'⟩ := IntsAre.cons_inv h
    obtain rfl := IntsAre.nil_inv h'
    exact ⟨[], t, rfl, .nil⟩
  | cons x a ih =>
    intro ks h
    obtain ⟨t, ks', rfl, h'⟩ := IntsAre.cons_inv h
    obtain ⟨ks0, t', rfl, h0⟩ := ih h'
    exact ⟨.int x t :: ks0, t', rfl, .cons x t h0⟩
theorem face_spec (G : Gr) (hK : G.K = Mine.hd.heap_39 G.w.params) (a : Addr) (vs : List Value) (fs : List Nat) (e : Nat) (p0 p1 : Nat) (tp : Tok) (hvs : IntsAre vs (nz fs)) (h64 : ∀ f ∈ fs, f < 64) (hlen : fs.length ≤ 1000) (h1 : 1 ≤ fs.length) :
    Sp G 1 [(a, listOf vs.toArray e)] (.ref 119) [.ref a, .str (S [p0, p1]) tp] [] fun v post => (∃ t, v = .str (S (face fs p0 p1)) t) ∧ post = [(a, listOf vs.toArray e)] := by
  refine enterC (N := [Str.ofString "figures", Str.ofString "pair", Str.ofString "left", Str.ofString "kept"]) (Gs := [(Str.ofString "len", .builtin "len")]) (binds := [(Str.ofString "figures", .ref a), (Str.ofString "pair", .str (S [p0, p1]) tp)]) (vals := [some (.ref a), some (.str (S [p0, p1]) tp), none, none]) (x := Str.ofString "signs") (cv := none)
    (ho := by rw [hK]; k_is) (hcd := by rw [hK]; k_is) (hbind := fun s X => BindsTo.of_eq rfl) rfl (hL := fun y => ?_) rfl (fun _ => rfl) rfl rfl (hnd := by decide) (hloc := by decide +kernel)
    (hglb := fun p hp => by
      rcases List.mem_cons.mp hp with rfl | hp
      · exact ⟨by decide +kernel, by decide, glb_len G hK⟩
      cases hp) (hco := rfl) (hgen := rfl) (hk := rfl) ?_
  · refine congrFun (a := y) ?_
    rw [loc_nones [Str.ofString "figures", Str.ofString "pair", Str.ofString "left", Str.ofString "kept"]]
    exact (bindL_step (by decide) (by decide +kernel) .here).trans (bindL_step (by decide) (by decide +kernel) (.there .here))
  intro L o fm rest ho hE
  have hcl : ∀ n p, closureFor { kind := .function, names := [(Str.ofString ".0", .local), (n, .local), (Str.ofString "signs", .free)], isGenerator := false, isCoroutine := false, more := p } fm.env = pure [(Str.ofString "signs", L + 1)] := by rw [hE]; intro n p; rfl
  have hce : fm.env.scope.names.lookup (Str.ofString "signs") = some .cell := by rw [hE]; rfl
  generalize hc : L + 1 = c at fm hcl ⊢
  clear hE
  show T fm 0 _ ((c, o) :: (a, listOf vs.toArray e) :: rest) _ _
  (refine T_cons ?_; refine T_Assign (by walk_at "u") ?_; refine T_BinOp ?_; refine T_str ?_; intro _; refine T_local (.there .here) ?_)
  rw [alpha_str]
  refine T_adds (by rw [S_app, S_len]; exact line20 (by simp [alpha62])) ?_
  rw [S_app]
  intro ts
  refine T_storeCell (c := c) hce (by simp [List.lookup]) (fun _ => by walk_at "upd") ho ?_
  intro o1 ho1
  have hl1 : vs.length = fs.length := by rw [hvs.length]; simp [nz]
  (refine K_next ?_; refine T_cons ?_; refine T_Assign (by walk_at "u") ?_; refine T_BinOp ?_; refine T_CallN ?_; refine T_glob List.mem_cons_self ?_; refine T_b1 (by walk_at "u") (by walk_at "u") ?_; refine T_args_cons (by walk_at "u") ?_; refine T_local .here ?_; refine T_args_nil ?_)
  refine T_len_list (by walk_at "mem") (line20 (by simp; omega)) ?_
  (intro _; refine T_int ?_; intro _; refine T_mod (by decide) ?_)
  rw [show ((vs.toArray.size : Int).fmod 4) = ((fs.length % 4 : Nat) : Int) by rw [List.size_toArray, hl1]; exact fmodN _ 4]
  intro t4
  refine T_store (.there (.there .here)) ?_
  refine K_next ?_
  refine T_cons ?_
  refine T_Assign (by walk_at "u") ?_
  have hks : ∃ ks1 : List Nat, ks1 = if fs.length % 4 = 1 then fs.dropLast else fs := ⟨_, rfl⟩
  obtain ⟨ks1, hks1⟩ := hks
  refine T_mono (P := fun v vals' l' => ∃ kd ks, v = .ref kd ∧ vals' = [some (.ref a), some (.str (S [p0, p1]) tp), some (.int ((fs.length % 4 : Nat) : Int) t4), none] ∧ Sbl ((kd, listOf (List.toArray ks) 0) :: (c, o1) :: (a, listOf vs.toArray e) :: rest) l' ∧ IntsAre ks (nz ks1)) ?_ ?_
  · (refine T_IfExp ?_; refine T_isTrue_Compare (by walk_at "u") ?_; refine T_local (.there (.there .here)) ?_; refine T_int ?_; intro _; refine T_eqi ?_; refine T_truthy_bool ?_)
    refine If2.both (fun h => ?_) fun h => ?_
    · have hm1 : fs.length % 4 = 1 := by have := beq_iff_eq.mp h; omega
      (refine T_Subscript ?_; refine T_local .here ?_; refine T_Slice ?_; refine T_part_none ?_; refine T_part_some ?_; refine T_BinOp ?_; refine T_CallN ?_; refine T_glob List.mem_cons_self ?_; refine T_b1 (by walk_at "u") (by walk_at "u") ?_; refine T_args_cons (by walk_at "u") ?_; refine T_local .here ?_; refine T_args_nil ?_)
      refine T_len_list (by walk_at "mem") (line20 (by simp; omega)) ?_
      (intro _; refine T_int ?_; intro _; refine T_subi ?_; intro _; intro _)
      rename_i sl
      refine T_slice_list (lo := none) (hi := some ((fs.length - 1 : Nat) : Int)) (by walk_at "mem") (by walk_at "mem") .none (by rw [show ((vs.toArray.size : Int) - 1) = ((fs.length - 1 : Nat) : Int) by simp; omega]; exact .int _ _) (line20 (by omega)) ?_
      intro kd
      rw [slc_to]
      refine ⟨kd, _, rfl, rfl, by walk_at "sbl", ?_⟩
      rw [hks1, if_pos hm1, List.dropLast_eq_take]
      have := hvs.take (fs.length - 1)
      simpa [nz] using this
    · have hm1 : fs.length % 4 ≠ 1 := by intro q; rw [q] at h; exact absurd h (by decide)
      (refine T_Subscript ?_; refine T_local .here ?_; refine T_Slice ?_; refine T_part_none ?_; refine T_part_none ?_; intro _)
      rename_i sl
      refine T_slice_list (lo := none) (hi := none) (by walk_at "mem") (by walk_at "mem") .none .none (line20 (by omega)) ?_
      intro kd
      rw [slc_all]
      refine ⟨kd, _, rfl, rfl, by walk_at "sbl", ?_⟩
      rw [hks1, if_neg hm1]
      exact hvs
  rintro _ _ _ ⟨kd, ks, rfl, rfl, hsb, hks⟩
  refine T_weak hsb ?_
  have hk64 : ∀ f ∈ ks1, f < 64 := by
    intro f hf
    rw [hks1] at hf
    split at hf
    · exact h64 f (List.dropLast_subset _ hf)
    · exact h64 f hf
  (refine T_store (.there (.there (.there .here))) ?_; refine K_next ?_; refine T_cons ?_)
  refine T_mono (P := fun f vals' l' => f = .next ∧ ∃ ks2 e2, vals' = [some (.ref a), some (.str (S [p0, p1]) tp), some (.int ((fs.length % 4 : Nat) : Int) t4), some (.ref kd)] ∧ Sbl ((kd, listOf (List.toArray ks2) e2) :: (c, o1) :: (a, listOf vs.toArray e) :: rest) l' ∧ IntsAre ks2 (nz (kept fs))) ?_ ?_
  · (refine T_If ?_; refine T_isTrue_Compare (by walk_at "u") ?_; refine T_local (.there (.there .here)) ?_; refine T_int ?_; intro _; refine T_gt ?_; refine T_truthy_bool ?_)
    refine If2.dec (fun h => ?_) fun h => ?_
    · have hm : fs.length % 4 > 1 := by omega
      have hne : fs ≠ [] := by intro q; rw [q] at h1; simp at h1
      obtain ⟨fs0, x, hfs⟩ : ∃ fs0 x, fs = fs0 ++ [x] := ⟨fs.dropLast, fs.getLast hne, (List.dropLast_concat_getLast hne).symm⟩
      rw [hks1, if_neg (by omega), hfs] at hks
      obtain ⟨ks0, tx, rfl, hk0⟩ := IntsAre.snoc_inv (a := nz fs0) (b := (x : Int)) (by simpa [nz] using hks)
      have hl0 : ks0.length = fs0.length := by rw [hk0.length]; simp [nz]
      have hfl : fs.length = fs0.length + 1 := by rw [hfs]; simp
      (refine T_cons ?_; refine T_AugS (ha := fun _ _ _ => rfl) ?_; refine T_local (.there (.there (.there .here))) ?_; refine T_UnaryOp ?_; refine T_int ?_; intro _; refine T_neg ?_; intro _)
      refine T_get_last (by walk_at "mem") ?_
      (refine T_BinOp ?_; refine T_Subscript ?_; refine T_local (.there (.there (.there .here))) ?_; refine T_UnaryOp ?_; refine T_int ?_; intro _; refine T_neg ?_; intro _)
      refine T_item_last (by walk_at "mem") (by walk_at "u") ?_
      (refine T_IfExp ?_; refine T_isTrue_Compare (by walk_at "u") ?_; refine T_local (.there (.there .here)) ?_; refine T_int ?_; intro _; refine T_eqi ?_; refine T_truthy_bool ?_)
      refine If2.both (fun h2 => ?_) fun h2 => ?_
      all_goals ((refine T_int ?_; intro _; refine T_mod (by decide) ?_; intro _; refine T_isubi ?_; intro _); rename_i t16; refine T_set_last (fun _ => by walk_at "upd") (by omega) ?_; (intro _; refine K_next ?_; refine T_nil ?_); refine ⟨rfl, _, _, rfl, by walk_at "sbl", ?_⟩)
      · have q2 : fs.length % 4 = 2 := by have := beq_iff_eq.mp h2; omega
        unfold kept
        rw [if_neg (by omega), if_neg (by omega), if_pos q2, hfs]
        have := IntsAre.snoc (t := t16) (n := ((x - x % 16 : Nat) : Int)) hk0
        rw [show (x : Int) - (x : Int).fmod 16 = ((x - x % 16 : Nat) : Int) by rw [show (x : Int).fmod 16 = (x : Int).fmod ((16 : Nat) : Int) from rfl, fmodN]; omega]
        simpa [nz] using this
      · have q2 : ¬ fs.length % 4 = 2 := by intro q; rw [q] at h2; exact absurd h2 (by decide)
        unfold kept
        rw [if_neg (by omega), if_neg (by omega), if_neg q2, hfs]
        have := IntsAre.snoc (t := t16) (n := ((x - x % 4 : Nat) : Int)) hk0
        rw [show (x : Int) - (x : Int).fmod 4 = ((x - x % 4 : Nat) : Int) by rw [show (x : Int).fmod 4 = (x : Int).fmod ((4 : Nat) : Int) from rfl, fmodN]; omega]
        simpa [nz] using this
    · (refine T_nil ?_)
      refine ⟨rfl, ks, 0, rfl, by walk_at "sbl", ?_⟩
      unfold kept
      by_cases q : fs.length % 4 = 1
      · rw [if_pos q]; rw [hks1, if_pos q] at hks; exact hks
      · rw [if_neg q, if_pos (by omega)]; rw [hks1, if_neg q] at hks; exact hks
  rintro _ _ _ ⟨rfl, ks2, e2, rfl, hsb2, hks2⟩
  refine K_next ?_
  refine T_weak hsb2 ?_
  have hl2 : ks2.length = (kept fs).length := by rw [hks2.length]; simp [nz]
  (refine T_cons ?_; refine T_Return ?_; refine T_BinOp ?_; refine T_CallM (by walk_at "u") ?_; refine T_str ?_; intro _; refine T_meth_str PySem.F.slot_str_join PySem.F.type_str_join ?_; refine M_mk ?_; refine T_b2 (by walk_at "u") (by walk_at "u") ?_; refine T_args_cons (by walk_at "u") ?_)
  refine T_comp [Str.ofString "figure"] [] (fun _ => rfl) (hcl _ _) rfl (by decide +kernel) (by decide +kernel) (by decide) (by decide +kernel) (fun p hp => nomatch hp) ?_
  (refine T_local (.there (.there (.there .here))) ?_)
  refine T_iter_list (by walk_at "mem") ?_
  intro it oi hoi acc oL cfm hsc
  have hkl : (kept fs).length ≤ 1000 := by
    unfold kept
    split
    · simp; omega
    · split
      · exact hlen
      · simp; omega
  have hk64' : ∀ f ∈ kept fs, f < 64 := by
    intro f hf
    unfold kept at hf
    split at hf
    · exact h64 f (List.dropLast_subset _ hf)
    · split at hf
      · exact h64 f hf
      · rcases List.mem_append.mp hf with hf | hf
        · exact h64 f (List.dropLast_subset _ hf)
        · rw [List.mem_singleton.mp hf]
          cases hq : fs.getLast? with
          | none => simp
          | some y => have := h64 y (List.mem_of_getLast? hq); simp; omega
  refine C_compL (fun i ys => StrsAre ys (((kept fs).take i).map fun f => S [sgn p0 p1 f])) (by walk_at "mem") hoi .nil (by omega) (fun _ => rfl) ?_ ?_
  · intro i v o ys e3 hv hj
    obtain ⟨z, tz, rfl, hz⟩ := IntsAre.get hks2 i v hv
    obtain ⟨f, hf, rfl⟩ : ∃ f, (kept fs)[i]? = some f ∧ z = (f : Int) := by
      simp only [nz, List.getElem?_map] at hz
      cases hq : (kept fs)[i]? with
      | none => rw [hq] at hz; simp at hz
      | some f => rw [hq] at hz; simp at hz; exact ⟨f, rfl, hz.symm⟩
    have hf64 := hk64' f (List.mem_of_getElem? hf)
    have hsg : (alpha62 ++ [p0, p1])[f]? = some (sgn p0 p1 f) := by
      unfold sgn
      rw [List.getD_eq_getElem?_getD, List.getElem?_eq_getElem (by show f < 64; exact hf64)]; rfl
    (refine T_Subscript ?_)
    refine T_cell (c := c) (by rw [hsc]; exact lookup_relabel_free rfl fm.kind hce) (by decide) (by simp [List.lookup]) (by walk_at "mem") ho1 ?_
    (refine T_local .here ?_)
    refine T_item_str hsg (by omega) (by walk_at "u") ?_
    intro tq
    refine ⟨?_, rfl, by walk_at "sbl"⟩
    rw [← take_snoc hf, List.map_append]
    exact sx_app hj (.cons _ _ .nil)
  intro u ys e3 hyl hj
  have hj' : StrsAre ys ((kept fs).map fun f => S [sgn p0 p1 f]) := by
    have : ks2.length = (kept fs).length := hl2
    rw [this, List.take_length] at hj; exact hj
  refine ⟨(acc, listOf ys.toArray e3) :: (kd, listOf ks2.toArray e2) :: (c, o1) :: (a, listOf vs.toArray e) :: rest, by walk_at "sbl", ?_⟩
  (refine T_args_nil ?_)
  rw [show Str.ofString "" = S [] by decide +kernel]
  refine T_join (ys := (kept fs).map fun f => S [sgn p0 p1 f]) (by walk_at "mem") hj' ?_ ?_
  · rw [List.map_map, List.length_map]
    have : ((kept fs).map (Str.length ∘ fun f => S [sgn p0 p1 f])) = (kept fs).map fun _ => 1 := List.map_congr_left fun f _ => by simp [S_len]
    rw [this, List.map_const', List.sum_replicate_nat]; omega
  have ejoin : Txt.join (S []) ((kept fs).map fun f => S [sgn p0 p1 f]) = S ((kept fs).map (sgn p0 p1)) := by
    have := join_S1 ((kept fs).map (sgn p0 p1))
    rw [List.map_map] at this; exact this
  rw [ejoin]
  (intro _; refine T_BinOp ?_; refine T_str ?_; intro _; refine T_BinOp ?_; refine T_UnaryOp ?_; refine T_CallN ?_; refine T_glob List.mem_cons_self ?_; refine T_b1 (by walk_at "u") (by walk_at "u") ?_; refine T_args_cons (by walk_at "u") ?_; refine T_local (.there (.there (.there .here))) ?_; refine T_args_nil ?_)
  refine T_len_list (by walk_at "mem") (line20 (by simp; omega)) ?_
  (intro _; refine T_neg ?_; intro _; refine T_int ?_; intro _; refine T_mod (by decide) ?_; intro _)
  rw [show ((-(ks2.toArray.size : Int)).fmod 4) = (((4 - (kept fs).length % 4) % 4 : Nat) : Int) by
    rw [List.size_toArray, hl2, Int.fmod_eq_emod_of_nonneg _ (by decide)]; omega]
  rw [show Str.ofString "=" = S [61] by decide +kernel]
  refine T_muls (mulOk_S 61 _ (by omega)) ?_
  rw [mul_S]
  intro tm
  refine T_adds (by rw [S_app, S_len]; exact line20 (by simp; omega)) ?_
  rw [S_app]
  (intro _; refine K_ret ?_)
  exact ⟨[(a, listOf vs.toArray e)], by walk_at "sbl2", ⟨_, rfl⟩, rfl⟩

/-! _law_run -/
def unitsOf : List Nat → List (List Nat)
  | [] => []
  | [c] => [[c]]
  | c :: d :: r => if c = 92 then [c, d] :: unitsOf r else [c] :: unitsOf (d :: r)
def blk (u : List Nat) : Bool := decide (u ∈ [[10], [9], [13], [32]])
def stopU (q : Bool) (u : List Nat) : Bool := if q then decide (u ∈ [[34]]) else blk u
def bareU (u : List Nat) : List Nat := if u.head? = some 92 then u.tail else u
theorem unitsOf_cons (c : Nat) (r : List Nat) : unitsOf (c :: r) = (c :: r).take (if c = 92 then 2 else 1) :: unitsOf ((c :: r).drop (if c = 92 then 2 else 1)) := by
  by_cases h : c = 92
  · subst h
    cases r with
    | nil => rfl
    | cons d r => simp [unitsOf]
  · cases r with
    | nil => simp [unitsOf, h]
    | cons d r => simp [unitsOf, h]
def skipTo (US : List (List Nat)) (k : Nat) : Nat := k + ((US.drop k).takeWhile blk).length
def quo (US : List (List Nat)) (k : Nat) : Bool := decide ((US.drop k).take 1 = [[34]])
def tailOf (US : List (List Nat)) (q : Bool) (h : Nat) : Nat := h + ((US.drop h).takeWhile fun u => !stopU q u).length
def headOf (US : List (List Nat)) (k : Nat) : Nat := if quo US (skipTo US k) then skipTo US k + 1 else skipTo US k
def tailAt (US : List (List Nat)) (k : Nat) : Nat := tailOf US (quo US (skipTo US k)) (headOf US k)
def wordAt (US : List (List Nat)) (k : Nat) : List Nat := (((US.drop (headOf US k)).take (tailAt US k - headOf US k)).map bareU).flatten
def nextAt (US : List (List Nat)) (k : Nat) : Nat := min (tailAt US k + 1) US.length
def runI (US : List (List Nat)) : Nat → Nat → List (List Nat × List Nat)
  | 0, _ => []
  | f + 1, k => if k < US.length then (wordAt US k, (US.take (nextAt US k)).flatten) :: runI US f (nextAt US k) else []
def runOf (fc : List Nat) : List (List Nat × List Nat) := runI (unitsOf fc) (unitsOf fc).length 0 ++ [([], fc), ([], fc)]
theorem tw_ge {p : List Nat → Bool} {US : List (List Nat)} {k : Nat} (h : US.length ≤ k) : ((US.drop k).takeWhile p).length = 0 := by rw [List.drop_eq_nil_of_le h]; rfl
theorem tw_yes {p : List Nat → Bool} {US : List (List Nat)} {k : Nat} {u} (h : US[k]? = some u) (hp : p u = true) : ((US.drop k).takeWhile p).length = ((US.drop (k + 1)).takeWhile p).length + 1 := by
  obtain ⟨hk, e⟩ := List.getElem?_eq_some_iff.mp h
  rw [List.drop_eq_getElem_cons hk, e, List.takeWhile_cons, if_pos hp]; rfl
theorem tw_no {p : List Nat → Bool} {US : List (List Nat)} {k : Nat} {u} (h : US[k]? = some u) (hp : p u = false) : ((US.drop k).takeWhile p).length = 0 := by
  obtain ⟨hk, e⟩ := List.getElem?_eq_some_iff.mp h
  rw [List.drop_eq_getElem_cons hk, e, List.takeWhile_cons, if_neg (by simp [hp])]; rfl
theorem tw_le {p : List Nat → Bool} {US : List (List Nat)} {k : Nat} (hk : k ≤ US.length) : k + ((US.drop k).takeWhile p).length ≤ US.length := by
  have h1 : ((US.drop k).takeWhile p).length ≤ (US.drop k).length := (List.takeWhile_sublist p).length_le
  rw [List.length_drop] at h1; omega
theorem mapS_mem {u : List Nat} {L : List (List Nat)} : S u ∈ L.map S ↔ u ∈ L := by
  rw [List.mem_map]
  exact ⟨fun ⟨x, hx, e⟩ => S_inj e ▸ hx, fun h => ⟨u, h, rfl⟩⟩
theorem mapS_inj {a b : List (List Nat)} : a.map S = b.map S ↔ a = b := by
  constructor
  · intro h
    have := congrArg (List.map fun x : Str => x.cps.toList) h
    simpa [List.map_map, Function.comp_def, S_cps] using this
  · intro h; rw [h]
theorem unitsOf_flatten : ∀ fc : List Nat, (unitsOf fc).flatten = fc
  | [] => rfl
  | [c] => rfl
  | c :: d :: r => by
    unfold unitsOf
    split
    · have := unitsOf_flatten r; simp [this]
    · have := unitsOf_flatten (d :: r); simp [this]
theorem unitsOf_ne : ∀ fc : List Nat, ∀ u ∈ unitsOf fc, u ≠ []
  | [], u, h => nomatch h
  | [c], u, h => by rw [List.mem_singleton.mp h]; simp
  | c :: d :: r, u, h => by
    unfold unitsOf at h
    split at h
    · rcases List.mem_cons.mp h with rfl | h
      · simp
      · exact unitsOf_ne r u h
    · rcases List.mem_cons.mp h with rfl | h
      · simp
      · exact unitsOf_ne (d :: r) u h
theorem sum_len (xss : List (List Nat)) : ((xss.map S).map (·.length)).sum = xss.flatten.length := by
  induction xss with
  | nil => rfl
  | cons x xss ih => simp [S_len] at ih ⊢; omega
theorem bareU_le (L : List (List Nat)) : (L.map bareU).flatten.length ≤ L.flatten.length := by
  induction L with
  | nil => simp
  | cons u L ih =>
    have : (bareU u).length ≤ u.length := by unfold bareU; split <;> simp
    simp only [List.map_cons, List.flatten_cons, List.length_append]; omega
theorem flat_le {L M : List (List Nat)} (h : List.Sublist L M) : L.flatten.length ≤ M.flatten.length := by
  induction h with
  | slnil => simp
  | cons a _ ih => simp only [List.flatten_cons, List.length_append]; omega
  | cons_cons a _ ih => simp only [List.flatten_cons, List.length_append]; omega
theorem map_S_comp (L : List (List Nat)) : (L.map fun u => S (bareU u)) = (L.map bareU).map S := by rw [List.map_map]; rfl
/-- the pairs of texts that tuples hold -/
inductive Tups : List Value → Led → List (List Nat × List Nat) → Prop
  | nil : Tups [] [] []
  | snoc {vs tl es a w r t u} : Tups vs tl es → Tups (vs ++ [.ref a]) ((a, tupOf #[.str (S w) t, .str (S r) u]) :: tl) (es ++ [(w, r)])
theorem Tups.len {vs tl es} (h : Tups vs tl es) : vs.length = es.length := by
  induction h with
  | nil => rfl
  | snoc _ ih => simp [ih]
theorem Tups.get {vs tl es} (h : Tups vs tl es) : ∀ (i : Nat) (w r : List Nat), es[i]? = some (w, r) → ∃ a t u, vs[i]? = some (.ref a) ∧ (a, tupOf #[.str (S w) t, .str (S r) u]) ∈ tl := by
  induction h with
  | nil => intro i w r e; simp at e
  | snoc h ih =>
    rename_i vs tl es a w' r' t' u'
    intro i w r e
    by_cases hi : i < es.length
    · rw [List.getElem?_append_left hi] at e
      obtain ⟨a, t, u, h1, h2⟩ := ih i w r e
      exact ⟨a, t, u, by rw [List.getElem?_append_left (by rw [h.len]; exact hi)]; exact h1, List.mem_cons_of_mem _ h2⟩
    · rw [List.getElem?_append_right (by omega)] at e
      have hi0 : i - es.length = 0 := by
        cases q : i - es.length with
        | zero => rfl
        | succ n => rw [q] at e; simp at e
      rw [hi0] at e
      simp at e
      obtain ⟨rfl, rfl⟩ := e
      exact ⟨_, _, _, by rw [List.getElem?_append_right (by rw [h.len]; omega), h.len, hi0]; rfl, List.mem_cons_self⟩
theorem glb_min (G : Gr) (hK : G.K = Mine.hd.heap_39 G.w.params) : Glb G (Str.ofString "min") (.builtin "min") := .inr ⟨by rw [hK]; k_is, by boot_by_name, by decide⟩
theorem run_spec (G : Gr) (hK : G.K = Mine.hd.heap_39 G.w.params) (fc : List Nat) (tf : Tok) (hlen : fc.length ≤ 1000) :
    Sp G 1 [] (.ref 124) [.str (S fc) tf] [] fun v post => ∃ R vs tl e, v = .ref R ∧ post = (R, listOf (List.toArray vs) e) :: tl ∧ Tups vs tl (runOf fc) := by
  refine enter (N := [Str.ofString "face", Str.ofString "blanks", Str.ofString "units", Str.ofString "rest", Str.ofString "size", Str.ofString "run", Str.ofString "k", Str.ofString "quoted", Str.ofString "head", Str.ofString "tail", Str.ofString "word"])
    (Gs := [(Str.ofString "len", .builtin "len"), (Str.ofString "min", .builtin "min")]) (binds := [(Str.ofString "face", .str (S fc) tf)])
    (vals := [some (.str (S fc) tf), none, none, none, none, none, none, none, none, none, none]) (ho := by rw [hK]; k_is) (hcd := by rw [hK]; k_is) (hbind := fun s X => BindsTo.of_eq rfl) [Str.ofString "blanks", Str.ofString "units", Str.ofString "rest", Str.ofString "size", Str.ofString "run", Str.ofString "k", Str.ofString "quoted", Str.ofString "head", Str.ofString "tail", Str.ofString "word"] (hN := rfl) (hv := rfl) (hnd := by decide) (hloc := by decide +kernel)
    (hglb := fun p hp => by
      rcases List.mem_cons.mp hp with rfl | hp
      · exact ⟨by decide +kernel, by decide, glb_len G hK⟩
      rcases List.mem_cons.mp hp with rfl | hp
      · exact ⟨by decide +kernel, by decide, glb_min G hK⟩
      cases hp) (hcell := by decide +kernel) (hco := rfl) (hgen := rfl) (hk := rfl) ?_
  intro fm rest
  rw [List.nil_append]
  (refine T_cons ?_; refine T_Assign (by walk_at "u") ?_; refine T_List ?_; refine T_args_cons (by walk_at "u") ?_; refine T_str ?_; intro _; refine T_args_cons (by walk_at "u") ?_; refine T_str ?_; intro _; refine T_args_cons (by walk_at "u") ?_; refine T_str ?_; intro _; refine T_args_cons (by walk_at "u") ?_; refine T_str ?_; intro _; refine T_args_nil ?_)
  refine T_newList ?_
  intro B
  rename_i b1 b2 b3 b4
  obtain ⟨bl, hbl⟩ : ∃ bl : List Value, [Value.str (Str.ofString "\n") b1, Value.str (Str.ofString "\t") b2, Value.str (Str.ofString "\x0d") b3, Value.str (Str.ofString " ") b4] = bl := ⟨_, rfl⟩
  have hb : StrsAre bl ([[10], [9], [13], [32]].map S) := by
    rw [← hbl, show Str.ofString "\n" = S [10] by decide +kernel, show Str.ofString "\t" = S [9] by decide +kernel, show Str.ofString "\x0d" = S [13] by decide +kernel, show Str.ofString " " = S [32] by decide +kernel]
    exact .cons _ _ (.cons _ _ (.cons _ _ (.cons _ _ .nil)))
  rw [hbl]
  clear hbl
  (refine T_store (.there .here) ?_; refine K_next ?_; refine T_cons ?_; refine T_Assign (by walk_at "u") ?_; refine T_List ?_; refine T_args_nil ?_)
  refine T_newList ?_
  intro Un
  (refine T_store (.there (.there .here)) ?_; refine K_next ?_; refine T_cons ?_; refine T_Assign (by walk_at "u") ?_; refine T_local .here ?_; refine T_store (.there (.there (.there .here))) ?_; refine K_next ?_; refine T_cons ?_)
  refine T_While (C_any fun cc P hc hP => ?_)
  have key : ∀ (M : Nat) (rs : List Nat) (done : List (List Nat)) (us : List Value) (e : Nat) (sz : Option Value) (tr : Tok), rs.length = M → unitsOf fc = done ++ unitsOf rs → StrsAre us (done.map S) → done.length + rs.length ≤ 1000 →
      C fm 0 [some (.str (S fc) tf), some (.ref B), some (.ref Un), some (.str (S rs) tr), sz, none, none, none, none, none, none] ((Un, listOf us.toArray e) :: (B, listOf bl.toArray 0) :: rest) cc P := by
    subst hc
    intro M
    induction M using Nat.strongRecOn with
    | ind M ih =>
      intro rs done us e sz tr hM hU hus hl
      refine C_while ?_
      (refine T_isTrue_Compare (by walk_at "u") ?_; refine T_local (.there (.there (.there .here))) ?_; refine T_str ?_; intro _; refine T_nes ?_; refine T_truthy_bool ?_)
      cases rs with
      | nil =>
        refine If2.neg (by simp [show Str.ofString "" = S [] by decide +kernel]) ?_
        subst hP
        (refine T_nil ?_; refine K_next ?_; refine T_cons ?_; refine T_Assign (by walk_at "u") ?_; refine T_List ?_; refine T_args_nil ?_)
        have hU' : unitsOf fc = done := by rw [hU]; simp [unitsOf]
        rw [← hU'] at hus
        have hUl : (unitsOf fc).length ≤ 1000 := by rw [hU']; simpa using hl
        have hUf := unitsOf_flatten fc
        have hUn := unitsOf_ne fc
        clear ih hl hM hU hU' done
        generalize hUS : unitsOf fc = US at hus hUl hUf hUn
        have hul : us.length = US.length := by have := sx_len hus; simpa using this
        refine T_newList ?_
        intro R
        (refine T_store (.there (.there (.there (.there (.there .here))))) ?_; refine K_next ?_; refine T_cons ?_; refine T_Assign (by walk_at "u") ?_; refine T_int ?_; intro _; refine T_store (.there (.there (.there (.there (.there (.there .here)))))) ?_; refine K_next ?_; refine T_cons ?_)
        refine T_While (C_any fun c2 P2 hc2 hP2 => ?_)
        generalize htg : runI US US.length 0 = tgt
        have fin2 : ∀ (k : Nat) (vs : List Value) (e2 : Nat) (tk : Tok) (tl : Led) (x1 x2 x3 x4 : Option Value), Tups vs tl tgt → tgt.length ≤ k → k ≤ US.length →
            P2 .next [some (.str (S fc) tf), some (.ref B), some (.ref Un), some (.str (S []) tr), sz, some (.ref R), some (.int (k : Int) tk), x1, x2, x3, x4] ((R, listOf vs.toArray e2) :: (Un, listOf us.toArray e) :: (B, listOf bl.toArray 0) :: (tl ++ rest)) := by
          subst hP2
          intro k vs e2 tk tl x1 x2 x3 x4 hT hel hk
          have hvl : vs.length ≤ 1000 := by rw [hT.len]; omega
          (refine K_next ?_; refine T_cons ?_; refine T_Return ?_; refine T_BinOp ?_; refine T_local (.there (.there (.there (.there (.there .here))))) ?_; refine T_List ?_; refine T_args_cons (by walk_at "u") ?_; refine T_Tuple ?_; refine T_args_cons (by walk_at "u") ?_; refine T_str ?_; intro _; refine T_args_cons (by walk_at "u") ?_; refine T_local .here ?_; refine T_args_nil ?_)
          rename_i t1
          rw [show Value.str (Str.ofString "") t1 = Value.str (S []) t1 by rw [show Str.ofString "" = S [] by decide +kernel]]
          refine T_newTuple ?_
          intro A1
          (refine T_args_cons (by walk_at "u") ?_; refine T_Tuple ?_; refine T_args_cons (by walk_at "u") ?_; refine T_str ?_; intro _; refine T_args_cons (by walk_at "u") ?_; refine T_local .here ?_; refine T_args_nil ?_)
          rename_i t2
          rw [show Value.str (Str.ofString "") t2 = Value.str (S []) t2 by rw [show Str.ofString "" = S [] by decide +kernel]]
          refine T_newTuple ?_
          intro A2
          (refine T_args_nil ?_)
          refine T_newList ?_
          intro L2
          refine T_add_lists (by walk_at "mem") (by walk_at "mem") (line20 (by simp; omega)) ?_
          intro D
          (refine K_ret ?_)
          refine ⟨(D, listOf (vs ++ [Value.ref A1, Value.ref A2]).toArray 0) :: (A2, _) :: (A1, _) :: tl, by walk_at "sbl2", D, _, _, 0, rfl, rfl, ?_⟩
          have := (hT.snoc (a := A1) (w := []) (r := fc) (t := t1) (u := tf)).snoc (a := A2) (w := []) (r := fc) (t := t2) (u := tf)
          simp only [List.append_assoc, List.singleton_append] at this
          unfold runOf
          rw [hUS, htg]
          exact this
        have key2 : ∀ (f k : Nat) (vs : List Value) (e2 : Nat) (tk : Tok) (tl : Led) (es : List (List Nat × List Nat)) (x1 x2 x3 x4 : Option Value), US.length - k ≤ f → k ≤ US.length → Tups vs tl es → es ++ runI US f k = tgt → es.length ≤ k →
            C fm 0 [some (.str (S fc) tf), some (.ref B), some (.ref Un), some (.str (S []) tr), sz, some (.ref R), some (.int (k : Int) tk), x1, x2, x3, x4] ((R, listOf vs.toArray e2) :: (Un, listOf us.toArray e) :: (B, listOf bl.toArray 0) :: (tl ++ rest)) c2 P2 := by
          subst hc2
          intro f
          induction f with
          | zero =>
            intro k vs e2 tk tl es x1 x2 x3 x4 hf hk hT hes hel
            refine C_while ?_
            (refine T_isTrue_Compare (by walk_at "u") ?_; refine T_local (.there (.there (.there (.there (.there (.there .here)))))) ?_; refine T_CallN ?_; refine T_glob List.mem_cons_self ?_; refine T_b1 (by walk_at "u") (by walk_at "u") ?_; refine T_args_cons (by walk_at "u") ?_; refine T_local (.there (.there .here)) ?_; refine T_args_nil ?_)
            refine T_len_list (by walk_at "mem") (line20 (by simp; omega)) ?_
            (intro _; refine T_lt ?_; refine T_truthy_bool ?_)
            refine If2.neg (decide_eq_false (by simp; omega)) ?_
            (refine T_nil ?_)
            rw [runI, List.append_nil] at hes
            subst hes
            exact fin2 k vs e2 tk tl x1 x2 x3 x4 hT hel hk
          | succ f ih2 =>
            intro k vs e2 tk tl es x1 x2 x3 x4 hf hk hT hes hel
            refine C_while ?_
            (refine T_isTrue_Compare (by walk_at "u") ?_; refine T_local (.there (.there (.there (.there (.there (.there .here)))))) ?_; refine T_CallN ?_; refine T_glob List.mem_cons_self ?_; refine T_b1 (by walk_at "u") (by walk_at "u") ?_; refine T_args_cons (by walk_at "u") ?_; refine T_local (.there (.there .here)) ?_; refine T_args_nil ?_)
            refine T_len_list (by walk_at "mem") (line20 (by simp; omega)) ?_
            (intro _; refine T_lt ?_; refine T_truthy_bool ?_)
            refine If2.dec (fun h => ?_) fun h => ?_
            · have hkl : k < US.length := by simp at h; omega
              rw [runI, if_pos hkl] at hes
              (refine T_cons ?_)
              refine T_While (C_any fun c3 P3 hc3 hP3 => ?_)
              have fin3 : ∀ tj, P3 .next [some (.str (S fc) tf), some (.ref B), some (.ref Un), some (.str (S []) tr), sz, some (.ref R), some (.int (skipTo US k : Int) tj), x1, x2, x3, x4] ((R, listOf vs.toArray e2) :: (Un, listOf us.toArray e) :: (B, listOf bl.toArray 0) :: (tl ++ rest)) := by
                subst hP3
                intro tj
                have hsk : skipTo US k ≤ US.length := tw_le hk
                have hsk0 : k ≤ skipTo US k := Nat.le_add_right _ _
                (refine K_next ?_; refine T_cons ?_; refine T_Assign (by walk_at "u") ?_; refine T_Compare (by walk_at "u") ?_; refine T_Subscript ?_; refine T_local (.there (.there .here)) ?_; refine T_Slice ?_; refine T_part_some ?_; refine T_local (.there (.there (.there (.there (.there (.there .here)))))) ?_; refine T_part_some ?_; refine T_BinOp ?_; refine T_local (.there (.there (.there (.there (.there (.there .here)))))) ?_; refine T_int ?_; intro _; refine T_add ?_; intro _; intro _)
                rename_i sl
                refine T_slice_list (lo := some (skipTo US k : Int)) (hi := some ((skipTo US k : Int) + 1)) (by walk_at "mem") (by walk_at "mem") (.int _ _) (.int _ _) (line20 (by omega)) ?_
                intro D
                rw [show ((skipTo US k : Int) + 1) = ((skipTo US k + 1 : Nat) : Int) by omega, slc_both, show skipTo US k + 1 - skipTo US k = 1 by omega]
                (refine T_List ?_; refine T_args_cons (by walk_at "u") ?_; refine T_str ?_; intro _; refine T_args_nil ?_)
                refine T_newList ?_
                intro Q
                rename_i tq
                have hsl : StrsAre ((us.drop (skipTo US k)).take 1) (((US.drop (skipTo US k)).take 1).map S) := by
                  have := sx_take (sx_drop hus (skipTo US k)) 1
                  rw [← List.map_drop, ← List.map_take] at this; exact this
                have hqq : StrsAre [Value.str (Str.ofString "\"") tq] ([[34]].map S) := by rw [lit34]; exact .cons _ _ .nil
                refine T_eq_strs (by walk_at "mem") (by walk_at "mem") hsl hqq ?_
                rw [show decide (((US.drop (skipTo US k)).take 1).map S = [[34]].map S) = quo US (skipTo US k) by unfold quo; rw [decide_eq_decide]; exact mapS_inj]
                have hhd : headOf US k ≤ US.length := by
                  unfold headOf
                  split
                  · rename_i hq
                    refine Nat.lt_of_not_le fun q => ?_
                    have := of_decide_eq_true hq
                    rw [List.drop_eq_nil_of_le q] at this
                    cases this
                  · exact hsk
                have hhd0 : k ≤ headOf US k := by unfold headOf; split <;> omega
                have htl : tailAt US k ≤ US.length := tw_le hhd
                have htl0 : headOf US k ≤ tailAt US k := Nat.le_add_right _ _
                have hqv : quo US (skipTo US k) = true ∨ quo US (skipTo US k) = false := by cases quo US (skipTo US k) <;> simp
                (refine T_store (.there (.there (.there (.there (.there (.there (.there .here))))))) ?_; refine K_next ?_)
                refine T_cons ?_
                refine T_Assign (by walk_at "u") ?_
                refine T_mono (P := fun v vals' l' => (∃ t, v = Value.int (headOf US k : Int) t) ∧ vals' = [some (.str (S fc) tf), some (.ref B), some (.ref Un), some (.str (S []) tr), sz, some (.ref R), some (.int (skipTo US k : Int) tj), some (.bool (quo US (skipTo US k))), x2, x3, x4] ∧ Sbl ((R, listOf vs.toArray e2) :: (Un, listOf us.toArray e) :: (B, listOf bl.toArray 0) :: (tl ++ rest)) l') ?_ ?_
                · (refine T_IfExp ?_; refine T_isTrue_val (by walk_at "u") ?_; refine T_local (.there (.there (.there (.there (.there (.there (.there .here))))))) ?_; refine T_truthy_bool ?_)
                  refine If2.both (fun h => ?_) fun h => ?_
                  · (refine T_BinOp ?_; refine T_local (.there (.there (.there (.there (.there (.there .here)))))) ?_; refine T_int ?_; intro _; refine T_add ?_; intro _)
                    exact ⟨⟨_, by unfold headOf; rw [if_pos h]; rfl⟩, rfl, by walk_at "sbl"⟩
                  · (refine T_local (.there (.there (.there (.there (.there (.there .here)))))) ?_)
                    exact ⟨⟨_, by unfold headOf; rw [if_neg (by simp [h])]⟩, rfl, by walk_at "sbl"⟩
                rintro _ _ _ ⟨⟨th, rfl⟩, rfl, hsb⟩
                refine T_weak hsb ?_
                clear hsb
                (refine T_store (.there (.there (.there (.there (.there (.there (.there (.there .here)))))))) ?_; refine K_next ?_; refine T_cons ?_; refine T_Assign (by walk_at "u") ?_; refine T_local (.there (.there (.there (.there (.there (.there (.there (.there .here)))))))) ?_; refine T_store (.there (.there (.there (.there (.there (.there (.there (.there (.there .here))))))))) ?_; refine K_next ?_; refine T_cons ?_)
                refine T_While (C_any fun c4 P4 hc4 hP4 => ?_)
                have fin4 : ∀ tt, P4 .next [some (.str (S fc) tf), some (.ref B), some (.ref Un), some (.str (S []) tr), sz, some (.ref R), some (.int (skipTo US k : Int) tj), some (.bool (quo US (skipTo US k))), some (.int (headOf US k : Int) th), some (.int (tailAt US k : Int) tt), x4] ((R, listOf vs.toArray e2) :: (Un, listOf us.toArray e) :: (B, listOf bl.toArray 0) :: (tl ++ rest)) := by
                  subst hP4
                  intro tt
                  have hslen : ((US.drop (headOf US k)).take (tailAt US k - headOf US k)).flatten.length ≤ 1000 := by
                    refine Nat.le_trans (flat_le ((List.take_sublist _ _).trans (List.drop_sublist _ _))) ?_
                    rw [hUf]; exact hlen
                  have hsub : StrsAre ((us.drop (headOf US k)).take (tailAt US k - headOf US k)) (((US.drop (headOf US k)).take (tailAt US k - headOf US k)).map S) := by
                    have := sx_take (sx_drop hus (headOf US k)) (tailAt US k - headOf US k)
                    rw [← List.map_drop, ← List.map_take] at this; exact this
                  have hsne : ∀ u ∈ (US.drop (headOf US k)).take (tailAt US k - headOf US k), u ≠ [] := fun u hu => hUn u (List.mem_of_mem_drop (List.mem_of_mem_take hu))
                  have hsl1 : ((US.drop (headOf US k)).take (tailAt US k - headOf US k)).length ≤ 1000 := by simp; omega
                  have hw : wordAt US k = (((US.drop (headOf US k)).take (tailAt US k - headOf US k)).map bareU).flatten := rfl
                  generalize hsl2 : (US.drop (headOf US k)).take (tailAt US k - headOf US k) = sls at hslen hsub hsne hsl1 hw
                  (refine K_next ?_; refine T_cons ?_; refine T_Assign (by walk_at "u") ?_; refine T_CallM (by walk_at "u") ?_; refine T_str ?_; intro _; refine T_meth_str PySem.F.slot_str_join PySem.F.type_str_join ?_; refine M_mk ?_; refine T_b2 (by walk_at "u") (by walk_at "u") ?_; refine T_args_cons (by walk_at "u") ?_)
                  refine T_comp [Str.ofString "unit"] [] (fun _ => rfl) (cl := []) rfl rfl (by decide +kernel) (by decide +kernel) (by decide) (by decide +kernel) (fun p hp => nomatch hp) ?_
                  (refine T_Subscript ?_; refine T_local (.there (.there .here)) ?_; refine T_Slice ?_; refine T_part_some ?_; refine T_local (.there (.there (.there (.there (.there (.there (.there (.there .here)))))))) ?_; refine T_part_some ?_; refine T_local (.there (.there (.there (.there (.there (.there (.there (.there (.there .here))))))))) ?_; intro _)
                  rename_i sl2
                  refine T_slice_list (lo := some (headOf US k : Int)) (hi := some (tailAt US k : Int)) (by walk_at "mem") (by walk_at "mem") (.int _ _) (.int _ _) (line20 (by omega)) ?_
                  intro D2
                  rw [slc_both]
                  generalize (us.drop (headOf US k)).take (tailAt US k - headOf US k) = slv at hsub
                  have hslv : slv.length = sls.length := by have := sx_len hsub; simpa using this
                  refine T_iter_list (by walk_at "mem") ?_
                  intro it oi hoi acc oL cfm hsc
                  refine C_compL (fun i ys => StrsAre ys ((sls.take i).map fun u => S (bareU u))) (by walk_at "mem") hoi .nil (by omega) (fun _ => rfl) ?_ ?_
                  · intro i v o ys e3 hv hj
                    obtain ⟨hi, hvi⟩ := List.getElem?_eq_some_iff.mp hv
                    have hi' : i < sls.length := by omega
                    obtain ⟨tu, hu⟩ := sx_get hsub i (S sls[i]) (by simp [hi'])
                    obtain rfl : v = .str (S sls[i]) tu := by rw [hv] at hu; exact Option.some.inj hu
                    have hse : sls[i]? = some sls[i] := List.getElem?_eq_getElem hi'
                    have hne := hsne sls[i] (List.getElem_mem hi')
                    have hul3 : sls[i].length ≤ 1000 := by
                      refine Nat.le_trans ?_ hslen
                      have := flat_le (List.singleton_sublist.mpr (List.getElem_mem hi'))
                      simpa using this
                    generalize sls[i] = un at hse hne hul3 ⊢
                    obtain ⟨c, r, rfl⟩ : ∃ c r, un = c :: r := by
                      cases un with
                      | nil => exact absurd rfl hne
                      | cons c r => exact ⟨c, r, rfl⟩
                    (refine T_IfExp ?_; refine T_isTrue_Compare (by walk_at "u") ?_; refine T_Subscript ?_; refine T_local .here ?_; refine T_int ?_; intro _)
                    refine T_item_str (cs := c :: r) (i := 0) rfl (by decide) (by walk_at "u") ?_
                    (intro _; refine T_str ?_; intro _; refine T_eqs ?_; refine T_truthy_bool ?_)
                    refine If2.dec (fun h => ?_) fun h => ?_
                    · rw [lit92] at h
                      have h' := one_inj h
                      (refine T_Subscript ?_; refine T_local .here ?_; refine T_Slice ?_; refine T_part_some ?_; refine T_int ?_; intro _; refine T_part_none ?_; intro _)
                      refine T_slice_str (lo := some 1) (hi := none) (by walk_at "mem") (.int _ _) .none (line20 (by omega)) ?_
                      rw [show slc (c :: r) (some 1) none = (c :: r).drop 1 from slc_from (c :: r) 1]
                      intro t5
                      refine ⟨?_, rfl, by walk_at "sbl"⟩
                      rw [← take_snoc hse, List.map_append]
                      refine sx_app hj ?_
                      have : bareU (c :: r) = (c :: r).drop 1 := by unfold bareU; rw [if_pos (by simp [h'])]; rfl
                      show StrsAre _ [S (bareU (c :: r))]
                      rw [this]
                      exact .cons _ _ .nil
                    · rw [lit92] at h
                      (refine T_local .here ?_)
                      refine ⟨?_, rfl, by walk_at "sbl"⟩
                      rw [← take_snoc hse, List.map_append]
                      refine sx_app hj ?_
                      have : bareU (c :: r) = c :: r := by unfold bareU; rw [if_neg (by intro q; simp at q; exact h (by rw [q]))]
                      show StrsAre _ [S (bareU (c :: r))]
                      rw [this]
                      exact .cons _ _ .nil
                  intro u ys e3 hyl hj
                  rw [hslv, List.take_length, map_S_comp] at hj
                  refine ⟨(acc, listOf ys.toArray e3) :: (R, listOf vs.toArray e2) :: (Un, listOf us.toArray e) :: (B, listOf bl.toArray 0) :: (tl ++ rest), by walk_at "sbl", ?_⟩
                  (refine T_args_nil ?_)
                  rename_i te
                  rw [show Value.str (Str.ofString "") te = Value.str (S []) te by rw [show Str.ofString "" = S [] by decide +kernel]]
                  refine T_join (by walk_at "mem") hj ?_ ?_
                  · rw [sum_len]
                    have := bareU_le sls
                    simp only [List.length_map]; omega
                  rw [join_S, ← hw]
                  intro twd
                  (refine T_store (.there (.there (.there (.there (.there (.there (.there (.there (.there (.there .here)))))))))) ?_; refine K_next ?_; refine T_cons ?_; refine T_Assign (by walk_at "u") ?_; refine T_CallN ?_; refine T_glob (List.mem_cons_of_mem _ List.mem_cons_self) ?_; refine T_b1 (by walk_at "u") (by walk_at "u") ?_; refine T_args_cons (by walk_at "u") ?_; refine T_BinOp ?_; refine T_local (.there (.there (.there (.there (.there (.there (.there (.there (.there .here))))))))) ?_; refine T_int ?_; intro _; refine T_add ?_; intro _; refine T_args_cons (by walk_at "u") ?_; refine T_CallN ?_; refine T_glob List.mem_cons_self ?_; refine T_b1 (by walk_at "u") (by walk_at "u") ?_; refine T_args_cons (by walk_at "u") ?_; refine T_local (.there (.there .here)) ?_; refine T_args_nil ?_)
                  refine T_len_list (by walk_at "mem") (line20 (by simp; omega)) ?_
                  (intro _; refine T_args_nil ?_)
                  refine T_min ?_
                  rw [show (if (us.toArray.size : Int) < (tailAt US k : Int) + 1 then (us.toArray.size : Int) else (tailAt US k : Int) + 1) = (nextAt US k : Int) by
                    unfold nextAt
                    rw [List.size_toArray, hul]
                    split <;> omega]
                  have hnx : k + 1 ≤ nextAt US k := by unfold nextAt; omega
                  have hnx2 : nextAt US k ≤ US.length := by unfold nextAt; omega
                  (intro _; refine T_store (.there (.there (.there (.there (.there (.there .here)))))) ?_; refine K_next ?_; refine T_cons ?_; refine T_Expr (by walk_at "u") ?_; refine T_CallM (by walk_at "u") ?_; refine T_local (.there (.there (.there (.there (.there .here))))) ?_; refine T_meth_list PySem.F.slot_list_append PySem.F.type_list_append (by walk_at "mem") ?_; refine M_mk ?_; refine T_b2 (by walk_at "u") (by walk_at "u") ?_; refine T_args_cons (by walk_at "u") ?_; refine T_Tuple ?_; refine T_args_cons (by walk_at "u") ?_; refine T_local (.there (.there (.there (.there (.there (.there (.there (.there (.there (.there .here)))))))))) ?_; refine T_args_cons (by walk_at "u") ?_; refine T_CallM (by walk_at "u") ?_; refine T_str ?_; intro _; refine T_meth_str PySem.F.slot_str_join PySem.F.type_str_join ?_; refine M_mk ?_; refine T_b2 (by walk_at "u") (by walk_at "u") ?_; refine T_args_cons (by walk_at "u") ?_; refine T_Subscript ?_; refine T_local (.there (.there .here)) ?_; refine T_Slice ?_; refine T_part_none ?_; refine T_part_some ?_; refine T_local (.there (.there (.there (.there (.there (.there .here)))))) ?_; intro _)
                  rename_i sl3
                  refine T_slice_list (lo := none) (hi := some (nextAt US k : Int)) (by walk_at "mem") (by walk_at "mem") .none (.int _ _) (line20 (by omega)) ?_
                  intro D3
                  rw [slc_to]
                  (refine T_args_nil ?_)
                  rename_i te2
                  rw [show Value.str (Str.ofString "") te2 = Value.str (S []) te2 by rw [show Str.ofString "" = S [] by decide +kernel]]
                  have hpre : StrsAre (us.take (nextAt US k)) ((US.take (nextAt US k)).map S) := by
                    have := sx_take hus (nextAt US k)
                    rw [← List.map_take] at this; exact this
                  have hpl : (US.take (nextAt US k)).flatten.length ≤ 1000 := Nat.le_trans (flat_le (List.take_sublist _ _)) (by rw [hUf]; exact hlen)
                  refine T_join (ys := (US.take (nextAt US k)).map S) (by walk_at "mem") hpre ?_ ?_
                  · rw [sum_len]; simp only [List.length_map, List.length_take]; omega
                  rw [join_S]
                  intro trd
                  (refine T_args_nil ?_)
                  refine T_newTuple ?_
                  intro A
                  (refine T_args_nil ?_)
                  refine T_appendL (by walk_at "upd") (line20 (by rw [hT.len]; omega)) ?_
                  (refine K_next ?_; refine T_nil ?_; refine L_next ?_)
                  refine C_weak ?_ (ih2 (nextAt US k) (vs ++ [.ref A]) (e2 + 1) _ ((A, _) :: tl) (es ++ [(wordAt US k, (US.take (nextAt US k)).flatten)]) _ _ _ _ (by omega) hnx2 (hT.snoc (t := twd) (u := trd)) (by rw [List.append_assoc]; exact hes) (by simp; omega))
                  walk_at "sbl2"
                have key4 : ∀ (m j : Nat) (tt : Tok), ((US.drop j).takeWhile fun u => !stopU (quo US (skipTo US k)) u).length = m → j ≤ US.length → j + m = tailAt US k →
                    C fm 0 [some (.str (S fc) tf), some (.ref B), some (.ref Un), some (.str (S []) tr), sz, some (.ref R), some (.int (skipTo US k : Int) tj), some (.bool (quo US (skipTo US k))), some (.int (headOf US k : Int) th), some (.int (j : Int) tt), x4] ((R, listOf vs.toArray e2) :: (Un, listOf us.toArray e) :: (B, listOf bl.toArray 0) :: (tl ++ rest)) c4 P4 := by
                  subst hc4
                  generalize quo US (skipTo US k) = q at fin4 ⊢
                  intro m
                  induction m with
                  | zero =>
                    intro j tt hm hj hjs
                    refine C_while ?_
                    rw [Nat.add_zero] at hjs
                    (refine T_isTrue_BoolOp ?_; refine T_and_cons ?_; refine T_isTrue_Compare (by walk_at "u") ?_; refine T_local (.there (.there (.there (.there (.there (.there (.there (.there (.there .here))))))))) ?_; refine T_CallN ?_; refine T_glob List.mem_cons_self ?_; refine T_b1 (by walk_at "u") (by walk_at "u") ?_; refine T_args_cons (by walk_at "u") ?_; refine T_local (.there (.there .here)) ?_; refine T_args_nil ?_)
                    refine T_len_list (by walk_at "mem") (line20 (by simp; omega)) ?_
                    (intro _; refine T_lt ?_; refine T_truthy_bool ?_)
                    refine If2.dec (fun h => ?_) fun h => ?_
                    · have hjl : j < US.length := by simp at h; omega
                      (refine T_and_cons ?_; refine T_isTrue_Compare (by walk_at "u") ?_; refine T_Subscript ?_; refine T_local (.there (.there .here)) ?_; refine T_local (.there (.there (.there (.there (.there (.there (.there (.there (.there .here))))))))) ?_)
                      obtain ⟨tu, hu⟩ := sx_get hus j (S US[j]) (by simp [hjl])
                      refine T_item_list (by walk_at "mem") (by omega) (by omega) (x := .str (S US[j]) tu) (by simpa using hu) (by walk_at "u") ?_
                      have hst : stopU q US[j] = true := by
                        cases h' : stopU q US[j] with
                        | true => rfl
                        | false => rw [tw_yes (u := US[j]) (by simp [hjl]) (by simp [h'])] at hm; omega
                      (refine T_IfExp ?_; refine T_isTrue_val (by walk_at "u") ?_; refine T_local (.there (.there (.there (.there (.there (.there (.there .here))))))) ?_; refine T_truthy_bool ?_)
                      refine If2.both (fun hq => ?_) fun hq => ?_
                      · subst hq
                        (refine T_List ?_; refine T_args_cons (by walk_at "u") ?_; refine T_str ?_; intro _; refine T_args_nil ?_)
                        refine T_newList ?_
                        intro Q
                        rename_i tq
                        have hqq : StrsAre [Value.str (Str.ofString "\"") tq] ([[34]].map S) := by rw [lit34]; exact .cons _ _ .nil
                        refine T_notin_strs (by walk_at "mem") hqq ?_
                        (refine T_truthy_bool ?_)
                        refine If2.neg (by rw [Bool.not_eq_false', decide_eq_true_eq, mapS_mem]; exact of_decide_eq_true hst) ?_
                        refine If2.f ?_
                        refine T_weak (l' := (R, listOf vs.toArray e2) :: (Un, listOf us.toArray e) :: (B, listOf bl.toArray 0) :: (tl ++ rest)) (by walk_at "sbl") ?_
                        (refine T_nil ?_)
                        rw [hjs]
                        exact fin4 tt
                      · subst hq
                        (refine T_local (.there .here) ?_)
                        refine T_notin_strs (by walk_at "mem") hb ?_
                        (refine T_truthy_bool ?_)
                        refine If2.neg (by rw [Bool.not_eq_false', decide_eq_true_eq, mapS_mem]; exact of_decide_eq_true hst) ?_
                        refine If2.f ?_
                        (refine T_nil ?_)
                        rw [hjs]
                        exact fin4 tt
                    · refine If2.f ?_
                      (refine T_nil ?_)
                      rw [hjs]
                      exact fin4 tt
                  | succ m ih4 =>
                    intro j tt hm hj hjs
                    have hjl : j < US.length := by
                      refine Nat.lt_of_not_le fun q => ?_
                      rw [tw_ge q] at hm; omega
                    refine C_while ?_
                    (refine T_isTrue_BoolOp ?_; refine T_and_cons ?_; refine T_isTrue_Compare (by walk_at "u") ?_; refine T_local (.there (.there (.there (.there (.there (.there (.there (.there (.there .here))))))))) ?_; refine T_CallN ?_; refine T_glob List.mem_cons_self ?_; refine T_b1 (by walk_at "u") (by walk_at "u") ?_; refine T_args_cons (by walk_at "u") ?_; refine T_local (.there (.there .here)) ?_; refine T_args_nil ?_)
                    refine T_len_list (by walk_at "mem") (line20 (by simp; omega)) ?_
                    (intro _; refine T_lt ?_; refine T_truthy_bool ?_)
                    refine If2.pos (decide_eq_true (by simp; omega)) ?_
                    (refine T_and_cons ?_; refine T_isTrue_Compare (by walk_at "u") ?_; refine T_Subscript ?_; refine T_local (.there (.there .here)) ?_; refine T_local (.there (.there (.there (.there (.there (.there (.there (.there (.there .here))))))))) ?_)
                    obtain ⟨tu, hu⟩ := sx_get hus j (S US[j]) (by simp [hjl])
                    refine T_item_list (by walk_at "mem") (by omega) (by omega) (x := .str (S US[j]) tu) (by simpa using hu) (by walk_at "u") ?_
                    have hst : stopU q US[j] = false := by
                      cases h' : stopU q US[j] with
                      | false => rfl
                      | true => rw [tw_no (u := US[j]) (by simp [hjl]) (by simp [h'])] at hm; omega
                    rw [tw_yes (u := US[j]) (by simp [hjl]) (by simp [hst])] at hm
                    (refine T_IfExp ?_; refine T_isTrue_val (by walk_at "u") ?_; refine T_local (.there (.there (.there (.there (.there (.there (.there .here))))))) ?_; refine T_truthy_bool ?_)
                    refine If2.both (fun hq => ?_) fun hq => ?_
                    · subst hq
                      (refine T_List ?_; refine T_args_cons (by walk_at "u") ?_; refine T_str ?_; intro _; refine T_args_nil ?_)
                      refine T_newList ?_
                      intro Q
                      rename_i tq
                      have hqq : StrsAre [Value.str (Str.ofString "\"") tq] ([[34]].map S) := by rw [lit34]; exact .cons _ _ .nil
                      refine T_notin_strs (by walk_at "mem") hqq ?_
                      (refine T_truthy_bool ?_)
                      refine If2.pos (by rw [Bool.not_eq_true', decide_eq_false_iff_not, mapS_mem]; exact of_decide_eq_false hst) ?_
                      (refine T_and_nil ?_)
                      refine If2.t ?_
                      refine T_weak (l' := (R, listOf vs.toArray e2) :: (Un, listOf us.toArray e) :: (B, listOf bl.toArray 0) :: (tl ++ rest)) (by walk_at "sbl") ?_
                      (refine T_cons ?_; refine T_Aug ?_; refine T_loadName (.there (.there (.there (.there (.there (.there (.there (.there (.there .here))))))))) ?_; refine T_int ?_; intro _; refine T_iadd ?_; intro _; refine T_store (.there (.there (.there (.there (.there (.there (.there (.there (.there .here))))))))) ?_; refine K_next ?_; refine T_nil ?_; refine L_next ?_)
                      rw [show (j : Int) + 1 = ((j + 1 : Nat) : Int) by omega]
                      exact ih4 (j + 1) _ (by omega) (by omega) (by omega)
                    · subst hq
                      (refine T_local (.there .here) ?_)
                      refine T_notin_strs (by walk_at "mem") hb ?_
                      (refine T_truthy_bool ?_)
                      refine If2.pos (by rw [Bool.not_eq_true', decide_eq_false_iff_not, mapS_mem]; exact of_decide_eq_false hst) ?_
                      (refine T_and_nil ?_)
                      refine If2.t ?_
                      (refine T_cons ?_; refine T_Aug ?_; refine T_loadName (.there (.there (.there (.there (.there (.there (.there (.there (.there .here))))))))) ?_; refine T_int ?_; intro _; refine T_iadd ?_; intro _; refine T_store (.there (.there (.there (.there (.there (.there (.there (.there (.there .here))))))))) ?_; refine K_next ?_; refine T_nil ?_; refine L_next ?_)
                      rw [show (j : Int) + 1 = ((j + 1 : Nat) : Int) by omega]
                      exact ih4 (j + 1) _ (by omega) (by omega) (by omega)
                exact key4 _ (headOf US k) th rfl hhd rfl
              have key3 : ∀ (m j : Nat) (tj : Tok), ((US.drop j).takeWhile blk).length = m → j ≤ US.length → j + m = skipTo US k →
                  C fm 0 [some (.str (S fc) tf), some (.ref B), some (.ref Un), some (.str (S []) tr), sz, some (.ref R), some (.int (j : Int) tj), x1, x2, x3, x4] ((R, listOf vs.toArray e2) :: (Un, listOf us.toArray e) :: (B, listOf bl.toArray 0) :: (tl ++ rest)) c3 P3 := by
                subst hc3
                intro m
                induction m with
                | zero =>
                  intro j tj hm hj hjs
                  refine C_while ?_
                  (refine T_isTrue_BoolOp ?_; refine T_and_cons ?_; refine T_isTrue_Compare (by walk_at "u") ?_; refine T_local (.there (.there (.there (.there (.there (.there .here)))))) ?_; refine T_CallN ?_; refine T_glob List.mem_cons_self ?_; refine T_b1 (by walk_at "u") (by walk_at "u") ?_; refine T_args_cons (by walk_at "u") ?_; refine T_local (.there (.there .here)) ?_; refine T_args_nil ?_)
                  refine T_len_list (by walk_at "mem") (line20 (by simp; omega)) ?_
                  (intro _; refine T_lt ?_; refine T_truthy_bool ?_)
                  refine If2.dec (fun h => ?_) fun h => ?_
                  · have hjl : j < US.length := by simp at h; omega
                    (refine T_and_cons ?_; refine T_isTrue_Compare (by walk_at "u") ?_; refine T_Subscript ?_; refine T_local (.there (.there .here)) ?_; refine T_local (.there (.there (.there (.there (.there (.there .here)))))) ?_)
                    obtain ⟨tu, hu⟩ := sx_get hus j (S US[j]) (by simp [hjl])
                    refine T_item_list (by walk_at "mem") (by omega) (by omega) (x := .str (S US[j]) tu) (by simpa using hu) (by walk_at "u") ?_
                    (refine T_local (.there .here) ?_)
                    refine T_in_strs (by walk_at "mem") hb ?_
                    (refine T_truthy_bool ?_)
                    refine If2.neg (decide_eq_false fun q => ?_) ?_
                    · have hbk : blk US[j] = true := decide_eq_true (mapS_mem.mp q)
                      rw [tw_yes (u := US[j]) (by simp [hjl]) hbk] at hm
                      omega
                    refine If2.f ?_
                    (refine T_nil ?_)
                    rw [Nat.add_zero] at hjs
                    rw [hjs]
                    exact fin3 tj
                  · refine If2.f ?_
                    (refine T_nil ?_)
                    rw [Nat.add_zero] at hjs
                    rw [hjs]
                    exact fin3 tj
                | succ m ih3 =>
                  intro j tj hm hj hjs
                  have hjl : j < US.length := by
                    refine Nat.lt_of_not_le fun q => ?_
                    rw [tw_ge q] at hm; omega
                  refine C_while ?_
                  (refine T_isTrue_BoolOp ?_; refine T_and_cons ?_; refine T_isTrue_Compare (by walk_at "u") ?_; refine T_local (.there (.there (.there (.there (.there (.there .here)))))) ?_; refine T_CallN ?_; refine T_glob List.mem_cons_self ?_; refine T_b1 (by walk_at "u") (by walk_at "u") ?_; refine T_args_cons (by walk_at "u") ?_; refine T_local (.there (.there .here)) ?_; refine T_args_nil ?_)
                  refine T_len_list (by walk_at "mem") (line20 (by simp; omega)) ?_
                  (intro _; refine T_lt ?_; refine T_truthy_bool ?_)
                  refine If2.pos (decide_eq_true (by simp; omega)) ?_
                  (refine T_and_cons ?_; refine T_isTrue_Compare (by walk_at "u") ?_; refine T_Subscript ?_; refine T_local (.there (.there .here)) ?_; refine T_local (.there (.there (.there (.there (.there (.there .here)))))) ?_)
                  obtain ⟨tu, hu⟩ := sx_get hus j (S US[j]) (by simp [hjl])
                  refine T_item_list (by walk_at "mem") (by omega) (by omega) (x := .str (S US[j]) tu) (by simpa using hu) (by walk_at "u") ?_
                  (refine T_local (.there .here) ?_)
                  refine T_in_strs (by walk_at "mem") hb ?_
                  have hbk : blk US[j] = true := by
                    cases q : blk US[j] with
                    | true => rfl
                    | false => rw [tw_no (u := US[j]) (by simp [hjl]) q] at hm; omega
                  (refine T_truthy_bool ?_)
                  refine If2.pos (decide_eq_true (mapS_mem.mpr (of_decide_eq_true hbk))) ?_
                  (refine T_and_nil ?_)
                  refine If2.t ?_
                  (refine T_cons ?_; refine T_Aug ?_; refine T_loadName (.there (.there (.there (.there (.there (.there .here)))))) ?_; refine T_int ?_; intro _; refine T_iadd ?_; intro _; refine T_store (.there (.there (.there (.there (.there (.there .here)))))) ?_; refine K_next ?_; refine T_nil ?_; refine L_next ?_)
                  rw [show (j : Int) + 1 = ((j + 1 : Nat) : Int) by omega]
                  refine ih3 (j + 1) _ ?_ (by omega) (by omega)
                  rw [tw_yes (u := US[j]) (by simp [hjl]) hbk] at hm
                  omega
              exact key3 _ k tk rfl hk rfl
            · refine T_nil ?_
              have hk' : ¬ k < US.length := by simp at h; omega
              rw [runI, if_neg hk', List.append_nil] at hes
              subst hes
              exact fin2 k vs e2 tk tl x1 x2 x3 x4 hT hel hk
        exact key2 US.length 0 [] 0 _ [] [] none none none none (by omega) (by omega) .nil (by simpa using htg) (by simp)
      | cons c r =>
        refine If2.pos (by simp [show Str.ofString "" = S [] by decide +kernel, S_eq]) ?_
        refine T_cons ?_
        refine T_Assign (by walk_at "u") ?_
        refine T_mono (P := fun v vals' l' => (∃ t, v = Value.int ((if c = 92 then 2 else 1 : Nat) : Int) t) ∧ vals' = [some (.str (S fc) tf), some (.ref B), some (.ref Un), some (.str (S (c :: r)) tr), sz, none, none, none, none, none, none] ∧ l' = (Un, listOf us.toArray e) :: (B, listOf bl.toArray 0) :: rest) ?_ ?_
        · (refine T_IfExp ?_; refine T_isTrue_Compare (by walk_at "u") ?_; refine T_Subscript ?_; refine T_local (.there (.there (.there .here))) ?_; refine T_int ?_; intro _)
          refine T_item_str (cs := c :: r) (i := 0) rfl (by decide) (by walk_at "u") ?_
          (intro _; refine T_str ?_; intro _; refine T_eqs ?_; refine T_truthy_bool ?_)
          refine If2.dec (fun h => ?_) fun h => ?_
          · rw [lit92] at h
            (refine T_int ?_; intro _)
            exact ⟨⟨_, by rw [if_pos (one_inj h)]; rfl⟩, rfl, rfl⟩
          · rw [lit92] at h
            (refine T_int ?_; intro _)
            exact ⟨⟨_, by rw [if_neg (fun q => h (by rw [q]))]; rfl⟩, rfl, rfl⟩
        rintro _ _ _ ⟨⟨tn, rfl⟩, rfl, rfl⟩
        have hu := unitsOf_cons c r
        have hn2 : 1 ≤ (if c = 92 then 2 else 1) := by split <;> decide
        generalize (if c = 92 then 2 else 1) = n at hu hn2
        (refine T_store (.there (.there (.there (.there .here)))) ?_; refine K_next ?_; refine T_cons ?_; refine T_Expr (by walk_at "u") ?_; refine T_CallM (by walk_at "u") ?_; refine T_local (.there (.there .here)) ?_; refine T_meth_list PySem.F.slot_list_append PySem.F.type_list_append (by walk_at "mem") ?_; refine M_mk ?_; refine T_b2 (by walk_at "u") (by walk_at "u") ?_; refine T_args_cons (by walk_at "u") ?_; refine T_Subscript ?_; refine T_local (.there (.there (.there .here))) ?_; refine T_Slice ?_; refine T_part_none ?_; refine T_part_some ?_; refine T_local (.there (.there (.there (.there .here)))) ?_; intro _)
        rename_i sl
        refine T_slice_str (lo := none) (hi := some (n : Int)) (by walk_at "mem") .none (.int _ _) (line20 (by omega)) ?_
        rw [slc_to]
        intro t0
        (refine T_args_nil ?_)
        refine T_appendL (by walk_at "upd") (line20 (by have := sx_len hus; simp at this; omega)) ?_
        (refine K_next ?_; refine T_cons ?_; refine T_Assign (by walk_at "u") ?_; refine T_Subscript ?_; refine T_local (.there (.there (.there .here))) ?_; refine T_Slice ?_; refine T_part_some ?_; refine T_local (.there (.there (.there (.there .here)))) ?_; refine T_part_none ?_; intro _)
        rename_i sl2
        refine T_slice_str (lo := some (n : Int)) (hi := none) (by walk_at "mem") (.int _ _) .none (line20 (by omega)) ?_
        rw [slc_from]
        (intro _; refine T_store (.there (.there (.there .here))) ?_; refine K_next ?_; refine T_nil ?_; refine L_next ?_)
        refine C_weak ?_ (ih ((c :: r).drop n).length (by rw [← hM]; simp; omega) ((c :: r).drop n) (done ++ [(c :: r).take n]) (us ++ [.str (S ((c :: r).take n)) t0]) (e + 1) _ _ rfl (by rw [hU, hu, List.append_assoc]; rfl) (by rw [List.map_append]; exact sx_app hus (.cons _ _ .nil)) (by simp at hl ⊢; omega))
        walk_at "sbl"
  exact key fc.length fc [] [] 0 none tf rfl rfl .nil (by simpa using hlen)

/-! plain facts -/
def signs8 : List Nat := [32, 10, 9, 13, 34, 92, 35, 45]
def figN (x : Int) : Nat := (figure x).toNat
theorem figure_range (x : Int) : 0 ≤ figure x ∧ figure x < 64 := by
  unfold figure
  have h4 : (0 : Int) ≤ x.fmod 4 ∧ x.fmod 4 < 4 := ⟨Int.fmod_nonneg_of_pos _ (by decide), Int.fmod_lt_of_pos _ (by decide)⟩
  have h62 : (0 : Int) ≤ (x.fdiv 4).fmod 62 ∧ (x.fdiv 4).fmod 62 < 62 := ⟨Int.fmod_nonneg_of_pos _ (by decide), Int.fmod_lt_of_pos _ (by decide)⟩
  split <;> omega
theorem figN_eq (x : Int) : figure x = (figN x : Int) := by have := figure_range x; unfold figN; omega
theorem figN_lt (x : Int) : figN x < 64 := by have := figure_range x; unfold figN; omega
def figs (ns : List Int) : List Nat := [62, 63, 62, 8, 62, 5, 63, 62] ++ ((ns.drop 1).take 12).map figN
theorem figs_lt (ns : List Int) : ∀ f ∈ figs ns, f < 64 := by
  intro f hf
  rcases List.mem_append.mp hf with h | h
  · have : ∀ f ∈ [62, 63, 62, 8, 62, 5, 63, 62], f < 64 := by decide
    exact this f h
  · obtain ⟨x, _, rfl⟩ := List.mem_map.mp h; exact figN_lt x
theorem figs_len (ns : List Int) : 8 ≤ (figs ns).length ∧ (figs ns).length ≤ 20 := by simp [figs]; omega
theorem octs_lt : ∀ fs : List Nat, (∀ f ∈ fs, f < 64) → ∀ o ∈ octs fs, o < 256
  | a :: b :: c :: d :: r, h, o, ho => by
    have ha := h a (by simp); have hb := h b (by simp); have hc := h c (by simp); have hd := h d (by simp)
    have ih := octs_lt r (fun f hf => h f (by simp [hf]))
    simp only [octs, List.mem_cons] at ho
    rcases ho with rfl | rfl | rfl | ho
    · omega
    · omega
    · omega
    · exact ih o ho
  | [a, b, c], h, o, ho => by
    have ha := h a (by simp); have hb := h b (by simp); have hc := h c (by simp)
    simp only [octs, List.mem_cons, List.not_mem_nil, or_false] at ho
    rcases ho with rfl | rfl <;> omega
  | [a, b], h, o, ho => by
    have ha := h a (by simp); have hb := h b (by simp)
    simp only [octs, List.mem_cons, List.not_mem_nil, or_false] at ho
    omega
  | [a], h, o, ho => by simp [octs] at ho
  | [], h, o, ho => by simp [octs] at ho
theorem octs_len : ∀ fs : List Nat, (octs fs).length ≤ fs.length
  | a :: b :: c :: d :: r => by have := octs_len r; simp [octs]; omega
  | [a, b, c] => by simp [octs]
  | [a, b] => by simp [octs]
  | [a] => by simp [octs]
  | [] => by simp [octs]
theorem byteArr_nat {os : List Nat} (h : ∀ o ∈ os, o < 256) : (byteArr (nz os)).toList.map UInt8.toNat = os := by
  induction os with
  | nil => rfl
  | cons o os ih =>
    have ho := h o (by simp)
    have ih := ih fun x hx => h x (by simp [hx])
    simp only [byteArr, nz, List.map_cons, List.map_map] at ih ⊢
    rw [ih]
    congr 1
    simp; omega
theorem kept_len (fs : List Nat) : (kept fs).length ≤ fs.length := by
  unfold kept
  split
  · simp
  · split
    · exact Nat.le_refl _
    · rename_i h1 h2
      have : fs ≠ [] := by intro q; subst q; simp at h2
      have := List.length_pos_iff.mpr this
      simp; omega
theorem face_len (fs : List Nat) (p0 p1) : (face fs p0 p1).length ≤ fs.length + 3 := by
  have := kept_len fs
  simp [face]; omega
theorem sgn_lt {p0 p1 : Nat} (h0 : p0 < 128) (h1 : p1 < 128) (f : Nat) : sgn p0 p1 f < 128 := by
  unfold sgn
  rw [List.getD_eq_getElem?_getD]
  cases hq : (alpha62 ++ [p0, p1])[f]? with
  | none => decide
  | some x =>
    have := List.mem_of_getElem? hq
    rcases List.mem_append.mp this with h | h
    · have : ∀ x ∈ alpha62, x < 128 := by decide +kernel
      exact this x h
    · simp at h; rcases h with rfl | rfl <;> simpa
theorem face_lt {p0 p1 : Nat} (h0 : p0 < 128) (h1 : p1 < 128) (fs : List Nat) : ∀ c ∈ face fs p0 p1, c < 128 := by
  intro c hc
  rcases List.mem_append.mp hc with h | h
  · obtain ⟨f, _, rfl⟩ := List.mem_map.mp h; exact sgn_lt h0 h1 f
  · rw [(List.mem_replicate.mp h).2]; decide
/-- a machine's tokens, one behind the other -/
inductive Chain (fc : List Nat) : List Nat → List (List Nat × List Nat) → Prop
  | nil {cs} : Chain fc cs []
  | cons {cs cs' w r es} : tokRun cs = (S w, cs') → r ++ cs' = fc → Chain fc cs' es → Chain fc cs ((w, r) :: es)
/-! base 64 of the octets of figures -/
theorem emits8 (v : Nat) : emits 3 8 v = [v / 4 % 64] := by simp [emits]
theorem emits10 (v : Nat) : emits 3 10 v = [v / 16 % 64] := by simp [emits]
theorem emits12 (v : Nat) : emits 3 12 v = [v / 64 % 64, v % 64] := by simp [emits]
theorem kept4 (a b c d : Nat) (r : List Nat) : kept (a :: b :: c :: d :: r) = a :: b :: c :: d :: kept r := by
  have hl : (a :: b :: c :: d :: r).length % 4 = r.length % 4 := by simp only [List.length_cons]; omega
  unfold kept
  rw [hl]
  by_cases h0 : r.length % 4 = 0
  · simp [h0]
  · have hne : r ≠ [] := by intro q; subst q; simp at h0
    obtain ⟨x, r', rfl⟩ : ∃ x r', r = x :: r' := by
      cases r with
      | nil => exact absurd rfl hne
      | cons x r' => exact ⟨x, r', rfl⟩
    have hd : (a :: b :: c :: d :: x :: r').dropLast = a :: b :: c :: d :: (x :: r').dropLast := rfl
    have hg : (a :: b :: c :: d :: x :: r').getLast? = (x :: r').getLast? := by simp [List.getLast?_cons_cons]
    rw [hd, hg]
    split
    · rfl
    · rfl
theorem enc_octs : ∀ (fs : List Nat), (∀ f ∈ fs, f < 64) → ∀ lc, enc (octs fs) 0 lc = kept fs
  | a :: b :: c :: d :: r, h, lc => by
    have ha := h a (by simp); have hb := h b (by simp); have hc := h c (by simp); have hd := h d (by simp)
    have ih := enc_octs r (fun f hf => h f (by simp [hf]))
    rw [kept4]
    simp only [octs, enc]
    rw [show (0 + 8) = 8 from rfl, show ((0 + 2) % 6) = 2 from rfl, show (2 + 8) = 10 from rfl, show ((2 + 2) % 6) = 4 from rfl, show (4 + 8) = 12 from rfl, show ((4 + 2) % 6) = 0 from rfl, emits8, emits10, emits12, ih]
    generalize hv1 : (lc * 256 + (a * 4 + b / 16)) % 65536 = v1
    generalize hv2 : (v1 * 256 + (b % 16 * 16 + c / 4)) % 65536 = v2
    generalize hv3 : (v2 * 256 + (c % 4 * 64 + d)) % 65536 = v3
    have e1 : v1 / 4 % 64 = a := by omega
    have e2 : v2 / 16 % 64 = b := by omega
    have e3 : v3 / 64 % 64 = c := by omega
    have e4 : v3 % 64 = d := by omega
    rw [e1, e2, e3, e4]; rfl
  | [a, b, c], h, lc => by
    have ha := h a (by simp); have hb := h b (by simp); have hc := h c (by simp)
    have hk : kept [a, b, c] = [a, b, c - c % 4] := by simp [kept]
    rw [hk]
    simp only [octs, enc]
    rw [show (0 + 8) = 8 from rfl, show ((0 + 2) % 6) = 2 from rfl, show (2 + 8) = 10 from rfl, show ((2 + 2) % 6) = 4 from rfl, emits8, emits10, if_neg (by decide), if_pos trivial]
    generalize hv1 : (lc * 256 + (a * 4 + b / 16)) % 65536 = v1
    generalize hv2 : (v1 * 256 + (b % 16 * 16 + c / 4)) % 65536 = v2
    have e1 : v1 / 4 % 64 = a := by omega
    have e2 : v2 / 16 % 64 = b := by omega
    have e3 : v2 % 16 * 4 = c - c % 4 := by omega
    rw [e1, e2, e3]; rfl
  | [a, b], h, lc => by
    have ha := h a (by simp); have hb := h b (by simp)
    have hk : kept [a, b] = [a, b - b % 16] := by simp [kept]
    rw [hk]
    simp only [octs, enc]
    rw [show (0 + 8) = 8 from rfl, show ((0 + 2) % 6) = 2 from rfl, emits8, if_pos trivial]
    generalize hv1 : (lc * 256 + (a * 4 + b / 16)) % 65536 = v1
    have e1 : v1 / 4 % 64 = a := by omega
    have e3 : v1 % 4 * 16 = b - b % 16 := by omega
    rw [e1, e3]; rfl
  | [a], h, lc => by simp [octs, enc, kept]
  | [], h, lc => by simp [octs, enc, kept]
theorem pad_octs : ∀ (fs : List Nat), (3 - (octs fs).length % 3) % 3 = (4 - (kept fs).length % 4) % 4
  | a :: b :: c :: d :: r => by
    have ih := pad_octs r
    rw [kept4]
    simp only [octs, List.length_cons] at ih ⊢
    omega
  | [a, b, c] => by simp [octs, kept]
  | [a, b] => by simp [octs, kept]
  | [a] => by simp [octs, kept]
  | [] => by simp [octs, kept]
theorem kept_lt {fs : List Nat} (h64 : ∀ f ∈ fs, f < 64) : ∀ f ∈ kept fs, f < 64 := by
  intro f hf
  unfold kept at hf
  split at hf
  · exact h64 f (List.dropLast_subset _ hf)
  · split at hf
    · exact h64 f hf
    · rcases List.mem_append.mp hf with hf | hf
      · exact h64 f (List.dropLast_subset _ hf)
      · rw [List.mem_singleton.mp hf]
        cases hq : fs.getLast? with
        | none => simp
        | some y => have := h64 y (List.mem_of_getLast? hq); simp; omega
theorem swap_sgn (p0 p1 : Nat) : ∀ f < 64, swapB p0.toUInt8 p1.toUInt8 (b64c f).toNat.toUInt8 = (sgn p0 p1 f).toUInt8 := by
  intro f hf
  have key : ∀ f < 62, ¬ (b64c f).toNat.toUInt8 = 43 ∧ ¬ (b64c f).toNat.toUInt8 = 47 ∧ (b64c f).toNat = alpha62.getD f 0 := by decide +kernel
  by_cases h : f < 62
  · obtain ⟨h1, h2, h3⟩ := key f h
    unfold swapB sgn
    rw [if_neg h1, if_neg h2, h3, List.getD_eq_getElem?_getD, List.getD_eq_getElem?_getD, List.getElem?_append_left (by show f < 62; exact h)]
  · have : f = 62 ∨ f = 63 := by omega
    rcases this with rfl | rfl
    · have : (b64c 62).toNat.toUInt8 = 43 := by decide +kernel
      rw [this]; rfl
    · have : (b64c 63).toNat.toUInt8 = 47 := by decide +kernel
      rw [this]; rfl
theorem enc_face {fs : List Nat} {p0 p1 : Nat} (h : ∀ f ∈ fs, f < 64) :
    (byteArr (encOut (octs fs))).map (swapB p0.toUInt8 p1.toUInt8) = byteArr (nz (face fs p0 p1)) := by
  unfold encOut
  rw [enc_octs fs h 0]
  unfold pads face
  rw [pad_octs fs]
  apply Array.ext'
  simp only [byteArr, nz, List.map_append, List.map_map, Array.toList_map, List.map_replicate]
  congr 1
  apply List.map_congr_left
  intro f hf
  exact swap_sgn p0 p1 f (kept_lt h f hf)
/-! units -/
inductive UL : List (List Nat) → Prop
  | nil : UL []
  | one {c V} : c ≠ 92 → UL V → UL ([c] :: V)
  | esc {d V} : UL V → UL ([92, d] :: V)
  | last : UL [[92]]
theorem UL.units : ∀ fc : List Nat, UL (unitsOf fc)
  | [] => .nil
  | [c] => by
    by_cases h : c = 92
    · subst h; exact .last
    · exact .one h .nil
  | c :: d :: r => by
    unfold unitsOf
    split
    · rename_i h; subst h; exact .esc (UL.units r)
    · rename_i h; exact .one h (UL.units (d :: r))
theorem UL.tail {u V} (h : UL (u :: V)) : UL V := by
  cases h with
  | one _ h => exact h
  | esc h => exact h
  | last => exact .nil
theorem UL.drop {V} (h : UL V) : ∀ n, UL (V.drop n) := by
  intro n
  induction n generalizing V with
  | zero => exact h
  | succ n ih =>
    cases V with
    | nil => exact h
    | cons u V => exact ih h.tail
theorem UL.dropWhile {V} (h : UL V) (p) : UL (V.dropWhile p) := by
  induction V with
  | nil => exact h
  | cons u V ih =>
    rw [List.dropWhile_cons]
    split
    · exact ih h.tail
    · exact h
theorem blk1 (c : Nat) : blk [c] = wsB c := by
  unfold blk wsB
  rw [decide_eq_decide]; simp
theorem blk2 (c d : Nat) : blk [c, d] = false := by simp [blk]
theorem bare1 {c : Nat} (h : c ≠ 92) : bareU [c] = [c] := by simp [bareU, h]
theorem bare2 (d : Nat) : bareU [92, d] = [d] := rfl
theorem q_units {V : List (List Nat)} (h : UL V) : ∀ a : List Nat, qRun V.flatten (S a) = (S (a ++ ((V.takeWhile fun u => !stopU true u).map bareU).flatten), ((V.dropWhile fun u => !stopU true u).tail).flatten) := by
  induction h with
  | nil => intro a; simp [qRun]
  | @one c V hc _ ih =>
    intro a
    show qRun (c :: V.flatten) (S a) = _
    by_cases h34 : c = 34
    · subst h34
      have hs : stopU true [34] = true := by decide
      rw [q_q]
      simp [hs]
    · have hs : stopU true [c] = false := by simp [stopU, h34]
      rw [q_c h34 hc, S_app, ih]
      simp [hs, bare1 hc]
  | @esc d V _ ih =>
    intro a
    show qRun (92 :: d :: V.flatten) (S a) = _
    have hs : stopU true [92, d] = false := by simp [stopU]
    rw [q_e, S_app, ih]
    simp [hs, bare2]
  | last =>
    intro a
    show qRun [92] (S a) = _
    have hs : stopU true [92] = false := by decide
    rw [q_e0]
    simp [hs, bareU]
theorem w_units {V : List (List Nat)} (h : UL V) : ∀ a : List Nat, wRun V.flatten (S a) = (S (a ++ ((V.takeWhile fun u => !stopU false u).map bareU).flatten), ((V.dropWhile fun u => !stopU false u).tail).flatten) := by
  induction h with
  | nil => intro a; simp [wRun]
  | @one c V hc _ ih =>
    intro a
    show wRun (c :: V.flatten) (S a) = _
    cases hw : wsB c with
    | true =>
      have hs : stopU false [c] = true := by show blk [c] = true; rw [blk1]; exact hw
      rw [w_w hw]
      simp [hs]
    | false =>
      have hs : stopU false [c] = false := by show blk [c] = false; rw [blk1]; exact hw
      rw [w_c hw hc, S_app, ih]
      simp [hs, bare1 hc]
  | @esc d V _ ih =>
    intro a
    show wRun (92 :: d :: V.flatten) (S a) = _
    have hs : stopU false [92, d] = false := blk2 92 d
    rw [w_e, S_app, ih]
    simp [hs, bare2]
  | last =>
    intro a
    show wRun [92] (S a) = _
    have hs : stopU false [92] = false := by decide
    rw [w_e0]
    simp [hs, bareU]
theorem tok_skip {V : List (List Nat)} (h : UL V) : tokRun V.flatten = tokRun (V.dropWhile blk).flatten := by
  induction V with
  | nil => rfl
  | cons u V ih =>
    rw [List.dropWhile_cons]
    split
    · rename_i hb
      rw [← ih h.tail]
      cases h with
      | @one c _ hc _ => show tokRun (c :: V.flatten) = _; rw [tok_ws (by rw [← blk1]; exact hb)]
      | esc _ => rw [blk2] at hb; cases hb
      | last => exact absurd hb (by decide)
    · rfl
theorem tok_head {V : List (List Nat)} (h : UL V) (hb : ∀ u ∈ V.head?, blk u = false) (q : Bool) (hq : q = decide (V.take 1 = [[34]])) :
    tokRun V.flatten = (S ((((if q then V.tail else V).takeWhile fun u => !stopU q u).map bareU).flatten), (((if q then V.tail else V).dropWhile fun u => !stopU q u).tail).flatten) := by
  cases h with
  | nil => subst hq; rfl
  | one hc hV =>
    rename_i c V
    have hw : wsB c = false := by rw [← blk1]; exact hb _ rfl
    have hs : stopU false [c] = false := by show blk [c] = false; exact hb _ rfl
    by_cases h34 : c = 34
    · subst h34
      have : q = true := by rw [hq]; simp
      subst this
      show tokRun (34 :: V.flatten) = _
      rw [tok_q, q_units hV]; rfl
    · have : q = false := by rw [hq]; simp [h34]
      subst this
      show tokRun (c :: V.flatten) = _
      rw [tok_w hw h34 hc, w_units hV]
      simp [hs, bare1 hc]
  | esc hV =>
    rename_i d V
    have hs : stopU false [92, d] = false := blk2 92 d
    have : q = false := by rw [hq]; simp
    subst this
    show tokRun (92 :: d :: V.flatten) = _
    rw [tok_e, w_units hV]
    simp [hs, bare2]
  | last =>
    have : q = false := by rw [hq]; decide
    subst this
    show tokRun [92] = _
    have hs : stopU false [92] = false := by decide
    rw [tok_e0]
    simp [hs, bareU]
theorem drop_tw {p : List Nat → Bool} (V : List (List Nat)) : V.drop (V.takeWhile p).length = V.dropWhile p := by
  induction V with
  | nil => rfl
  | cons u V ih =>
    rw [List.takeWhile_cons, List.dropWhile_cons]
    split <;> simp [ih]
theorem take_tw {p : List Nat → Bool} (V : List (List Nat)) : V.take (V.takeWhile p).length = V.takeWhile p := by
  induction V with
  | nil => rfl
  | cons u V ih =>
    rw [List.takeWhile_cons]
    split <;> simp [ih]
theorem head_dw {p : List Nat → Bool} (V : List (List Nat)) : ∀ u ∈ (V.dropWhile p).head?, p u = false := by
  induction V with
  | nil => intro u hu; cases hu
  | cons x V ih =>
    rw [List.dropWhile_cons]
    split
    · exact ih
    · rename_i h
      intro u hu
      cases hu
      simpa using h
theorem tok_at {US : List (List Nat)} (h : UL US) (k : Nat) : tokRun (US.drop k).flatten = (S (wordAt US k), (US.drop (nextAt US k)).flatten) := by
  have e1 : US.drop (skipTo US k) = (US.drop k).dropWhile blk := by unfold skipTo; rw [← List.drop_drop, drop_tw]
  have hq : quo US (skipTo US k) = decide (((US.drop k).dropWhile blk).take 1 = [[34]]) := by unfold quo; rw [e1]
  have e2 : US.drop (headOf US k) = if quo US (skipTo US k) = true then ((US.drop k).dropWhile blk).tail else (US.drop k).dropWhile blk := by
    unfold headOf
    split
    · rw [← List.drop_drop, e1, List.drop_one]
    · exact e1
  rw [tok_skip (h.drop k), tok_head ((h.drop k).dropWhile blk) (head_dw _) _ hq, ← e2]
  have e3 : US.drop (tailAt US k) = (US.drop (headOf US k)).dropWhile fun u => !stopU (quo US (skipTo US k)) u := by
    unfold tailAt tailOf
    rw [← List.drop_drop, drop_tw]
  have e4 : (US.drop (headOf US k)).take (tailAt US k - headOf US k) = (US.drop (headOf US k)).takeWhile fun u => !stopU (quo US (skipTo US k)) u := by
    unfold tailAt tailOf
    rw [Nat.add_sub_cancel_left, take_tw]
  rw [← e3, ← e4]
  have e5 : US.drop (nextAt US k) = (US.drop (tailAt US k)).tail := by
    rw [List.tail_drop]
    unfold nextAt
    by_cases hl : tailAt US k + 1 ≤ US.length
    · rw [Nat.min_eq_left hl]
    · rw [Nat.min_eq_right (by omega), List.drop_length, List.drop_eq_nil_of_le (by omega)]
  rw [e5]; rfl
theorem skip_le (US : List (List Nat)) (k : Nat) : k ≤ nextAt US k ∨ US.length ≤ k := by
  unfold nextAt tailAt tailOf headOf skipTo
  by_cases h : US.length ≤ k
  · exact .inr h
  · left
    split <;> omega
theorem run_chain (fc : List Nat) : Chain fc fc (runOf fc) := by
  have hU := UL.units fc
  have hf := unitsOf_flatten fc
  unfold runOf
  generalize unitsOf fc = US at hU hf ⊢
  have key : ∀ f k, US.length - k ≤ f → Chain fc (US.drop k).flatten (runI US f k ++ [([], fc), ([], fc)]) := by
    intro f
    induction f with
    | zero =>
      intro k hk
      rw [List.drop_eq_nil_of_le (by omega)]
      exact .cons (cs' := []) rfl (by simp) (.cons (cs' := []) rfl (by simp) .nil)
    | succ f ih =>
      intro k hk
      unfold runI
      split
      · rename_i hkl
        refine .cons (tok_at hU k) ?_ (ih (nextAt US k) ?_)
        · rw [← List.flatten_append, List.take_append_drop, hf]
        · have : k + 1 ≤ nextAt US k := by
            unfold nextAt tailAt tailOf headOf skipTo
            split <;> omega
          omega
      · rw [List.drop_eq_nil_of_le (by omega)]
        exact .cons (cs' := []) rfl (by simp) (.cons (cs' := []) rfl (by simp) .nil)
  have := key US.length 0 (by omega)
  rw [List.drop_zero, hf] at this
  exact this

/-! law -/
theorem glb_ord (G : Gr) (hK : G.K = Mine.hd.heap_39 G.w.params) : Glb G (Str.ofString "ord") (.builtin "ord") := .inr ⟨by rw [hK]; k_is, by boot_by_name, by decide⟩
theorem glb_chr (G : Gr) (hK : G.K = Mine.hd.heap_39 G.w.params) : Glb G (Str.ofString "chr") (.builtin "chr") := .inr ⟨by rw [hK]; k_is, by boot_by_name, by decide⟩
theorem glb_isinstance (G : Gr) (hK : G.K = Mine.hd.heap_39 G.w.params) : Glb G (Str.ofString "isinstance") (.builtin "isinstance") := .inr ⟨by rw [hK]; k_is, by boot_by_name, by decide⟩
theorem glb_figure (G : Gr) (hK : G.K = Mine.hd.heap_39 G.w.params) : Glb G (Str.ofString "_law_figure") (.ref 107) := .inl (by rw [hK]; k_is)
theorem glb_face (G : Gr) (hK : G.K = Mine.hd.heap_39 G.w.params) : Glb G (Str.ofString "_law_face") (.ref 119) := .inl (by rw [hK]; k_is)
theorem glb_b64 (G : Gr) (hK : G.K = Mine.hd.heap_39 G.w.params) : Glb G (Str.ofString "b64encode") (.ref 93) := .inl (by rw [hK]; k_is)
theorem glb_octets (G : Gr) (hK : G.K = Mine.hd.heap_39 G.w.params) : Glb G (Str.ofString "_law_octets") (.ref 114) := .inl (by rw [hK]; k_is)
theorem glb_machine (G : Gr) (hK : G.K = Mine.hd.heap_39 G.w.params) : Glb G (Str.ofString "_law_machine") (.ref 100) := .inl (by rw [hK]; k_is)
theorem glb_run (G : Gr) (hK : G.K = Mine.hd.heap_39 G.w.params) : Glb G (Str.ofString "_law_run") (.ref 124) := .inl (by rw [hK]; k_is)
theorem glb_netrclex (G : Gr) (hK : G.K = Mine.hd.heap_39 G.w.params) : Glb G (Str.ofString "_netrclex") (.ref 59) := .inl (by rw [hK]; k_is)
theorem lit8 : Str.ofString " \n\t\x0d\"\\#-" = S signs8 := by decide +kernel

theorem Pick.app {p : Addr × Obj} {l l' : Led} (tl : Led) (h : Pick p l l') : Pick p (tl ++ l) (tl ++ l') := by
  induction tl with
  | nil => exact h
  | cons q tl ih => exact .tail ih
theorem Sbl.swapApp (X tl rest : Led) : Sbl (X ++ (tl ++ rest)) (tl ++ (X ++ rest)) := by
  induction X with
  | nil => exact .refl
  | cons p X ih => exact .pick (Pick.app tl .head) ih
theorem Sbl.dropApp (tl rest : Led) : Sbl rest (tl ++ rest) := by
  induction tl with
  | nil => exact .refl
  | cons p tl ih => exact .drop ih
theorem law_spec (G : Gr) (hK : G.K = Mine.hd.heap_39 G.w.params) (hC : CodeHd G.base 99 95) (sa : Addr) (items : List Value) (ns : List Int) (hb : G.base.IsList sa items.toArray) (hi : IntsAre items ns) (hl : ns.length ≤ 63) :
    Sp G 8 [(95, tabObj #[])] (.ref 129) [.ref sa] [] fun v post => v = .bool true ∧ ∃ ps, post = [(95, tabObj ps)] := by
  refine enter (N := [Str.ofString "script", Str.ofString "n", Str.ofString "pair", Str.ofString "figures", Str.ofString "face", Str.ofString "written", Str.ofString "signs", Str.ofString "machine", Str.ofString "word", Str.ofString "read"])
    (Gs := [(Str.ofString "len", .builtin "len"), (Str.ofString "isinstance", .builtin "isinstance"), (Str.ofString "bytes", .type "bytes"), (Str.ofString "_law_face", .ref 119), (Str.ofString "b64encode", .ref 93), (Str.ofString "_law_octets", .ref 114), (Str.ofString "_law_machine", .ref 100), (Str.ofString "_law_run", .ref 124)])
    (binds := [(Str.ofString "script", .ref sa)]) (vals := [some (.ref sa), none, none, none, none, none, none, none, none, none]) (ho := by rw [hK]; k_is) (hcd := by rw [hK]; k_is) (hbind := fun s X => BindsTo.of_eq rfl)
    [Str.ofString "n", Str.ofString "pair", Str.ofString "figures", Str.ofString "face", Str.ofString "written", Str.ofString "signs", Str.ofString "machine", Str.ofString "word", Str.ofString "read"] (hN := rfl) (hv := rfl) (hnd := by decide) (hloc := by decide +kernel)
    (hglb := fun p hp => by
      rcases List.mem_cons.mp hp with rfl | hp
      · exact ⟨by decide +kernel, by decide, glb_len G hK⟩
      rcases List.mem_cons.mp hp with rfl | hp
      · exact ⟨by decide +kernel, by decide, glb_isinstance G hK⟩
      rcases List.mem_cons.mp hp with rfl | hp
      · exact ⟨by decide +kernel, by decide, glb_bytes G hK⟩
      rcases List.mem_cons.mp hp with rfl | hp
      · exact ⟨by decide +kernel, by decide, glb_face G hK⟩
      rcases List.mem_cons.mp hp with rfl | hp
      · exact ⟨by decide +kernel, by decide, glb_b64 G hK⟩
      rcases List.mem_cons.mp hp with rfl | hp
      · exact ⟨by decide +kernel, by decide, glb_octets G hK⟩
      rcases List.mem_cons.mp hp with rfl | hp
      · exact ⟨by decide +kernel, by decide, glb_machine G hK⟩
      rcases List.mem_cons.mp hp with rfl | hp
      · exact ⟨by decide +kernel, by decide, glb_run G hK⟩
      cases hp) (hcell := by decide +kernel) (hco := rfl) (hgen := rfl) (hk := rfl) ?_
  intro fm rest
  rw [List.singleton_append]
  have hil : items.length = ns.length := hi.length
  refine T_cons ?_
  refine T_Assign (by walk_at "u") ?_
  refine T_mono (P := fun v vals' l' => (∃ n t, v = Value.int n t) ∧ vals' = [some (.ref sa), none, none, none, none, none, none, none, none, none] ∧ l' = (95, tabObj #[]) :: rest) ?_ ?_
  · (refine T_IfExp ?_; refine T_isTrue_val (by walk_at "u") ?_; refine T_local .here ?_)
    refine T_truthy_base hb (line20 (by omega)) ?_
    cases items with
    | nil =>
      refine If2.f ?_
      (refine T_int ?_; intro _)
      exact ⟨⟨_, _, rfl⟩, rfl, rfl⟩
    | cons x r =>
      refine If2.t ?_
      obtain ⟨n, t, rfl, _⟩ := IntsAre.get hi 0 x rfl
      (refine T_Subscript ?_; refine T_local .here ?_; refine T_int ?_; intro _)
      refine T_item_base hb (by decide) (by decide) (x := .int n t) rfl (by walk_at "u") ?_
      exact ⟨⟨_, _, rfl⟩, rfl, rfl⟩
  rintro _ _ _ ⟨⟨n, tn, rfl⟩, rfl, rfl⟩
  have hmod : ∀ x : Int, ∃ i c, x.fmod 8 = ((i : Nat) : Int) ∧ signs8[i]? = some c ∧ c < 128 ∧ i < 8 := by
    intro x
    have h8 : (0 : Int) ≤ x.fmod 8 ∧ x.fmod 8 < 8 := ⟨Int.fmod_nonneg_of_pos _ (by decide), Int.fmod_lt_of_pos _ (by decide)⟩
    have hlt : (x.fmod 8).toNat < 8 := by omega
    have hc : ∀ i < 8, signs8.getD i 0 < 128 := by decide
    refine ⟨(x.fmod 8).toNat, signs8.getD (x.fmod 8).toNat 0, by omega, ?_, hc _ hlt, hlt⟩
    rw [List.getD_eq_getElem?_getD, List.getElem?_eq_getElem (by show _ < 8; exact hlt)]; rfl
  obtain ⟨i0, p0, hi0, hp0, h0, hi0'⟩ := hmod n
  obtain ⟨i1, p1, hi1, hp1, h1, hi1'⟩ := hmod (n.fdiv 8)
  (refine T_store (.there .here) ?_; refine K_next ?_; refine T_cons ?_; refine T_Assign (by walk_at "u") ?_; refine T_BinOp ?_; refine T_Subscript ?_; refine T_str ?_)
  intro t8
  rw [show Value.str (Str.ofString " \n\t\x0d\"\\#-") t8 = Value.str (S signs8) t8 by rw [lit8]]
  (refine T_BinOp ?_; refine T_local (.there .here) ?_; refine T_int ?_; intro _; refine T_mod (by decide) ?_; intro _)
  rw [hi0]
  refine T_item_str hp0 (by omega) (by walk_at "u") ?_
  (intro _; refine T_Subscript ?_; refine T_str ?_)
  intro t9
  rw [show Value.str (Str.ofString " \n\t\x0d\"\\#-") t9 = Value.str (S signs8) t9 by rw [lit8]]
  (refine T_BinOp ?_; refine T_BinOp ?_; refine T_local (.there .here) ?_; refine T_int ?_; intro _; refine T_fdiv (by decide) (by decide) ?_; intro _; refine T_int ?_; intro _; refine T_mod (by decide) ?_; intro _)
  rw [hi1]
  refine T_item_str hp1 (by omega) (by walk_at "u") ?_
  (intro _)
  refine T_adds (by rw [S_app, S_len]; exact line20 (by simp)) ?_
  rw [S_app, show [p0] ++ [p1] = [p0, p1] from rfl]
  intro tp
  clear hmod hi0 hp0 hi0' hi1 hp1 hi1' i0 i1
  (refine T_store (.there (.there .here)) ?_; refine K_next ?_; refine T_cons ?_; refine T_Assign (by walk_at "u") ?_; refine T_BinOp ?_; refine T_List ?_; refine T_args_cons (by walk_at "u") ?_; refine T_int ?_; intro _; refine T_args_cons (by walk_at "u") ?_; refine T_int ?_; intro _; refine T_args_cons (by walk_at "u") ?_; refine T_int ?_; intro _; refine T_args_cons (by walk_at "u") ?_; refine T_int ?_; intro _; refine T_args_cons (by walk_at "u") ?_; refine T_int ?_; intro _; refine T_args_cons (by walk_at "u") ?_; refine T_int ?_; intro _; refine T_args_cons (by walk_at "u") ?_; refine T_int ?_; intro _; refine T_args_cons (by walk_at "u") ?_; refine T_int ?_; intro _; refine T_args_nil ?_)
  refine T_newList ?_
  intro F8
  rename_i u1 u2 u3 u4 u5 u6 u7 u8
  have h8 : IntsAre [Value.int 62 u1, .int 63 u2, .int 62 u3, .int 8 u4, .int 62 u5, .int 5 u6, .int 63 u7, .int 62 u8] (nz [62, 63, 62, 8, 62, 5, 63, 62]) :=
    .cons _ _ (.cons _ _ (.cons _ _ (.cons _ _ (.cons _ _ (.cons _ _ (.cons _ _ (.cons _ _ .nil)))))))
  generalize hv8 : [Value.int 62 u1, .int 63 u2, .int 62 u3, .int 8 u4, .int 62 u5, .int 5 u6, .int 63 u7, .int 62 u8] = v8 at h8
  have hv8l : v8.length = 8 := by rw [← hv8]; rfl
  clear hv8
  refine T_comp [Str.ofString "x"] [(Str.ofString "_law_figure", .ref 107)] (fun _ => rfl) (cl := []) rfl rfl (by decide +kernel) (by decide +kernel) (by decide) (by decide +kernel) (fun p hp => by
    rcases List.mem_cons.mp hp with rfl | hp
    · exact ⟨by decide +kernel, by decide, glb_figure G hK⟩
    cases hp) ?_
  (refine T_Subscript ?_; refine T_local .here ?_; refine T_Slice ?_; refine T_part_some ?_; refine T_int ?_; intro _; refine T_part_some ?_; refine T_int ?_; intro _; intro _)
  rename_i sl
  refine T_slice_base (lo := some 1) (hi := some 13) hb (by walk_at "mem") (.int _ _) (.int _ _) (line20 (by omega)) ?_
  intro D
  rw [show slc items (some 1) (some 13) = (items.drop 1).take 12 from slc_both items 1 13]
  have hi12 : IntsAre ((items.drop 1).take 12) ((ns.drop 1).take 12) := (hi.drop 1).take 12
  have hl12 : ((ns.drop 1).take 12).length ≤ 12 := by simp; omega
  have hfg : figs ns = [62, 63, 62, 8, 62, 5, 63, 62] ++ ((ns.drop 1).take 12).map figN := rfl
  generalize (items.drop 1).take 12 = it12 at hi12
  generalize (ns.drop 1).take 12 = n12 at hi12 hl12 hfg
  have hil12 : it12.length = n12.length := hi12.length
  refine T_iter_list (by walk_at "mem") ?_
  intro it oi hoi acc oL cfm hsc
  refine C_compL (fun i ys => IntsAre ys (nz ((n12.take i).map figN))) (by walk_at "mem") hoi .nil (by omega) (fun _ => rfl) ?_ ?_
  · intro i v o ys e3 hv hj
    obtain ⟨z, tz, rfl, hz⟩ := IntsAre.get hi12 i v hv
    (refine T_CallN ?_; refine T_glob List.mem_cons_self ?_; refine T_k1 (by rw [hK]; k_is) (by walk_at "u") (by walk_at "u") ?_; refine T_args_cons (by walk_at "u") ?_; refine T_local .here ?_; refine T_args_nil ?_)
    refine T_call (figure_spec G hK z tz) (by decide) .nil ?_
    rintro _ _ ⟨⟨t', rfl⟩, rfl⟩
    refine ⟨?_, rfl, by walk_at "sbl2"⟩
    have := IntsAre.snoc (n := (figN z : Int)) (t := t') hj
    rw [figN_eq, ← take_snoc hz]
    simpa [nz] using this
  intro u ys e3 hyl hj
  rw [hil12, List.take_length] at hj
  have hylen : ys.length ≤ 12 := by omega
  refine ⟨(acc, listOf ys.toArray e3) :: (F8, listOf v8.toArray 0) :: (95, tabObj #[]) :: rest, by walk_at "sbl", ?_⟩
  refine T_add_lists (by walk_at "mem") (by walk_at "mem") (line20 (by omega)) ?_
  intro FL
  have hfv : IntsAre (v8 ++ ys) (nz (figs ns)) := by
    have := IntsAre.app h8 hj
    rw [hfg]
    simpa [nz] using this
  have hfl := figs_len ns
  have hf64 := figs_lt ns
  generalize v8 ++ ys = fv at hfv
  generalize figs ns = fs at hfv hfl hf64
  (refine T_store (.there (.there (.there .here))) ?_)
  refine K_next ?_
  refine T_weak (l' := (FL, listOf fv.toArray 0) :: (95, tabObj #[]) :: rest) (by walk_at "sbl") ?_
  clear hj hyl hylen hi12 hl12 hfg hil12 h8 hv8l
  (refine T_cons ?_; refine T_Assign (by walk_at "u") ?_; refine T_CallN ?_; refine T_glob (List.mem_cons_of_mem _ (List.mem_cons_of_mem _ (List.mem_cons_of_mem _ List.mem_cons_self))) ?_; refine T_k1 (by rw [hK]; k_is) (by walk_at "u") (by walk_at "u") ?_; refine T_args_cons (by walk_at "u") ?_; refine T_local (.there (.there (.there .here))) ?_; refine T_args_cons (by walk_at "u") ?_; refine T_local (.there (.there .here)) ?_; refine T_args_nil ?_)
  refine T_call (face_spec G hK FL fv fs 0 p0 p1 tp hfv hf64 (by omega) (by omega)) (by decide) (by walk_at "sub") ?_
  rintro _ _ ⟨⟨tfc, rfl⟩, rfl⟩
  rw [List.singleton_append]
  have hfl3 := face_len fs p0 p1
  have hf128 := face_lt h0 h1 fs
  have henc := enc_face (p0 := p0) (p1 := p1) hf64
  have hol := octs_len fs
  have ho256 := octs_lt fs hf64
  (refine T_store (.there (.there (.there (.there .here)))) ?_; refine K_next ?_; refine T_cons ?_; refine T_Assign (by walk_at "u") ?_; refine T_CallN ?_; refine T_glob (List.mem_cons_of_mem _ (List.mem_cons_of_mem _ (List.mem_cons_of_mem _ (List.mem_cons_of_mem _ List.mem_cons_self)))) ?_; refine T_k1 (by rw [hK]; k_is) (by walk_at "u") (by walk_at "u") ?_; refine T_args_cons (by walk_at "u") ?_; refine T_CallN ?_; refine T_glob (List.mem_cons_of_mem _ (List.mem_cons_of_mem _ List.mem_cons_self)) ?_; refine T_ty1 (by walk_at "u") (by walk_at "u") ?_; refine T_args_cons (by walk_at "u") ?_; refine T_CallN ?_; refine T_glob (List.mem_cons_of_mem _ (List.mem_cons_of_mem _ (List.mem_cons_of_mem _ (List.mem_cons_of_mem _ (List.mem_cons_of_mem _ List.mem_cons_self))))) ?_; refine T_k1 (by rw [hK]; k_is) (by walk_at "u") (by walk_at "u") ?_; refine T_args_cons (by walk_at "u") ?_; refine T_local (.there (.there (.there .here))) ?_; refine T_args_nil ?_)
  refine T_call (octets_spec G hK FL fv fs 0 hfv (by omega)) (by decide) (by walk_at "sub") ?_
  rintro _ _ ⟨O, os, e', rfl, rfl, hos⟩
  simp only [List.cons_append, List.nil_append]
  (refine T_args_nil ?_)
  refine T_bytes_of (ns := nz (octs fs)) (by walk_at "mem") hos (by
    intro z hz
    obtain ⟨x, hx, rfl⟩ := List.mem_map.mp hz
    have := ho256 x hx
    omega) (line20 (by have := hos.length; simp [nz] at this; omega)) ?_
  (intro _; refine T_args_cons (by walk_at "u") ?_; refine T_CallN ?_; refine T_glob (List.mem_cons_of_mem _ (List.mem_cons_of_mem _ List.mem_cons_self)) ?_; refine T_ty1 (by walk_at "u") (by walk_at "u") ?_; refine T_args_cons (by walk_at "u") ?_)
  refine T_comp [Str.ofString "sign"] [(Str.ofString "ord", .builtin "ord")] (fun _ => rfl) (cl := []) rfl rfl (by decide +kernel) (by decide +kernel) (by decide) (by decide +kernel) (fun p hp => by
    rcases List.mem_cons.mp hp with rfl | hp
    · exact ⟨by decide +kernel, by decide, glb_ord G hK⟩
    cases hp) ?_
  (refine T_local (.there (.there .here)) ?_)
  refine T_iter_str (by simp [h0, h1]) ?_
  intro it2 oi2 hoi2 acc2 oL2 cfm2 hsc2
  refine C_compS (fun i ys => IntsAre ys (nz (([p0, p1]).take i))) hoi2 .nil (by simp) (fun _ => rfl) ?_ ?_
  · intro i c uc o ys e3 hv hj
    (refine T_CallN ?_; refine T_glob List.mem_cons_self ?_; refine T_b1 (by walk_at "u") (by walk_at "u") ?_; refine T_args_cons (by walk_at "u") ?_; refine T_local .here ?_; refine T_args_nil ?_)
    refine T_ord ?_
    intro to
    refine ⟨?_, rfl, by walk_at "sbl"⟩
    have := IntsAre.snoc (n := (c : Int)) (t := to) hj
    rw [← take_snoc hv]
    simpa [nz] using this
  intro u2 ys2 e2 hyl2 hj2
  rw [List.take_length] at hj2
  refine ⟨(acc2, listOf ys2.toArray e2) :: (FL, listOf fv.toArray 0) :: (95, tabObj #[]) :: rest, by walk_at "sbl", ?_⟩
  (refine T_args_nil ?_)
  refine T_bytes_of (ns := nz [p0, p1]) (by walk_at "mem") hj2 (by
    intro z hz
    obtain ⟨x, hx, rfl⟩ := List.mem_map.mp hz
    simp at hx
    rcases hx with rfl | rfl <;> omega) (line20 (by rw [hyl2]; simp)) ?_
  rw [show byteArr (nz [p0, p1]) = #[p0.toUInt8, p1.toUInt8] by simp [byteArr, nz]]
  (intro _; refine T_args_nil ?_)
  refine T_call (b64_spec G hK (byteArr (nz (octs fs))) _ _ p0.toUInt8 p1.toUInt8 (by rw [byteArr_size]; simp [nz]; omega)) (by decide) .nil ?_
  rintro _ _ ⟨⟨tw, rfl⟩, rfl⟩
  rw [List.nil_append, byteArr_nat ho256, henc]
  (refine T_store (.there (.there (.there (.there (.there .here))))) ?_; refine K_next ?_; refine T_cons ?_; refine T_If ?_; refine T_isTrue_BoolOp ?_; refine T_or_cons ?_; refine T_isTrue_Not ?_; refine T_isTrue_val (by walk_at "u") ?_; refine T_CallN ?_; refine T_glob (List.mem_cons_of_mem _ List.mem_cons_self) ?_; refine T_b1 (by walk_at "u") (by walk_at "u") ?_; refine T_args_cons (by walk_at "u") ?_; refine T_local (.there (.there (.there (.there (.there .here))))) ?_; refine T_args_cons (by walk_at "u") ?_; refine T_glob (List.mem_cons_of_mem _ (List.mem_cons_of_mem _ List.mem_cons_self)) ?_; refine T_args_nil ?_)
  refine T_isinstance (ty := "bytes") (fun s => typeIs_bytes _ _ _) (by kernel_rfl) (by rw [isSubtype_type]; kernel_rfl) ?_
  (refine T_truthy_bool ?_)
  refine If2.f ?_
  (refine T_or_cons ?_; refine T_isTrue_Compare (by walk_at "u") ?_; refine T_local (.there (.there (.there (.there (.there .here))))) ?_; refine T_CallN ?_; refine T_glob (List.mem_cons_of_mem _ (List.mem_cons_of_mem _ List.mem_cons_self)) ?_; refine T_ty1 (by walk_at "u") (by walk_at "u") ?_; refine T_args_cons (by walk_at "u") ?_)
  refine T_comp [Str.ofString "sign"] [(Str.ofString "ord", .builtin "ord")] (fun _ => rfl) (cl := []) rfl rfl (by decide +kernel) (by decide +kernel) (by decide) (by decide +kernel) (fun p hp => by
    rcases List.mem_cons.mp hp with rfl | hp
    · exact ⟨by decide +kernel, by decide, glb_ord G hK⟩
    cases hp) ?_
  (refine T_local (.there (.there (.there (.there .here)))) ?_)
  refine T_iter_str hf128 ?_
  intro it3 oi3 hoi3 acc3 oL3 cfm3 hsc3
  refine C_compS (fun i ys => IntsAre ys (nz ((face fs p0 p1).take i))) hoi3 .nil (by omega) (fun _ => rfl) ?_ ?_
  · intro i c uc o ys e3 hv hj
    (refine T_CallN ?_; refine T_glob List.mem_cons_self ?_; refine T_b1 (by walk_at "u") (by walk_at "u") ?_; refine T_args_cons (by walk_at "u") ?_; refine T_local .here ?_; refine T_args_nil ?_)
    refine T_ord ?_
    intro to
    refine ⟨?_, rfl, by walk_at "sbl"⟩
    have := IntsAre.snoc (n := (c : Int)) (t := to) hj
    rw [← take_snoc hv]
    simpa [nz] using this
  intro u3 ys3 e3 hyl3 hj3
  rw [List.take_length] at hj3
  refine ⟨(acc3, listOf ys3.toArray e3) :: (FL, listOf fv.toArray 0) :: (95, tabObj #[]) :: rest, by walk_at "sbl", ?_⟩
  (refine T_args_nil ?_)
  refine T_bytes_of (ns := nz (face fs p0 p1)) (by walk_at "mem") hj3 (by
    intro z hz
    obtain ⟨x, hx, rfl⟩ := List.mem_map.mp hz
    have := hf128 x hx
    omega) (line20 (by rw [hyl3]; omega)) ?_
  (intro _)
  refine T_neb ?_
  (refine T_truthy_bool ?_)
  refine If2.neg (by simp) ?_
  (refine T_or_nil ?_)
  refine If2.f ?_
  (refine T_nil ?_; refine K_next ?_; refine T_cons ?_)
  generalize hfc : face fs p0 p1 = fc at hfl3 hf128 henc hyl3 hj3 ⊢
  refine T_AssignComp [Str.ofString "octet"] [(Str.ofString "chr", .builtin "chr")] (by decide +kernel) (by simp) (fun _ => rfl) (cl := []) rfl rfl (by decide +kernel) (by decide +kernel) (by decide) (by decide +kernel) (fun p hp => by
    rcases List.mem_cons.mp hp with rfl | hp
    · exact ⟨by decide +kernel, by decide, glb_chr G hK⟩
    cases hp) ?_
  (refine T_local (.there (.there (.there (.there (.there .here))))) ?_)
  refine T_iter_bytes ?_
  intro it4 oi4 hoi4 acc4 oL4 cfm4 hsc4
  have hbs : (byteArr (nz fc)).size = fc.length := by rw [byteArr_size]; simp [nz]
  refine C_compB (fun i ys => Signs ys (fc.take i)) hoi4 .nil (by omega) (fun _ => rfl) ?_ ?_
  · intro i c uc o ys e3 hv hj
    have hfi : fc[i]? = some c.toNat := by
      have e1 := byteArr_nat (os := fc) fun x hx => Nat.lt_trans (hf128 x hx) (by decide)
      rw [← e1, List.getElem?_map, Array.getElem?_toList, hv]; rfl
    have hc128 := hf128 c.toNat (List.mem_of_getElem? hfi)
    (refine T_CallN ?_; refine T_glob List.mem_cons_self ?_; refine T_b1 (by walk_at "u") (by walk_at "u") ?_; refine T_args_cons (by walk_at "u") ?_; refine T_local .here ?_; refine T_args_nil ?_)
    refine T_chr (by omega) ?_
    intro tc
    refine ⟨?_, rfl, by walk_at "sbl"⟩
    rw [← take_snoc hfi]
    exact hj.snoc
  intro u4 ys4 e4 hyl4 hj4
  rw [hbs, List.take_length] at hj4
  refine ⟨(acc4, listOf ys4.toArray e4) :: (95, tabObj #[]) :: rest, by walk_at "sbl", _, .there (.there (.there (.there (.there (.there .here))))), ?_⟩
  (refine K_next ?_; refine T_cons ?_; refine T_Assign (by walk_at "u") ?_; refine T_CallN ?_; refine T_glob (List.mem_cons_of_mem _ (List.mem_cons_of_mem _ (List.mem_cons_of_mem _ (List.mem_cons_of_mem _ (List.mem_cons_of_mem _ (List.mem_cons_of_mem _ List.mem_cons_self)))))) ?_; refine T_k1 (by rw [hK]; k_is) (by walk_at "u") (by walk_at "u") ?_; refine T_args_cons (by walk_at "u") ?_; refine T_local (.there (.there (.there (.there (.there (.there .here)))))) ?_; refine T_args_nil ?_)
  refine T_call (machine_spec G hK hC (glb_netrclex G hK) acc4 ys4 e4) (by decide) (by walk_at "sub") ?_
  rintro _ _ ⟨mc, tm, ps, hsg, rfl, rfl⟩
  subst hsg
  show T fm 7 _ (mled mc 1 tm ys4 e4 [] 0 ((95, tabObj ps) :: rest)) _ _
  (refine T_store (.there (.there (.there (.there (.there (.there (.there .here))))))) ?_; refine K_next ?_; refine T_cons ?_)
  refine T_For (fun _ => rfl) ?_
  (refine T_CallN ?_; refine T_glob (List.mem_cons_of_mem _ (List.mem_cons_of_mem _ (List.mem_cons_of_mem _ (List.mem_cons_of_mem _ (List.mem_cons_of_mem _ (List.mem_cons_of_mem _ (List.mem_cons_of_mem _ List.mem_cons_self))))))) ?_; refine T_k1 (by rw [hK]; k_is) (by walk_at "u") (by walk_at "u") ?_; refine T_args_cons (by walk_at "u") ?_; refine T_local (.there (.there (.there (.there .here)))) ?_; refine T_args_nil ?_)
  refine T_call (run_spec G hK fc tfc (by omega)) (by decide) .nil ?_
  rintro _ _ ⟨R, rvs, tl, re, rfl, rfl, hT⟩
  have hch := run_chain fc
  generalize runOf fc = run at hT hch
  show T fm 7 _ ((R, listOf rvs.toArray re) :: (tl ++ (mled mc 1 tm ys4 e4 [] 0 [(95, tabObj ps)] ++ rest))) _ _
  refine T_weak (l' := (R, listOf rvs.toArray re) :: (mled mc 1 tm ys4 e4 [] 0 [(95, tabObj ps)] ++ (tl ++ rest))) (.pick .head (Sbl.swapApp _ _ _)) ?_
  show T fm 7 _ ((R, listOf rvs.toArray re) :: mled mc 1 tm ys4 e4 [] 0 ((95, tabObj ps) :: (tl ++ rest))) _ _
  refine T_iter_list (by walk_at "mem") ?_
  intro it5 oi5 hoi5
  refine C_any fun cc P hc hP => ?_
  have hys4 : ys4.length = fc.length := hj4.len
  have key : ∀ (es : List (List Nat × List Nat)) (i : Nat) (o : Obj) (n5 : Int) (t5 : Tok) (its : List Value) (cs : List Nat) (e : Nat) (x1 x2 : Option Value), run.drop i = es → ListIt o R i → Signs its cs → Chain fc cs es → n5 + (cs.count 10 : Int) = 1 + (fc.count 10 : Int) → its.length ≤ fc.length →
      C fm 7 [some (.ref sa), some (.int n tn), some (.str (S [p0, p1]) tp), some (.ref FL), some (.str (S fc) tfc), some (.bytes (byteArr (nz fc)) tw), some (.ref mc.sg), some (.ref mc.m), x1, x2]
        ((it5, o) :: (R, listOf rvs.toArray re) :: mled mc n5 t5 its e [] 0 ((95, tabObj ps) :: (tl ++ rest))) cc P := by
    subst hc
    intro es
    induction es with
    | nil =>
      intro i o n5 t5 its cs e x1 x2 hdr hoi hsi hch hn5 hil5
      have hri : run.length ≤ i := List.drop_eq_nil_iff.mp hdr
      refine C_for (T_end_list hoi .head (by walk_at "mem") (by simp [hT.len]; exact hri) (F_none ?_))
      subst hP
      (refine T_nil ?_; refine K_next ?_; refine T_cons ?_; refine T_Return ?_; refine T_bool ?_; refine K_ret ?_)
      exact ⟨[(95, tabObj ps)], by (walk_at "sbl2"; exact Sbl.dropApp _ _), rfl, ps, rfl⟩
    | cons wr es ih =>
      intro i o n5 t5 its cs e x1 x2 hdr hoi hsi hch hn5 hil5
      obtain ⟨w, r⟩ := wr
      have hri : run[i]? = some (w, r) := by
        have := congrArg List.head? hdr
        rw [List.head?_drop] at this; exact this
      have hdr' : run.drop (i + 1) = es := by
        have := congrArg List.tail hdr
        rw [List.tail_drop] at this; exact this
      cases hch with
      | cons htok hrc hch' =>
      rename_i cs'
      obtain ⟨A, tA, uA, hA, hAm⟩ := hT.get i w r hri
      refine C_for (T_next_list hoi (fun o' => .head) (by walk_at "mem") (x := .ref A) (by simpa using hA) fun o' hoi' => F_someT ?_)
      refine T_owned_list hoi' (by walk_at "mem") ?_
      refine T_unpack_tup (vs := [.str (S w) tA, .str (S r) uA]) (by repeat (first | exact List.mem_append_left _ hAm | apply List.mem_cons_of_mem)) rfl rfl ?_
      (refine T_asg_cons (by walk_at "u") ?_; refine T_assignN (.there (.there (.there (.there (.there (.there (.there (.there .here)))))))) ?_; refine T_asg_cons (by walk_at "u") ?_; refine T_assignN (.there (.there (.there (.there (.there (.there (.there (.there (.there .here))))))))) ?_; refine T_asg_nil ?_; refine T_cons ?_; refine T_If ?_; refine T_isTrue_BoolOp ?_; refine T_or_cons ?_; refine T_isTrue_Compare (by walk_at "u") ?_; refine T_CallM (by walk_at "u") ?_; refine T_local (.there (.there (.there (.there (.there (.there (.there .here))))))) ?_)
      refine T_method (by walk_at "mem") (by walk_at "mem") (hK ▸ meth_get_token _) (md_get_token ..) ?_
      (refine M_mk ?_; refine T_k0 (by rw [hK]; k_is) ?_)
      refine T_call (get_token_spec G hK mc n5 t5 its cs e 0 (by omega) hsi) (by decide) (by walk_at "sub") ?_
      rintro _ _ ⟨ut, n6, t6, its6, e6, rfl, hsi6, hn6, rfl⟩
      rw [htok] at hsi6 hn6 ⊢
      dsimp only at hsi6 hn6 ⊢
      show T fm 7 _ (mled mc n6 t6 its6 e6 [] 0 ((it5, o') :: (R, listOf rvs.toArray re) :: (95, tabObj ps) :: (tl ++ rest))) _ _
      have hlen6 : its6.length = cs'.length := hsi6.len
      have hfcl : r.length + cs'.length = fc.length := by rw [← hrc]; simp
      have hfcc : r.count 10 + cs'.count 10 = fc.count 10 := by rw [← hrc]; simp
      (refine T_local (.there (.there (.there (.there (.there (.there (.there (.there .here)))))))) ?_; refine T_nes ?_; refine T_truthy_bool ?_)
      refine If2.neg (by simp) ?_
      (refine T_or_cons ?_; refine T_isTrue_Compare (by walk_at "u") ?_; refine T_CallN ?_; refine T_glob List.mem_cons_self ?_; refine T_b1 (by walk_at "u") (by walk_at "u") ?_; refine T_args_cons (by walk_at "u") ?_; refine T_local (.there (.there (.there (.there (.there (.there .here)))))) ?_; refine T_args_nil ?_)
      refine T_len_list (by walk_at "mem") (line20 (by simp; omega)) ?_
      (intro _; refine T_BinOp ?_; refine T_CallN ?_; refine T_glob List.mem_cons_self ?_; refine T_b1 (by walk_at "u") (by walk_at "u") ?_; refine T_args_cons (by walk_at "u") ?_; refine T_local (.there (.there (.there (.there .here)))) ?_; refine T_args_nil ?_)
      refine T_len_str (line20 (by omega)) ?_
      (intro _; refine T_CallN ?_; refine T_glob List.mem_cons_self ?_; refine T_b1 (by walk_at "u") (by walk_at "u") ?_; refine T_args_cons (by walk_at "u") ?_; refine T_local (.there (.there (.there (.there (.there (.there (.there (.there (.there .here))))))))) ?_; refine T_args_nil ?_)
      refine T_len_str (line20 (by omega)) ?_
      (intro _; refine T_subi ?_; intro _; refine T_nei ?_; refine T_truthy_bool ?_)
      refine If2.neg (by simp; omega) ?_
      (refine T_or_nil ?_)
      refine If2.f ?_
      (refine T_nil ?_; refine K_next ?_; refine T_cons ?_; refine T_If ?_; refine T_isTrue_Compare (by walk_at "u") ?_; refine T_Attr (by walk_at "u") ?_; refine T_local (.there (.there (.there (.there (.there (.there (.there .here))))))) ?_)
      refine T_getown (by walk_at "mem") (by walk_at "mem") (hK ▸ own_lineno _) (md_lineno ..) rfl ?_
      (refine T_BinOp ?_; refine T_int ?_; intro _; refine T_CallM (by walk_at "u") ?_; refine T_local (.there (.there (.there (.there (.there (.there (.there (.there (.there .here))))))))) ?_; refine T_meth_str PySem.F.slot_str_count PySem.F.type_str_count ?_; refine M_mk ?_; refine T_b2 (by walk_at "u") (by walk_at "u") ?_; refine T_args_cons (by walk_at "u") ?_; refine T_str ?_; intro _; refine T_args_nil ?_)
      rename_i tz
      rw [show Value.str (Str.ofString "\n") tz = Value.str (S [10]) tz by rw [show Str.ofString "\n" = S [10] by decide +kernel]]
      refine T_count ?_
      rw [count_S]
      (intro _; refine T_add ?_; intro _; refine T_nei ?_; refine T_truthy_bool ?_)
      refine If2.neg (by simp; omega) ?_
      (refine T_nil ?_; refine K_next ?_; refine T_nil ?_; refine L_next ?_)
      refine C_weak ?_ (ih (i + 1) o' n6 t6 its6 cs' e6 _ _ hdr' hoi' hsi6 hch' (by omega) (by omega))
      walk_at "sbl"
  exact key run 0 oi5 1 tm ys4 fc e4 none none (List.drop_zero) hoi5 hj4 hch rfl (by omega)

/-! the end -/
theorem law_ends {w : World} {s₁ : Shared} {mean : ExcName → Option Value} {mg mb : Str → Option Value} {p : Program} {loose : List Str} {fa sa : Addr} {items : List Value} {ns : List Int} {Q : Result → Shared → Prop}
    (KX : (Mine.hd.heap_39 w.params).In s₁.heap) (T : Top p loose mean mg mb s₁.heap) (hT : TabsAt [(99, 95)] s₁.heap) (hmg : mg (Str.ofString "law") = some (.ref fa)) (hg : s₁.gens = #[])
    (hL : s₁.heap.IsList sa items.toArray) (hI : IntsAre items ns) (hl : ns.length ≤ 63)
    (h : ∀ s', (∀ b o, (ghostOf s₁.heap [(99, 95)]).get? b = some o → s'.heap.get? b = some o) → s'.os = s₁.os → s'.gens = #[] → GrownAll [(99, 95)] s'.heap → Q (.ok (.ret (.bool true))) s') :
    codeAny (model PySem.Challenge.pw_nb0059_01 w) callerA (.call (.ref fa) ⟨[.ref sa], []⟩) Q s₁ := by
  have hfa : fa = 129 := by
    have e : mg (Str.ofString "law") = some (.ref 129) := mg_of KX T.g (by k_is)
    rw [hmg] at e
    cases e; rfl
  subst hfa
  let G : Gr := { prog := PySem.Challenge.pw_nb0059_01, w := w, K := Mine.hd.heap_39 w.params, base := ghostOf s₁.heap [(99, 95)], p := topProg, loose := _, mean := mean, mg := mg, mb := mb, os := s₁.os
                  X := ghost_K hT KX (by kernel_rfl), T := ghost_top hT T }
  have hS := law_spec G rfl (ghost_code hT).1 sa items ns (ghost_list hT hL) hI hl
  refine codeAny_mono (hS.go [] callerA s₁ ⟨by decide, by decide, rfl⟩ ?_ (Nat.le_of_eq (hideAll_size _ _))) ?_
  · refine { keep := fun b o e => of_hideAll _ e, nd := by simp, led := fun q hq => ?_, gens := hg, os := rfl }
    rw [List.append_nil] at hq
    rw [List.mem_singleton.mp hq]
    exact ⟨(hT (99, 95) (by simp)).2, hideAll_none _ (by simp)⟩
  · rintro _ s' ⟨_, post, rfl, H, rfl, ps, rfl⟩
    refine h s' H.keep H.os H.gens ⟨⟨ps, (H.led (95, tabObj ps) (by simp)).1⟩, trivial⟩
end Mine
set_option maxRecDepth 100000 in
set_option maxHeartbeats 8000000 in
theorem PySem.Challenge.cw_nb0059_01_holds : PySem.Challenge.rw_nb0059_01.Holds := by
  refine Mine.hd ?_
  intro w s₀ s₁ mg mb G Y fa o pm cd doc dV kV ho hd hcd hD hmg hg args vals as hpre hlay hrd hwl hlo
  have KX := km_in_of Y
  km_tabs Y
  refine Ground.open G ?_
  intro T B D TE TW
  try (refine guard_noD D (by decide +kernel) ?_; clear D)
  km_lay T hmg ho hd cd
  wrow_args hpre hlay hrd hwl hlo
  all_goals (
    first | refine callC_kw (enter_call ?_) | refine enter_call ?_
    w_top on
    kn_posts)
  refine Mine.law_ends KX T hT9 hmg hg (by assumption) (by assumption) (by omega) ?_
  intro s' hk hos hgs hgr
  exact ⟨⟨.inl ⟨.bool true, .bool true, [], rfl, fun _ => rfl, .bool _, by first | with_unfolding_all rfl | kernel_rfl, fun _ => ⟨List.nodup_nil, fun _ h => nomatch h⟩⟩, hk, hos, hgs⟩, hgr⟩
