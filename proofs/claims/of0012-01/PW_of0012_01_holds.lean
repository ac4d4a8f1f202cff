import PyProof.Rows.All
import Wide.All
import OpenK.AllK
import Wide.FinOn
import PySem.Challenge.RW_of0012_01
set_option Elab.async false
section
open PySem PySem.W PyProof.Rows
set_option Elab.async false
set_option maxRecDepth 100000
set_option maxHeartbeats 8000000
namespace Mine
open_top hd for PySem.Challenge.rw_of0012_01
end Mine
end
section
open PySem PySem.W PyProof.Rows
set_option Elab.async false
namespace Mine

abbrev Keep (h h' : Heap) : Prop := ∀ b o, h.get? b = some o → h'.get? b = some o
theorem Keep.refl (h : Heap) : Keep h h := fun _ _ e => e
theorem Keep.trans {a b c : Heap} (x : Keep a b) (y : Keep b c) : Keep a c := fun p o e => y p o (x p o e)
theorem Keep.push (h : Heap) (o : Obj) : Keep h (h.push o) := fun _ _ e => Heap.get?_push_of_some _ e

/-- a tree that ends, keeps every object of the heap, and gives what P says -/
def Tr (prog : Program) (w : World) (A : Around) {α : Type} (h : Heap) (t : Sem α) (P : Heap → α → Prop) : Prop :=
  ∀ (s : Shared) (Q : α → Shared → Prop) (E : Value → Shared → Prop), s.heap = h →
    (∀ v h' tk, Keep h h' → P h' v → Q v { s with heap := h', toks := tk }) → wpAny (model prog w) A t Q E s

section
variable {prog : Program} {w : World} {A : Around} {α β : Type} {h : Heap}

theorem Tr.pure {a : α} {P : Heap → α → Prop} (p : P h a) : Tr prog w A h (pure a) P := by
  intro s Q E hs q; subst hs; exact wpAny_pure (q a s.heap s.toks (Keep.refl _) p)
theorem Tr.bind {m : Sem α} {f : α → Sem β} {P : Heap → α → Prop} {R : Heap → β → Prop} (x : Tr prog w A h m P)
    (y : ∀ h' a, Keep h h' → P h' a → Tr prog w A h' (f a) R) : Tr prog w A h (m >>= f) R := by
  intro s Q E hs q
  exact wpAny_bind (x s _ E hs fun v h' tk k p => y h' v k p _ Q E rfl fun v' h'' tk' k' p' => q v' h'' tk' (k.trans k') p')
theorem Tr.mono {t : Sem α} {P R : Heap → α → Prop} (x : Tr prog w A h t P) (y : ∀ h' a, Keep h h' → P h' a → R h' a) : Tr prog w A h t R :=
  fun s Q E hs q => x s Q E hs fun v h' tk k p => q v h' tk k (y h' v k p)
/-- use in a wpAny goal -/
theorem Tr.use {t : Sem α} {P : Heap → α → Prop} {s : Shared} {Q : α → Shared → Prop} {E : Value → Shared → Prop} (x : Tr prog w A s.heap t P)
    (q : ∀ v h' tk, Keep s.heap h' → P h' v → Q v { s with heap := h', toks := tk }) : wpAny (model prog w) A t Q E s := x s Q E rfl q
theorem Tr.in1 {t : Sem α} {P : Heap → α → Prop} (x : Tr prog w A.in1 h t P) : Tr prog w A h t P := fun s Q E hs q => wpAny_of_in1 (x s Q E hs q)
theorem Tr.bindE {m : Sem α} {f : α → Sem β} {P : Heap → α → Prop} {R : Heap → β → Prop} (x : Tr prog w A h m P)
    (y : ∀ h' a, Keep h h' → P h' a → Tr prog w A h' (f a) R) : ∀ (s : Shared) (Q : β → Shared → Prop) (E : Value → Shared → Prop), s.heap = h →
    (∀ v h' tk, Keep h h' → R h' v → Q v { s with heap := h', toks := tk }) → wpAny (model prog w) A m (fun a s' => wpAny (model prog w) A (f a) Q E s') E s := by
  intro s Q E hs q
  exact x s _ E hs fun v h' tk k p => y h' v k p _ Q E rfl fun v' h'' tk' k' p' => q v' h'' tk' (k.trans k') p'
end

/-! ## data -/
abbrev V (α : Type) := Heap → Value → α → Prop
def IntV : V Int := fun _ v n => ∃ t, v = .int n t
def StrV : V Str := fun _ v x => ∃ t, v = .str x t
def BoolV : V Bool := fun _ v b => v = .bool b
inductive All2 {α : Type} (P : Value → α → Prop) : List Value → List α → Prop
  | nil : All2 P [] []
  | cons {v : Value} {x : α} {vs : List Value} {xs : List α} : P v x → All2 P vs xs → All2 P (v :: vs) (x :: xs)
def ListV {α : Type} (P : V α) : V (List α) := fun h v xs => ∃ l vs, v = .ref l ∧ h.PlainList l vs.toArray ∧ All2 (P h) vs xs

/-- what a relation asks for to live on: lists stay -/
def Kq (h h' : Heap) : Prop := ∀ a items, h.PlainList a items → h'.PlainList a items
theorem Keep.kq {h h' : Heap} (k : Keep h h') : Kq h h' := fun _ _ ⟨o, ho⟩ => ⟨o, k _ _ ho⟩
theorem Kq.refl (h : Heap) : Kq h h := fun _ _ x => x
theorem Kq.trans {a b c : Heap} (x : Kq a b) (y : Kq b c) : Kq a c := fun l i e => y l i (x l i e)
def Lives {α : Type} (P : V α) : Prop := ∀ (h h' : Heap) (v : Value) (x : α), Kq h h' → P h v x → P h' v x
theorem lives_int : Lives IntV := fun _ _ _ _ _ x => x
theorem lives_str : Lives StrV := fun _ _ _ _ _ x => x
theorem lives_bool : Lives BoolV := fun _ _ _ _ _ x => x

section
variable {α β : Type} {P : Value → α → Prop}
theorem All2.length {vs : List Value} {xs : List α} (x : All2 P vs xs) : vs.length = xs.length := by
  induction x with
  | nil => rfl
  | cons _ _ ih => simp [ih]
theorem All2.imp {R : Value → α → Prop} (f : ∀ v x, P v x → R v x) {vs : List Value} {xs : List α} (x : All2 P vs xs) : All2 R vs xs := by
  induction x with
  | nil => exact .nil
  | cons p _ ih => exact .cons (f _ _ p) ih
theorem All2.append {vs vs' : List Value} {xs xs' : List α} (x : All2 P vs xs) (y : All2 P vs' xs') : All2 P (vs ++ vs') (xs ++ xs') := by
  induction x with
  | nil => exact y
  | cons p _ ih => exact .cons p ih
theorem All2.take {vs : List Value} {xs : List α} (x : All2 P vs xs) : ∀ n : Nat, All2 P (vs.take n) (xs.take n) := by
  induction x with
  | nil => intro n; simp; exact .nil
  | cons p _ ih => intro n; cases n with
    | zero => exact .nil
    | succ n => exact .cons p (ih n)
theorem All2.drop {vs : List Value} {xs : List α} (x : All2 P vs xs) : ∀ n : Nat, All2 P (vs.drop n) (xs.drop n) := by
  induction x with
  | nil => intro n; simp; exact .nil
  | cons p r ih => intro n; cases n with
    | zero => exact .cons p r
    | succ n => exact ih n
theorem All2.get {vs : List Value} {xs : List α} (x : All2 P vs xs) : ∀ (i : Nat) (v : Value), vs[i]? = some v → ∃ a, xs[i]? = some a ∧ P v a := by
  induction x with
  | nil => intro i v e; simp at e
  | cons p _ ih => intro i v e; cases i with
    | zero => simp at e; subst e; exact ⟨_, rfl, p⟩
    | succ i => simpa using ih i v (by simpa using e)
theorem All2.get' {vs : List Value} {xs : List α} (x : All2 P vs xs) : ∀ (i : Nat) (a : α), xs[i]? = some a → ∃ v, vs[i]? = some v ∧ P v a := by
  induction x with
  | nil => intro i v e; simp at e
  | cons p _ ih => intro i v e; cases i with
    | zero => simp at e; subst e; exact ⟨_, rfl, p⟩
    | succ i => simpa using ih i v (by simpa using e)
theorem All2.of_get {vs : List Value} {xs : List α} (hl : vs.length = xs.length) (hg : ∀ (i : Nat) (v : Value) (a : α), vs[i]? = some v → xs[i]? = some a → P v a) : All2 P vs xs := by
  induction vs generalizing xs with
  | nil => cases xs with
    | nil => exact .nil
    | cons => cases hl
  | cons v vs ih => cases xs with
    | nil => cases hl
    | cons x xs => exact .cons (hg 0 v x rfl rfl) (ih (by simpa using hl) fun i v a h1 h2 => hg (i + 1) v a (by simpa using h1) (by simpa using h2))
theorem All2.replicate {v : Value} {a : α} (p : P v a) : ∀ n : Nat, All2 P (List.replicate n v) (List.replicate n a)
  | 0 => .nil
  | n + 1 => .cons p (All2.replicate p n)
theorem All2.flat {vs : List Value} {xs : List α} (p : All2 P vs xs) : ∀ n : Nat, All2 P (List.replicate n vs).flatten (List.replicate n xs).flatten
  | 0 => .nil
  | n + 1 => by rw [List.replicate_succ, List.replicate_succ, List.flatten_cons, List.flatten_cons]; exact p.append (All2.flat p n)
end
theorem lives_list {α : Type} {P : V α} (lp : Lives P) : Lives (ListV P) := fun h h' _ _ k ⟨l, vs, e, hl, ha⟩ => ⟨l, vs, e, k _ _ hl, ha.imp fun v x p => lp h h' v x k p⟩
theorem All2.ints {h : Heap} {vs : List Value} {ns : List Int} (x : All2 (IntV h) vs ns) : IntsAre vs ns := by
  induction x with
  | nil => exact .nil
  | cons p _ ih => obtain ⟨t, rfl⟩ := p; exact .cons _ t ih
theorem All2.of_ints {h : Heap} {vs : List Value} {ns : List Int} (x : IntsAre vs ns) : All2 (IntV h) vs ns := by
  induction x with
  | nil => exact .nil
  | cons n t _ ih => exact .cons ⟨t, rfl⟩ ih
theorem All2.strs {h : Heap} {vs : List Value} {ns : List Str} (x : All2 (StrV h) vs ns) : StrsAre vs ns := by
  induction x with
  | nil => exact .nil
  | cons p _ ih => obtain ⟨t, rfl⟩ := p; exact .cons _ t ih
theorem Plain_inj {h : Heap} {l : Addr} {a b : Array Value} (x : h.PlainList l a) (y : h.PlainList l b) : a = b := by
  obtain ⟨n, ho⟩ := x
  obtain ⟨n', ho'⟩ := y
  rw [ho] at ho'; cases ho'; rfl

/-! ## frames, with cells -/
structure Fx (b : Heap) (env : Env) (m cm : Str → Option Value) (h : Heap) : Prop where
  fn : env.scope.kind = .function
  ns : h.Ns env.locals m
  keep : Keep b h
  fresh : b.get? env.locals = none
  cell : ∀ n c, env.cells.lookup n = some c → h.IsCell c (cm n)
  apart : ∀ n n' c, env.cells.lookup n = some c → env.cells.lookup n' = some c → n = n'

theorem Fx.up {b : Heap} {env : Env} {m cm : Str → Option Value} {h h' : Heap} (F : Fx b env m cm h) (k : Keep h h') : Fx b env m cm h' :=
  ⟨F.fn, F.ns.keeps k, F.keep.trans k, F.fresh, fun n c e => (F.cell n c e).keeps k, F.apart⟩

/-- lists stay where a namespace or a cell is turned -/
theorem kq_of_ns {h h' : Heap} {L : Addr} {m : Str → Option Value} (hn : h.Ns L m) (hs : Heap.SameBut L h h') : Kq h h' := by
  intro a items ⟨n, ho⟩
  refine ⟨n, (hs.2 a ?_).trans ho⟩
  rintro rfl
  obtain ⟨o', es, ep, ho', hd', _⟩ := hn
  rw [ho] at ho'; cases ho'; cases hd'
theorem kq_of_cell {h h' : Heap} {c : Addr} {v : Option Value} (hn : h.IsCell c v) (hs : Heap.SameBut c h h') : Kq h h' := by
  intro a items ⟨n, ho⟩
  refine ⟨n, (hs.2 a ?_).trans ho⟩
  rintro rfl
  obtain ⟨o', ho', hd'⟩ := hn
  rw [ho] at ho'; cases ho'; cases hd'

section
variable {prog : Program} {w : World} {A : Around} {b : Heap} {env : Env} {m cm : Str → Option Value} {h : Heap}

theorem tr_local {x : Str} {pos : Pos} {v : Value} (F : Fx b env m cm h) (hl : env.kindOf x = some .local) (hv : m x = some v) (hd : (x == ("__debug__" : Str)) = false) :
    Tr prog w A h (eval (.Name x pos) env) fun _ u => u = v := by
  intro s Q E hs q; subst hs
  exact wpAny_Name (wpAny_loadName_local F.fn hl F.ns hv (q v _ s.toks (Keep.refl _) rfl)) hd
theorem tr_cell {x : Str} {pos : Pos} {v : Value} {c : Addr} (F : Fx b env m cm h) (hl : env.kindOf x = some .cell) (hc : env.cells.lookup x = some c) (hv : cm x = some v) (hd : (x == ("__debug__" : Str)) = false) :
    Tr prog w A h (eval (.Name x pos) env) fun _ u => u = v := by
  intro s Q E hs q; subst hs
  exact wpAny_Name (wpAny_loadName_cell F.fn hl hc (hv ▸ F.cell x c hc) (q v _ s.toks (Keep.refl _) rfl)) hd

theorem st_local {x : Str} {v : Value} {s : Shared} {Q : Unit → Shared → Prop} {E : Value → Shared → Prop} (F : Fx b env m cm s.heap) (hl : env.kindOf x = some .local)
    (q : ∀ h' tk, Fx b env (fun y => if y = x then some v else m y) cm h' → Heap.SameBut env.locals s.heap h' → Kq s.heap h' → Q () { s with heap := h', toks := tk }) : wpAny (model prog w) A (storeName env x v) Q E s := by
  refine wpAny_storeName_local hl F.ns (fun h' hn hs => q h' _ ⟨F.fn, hn, fun a o e => (hs.2 a ?_).trans (F.keep a o e), F.fresh, fun n c e => (F.cell n c e).sameBut hs ?_, F.apart⟩ hs (kq_of_ns F.ns hs)) (by rw [F.fn]; rfl)
  · rintro rfl; rw [F.fresh] at e; cases e
  · rintro rfl
    obtain ⟨o, ho, hd⟩ := F.cell n _ e
    obtain ⟨o', es, ep, ho', hd', _⟩ := F.ns
    rw [ho] at ho'; cases ho'; rw [hd] at hd'; cases hd'
theorem st_cell {x : Str} {v : Value} {c : Addr} {s : Shared} {Q : Unit → Shared → Prop} {E : Value → Shared → Prop} (F : Fx b env m cm s.heap) (hl : env.kindOf x = some .cell) (hc : env.cells.lookup x = some c) (hf : b.get? c = none)
    (q : ∀ h' tk, Fx b env m (fun y => if y = x then some v else cm y) h' → Heap.SameBut c s.heap h' → Kq s.heap h' → Q () { s with heap := h', toks := tk }) : wpAny (model prog w) A (storeName env x v) Q E s := by
  refine wpAny_storeName_cell F.fn hl hc (F.cell x c hc) fun h' hc' hs => ?_
  refine q h' s.toks ⟨F.fn, F.ns.sameBut hs ?_, fun a o e => (hs.2 a ?_).trans (F.keep a o e), F.fresh, fun n c' e => ?_, F.apart⟩ hs (kq_of_cell (F.cell x c hc) hs)
  · intro e
    obtain ⟨o, ho, hd⟩ := F.cell x _ hc
    obtain ⟨o', es, ep, ho', hd', _⟩ := F.ns
    rw [e, ho] at ho'; cases ho'; rw [hd] at hd'; cases hd'
  · rintro rfl; rw [hf] at e; cases e
  · by_cases hn : n = x
    · subst hn; rw [hc] at e; cases e; simpa using hc'
    · rw [if_neg hn]; exact (F.cell n c' e).sameBut hs fun e' => hn (F.apart n x c' e (e' ▸ hc))
end
end Mine
end
section
open PySem PySem.W PyProof.Rows
set_option Elab.async false
namespace Mine

def compE (scope : Scope) (env : Env) (C : Addr) (cells : List (Str × Addr)) : Env :=
  { scope := relabel scope env, locals := C, globals := env.globals, cells := cells, qual := env.qual, func := none, code := env.code, frame := env.frame, builtins := env.builtins }

section
variable {M : Model} {A : Around} {E : Value → Shared → Prop}
theorem newEnv_comp {scope : Scope} {cl : List (Str × Addr)} {env : Env} {s : Shared} {Q : Env → Shared → Prop}
    (q : Q { compE scope env s.heap.objs.size (cellsFrom (s.heap.objs.size + 1) scope.names cl) with scope := scope }
      { s with heap := pushCells (s.heap.push { cls := .type "dict", data := .dict #[] }) scope.names }) :
    wpAny M A (newFunctionEnv scope env.globals cl [] env.qual none .none (some env)) Q E s := by
  simp only [newFunctionEnv, Option.isSome_some, if_true]
  refine wpAny_bind (wpAny_alloc ?_)
  refine wpAny_bind (wpAny_layCells _ (fun name kind cells => by cases hkc : kind == NameKind.cell <;> simp [hkc]) _ _ _ _ ?_)
  rw [show ({ s with heap := s.heap.push { cls := .type "dict", data := .dict #[] } } : Shared).heap.objs.size = s.heap.objs.size + 1 from Heap.size_push ..]
  rw [List.forIn_nil]
  exact wpAny_bind (wpAny_pure (wpAny_pure q))
end

/-- every object but those at hot places stays -/
def KeepBut (hot : Addr → Prop) (h h' : Heap) : Prop := ∀ a o, ¬ hot a → h.get? a = some o → h'.get? a = some o
theorem KeepBut.trans {hot : Addr → Prop} {a b c : Heap} (x : KeepBut hot a b) (y : KeepBut hot b c) : KeepBut hot a c := fun p o n e => y p o n (x p o n e)
theorem Keep.but {hot : Addr → Prop} {a b : Heap} (x : Keep a b) : KeepBut hot a b := fun p o _ e => x p o e

/-- Φ lives by objects that are new since H, or of b -/
def Off (H b h' : Heap) (Φ : Heap → Prop) : Prop :=
  ∃ F : Addr → Prop, (∀ a, F a → H.get? a = none ∨ b.get? a ≠ none) ∧ ∀ h'', (∀ a o, F a → h'.get? a = some o → h''.get? a = some o) → Φ h''
theorem Off.here {H b h' : Heap} {Φ : Heap → Prop} (x : Off H b h' Φ) : Φ h' := let ⟨_, _, f⟩ := x; f h' fun _ _ _ e => e
theorem Off.pure {H b h' : Heap} {Φ : Heap → Prop} (x : ∀ h, Φ h) : Off H b h' Φ := ⟨fun _ => False, fun _ f => f.elim, fun h _ => x h⟩

abbrev testsT (ifs : List Expr) (cenv : Env) : Sem Bool := forIn ifs true fun c r => if r = true then do let ok ← isTrue c cenv (eval c cenv); pure (ForInStep.yield ok) else pure (ForInStep.yield r)

/-- a source, with what a target of two names lets go -/
structure WalksX (prog : Program) (w : World) (A : Around) (target : Expr) (I : Addr) (fp wr : List Addr) (n : Nat) (P : Nat → Value → Heap → Prop) (St : Nat → Heap → Prop) : Prop where
  sub : ∀ b ∈ wr, b ∈ fp
  frame : ∀ i h h', St i h → (∀ b ∈ fp, ∀ o, h.get? b = some o → h'.get? b = some o) → St i h'
  item : ∀ i (s : Shared) (Q : Value → Shared → Prop) (E : Value → Shared → Prop), i < n → St i s.heap →
    (∀ v h' tk, P i v h' → St (i + 1) h' → (∀ b o, b ∉ wr → s.heap.get? b = some o → h'.get? b = some o) → Q v { s with heap := h', toks := tk }) →
    wpAny (model prog w) A (pyNext (.ref I)) (fun r s₁ => match r with | none => False | some v => wpAny (model prog w) A (letOwnedTupleGo target (.ref I) v) (fun _ s₂ => Q v s₂) E s₁) E s
  done : ∀ (s : Shared) (Q : Option Value → Shared → Prop) (E : Value → Shared → Prop), St n s.heap →
    (∀ h' tk, (∀ b o, b ∉ wr → s.heap.get? b = some o → h'.get? b = some o) → Q none { s with heap := h', toks := tk }) → wpAny (model prog w) A (pyNext (.ref I)) Q E s
  self : ∀ i (s : Shared) (Q : Value → Shared → Prop) (E : Value → Shared → Prop), St i s.heap → Q (.ref I) s → wpAny (model prog w) A (pyIter (.ref I)) Q E s
theorem WalksX.turn {prog : Program} {w : World} {A : Around} {target : Expr} {I : Addr} {fp wr : List Addr} {n : Nat} {P : Nat → Value → Heap → Prop} {St : Nat → Heap → Prop} (W : WalksX prog w A target I fp wr n P St)
    {i : Nat} {s : Shared} {N : Shared → Prop} {K : Value → Shared → Prop} {E : Value → Shared → Prop} (hi : i < n) (st : St i s.heap)
    (q : ∀ v h' tk, P i v h' → St (i + 1) h' → (∀ b o, b ∉ wr → s.heap.get? b = some o → h'.get? b = some o) → K v { s with heap := h', toks := tk }) :
    wpAny (model prog w) A (pyNext (.ref I)) (fun r s₁ => match r with | none => N s₁ | some v => wpAny (model prog w) A (letOwnedTupleGo target (.ref I) v) (fun _ s₁' => K v s₁') E s₁) E s :=
  wpAny_mono (W.item i s K E hi st q) (fun r s₁ h₁ => by cases r with
    | none => exact h₁.elim
    | some v => exact h₁) fun _ _ e => e
theorem Walks.x {prog : Program} {w : World} {A : Around} {x : Str} {px : Pos} {I : Addr} {fp wr : List Addr} {n : Nat} {P : Nat → Value → Prop} {St : Nat → Heap → Prop} (W : Walks prog w A I fp wr n P St) :
    WalksX prog w A (.Name x px) I fp wr n (fun i v _ => P i v) St :=
  ⟨W.sub, W.frame, fun i s Q E hi st hQ => W.item i s _ E hi st fun v h' tk hP st' k => wpAny_of_eq (rfl : letOwnedTupleGo (.Name x px) (.ref I) v = pure ()) (hQ v h' tk hP st' k), W.done, W.self⟩
theorem WalksT.x {prog : Program} {w : World} {A : Around} {elts : List Expr} {k : Nat} {pos : Pos} {I : Addr} {fp wr : List Addr} {n : Nat} {Pt : Nat → Array Value → Prop} {St : Nat → Heap → Prop} {Mid : Nat → Addr → Heap → Prop}
    (W : WalksT prog w A I fp wr n Pt St Mid) : WalksX prog w A (.Tuple elts k pos) I fp wr n (fun i v h => ∃ T vals, v = .ref T ∧ h.IsTuple T vals ∧ Pt i vals) St :=
  ⟨W.sub, W.frame, fun i s Q E hi st hQ => W.item i s _ E hi st fun T vals h' tk hP _ hT hm k1 => W.go elts k pos i T { s with heap := h', toks := tk } _ E hm fun h'' st' k2 =>
      hQ _ h'' tk ⟨T, vals, rfl, (by obtain ⟨o, ho, r⟩ := hT; exact ⟨o, k2 T o (W.apart i T h' hm) ho, r⟩), hP⟩ st' fun b o hb e => k2 b o hb (k1 b o hb e), W.done, W.self⟩

theorem codeAny_compLoop_go {prog : Program} {w : World} {A : Around} {R : Result → Shared → Prop} {s : Shared} {elt target iter : Expr} {ifs : List Expr} {scope : Scope} {pos : Pos} {it acc : Value} {env : Env} (I : Nat → Shared → Prop)
    (turn : ∀ n s, I n s → wpAny (model prog w) A (pyNext it) (fun r s₁ => match r with
      | none => R (.ok .next) s₁
      | some v => wpAny (model prog w) A (letOwnedTupleGo target it v) (fun _ s₁' => wpAny (model prog w) A (assign target env v) (fun _ s₂ =>
          wpAny (model prog w) A (testsT ifs env) (fun ok s₃ =>
            if ok = true then wpAny (model prog w) A (eval elt env) (fun x s₄ =>
              wpAny (model prog w) A (call (.builtin "list.append") [acc, x]) (fun _ s₅ => ∃ m, m < n ∧ I m s₅) (notedBy (model prog w) A env fun e s' => R (.error e) s') s₄) (notedBy (model prog w) A env fun e s' => R (.error e) s') s₃
            else ∃ m, m < n ∧ I m s₃) (notedBy (model prog w) A env fun e s' => R (.error e) s') s₂) (notedBy (model prog w) A env fun e s' => R (.error e) s') s₁') (notedBy (model prog w) A env fun e s' => R (.error e) s') s₁) (notedBy (model prog w) A env fun e s' => R (.error e) s') s)
    (n : Nat) (h : I n s) :
    codeAny (model prog w) A (.compLoop (.ListComp elt [⟨target, iter, ifs, 0⟩] scope pos) 0 it acc env) R s := by
  refine codeAny_loop rfl I (fun n s hI => ?_) n h
  show wpAny _ A ((compTurn (.ListComp elt [⟨target, iter, ifs, 0⟩] scope pos) 0 it acc env).onRaise (fun x => do noteFrame x env; theTreesLotGoes x)) _ _ s
  refine wpAny_noted ?_
  rw [compTurn_list]
  refine wpAny_bind (wpAny_standAt (wpAny_bind (wpAny_mono (turn n s hI) (fun r s₁ h₁ => ?_) fun _ _ h' => h')))
  cases r with
  | none => exact wpAny_pure h₁
  | some v =>
    refine wpAny_bind (wpAny_mono h₁ (fun _ s₁' h₁' => ?_) fun _ _ h' => h')
    refine wpAny_bind (wpAny_mono h₁' (fun _ s₂ h₂ => wpAny_bind (wpAny_mono h₂ (fun ok s₃ h₃ => ?_) fun _ _ h' => h')) fun _ _ h' => h')
    cases ok with
    | false => exact wpAny_pure ⟨rfl, h₃⟩
    | true =>
      exact wpAny_bind (wpAny_bind (wpAny_mono h₃ (fun x s₄ h₄ => wpAny_bind (wpAny_mono h₄ (fun _ s₅ h₅ => wpAny_pure (wpAny_pure ⟨rfl, h₅⟩)) fun _ _ h' => h')) fun _ _ h' => h'))

structure CompBody (prog : Program) (w : World) (A : Around) (b : Heap) (cenv : Env) (target : Expr) (ifs : List Expr) (elt : Expr) (own : Addr → Prop) (Cl : (Str → Option Value) → Prop)
    {α β : Type} (S : α → Value → Heap → Prop) (Bd : α → (Str → Option Value) → (Str → Option Value) → Prop) (p : α → Bool) (f : α → β) (T : V β) : Prop where
  bindT : ∀ (x : α) (v : Value) (s : Shared) (m cm : Str → Option Value) (Q : Unit → Shared → Prop) (E : Value → Shared → Prop), S x v s.heap → Fx b cenv m cm s.heap → Cl cm →
    (∀ h' tk m' cm', Fx b cenv m' cm' h' → Cl cm' → Bd x m' cm' → KeepBut own s.heap h' → Q () { s with heap := h', toks := tk }) → wpAny (model prog w) A (assign target cenv v) Q E s
  tests : ∀ (x : α) (h : Heap) (m cm : Str → Option Value), Fx b cenv m cm h → Cl cm → Bd x m cm → Tr prog w A h (testsT ifs cenv) (fun _ ok => ok = p x)
  elt : ∀ (x : α) (h : Heap) (m cm : Str → Option Value), p x = true → Fx b cenv m cm h → Cl cm → Bd x m cm →
    Tr prog w A h (eval elt cenv) (fun h' y => Off h b h' fun h'' => T h'' y (f x))

section
variable {prog : Program} {w : World} {A : Around}

theorem comp_loop {α β : Type} {elt target iter : Expr} {ifs : List Expr} {scope : Scope} {pos : Pos} {cenv : Env} {b : Heap} {I D : Addr} {fp wr : List Addr} {n : Nat} {P : Nat → Value → Heap → Prop} {St : Nat → Heap → Prop}
    {own : Addr → Prop} {Cl : (Str → Option Value) → Prop} {S : α → Value → Heap → Prop} {Bd : α → (Str → Option Value) → (Str → Option Value) → Prop} {p : α → Bool} {f : α → β} {T : V β} {xs : List α} {R : Result → Shared → Prop}
    (W : WalksX prog w A target I fp wr n P St) (hn : n = xs.length) (hsz : n ≤ sizeLine) (hP : ∀ i v h, P i v h → ∃ x, xs[i]? = some x ∧ S x v h)
    (hlive : ∀ k h, St k h → ∀ a ∈ wr, h.get? a ≠ none)
    (body : CompBody prog w A b cenv target ifs elt own Cl S Bd p f T)
    (hown : ∀ a, own a → b.get? a = none ∧ a ≠ D ∧ a ∉ fp) (howl : ∀ h m cm, Fx b cenv m cm h → ∀ a, own a → h.get? a ≠ none)
    (hDb : b.get? D = none) (hDf : D ∉ fp) (hwb : ∀ a ∈ wr, b.get? a = none) (hCD : cenv.locals ≠ D) (hCf : cenv.locals ∉ fp)
    (hcl : ∀ n c, cenv.cells.lookup n = some c → c ≠ D ∧ c ∉ wr)
    (s : Shared) (m cm : Str → Option Value) (hst : St 0 s.heap) (hacc : s.heap.PlainList D #[]) (F : Fx b cenv m cm s.heap) (hCl : Cl cm)
    (hR : ∀ h' tk m' cm' ys, Fx b cenv m' cm' h' → h'.PlainList D ys → All2 (T h') ys.toList ((xs.filter p).map f) →
      KeepBut (fun a => own a ∨ a = D ∨ a ∈ wr) s.heap h' → R (.ok .next) { s with heap := h', toks := tk }) :
    codeAny (model prog w) A (.compLoop (.ListComp elt [⟨target, iter, ifs, 0⟩] scope pos) 0 (.ref I) (.ref D) cenv) R s := by
  have hDw : D ∉ wr := fun h => hDf (W.sub _ h)
  have hCw : cenv.locals ∉ wr := fun h => hCf (W.sub _ h)
  refine codeAny_compLoop_go
    (fun k s' => ∃ h' tk m' cm' ys, ∃ i : Nat, s' = { s with heap := h', toks := tk } ∧ i ≤ n ∧ k = n + 1 - i ∧ St i h' ∧ h'.PlainList D ys ∧ Fx b cenv m' cm' h' ∧ Cl cm' ∧
      All2 (fun y x => ∃ G : Addr → Prop, (∀ a, G a → ¬ (own a ∨ a = D ∨ a ∈ wr)) ∧ ∀ h'', (∀ a o, G a → h'.get? a = some o → h''.get? a = some o) → T h'' y x) ys.toList (((xs.take i).filter p).map f) ∧
      KeepBut (fun a => own a ∨ a = D ∨ a ∈ wr) s.heap h') ?_ (n + 1)
    ⟨s.heap, s.toks, m, cm, #[], 0, rfl, Nat.zero_le _, rfl, hst, hacc, F, hCl, by simpa using All2.nil, fun _ _ _ e => e⟩
  rintro k s' ⟨H, tk, m', cm', ys, i, rfl, hi, rfl, hst', hacc', F', hCl', hA, hk⟩
  have lift : ∀ {H H' : Heap}, KeepBut (fun a => own a ∨ a = D ∨ a ∈ wr) H H' → ∀ {ys : List Value} {zs : List β},
      All2 (fun y x => ∃ G : Addr → Prop, (∀ a, G a → ¬ (own a ∨ a = D ∨ a ∈ wr)) ∧ ∀ h'', (∀ a o, G a → H.get? a = some o → h''.get? a = some o) → T h'' y x) ys zs →
      All2 (fun y x => ∃ G : Addr → Prop, (∀ a, G a → ¬ (own a ∨ a = D ∨ a ∈ wr)) ∧ ∀ h'', (∀ a o, G a → H'.get? a = some o → h''.get? a = some o) → T h'' y x) ys zs :=
    fun kb _ _ x => x.imp fun _ _ ⟨G, g1, g2⟩ => ⟨G, g1, fun h'' k2 => g2 h'' fun a o ga e => k2 a o ga (kb a o (g1 a ga) e)⟩
  by_cases hlt : i < n
  · refine W.turn hlt hst' fun v h₁ tk₁ hPv hst₁ hk₁ => ?_
    obtain ⟨x, hx, hS⟩ := hP i v h₁ hPv
    have F₁ : Fx b cenv m' cm' h₁ := ⟨F'.fn, F'.ns.at' fun o e => hk₁ _ o hCw e, fun a o e => hk₁ a o (fun hm => by rw [hwb a hm] at e; cases e) (F'.keep a o e), F'.fresh,
      fun nm c e => (by obtain ⟨o, ho, hd⟩ := F'.cell nm c e; exact ⟨o, hk₁ c o (hcl nm c e).2 ho, hd⟩), F'.apart⟩
    refine body.bindT x v _ m' cm' _ _ hS F₁ hCl' fun h₂ tk₂ m₂ cm₂ F₂ hCl₂ hBd₂ hk₂ => ?_
    have k12 : KeepBut (fun a => own a ∨ a = D ∨ a ∈ wr) H h₂ := fun a o na e => hk₂ a o (fun x => na (.inl x)) (hk₁ a o (fun x => na (.inr (.inr x))) e)
    have hst₂ : St (i + 1) h₂ := W.frame _ _ _ hst₁ fun a ha o e => hk₂ a o (fun x => (hown a x).2.2 ha) e
    have hacc₂ : h₂.PlainList D ys := by obtain ⟨c, hc⟩ := hacc'; exact ⟨c, hk₂ D _ (fun x => (hown D x).2.1 rfl) (hk₁ D _ hDw hc)⟩
    refine (body.tests x h₂ m₂ cm₂ F₂ hCl₂ hBd₂).use (s := { s with heap := h₂, toks := tk₂ }) fun ok h₃ tk₃ hk₃ hok => ?_
    subst hok
    have hst₃ : St (i + 1) h₃ := W.frame _ _ _ hst₂ fun a _ o e => hk₃ a o e
    have F₃ := F₂.up hk₃
    have hacc₃ : h₃.PlainList D ys := by obtain ⟨c, hc⟩ := hacc₂; exact ⟨c, hk₃ D _ hc⟩
    have k13 : KeepBut (fun a => own a ∨ a = D ∨ a ∈ wr) H h₃ := k12.trans hk₃.but
    have htake : xs.take (i + 1) = xs.take i ++ [x] := by
      rw [List.take_succ, hx]; rfl
    cases hp : p x with
    | false =>
      simp only [Bool.false_eq_true, if_false]
      refine ⟨n + 1 - (i + 1), by omega, h₃, tk₃, m₂, cm₂, ys, i + 1, rfl, hlt, rfl, hst₃, hacc₃, F₃, hCl₂, ?_, hk.trans k13⟩
      rw [htake, List.filter_append]; simpa [hp] using lift k13 hA
    | true =>
      simp only [if_true]
      refine (body.elt x h₃ m₂ cm₂ hp F₃ hCl₂ hBd₂).use (s := { s with heap := h₃, toks := tk₃ }) fun y h₄ tk₄ hk₄ hy => ?_
      have hys : ys.size ≤ sizeLine := by
        have e1 := hA.length
        rw [List.length_map] at e1
        have e2 : ((xs.take i).filter p).length ≤ (xs.take i).length := List.length_filter_le _ _
        have e3 : (xs.take i).length ≤ n := by rw [List.length_take]; omega
        have e4 : ys.toList.length = ys.size := by simp
        omega
      have hacc₄ : h₄.PlainList D ys := by obtain ⟨c, hc⟩ := hacc₃; exact ⟨c, hk₄ D _ hc⟩
      refine wpAny_list_append_plain (hsz := hys) hacc₄ fun h₅ hl₅ hs₅ => ?_
      have k45 : KeepBut (fun a => own a ∨ a = D ∨ a ∈ wr) h₄ h₅ := fun a o na e => hs₅.extBut a o (fun x => na (.inr (.inl x))) e
      have k15 : KeepBut (fun a => own a ∨ a = D ∨ a ∈ wr) H h₅ := (k13.trans hk₄.but).trans k45
      have F₄ := F₃.up hk₄
      refine ⟨n + 1 - (i + 1), by omega, h₅, tk₄, m₂, cm₂, ys.push y, i + 1, rfl, hlt, rfl, W.frame _ _ _ hst₃ fun a ha o e => hs₅.extBut a o (fun x => hDf (x ▸ ha)) (hk₄ a o e), hl₅, ?_, hCl₂, ?_, hk.trans k15⟩
      · exact ⟨F₄.fn, F₄.ns.sameBut hs₅ hCD, fun a o e => hs₅.extBut a o (fun x => by rw [x, hDb] at e; cases e) (F₄.keep a o e), F₄.fresh, fun nm c e => (F₄.cell nm c e).sameBut hs₅ (hcl nm c e).1, F₄.apart⟩
      · rw [htake, List.filter_append]
        have : ([x].filter p) = [x] := by simp [hp]
        rw [this, List.map_append, Array.toList_push]
        refine (lift k15 hA).append (.cons ?_ .nil)
        obtain ⟨G, g1, g2⟩ := hy
        refine ⟨G, fun a ga hot => ?_, fun h'' k2 => g2 h'' fun a o ga e => ?_⟩
        · rcases g1 a ga with e | e
          · rcases hot with o | rfl | hw
            · exact howl h₃ m₂ cm₂ F₃ a o e
            · obtain ⟨c, hc⟩ := hacc₃; rw [hc] at e; cases e
            · exact hlive _ _ hst₃ a hw e
          · rcases hot with o | rfl | hw
            · exact e (hown a o).1
            · exact e hDb
            · exact e (hwb a hw)
        · refine k2 a o ga (k45 a o (fun hot => ?_) e)
          rcases g1 a ga with e' | e'
          · rcases hot with o' | rfl | hw
            · exact howl h₃ m₂ cm₂ F₃ a o' e'
            · obtain ⟨c, hc⟩ := hacc₃; rw [hc] at e'; cases e'
            · exact hlive _ _ hst₃ a hw e'
          · rcases hot with o' | rfl | hw
            · exact e' (hown a o').1
            · exact e' hDb
            · exact e' (hwb a hw)
  · have hin : i = n := by omega
    subst hin
    refine W.done _ _ _ hst' fun h₁ tk₁ hk₁ => ?_
    have k1 : KeepBut (fun a => own a ∨ a = D ∨ a ∈ wr) H h₁ := fun a o na e => hk₁ a o (fun x => na (.inr (.inr x))) e
    refine hR h₁ tk₁ m' cm' ys ?_ (by obtain ⟨c, hc⟩ := hacc'; exact ⟨c, hk₁ D _ hDw hc⟩) ?_ (hk.trans k1)
    · exact ⟨F'.fn, F'.ns.at' fun o e => hk₁ _ o hCw e, fun a o e => hk₁ a o (fun hm => by rw [hwb a hm] at e; cases e) (F'.keep a o e), F'.fresh,
        fun nm c e => (by obtain ⟨o, ho, hd⟩ := F'.cell nm c e; exact ⟨o, hk₁ c o (hcl nm c e).2 ho, hd⟩), F'.apart⟩
    · rw [hn, List.take_length] at hA
      exact (lift k1 hA).imp fun _ _ ⟨G, g1, g2⟩ => g2 h₁ fun a o _ e => e
end
end Mine
end
section
open PySem PySem.W PyProof.Rows
set_option Elab.async false
namespace Mine

theorem cellsFrom_spec : ∀ (names : List (Str × NameKind)) (h : Heap) (acc : List (Str × Addr)) (n : Str) (c : Addr), (cellsFrom h.objs.size names acc).lookup n = some c →
    ((n, NameKind.cell) ∈ names ∧ h.objs.size ≤ c ∧ (pushCells h names).IsCell c none) ∨ acc.lookup n = some c
  | [], _, _, _, _, e => .inr e
  | (y, k) :: r, h, acc, n, c, e => by
    unfold cellsFrom at e
    unfold pushCells
    by_cases hk : (k == NameKind.cell) = true
    · rw [if_pos hk] at e ⊢
      have hk' : k = .cell := by simpa using hk
      have e' := e
      rw [show h.objs.size + 1 = (h.push { cls := .type "cell", data := .cell none }).objs.size from (Heap.size_push ..).symm] at e'
      rcases cellsFrom_spec r _ _ n c e' with ⟨h1, h2, h3⟩ | h1
      · rw [Heap.size_push] at h2
        exact .inl ⟨.tail _ h1, by (first | omega | (unfold Addr at *; omega)), h3⟩
      · rw [List.lookup_cons] at h1
        cases hn : n == y with
        | true =>
          rw [hn] at h1
          have : h.objs.size = c := by simpa using h1
          subst this
          have hy : n = y := by simpa using hn
          subst hy; subst hk'
          refine .inl ⟨.head _, Nat.le_refl _, ?_⟩
          exact ⟨_, pushCells_keeps _ _ _ _ (Heap.get?_push_size _ rfl), rfl⟩
        | false => rw [hn] at h1; exact .inr (by simpa using h1)
    · rw [if_neg hk] at e ⊢
      rcases cellsFrom_spec r h acc n c e with ⟨h1, h2, h3⟩ | h1
      · exact .inl ⟨.tail _ h1, h2, h3⟩
      · exact .inr h1

theorem cellsFrom_inj : ∀ (names : List (Str × NameKind)) (k : Nat) (acc : List (Str × Addr)), (∀ n c, acc.lookup n = some c → c < k) →
    (∀ n n' c, acc.lookup n = some c → acc.lookup n' = some c → n = n') → ∀ n n' c, (cellsFrom k names acc).lookup n = some c → (cellsFrom k names acc).lookup n' = some c → n = n'
  | [], _, _, _, hi => hi
  | (y, kd) :: r, k, acc, hb, hi => by
    unfold cellsFrom
    by_cases hk : (kd == NameKind.cell) = true
    · rw [if_pos hk]
      refine cellsFrom_inj r (k + 1) ((y, k) :: acc) (fun n c e => ?_) fun n n' c e e' => ?_
      · rw [List.lookup_cons] at e
        cases hn : n == y with
        | true => rw [hn] at e; have : k = c := by simpa using e
                  (first | omega | (unfold Addr at *; omega))
        | false => rw [hn] at e; have := hb n c (by simpa using e); (first | omega | (unfold Addr at *; omega))
      · rw [List.lookup_cons] at e e'
        cases hn : n == y with
        | true =>
          rw [hn] at e
          have hk2 : k = c := by simpa using e
          cases hn' : n' == y with
          | true => rw [eq_of_beq hn, eq_of_beq hn']
          | false => rw [hn'] at e'; have := hb n' c (by simpa using e'); (first | omega | (unfold Addr at *; omega))
        | false =>
          rw [hn] at e
          cases hn' : n' == y with
          | true => rw [hn'] at e'; have hk2 : k = c := by simpa using e'
                    have := hb n c (by simpa using e); (first | omega | (unfold Addr at *; omega))
          | false => rw [hn'] at e'; exact hi n n' c (by simpa using e) (by simpa using e')
    · rw [if_neg hk]; exact cellsFrom_inj r k acc hb hi

theorem cellsFrom_own {n : Str} : ∀ (names : List (Str × NameKind)) (k : Nat) (acc : List (Str × Addr)), (n, NameKind.cell) ∈ names → ∃ c, (cellsFrom k names acc).lookup n = some c ∧ k ≤ c := by
  have keep : ∀ (names : List (Str × NameKind)) (k : Nat) (acc : List (Str × Addr)) (k0 : Nat), k0 ≤ k → (∃ c, acc.lookup n = some c ∧ k0 ≤ c) → ∃ c, (cellsFrom k names acc).lookup n = some c ∧ k0 ≤ c := by
    intro names
    induction names with
    | nil => intro k acc k0 _ h; exact h
    | cons x r ih =>
      obtain ⟨y, kd⟩ := x
      intro k acc k0 hk0 h
      unfold cellsFrom
      split
      · refine ih (k + 1) _ k0 (by (first | omega | (unfold Addr at *; omega))) ?_
        rw [List.lookup_cons]
        cases hn : n == y with
        | true => exact ⟨k, by simp, hk0⟩
        | false => simpa using h
      · exact ih k acc k0 hk0 h
  intro names
  induction names with
  | nil => intro _ _ h; cases h
  | cons x r ih =>
    obtain ⟨y, kd⟩ := x
    intro k acc h
    unfold cellsFrom
    rcases List.mem_cons.mp h with e | e
    · cases e
      rw [if_pos (by rfl)]
      refine keep r (k + 1) _ k (by (first | omega | (unfold Addr at *; omega))) ⟨k, ?_, Nat.le_refl _⟩
      rw [List.lookup_cons]; simp
    · split
      · obtain ⟨c, h1, h2⟩ := ih (k + 1) ((y, k) :: acc) e
        exact ⟨c, h1, by (first | omega | (unfold Addr at *; omega))⟩
      · exact ih k acc e
theorem cellsFrom_other {n : Str} : ∀ (names : List (Str × NameKind)) (k : Nat) (acc : List (Str × Addr)), (n, NameKind.cell) ∉ names → (cellsFrom k names acc).lookup n = acc.lookup n
  | [], _, _, _ => rfl
  | (y, kd) :: r, k, acc, h => by
    have hr : (n, NameKind.cell) ∉ r := fun x => h (.tail _ x)
    unfold cellsFrom
    split
    · rename_i hk
      rw [cellsFrom_other r _ _ hr, List.lookup_cons]
      have : (n == y) = false := by
        cases hn : n == y with
        | false => rfl
        | true => exact absurd (by rw [eq_of_beq hn, show kd = NameKind.cell by simpa using hk]; exact .head _) h
      rw [this]
    · exact cellsFrom_other r k acc hr

structure CellSpec (b : Heap) (scope : Scope) (env : Env) (C : Addr) (cells : List (Str × Addr)) : Prop where
  free : ∀ n, (n, NameKind.free) ∈ scope.names → cells.lookup n = env.cells.lookup n
  own : ∀ n, (n, NameKind.cell) ∈ scope.names → ∃ c, cells.lookup n = some c ∧ C < c ∧ b.get? c = none
abbrev ownOf (C : Addr) (cells : List (Str × Addr)) : Addr → Prop := fun a => a = C ∨ ∃ n, cells.lookup n = some a ∧ C < a
abbrev ClOf (scope : Scope) (cm : Str → Option Value) : (Str → Option Value) → Prop := fun cm' => ∀ n, (n, NameKind.free) ∈ scope.names → cm' n = cm n

/-- what a source hands on -/
def Iters (prog : Program) (w : World) (A : Around) (target : Expr) (h0 h1 : Heap) (v : Value) {α : Type} (xs : List α) (S : α → Value → Heap → Prop) : Prop :=
  ∀ (s : Shared) (Q : Value → Shared → Prop) (E : Value → Shared → Prop), s.heap = h1 →
    (∀ I h2 tk fp wr P St, Keep h1 h2 → WalksX prog w A target I fp wr xs.length P St → St 0 h2 → (∀ a ∈ fp, a < h2.objs.size) → (∀ a ∈ wr, h0.get? a = none) →
      (∀ i v h, P i v h → ∃ x, xs[i]? = some x ∧ S x v h) → (∀ k h, St k h → ∀ a ∈ wr, h.get? a ≠ none) → Q (.ref I) { s with heap := h2, toks := tk }) → wpAny (model prog w) A (pyIter v) Q E s

theorem get_none_of_le {h : Heap} {a : Addr} (ha : h.objs.size ≤ a) : h.get? a = none := by
  cases e : h.get? a with
  | none => rfl
  | some o => exact absurd (Heap.lt_size e) (Nat.not_lt.mpr ha)

section
variable {prog : Program} {w : World} {A : Around} {E : Value → Shared → Prop}

theorem comp_block {α β : Type} {elt target iter : Expr} {ifs : List Expr} {scope : Scope} {cl : List (Str × Addr)} {pos : Pos} {env : Env} {b₀ b : Heap} {m cm : Str → Option Value} {s₂ : Shared} {I : Addr} {fp wr : List Addr}
    {P : Nat → Value → Heap → Prop} {St : Nat → Heap → Prop} {S : α → Value → Heap → Prop} {Bd : α → (Str → Option Value) → (Str → Option Value) → Prop} {p : α → Bool} {f : α → β} {T : V β} {xs : List α}
    {RR : Value → Addr → Result → Shared → Prop}
    (F : Fx b₀ env m cm b) (k12 : Keep b s₂.heap) (W : WalksX prog w A target I fp wr xs.length P St) (hsz : xs.length ≤ sizeLine) (hst : St 0 s₂.heap) (hfp : ∀ a ∈ fp, a < s₂.heap.objs.size) (hwb : ∀ a ∈ wr, b.get? a = none)
    (hP : ∀ i v h, P i v h → ∃ x, xs[i]? = some x ∧ S x v h) (hlive : ∀ k h, St k h → ∀ a ∈ wr, h.get? a ≠ none)
    (hkind : scope.kind = .function) (hcl1 : ∀ n c, cl.lookup n = some c → env.cells.lookup n = some c) (hcl2 : ∀ n, (n, NameKind.free) ∈ scope.names → cl.lookup n = env.cells.lookup n)
    (hnd : ∀ n, (n, NameKind.free) ∈ scope.names → (n, NameKind.cell) ∉ scope.names)
    (body : ∀ C cells, CellSpec b scope env C cells → CompBody prog w A b (compE scope env C cells) target ifs elt (ownOf C cells) (ClOf scope cm) S Bd p f T)
    (hRR : ∀ D C h' tk m' vs, s₂.heap.get? D = none → b.get? D = none → s₂.heap.get? C = none → b.get? C = none → C ≠ D → h'.Ns C m' → h'.PlainList D vs.toArray → All2 (T h') vs ((xs.filter p).map f) →
      (∀ a o, a ∉ wr → s₂.heap.get? a = some o → h'.get? a = some o) → RR (.ref D) C (.ok .next) { s₂ with heap := h', toks := tk }) :
    wpAny (model prog w) A (newList []) (fun acc s₃ => wpAny (model prog w) A (newFunctionEnv scope env.globals cl [] env.qual none .none (some env)) (fun cenv s₄ =>
      codeAny (model prog w) A (.compStart (.ListComp elt [⟨target, iter, ifs, 0⟩] scope pos) 0 (.ref I) acc { cenv with scope := relabel scope env }) (RR acc cenv.locals) s₄) E s₃) E s₂ := by
  refine wpAny_newObj_type (newEnv_comp ?_)
  dsimp only
  generalize hH2 : s₂.heap.push { cls := .type "list", dict := none, data := .seq ([] : List Value).toArray } = H2
  have hC : H2.objs.size = s₂.heap.objs.size + 1 := by rw [← hH2, Heap.size_push]
  generalize hH4 : pushCells (H2.push { cls := .type "dict", data := .dict #[] }) scope.names = H4
  generalize hcells : cellsFrom (H2.objs.size + 1) scope.names cl = cells
  have hsize3 : (H2.push ({ cls := .type "dict", data := .dict #[] } : Obj)).objs.size = H2.objs.size + 1 := Heap.size_push ..
  have old2 : Keep s₂.heap H2 := by rw [← hH2]; exact Keep.push _ _
  have old4 : Keep H2 H4 := by rw [← hH4]; exact (Keep.push _ _).trans fun a o e => pushCells_keeps _ _ a o e
  have oldb : Keep b H4 := (k12.trans old2).trans old4
  have ltb : ∀ a o, b.get? a = some o → a < s₂.heap.objs.size := fun a o e => Heap.lt_size (k12 a o e)
  have nob : ∀ a, s₂.heap.objs.size ≤ a → b.get? a = none := fun a ha => by
    cases e : b.get? a with
    | none => rfl
    | some o => exact absurd (ltb a o e) (Nat.not_lt.mpr ha)
  have cell_lt : ∀ n c, env.cells.lookup n = some c → c < s₂.heap.objs.size := fun n c e => by
    obtain ⟨o, ho, _⟩ := F.cell n c e; exact ltb c o ho
  have spec : ∀ n c, cells.lookup n = some c → ((n, NameKind.cell) ∈ scope.names ∧ H2.objs.size < c ∧ H4.IsCell c none) ∨ env.cells.lookup n = some c := fun n c e => by
    rw [← hcells, ← hsize3] at e
    rcases cellsFrom_spec _ _ _ _ _ e with ⟨h1, h2, h3⟩ | h1
    · rw [hsize3] at h2; rw [hH4] at h3; exact .inl ⟨h1, by (first | omega | (unfold Addr at *; omega)), h3⟩
    · exact .inr (hcl1 n c h1)
  have inj : ∀ n n' c, cells.lookup n = some c → cells.lookup n' = some c → n = n' := by
    rw [← hcells]
    refine cellsFrom_inj _ _ _ (fun n c e => ?_) fun n n' c e e' => F.apart n n' c (hcl1 n c e) (hcl1 n' c e')
    have := cell_lt n c (hcl1 n c e); (first | omega | (unfold Addr at *; omega))
  have hns : H4.Ns H2.objs.size (fun _ => none) := by
    rw [← hH4]; exact (Heap.Ns.new H2 (.type "dict")).keeps fun a o e => pushCells_keeps _ _ a o e
  have hspec : CellSpec b scope env H2.objs.size cells := by
    refine ⟨fun n hn => ?_, fun n hn => ?_⟩
    · rw [← hcells, cellsFrom_other _ _ _ (hnd n hn)]; exact hcl2 n hn
    · obtain ⟨c, h1, h2⟩ := cellsFrom_own (n := n) scope.names (H2.objs.size + 1) cl hn
      rw [hcells] at h1
      exact ⟨c, h1, by (first | omega | (unfold Addr at *; omega)), nob c (by (first | omega | (unfold Addr at *; omega)))⟩
  have hacc : H4.PlainList s₂.heap.objs.size #[] := ⟨_, old4 _ _ (by rw [← hH2]; exact Heap.get?_push_size _ rfl)⟩
  classical
  let cm₁ : Str → Option Value := fun n => if ∃ c, cells.lookup n = some c ∧ H2.objs.size < c then none else cm n
  have F₁ : Fx b (compE scope env H2.objs.size cells) (fun _ => none) cm₁ H4 := by
    refine ⟨hkind, hns, oldb, nob H2.objs.size (by (first | omega | (unfold Addr at *; omega))), fun n c e => ?_, inj⟩
    change cells.lookup n = some c at e
    rcases spec n c e with ⟨_, h2, h3⟩ | h1
    · have : cm₁ n = none := if_pos ⟨c, e, h2⟩
      rw [this]; exact h3
    · have hlt := cell_lt n c h1
      have : cm₁ n = cm n := if_neg fun ⟨c', e', h'⟩ => by rw [e] at e'; cases e'; (first | omega | (unfold Addr at *; omega))
      rw [this]; exact (F.cell n c h1).keeps oldb
  have hCl : ClOf scope cm cm₁ := fun n hn => if_neg fun ⟨c', e', h'⟩ => by
    rw [hspec.free n hn] at e'
    have := cell_lt n c' e'; (first | omega | (unfold Addr at *; omega))
  have hfpD : s₂.heap.objs.size ∉ fp := fun hm => Nat.lt_irrefl _ (hfp _ hm)
  have hfpC : ∀ a, s₂.heap.objs.size ≤ a → a ∉ fp := fun a ha hm => absurd (hfp a hm) (Nat.not_lt.mpr ha)
  have loop : codeAny (model prog w) A (.compLoop (.ListComp elt [⟨target, iter, ifs, 0⟩] scope pos) 0 (.ref I) (.ref s₂.heap.objs.size) (compE scope env H2.objs.size cells))
        (RR (.ref s₂.heap.objs.size) H2.objs.size) { s₂ with heap := H4 } := by
    refine comp_loop (own := ownOf H2.objs.size cells) W rfl hsz hP hlive (body _ cells hspec) (fun a ha => ?_) (fun h m cm Fh a ha => ?_) (nob _ (Nat.le_refl _)) hfpD hwb (by show H2.objs.size ≠ _; (first | omega | (unfold Addr at *; omega))) (hfpC _ (by show _ ≤ H2.objs.size; (first | omega | (unfold Addr at *; omega))))
      (fun n c e => ?_) { s₂ with heap := H4 } (fun _ => none) cm₁ (W.frame _ _ _ hst fun a _ o e => old4 a o (old2 a o e)) hacc F₁ hCl (fun h' tk m' cm' ys F' hl hA hk => ?_)
    · have : H2.objs.size ≤ a := by rcases ha with rfl | ⟨_, _, h⟩ <;> (first | omega | (unfold Addr at *; omega))
      exact ⟨nob a (by (first | omega | (unfold Addr at *; omega))), by (first | omega | (unfold Addr at *; omega)), hfpC a (by (first | omega | (unfold Addr at *; omega)))⟩
    · rcases ha with rfl | ⟨n, e, _⟩
      · obtain ⟨o, _, _, ho, _⟩ := Fh.ns
        intro hx; change h.get? H2.objs.size = _ at ho; rw [hx] at ho; cases ho
      · obtain ⟨o, ho, _⟩ := Fh.cell n a e
        intro hx; rw [hx] at ho; cases ho
    · change cells.lookup n = some c at e
      rcases spec n c e with ⟨_, h2, h3⟩ | h1
      · exact ⟨by (first | omega | (unfold Addr at *; omega)), fun hm => hfpC c (by (first | omega | (unfold Addr at *; omega))) (W.sub _ hm)⟩
      · have hlt := cell_lt n c h1
        refine ⟨by (first | omega | (unfold Addr at *; omega)), fun hm => ?_⟩
        obtain ⟨o, ho, _⟩ := F.cell n c h1
        rw [hwb c hm] at ho; cases ho
    · refine hRR _ _ h' tk m' ys.toList (get_none_of_le (Nat.le_refl _)) (nob _ (Nat.le_refl _)) (get_none_of_le (by (first | omega | (unfold Addr at *; omega)))) (nob _ (by (first | omega | (unfold Addr at *; omega)))) (by (first | omega | (unfold Addr at *; omega))) F'.ns (by simpa using hl) hA fun a o ha e => ?_
      refine hk a o (fun hot => ?_) (old4 a o (old2 a o e))
      have hlt := Heap.lt_size e
      rcases hot with (rfl | ⟨_, _, h⟩) | rfl | hw
      · (first | omega | (unfold Addr at *; omega))
      · (first | omega | (unfold Addr at *; omega))
      · (first | omega | (unfold Addr at *; omega))
      · exact ha hw
  exact codeAny_compStart_list loop (W.self 0 _ _ _ (W.frame _ _ _ hst fun a _ o e => old4 a o (old2 a o e)) loop)

/-- a new list, with what it holds -/
def NewL {β : Type} (T : V β) (h h' : Heap) (v : Value) (zs : List β) : Prop := ∃ D vs, v = .ref D ∧ h.get? D = none ∧ h'.PlainList D vs.toArray ∧ All2 (T h') vs zs
theorem NewL.list {β : Type} {T : V β} {h h' : Heap} {v : Value} {zs : List β} (x : NewL T h h' v zs) : ListV T h' v zs := let ⟨D, vs, e, _, hl, ha⟩ := x; ⟨D, vs, e, hl, ha⟩
theorem NewL.from {β : Type} {T : V β} {h₀ h h' : Heap} {v : Value} {zs : List β} (x : NewL T h h' v zs) (k : Keep h₀ h) : NewL T h₀ h' v zs := by
  obtain ⟨D, vs, e, hD, hl, ha⟩ := x
  refine ⟨D, vs, e, ?_, hl, ha⟩
  cases q : h₀.get? D with
  | none => rfl
  | some o => rw [k _ _ q] at hD; cases hD
theorem NewL.to {β : Type} {T : V β} (lt : Lives T) {h h' h'' : Heap} {v : Value} {zs : List β} (x : NewL T h h' v zs) (k : Keep h' h'') : NewL T h h'' v zs := by
  obtain ⟨D, vs, e, hD, ⟨c, hl⟩, ha⟩ := x
  exact ⟨D, vs, e, hD, ⟨c, k _ _ hl⟩, ha.imp fun v x p => lt _ _ v x k.kq p⟩

theorem tr_ListComp {α β : Type} {elt target iter : Expr} {ifs : List Expr} {scope : Scope} {cl : List (Str × Addr)} {pos : Pos} {env : Env} {b₀ h : Heap} {m cm : Str → Option Value}
    {S : α → Value → Heap → Prop} {Bd : α → (Str → Option Value) → (Str → Option Value) → Prop} {p : α → Bool} {f : α → β} {T : V β} {xs : List α} (lt : Lives T)
    (F : Fx b₀ env m cm h) (hit : Tr prog w A h (eval iter env) fun h1 v => Iters prog w A target h h1 v xs S) (hsz : xs.length ≤ sizeLine)
    (hclos : closureFor scope env = pure cl) (hcl1 : ∀ n c, cl.lookup n = some c → env.cells.lookup n = some c) (hcl2 : ∀ n, (n, NameKind.free) ∈ scope.names → cl.lookup n = env.cells.lookup n)
    (hnd : ∀ n, (n, NameKind.free) ∈ scope.names → (n, NameKind.cell) ∉ scope.names)
    (hkind : scope.kind = .function) (hnames : ∀ x ∈ scope.names, x.2 = .local → scope.names.lookup x.1 = some .local)
    (body : ∀ C cells, CellSpec h scope env C cells → CompBody prog w A h (compE scope env C cells) target ifs elt (ownOf C cells) (ClOf scope cm) S Bd p f T)
    (hs : ∀ x, foldedSetIterable iter env x = pure x := by intro _; rfl) :
    Tr prog w A h (eval (.ListComp elt [⟨target, iter, ifs, 0⟩] scope pos) env) fun h' v => NewL T h h' v ((xs.filter p).map f) := by
  intro s Q E hse q
  subst hse
  rw [eval_ListComp]
  refine wpAny_comprehension_free (use := none) rfl hs hclos hkind hnames (hit.use fun v h1 tk1 k1 hI => hI { s with heap := h1, toks := tk1 } _ _ rfl fun I h2 tk2 fp wr P St k2 W hst hfp hwb hP hlive => ?_)
  refine comp_block (b := s.heap) (RR := fun acc C => compPost (model prog w) A E none Q acc C) F (k1.trans k2) W hsz hst hfp hwb hP hlive hkind hcl1 hcl2 hnd body ?_
  intro D C h' tk m' vs hD hDb hC hCb hCD hn hl hA hk
  refine ⟨m', hn, fun h'' hs'' => ?_⟩
  have kk : Kq h' h'' := kq_of_ns hn hs''
  refine q (.ref D) h'' tk (fun a o e => ?_) ⟨D, vs, rfl, ?_, kk _ _ hl, hA.imp fun v x p => lt _ _ v x kk p⟩
  · refine hs''.extBut a o (by rintro rfl; rw [hCb] at e; cases e) (hk a o (fun hw => by rw [hwb a hw] at e; cases e) ((k1.trans k2) a o e))
  · exact hDb

theorem ex_Assign_ListComp {α β : Type} {elt target iter : Expr} {ifs : List Expr} {scope : Scope} {cl : List (Str × Addr)} {y : Str} {py pos spos : Pos} {env : Env} {b₀ : Heap} {m cm : Str → Option Value} {s : Shared} {Q : Flow → Shared → Prop}
    {S : α → Value → Heap → Prop} {Bd : α → (Str → Option Value) → (Str → Option Value) → Prop} {p : α → Bool} {f : α → β} {T : V β} {xs : List α} (lt : Lives T)
    (hsw : swapsWith (.ListComp elt [⟨target, iter, ifs, 0⟩] scope pos) (some (.Name y py)) spos.line env = pure true) (hy : env.kindOf y = some .local)
    (F : Fx b₀ env m cm s.heap) (hit : Tr prog w A s.heap (eval iter env) fun h1 v => Iters prog w A target s.heap h1 v xs S) (hsz : xs.length ≤ sizeLine)
    (hclos : closureFor scope env = pure cl) (hcl1 : ∀ n c, cl.lookup n = some c → env.cells.lookup n = some c) (hcl2 : ∀ n, (n, NameKind.free) ∈ scope.names → cl.lookup n = env.cells.lookup n)
    (hnd : ∀ n, (n, NameKind.free) ∈ scope.names → (n, NameKind.cell) ∉ scope.names)
    (hkind : scope.kind = .function) (hnames : ∀ x ∈ scope.names, x.2 = .local → scope.names.lookup x.1 = some .local)
    (body : ∀ C cells, CellSpec s.heap scope env C cells → CompBody prog w A s.heap (compE scope env C cells) target ifs elt (ownOf C cells) (ClOf scope cm) S Bd p f T)
    (q : ∀ h' tk v, Fx b₀ env (fun z => if z = y then some v else m z) cm h' → Kq s.heap h' → ListV T h' v ((xs.filter p).map f) → Q .next { s with heap := h', toks := tk })
    (hs : ∀ x, foldedSetIterable iter env x = pure x := by intro _; rfl) :
    wpAny (model prog w) A (exec (.Assign [.Name y py] (.ListComp elt [⟨target, iter, ifs, 0⟩] scope pos) spos) env) Q E s := by
  rw [exec_Assign_Name_used _ _ _ _ hsw]
  refine wpAny_bind (wpAny_standAt (wpAny_bind ?_))
  show wpAny _ A (do let _ ← comprehension (.ListComp elt [⟨target, iter, ifs, 0⟩] scope pos) scope env _ (newList []) false (eval iter env) (some (assign (.Name y py) env))) _ _ s
  refine wpAny_bind (wpAny_mono (wpAny_comprehension_free (use := some (assign (.Name y py) env)) (Q := fun _ s' => Q .next s') rfl hs hclos hkind hnames
    (hit.use fun v h1 tk1 k1 hI => hI { s with heap := h1, toks := tk1 } _ _ rfl fun I h2 tk2 fp wr P St k2 W hst hfp hwb hP hlive => ?_)) (fun _ s' hq => wpAny_pure (wpAny_pure hq)) fun _ _ e => e)
  refine comp_block (b := s.heap) (RR := fun acc C => compPost (model prog w) A E (some (assign (.Name y py) env)) (fun _ s' => Q .next s') acc C) F (k1.trans k2) W hsz hst hfp hwb hP hlive hkind hcl1 hcl2 hnd body ?_
  intro D C h' tk m' vs hD hDb hC hCb hCD hnC hl hA hk
  have k1h : Keep s.heap h' := fun a o e1 => hk a o (fun hw => by rw [hwb a hw] at e1; cases e1) ((k1.trans k2) a o e1)
  have Fh := F.up k1h
  have hLC : env.locals ≠ C := by
    rintro rfl
    obtain ⟨o, _, _, ho, _⟩ := F.ns
    rw [hCb] at ho; cases ho
  show wpAny _ A (assign (.Name y py) env (.ref D)) _ _ _
  refine wpAny_assign_Name (st_local Fh hy fun h₂ tk₂ F₂ hs₂ kq₂ => ?_)
  refine ⟨m', hnC.sameBut hs₂ (Ne.symm hLC), fun h₃ hs₃ => ?_⟩
  have hn2 := hnC.sameBut hs₂ (Ne.symm hLC)
  have kk : Kq h₂ h₃ := kq_of_ns hn2 hs₃
  have kqs : Kq s.heap h₃ := k1h.kq.trans (kq₂.trans kk)
  refine q h₃ tk₂ (.ref D) ⟨F₂.fn, F₂.ns.sameBut hs₃ hLC, fun a o e => hs₃.extBut a o ?_ (F₂.keep a o e), F₂.fresh, fun n c e => (F₂.cell n c e).sameBut hs₃ ?_, F₂.apart⟩ kqs
    ⟨D, vs, rfl, kk _ _ (kq₂ _ _ hl), (hA.imp fun v x p => lt _ _ v x kq₂ p).imp fun v x p => lt _ _ v x kk p⟩
  · rintro rfl
    have := F.keep _ _ e; rw [hCb] at this; cases this
  · rintro rfl
    obtain ⟨o, ho, _⟩ := F.cell n _ e
    rw [hCb] at ho; cases ho
end
end Mine
end
section
open PySem PySem.W PyProof.Rows
set_option Elab.async false
namespace Mine

/-- the top, as the calls need it -/
structure Gl (mg : Str → Option Value) (h : Heap) : Prop where
  g : h.Ns mainGlobals mg
  b : ∃ mb, h.Ns builtinsNs mb ∧ ∀ x : Str, x ≠ "__name__" → mb x = bootBuiltins x
  nolimit : h.NoLimit
theorem Gl.up {mg : Str → Option Value} {h h' : Heap} (G : Gl mg h) (k : Keep h h') : Gl mg h' :=
  ⟨G.g.keeps k, let ⟨mb, x, y⟩ := G.b; ⟨mb, x.keeps k, y⟩, G.nolimit.keeps k⟩

structure Ao (A : Around) (d : Nat) : Prop where
  hh : A.handled = none
  hd : A.depth + d < recursionLimit
  hu : A.units + 8 * d + 100 < cLine
theorem Ao.deeper {A : Around} {d : Nat} {env : Env} (x : Ao A (d + 1)) : Ao (A.deeper env) d :=
  ⟨x.hh, by have := x.hd; show A.depth + 1 + d < _; omega, by have := x.hu; show A.units + 3 + _ + _ < _; omega⟩

def GEnv (env : Env) : Prop := env.globals = mainGlobals ∧ env.builtins = builtinsNs

section
variable {prog : Program} {w : World} {A : Around} {env : Env} {h : Heap} {mg : Str → Option Value} {pos : Pos}

theorem tr_global {x : Str} {v : Value} (G : Gl mg h) (ge : GEnv env) (fn : env.scope.kind = .function) (hx : env.kindOf x = some .globalImplicit) (hv : mg x = some v) (hd : (x == ("__debug__" : Str)) = false) :
    Tr prog w A h (eval (.Name x pos) env) fun _ u => u = v := by
  intro s Q E hs q; subst hs
  exact Calls.Name_function_global fn hx (Calls.loadGlobal_global (by rw [ge.1]; exact G.g) hv (q v _ s.toks (Keep.refl _) rfl)) hd
theorem tr_builtin {x : Str} {v : Value} (G : Gl mg h) (ge : GEnv env) (fn : env.scope.kind = .function) (hx : env.kindOf x = some .globalImplicit) (hm : mg x = none) (hv : bootBuiltins x = some v) (hd : (x == ("__debug__" : Str)) = false) (hne : x ≠ "__name__") :
    Tr prog w A h (eval (.Name x pos) env) fun _ u => u = v := by
  intro s Q E hs q; subst hs
  obtain ⟨mb, hb, hbm⟩ := G.b
  exact Calls.Name_function_global fn hx (Calls.loadGlobal_builtin (by rw [ge.1]; exact G.g) hm (by rw [ge.2]; exact hb) ((hbm x hne).trans hv) (q v _ s.toks (Keep.refl _) rfl)) hd

theorem tr_int {i : Int} {k : Nat} : Tr prog w A h (eval (.Constant (.int i) k pos) env) fun h' v => IntV h' v i := by
  intro s Q E hs q; subst hs
  exact wpAny_Constant_int (q _ _ _ (Keep.refl _) ⟨_, rfl⟩)
theorem tr_str {x : Str} {k : Nat} : Tr prog w A h (eval (.Constant (.str x) k pos) env) fun h' v => StrV h' v x := by
  intro s Q E hs q; subst hs
  exact wpAny_Constant_str (q _ _ _ (Keep.refl _) ⟨_, rfl⟩)
theorem tr_bool {x : Bool} {k : Nat} : Tr prog w A h (eval (.Constant (.bool x) k pos) env) fun h' v => BoolV h' v x := by
  intro s Q E hs q; subst hs
  exact wpAny_Constant_bool (q _ _ s.toks (Keep.refl _) rfl)

theorem tr_BinOp {l r : Expr} {op : Operator} {P : Heap → Value → Prop} {R : Value → Heap → Value → Prop} {T : Heap → Value → Prop} (hl : Tr prog w A h (eval l env) P)
    (hr : ∀ h1 a, Keep h h1 → P h1 a → Tr prog w A h1 (eval r env) (R a)) (ho : ∀ h2 a b, Keep h h2 → R a h2 b → Tr prog w A h2 (binaryOp op a b) T) : Tr prog w A h (eval (.BinOp l op r pos) env) T := by
  intro s Q E hs q; subst hs
  refine wpAny_BinOp (hl.use fun a h1 t1 k1 p1 => (hr h1 a k1 p1).use (s := { s with heap := h1, toks := t1 }) fun b h2 t2 k2 p2 => ?_)
  exact (ho h2 a b (k1.trans k2) p2).use (s := { s with heap := h2, toks := t2 }) fun v h3 t3 k3 p3 => q v h3 t3 ((k1.trans k2).trans k3) p3
theorem tr_Compare {l r : Expr} {op : CmpOp} {P : Heap → Value → Prop} {R : Value → Heap → Value → Prop} {T : Heap → Value → Prop} (hl : Tr prog w A h (eval l env) P)
    (hr : ∀ h1 a, Keep h h1 → P h1 a → Tr prog w A h1 (eval r env) (R a)) (ho : ∀ h2 a b, Keep h h2 → R a h2 b → Tr prog w A h2 (compareOp op a b) T)
    (hm : behindInMarks op r = false := by with_unfolding_all rfl) : Tr prog w A h (eval (.Compare l [op] [r] pos) env) T := by
  intro s Q E hs q; subst hs
  refine wpAny_Compare1 (hl.use fun a h1 t1 k1 p1 => (hr h1 a k1 p1).use (s := { s with heap := h1, toks := t1 }) fun b h2 t2 k2 p2 => ?_) hm
  exact (ho h2 a b (k1.trans k2) p2).use (s := { s with heap := h2, toks := t2 }) fun v h3 t3 k3 p3 => q v h3 t3 ((k1.trans k2).trans k3) p3
/-- a test that is one comparison -/
theorem tr_test {l r : Expr} {op : CmpOp} {whole : Sem Value} {P : Heap → Value → Prop} {R : Value → Heap → Value → Prop} {c : Bool} (hl : Tr prog w A h (eval l env) P)
    (hr : ∀ h1 a, Keep h h1 → P h1 a → Tr prog w A h1 (eval r env) (R a)) (ho : ∀ h2 a b, Keep h h2 → R a h2 b → Tr prog w A h2 (compareOp op a b) fun h' v => BoolV h' v c)
    (hm : behindInMarks op r = false := by with_unfolding_all rfl) : Tr prog w A h (isTrue (.Compare l [op] [r] pos) env whole) fun _ b => b = c := by
  intro s Q E hs q; subst hs
  refine wpAny_isTrue_Compare1 (hl.use fun a h1 t1 k1 p1 => (hr h1 a k1 p1).use (s := { s with heap := h1, toks := t1 }) fun b h2 t2 k2 p2 => ?_) hm
  refine (ho h2 a b (k1.trans k2) p2).use (s := { s with heap := h2, toks := t2 }) fun v h3 t3 k3 p3 => ?_
  cases p3
  exact wpAny_truthy_bool (q c h3 t3 ((k1.trans k2).trans k3) rfl)

/-! ints -/
section
variable {l r : Expr} {a b : Int}
abbrev IsI (a : Int) : Heap → Value → Prop := fun h v => IntV h v a
abbrev IsS (a : Str) : Heap → Value → Prop := fun h v => StrV h v a
abbrev IsB (a : Bool) : Heap → Value → Prop := fun h v => BoolV h v a
theorem ii {P : Value → Value → Prop} (x : ∀ t u, P (.int a t) (.int b u)) {h2 : Heap} {v1 v2 : Value} (p : IntV h2 v1 a ∧ IntV h2 v2 b) : P v1 v2 := by
  obtain ⟨⟨t, rfl⟩, u, rfl⟩ := p; exact x t u
theorem both {P : Heap → Value → Prop} {h1 : Heap} {e : Expr} {v1 : Value} (p : IntV h1 v1 a) (x : Tr prog w A h1 (eval e env) P) : Tr prog w A h1 (eval e env) fun h2 v2 => IntV h2 v1 a ∧ P h2 v2 := x.mono fun _ _ _ q => ⟨p, q⟩
theorem ev_add (hl : Tr prog w A h (eval l env) (IsI a)) (hr : ∀ h1, Keep h h1 → Tr prog w A h1 (eval r env) (IsI b)) : Tr prog w A h (eval (.BinOp l .Add r pos) env) (IsI (a + b)) :=
  tr_BinOp hl (fun h1 _ k p => both p (hr h1 k)) fun h2 v1 v2 _ p => ii (P := fun v1 v2 => Tr prog w A h2 (binaryOp .Add v1 v2) (IsI (a + b))) (fun t u s Q E hs q => by subst hs; exact add_int (q _ _ _ (Keep.refl _) ⟨_, rfl⟩)) p
theorem ev_sub (hl : Tr prog w A h (eval l env) (IsI a)) (hr : ∀ h1, Keep h h1 → Tr prog w A h1 (eval r env) (IsI b)) : Tr prog w A h (eval (.BinOp l .Sub r pos) env) (IsI (a - b)) :=
  tr_BinOp hl (fun h1 _ k p => both p (hr h1 k)) fun h2 v1 v2 _ p => ii (P := fun v1 v2 => Tr prog w A h2 (binaryOp .Sub v1 v2) (IsI (a - b))) (fun t u s Q E hs q => by subst hs; exact sub_int (q _ _ _ (Keep.refl _) ⟨_, rfl⟩)) p
theorem ev_mul (hm : IntMulOk a b) (hl : Tr prog w A h (eval l env) (IsI a)) (hr : ∀ h1, Keep h h1 → Tr prog w A h1 (eval r env) (IsI b)) : Tr prog w A h (eval (.BinOp l .Mult r pos) env) (IsI (a * b)) :=
  tr_BinOp hl (fun h1 _ k p => both p (hr h1 k)) fun h2 v1 v2 _ p => ii (P := fun v1 v2 => Tr prog w A h2 (binaryOp .Mult v1 v2) (IsI (a * b))) (fun t u s Q E hs q => by subst hs; exact mul_int (q _ _ _ (Keep.refl _) ⟨_, rfl⟩) hm) p
theorem ev_mod (hb : b ≠ 0) (hl : Tr prog w A h (eval l env) (IsI a)) (hr : ∀ h1, Keep h h1 → Tr prog w A h1 (eval r env) (IsI b)) : Tr prog w A h (eval (.BinOp l .Mod r pos) env) (IsI (a.fmod b)) :=
  tr_BinOp hl (fun h1 _ k p => both p (hr h1 k)) fun h2 v1 v2 _ p => ii (P := fun v1 v2 => Tr prog w A h2 (binaryOp .Mod v1 v2) (IsI (a.fmod b))) (fun t u s Q E hs q => by subst hs; exact mod_int' hb (q _ _ _ (Keep.refl _) ⟨_, rfl⟩)) p
theorem ev_div (hb : b ≠ 0) (hp : Builtin.divisionGoesByPylong a b = false) (hl : Tr prog w A h (eval l env) (IsI a)) (hr : ∀ h1, Keep h h1 → Tr prog w A h1 (eval r env) (IsI b)) : Tr prog w A h (eval (.BinOp l .FloorDiv r pos) env) (IsI (a.fdiv b)) :=
  tr_BinOp hl (fun h1 _ k p => both p (hr h1 k)) fun h2 v1 v2 _ p => ii (P := fun v1 v2 => Tr prog w A h2 (binaryOp .FloorDiv v1 v2) (IsI (a.fdiv b))) (fun t u s Q E hs q => by subst hs; exact floordiv_int hb (q _ _ _ (Keep.refl _) ⟨_, rfl⟩) (.inl hp)) p
theorem ev_and (hl : Tr prog w A h (eval l env) (IsI a)) (hr : ∀ h1, Keep h h1 → Tr prog w A h1 (eval r env) (IsI b)) : Tr prog w A h (eval (.BinOp l .BitAnd r pos) env) (IsI (Builtin.bitAnd a b)) :=
  tr_BinOp hl (fun h1 _ k p => both p (hr h1 k)) fun h2 v1 v2 _ p => ii (P := fun v1 v2 => Tr prog w A h2 (binaryOp .BitAnd v1 v2) (IsI (Builtin.bitAnd a b))) (fun t u s Q E hs q => by subst hs; exact and_int (q _ _ _ (Keep.refl _) ⟨_, rfl⟩)) p
theorem cmp_eq {t u : Tok} : Tr prog w A h (compareOp .Eq (.int a t) (.int b u)) (IsB (a == b)) := fun s Q E hs q => by subst hs; exact eq_int (q _ _ s.toks (Keep.refl _) rfl)
theorem cmp_ne {t u : Tok} : Tr prog w A h (compareOp .NotEq (.int a t) (.int b u)) (IsB (a != b)) := fun s Q E hs q => by subst hs; exact ne_int (q _ _ s.toks (Keep.refl _) rfl)
theorem cmp_lt {t u : Tok} : Tr prog w A h (compareOp .Lt (.int a t) (.int b u)) (IsB (decide (a < b))) := fun s Q E hs q => by subst hs; exact lt_int (q _ _ s.toks (Keep.refl _) rfl)
theorem test_eq {whole : Sem Value} (hl : Tr prog w A h (eval l env) (IsI a)) (hr : ∀ h1, Keep h h1 → Tr prog w A h1 (eval r env) (IsI b)) (hm : behindInMarks .Eq r = false := by with_unfolding_all rfl) : Tr prog w A h (isTrue (.Compare l [.Eq] [r] pos) env whole) fun _ c => c = (a == b) :=
  tr_test hl (fun h1 _ k p => both p (hr h1 k)) (fun h2 v1 v2 _ p => ii (P := fun v1 v2 => Tr prog w A h2 (compareOp .Eq v1 v2) (IsB (a == b))) (fun _ _ => cmp_eq) p) hm
theorem test_ne {whole : Sem Value} (hl : Tr prog w A h (eval l env) (IsI a)) (hr : ∀ h1, Keep h h1 → Tr prog w A h1 (eval r env) (IsI b)) (hm : behindInMarks .NotEq r = false := by with_unfolding_all rfl) : Tr prog w A h (isTrue (.Compare l [.NotEq] [r] pos) env whole) fun _ c => c = (a != b) :=
  tr_test hl (fun h1 _ k p => both p (hr h1 k)) (fun h2 v1 v2 _ p => ii (P := fun v1 v2 => Tr prog w A h2 (compareOp .NotEq v1 v2) (IsB (a != b))) (fun _ _ => cmp_ne) p) hm
theorem test_lt {whole : Sem Value} (hl : Tr prog w A h (eval l env) (IsI a)) (hr : ∀ h1, Keep h h1 → Tr prog w A h1 (eval r env) (IsI b)) (hm : behindInMarks .Lt r = false := by with_unfolding_all rfl) : Tr prog w A h (isTrue (.Compare l [.Lt] [r] pos) env whole) fun _ c => c = decide (a < b) :=
  tr_test hl (fun h1 _ k p => both p (hr h1 k)) (fun h2 v1 v2 _ p => ii (P := fun v1 v2 => Tr prog w A h2 (compareOp .Lt v1 v2) (IsB (decide (a < b)))) (fun _ _ => cmp_lt) p) hm
end

theorem test_or {x y : Expr} {whole : Sem Value} {c d : Bool} (hx : Tr prog w A h (isTrue x env (eval x env)) fun _ b => b = c) (hy : ∀ h1, Keep h h1 → c = false → Tr prog w A h1 (isTrue y env (eval y env)) fun _ b => b = d) :
    Tr prog w A h (isTrue (.BoolOp .Or [x, y] pos) env whole) fun _ b => b = (c || d) := by
  intro s Q E hs q; subst hs
  refine isTrue_or (hx.use fun b h1 t1 k1 p1 => ?_)
  subst p1
  cases b with
  | true => exact q _ h1 t1 k1 rfl
  | false => exact isTrue_or ((hy h1 k1 rfl).use (s := { s with heap := h1, toks := t1 }) fun b h2 t2 k2 p2 => by
      subst p2
      cases b with
      | true => exact q _ h2 t2 (k1.trans k2) rfl
      | false => exact isTrue_or_nil (q _ h2 t2 (k1.trans k2) rfl))
theorem test_and {x y : Expr} {whole : Sem Value} {c d : Bool} (hx : Tr prog w A h (isTrue x env (eval x env)) fun _ b => b = c) (hy : ∀ h1, Keep h h1 → c = true → Tr prog w A h1 (isTrue y env (eval y env)) fun _ b => b = d) :
    Tr prog w A h (isTrue (.BoolOp .And [x, y] pos) env whole) fun _ b => b = (c && d) := by
  intro s Q E hs q; subst hs
  refine isTrue_and (hx.use fun b h1 t1 k1 p1 => ?_)
  subst p1
  cases b with
  | false => exact q _ h1 t1 k1 rfl
  | true => exact isTrue_and ((hy h1 k1 rfl).use (s := { s with heap := h1, toks := t1 }) fun b h2 t2 k2 p2 => by
      subst p2
      cases b with
      | false => exact q _ h2 t2 (k1.trans k2) rfl
      | true => exact isTrue_and_nil (q _ h2 t2 (k1.trans k2) rfl))
theorem test_not {x : Expr} {whole : Sem Value} {c : Bool} (hx : Tr prog w A h (isTrue x env (eval x env)) fun _ b => b = c) : Tr prog w A h (isTrue (.UnaryOp .Not x pos) env whole) fun _ b => b = !c := by
  intro s Q E hs q; subst hs
  exact isTrue_not (hx.use fun b h1 t1 k1 p1 => q _ h1 t1 k1 (by rw [p1]))
theorem test_val {e : Expr} {c : Bool} (he : Tr prog w A h (eval e env) fun _ v => v = .bool c) (hp : isTrue e env (eval e env) = (do let v ← eval e env; standAt e.pos; holding [v] (truthy v)) := by rfl) :
    Tr prog w A h (isTrue e env (eval e env)) fun _ b => b = c := by
  intro s Q E hs q; subst hs
  exact isTrue_plain (he.use fun v h1 t1 k1 p1 => by subst p1; exact wpAny_truthy_bool (q _ h1 t1 k1 rfl)) hp
theorem tr_IfExp {t x y : Expr} {c : Bool} {P : Heap → Value → Prop} (ht : Tr prog w A h (isTrue t env (eval t env)) fun _ b => b = c)
    (hx : c = true → ∀ h1, Keep h h1 → Tr prog w A h1 (eval x env) P) (hy : c = false → ∀ h1, Keep h h1 → Tr prog w A h1 (eval y env) P) : Tr prog w A h (eval (.IfExp t x y pos) env) P := by
  intro s Q E hs q; subst hs
  refine wpAny_IfExp (ht.use fun b h1 t1 k1 p1 => ?_)
  subst p1
  cases b with
  | true => exact (hx rfl h1 k1).use (s := { s with heap := h1, toks := t1 }) fun v h2 t2 k2 p2 => q v h2 t2 (k1.trans k2) p2
  | false => exact (hy rfl h1 k1).use (s := { s with heap := h1, toks := t1 }) fun v h2 t2 k2 p2 => q v h2 t2 (k1.trans k2) p2
end
end Mine
end
section
open PySem PySem.W PyProof.Rows
set_option Elab.async false
namespace Mine

abbrev IsL {α : Type} (P : V α) (xs : List α) : Heap → Value → Prop := fun h v => ListV P h v xs

theorem new_get (h : Heap) (o : Obj) (hf : o.isFreed = false) : (h.push o).get? h.objs.size = some o := Heap.get?_push_size _ hf
theorem none_of_keep {h0 h : Heap} {a : Addr} (k : Keep h0 h) (e : h.get? a = none) : h0.get? a = none := by
  cases q : h0.get? a with
  | none => rfl
  | some o => rw [k _ _ q] at e; cases e
theorem size_none (h : Heap) : h.get? h.objs.size = none := get_none_of_le (Nat.le_refl _)

section
variable {prog : Program} {w : World} {A : Around} {env : Env} {h : Heap} {pos : Pos} {α : Type} {P : V α}

/-! new lists -/
theorem newL_push {vs : List Value} {zs : List α} (lp : Lives P) (ha : All2 (P h) vs zs) : NewL P h (h.push { cls := .type "list", data := .seq vs.toArray }) (.ref h.objs.size) zs :=
  ⟨h.objs.size, vs, rfl, size_none h, ⟨_, new_get _ _ rfl⟩, ha.imp fun v x p => lp _ _ v x (Keep.push _ _).kq p⟩

theorem op_add {v1 v2 : Value} {xs ys : List α} (lp : Lives P) (h1 : ListV P h v1 xs) (h2 : ListV P h v2 ys) (hsz : xs.length + ys.length ≤ sizeLine) :
    Tr prog w A h (binaryOp .Add v1 v2) fun h' v => NewL P h h' v (xs ++ ys) := by
  intro s Q E hs q; subst hs
  obtain ⟨l, vs, rfl, ⟨n, hl⟩, ha⟩ := h1
  obtain ⟨b, ws, rfl, ⟨n2, hb⟩, hc⟩ := h2
  have e : vs.toArray ++ ws.toArray = (vs ++ ws).toArray := by simp
  refine concat_meets ⟨_, hl, rfl⟩ ⟨_, hb, rfl⟩ noFill_list_add seq_list_add PySem.F.slot_list_add PySem.F.entry_list_add (PySem.F.args_list_add_2 _ _)
    (list_addW l b vs.toArray ws.toArray n n2 none none #[] #[] (by simpa [ha.length, hc.length] using hsz)) ⟨hl, hb, ?_⟩
  rw [e]
  exact q _ _ _ (Keep.push _ _) (newL_push lp (ha.append hc))

theorem foldl_flat (items : Array Value) (n : Nat) : List.foldl (fun x1 x2 => x1 ++ x2) #[] (List.replicate n items) = ((List.replicate n items.toList).flatten).toArray := by
  have : ∀ (n : Nat) (acc : Array Value), List.foldl (fun x1 x2 => x1 ++ x2) acc (List.replicate n items) = acc ++ ((List.replicate n items.toList).flatten).toArray := by
    intro n
    induction n with
    | zero => intro acc; simp
    | succ n ih => intro acc; rw [List.replicate_succ, List.foldl_cons, ih, List.replicate_succ, List.flatten_cons]; apply Array.ext'; simp
  rw [this]; simp
theorem flat_nil (n : Nat) : (List.replicate n ([] : List α)).flatten = [] := by induction n with
  | zero => rfl
  | succ n ih => rw [List.replicate_succ, List.flatten_cons, ih]; rfl

theorem op_mul {v1 v2 : Value} {xs : List α} {k : Int} (lp : Lives P) (h1 : ListV P h v1 xs) (h2 : IntV h v2 k) (hlo : 0 ≤ k) (hhi : k < 2 ^ 63) (hsz : xs.length * k.toNat ≤ 2 ^ 24) :
    Tr prog w A h (binaryOp .Mult v1 v2) fun h' v => NewL P h h' v (List.replicate k.toNat xs).flatten := by
  intro s Q E hs q; subst hs
  obtain ⟨l, vs, rfl, ⟨n, hl⟩, ha⟩ := h1
  obtain ⟨u, rfl⟩ := h2
  refine wpAny_binaryOp_repeat_ref (T := "list") (U := "int") (by decide) ⟨_, hl, rfl⟩ (fun s' => typeIs_int s' k u) noFill_list_mul F.fills_int_mul F.slot_int_rmul repeat_list F.slot_int_index.lookup
    (call_meets F.slot_int_rmul (typeIs_int s k u) F.entry_int_rmul (F.args_int_rmul_2 _ _) (int___rmul___int_list k u l vs.toArray n)
      ⟨hl, rfl, ⟨_, hl, rfl⟩, call_meets F.slot_list_mul ⟨_, hl, rfl⟩ F.entry_list_mul (F.args_list_mul_2 _ _)
        (AutoListH.list___mul___list_int_3 l vs.toArray n k u (by simp [Builtin.List.listFitsIndex]; omega) (by
          have : vs.toArray.size * k.toNat ≤ 2 ^ 24 := by simpa [ha.length] using hsz
          omega) (by
          have : vs.toArray.size * k.toNat ≤ 2 ^ 24 := by simpa [ha.length] using hsz
          simp [Builtin.List.listTooLong, sizeLine] at this ⊢; omega))
        ⟨hl, ?_⟩⟩)
  rw [foldl_flat]
  refine q _ _ _ (Keep.push _ _) ?_
  have e : (List.replicate (if vs.toArray.isEmpty = true then 0 else k.toNat) vs.toArray.toList).flatten = (List.replicate k.toNat vs).flatten := by
    split
    · rename_i he
      have : vs = [] := by simpa using he
      subst this; simp
    · rfl
  rw [e]
  exact newL_push lp (ha.flat _)

/-! len, sum, range, list(range) -/
theorem call_len {v : Value} {xs : List α} (h1 : ListV P h v xs) (hsz : xs.length < 2 ^ 62) : Tr prog w A h (call (.builtin "len") [v]) (IsI xs.length) := by
  intro s Q E hs q; subst hs
  obtain ⟨l, vs, rfl, hl, ha⟩ := h1
  refine Calls.call_len_list hl.isList (by rw [List.size_toArray, ha.length]; omega) ?_
  rw [List.size_toArray, ha.length]
  exact q _ _ _ (Keep.refl _) ⟨_, rfl⟩
theorem call_sum {v : Value} {xs : List Int} (hh : A.handled = none) (h1 : ListV IntV h v xs) : Tr prog w A h (call (.builtin "sum") [v]) (IsI xs.sum) := by
  intro s Q E hs q; subst hs
  obtain ⟨l, vs, rfl, hl, ha⟩ := h1
  have hi := ha.ints
  obtain ⟨ys, hx⟩ := hi.allInts.items
  have hl' : s.heap.IsList l (intItems ys) := hx ▸ hl.isList
  refine sum_intListG hh hl' fun h' tk t' hk => ?_
  have e1 : xs = ys.toList.map (·.1) := by
    rw [← nums_intItems, ← hx]
    exact (show numsOf vs.toArray.toList = xs from hi.numsOf).symm
  have e2 : preSum (numAt ys) ys.size = xs.sum := by
    rw [preSum_eq, List.take_of_length_le (by simp), e1]
  rw [e2]
  exact q _ _ _ hk ⟨_, rfl⟩

def RangeV (h : Heap) (v : Value) (a b c : Int) : Prop := ∃ r t u t', v = .ref r ∧ IsRange h r a b c t u t'
theorem call_range1 {v : Value} {n : Int} (h1 : IntV h v n) : Tr prog w A h (call (.type "range") [v]) fun h' u => RangeV h' u 0 n 1 := by
  intro s Q E hs q; subst hs
  obtain ⟨t, rfl⟩ := h1
  exact call_range_1 (q _ _ _ (Keep.push _ _) ⟨_, _, _, _, rfl, IsRange.new _ _ _ _ _ _ _⟩)
theorem call_range2 {v v' : Value} {a b : Int} (h1 : IntV h v a) (h2 : IntV h v' b) : Tr prog w A h (call (.type "range") [v, v']) fun h' u => RangeV h' u a b 1 := by
  intro s Q E hs q; subst hs
  obtain ⟨t, rfl⟩ := h1
  obtain ⟨t2, rfl⟩ := h2
  exact call_range_2 (q _ _ _ (Keep.push _ _) ⟨_, _, _, _, rfl, IsRange.new _ _ _ _ _ _ _⟩)
theorem call_range3 {v v' v'' : Value} {a b c : Int} (h1 : IntV h v a) (h2 : IntV h v' b) (h3 : IntV h v'' c) (hc : c ≠ 0) (hc2 : c.natAbs < 1073741824) : Tr prog w A h (call (.type "range") [v, v', v'']) fun h' u => RangeV h' u a b c := by
  intro s Q E hs q; subst hs
  obtain ⟨t, rfl⟩ := h1
  obtain ⟨t2, rfl⟩ := h2
  obtain ⟨t3, rfl⟩ := h3
  exact call_range_3 hc (q _ _ _ (Keep.push _ _) ⟨_, _, _, _, rfl, IsRange.new _ _ _ _ _ _ _⟩) (.inl (PyProof.noPylong_small hc2))

theorem iters_range {h0 : Heap} {tx : Str} {tp : Pos} {v : Value} {a b c : Int} {n : Nat} (k0 : Keep h0 h) (hh : A.handled = none) (hr : RangeV h v a b c) (hsm : Builtin.Range.small a b c = true) (hn : Builtin.Range.rangeSize a b c = (n : Int)) :
    Iters prog w A (.Name tx tp) h0 h v (rangeInts a c n) (fun x u _ => ∃ t, u = .int x t) := by
  intro s Q E hs q; subst hs
  obtain ⟨r, t, u, t', rfl, hr⟩ := hr
  refine wpAny_pyIter_range hr hsm ?_
  rw [hn]
  have hlen : (rangeInts a c n).length = n := by simp [rangeInts]
  refine q s.heap.objs.size _ s.toks [s.heap.objs.size] [s.heap.objs.size] (fun i v _ => i < n ∧ ∃ t, v = .int (a + i * c) t) (fun i h => IsRangeIter h s.heap.objs.size (a + (i : Nat) * c) ((n : Int) - (i : Nat)) c) (Keep.push _ _) ?_ ?_ (fun a ha => ?_) (fun a ha => ?_) (fun i v _ hv => ?_) (fun k h hst a ha => ?_)
  · rw [hlen]
    have W := Walks.range (prog := prog) (w := w) hh s.heap.objs.size a c n
    exact Walks.x ⟨W.sub, W.frame, fun i s' Q E hi st hQ => W.item i s' Q E hi st fun v h' tk hP hst hk => hQ v h' tk ⟨hi, hP⟩ hst hk, W.done, W.self⟩
  · have : (a + ((0 : Nat) : Int) * c) = a := by simp
    rw [this]
    have : (n : Int) - ((0 : Nat) : Int) = n := by simp
    rw [this]
    exact new_get _ _ rfl
  · simp at ha; subst ha; rw [Heap.size_push]; exact Nat.lt_succ_self _
  · simp at ha; subst ha; exact none_of_keep k0 (size_none _)
  · obtain ⟨hi, t, rfl⟩ := hv
    exact ⟨a + (i : Nat) * c, by simp [rangeInts, hi], t, rfl⟩
  · simp at ha; subst ha; intro e; unfold IsRangeIter at hst; rw [e] at hst; cases hst

theorem iters_list {h0 : Heap} {tx : Str} {tp : Pos} {v : Value} {xs : List α} (k0 : Keep h0 h) (hh : A.handled = none) (h1 : ListV P h v xs) : Iters prog w A (.Name tx tp) h0 h v xs (fun x u _ => P h u x) := by
  intro s Q E hs q; subst hs
  obtain ⟨l, vs, rfl, hl, ha⟩ := h1
  have hlt : l < s.heap.objs.size := by obtain ⟨_, e⟩ := hl; exact Heap.lt_size e
  refine wpAny_pyIter_list hl.isList ?_
  refine q s.heap.objs.size _ s.toks [s.heap.objs.size, l] [s.heap.objs.size] (fun i v _ => vs.toArray[i]? = some v) (fun i h => h.IsListIter s.heap.objs.size l i ∧ h.IsList l vs.toArray) (Keep.push _ _) ?_
    ⟨⟨_, new_get _ _ rfl, rfl, rfl⟩, hl.isList.push _⟩ (fun a ha => ?_) (fun a ha => ?_) (fun i v _ hv => ?_) (fun k h hst a ha => ?_)
  · have e : xs.length = vs.toArray.size := by simp [ha.length]
    rw [e]; exact Walks.x (Walks.list hh _ l (Nat.ne_of_lt hlt) vs.toArray)
  · simp at ha; rw [Heap.size_push]; rcases ha with rfl | rfl
    · exact Nat.lt_succ_self _
    · exact Nat.lt_succ_of_lt hlt
  · simp at ha; subst ha; exact none_of_keep k0 (size_none _)
  · exact ha.get i v (by simpa using hv)
  · simp at ha; subst ha; intro e; obtain ⟨o, ho, _⟩ := hst.1; rw [e] at ho; cases ho

/-- over a list that stood ahead -/
theorem iters_old {h0 : Heap} {tx : Str} {tp : Pos} {v : Value} {xs : List α} (k0 : Keep h0 h) (hh : A.handled = none) (h1 : ListV P h0 v xs) : Iters prog w A (.Name tx tp) h0 h v xs (fun x u _ => P h0 u x) := by
  intro s Q E hs q; subst hs
  obtain ⟨l, vs, rfl, ⟨n, hl0⟩, ha⟩ := h1
  have hl : s.heap.PlainList l vs.toArray := ⟨n, k0 _ _ hl0⟩
  have hlt : l < s.heap.objs.size := by obtain ⟨_, e⟩ := hl; exact Heap.lt_size e
  refine wpAny_pyIter_list hl.isList ?_
  refine q s.heap.objs.size _ s.toks [s.heap.objs.size, l] [s.heap.objs.size] (fun i v _ => vs.toArray[i]? = some v) (fun i h => h.IsListIter s.heap.objs.size l i ∧ h.IsList l vs.toArray) (Keep.push _ _) ?_
    ⟨⟨_, new_get _ _ rfl, rfl, rfl⟩, hl.isList.push _⟩ (fun a ha => ?_) (fun a ha => ?_) (fun i v _ hv => ?_) (fun k h hst a ha => ?_)
  · have e : xs.length = vs.toArray.size := by simp [ha.length]
    rw [e]; exact Walks.x (Walks.list hh _ l (Nat.ne_of_lt hlt) vs.toArray)
  · simp at ha; rw [Heap.size_push]; rcases ha with rfl | rfl
    · exact Nat.lt_succ_self _
    · exact Nat.lt_succ_of_lt hlt
  · simp at ha; subst ha; exact none_of_keep k0 (size_none _)
  · exact ha.get i v (by simpa using hv)
  · simp at ha; subst ha; intro e; obtain ⟨o, ho, _⟩ := hst.1; rw [e] at ho; cases ho

theorem call_list_of_range {v : Value} {a b c : Int} {n : Nat} (hh : A.handled = none) (hr : RangeV h v a b c) (hsm : Builtin.Range.small a b c = true) (hn : Builtin.Range.rangeSize a b c = (n : Int)) (hlen : n ≤ 2 ^ 24) :
    Tr prog w A h (call (.type "list") [v]) fun h' u => NewL IntV h h' u (rangeInts a c n) := by
  intro s Q E hs q; subst hs
  obtain ⟨r, t, u, t', rfl, hr⟩ := hr
  refine call_list_range hh hr hsm hn hlen fun h' tk acc' c' hk hS' hacc => q _ h' tk hk ⟨s.heap.objs.size, acc'.toList, rfl, size_none _, ⟨c', by simpa using hS'⟩, All2.of_get (by simp [rangeInts, hacc.1]) fun i v x h1 h2 => ?_⟩
  obtain ⟨t, rfl⟩ := hacc.2 i v (by simpa using h1)
  refine ⟨t, ?_⟩
  have : x = a + (i : Nat) * c := by
    unfold rangeInts at h2
    rw [List.getElem?_map] at h2
    cases hq : (List.range n)[i]? with
    | none => rw [hq] at h2; cases h2
    | some j =>
      rw [hq] at h2
      have : j = i := by have := List.getElem?_eq_some_iff.mp hq; obtain ⟨_, e⟩ := this; simpa using e.symm
      subst this; simpa using h2.symm
  rw [this]
end
end Mine
end
section
open PySem PySem.W PyProof.Rows
set_option Elab.async false
namespace Mine

section
variable {prog : Program} {w : World} {A : Around} {env : Env} {h : Heap} {pos : Pos} {α : Type} {P : V α} {mg : Str → Option Value}

/-! subscripts of lists -/
theorem tr_Sub {value slice : Expr} {Pv : Heap → Value → Prop} {R : Value → Heap → Value → Prop} {T : Heap → Value → Prop} (hv : Tr prog w A h (eval value env) Pv)
    (hi : ∀ h1 o, Keep h h1 → Pv h1 o → Tr prog w A h1 (eval slice env) (R o))
    (hg : ∀ h2 o i, Keep h h2 → R o h2 i → (∃ l items, o = .ref l ∧ h2.IsList l items) ∧ Tr prog w A h2 (getItem o i) T)
    (hs : ∀ o i, ∃ ops, subscripted slice false o i = operate ops (getItem o i)) : Tr prog w A h (eval (.Subscript value slice pos) env) T := by
  intro s Q E hse q; subst hse
  refine Subscript_ (hv.use fun o h1 t1 k1 p1 => (hi h1 o k1 p1).use (s := { s with heap := h1, toks := t1 }) fun i h2 t2 k2 p2 => ?_)
  obtain ⟨⟨l, items, rfl, hl⟩, tg⟩ := hg h2 o i (k1.trans k2) p2
  obtain ⟨ops, e⟩ := hs (.ref l) i
  exact tail_any (T := "list") hl.typeIs F.slot_list_getitem.lookup (tg.use (s := { s with heap := h2, toks := t2 }) fun v h3 t3 k3 p3 => q v h3 t3 ((k1.trans k2).trans k3) p3) e

theorem slice_upto {value : Expr} {hi : Expr} {p : Pos} {xs : List α} {k : Int} (lp : Lives P) (hv : Tr prog w A h (eval value env) (IsL P xs)) (hb : ∀ h1, Keep h h1 → Tr prog w A h1 (eval hi env) (IsI k)) (hk : 0 ≤ k) (hsz : xs.length ≤ sizeLine) :
    Tr prog w A h (eval (.Subscript value (.Slice none (some hi) none p) pos) env) fun h' v => NewL P h h' v (xs.take k.toNat) := by
  refine tr_Sub (R := fun o h2 i => ListV P h2 o xs ∧ ∃ sl u t, i = .ref sl ∧ h2.IsSliceOf sl .none (.int k t) u ∧ u = .none) hv (fun h1 o k1 p1 => ?_) (fun h2 o i k2 p2 => ?_) fun o i => ⟨_, rfl⟩
  · intro s Q E hse q; subst hse
    refine wpAny_Slice (wpAny_pure (show wpAny _ _ (eval hi env) _ _ _ from (hb s.heap k1).use fun v h2 t2 k2 ⟨t, e⟩ => ?_))
    subst e
    refine wpAny_pure (q _ _ _ (k2.trans (Keep.push _ _)) ⟨lives_list lp _ _ _ _ (k2.trans (Keep.push _ _)).kq p1, _, _, t, rfl, ⟨_, new_get _ _ rfl, rfl, rfl⟩, rfl⟩)
  · obtain ⟨⟨l, vs, rfl, hl, ha⟩, sl, u, t, rfl, hsl, rfl⟩ := p2
    refine ⟨⟨l, _, rfl, hl.isList⟩, ?_⟩
    intro s Q E hse q; subst hse
    refine wpAny_getItem_list_slice hl.isList hsl .none (.int k t) .none (by simp) ?_ (by rw [List.size_toArray, ha.length]; exact hsz)
    have e : k = ((k.toNat : Nat) : Int) := by omega
    rw [e, slicePick_upto']
    refine q _ _ _ (Keep.push _ _) ?_
    have := (newL_push lp (ha.take k.toNat)).from k2
    simpa using this
theorem slice_from {value : Expr} {lo : Expr} {p : Pos} {xs : List α} {k : Int} (lp : Lives P) (hv : Tr prog w A h (eval value env) (IsL P xs)) (hb : ∀ h1, Keep h h1 → Tr prog w A h1 (eval lo env) (IsI k)) (hk : 0 ≤ k) (hsz : xs.length ≤ sizeLine) :
    Tr prog w A h (eval (.Subscript value (.Slice (some lo) none none p) pos) env) fun h' v => NewL P h h' v (xs.drop k.toNat) := by
  refine tr_Sub (R := fun o h2 i => ListV P h2 o xs ∧ ∃ sl u t, i = .ref sl ∧ h2.IsSliceOf sl (.int k t) .none u ∧ u = .none) hv (fun h1 o k1 p1 => ?_) (fun h2 o i k2 p2 => ?_) fun o i => ⟨_, rfl⟩
  · intro s Q E hse q; subst hse
    refine wpAny_Slice (show wpAny _ _ (eval lo env) _ _ _ from (hb s.heap k1).use fun v h2 t2 k2 ⟨t, e⟩ => ?_)
    subst e
    refine wpAny_pure (wpAny_pure (q _ _ _ (k2.trans (Keep.push _ _)) ⟨lives_list lp _ _ _ _ (k2.trans (Keep.push _ _)).kq p1, _, _, t, rfl, ⟨_, new_get _ _ rfl, rfl, rfl⟩, rfl⟩))
  · obtain ⟨⟨l, vs, rfl, hl, ha⟩, sl, u, t, rfl, hsl, rfl⟩ := p2
    refine ⟨⟨l, _, rfl, hl.isList⟩, ?_⟩
    intro s Q E hse q; subst hse
    refine wpAny_getItem_list_slice hl.isList hsl (.int k t) .none .none (by simp) ?_ (by rw [List.size_toArray, ha.length]; exact hsz)
    have e : k = ((k.toNat : Nat) : Int) := by omega
    rw [e, slicePick_from']
    refine q _ _ _ (Keep.push _ _) ?_
    have := (newL_push lp (ha.drop k.toNat)).from k2
    simpa using this
theorem slice_both {value : Expr} {lo hi : Expr} {p : Pos} {xs : List α} {a b : Nat} (hab : a ≤ b) (lp : Lives P) (hv : Tr prog w A h (eval value env) (IsL P xs)) (hbl : ∀ h1, Keep h h1 → Tr prog w A h1 (eval lo env) (IsI (a : Int)))
    (hbh : ∀ h1, Keep h h1 → Tr prog w A h1 (eval hi env) (IsI (b : Int))) (hsz : xs.length ≤ sizeLine) :
    Tr prog w A h (eval (.Subscript value (.Slice (some lo) (some hi) none p) pos) env) fun h' v => NewL P h h' v ((xs.drop a).take (b - a)) := by
  refine tr_Sub (R := fun o h2 i => ListV P h2 o xs ∧ ∃ sl u t t', i = .ref sl ∧ h2.IsSliceOf sl (.int a t) (.int b t') u ∧ u = .none) hv (fun h1 o k1 p1 => ?_) (fun h2 o i k2 p2 => ?_) fun o i => ⟨_, rfl⟩
  · intro s Q E hse q; subst hse
    refine wpAny_Slice (show wpAny _ _ (eval lo env) _ _ _ from (hbl s.heap k1).use fun v h2 t2 k2 ⟨t, e⟩ => ?_)
    subst e
    refine show wpAny _ _ (eval hi env) _ _ _ from (hbh h2 (k1.trans k2)).use (s := { s with heap := h2, toks := t2 }) fun v h3 t3 k3 ⟨t', e⟩ => ?_
    subst e
    refine wpAny_pure (q _ _ _ ((k2.trans k3).trans (Keep.push _ _)) ⟨lives_list lp _ _ _ _ ((k2.trans k3).trans (Keep.push _ _)).kq p1, _, _, t, t', rfl, ⟨_, new_get _ _ rfl, rfl, rfl⟩, rfl⟩)
  · obtain ⟨⟨l, vs, rfl, hl, ha⟩, sl, u, t, t', rfl, hsl, rfl⟩ := p2
    refine ⟨⟨l, _, rfl, hl.isList⟩, ?_⟩
    intro s Q E hse q; subst hse
    refine wpAny_getItem_list_slice hl.isList hsl (.int a t) (.int b t') .none (by simp) ?_ (by rw [List.size_toArray, ha.length]; exact hsz)
    rw [slicePick_plain]
    simp only [Option.elim, clipAt_nat]
    refine q _ _ _ (Keep.push _ _) ?_
    have := (newL_push lp ((ha.drop a).take (b - a))).from k2
    have e : (List.take (min b vs.toArray.size - min a vs.toArray.size) (List.drop (min a vs.toArray.size) vs.toArray.toList)) = List.take (b - a) (List.drop a vs) := by
      rw [List.size_toArray]
      show List.take _ (List.drop _ vs) = _
      by_cases h1 : a ≤ vs.length
      · rw [Nat.min_eq_left h1]
        by_cases h2 : b ≤ vs.length
        · rw [Nat.min_eq_left h2]
        · rw [Nat.min_eq_right (by omega), List.take_of_length_le (by rw [List.length_drop]; omega), List.take_of_length_le (by rw [List.length_drop]; omega)]
      · rw [Nat.min_eq_right (show vs.length ≤ b by omega), Nat.min_eq_right (show vs.length ≤ a by omega), List.drop_of_length_le (Nat.le_refl _), List.drop_of_length_le (show vs.length ≤ a by omega)]; simp
    rw [e]; exact this

theorem tr_item {value ix : Expr} {xs : List α} {k : Int} {x : α} (lp : Lives P) (hv : Tr prog w A h (eval value env) (IsL P xs)) (hb : ∀ h1, Keep h h1 → Tr prog w A h1 (eval ix env) (IsI k)) (hk : 0 ≤ k) (hk2 : k < 2 ^ 62) (hx : xs[k.toNat]? = some x)
    (hs : ∀ o i, ∃ ops, subscripted ix false o i = operate ops (getItem o i)) :
    Tr prog w A h (eval (.Subscript value ix pos) env) fun h' v => P h' v x := by
  refine tr_Sub (R := fun o h2 i => ListV P h2 o xs ∧ IntV h2 i k) hv (fun h1 o k1 p1 => (hb h1 k1).mono fun h2 i k2 p2 => ⟨lives_list lp _ _ _ _ k2.kq p1, p2⟩) (fun h2 o i k2 p2 => ?_) hs
  obtain ⟨⟨l, vs, rfl, hl, ha⟩, t, rfl⟩ := p2
  refine ⟨⟨l, _, rfl, hl.isList⟩, ?_⟩
  intro s Q E hse q; subst hse
  obtain ⟨v, hv, pv⟩ := ha.get' _ _ hx
  exact wpAny_getItem_list hl.isList hk (by omega) (by simpa using hv) (q _ _ s.toks (Keep.refl _) pv)

/-! calls by a name -/
theorem args1 {e : Expr} {P1 : Heap → Value → Prop} (he : Tr prog w A h (eval e env) P1) (hst : starEach [e] env = [(false, eval e env)]) :
    Tr prog w A h (spliced (backTo pos (starEach [e] env))) fun h' vs => ∃ v, vs = [v] ∧ P1 h' v := by
  intro s Q E hse q; subst hse
  exact spliced_more (he.use fun v h1 t1 k1 p1 => spliced_none (q _ h1 t1 k1 ⟨v, rfl, p1⟩)) hst
theorem args2 {e e' : Expr} {P1 : Heap → Value → Prop} {P2 : Value → Heap → Value → Prop} (he : Tr prog w A h (eval e env) P1) (he' : ∀ h1 v, Keep h h1 → P1 h1 v → Tr prog w A h1 (eval e' env) (P2 v)) (hst : starEach [e, e'] env = [(false, eval e env), (false, eval e' env)]) :
    Tr prog w A h (spliced (backTo pos (starEach [e, e'] env))) fun h' vs => ∃ v v', vs = [v, v'] ∧ P2 v h' v' := by
  intro s Q E hse q; subst hse
  have g2 : starEach [e'] env = [(false, eval e' env)] := by
    have := congrArg List.tail hst
    revert this
    cases e <;> (intro this; exact this)
  refine spliced_more (he.use fun v h1 t1 k1 p1 => spliced_more ((he' h1 v k1 p1).use (s := { s with heap := h1, toks := t1 }) fun v' h2 t2 k2 p2 => spliced_none (q _ h2 t2 (k1.trans k2) ⟨v, v', rfl, p2⟩)) (by rw [g2]; rfl)) (by rw [hst, g2])
theorem args3 {e e' e'' : Expr} {P1 : Heap → Value → Prop} {P2 : Value → Heap → Value → Prop} {P3 : Value → Value → Heap → Value → Prop} (he : Tr prog w A h (eval e env) P1) (he' : ∀ h1 v, Keep h h1 → P1 h1 v → Tr prog w A h1 (eval e' env) (P2 v))
    (he'' : ∀ h1 v v', Keep h h1 → P2 v h1 v' → Tr prog w A h1 (eval e'' env) (P3 v v')) (hst : starEach [e, e', e''] env = [(false, eval e env), (false, eval e' env), (false, eval e'' env)]) :
    Tr prog w A h (spliced (backTo pos (starEach [e, e', e''] env))) fun h' vs => ∃ v v' v'', vs = [v, v', v''] ∧ P3 v v' h' v'' := by
  intro s Q E hse q; subst hse
  have g1 : starEach [e', e''] env = [(false, eval e' env), (false, eval e'' env)] := by
    have := congrArg List.tail hst
    revert this
    cases e <;> (intro this; exact this)
  have g2 : starEach [e''] env = [(false, eval e'' env)] := by
    have := congrArg List.tail g1
    revert this
    cases e' <;> (intro this; exact this)
  refine spliced_more (he.use fun v h1 t1 k1 p1 => spliced_more ((he' h1 v k1 p1).use (s := { s with heap := h1, toks := t1 }) fun v' h2 t2 k2 p2 => spliced_more ((he'' h2 v v' (k1.trans k2) p2).use (s := { s with heap := h2, toks := t2 }) fun v'' h3 t3 k3 p3 => spliced_none (q _ h3 t3 ((k1.trans k2).trans k3) ⟨v, v', v'', rfl, p3⟩)) (by rw [g2]; rfl)) (by rw [g1, g2])) (by rw [hst, g1])

theorem call_b {x : Str} {px : Pos} {id : String} {e : Expr} {rest : List Expr} {P1 : Heap → List Value → Prop} {T : Heap → Value → Prop} (hf : Tr prog w A h (eval (.Name x px) env) fun _ u => u = .builtin id)
    (ha : ∀ h1, Keep h h1 → Tr prog w A h1 (spliced (backTo pos (starEach (e :: rest) env))) P1) (hc : ∀ h1 vs, Keep h h1 → P1 h1 vs → Tr prog w A h1 (call (.builtin id) vs) T)
    (he : starEach (e :: rest) env = (false, eval e env) :: starEach rest env) (hplain : (backTo pos (starEach rest env)).any (·.1) = false) : Tr prog w A h (eval (.Call (.Name x px) (e :: rest) [] pos) env) T := by
  intro s Q E hse q; subst hse
  refine wpAny_Call_NameR (hf.use fun f h1 t1 k1 p1 => ?_)
  subst p1
  refine callWith_builtin1 ((ha h1 k1).use (s := { s with heap := h1, toks := t1 }) fun vs h2 t2 k2 p2 => ?_) he hplain
  exact (hc h2 vs (k1.trans k2) p2).use (s := { s with heap := h2, toks := t2 }) fun v h3 t3 k3 p3 => q v h3 t3 ((k1.trans k2).trans k3) p3
theorem call_t {x : Str} {px : Pos} {id : String} {e : Expr} {rest : List Expr} {P1 : Heap → List Value → Prop} {T : Heap → Value → Prop} (hf : Tr prog w A h (eval (.Name x px) env) fun _ u => u = .type id)
    (ha : ∀ h1, Keep h h1 → Tr prog w A h1 (spliced (backTo pos (starEach (e :: rest) env))) P1) (hc : ∀ h1 vs, Keep h h1 → P1 h1 vs → Tr prog w A h1 (call (.type id) vs) T)
    (he : starEach (e :: rest) env = (false, eval e env) :: starEach rest env) (hplain : (backTo pos (starEach rest env)).any (·.1) = false) : Tr prog w A h (eval (.Call (.Name x px) (e :: rest) [] pos) env) T := by
  intro s Q E hse q; subst hse
  refine wpAny_Call_NameR (hf.use fun f h1 t1 k1 p1 => ?_)
  subst p1
  refine callWith_type1 ((ha h1 k1).use (s := { s with heap := h1, toks := t1 }) fun vs h2 t2 k2 p2 => ?_) he hplain
  exact (hc h2 vs (k1.trans k2) p2).use (s := { s with heap := h2, toks := t2 }) fun v h3 t3 k3 p3 => q v h3 t3 ((k1.trans k2).trans k3) p3
theorem call_d {x : Str} {px : Pos} {a : Addr} {o : Obj} {fd : FuncData} {e : Expr} {rest : List Expr} {P1 : Heap → List Value → Prop} {T : Heap → Value → Prop} (hf : Tr prog w A h (eval (.Name x px) env) fun _ u => u = .ref a)
    (ho : h.get? a = some o) (hd : o.data = .func fd)
    (ha : ∀ h1, Keep h h1 → Tr prog w A h1 (spliced (backTo pos (starEach (e :: rest) env))) P1) (hc : ∀ h1 vs, Keep h h1 → P1 h1 vs → Tr prog w A h1 (call (.ref a) vs) T)
    (he : starEach (e :: rest) env = (false, eval e env) :: starEach rest env) : Tr prog w A h (eval (.Call (.Name x px) (e :: rest) [] pos) env) T := by
  intro s Q E hse q; subst hse
  refine wpAny_Call_NameR (hf.use fun f h1 t1 k1 p1 => ?_)
  subst p1
  refine callWith_def hd ((ha h1 k1).use (s := { s with heap := h1, toks := t1 }) fun vs h2 t2 k2 p2 => ?_) he
  refine ⟨(k1.trans k2) _ _ ho, ?_⟩
  exact (hc h2 vs (k1.trans k2) p2).use (s := { s with heap := h2, toks := t2 }) fun v h3 t3 k3 p3 => q v h3 t3 ((k1.trans k2).trans k3) p3

/-! a list display -/
theorem disp_nil {P1 : Heap → List Value → Prop} (p : P1 h []) : Tr prog w A h (spliced (backTo pos (starEach [] env))) P1 := by
  intro s Q E hse q; subst hse
  exact spliced_none (q _ _ s.toks (Keep.refl _) p)
theorem disp_cons {e : Expr} {rest : List Expr} {x : α} {xs : List α} (lp : Lives P) (he : Tr prog w A h (eval e env) fun h' v => P h' v x) (hr : ∀ h1, Keep h h1 → Tr prog w A h1 (spliced (backTo pos (starEach rest env))) fun h' vs => All2 (P h') vs xs)
    (hst : starEach (e :: rest) env = (false, eval e env) :: starEach rest env) : Tr prog w A h (spliced (backTo pos (starEach (e :: rest) env))) fun h' vs => All2 (P h') vs (x :: xs) := by
  intro s Q E hse q; subst hse
  exact spliced_more (he.use fun v h1 t1 k1 p1 => (hr h1 k1).use (s := { s with heap := h1, toks := t1 }) fun vs h2 t2 k2 p2 => q _ h2 t2 (k1.trans k2) (.cons (lp _ _ _ _ k2.kq p1) p2)) hst
theorem tr_List {elts : List Expr} {xs : List α} (lp : Lives P) (ha : Tr prog w A h (spliced (backTo pos (starEach elts env))) fun h' vs => All2 (P h') vs xs) (hsz : xs.length ≤ sizeLine) :
    Tr prog w A h (eval (.List elts pos) env) fun h' v => NewL P h h' v xs := by
  intro s Q E hse q; subst hse
  refine List_ (ha.use fun vs h1 t1 k1 p1 => wpAny_newList ?_ (by rw [p1.length]; exact hsz))
  exact q _ _ _ (k1.trans (Keep.push _ _)) ((newL_push lp p1).from k1)
end

/-! statements -/
section
variable {prog : Program} {w : World} {A : Around} {env : Env} {b : Heap} {m cm : Str → Option Value} {s : Shared} {Q : Flow → Shared → Prop} {E : Value → Shared → Prop}
theorem ex_assign {x : Str} {px pos : Pos} {e : Expr} {rest : List Stmt} {P : Heap → Value → Prop} (F : Fx b env m cm s.heap) (he : Tr prog w A s.heap (eval e env) P) (hl : env.kindOf x = some .local)
    (hs : swapsWith e (some (.Name x px)) pos.line env = pure false)
    (q : ∀ h1 v h' tk, Keep s.heap h1 → P h1 v → Fx b env (fun y => if y = x then some v else m y) cm h' → Kq h1 h' → wpAny (model prog w) A (execs rest env) Q E { s with heap := h', toks := tk }) :
    wpAny (model prog w) A (execs (.Assign [.Name x px] e pos :: rest) env) Q E s :=
  wpAny_execs_cons (wpAny_Assign_Name (he.use fun v h1 t1 k1 p1 => st_local (s := { s with heap := h1, toks := t1 }) (F.up k1) hl fun h' tk F' _ kq => q h1 v h' tk k1 p1 F' kq) hs)
theorem ex_assignC {x : Str} {c : Addr} {px pos : Pos} {e : Expr} {rest : List Stmt} {P : Heap → Value → Prop} (F : Fx b env m cm s.heap) (he : Tr prog w A s.heap (eval e env) P) (hl : env.kindOf x = some .cell)
    (hc : env.cells.lookup x = some c) (hf : b.get? c = none) (hs : swapsWith e (some (.Name x px)) pos.line env = pure false)
    (q : ∀ h1 v h' tk, Keep s.heap h1 → P h1 v → Fx b env m (fun y => if y = x then some v else cm y) h' → Kq h1 h' → wpAny (model prog w) A (execs rest env) Q E { s with heap := h', toks := tk }) :
    wpAny (model prog w) A (execs (.Assign [.Name x px] e pos :: rest) env) Q E s :=
  wpAny_execs_cons (wpAny_Assign_Name (he.use fun v h1 t1 k1 p1 => st_cell (s := { s with heap := h1, toks := t1 }) (F.up k1) hl hc hf fun h' tk F' _ kq => q h1 v h' tk k1 p1 F' kq) hs)
theorem ex_return {pos : Pos} {e : Expr} {rest : List Stmt} {P : Heap → Value → Prop} (he : Tr prog w A s.heap (eval e env) P) (q : ∀ v h' tk, Keep s.heap h' → P h' v → Q (.ret v) { s with heap := h', toks := tk }) :
    wpAny (model prog w) A (execs (.Return (some e) pos :: rest) env) Q E s :=
  wpAny_execs_cons (wpAny_Return_some (he.use fun v h1 t1 k1 p1 => q v h1 t1 k1 p1))
theorem ex_if {t : Expr} {body orelse rest : List Stmt} {pos : Pos} {c : Bool} (ht : Tr prog w A s.heap (isTrue t env (eval t env)) fun _ b => b = c)
    (q : ∀ h' tk, Keep s.heap h' → wpAny (model prog w) A (execs (if c then body else orelse) env) (fun f s' => match f with | .next => wpAny (model prog w) A (execs rest env) Q E s' | f => Q f s') E { s with heap := h', toks := tk }) :
    wpAny (model prog w) A (execs (.If t body orelse pos :: rest) env) Q E s := by
  refine wpAny_execs_cons (wpAny_If (ht.use fun b h1 t1 k1 p1 => ?_))
  subst p1
  have := q h1 t1 k1
  cases b <;> exact this
end

/-! a def is called -/
section
variable {prog : Program} {w : World} {A : Around} {h : Heap}
structure FnAt (mg : Str → Option Value) (h : Heap) (name : Str) (params : Arguments) (body : List Stmt) (scope : Scope) (a : Addr) (fd : FuncData) : Prop where
  glob : mg name = some (.ref a)
  obj : ∃ o, h.get? a = some o ∧ o.data = .func fd
  fd_eq : ∃ pm cd doc, fd = Calls.docDef name params body scope pm cd doc
  code : h.CodeRec fd.code fd.qualname
theorem FnAt.up {mg : Str → Option Value} {h h' : Heap} {name : Str} {params : Arguments} {body : List Stmt} {scope : Scope} {a : Addr} {fd : FuncData} (x : FnAt mg h name params body scope a fd) (k : Keep h h') : FnAt mg h' name params body scope a fd :=
  ⟨x.glob, let ⟨o, h1, h2⟩ := x.obj; ⟨o, k _ _ h1, h2⟩, x.fd_eq, x.code.keeps k⟩

/-- the frame of a def -/
def fenv (scope : Scope) (name : Str) (L a : Addr) (cd : Value) : Env :=
  { scope := scope, locals := L, globals := mainGlobals, cells := cellsFrom (L + 1) scope.names [], qual := name ++ ".<locals>.", func := some a, code := cd, frame := some L, builtins := builtinsNs }
theorem fenv_ge (scope : Scope) (name : Str) (L a : Addr) (cd : Value) : GEnv (fenv scope name L a cd) := ⟨rfl, rfl⟩

def Ends (h : Heap) (P : Heap → Value → Prop) (s : Shared) : Flow → Shared → Prop := fun f s' => ∃ v h' tk, f = .ret v ∧ s' = { s with heap := h', toks := tk } ∧ Keep h h' ∧ P h' v

theorem tr_call {mg : Str → Option Value} {name : Str} {params : Arguments} {body : List Stmt} {scope : Scope} {a : Addr} {fd : FuncData} {vals : List Value} {binds : List (Str × Value)} {P : Heap → Value → Prop}
    (G : Gl mg h) (x : FnAt mg h name params body scope a fd) (hroom : A.depth < recursionLimit)
    (hbind : ∀ pm cd doc, bindArgs (Calls.docDef name params body scope pm cd doc) ⟨vals, []⟩ = pure binds)
    (hkind : ∀ n : Nat, ∀ x ∈ binds, scope.names.lookup x.1 = some .local ∨ (scope.names.lookup x.1 = some .cell ∧ ((cellsFrom n scope.names []).lookup x.1).isSome = true))
    (hb : ∀ (L : Addr) (cd : Value) (s : Shared) (h₁ : Heap) (tk : Nat),
      Fx h (fenv scope name L a cd) (bindL (fenv scope name L a cd).kindOf binds fun _ => none) (bindC (fenv scope name L a cd).kindOf binds fun _ => none) h₁ → (∀ n c, (fenv scope name L a cd).cells.lookup n = some c → h.get? c = none) →
      wpAny (model prog w) (A.deeper (fenv scope name L a cd)) (execs body (fenv scope name L a cd)) (Ends h P s) (fun _ _ => False) { s with heap := h₁, toks := tk })
    (hco : scope.isCoroutine = false := by rfl) (hgen : scope.isGenerator = false := by rfl) (hk : scope.kind = .function := by rfl) :
    Tr prog w A h (call (.ref a) vals) P := by
  intro s Q E hse q; subst hse
  obtain ⟨o, ho, hd⟩ := x.obj
  obtain ⟨pm, cd, doc, rfl⟩ := x.fd_eq
  refine wpAny_call (codeAny_call_cells (body := body) hroom ho hd G.nolimit x.code rfl (hbind pm cd doc) rfl (hkind _) (fun s₁ I => ?_) hco hgen hk)
  obtain ⟨h₁, tk, rfl⟩ := I.toInCall.same
  refine wpAny_mono (hb s.heap.objs.size cd s h₁ tk ⟨hk, I.toInCall.ns, I.toInCall.keep, get_none_of_le I.toInCall.fresh, I.cell, fun n n' c e e' => name_of_addr I.apart (mem_of_lookup e) (mem_of_lookup e')⟩ (fun n c e => ?_)) (fun f s' h' => ?_) fun _ _ f => f.elim
  · have h1 : s.heap.objs.size < c := I.above n c (mem_of_lookup e)
    exact get_none_of_le (Nat.le_of_lt h1)
  · obtain ⟨v, h', tk', rfl, rfl, hk', hp⟩ := h'
    exact q v h' tk' hk' hp
end
end Mine
end
section
open PySem PySem.W PyProof.Rows
set_option Elab.async false
namespace Mine
/-! what a comprehension's table must bear -/
def compOk (scope : Scope) (env : Env) : Bool :=
  (scope.names.all fun x => (x.2 != .free || ((env.cells.lookup x.1).isSome && !scope.names.contains (x.1, NameKind.cell))) && (x.2 != .local || scope.names.lookup x.1 == some .local)) && scope.kind == .function
def clFold (env : Env) : List (Str × NameKind) → List (Str × Addr) → List (Str × Addr)
  | [], acc => acc
  | (n, k) :: r, acc => clFold env r (if k == .free then (n, (env.cells.lookup n).getD 0) :: acc else acc)
theorem clFold_forIn (env : Env) (f : Str × NameKind → List (Str × Addr) → Sem (ForInStep (List (Str × Addr))))
    (hf : ∀ n k cs, f (n, k) cs = if k == .free then (do let c ← cellOf env n; pure (.yield ((n, c) :: cs))) else pure (.yield cs)) :
    ∀ (names : List (Str × NameKind)) (acc : List (Str × Addr)), (∀ x ∈ names, x.2 = .free → (env.cells.lookup x.1).isSome = true) → forIn names acc f = (pure (clFold env names acc) : Sem _)
  | [], acc, _ => by rw [List.forIn_nil]; rfl
  | (n, k) :: r, acc, h => by
    rw [List.forIn_cons, hf]
    unfold clFold
    have hr := fun acc => clFold_forIn env f hf r acc fun x hx => h x (.tail _ hx)
    by_cases hk : (k == NameKind.free) = true
    · rw [if_pos hk, if_pos hk]
      obtain ⟨c, hc⟩ := Option.isSome_iff_exists.mp (h (n, k) (.head _) (by simpa using hk))
      have e : cellOf env n = pure c := by unfold cellOf; simp only at hc; rw [hc]
      simp only at hc
      rw [e, hc]
      exact hr _
    · rw [if_neg hk, if_neg hk]; exact hr _
theorem clFold_lookup (env : Env) (n : Str) : ∀ (names : List (Str × NameKind)) (acc : List (Str × Addr)), (∀ x ∈ names, x.2 = .free → (env.cells.lookup x.1).isSome = true) →
    ((clFold env names acc).lookup n = acc.lookup n ∧ (n, NameKind.free) ∉ names) ∨ (clFold env names acc).lookup n = env.cells.lookup n
  | [], acc, _ => .inl ⟨rfl, by simp⟩
  | (y, k) :: r, acc, h => by
    unfold clFold
    have hr := fun acc => clFold_lookup env n r acc fun x hx => h x (.tail _ hx)
    by_cases hk : (k == NameKind.free) = true
    · rw [if_pos hk]
      have hk' : k = .free := by simpa using hk
      obtain ⟨c, hc⟩ := Option.isSome_iff_exists.mp (h (y, k) (.head _) hk')
      simp only at hc
      rcases hr ((y, (env.cells.lookup y).getD 0) :: acc) with ⟨e, e'⟩ | e
      · rw [List.lookup_cons] at e
        cases hn : n == y with
        | true => rw [hn] at e; rw [eq_of_beq hn] at e ⊢; exact .inr (by rw [e, hc]; rfl)
        | false => rw [hn] at e; refine .inl ⟨e, fun hm => ?_⟩
                   rcases List.mem_cons.mp hm with q | q
                   · have : n = y := congrArg Prod.fst q
                     rw [this] at hn; simp at hn
                   · exact e' q
      · exact .inr e
    · rw [if_neg hk]
      rcases hr acc with ⟨e, e'⟩ | e
      · refine .inl ⟨e, fun hm => ?_⟩
        rcases List.mem_cons.mp hm with q | q
        · have : NameKind.free = k := congrArg Prod.snd q
          rw [← this] at hk; simp at hk
        · exact e' q
      · exact .inr e
structure CompFacts (scope : Scope) (env : Env) : Prop where
  clos : closureFor scope env = pure (clFold env scope.names [])
  cl1 : ∀ n c, (clFold env scope.names []).lookup n = some c → env.cells.lookup n = some c
  cl2 : ∀ n, (n, NameKind.free) ∈ scope.names → (clFold env scope.names []).lookup n = env.cells.lookup n
  nd : ∀ n, (n, NameKind.free) ∈ scope.names → (n, NameKind.cell) ∉ scope.names
  kind : scope.kind = .function
  names : ∀ x ∈ scope.names, x.2 = .local → scope.names.lookup x.1 = some .local
theorem compFacts {scope : Scope} {env : Env} (h : compOk scope env = true) : CompFacts scope env := by
  simp only [compOk, Bool.and_eq_true, List.all_eq_true, Bool.or_eq_true, bne_iff_ne, ne_eq, beq_iff_eq, Bool.not_eq_true', List.contains_eq_mem, decide_eq_false_iff_not] at h
  obtain ⟨h1, h2⟩ := h
  have hf : ∀ x ∈ scope.names, x.2 = .free → (env.cells.lookup x.1).isSome = true := fun x hx e => ((h1 x hx).1.resolve_left fun q => q e).1
  refine ⟨?_, fun n c e => ?_, fun n hn => ?_, fun n hn => ((h1 _ hn).1.resolve_left fun q => q rfl).2, h2, fun x hx e => (h1 x hx).2.resolve_left fun q => q e⟩
  · unfold closureFor
    have := clFold_forIn env (fun x cs => if x.2 == .free then (do let c ← cellOf env x.1; pure (.yield ((x.1, c) :: cs))) else pure (.yield cs)) (fun _ _ _ => rfl) scope.names [] hf
    show (forIn scope.names [] _ >>= fun r => pure r) = _
    have e2 : (forIn scope.names ([] : List (Str × Addr)) (fun (x : Str × NameKind) (r : List (Str × Addr)) => match x with | (name, kind) => if (kind == NameKind.free) = true then (do let a ← cellOf env name; pure (ForInStep.yield ((name, a) :: r)) : Sem _) else pure (ForInStep.yield r))) = (pure (clFold env scope.names []) : Sem _) :=
      clFold_forIn env _ (fun _ _ _ => rfl) scope.names [] hf
    first
      | (rw [e2]; rfl)
      | (rw [this]; rfl)
  · rcases clFold_lookup env n scope.names [] hf with ⟨q, _⟩ | q
    · rw [q] at e; cases e
    · rw [← q]; exact e
  · rcases clFold_lookup env n scope.names [] hf with ⟨_, q⟩ | q
    · exact absurd hn q
    · exact q

section
variable {prog : Program} {w : World} {A : Around} {α β : Type} {b : Heap} {scope : Scope} {env : Env} {C : Addr} {cells : List (Str × Addr)} {cm₀ : Str → Option Value} {S : α → Value → Heap → Prop} {f : α → β} {T : V β} {p : α → Bool}

theorem bind_local {xn : Str} {px : Pos} (hx : (compE scope env C cells).kindOf xn = some .local) (x : α) (v : Value) (s : Shared) (m cm : Str → Option Value) (Q : Unit → Shared → Prop) (E : Value → Shared → Prop) (_ : S x v s.heap)
    (F : Fx b (compE scope env C cells) m cm s.heap) (hc : ClOf scope cm₀ cm)
    (q : ∀ h' tk m' cm', Fx b (compE scope env C cells) m' cm' h' → ClOf scope cm₀ cm' → m' xn = some v → KeepBut (ownOf C cells) s.heap h' → Q () { s with heap := h', toks := tk }) :
    wpAny (model prog w) A (assign (.Name xn px) (compE scope env C cells) v) Q E s :=
  wpAny_assign_Name (st_local F hx fun h' tk F' hs _ => q h' tk _ _ F' hc (if_pos rfl) fun a o na e => hs.extBut a o (fun x => na (.inl x)) e)

theorem bind_cell {xn : Str} {px : Pos} (hx : (compE scope env C cells).kindOf xn = some .cell) (hm : (xn, NameKind.cell) ∈ scope.names) (hnf : (xn, NameKind.free) ∉ scope.names) (sp : CellSpec b scope env C cells) (x : α) (v : Value) (s : Shared) (m cm : Str → Option Value) (Q : Unit → Shared → Prop) (E : Value → Shared → Prop) (_ : S x v s.heap)
    (F : Fx b (compE scope env C cells) m cm s.heap) (hc : ClOf scope cm₀ cm)
    (q : ∀ h' tk m' cm', Fx b (compE scope env C cells) m' cm' h' → ClOf scope cm₀ cm' → cm' xn = some v → KeepBut (ownOf C cells) s.heap h' → Q () { s with heap := h', toks := tk }) :
    wpAny (model prog w) A (assign (.Name xn px) (compE scope env C cells) v) Q E s := by
  obtain ⟨c, h1, h2, h3⟩ := sp.own xn hm
  refine wpAny_assign_Name (st_cell F hx h1 h3 fun h' tk F' hs _ => q h' tk _ _ F' (fun n hn => ?_) (if_pos rfl) fun a o na e => hs.extBut a o (fun x => na (.inr ⟨xn, x ▸ h1, x ▸ h2⟩)) e)
  rw [if_neg (by rintro rfl; exact hnf hn)]; exact hc n hn

theorem tests_nil {cenv : Env} {h : Heap} : Tr prog w A h (testsT [] cenv) fun _ ok => ok = true := by
  unfold testsT; rw [List.forIn_nil]; exact Tr.pure rfl
theorem tests_one {cenv : Env} {h : Heap} {t : Expr} {c : Bool} (ht : Tr prog w A h (isTrue t cenv (eval t cenv)) fun _ ok => ok = c) : Tr prog w A h (testsT [t] cenv) fun _ ok => ok = c := by
  unfold testsT; rw [List.forIn_cons]
  simp only [if_true]
  refine Tr.bind (Tr.bind ht fun h' a _ p => Tr.pure (P := fun _ r => r = ForInStep.yield c) (by rw [p])) fun h' a _ p => ?_
  subst p
  dsimp only
  rw [List.forIn_nil]; exact Tr.pure rfl

theorem body_local {S' : α → Value → Prop} {xn : Str} {px : Pos} {elt : Expr} (hx : (compE scope env C cells).kindOf xn = some .local)
    (he : ∀ (x : α) (v : Value) (h : Heap) (m cm : Str → Option Value), S' x v → Fx b (compE scope env C cells) m cm h → ClOf scope cm₀ cm → m xn = some v → Tr prog w A h (eval elt (compE scope env C cells)) (fun h' y => Off h b h' fun h'' => T h'' y (f x))) :
    CompBody prog w A b (compE scope env C cells) (.Name xn px) [] elt (ownOf C cells) (ClOf scope cm₀) (fun x v _ => S' x v) (fun x m _ => ∃ v, m xn = some v ∧ S' x v) (fun _ => true) f T where
  bindT := fun x v s m cm Q E hS F hc q => bind_local (S := fun x v _ => S' x v) hx x v s m cm Q E hS F hc fun h' tk m' cm' F' hc' hb hk => q h' tk m' cm' F' hc' ⟨v, hb, hS⟩ hk
  tests := fun _ _ _ _ _ _ _ => tests_nil
  elt := fun x h m cm _ F hc ⟨v, hb, hs⟩ => he x v h m cm hs F hc hb
theorem body_local_if {S' : α → Value → Prop} {xn : Str} {px : Pos} {elt t : Expr} (hx : (compE scope env C cells).kindOf xn = some .local)
    (ht : ∀ (x : α) (v : Value) (h : Heap) (m cm : Str → Option Value), S' x v → Fx b (compE scope env C cells) m cm h → ClOf scope cm₀ cm → m xn = some v → Tr prog w A h (isTrue t (compE scope env C cells) (eval t (compE scope env C cells))) (fun _ ok => ok = p x))
    (he : ∀ (x : α) (v : Value) (h : Heap) (m cm : Str → Option Value), S' x v → Fx b (compE scope env C cells) m cm h → ClOf scope cm₀ cm → m xn = some v → Tr prog w A h (eval elt (compE scope env C cells)) (fun h' y => Off h b h' fun h'' => T h'' y (f x))) :
    CompBody prog w A b (compE scope env C cells) (.Name xn px) [t] elt (ownOf C cells) (ClOf scope cm₀) (fun x v _ => S' x v) (fun x m _ => ∃ v, m xn = some v ∧ S' x v) p f T where
  bindT := fun x v s m cm Q E hS F hc q => bind_local (S := fun x v _ => S' x v) hx x v s m cm Q E hS F hc fun h' tk m' cm' F' hc' hb hk => q h' tk m' cm' F' hc' ⟨v, hb, hS⟩ hk
  tests := fun x h m cm F hc ⟨v, hb, hs⟩ => tests_one (ht x v h m cm hs F hc hb)
  elt := fun x h m cm _ F hc ⟨v, hb, hs⟩ => he x v h m cm hs F hc hb
theorem body_cell {S' : α → Value → Prop} {xn : Str} {px : Pos} {elt : Expr} (hx : (compE scope env C cells).kindOf xn = some .cell) (hm : (xn, NameKind.cell) ∈ scope.names) (hnf : (xn, NameKind.free) ∉ scope.names) (sp : CellSpec b scope env C cells)
    (he : ∀ (x : α) (v : Value) (h : Heap) (m cm : Str → Option Value), S' x v → Fx b (compE scope env C cells) m cm h → ClOf scope cm₀ cm → cm xn = some v → Tr prog w A h (eval elt (compE scope env C cells)) (fun h' y => Off h b h' fun h'' => T h'' y (f x))) :
    CompBody prog w A b (compE scope env C cells) (.Name xn px) [] elt (ownOf C cells) (ClOf scope cm₀) (fun x v _ => S' x v) (fun x _ cm => ∃ v, cm xn = some v ∧ S' x v) (fun _ => true) f T where
  bindT := fun x v s m cm Q E hS F hc q => bind_cell (S := fun x v _ => S' x v) hx hm hnf sp x v s m cm Q E hS F hc fun h' tk m' cm' F' hc' hb hk => q h' tk m' cm' F' hc' ⟨v, hb, hS⟩ hk
  tests := fun _ _ _ _ _ _ _ => tests_nil
  elt := fun x h m cm _ F hc ⟨v, hb, hs⟩ => he x v h m cm hs F hc hb

theorem off_int {H b h' : Heap} {y : Value} {n : Int} (x : IntV h' y n) : Off H b h' fun h'' => IntV h'' y n := Off.pure fun _ => x
theorem off_str {H b h' : Heap} {y : Value} {n : Str} (x : StrV h' y n) : Off H b h' fun h'' => StrV h'' y n := Off.pure fun _ => x
/-- a new flat list -/
theorem off_new {P : V α} (hp : ∀ h h' v x, P h v x → P h' v x) {H b h' : Heap} {y : Value} {zs : List α} (x : NewL P H h' y zs) : Off H b h' fun h'' => ListV P h'' y zs := by
  obtain ⟨D, vs, rfl, hD, ⟨c, hl⟩, ha⟩ := x
  exact ⟨fun a => a = D, fun a e => .inl (e ▸ hD), fun h'' k => ⟨D, vs, rfl, ⟨c, k D _ rfl hl⟩, ha.imp fun v x p => hp _ _ v x p⟩⟩
theorem off_old {P : V α} (hp : ∀ h h' v x, P h v x → P h' v x) {H b h' : Heap} {y : Value} {zs : List α} (x : ListV P b y zs) (k : Keep b h') : Off H b h' fun h'' => ListV P h'' y zs := by
  obtain ⟨D, vs, rfl, ⟨c, hl⟩, ha⟩ := x
  exact ⟨fun a => a = D, fun a e => .inr (by rw [e, hl]; simp), fun h'' k' => ⟨D, vs, rfl, ⟨c, k' D _ rfl (k _ _ hl)⟩, ha.imp fun v x p => hp _ _ v x p⟩⟩
theorem tr_comp {elt target iter : Expr} {ifs : List Expr} {pos : Pos} {b₀ h : Heap} {m cm : Str → Option Value} {S : α → Value → Heap → Prop} {Bd : α → (Str → Option Value) → (Str → Option Value) → Prop} {xs : List α} (lt : Lives T)
    (F : Fx b₀ env m cm h) (hok : compOk scope env = true) (hit : Tr prog w A h (eval iter env) fun h1 v => Iters prog w A target h h1 v xs S) (hsz : xs.length ≤ sizeLine)
    (body : ∀ C cells, CellSpec h scope env C cells → CompBody prog w A h (compE scope env C cells) target ifs elt (ownOf C cells) (ClOf scope cm) S Bd p f T)
    (hs : ∀ x, foldedSetIterable iter env x = pure x := by intro _; rfl) :
    Tr prog w A h (eval (.ListComp elt [⟨target, iter, ifs, 0⟩] scope pos) env) fun h' v => NewL T h h' v ((xs.filter p).map f) :=
  let c := compFacts hok
  tr_ListComp lt F hit hsz c.clos c.cl1 c.cl2 c.nd c.kind c.names body hs
theorem ex_comp {elt target iter : Expr} {ifs : List Expr} {y : Str} {py pos spos : Pos} {b₀ : Heap} {m cm : Str → Option Value} {s : Shared} {Q : Flow → Shared → Prop} {E : Value → Shared → Prop} {rest : List Stmt}
    {S : α → Value → Heap → Prop} {Bd : α → (Str → Option Value) → (Str → Option Value) → Prop} {xs : List α} (lt : Lives T) (F : Fx b₀ env m cm s.heap) (hok : compOk scope env = true)
    (hsw : swapsWith (.ListComp elt [⟨target, iter, ifs, 0⟩] scope pos) (some (.Name y py)) spos.line env = pure true) (hy : env.kindOf y = some .local)
    (hit : Tr prog w A s.heap (eval iter env) fun h1 v => Iters prog w A target s.heap h1 v xs S) (hsz : xs.length ≤ sizeLine)
    (body : ∀ C cells, CellSpec s.heap scope env C cells → CompBody prog w A s.heap (compE scope env C cells) target ifs elt (ownOf C cells) (ClOf scope cm) S Bd p f T)
    (q : ∀ h' tk v, Fx b₀ env (fun z => if z = y then some v else m z) cm h' → Kq s.heap h' → ListV T h' v ((xs.filter p).map f) → wpAny (model prog w) A (execs rest env) Q E { s with heap := h', toks := tk })
    (hs : ∀ x, foldedSetIterable iter env x = pure x := by intro _; rfl) :
    wpAny (model prog w) A (execs (.Assign [.Name y py] (.ListComp elt [⟨target, iter, ifs, 0⟩] scope pos) spos :: rest) env) Q E s :=
  let c := compFacts hok
  wpAny_execs_cons (ex_Assign_ListComp lt hsw hy F hit hsz c.clos c.cl1 c.cl2 c.nd c.kind c.names body q hs)
theorem flat_int : ∀ (h h' : Heap) (v : Value) (x : Int), IntV h v x → IntV h' v x := fun _ _ _ _ x => x
theorem flat_str : ∀ (h h' : Heap) (v : Value) (x : Str), StrV h v x → StrV h' v x := fun _ _ _ _ x => x
end
end Mine
end
section
open PySem PySem.W PyProof.Rows
set_option Elab.async false
namespace Mine
abbrev S (x : String) : Str := Str.ofString x
/-- the names of built-in things that the text does not bind -/
structure Free (mg : Str → Option Value) : Prop where
  len : mg (S "len") = none
  sum : mg (S "sum") = none
  range : mg (S "range") = none
  list : mg (S "list") = none
  zip : mg (S "zip") = none
  enumerate : mg (S "enumerate") = none
theorem bb_len : bootBuiltins (S "len") = some (.builtin "len") := by kernel_rfl
theorem bb_sum : bootBuiltins (S "sum") = some (.builtin "sum") := by kernel_rfl
theorem bb_range : bootBuiltins (S "range") = some (.type "range") := by kernel_rfl
theorem bb_list : bootBuiltins (S "list") = some (.type "list") := by kernel_rfl
theorem bb_zip : bootBuiltins (S "zip") = some (.type "zip") := by kernel_rfl
theorem bb_enumerate : bootBuiltins (S "enumerate") = some (.type "enumerate") := by kernel_rfl

theorem small_le {a b c : Int} (ha : 0 ≤ a) (ha' : a ≤ 1000) (hb : 0 ≤ b) (hb' : b ≤ 1000) (hc : 1 ≤ c) (hc' : c ≤ 1000) : Builtin.Range.small a b c = true := by
  have h1 : 0 ≤ Builtin.Range.rangeSize a b c ∧ Builtin.Range.rangeSize a b c ≤ 1001 := by
    unfold Builtin.Range.rangeSize
    rw [if_pos (by omega)]
    split
    · have : (b - a - 1) / c ≤ b - a - 1 := Int.ediv_le_self _ (by omega)
      have h2 : 0 ≤ (b - a - 1) / c := Int.ediv_nonneg (by omega) (by omega)
      omega
    · omega
  unfold Builtin.Range.small
  simp only [Builtin.Range.rangeFitsLong, Bool.and_eq_true, Bool.or_eq_true, decide_eq_true_eq]
  rw [if_pos (by omega)]
  simp only [Bool.and_eq_true, decide_eq_true_eq]
  refine ⟨⟨⟨⟨?_, ?_⟩, ?_⟩, ?_⟩, .inr ?_⟩ <;> omega

/-- the ints of a range -/
def rng (a b c : Int) : List Int := rangeInts a c (Builtin.Range.rangeSize a b c).toNat
theorem rng_len_le (a b c : Int) (hc : 1 ≤ c) (hab : b - a ≤ 1000) : (rng a b c).length ≤ 1001 := by
  unfold rng rangeInts
  simp only [List.length_map, List.length_range]
  unfold Builtin.Range.rangeSize
  rw [if_pos (by omega)]
  split
  · have : (b - a - 1) / c ≤ b - a - 1 := Int.ediv_le_self _ (by omega)
    omega
  · simp
theorem rng_one (a b : Int) : rng a b 1 = (List.range (b - a).toNat).map fun (i : Nat) => a + (i : Int) := by
  unfold rng rangeInts
  rw [rangeSize_one]
  split
  · simp
  · have : (b - a).toNat = 0 := by omega
    rw [this]; simp
theorem mem_rng_one {a b x : Int} (h : x ∈ rng a b 1) : a ≤ x ∧ x < b := by
  rw [rng_one] at h
  obtain ⟨i, hi, rfl⟩ := List.mem_map.mp h
  have := List.mem_range.mp hi
  omega

theorem Iters.mem {prog : Program} {w : World} {A : Around} {tg : Expr} {h0 h : Heap} {v : Value} {α : Type} {xs : List α} {R : α → Value → Heap → Prop} (x : Iters prog w A tg h0 h v xs R) : Iters prog w A tg h0 h v xs (fun a u h' => a ∈ xs ∧ R a u h') := by
  intro s Q E hs q
  refine x s Q E hs fun I h2 tk fp wr P St k12 W st hf hw hP hl => q I h2 tk fp wr P St k12 W st hf hw (fun i v h' hv => ?_) hl
  obtain ⟨a, ha, hr⟩ := hP i v h' hv
  exact ⟨a, ha, List.mem_of_getElem? ha, hr⟩

/-- where a name of the top or a built-in is read -/
structure Rd (mg : Str → Option Value) (env : Env) (h : Heap) : Prop where
  G : Gl mg h
  ge : GEnv env
  fn : env.scope.kind = .function
  fr : Free mg
theorem Rd.up {mg : Str → Option Value} {env : Env} {h h' : Heap} (x : Rd mg env h) (k : Keep h h') : Rd mg env h' := ⟨x.G.up k, x.ge, x.fn, x.fr⟩
theorem Rd.comp {mg : Str → Option Value} {env : Env} {h h' : Heap} (x : Rd mg env h) (k : Keep h h') (scope : Scope) (C : Addr) (cells : List (Str × Addr)) (hk : scope.kind = .function) : Rd mg (compE scope env C cells) h' := ⟨x.G.up k, x.ge, hk, x.fr⟩

section
variable {prog : Program} {w : World} {A : Around} {env : Env} {h : Heap} {pos px : Pos} {mg : Str → Option Value} {α : Type} {P : V α} {e e' e'' : Expr}
theorem ev_len {xs : List α} (R : Rd mg env h) (hk : env.kindOf (S "len") = some .globalImplicit) (he : ∀ h1, Keep h h1 → Tr prog w A h1 (eval e env) (IsL P xs)) (hst : starEach [e] env = [(false, eval e env)]) (hsz : xs.length < 2 ^ 62) :
    Tr prog w A h (eval (.Call (.Name (S "len") px) [e] [] pos) env) (IsI xs.length) := by
  refine call_b (tr_builtin R.G R.ge R.fn hk R.fr.len bb_len rfl (by decide)) (fun h1 k1 => args1 (he h1 k1) hst) (fun h1 vs k1 p1 => ?_) hst rfl
  obtain ⟨v, rfl, p⟩ := p1
  exact call_len p hsz
theorem ev_sum {xs : List Int} (R : Rd mg env h) (hh : A.handled = none) (hk : env.kindOf (S "sum") = some .globalImplicit) (he : ∀ h1, Keep h h1 → Tr prog w A h1 (eval e env) (IsL IntV xs)) (hst : starEach [e] env = [(false, eval e env)]) :
    Tr prog w A h (eval (.Call (.Name (S "sum") px) [e] [] pos) env) (IsI xs.sum) := by
  refine call_b (tr_builtin R.G R.ge R.fn hk R.fr.sum bb_sum rfl (by decide)) (fun h1 k1 => args1 (he h1 k1) hst) (fun h1 vs k1 p1 => ?_) hst rfl
  obtain ⟨v, rfl, p⟩ := p1
  exact call_sum hh p
theorem ev_range1 {b : Int} (R : Rd mg env h) (hk : env.kindOf (S "range") = some .globalImplicit) (he : ∀ h1, Keep h h1 → Tr prog w A h1 (eval e env) (IsI b)) (hst : starEach [e] env = [(false, eval e env)]) :
    Tr prog w A h (eval (.Call (.Name (S "range") px) [e] [] pos) env) fun h' u => RangeV h' u 0 b 1 := by
  refine call_t (tr_builtin R.G R.ge R.fn hk R.fr.range bb_range rfl (by decide)) (fun h1 k1 => args1 (he h1 k1) hst) (fun h1 vs k1 p1 => ?_) hst rfl
  obtain ⟨v, rfl, p⟩ := p1
  exact call_range1 p
theorem ev_range2 {a b : Int} (R : Rd mg env h) (hk : env.kindOf (S "range") = some .globalImplicit) (he : ∀ h1, Keep h h1 → Tr prog w A h1 (eval e env) (IsI a)) (he' : ∀ h1, Keep h h1 → Tr prog w A h1 (eval e' env) (IsI b))
    (hst : starEach [e, e'] env = [(false, eval e env), (false, eval e' env)]) (hst' : starEach [e'] env = [(false, eval e' env)]) :
    Tr prog w A h (eval (.Call (.Name (S "range") px) [e, e'] [] pos) env) fun h' u => RangeV h' u a b 1 := by
  refine call_t (tr_builtin R.G R.ge R.fn hk R.fr.range bb_range rfl (by decide)) (fun h1 k1 => args2 (he h1 k1) (fun h2 v k2 p2 => both p2 (he' h2 (k1.trans k2))) hst) (fun h1 vs k1 p1 => ?_) (by rw [hst, hst']) (by rw [hst']; rfl)
  obtain ⟨v, v', rfl, p⟩ := p1
  exact call_range2 p.1 p.2
theorem ev_range3 {a b c : Int} (R : Rd mg env h) (hk : env.kindOf (S "range") = some .globalImplicit) (he : ∀ h1, Keep h h1 → Tr prog w A h1 (eval e env) (IsI a)) (he' : ∀ h1, Keep h h1 → Tr prog w A h1 (eval e' env) (IsI b))
    (he'' : ∀ h1, Keep h h1 → Tr prog w A h1 (eval e'' env) (IsI c)) (hst : starEach [e, e', e''] env = [(false, eval e env), (false, eval e' env), (false, eval e'' env)]) (hst' : starEach [e', e''] env = [(false, eval e' env), (false, eval e'' env)])
    (hc : c ≠ 0) (hc2 : c.natAbs < 1073741824) :
    Tr prog w A h (eval (.Call (.Name (S "range") px) [e, e', e''] [] pos) env) fun h' u => RangeV h' u a b c := by
  refine call_t (tr_builtin R.G R.ge R.fn hk R.fr.range bb_range rfl (by decide)) (fun h1 k1 => args3 (he h1 k1) (fun h2 v k2 p2 => both p2 (he' h2 (k1.trans k2)))
    (fun h2 v v' k2 p2 => (he'' h2 (k1.trans k2)).mono (R := fun h3 v'' => IntV h3 v a ∧ IntV h3 v' b ∧ IntV h3 v'' c) fun h3 v'' k3 p3 => ⟨p2.1, p2.2, p3⟩) hst) (fun h1 vs k1 p1 => ?_) (by rw [hst, hst']) (by rw [hst']; rfl)
  obtain ⟨v, v', v'', rfl, p⟩ := p1
  exact call_range3 p.1 p.2.1 p.2.2 hc hc2
theorem ev_list_range {a b c : Int} (R : Rd mg env h) (hh : A.handled = none) (hk : env.kindOf (S "list") = some .globalImplicit) (he : ∀ h1, Keep h h1 → Tr prog w A h1 (eval e env) fun h' u => RangeV h' u a b c) (hst : starEach [e] env = [(false, eval e env)])
    (ha : 0 ≤ a) (ha' : a ≤ 1000) (hb : 0 ≤ b) (hb' : b ≤ 1000) (hc : 1 ≤ c) (hc' : c ≤ 1000) :
    Tr prog w A h (eval (.Call (.Name (S "list") px) [e] [] pos) env) fun h' u => NewL IntV h h' u (rng a b c) := by
  refine call_t (tr_builtin R.G R.ge R.fn hk R.fr.list bb_list rfl (by decide)) (fun h1 k1 => args1 (he h1 k1) hst) (fun h1 vs k1 p1 => ?_) hst rfl
  obtain ⟨v, rfl, p⟩ := p1
  have hl := rng_len_le a b c hc (by omega)
  have h0 : 0 ≤ Builtin.Range.rangeSize a b c := by
    unfold Builtin.Range.rangeSize
    rw [if_pos (by omega)]
    split
    · have h2 : 0 ≤ (b - a - 1) / c := Int.ediv_nonneg (by omega) (by omega)
      omega
    · omega
  refine (call_list_of_range hh p (small_le ha ha' hb hb' hc hc') (n := (Builtin.Range.rangeSize a b c).toNat) (by omega) (by unfold rng rangeInts at hl; simp at hl; omega)).mono fun h' u k q => q.from k1
theorem iters_rng {h0 : Heap} {tx : Str} {tp : Pos} {v : Value} {a b c : Int} (k0 : Keep h0 h) (hh : A.handled = none) (p : RangeV h v a b c) (ha : 0 ≤ a) (ha' : a ≤ 1000) (hb : 0 ≤ b) (hb' : b ≤ 1000) (hc : 1 ≤ c) (hc' : c ≤ 1000) :
    Iters prog w A (.Name tx tp) h0 h v (rng a b c) (fun x u _ => x ∈ rng a b c ∧ ∃ t, u = .int x t) := by
  have h0 : 0 ≤ Builtin.Range.rangeSize a b c := by
    unfold Builtin.Range.rangeSize
    rw [if_pos (by omega)]
    split
    · have h2 : 0 ≤ (b - a - 1) / c := Int.ediv_nonneg (by omega) (by omega)
      omega
    · omega
  exact (iters_range k0 hh p (small_le ha ha' hb hb' hc hc') (n := (Builtin.Range.rangeSize a b c).toNat) (by omega)).mem
/-- a local, a cell, by what it holds -/
theorem ev_loc {b : Heap} {m cm : Str → Option Value} {x : Str} {v : Value} {Pv : Heap → Value → Prop} (F : Fx b env m cm h) (hl : env.kindOf x = some .local) (hv : m x = some v) (hd : (x == ("__debug__" : Str)) = false) (hp : Pv h v) : Tr prog w A h (eval (.Name x px) env) Pv := by
  intro s Q E hse q; subst hse
  exact wpAny_Name (wpAny_loadName_local F.fn hl F.ns hv (q v _ s.toks (Keep.refl _) hp)) hd
theorem ev_cell {b : Heap} {m cm : Str → Option Value} {x : Str} {c : Addr} {v : Value} {Pv : Heap → Value → Prop} (F : Fx b env m cm h) (hl : env.kindOf x = some .cell) (hc : env.cells.lookup x = some c) (hv : cm x = some v) (hd : (x == ("__debug__" : Str)) = false) (hp : Pv h v) : Tr prog w A h (eval (.Name x px) env) Pv := by
  intro s Q E hse q; subst hse
  exact wpAny_Name (wpAny_loadName_cell F.fn hl hc (hv ▸ F.cell x c hc) (q v _ s.toks (Keep.refl _) hp)) hd
end
end Mine
end
section
open PySem PySem.W PyProof.Rows PySem.Spec
set_option Elab.async false
namespace Mine
theorem reads_ints {h : Heap} {vs : List Value} {ns : List Int} (x : All2 (IntV h) vs ns) : ReadsAll h vs (ns.map PyData.int) [] := readsAll_of_ints x.ints
theorem reads_L {h : Heap} {v : Value} {ns : List Int} (x : ListV IntV h v ns) : ∃ as, Reads h v (.list (ns.map PyData.int)) as := by
  obtain ⟨l, vs, rfl, hl, ha⟩ := x
  exact ⟨_, reads_of_ints hl.isList ha.ints⟩
theorem reads_LLs {h : Heap} {vs : List Value} {nss : List (List Int)} (x : All2 (ListV IntV h) vs nss) : ∃ as, ReadsAll h vs (nss.map fun ns => .list (ns.map PyData.int)) as := by
  induction x with
  | nil => exact ⟨_, .nil⟩
  | cons p _ ih => obtain ⟨as, ha⟩ := reads_L p; obtain ⟨bs, hb⟩ := ih; exact ⟨_, .cons ha hb⟩
theorem reads_LL {h : Heap} {v : Value} {nss : List (List Int)} (x : ListV (ListV IntV) h v nss) : ∃ as, Reads h v (.list (nss.map fun ns => .list (ns.map PyData.int))) as := by
  obtain ⟨l, vs, rfl, ⟨n, hl⟩, ha⟩ := x
  obtain ⟨as, hr⟩ := reads_LLs ha
  exact ⟨_, Reads.list hl rfl rfl (by simpa using hr)⟩
theorem lay_LL : ∀ nss : List (List Int), PyData.canLayAll0 (nss.map fun ns => .list (ns.map PyData.int)) = true
  | [] => by simp [PyData.canLayAll0]
  | ns :: r => by simp [PyData.canLayAll0, PyData.canLay0, canLayAll0_ints ns, lay_LL r]
theorem depth_LL : ∀ nss : List (List Int), PyData.depthAll (nss.map fun ns => .list (ns.map PyData.int)) ≤ 2
  | [] => by simp [PyData.depthAll]
  | ns :: r => by
    have h1 := W.depthAll_ints ns
    have h2 := depth_LL r
    simp only [List.map_cons, PyData.depthAll, PyData.depth]
    omega
theorem shaped_LL (nss : List (List Int)) : SeqAt.shaped (.list (nss.map fun ns => .list (ns.map PyData.int))) = true := by
  have h1 := depth_LL nss
  have h2 : PyData.depth (.list (nss.map fun ns => .list (ns.map PyData.int))) ≤ 64 := by simp only [PyData.depth]; omega
  show (PyData.canLay0 (.list (nss.map fun ns => .list (ns.map PyData.int))) && decide (PyData.depth (.list (nss.map fun ns => .list (ns.map PyData.int))) ≤ 64)) = true
  rw [Bool.and_eq_true]
  exact ⟨by simp only [PyData.canLay0]; exact lay_LL nss, decide_eq_true h2⟩
theorem eqv_LL : ∀ a b : List (List Int), PyData.eqvAll (a.map fun ns => .list (ns.map PyData.int)) (b.map fun ns => .list (ns.map PyData.int)) = decide (a = b)
  | [], [] => by simp [PyData.eqvAll]
  | [], _ :: _ => by simp [PyData.eqvAll]
  | _ :: _, [] => by simp [PyData.eqvAll]
  | a :: r, b :: t => by
    simp only [List.map_cons, PyData.eqvAll, PyData.eqv, ked_eqvAll, eqv_LL r t]
    by_cases h : a = b <;> by_cases h' : r = t <;> simp [h, h']

section
variable {prog : Program} {w : World} {A : Around} {env : Env} {h : Heap} {v v' : Value}
theorem eq_L {a b : List Int} (hu : A.units + 64 < cLine) (x : ListV IntV h v a) (y : ListV IntV h v' b) : Tr prog w A h (compareOp .Eq v v') (IsB (decide (a = b))) := by
  intro s Q E hs q; subst hs
  obtain ⟨l, vs, rfl, hl, ha⟩ := x
  obtain ⟨l', vs', rfl, hl', ha'⟩ := y
  exact eq_intsK hl.isList ha.ints hl'.isList ha'.ints hu (q _ _ s.toks (Keep.refl _) rfl)
theorem ne_L {a b : List Int} (hu : A.units + 64 < cLine) (x : ListV IntV h v a) (y : ListV IntV h v' b) : Tr prog w A h (compareOp .NotEq v v') (IsB (!decide (a = b))) := by
  intro s Q E hs q; subst hs
  obtain ⟨l, vs, rfl, hl, ha⟩ := x
  obtain ⟨l', vs', rfl, hl', ha'⟩ := y
  exact ne_intsK hl.isList ha.ints hl'.isList ha'.ints hu (q _ _ s.toks (Keep.refl _) rfl)
theorem eq_LL {a b : List (List Int)} (hu : A.units + 64 < cLine) (x : ListV (ListV IntV) h v a) (y : ListV (ListV IntV) h v' b) : Tr prog w A h (compareOp .Eq v v') (IsB (decide (a = b))) := by
  intro s Q E hs q; subst hs
  obtain ⟨as, ra⟩ := reads_LL x
  obtain ⟨bs, rb⟩ := reads_LL y
  refine eq_dataH ra rb (shaped_LL _) (shaped_LL _) hu ?_
  simp only [PyData.eqv, eqv_LL]
  exact q _ _ s.toks (Keep.refl _) rfl
theorem ne_LL {a b : List (List Int)} (hu : A.units + 64 < cLine) (x : ListV (ListV IntV) h v a) (y : ListV (ListV IntV) h v' b) : Tr prog w A h (compareOp .NotEq v v') (IsB (!decide (a = b))) := by
  intro s Q E hs q; subst hs
  obtain ⟨as, ra⟩ := reads_LL x
  obtain ⟨bs, rb⟩ := reads_LL y
  refine ne_dataH ra rb (shaped_LL _) (shaped_LL _) hu ?_
  simp only [PyData.eqv, eqv_LL]
  exact q _ _ s.toks (Keep.refl _) rfl
theorem any_ints (x : Int) : ∀ a : List Int, ((a.map PyData.int).any fun y => PyData.eqv y (.int x)) = decide (x ∈ a)
  | [] => by simp
  | b :: r => by
    simp only [List.map_cons, List.any_cons, any_ints x r, PyData.eqv]
    by_cases h : b = x
    · subst h; simp
    · have h2 : x ≠ b := fun e => h e.symm
      by_cases h' : x ∈ r <;> simp [h, h', h2]
theorem notin_L {a : List Int} {x : Int} (hu : A.units + 64 < cLine) (hx : IntV h v x) (y : ListV IntV h v' a) : Tr prog w A h (compareOp .NotIn v v') (IsB (!decide (x ∈ a))) := by
  intro s Q E hs q; subst hs
  obtain ⟨l, vs, rfl, ⟨n, hl⟩, ha⟩ := y
  obtain ⟨t, rfl⟩ := hx
  refine SeqAt.notIn_list_reads (reads_list_at hl rfl rfl (by simpa using reads_ints ha)) (Reads.int _ _) (canLayAll0_ints a) rfl ?_ ?_
  · have := Nat.min_le_right (PyData.depthAll (a.map PyData.int)) (PyData.int x).depth
    have h0 : (PyData.int x).depth = 0 := by simp [PyData.depth]
    omega
  · rw [any_ints]; exact q _ _ s.toks (Keep.refl _) rfl
end
end Mine
end
section
open PySem PySem.W PyProof.Rows
set_option Elab.async false
namespace Mine
section
variable {prog : Program} {w : World} {A : Around} {b : Heap} {env : Env} {m cm : Str → Option Value}

theorem assign_pair {x1 x2 : Str} {p1 p2 pos : Pos} {k : Nat} {T : Addr} {u v : Value} {s : Shared} {Q : Unit → Shared → Prop} {E : Value → Shared → Prop} (hh : A.handled = none) (F : Fx b env m cm s.heap) (hT : s.heap.IsTuple T #[u, v])
    (hl1 : env.kindOf x1 = some .local) (hl2 : env.kindOf x2 = some .local)
    (q : ∀ h' tk, Fx b env (fun y => if y = x2 then some v else if y = x1 then some u else m y) cm h' → (∀ a o, a ≠ env.locals → s.heap.get? a = some o → h'.get? a = some o) → Q () { s with heap := h', toks := tk }) :
    wpAny (model prog w) A (assign (.Tuple [.Name x1 p1, .Name x2 p2] k pos) env (.ref T)) Q E s := by
  refine wpAny_assign_Tuple hh hT rfl rfl fun h1 e1 => ?_
  have k1 : Keep s.heap h1 := fun a o e => e1 a o (Nat.ne_of_lt (Heap.lt_size e)) e
  show wpAny _ _ (do holding [v] (assign (.Name x1 p1) env u); (do holding [] (assign (.Name x2 p2) env v); pure ())) _ _ _
  refine wpAny_bind (wpAny_holding (wpAny_assign_Name (st_local (s := { s with heap := h1 }) (F.up k1) hl1 fun h2 t2 F2 hs2 _ => ?_)))
  refine wpAny_bind (wpAny_holding (wpAny_assign_Name (st_local (s := { s with heap := h2, toks := t2 }) F2 hl2 fun h3 t3 F3 hs3 _ => wpAny_pure ?_)))
  exact q h3 t3 F3 fun a o ha e => hs3.extBut a o ha (hs2.extBut a o ha (k1 a o e))

theorem tr_neg {e : Expr} {pos : Pos} {h : Heap} {a : Int} (he : Tr prog w A h (eval e env) (IsI a)) : Tr prog w A h (eval (.UnaryOp .USub e pos) env) (IsI (-a)) := by
  intro s Q E hse q; subst hse
  refine wpAny_UnaryOp (he.use fun v h1 t1 k1 ⟨t, e⟩ => ?_)
  subst e
  exact neg_int (q _ _ _ k1 ⟨_, rfl⟩)
end
end Mine
end
section
open PySem PySem.W PyProof.Rows
open PySem.AutoSeq1 (wpAny_loadPart')
open PySem.MeetsSeq PySem.MeetsSeq2 PySem.MeetsSeq3 PySem.SeqRoads2 PySem.SeqAt
set_option Elab.async false
namespace Mine
/-- two lists of texts of one length, by the first place where they part -/
def lexF (c : Str → Str → Bool) : List Str → List Str → Bool
  | a :: as, b :: bs => if a == b then lexF c as bs else c a b
  | _, _ => false
def ltS (a b : Str) : Bool := decide (a.cps.toList < b.cps.toList)
def gtS (a b : Str) : Bool := decide (b.cps.toList < a.cps.toList)

theorem lex_end {c : Str → Str → Bool} {xs ys : List Str} {i : Nat} (h : xs.length ≤ i) : lexF c (xs.drop i) (ys.drop i) = false := by
  rw [List.drop_of_length_le h]; unfold lexF; rfl
theorem lex_step {c : Str → Str → Bool} {xs ys : List Str} {i : Nat} {a b : Str} (ha : xs[i]? = some a) (hb : ys[i]? = some b) : lexF c (xs.drop i) (ys.drop i) = if a == b then lexF c (xs.drop (i + 1)) (ys.drop (i + 1)) else c a b := by
  obtain ⟨h1, rfl⟩ := List.getElem?_eq_some_iff.mp ha
  obtain ⟨h2, rfl⟩ := List.getElem?_eq_some_iff.mp hb
  rw [List.drop_eq_getElem_cons h1, List.drop_eq_getElem_cons h2, lexF]

theorem lt_loop (l b : Addr) (vs us : List Value) (xs ys : List Str) (ha : StrsAre vs xs) (hc : StrsAre us ys) (hsz : xs.length = ys.length) (n n2 : Nat) (k : Nat) :
    ∀ i : Nat, xs.length - i = k → Meets (Builtin.«list.__eq__.loop» ⟨[.ref l, .ref b, rawInt i, rawInt 0], []⟩)
      (fun _ R s => s.heap.get? l = some { cls := .type "list", dict := none, data := .seq vs.toArray n, slots := #[] } ∧ s.heap.get? b = some { cls := .type "list", dict := none, data := .seq us.toArray n2, slots := #[] } ∧
        R (.ok (.ret (.bool (lexF ltS (xs.drop i) (ys.drop i))))) s) := by
  have h1 := ha.length
  have h2 := hc.length
  induction k with
  | zero =>
    intro i hk prog w A R s h
    obtain ⟨hp, g, d, tk, os⟩ := s; obtain ⟨hl, hb, h⟩ := h
    wp_walk using wpAny_loadPart' hl, wpAny_loadPart' hb
    have hi1 : vs.toArray[((i : Nat) : Int).toNat]? = none := by simp; omega
    have hi2 : us.toArray[((i : Nat) : Int).toNat]? = none := by simp; omega
    rw [lex_end (by omega)] at h
    rw [hi1, hi2]
    wp_walk using wpAny_loadPart' hl, wpAny_loadPart' hb
    show R (.ok (.ret (.bool (decide (vs.toArray.size < us.toArray.size))))) _
    have : ¬ vs.toArray.size < us.toArray.size := by simp; omega
    rw [decide_eq_false this]; exact h
  | succ k ih =>
    intro i hk prog w A R s h
    obtain ⟨hp, g, d, tk, os⟩ := s; obtain ⟨hl, hb, h⟩ := h
    wp_walk using wpAny_loadPart' hl, wpAny_loadPart' hb
    have hlt : i < vs.length := by omega
    have hlt2 : i < us.length := by omega
    obtain ⟨a, hxa, t, e1⟩ : ∃ a, xs[i]? = some a ∧ ∃ t, vs[i]? = some (.str a t) := by
      have : All2 (fun v x => ∃ t, v = .str x t) vs xs := by
        clear ih hk hl hb h hlt hlt2 hsz h1 h2
        induction ha with
        | nil => exact .nil
        | cons y t _ ih => exact .cons ⟨t, rfl⟩ ih
      obtain ⟨a, q1, t, q2⟩ := this.get i vs[i] (by simp [hlt])
      exact ⟨a, q1, t, by simp [hlt, q2]⟩
    obtain ⟨a', hya, t', e2⟩ : ∃ a, ys[i]? = some a ∧ ∃ t, us[i]? = some (.str a t) := by
      have : All2 (fun v x => ∃ t, v = .str x t) us ys := by
        clear ih hk hl hb h hlt hlt2 hsz h1 h2 hxa e1
        induction hc with
        | nil => exact .nil
        | cons y t _ ih => exact .cons ⟨t, rfl⟩ ih
      obtain ⟨a, q1, t, q2⟩ := this.get i us[i] (by simp [hlt2])
      exact ⟨a, q1, t, by simp [hlt2, q2]⟩
    have hi1 : vs.toArray[((i : Nat) : Int).toNat]? = some (.str a t) := by simpa using e1
    have hi2 : us.toArray[((i : Nat) : Int).toNat]? = some (.str a' t') := by simpa using e2
    have hcst : ((i : Int) + 1) = ((i + 1 : Nat) : Int) := by push_cast; rfl
    rw [lex_step hxa hya] at h
    rw [hi1, hi2]
    refine wpAny_bind (EqAt.str_str a t a' t' prog w _ _ ?_)
    cases hb' : a == a' with
    | true =>
      rw [hb', if_pos rfl] at h
      wp_walk
      rw [hcst]
      exact ⟨plainId_quiet plain_eq_loop _, codeAny_builtin entry_eq_loop (by
        rw [Around.under_plainId plain_eq_loop _]
        exact ih (i + 1) (by omega) prog w A R _ ⟨hl, hb, h⟩)⟩
    | false =>
      rw [hb', if_neg (by simp)] at h
      wp_walk using wpAny_loadPart' hl, wpAny_loadPart' hb
      rw [hi1, hi2]
      refine wpAny_bind (m := richCompare .Lt (.str a t) (.str a' t')) (PyProof.Rows.lt_str ?_)
      wp_walk
      exact h
theorem gt_loop (l b : Addr) (vs us : List Value) (xs ys : List Str) (ha : StrsAre vs xs) (hc : StrsAre us ys) (hsz : xs.length = ys.length) (n n2 : Nat) (k : Nat) :
    ∀ i : Nat, xs.length - i = k → Meets (Builtin.«list.__eq__.loop» ⟨[.ref l, .ref b, rawInt i, rawInt 4], []⟩)
      (fun _ R s => s.heap.get? l = some { cls := .type "list", dict := none, data := .seq vs.toArray n, slots := #[] } ∧ s.heap.get? b = some { cls := .type "list", dict := none, data := .seq us.toArray n2, slots := #[] } ∧
        R (.ok (.ret (.bool (lexF gtS (xs.drop i) (ys.drop i))))) s) := by
  have h1 := ha.length
  have h2 := hc.length
  induction k with
  | zero =>
    intro i hk prog w A R s h
    obtain ⟨hp, g, d, tk, os⟩ := s; obtain ⟨hl, hb, h⟩ := h
    wp_walk using wpAny_loadPart' hl, wpAny_loadPart' hb
    have hi1 : vs.toArray[((i : Nat) : Int).toNat]? = none := by simp; omega
    have hi2 : us.toArray[((i : Nat) : Int).toNat]? = none := by simp; omega
    rw [lex_end (by omega)] at h
    rw [hi1, hi2]
    wp_walk using wpAny_loadPart' hl, wpAny_loadPart' hb
    show R (.ok (.ret (.bool (decide (us.toArray.size < vs.toArray.size))))) _
    have : ¬ us.toArray.size < vs.toArray.size := by simp; omega
    rw [decide_eq_false this]; exact h
  | succ k ih =>
    intro i hk prog w A R s h
    obtain ⟨hp, g, d, tk, os⟩ := s; obtain ⟨hl, hb, h⟩ := h
    wp_walk using wpAny_loadPart' hl, wpAny_loadPart' hb
    have hlt : i < vs.length := by omega
    have hlt2 : i < us.length := by omega
    obtain ⟨a, hxa, t, e1⟩ : ∃ a, xs[i]? = some a ∧ ∃ t, vs[i]? = some (.str a t) := by
      have : All2 (fun v x => ∃ t, v = .str x t) vs xs := by
        clear ih hk hl hb h hlt hlt2 hsz h1 h2
        induction ha with
        | nil => exact .nil
        | cons y t _ ih => exact .cons ⟨t, rfl⟩ ih
      obtain ⟨a, q1, t, q2⟩ := this.get i vs[i] (by simp [hlt])
      exact ⟨a, q1, t, by simp [hlt, q2]⟩
    obtain ⟨a', hya, t', e2⟩ : ∃ a, ys[i]? = some a ∧ ∃ t, us[i]? = some (.str a t) := by
      have : All2 (fun v x => ∃ t, v = .str x t) us ys := by
        clear ih hk hl hb h hlt hlt2 hsz h1 h2 hxa e1
        induction hc with
        | nil => exact .nil
        | cons y t _ ih => exact .cons ⟨t, rfl⟩ ih
      obtain ⟨a, q1, t, q2⟩ := this.get i us[i] (by simp [hlt2])
      exact ⟨a, q1, t, by simp [hlt2, q2]⟩
    have hi1 : vs.toArray[((i : Nat) : Int).toNat]? = some (.str a t) := by simpa using e1
    have hi2 : us.toArray[((i : Nat) : Int).toNat]? = some (.str a' t') := by simpa using e2
    have hcst : ((i : Int) + 1) = ((i + 1 : Nat) : Int) := by push_cast; rfl
    rw [lex_step hxa hya] at h
    rw [hi1, hi2]
    refine wpAny_bind (EqAt.str_str a t a' t' prog w _ _ ?_)
    cases hb' : a == a' with
    | true =>
      rw [hb', if_pos rfl] at h
      wp_walk
      rw [hcst]
      exact ⟨plainId_quiet plain_eq_loop _, codeAny_builtin entry_eq_loop (by
        rw [Around.under_plainId plain_eq_loop _]
        exact ih (i + 1) (by omega) prog w A R _ ⟨hl, hb, h⟩)⟩
    | false =>
      rw [hb', if_neg (by simp)] at h
      wp_walk using wpAny_loadPart' hl, wpAny_loadPart' hb
      rw [hi1, hi2]
      refine wpAny_bind (m := richCompare .Gt (.str a t) (.str a' t')) (PySem.P.gt_str ?_)
      wp_walk
      exact h

theorem list_lt (l b : Addr) (vs us : List Value) (xs ys : List Str) (ha : StrsAre vs xs) (hc : StrsAre us ys) (hsz : xs.length = ys.length) (n n2 : Nat) :
    Meets (Builtin.«list.__lt__» ⟨[.ref l, .ref b], []⟩)
      (fun _ R s => s.heap.get? l = some { cls := .type "list", dict := none, data := .seq vs.toArray n, slots := #[] } ∧ s.heap.get? b = some { cls := .type "list", dict := none, data := .seq us.toArray n2, slots := #[] } ∧
        R (.ok (.ret (.bool (lexF ltS xs ys)))) s) := by
  intro prog w A R s h
  obtain ⟨hp, g, d, tk, os⟩ := s; obtain ⟨hl, hb, h⟩ := h
  have f3 := AutoSeq1.sub_list_list
  wp_walk using wpAny_loadPart' hl, wpAny_loadPart' hb
  exact ⟨plainId_quiet plain_eq_loop _, codeAny_builtin entry_eq_loop (by
    rw [Around.under_plainId plain_eq_loop _]
    exact lt_loop l b vs us xs ys ha hc hsz n n2 _ 0 rfl prog w A R _ ⟨hl, hb, h⟩)⟩

theorem list_gt (l b : Addr) (vs us : List Value) (xs ys : List Str) (ha : StrsAre vs xs) (hc : StrsAre us ys) (hsz : xs.length = ys.length) (n n2 : Nat) :
    Meets (Builtin.«list.__gt__» ⟨[.ref l, .ref b], []⟩)
      (fun _ R s => s.heap.get? l = some { cls := .type "list", dict := none, data := .seq vs.toArray n, slots := #[] } ∧ s.heap.get? b = some { cls := .type "list", dict := none, data := .seq us.toArray n2, slots := #[] } ∧
        R (.ok (.ret (.bool (lexF gtS xs ys)))) s) := by
  intro prog w A R s h
  obtain ⟨hp, g, d, tk, os⟩ := s; obtain ⟨hl, hb, h⟩ := h
  have f3 := AutoSeq1.sub_list_list
  wp_walk using wpAny_loadPart' hl, wpAny_loadPart' hb
  exact ⟨plainId_quiet plain_eq_loop _, codeAny_builtin entry_eq_loop (by
    rw [Around.under_plainId plain_eq_loop _]
    exact gt_loop l b vs us xs ys ha hc hsz n n2 _ 0 rfl prog w A R _ ⟨hl, hb, h⟩)⟩

section
variable {prog : Program} {w : World} {A : Around} {h : Heap} {v v' : Value} {xs ys : List Str}
theorem cmpL_lt (hu : A.units + 64 < cLine) (h1 : ListV StrV h v xs) (h2 : ListV StrV h v' ys) (hsz : xs.length = ys.length) : Tr prog w A h (compareOp .Lt v v') (IsB (lexF ltS xs ys)) := by
  intro s Q E hs q; subst hs
  obtain ⟨l, vs, rfl, ⟨n, hl⟩, ha⟩ := h1
  obtain ⟨l2, us, rfl, ⟨n2, hl2⟩, hc⟩ := h2
  exact richCompare_meets_room (op := .Lt) ⟨_, hl, rfl⟩ ⟨_, hl2, rfl⟩ F.slot_list_lt F.entry_list_lt (F.args_list_lt_2 _ _) (list_lt l l2 vs us xs ys ha.strs hc.strs hsz n n2) ⟨hl, hl2, ⟨by simp, q _ _ s.toks (Keep.refl _) rfl⟩⟩ (by omega)
theorem cmpL_gt (hu : A.units + 64 < cLine) (h1 : ListV StrV h v xs) (h2 : ListV StrV h v' ys) (hsz : xs.length = ys.length) : Tr prog w A h (compareOp .Gt v v') (IsB (lexF gtS xs ys)) := by
  intro s Q E hs q; subst hs
  obtain ⟨l, vs, rfl, ⟨n, hl⟩, ha⟩ := h1
  obtain ⟨l2, us, rfl, ⟨n2, hl2⟩, hc⟩ := h2
  exact richCompare_meets_room (op := .Gt) ⟨_, hl, rfl⟩ ⟨_, hl2, rfl⟩ F.slot_list_gt F.entry_list_gt (F.args_list_gt_2 _ _) (list_gt l l2 vs us xs ys ha.strs hc.strs hsz n n2) ⟨hl, hl2, ⟨by simp, q _ _ s.toks (Keep.refl _) rfl⟩⟩ (by omega)
theorem op_sub_bool {a b : Bool} : Tr prog w A h (binaryOp .Sub (.bool a) (.bool b)) (IsI ((if a then 1 else 0) - (if b then 1 else 0))) := by
  intro s Q E hs q; subst hs
  refine sub_bool ?_
  have : b2i a - b2i b = (if a then 1 else 0) - (if b then 1 else 0) := by cases a <;> cases b <;> rfl
  rw [this]
  exact q _ _ _ (Keep.refl _) ⟨_, rfl⟩
end
end Mine
end
section
open PySem PySem.W PyProof.Rows PySem.W.KXs
set_option Elab.async false
namespace Mine
section
variable {prog : Program} {w : World} {A : Around} {env : Env} {h : Heap} {pos apos : Pos}

theorem meth0 {o : Expr} {name : Str} {T id : String} {Po R : Heap → Value → Prop} (pa : PlainAttrs T) (slot : Slot T name id) (hty : typeOf (.builtin id) = pure (.type "method_descriptor"))
    (ho : Tr prog w A h (eval o env) Po) (hT : ∀ (s : Shared) (ov : Value), Po s.heap ov → s.TypeIs ov T ∧ ∀ a, ov = .ref a → ∃ ob, s.heap.get? a = some ob ∧ ob.dict = none)
    (hc : ∀ h1 ov, Keep h h1 → Po h1 ov → Tr prog w A h1 (call (.builtin id) [ov]) R)
    (hbase : attributeBase o name env (eval o env) = eval o env) (hline : (apos.endLine == pos.line) = true) : Tr prog w A h (eval (.Call (.Attribute o name apos) [] [] pos) env) R := by
  intro s Q E hse q; subst hse
  refine wpAny_Call_method_lateS hbase rfl hline (ho.use fun ov h1 t1 k1 p1 => ?_)
  obtain ⟨a1, a2⟩ := hT { s with heap := h1, toks := t1 } ov p1
  refine ⟨T, id, pa, slot, hty, a1, a2, callWith_method0 (env := env) ?_⟩
  exact (hc h1 ov k1 p1).use (s := { s with heap := h1, toks := t1 }) fun v h2 t2 k2 p2 => q v h2 t2 (k1.trans k2) p2
theorem meth1 {o e : Expr} {name : Str} {T id : String} {Po : Heap → Value → Prop} {Pa : Value → Heap → Value → Prop} {R : Heap → Value → Prop} (pa : PlainAttrs T) (slot : Slot T name id) (hty : typeOf (.builtin id) = pure (.type "method_descriptor"))
    (ho : Tr prog w A h (eval o env) Po) (hT : ∀ (s : Shared) (ov : Value), Po s.heap ov → s.TypeIs ov T ∧ ∀ a, ov = .ref a → ∃ ob, s.heap.get? a = some ob ∧ ob.dict = none)
    (ha : ∀ h1 ov, Keep h h1 → Po h1 ov → Tr prog w A h1 (eval e env) (Pa ov))
    (hc : ∀ h1 ov v, Keep h h1 → Pa ov h1 v → Tr prog w A h1 (call (.builtin id) [ov, v]) R)
    (hbase : attributeBase o name env (eval o env) = eval o env) (hline : (apos.endLine == pos.line) = true) (hst : starEach [e] env = [(false, eval e env)]) : Tr prog w A h (eval (.Call (.Attribute o name apos) [e] [] pos) env) R := by
  intro s Q E hse q; subst hse
  refine wpAny_Call_method_lateS hbase (by rw [hst]; rfl) hline (ho.use fun ov h1 t1 k1 p1 => ?_)
  obtain ⟨a1, a2⟩ := hT { s with heap := h1, toks := t1 } ov p1
  refine ⟨T, id, pa, slot, hty, a1, a2, callWith_method1 (first := [ov]) ((args1 (ha h1 ov k1 p1) hst).use (s := { s with heap := h1, toks := t1 }) fun vs h2 t2 k2 p2 => ?_) hst rfl⟩
  obtain ⟨v, rfl, pv⟩ := p2
  exact (hc h2 ov v (k1.trans k2) pv).use (s := { s with heap := h2, toks := t2 }) fun v h3 t3 k3 p3 => q v h3 t3 ((k1.trans k2).trans k3) p3

theorem strT {x : Str} : ∀ (s : Shared) (ov : Value), IsS x s.heap ov → s.TypeIs ov "str" ∧ ∀ a, ov = .ref a → ∃ ob, s.heap.get? a = some ob ∧ ob.dict = none := by
  rintro s ov ⟨t, rfl⟩
  exact ⟨typeIs_str _ _ _, fun _ e => nomatch e⟩

theorem ev_lower {o : Expr} {x : Str} (hx : Still x) (hl : x.length ≤ 2 ^ 20) (ho : Tr prog w A h (eval o env) (IsS x)) (hbase : attributeBase o "lower" env (eval o env) = eval o env) (hline : (apos.endLine == pos.line) = true) :
    Tr prog w A h (eval (.Call (.Attribute o "lower" apos) [] [] pos) env) (IsS x) := by
  refine meth0 F.plainAttrs_str F.slot_str_lower F.type_str_lower ho strT (fun h1 ov k1 p1 => ?_) hbase hline
  obtain ⟨t, rfl⟩ := p1
  intro s Q E hse q; subst hse
  exact lower_K hx (by omega) fun t' k => q _ _ k (Keep.refl _) ⟨t', rfl⟩
theorem ev_starts {o e : Expr} {x y : Str} (ho : Tr prog w A h (eval o env) (IsS x)) (he : ∀ h1, Keep h h1 → Tr prog w A h1 (eval e env) (IsS y)) (hbase : attributeBase o "startswith" env (eval o env) = eval o env) (hline : (apos.endLine == pos.line) = true) (hst : starEach [e] env = [(false, eval e env)]) :
    Tr prog w A h (eval (.Call (.Attribute o "startswith" apos) [e] [] pos) env) (IsB (Txt.startswith x y)) := by
  refine meth1 F.plainAttrs_str F.slot_str_startswith F.type_str_startswith ho strT (fun h1 ov k1 p1 => (he h1 k1).mono (R := fun h2 v => StrV h2 ov x ∧ StrV h2 v y) fun h2 v _ p2 => ⟨p1, p2⟩) (fun h1 ov v k1 p1 => ?_) hbase hline hst
  obtain ⟨⟨t, rfl⟩, u, rfl⟩ := p1
  intro s Q E hse q; subst hse
  exact SC.startswith (q _ _ s.toks (Keep.refl _) rfl)
theorem ev_ends {o e : Expr} {x y : Str} (ho : Tr prog w A h (eval o env) (IsS x)) (he : ∀ h1, Keep h h1 → Tr prog w A h1 (eval e env) (IsS y)) (hbase : attributeBase o "endswith" env (eval o env) = eval o env) (hline : (apos.endLine == pos.line) = true) (hst : starEach [e] env = [(false, eval e env)]) :
    Tr prog w A h (eval (.Call (.Attribute o "endswith" apos) [e] [] pos) env) (IsB (Txt.endswith x y)) := by
  refine meth1 F.plainAttrs_str F.slot_str_endswith F.type_str_endswith ho strT (fun h1 ov k1 p1 => (he h1 k1).mono (R := fun h2 v => StrV h2 ov x ∧ StrV h2 v y) fun h2 v _ p2 => ⟨p1, p2⟩) (fun h1 ov v k1 p1 => ?_) hbase hline hst
  obtain ⟨⟨t, rfl⟩, u, rfl⟩ := p1
  intro s Q E hse q; subst hse
  exact SC.endswith (q _ _ s.toks (Keep.refl _) rfl)
theorem strs_values {vs : List Value} {xs : List Str} (x : All2 (StrV h) vs xs) : ∃ l : List (Str × Tok), vs = strValues l ∧ l.map (·.1) = xs := by
  induction x with
  | nil => exact ⟨[], rfl, rfl⟩
  | cons p _ ih => obtain ⟨t, rfl⟩ := p; obtain ⟨l, rfl, rfl⟩ := ih; exact ⟨(_, t) :: l, rfl, rfl⟩
theorem ev_join {o e : Expr} {x : Str} {ys : List Str} (hok : JoinOk x ys = true) (ho : Tr prog w A h (eval o env) (IsS x)) (he : ∀ h1, Keep h h1 → Tr prog w A h1 (eval e env) (IsL StrV ys)) (hbase : attributeBase o "join" env (eval o env) = eval o env) (hline : (apos.endLine == pos.line) = true) (hst : starEach [e] env = [(false, eval e env)]) :
    Tr prog w A h (eval (.Call (.Attribute o "join" apos) [e] [] pos) env) (IsS (Txt.join x ys)) := by
  refine meth1 F.plainAttrs_str F.slot_str_join F.type_str_join ho strT (fun h1 ov k1 p1 => (he h1 k1).mono (R := fun h2 v => StrV h2 ov x ∧ ListV StrV h2 v ys) fun h2 v _ p2 => ⟨p1, p2⟩) (fun h1 ov v k1 p1 => ?_) hbase hline hst
  obtain ⟨⟨t, rfl⟩, l, vs, rfl, hl, ha⟩ := p1
  intro s Q E hse q; subst hse
  obtain ⟨ll, rfl, e2⟩ := strs_values ha
  exact SC.join hl.isList e2 hok fun t' k => q _ _ k (Keep.refl _) ⟨t', rfl⟩
theorem ev_addS {l r : Expr} {x y : Str} (hsz : x.length + y.length ≤ sizeLine) (hl : Tr prog w A h (eval l env) (IsS x)) (hr : ∀ h1, Keep h h1 → Tr prog w A h1 (eval r env) (IsS y)) : Tr prog w A h (eval (.BinOp l .Add r pos) env) (IsS (x ++ y)) := by
  refine tr_BinOp (R := fun a h2 b => StrV h2 a x ∧ StrV h2 b y) hl (fun h1 a k p => (hr h1 k).mono fun h2 b _ q => ⟨p, q⟩) fun h2 a b _ p => ?_
  obtain ⟨⟨t, rfl⟩, u, rfl⟩ := p
  intro s Q E hse q; subst hse
  exact PyProof.Rows.add_str (fun t' k => q _ _ k (Keep.refl _) ⟨t', rfl⟩) hsz
theorem test_eqS {l r : Expr} {x y : Str} {whole : Sem Value} (hl : Tr prog w A h (eval l env) (IsS x)) (hr : ∀ h1, Keep h h1 → Tr prog w A h1 (eval r env) (IsS y)) (hm : behindInMarks .Eq r = false := by with_unfolding_all rfl) :
    Tr prog w A h (isTrue (.Compare l [.Eq] [r] pos) env whole) fun _ c => c = (x == y) := by
  refine tr_test (R := fun a h2 b => StrV h2 a x ∧ StrV h2 b y) hl (fun h1 a k p => (hr h1 k).mono fun h2 b _ q => ⟨p, q⟩) (fun h2 a b _ p => ?_) hm
  obtain ⟨⟨t, rfl⟩, u, rfl⟩ := p
  intro s Q E hse q; subst hse
  exact PyProof.Rows.eq_str (q _ _ s.toks (Keep.refl _) rfl)
end
end Mine
end
section
open PySem PySem.W PyProof.Rows
open PySem.AutoSeq1 (wpAny_loadPart')
set_option Elab.async false
set_option maxRecDepth 100000
namespace Mine
section
variable {prog : Program} {w : World} {A : Around} {E : Value → Shared → Prop} {s : Shared}

theorem next_tuple_item {it l : Addr} {i : Nat} {items} {x : Value} {Q : Value → Shared → Prop} (hit : s.heap.IsTupleIter it l i) (hl : s.heap.IsTuple l items) (hx : items[i]? = some x)
    (hQ : ∀ h', h'.IsTupleIter it l (i + 1) → Heap.SameBut it s.heap h' → Q x { s with heap := h' }) :
    wpAny (model prog w) A (Builtin.SmallTypes.nextOf (.ref it)) Q E s := by
  obtain ⟨o, ho, hc, hd⟩ := id hit
  obtain ⟨ol, hol, _, nl, hdl⟩ := hl
  unfold Builtin.SmallTypes.nextOf
  refine wpAny_bind (wpAny_callSpecial?_slot (name := Str.ofString "__next__") hit.typeIs F.slot_tuple_iterator_next
    (wpAny_call_entry F.slot_tuple_iterator_next hit.typeIs F.entry_tuple_iterator_next ?_ (F.args_tuple_iterator_next_1 _)))
  show wpAny _ _ (field (.ref it) 0 >>= _) _ _ s
  refine wpAny_bind (wpAny_field ho hd (x := .ref l) rfl ?_)
  show wpAny _ _ (if (Value.ref l == Value.none) = true then _ else _) _ _ s
  rw [if_neg (show ¬ ((Value.ref l == Value.none) = true) from Bool.false_ne_true)]
  show wpAny _ _ (field (.ref it) 1 >>= _) _ _ s
  refine wpAny_bind (wpAny_field ho hd (x := .int i 0) rfl ?_)
  show wpAny _ _ (seqItems? (.ref l) >>= _) _ _ s
  refine wpAny_bind (wpAny_seqItems hol hdl ?_)
  simp only [Int.toNat_natCast, hx]
  refine wpAny_bind (wpAny_setField ho hd (by simp) (wpAny_pure ⟨x, rfl, wpAny_pure (hQ _ ?_ (Heap.SameBut.update ..))⟩))
  exact ⟨_, Heap.get?_update_self _ ho (Obj.isFreed_of_fields (Obj.data_mapFields hd _)), (Obj.cls_mapFields ..).trans hc, by
    rw [Obj.data_mapFields hd]; simp [rawInt]⟩

theorem next_tuple_end {it l : Addr} {i : Nat} {items} {Q : Value → Shared → Prop} (hh : A.handled = none)
    (hit : s.heap.IsTupleIter it l i) (hl : s.heap.IsTuple l items) (hx : items[i]? = none)
    (hE : ∀ h' e, Heap.ExtBut it s.heap h' → (∃ o, h'.get? e = some o ∧ o.cls = .type "StopIteration") → E (.ref e) { s with heap := h' }) :
    wpAny (model prog w) A (Builtin.SmallTypes.nextOf (.ref it)) Q E s := by
  obtain ⟨o, ho, hc, hd⟩ := id hit
  obtain ⟨ol, hol, _, nl, hdl⟩ := hl
  unfold Builtin.SmallTypes.nextOf
  refine wpAny_bind (wpAny_callSpecial?_slot (name := Str.ofString "__next__") hit.typeIs F.slot_tuple_iterator_next
    (wpAny_call_entry F.slot_tuple_iterator_next hit.typeIs F.entry_tuple_iterator_next ?_ (F.args_tuple_iterator_next_1 _)))
  show wpAny _ _ (field (.ref it) 0 >>= _) _ _ s
  refine wpAny_bind (wpAny_field ho hd (x := .ref l) rfl ?_)
  show wpAny _ _ (if (Value.ref l == Value.none) = true then _ else _) _ _ s
  rw [if_neg (show ¬ ((Value.ref l == Value.none) = true) from Bool.false_ne_true)]
  show wpAny _ _ (field (.ref it) 1 >>= _) _ _ s
  refine wpAny_bind (wpAny_field ho hd (x := .int i 0) rfl ?_)
  show wpAny _ _ (seqItems? (.ref l) >>= _) _ _ s
  refine wpAny_bind (wpAny_seqItems hol hdl ?_)
  simp only [Int.toNat_natCast, hx]
  refine wpAny_bind (wpAny_rule (wpAny_bind (wpAny_setField ho hd (by simp) ?_)))
  show wpAny _ _ (newExc (.type "StopIteration") [] >>= _) _ _ _
  refine wpAny_bind ?_
  simp only [newExc, newTuple]
  refine wpAny_bind (wpAny_newObj_type ?_ (by size_fits))
  refine wpAny_bind (m := firstArgMember _ _) (wpAny_of_eq (a := Value.none) (by first | rfl | (simp only [firstArgMember]; rfl)) ?_)
  refine wpAny_newObj_type ?_ (by size_fits)
  simp only [raiseNew]
  refine wpAny_bind (wpAny_handled ?_)
  first | rw [show A.in1.handled = none from hh] | rw [hh]
  refine wpAny_bind (wpAny_pure (wpAny_throw ?_))
  exact hE _ _ (((Heap.SameBut.update ..).extBut.push _).push _) ⟨_, Heap.get?_push_size _ rfl, rfl⟩

theorem IsTuple_at {h h' : Heap} {a : Addr} {items : Array Value} (x : h.IsTuple a items) (k : ∀ o, h.get? a = some o → h'.get? a = some o) : h'.IsTuple a items := let ⟨o, ho, r⟩ := x; ⟨o, k o ho, r⟩
theorem IsTupleIter_at {h h' : Heap} {a t : Addr} {i : Nat} (x : h.IsTupleIter a t i) (k : ∀ o, h.get? a = some o → h'.get? a = some o) : h'.IsTupleIter a t i := let ⟨o, ho, r⟩ := x; ⟨o, k o ho, r⟩

theorem draws_tuple (hh : A.handled = none) (it l : Addr) (hne : l ≠ it) (items : Array Value) :
    Draws prog w A it [it, l] items.size (fun i v => items[i]? = some v) (fun i h => h.IsTupleIter it l i ∧ h.IsTuple l items) where
  live := fun _ _ st => let ⟨o, ho, _⟩ := st.1; ⟨o, ho⟩
  frame := fun _ _ _ st hk => ⟨IsTupleIter_at st.1 fun o e => hk it (by simp) o e, IsTuple_at st.2 fun o e => hk l (by simp) o e⟩
  item := fun i s Q E hi st hQ => by
    refine next_tuple_item st.1 st.2 (x := items[i]) (by simp [hi]) fun h' hit' hs' => ?_
    exact hQ _ h' s.toks (by simp [hi]) ⟨hit', st.2.extBut hs'.extBut hne⟩ hs'
  done := fun s Q E st hE => next_tuple_end hh st.1 st.2 (by simp) hE

theorem meets_enum_tuple (l : Addr) (items : Array Value) (n : Nat) (dct : Option Addr) (sl : Array (Option Value)) :
    Meets (Builtin.«enumerate.__new__» ⟨[.type "enumerate", .ref l], []⟩) (fun _ R s => s.heap.get? l = some { cls := .type "tuple", dict := dct, data := .seq items n, slots := sl } ∧
      R (.ok (.ret (.ref (s.heap.push { cls := .type "tuple_iterator", data := .fields #[.ref l, .int 0 0] }).objs.size)))
        { s with heap := (s.heap.push { cls := .type "tuple_iterator", data := .fields #[.ref l, .int 0 0] }).push { cls := .type "enumerate", data := .fields #[.none, .bool false, .ref s.heap.objs.size, rawInt 0, .none, .none] } }) :=
  .of_wp fun prog w A R s h => by
    obtain ⟨hp, g, d, tk, os⟩ := s; obtain ⟨hl, h⟩ := h
    have hsub := sub_enumerate
    have hL : Heap.IsTuple (Shared.heap ⟨hp, g, d, tk, os⟩) l items := ⟨_, hl, rfl, n, rfl⟩
    wp_walk using wpAny_loadPart' hl
    refine wpAny_stack_any fun st => wpAny_pure ?_
    split
    · rename_i c _ _ _ _ _
      cases (c == Value.type "enumerate")
      · wp_walk using wpAny_loadPart' hl, wpAny_pyIter_tuple hL
        exact ⟨_, rfl, h⟩
      · wp_walk using wpAny_loadPart' hl, wpAny_pyIter_tuple hL
        exact ⟨_, rfl, h⟩
    · wp_walk using wpAny_loadPart' hl, wpAny_pyIter_tuple hL
      exact ⟨_, rfl, h⟩

theorem call_enum_tuple {l : Addr} {items : Array Value} {Q : Value → Shared → Prop} (hL : s.heap.IsTuple l items)
    (h : ∀ h', IsEnum h' (s.heap.objs.size + 1) s.heap.objs.size 0 .none → h'.IsTupleIter s.heap.objs.size l 0 → Keep s.heap h' → Q (.ref (s.heap.objs.size + 1)) { s with heap := h' }) :
    wpAny (model prog w) A (call (.type "enumerate") [.ref l]) Q E s := by
  obtain ⟨⟨c, dct, dt, sl⟩, hl, hc, n, hd⟩ := hL
  replace hc : c = .type "tuple" := hc
  replace hd : dt = .seq items n := hd
  subst hc hd
  refine callType_new F.called_enumerate (by decide) (F.typeCall_enumerate_1 _) (F.newCall_enumerate_1 _) (fun obj => F.args_object_init_2 obj _) F.entry_enumerate_new
    (meets_enum_tuple l items n dct sl) ⟨hl, ?_⟩
  have hz : (s.heap.push { cls := .type "tuple_iterator", data := .fields #[.ref l, .int 0 0] }).objs.size = s.heap.objs.size + 1 := Heap.size_push ..
  show _ ∧ _
  rw [hz]
  have he : IsEnum ((s.heap.push { cls := .type "tuple_iterator", data := .fields #[.ref l, .int 0 0] }).push
      { cls := .type "enumerate", data := .fields #[.none, .bool false, .ref s.heap.objs.size, rawInt 0, .none, .none] }) (s.heap.objs.size + 1) s.heap.objs.size 0 .none := by
    have := Heap.get?_push_size (s.heap.push { cls := .type "tuple_iterator", data := .fields #[.ref l, .int 0 0] })
      (o := { cls := .type "enumerate", data := .fields #[.none, .bool false, .ref s.heap.objs.size, rawInt 0, .none, .none] }) rfl
    rw [hz] at this; exact this
  refine ⟨⟨_, he, rfl⟩, h _ he ⟨_, Heap.get?_push_of_some _ (Heap.get?_push_size _ rfl), rfl, rfl⟩ fun b o x => Heap.get?_push_of_some _ (Heap.get?_push_of_some _ x)⟩

/-- a tuple's items, with a target of two names -/
theorem walks_tuple_pairs {elts : List Expr} {k : Nat} {pos : Pos} (hh : A.handled = none) (I ax : Addr) (hne : ax ≠ I) (items : Array Value) :
    WalksX prog w A (.Tuple elts k pos) I [I, ax] [I] items.size (fun i v _ => items[i]? = some v) (fun i h => h.IsTupleIter I ax i ∧ h.IsTuple ax items) := by
  have W := Walks.tuple (prog := prog) (w := w) hh I ax hne items
  refine ⟨by simp, fun i h h' st hk => ⟨IsTupleIter_at st.1 fun o e => hk I (by simp) o e, IsTuple_at st.2 fun o e => hk ax (by simp) o e⟩, fun i s Q E hi st hQ => ?_, fun s Q E st hQ => ?_, fun i s Q E st hQ => ?_⟩
  · refine wpAny_pyNext_tuple_item st.1 st.2 (x := items[i]) (by simp [hi]) fun h' hit' hs' => ?_
    unfold letOwnedTupleGo
    cases hv : items[i] with
    | ref a =>
      obtain ⟨o, ho, hc, hd⟩ := hit'
      refine wpAny_bind (wpAny_load ho ?_)
      rw [hc, hd]
      refine wpAny_of_eq (a := ()) (by rfl) ?_
      rw [← hv]
      exact hQ _ h' s.toks (by simp [hi]) ⟨⟨o, ho, hc, hd⟩, st.2.extBut hs'.extBut hne⟩ fun b o hb e => hs'.extBut b o (fun h => hb (by simp [h])) e
    | _ =>
      refine wpAny_pure ?_
      rw [← hv]
      exact hQ _ h' s.toks (by simp [hi]) ⟨hit', st.2.extBut hs'.extBut hne⟩ fun b o hb e => hs'.extBut b o (fun h => hb (by simp [h])) e
  · exact wpAny_pyNext_tuple_end hh st.1 st.2 (by simp) fun h' he' => hQ h' s.toks fun b o hb e => he' b o (fun h => hb (by simp [h])) e
  · exact W.self i s Q E (by first | exact st | exact ⟨st.1, st.2⟩) hQ
end
end Mine
end
section
open PySem PySem.W PyProof.Rows
set_option Elab.async false
set_option maxRecDepth 100000
namespace Mine
section
variable {prog : Program} {w : World} {A : Around} {env : Env} {b : Heap} {m cm : Str → Option Value} {s : Shared} {Q : Flow → Shared → Prop} {E : Value → Shared → Prop}
theorem ex_append {o e : Expr} {apos cpos pos : Pos} {rest : List Stmt} {p : Addr} {items : Array Value} {Pe : Heap → Value → Prop} (F : Fx b env m cm s.heap) (ho : Tr prog w A s.heap (eval o env) fun _ v => v = .ref p) (hp : s.heap.PlainList p items)
    (he : ∀ h1, Keep s.heap h1 → Tr prog w A h1 (eval e env) Pe) (hpb : b.get? p = none) (hsz : items.size ≤ sizeLine)
    (hbase : attributeBase o "append" env (eval o env) = eval o env) (hline : (apos.endLine == cpos.line) = true) (hst : starEach [e] env = [(false, eval e env)]) (hi : interactive env = false) (hsw : swapsWith (.Call (.Attribute o "append" apos) [e] [] cpos) none pos.line env = pure false)
    (q : ∀ h1 v h' tk, Keep s.heap h1 → Pe h1 v → Fx b env m cm h' → h'.PlainList p (items.push v) → Heap.SameBut p h1 h' → wpAny (model prog w) A (execs rest env) Q E { s with heap := h', toks := tk }) :
    wpAny (model prog w) A (execs (.Expr (.Call (.Attribute o "append" apos) [e] [] cpos) pos :: rest) env) Q E s := by
  refine wpAny_execs_cons (wpAny_Expr_any (wpAny_Call_method_lateS hbase (by rw [hst]; rfl) hline (ho.use fun ov h1 t1 k1 p1 => ?_)) hi hsw)
  subst p1
  have hp1 : h1.PlainList p items := by obtain ⟨n, hn⟩ := hp; exact ⟨n, k1 _ _ hn⟩
  have hp1' := hp1
  obtain ⟨n, hn⟩ := hp1'
  refine ⟨"list", "list.append", PySem.F.plainAttrs_list, PySem.F.slot_list_append, PySem.F.type_list_append, ⟨_, hn, rfl⟩, (fun a ea => by cases ea; exact ⟨_, hn, rfl⟩), callWith_method1 (first := [.ref p]) ((args1 (he h1 k1) hst).use (s := { s with heap := h1, toks := t1 }) fun vs h2 t2 k2 p2 => ?_) hst rfl⟩
  obtain ⟨v, rfl, pv⟩ := p2
  have hp2 : h2.PlainList p items := ⟨n, k2 _ _ hn⟩
  have F2 := (F.up k1).up k2
  refine wpAny_list_append_plain (s := { s with heap := h2, toks := t2 }) (hsz := hsz) hp2 fun h3 hl3 hs3 => ?_
  refine q h2 v h3 t2 (k1.trans k2) pv ⟨F2.fn, F2.ns.sameBut hs3 ?_, fun a o ea => hs3.extBut a o (fun x => by rw [x, hpb] at ea; cases ea) (F2.keep a o ea), F2.fresh, fun nm c ec => (F2.cell nm c ec).sameBut hs3 ?_, F2.apart⟩ hl3 hs3
  · intro x
    obtain ⟨o', es, ep, ho', hd', _⟩ := F2.ns
    obtain ⟨n', hn'⟩ := hp2
    rw [x, hn'] at ho'; cases ho'; cases hd'
  · rintro rfl
    obtain ⟨o', ho', hd'⟩ := F2.cell nm _ ec
    obtain ⟨n', hn'⟩ := hp2
    rw [hn'] at ho'; cases ho'; cases hd'
end
end Mine
end
section
open PySem PySem.W PyProof.Rows
set_option Elab.async false
set_option maxRecDepth 100000
namespace Mine
section
variable {prog : Program} {w : World} {A : Around} {env : Env} {h : Heap} {pos px : Pos} {mg : Str → Option Value} {α β : Type} {P : V α} {P' : V β}

/-- a list as the caller hands it -/
def ScrV (h : Heap) (v : Value) (xs : List Int) : Prop := ∃ l vs, v = .ref l ∧ h.IsList l vs.toArray ∧ IntsAre vs xs
theorem ScrV.up {h h' : Heap} {v : Value} {xs : List Int} (x : ScrV h v xs) (k : Keep h h') : ScrV h' v xs := by
  obtain ⟨l, vs, e, hl, hi⟩ := x
  exact ⟨l, vs, e, hl.at fun o q => k _ _ q, hi⟩
theorem slice_script {value : Expr} {hi : Expr} {p : Pos} {xs : List Int} {k : Int} (hv : Tr prog w A h (eval value env) fun h' v => ScrV h' v xs) (hb : ∀ h1, Keep h h1 → Tr prog w A h1 (eval hi env) (IsI k)) (hk : 0 ≤ k) (hsz : xs.length ≤ sizeLine) :
    Tr prog w A h (eval (.Subscript value (.Slice none (some hi) none p) pos) env) fun h' v => NewL IntV h h' v (xs.take k.toNat) := by
  refine tr_Sub (R := fun o h2 i => ScrV h2 o xs ∧ ∃ sl u t, i = .ref sl ∧ h2.IsSliceOf sl .none (.int k t) u ∧ u = .none) hv (fun h1 o k1 p1 => ?_) (fun h2 o i k2 p2 => ?_) fun o i => ⟨_, rfl⟩
  · intro s Q E hse q; subst hse
    refine wpAny_Slice (wpAny_pure (show wpAny _ _ (eval hi env) _ _ _ from (hb s.heap k1).use fun v h2 t2 k2 ⟨t, e⟩ => ?_))
    subst e
    refine wpAny_pure (q _ _ _ (k2.trans (Keep.push _ _)) ⟨p1.up (k2.trans (Keep.push _ _)), _, _, t, rfl, ⟨_, new_get _ _ rfl, rfl, rfl⟩, rfl⟩)
  · obtain ⟨⟨l, vs, rfl, hl, ha⟩, sl, u, t, rfl, hsl, rfl⟩ := p2
    refine ⟨⟨l, _, rfl, hl⟩, ?_⟩
    intro s Q E hse q; subst hse
    refine wpAny_getItem_list_slice hl hsl .none (.int k t) .none (by simp) ?_ (by rw [List.size_toArray, ha.length]; exact hsz)
    have e : k = ((k.toNat : Nat) : Int) := by omega
    rw [e, slicePick_upto']
    refine q _ _ _ (Keep.push _ _) ?_
    have := (newL_push lives_int ((All2.of_ints (h := s.heap) ha).take k.toNat)).from k2
    simpa using this

def PairS (h : Heap) (P : V α) (P' : V β) (x : α × β) (v : Value) (h' : Heap) : Prop := ∃ T u u', v = .ref T ∧ h'.IsTuple T #[u, u'] ∧ P h u x.1 ∧ P' h u' x.2

theorem zip_at {xs : List α} {ys : List β} {i : Nat} {a : α} {b : β} (ha : xs[i]? = some a) (hb : ys[i]? = some b) : (xs.zip ys)[i]? = some (a, b) := by
  rw [List.getElem?_zip_eq_some]; exact ⟨ha, hb⟩

theorem ev_zip {e e' : Expr} {elts : List Expr} {kt : Nat} {tpos : Pos} {v v' : Value} {xs : List α} {ys : List β} (R : Rd mg env h) (hh : A.handled = none) (hk : env.kindOf (S "zip") = some .globalImplicit) (he : ∀ h1, Keep h h1 → Tr prog w A h1 (eval e env) fun _ u => u = v) (he' : ∀ h1, Keep h h1 → Tr prog w A h1 (eval e' env) fun _ u => u = v')
    (hst : starEach [e, e'] env = [(false, eval e env), (false, eval e' env)]) (hst' : starEach [e'] env = [(false, eval e' env)]) (hv : ListV P h v xs) (hv' : ListV P' h v' ys) :
    Tr prog w A h (eval (.Call (.Name (S "zip") px) [e, e'] [] pos) env) fun h1 z => Iters prog w A (.Tuple elts kt tpos) h h1 z (xs.zip ys) (PairS h P P') := by
  obtain ⟨l1, us, rfl, ⟨n1, pl1⟩, a1⟩ := hv
  obtain ⟨l2, ws, rfl, ⟨n2, pl2⟩, a2⟩ := hv'
  refine Tr.mono (P := fun h2 z => Keep h h2 ∧ ∃ z' TI TO i1 i2, z = .ref z' ∧ ZipApart z' TI TO i1 i2 l1 l2 ∧ h.get? z' = none ∧ h.get? TO = none ∧ h.get? i1 = none ∧ h.get? i2 = none ∧
        (IsZip h2 z' TI TO .none ∧ IsPair h2 TI (.ref i1) (.ref i2) ∧ (∃ a b, IsPair h2 TO a b) ∧ h2.IsListIter i1 l1 0 ∧ h2.IsListIter i2 l2 0 ∧ h2.IsList l1 us.toArray ∧ h2.IsList l2 ws.toArray))
    (call_t (P1 := fun _ vs => vs = [.ref l1, .ref l2]) (tr_builtin R.G R.ge R.fn hk R.fr.zip bb_zip rfl (by decide)) (fun h2 k2 => Tr.mono (args2 (P1 := fun _ u => u = .ref l1) (P2 := fun a _ u => a = .ref l1 ∧ u = .ref l2) (he h2 k2)
          (fun h3 u k3 e => Tr.mono (he' h3 (k2.trans k3)) fun _ _ _ e' => ⟨e, e'⟩) hst) fun h' vs _ p => ?_) (fun h2 vs k2 p2 => ?_) (by rw [hst, hst']) (by rw [hst']; rfl)) fun h1 z k1 p => ?_
  · obtain ⟨a, b', rfl, rfl, rfl⟩ := p; rfl
  · subst p2
    intro s' Q E hse q; subst hse
    have p1 : s'.heap.IsList l1 us.toArray := (show s'.heap.PlainList l1 us.toArray from ⟨n1, k2 _ _ pl1⟩).isList
    have p2 : s'.heap.IsList l2 ws.toArray := (show s'.heap.PlainList l2 ws.toArray from ⟨n2, k2 _ _ pl2⟩).isList
    have b1 : l1 < s'.heap.objs.size := by obtain ⟨_, e, _⟩ := p1; exact Heap.lt_size e
    have b2 : l2 < s'.heap.objs.size := by obtain ⟨_, e, _⟩ := p2; exact Heap.lt_size e
    have nn : ∀ a, s'.heap.objs.size ≤ a → h.get? a = none := fun a ha => none_of_keep k2 (get_none_of_le ha)
    refine call_zip_2 p1 p2 fun h' hz hTI hTO hi1 hi2 _ hk => q _ h' s'.toks hk ⟨k2.trans hk, _, _, _, _, _, rfl, zipApart_new b1 b2, nn _ (Nat.le_add_right _ _), nn _ (Nat.le_add_right _ _), nn _ (Nat.le_refl _), nn _ (Nat.le_add_right _ _),
      hz, hTI, ⟨_, _, hTO⟩, hi1, hi2, p1.at fun o e => hk _ o e, p2.at fun o e => hk _ o e⟩
  · obtain ⟨_, z', TI, TO, i1, i2, rfl, D, nz, nTO, ni1, ni2, st0⟩ := p
    intro s Q E hse q; subst hse
    have W := WalksT.zip2 (prog := prog) (w := w) hh z' TI TO i1 i2 l1 l2 D us.toArray ws.toArray
    refine W.self 0 _ _ _ st0 ?_
    have en : (xs.zip ys).length = min us.toArray.size ws.toArray.size := by rw [List.length_zip]; simp [a1.length, a2.length]
    refine q z' s.heap s.toks [z', TI, TO, i1, i2, l1, l2] [z', TO, i1, i2] _ _ (Keep.refl _) (by rw [en]; exact WalksT.x W) st0 (fun a ha => ?_) (fun a ha => ?_) (fun i u h' hp => ?_) (fun k h' hst a ha => ?_)
    · obtain ⟨s1, s2, ⟨_, _, s3⟩, ⟨_, s4, _⟩, ⟨_, s5, _⟩, ⟨_, s6, _⟩, ⟨_, s7, _⟩⟩ := st0
      simp only [List.mem_cons, List.not_mem_nil, or_false] at ha
      rcases ha with rfl | rfl | rfl | rfl | rfl | rfl | rfl
      · exact Heap.lt_size s1
      · exact Heap.lt_size s2
      · exact Heap.lt_size s3
      · exact Heap.lt_size s4
      · exact Heap.lt_size s5
      · exact Heap.lt_size s6
      · exact Heap.lt_size s7
    · simp only [List.mem_cons, List.not_mem_nil, or_false] at ha
      rcases ha with rfl | rfl | rfl | rfl <;> assumption
    · obtain ⟨T, vals, rfl, hT, x, y, hx, hy, rfl⟩ := hp
      obtain ⟨a, hxa, pa⟩ := a1.get i x (by simpa using hx)
      obtain ⟨b, hyb, pb⟩ := a2.get i y (by simpa using hy)
      exact ⟨(a, b), zip_at hxa hyb, T, x, y, rfl, hT, pa, pb⟩
    · obtain ⟨s1, s2, ⟨_, _, s3⟩, ⟨_, s4, _⟩, ⟨_, s5, _⟩, _⟩ := hst
      simp only [List.mem_cons, List.not_mem_nil, or_false] at ha
      intro e0
      rcases ha with rfl | rfl | rfl | rfl
      · unfold IsZip at s1; rw [e0] at s1; cases s1
      · unfold IsPair at s3; rw [e0] at s3; cases s3
      · rw [e0] at s4; cases s4
      · rw [e0] at s5; cases s5

theorem body_pair_if {b : Heap} {scope : Scope} {C : Addr} {cells : List (Str × Addr)} {cm₀ : Str → Option Value} {x1 x2 : Str} {p1 p2 tp : Pos} {kt : Nat} {γ : Type} {T : V γ} {elt t : Expr} {p : α × β → Bool} {f : α × β → γ} (hh : A.handled = none)
    (hx1 : (compE scope env C cells).kindOf x1 = some .local) (hx2 : (compE scope env C cells).kindOf x2 = some .local) (hne : x1 ≠ x2)
    (ht : ∀ (x : α × β) (u u' : Value) (h' : Heap) (m cm : Str → Option Value), P h u x.1 → P' h u' x.2 → Fx b (compE scope env C cells) m cm h' → m x1 = some u → m x2 = some u' → Tr prog w A h' (isTrue t (compE scope env C cells) (eval t (compE scope env C cells))) (fun _ ok => ok = p x))
    (he : ∀ (x : α × β) (u u' : Value) (h' : Heap) (m cm : Str → Option Value), P h u x.1 → P' h u' x.2 → Fx b (compE scope env C cells) m cm h' → m x1 = some u → m x2 = some u' → Tr prog w A h' (eval elt (compE scope env C cells)) (fun h'' y => Off h' b h'' fun h3 => T h3 y (f x))) :
    CompBody prog w A b (compE scope env C cells) (.Tuple [.Name x1 p1, .Name x2 p2] kt tp) [t] elt (ownOf C cells) (ClOf scope cm₀) (PairS h P P') (fun x m _ => ∃ u u', m x1 = some u ∧ m x2 = some u' ∧ P h u x.1 ∧ P' h u' x.2) p f T where
  bindT := fun x v s m cm Q E hS F hc q => by
    obtain ⟨T, u, u', rfl, hT, pu, pu'⟩ := hS
    refine assign_pair hh F hT hx1 hx2 fun h' tk F' k' => q h' tk _ _ F' hc ⟨u, u', ?_, if_pos rfl, pu, pu'⟩ fun a o na e => k' a o (fun x => na (.inl x)) e
    rw [if_neg hne, if_pos rfl]
  tests := fun x h' m cm F hc ⟨u, u', m1, m2, pu, pu'⟩ => tests_one (ht x u u' h' m cm pu pu' F m1 m2)
  elt := fun x h' m cm _ F hc ⟨u, u', m1, m2, pu, pu'⟩ => he x u u' h' m cm pu pu' F m1 m2
end
end Mine
end
section
open PySem PySem.W PyProof.Rows
set_option Elab.async false
set_option maxRecDepth 100000
namespace Mine
theorem plainAttrs_pattern : PlainAttrs "re.Pattern" :=
  ⟨⟨"object.__getattribute__", by rw [typeLookup_type, builtinLookup_eq_fast]; kernel_rfl, by decide +kernel⟩, by rw [typeLookup_type, builtinLookup_eq_fast]; kernel_rfl⟩
theorem slot_search : Slot "re.Pattern" "search" "re.Pattern.search" :=
  .of (owner := "re.Pattern") (n := "search") (by rw [typeLookup_type, builtinLookup_eq_fast]; kernel_rfl) (by decide +kernel) (by decide +kernel) (by decide +kernel)
    (by first | exact .inl (by decide +kernel) | exact .inr (by decide +kernel)) (by rw [isSubtype_type]; kernel_rfl)
theorem type_search : typeOf (.builtin "re.Pattern.search") = pure (.type "method_descriptor") := by show builtinType _ = _; rw [builtinType_eq_fast]; kernel_rfl
theorem entry_search : entryFor table "re.Pattern.search" = some Builtin.«re.Pattern.search» := entryFor_of_tree (by kernel_rfl)
theorem args_search (a b : Value) : argsOk "re.Pattern.search" ⟨[a, b], []⟩ := by
  unfold argsOk; kernel_rfl
end Mine
end
section
open PySem PySem.W PyProof.Rows
set_option Elab.async false
set_option maxRecDepth 100000
namespace Mine
open PySem.Sre PySem.Sre.M
/-- the words of the pattern -/
def ipCode : Array Nat := #[14, 8, 1, 2, 4294967295, 1, 1, 46, 0, 16, 46, 24, 9, 1, 4294967295, 13, 4, 8, 0, 0, 1, 6, 5, 1]
def at0 (X : Array Nat) (s : Nat) (first : Bool) (ma : Bool) (seen : Sre.Seen) : M :=
  { code := ipCode, text := X, lim := X.size, start := s, lastStart := X.size, wholeText := false, mustAdvance := ma, pc := 9, pos := s, handed := s, outermost := first, marks := #[], lastmark := -1, lastindex := -1,
    loops := #[], inner := none, frames := [{ wait := .nextStart, pc := 9, pos := s, outermost := first }], weight := 1, answer := none, seen := seen, outcome := none }

theorem runFor_stop {m : M} (h : m.outcome.isSome = true) : ∀ k, m.runFor k = m
  | 0 => rfl
  | k + 1 => by unfold M.runFor; rw [if_pos h]
theorem runFor_add (m : M) : ∀ a b, m.runFor (a + b) = (m.runFor a).runFor b := by
  intro a
  induction a generalizing m with
  | zero => intro b; simp [M.runFor]
  | succ a ih =>
    intro b
    rw [Nat.succ_add]
    show (if m.outcome.isSome then m else M.runFor (a + b) m.step) = _
    by_cases h : m.outcome.isSome = true
    · rw [if_pos h, runFor_stop h, runFor_stop h]
    · rw [if_neg h, ih]
      show _ = M.runFor b (if m.outcome.isSome then m else M.runFor a m.step)
      rw [if_neg h]
/-- it ends without a match within k steps -/
def Fails (k : Nat) (m : M) : Prop := (m.runFor k).outcome = some .failed
theorem Fails.step {k : Nat} {m : M} (h : m.outcome = none) (x : Fails k m.step) : Fails (k + 1) m := by
  unfold Fails; unfold M.runFor; rw [h]; exact x
theorem Fails.more {k j : Nat} {m : M} (x : Fails k m) (h : k ≤ j) : Fails j m := by
  obtain ⟨d, rfl⟩ := Nat.le.dest h
  unfold Fails at *
  rw [runFor_add, runFor_stop (by rw [x]; rfl)]; exact x

/-- no sign is a digit -/
def NoDigit (X : Array Nat) : Prop := ∀ c ∈ X, Sre.isDigit c = false
theorem NoDigit.at {X : Array Nat} (h : NoDigit X) {i : Nat} (hi : i < X.size) : Sre.isDigit (X.getD i 0) = false := by
  have : X.getD i 0 = X[i] := by simp [Array.getD, hi]
  rw [this]; exact h _ (Array.getElem_mem hi)

theorem step_lit (X : Array Nat) (s : Nat) (first ma : Bool) (seen : Sre.Seen) : (at0 X s first ma seen).step =
    if s ≥ X.size then { at0 X s first ma (seen.add 16) with answer := some false }
    else if X.getD s 0 == 46 then { at0 X s first ma (seen.add 16) with pc := 11, pos := s + 1 } else { at0 X s first ma (seen.add 16) with answer := some false } := by
  show (if s ≥ X.size then { at0 X s first ma (seen.add 16) with answer := some false } else
    match (Except.ok (X.getD s 0 == 46, seen.add 16) : Except String (Bool × Sre.Seen)) with
    | .error why => M.stick { at0 X s first ma (seen.add 16) with answer := none } why
    | .ok (false, seen) => { at0 X s first ma seen with answer := some false }
    | .ok (true, seen) => { at0 X s first ma seen with pc := 11, pos := s + 1 }) = _
  split
  · rfl
  · cases (X.getD s 0 == 46) <;> rfl

theorem next_at {X : Array Nat} {s k : Nat} {first ma : Bool} {seen : Sre.Seen} {pos : Nat} {pc : Nat} (hs : s < X.size) (x : ∀ seen, Fails k (at0 X (s + 1) false false seen)) :
    Fails (k + 1) { at0 X s first ma seen with answer := some false, pc := pc, pos := pos } := by
  refine Fails.step rfl ?_
  have : ({ at0 X s first ma seen with answer := some false, pc := pc, pos := pos } : M).step = at0 X (s + 1) false false seen := by
    show (if s < X.size then at0 X (s + 1) false false seen else _) = _
    rw [if_pos hs]
  rw [this]; exact x seen
theorem end_at {X : Array Nat} {s : Nat} {first ma : Bool} {seen : Sre.Seen} {pos : Nat} {pc : Nat} (hs : ¬ s < X.size) :
    Fails 2 { at0 X s first ma seen with answer := some false, pc := pc, pos := pos } := by
  refine Fails.step rfl ?_
  have : ({ at0 X s first ma seen with answer := some false, pc := pc, pos := pos } : M).step = { at0 X s first ma seen with frames := [], weight := 0, answer := some false } := by
    show (if s < X.size then _ else { at0 X s first ma seen with frames := [], weight := 0, answer := some false }) = _
    rw [if_neg hs]
  rw [this]
  refine Fails.step rfl ?_
  rfl

theorem step_rep (X : Array Nat) (s : Nat) (first ma : Bool) (seen : Sre.Seen) (hX : NoDigit X) : ∃ seen', ({ at0 X s first ma seen with pc := 11, pos := s + 1 } : M).step = { at0 X s first ma seen' with answer := some false, pc := 11, pos := s + 1 } := by
  by_cases h : (1 : Int) > (X.size : Int) - ((s + 1 : Nat) : Int)
  · refine ⟨seen.add 24, ?_⟩
    show (if (1 : Int) > (X.size : Int) - ((s + 1 : Nat) : Int) then _ else _) = _
    rw [if_pos h]; rfl
  · have hlt : s + 1 < X.size := by omega
    have hr : Sre.run ipCode X 15 (min 4294967295 ((X.size : Int) - ((s + 1 : Nat) : Int)).toNat) (s + 1) 0 ((seen.add 24).add 13) = .ok (0, (((seen.add 24).add 13).add 8).add (55 + 0) |>.add 0) := by
      obtain ⟨k, hk⟩ : ∃ k, min 4294967295 ((X.size : Int) - ((s + 1 : Nat) : Int)).toNat = k + 1 := ⟨min 4294967295 ((X.size : Int) - ((s + 1 : Nat) : Int)).toNat - 1, by omega⟩
      rw [hk]
      have hd := hX.at hlt
      show (do
        let (yes, seen) ← Sre.accepts ipCode 15 (X.getD (s + 1) 0) ((seen.add 24).add 13)
        if yes then Sre.run ipCode X 15 k (s + 1 + 1) (0 + 1) seen else pure (0, seen)) = _
      have ha : Sre.accepts ipCode 15 (X.getD (s + 1) 0) ((seen.add 24).add 13) = .ok (false, (((seen.add 24).add 13).add 8).add (55 + 0) |>.add 0) := by
        show Sre.inSet ipCode (X.getD (s + 1) 0) 24 17 true ((seen.add 24).add 13) = _
        show (do
          if ← (Except.ok (Sre.isDigit (X.getD (s + 1) 0)) : Except String Bool).map (· != false) then pure (true, (((seen.add 24).add 13).add 8).add (55 + 0)) else Sre.inSet ipCode (X.getD (s + 1) 0) 23 19 true ((((seen.add 24).add 13).add 8).add (55 + 0))) = _
        rw [hd]
        rfl
      rw [ha]; rfl
    refine ⟨((((seen.add 24).add 13).add 8).add (55 + 0)).add 0, ?_⟩
    show (if (1 : Int) > (X.size : Int) - ((s + 1 : Nat) : Int) then _ else
      match Sre.run ipCode X 15 (min 4294967295 ((X.size : Int) - ((s + 1 : Nat) : Int)).toNat) (s + 1) 0 ((seen.add 24).add 13) with
      | .error why => _
      | .ok (n, seen) => _) = _
    rw [if_neg h, hr]
    rfl

theorem fails_at {X : Array Nat} (hX : NoDigit X) : ∀ (d s : Nat) (first ma : Bool) (seen : Sre.Seen), s + d = X.size → Fails (3 * d + 3) (at0 X s first ma seen) := by
  intro d
  induction d with
  | zero =>
    intro s first ma seen hd
    refine Fails.step (k := 2) rfl ?_
    rw [step_lit, if_pos (by omega)]
    exact end_at (pc := 9) (pos := s) (by omega)
  | succ d ih =>
    intro s first ma seen hd
    have hs : s < X.size := by omega
    have next : ∀ seen, Fails (3 * d + 3) (at0 X (s + 1) false false seen) := fun seen => ih (s + 1) false false seen (by omega)
    refine Fails.more (k := 3 * d + 3 + 1 + 1 + 1) ?_ (by omega)
    rw [show 3 * d + 3 + 1 + 1 + 1 = (3 * d + 3 + 1 + 1) + 1 from rfl]
    refine Fails.step rfl ?_
    rw [step_lit, if_neg (by omega)]
    by_cases hq : (X.getD s 0 == 46) = true
    · rw [if_pos hq]
      refine Fails.step rfl ?_
      obtain ⟨seen', e⟩ := step_rep X s first ma (seen.add 16) hX
      rw [e]
      exact next_at hs next
    · rw [if_neg hq]
      exact Fails.more (k := 3 * d + 3 + 1) (next_at (pc := 9) (pos := s) hs next) (by omega)
end Mine
end
section
open PySem PySem.W PyProof.Rows
set_option Elab.async false
set_option maxRecDepth 100000
namespace Mine
open PySem.Builtin.Re
structure IsPat (h : Heap) (p : Addr) : Prop where
  get : ∃ (o ol : Obj) (fs items : Array Value) (l : Addr) (n : Nat), h.get? p = some o ∧ o.cls = .type "re.Pattern" ∧ o.dict = none ∧ o.data = .fields fs ∧ fs.getD 5 .none = .ref l ∧ h.get? l = some ol ∧ ol.data = .seq items n ∧
    (items.map reRawOf).map (·.toNat) = ipCode ∧ reRawNat (fs.getD 2 .none) = 0 ∧ reRawNat (fs.getD 6 .none) = 0
theorem IsPat.up {h h' : Heap} {p : Addr} (x : IsPat h p) (k : Keep h h') : IsPat h' p := by
  obtain ⟨o, ol, fs, items, l, n, h1, h2, h3, h4, h5, h6, r⟩ := x.get
  exact ⟨o, ol, fs, items, l, n, k _ _ h1, h2, h3, h4, h5, k _ _ h6, r⟩

section
variable {prog : Program} {w : World} {A : Around} {h : Heap}
theorem tr_rule (tag : String) : Tr prog w A h (rule tag) fun _ _ => True := by
  intro s Q E hs q; subst hs
  exact wpAny_rule (q _ _ s.toks (Keep.refl _) trivial)
theorem drive {k : Nat} : ∀ (h : Heap) (t : Nat) (m : Sre.M), Fails k m → k ≤ 4 * t → 0 < t → Tr prog w A h (reDrive t m) fun _ m' => m'.outcome = some .failed := by
  induction k using Nat.strongRecOn with
  | ind k ih =>
    intro h t m hf hk ht
    obtain ⟨t, rfl⟩ : ∃ u, t = u + 1 := ⟨t - 1, by omega⟩
    unfold reDrive
    show Tr prog w A h (if (m.runFor 4).outcome.isSome then pure (m.runFor 4) else do rule "sre.turn"; reDrive t (m.runFor 4)) _
    by_cases ho : (m.runFor 4).outcome.isSome = true
    · rw [if_pos ho]
      refine Tr.pure ?_
      rcases Nat.le_total k 4 with q | q
      · exact hf.more q
      · obtain ⟨d, rfl⟩ := Nat.le.dest q
        unfold Fails at hf
        rw [runFor_add, runFor_stop ho] at hf
        exact hf
    · rw [if_neg ho]
      have hk4 : 4 < k := by
        rcases Nat.lt_or_ge 4 k with q | q
        · exact q
        · have := hf.more q
          unfold Fails at this
          rw [this] at ho; exact absurd rfl ho
      obtain ⟨d, rfl⟩ := Nat.le.dest (Nat.le_of_lt hk4)
      refine Tr.bind (tr_rule _) fun h' _ k' _ => ?_
      have hf' : Fails d (m.runFor 4) := by unfold Fails at hf ⊢; rw [runFor_add] at hf; exact hf
      exact ih d (by omega) h' t (m.runFor 4) hf' (by omega) (by omega)

theorem rules_loop {m : Sre.M} : ∀ (l : List Nat) (h : Heap), Tr prog w A h (forIn l PUnit.unit fun i _ => do
    if m.seen.has i then do rule (Sre.names.getD i ""); pure (ForInStep.yield PUnit.unit) else pure (ForInStep.yield PUnit.unit)) fun _ _ => True
  | [], h => by rw [List.forIn_nil]; exact Tr.pure trivial
  | i :: r, h => by
    rw [List.forIn_cons]
    refine Tr.bind (P := fun _ u => u = ForInStep.yield PUnit.unit) ?_ fun h' a k e => ?_
    · split
      · exact Tr.bind (tr_rule _) fun _ _ _ _ => Tr.pure rfl
      · exact Tr.pure rfl
    · subst e; exact rules_loop r h'

theorem run_end {m : Sre.M} {k : Nat} (hf : Fails k m) (hk : k ≤ 4 * 2 ^ 64) : Tr prog w A h (reRunToEnd m) fun _ r => r = none := by
  unfold reRunToEnd
  refine Tr.bind (drive h (2 ^ 64) m hf hk (by decide)) fun h1 m' k1 e => ?_
  refine Tr.bind (P := fun _ _ => True) ?_ fun h2 _ k2 _ => ?_
  · exact rules_loop _ h1
  · rw [e]; exact Tr.pure rfl

theorem search_tree {p : Addr} {X : Str} {t : Tok} (hp : IsPat h p) (hX : NoDigit X.cps) (hl : X.length ≤ 2 ^ 20) :
    Tr prog w A h (Builtin.«re.Pattern.search» ⟨[.ref p, .str X t], []⟩) fun _ fin => fin = .done (.ret .none) := by
  obtain ⟨o, ol, fs, items, l, n, h1, h2, h3, h4, h5, h6, h7, h8, h9, h10⟩ := hp.get
  unfold Builtin.«re.Pattern.search»
  refine Tr.bind (P := fun _ tt => tt = { pattern := .ref p, string := .str X t, code := ipCode, text := X.cps, kind := 0, groups := 0, pos := 0, lim := X.cps.size }) ?_ fun h' tt k e => ?_
  · unfold reTarget
    show Tr prog w A h (reNamed "re.Pattern.search" "search" ["string", "pos", "endpos"] 1 [.str X t] [] >>= _) _
    have en : reNamed "re.Pattern.search" "search" ["string", "pos", "endpos"] 1 [.str X t] [] = pure [some (.str X t), none, none] := by rfl
    rw [en]
    have bnd : ∀ {α β : Type} (a : α) (f : α → Sem β), (pure a >>= f) = f a := fun _ _ => rfl
    simp only [bnd]
    refine Tr.bind (P := fun _ v => v = fs) (fun s Q E hs q => by subst hs; exact wpAny_fieldsOf h1 h4 (q _ _ s.toks (Keep.refl _) rfl)) fun h'1 fs' k1 e => ?_
    subst e
    refine Tr.bind (P := fun _ v => v = (X.cps, 0)) (Tr.pure rfl) fun h'2 x k2 e => ?_
    subst e
    rw [h10, if_neg (by simp), if_neg (by simp)]
    refine Tr.bind (P := fun _ _ => True) (Tr.pure trivial) fun h'3 _ k3 _ => ?_
    rw [h5]
    refine Tr.bind (P := fun _ v => v = items.map reRawOf) ?_ fun h'4 v k4 e => ?_
    · unfold reRawItems
      refine Tr.bind (P := fun _ v => v = some items) (fun s Q E hs q => by subst hs; exact wpAny_seqItems (((k1.trans k2).trans k3) _ _ h6) h7 (q _ _ s.toks (Keep.refl _) rfl)) fun _ v _ e => ?_
      subst e; exact Tr.pure rfl
    · subst e
      refine Tr.pure ?_
      rw [h8, h9]
      have hX2 : X.cps.size ≤ 2 ^ 20 := hl
      have : min (2 ^ 63 - 1 : Int).toNat X.cps.size = X.cps.size := by omega
      simp only [this]; simp
  · subst e
    unfold reAnswer
    have hs : Sre.forSearch ipCode X.cps 0 0 X.cps.size false = if X.cps.size < 2 then Sre.M.say { code := ipCode, text := X.cps, lim := X.cps.size, start := 0, pc := 9, pos := 0, handed := 0, marks := Array.replicate (2 * 0) none, mustAdvance := false, seen := ({} : Sre.Seen).add 14 } false else at0 X.cps 0 true false (({} : Sre.Seen).add 14) := by
      show (if (decide (0 > X.cps.size) || decide (X.cps.size - 0 < 2)) = true then Sre.M.say { code := ipCode, text := X.cps, lim := X.cps.size, start := 0, pc := 9, pos := 0, handed := 0, marks := Array.replicate (2 * 0) none, mustAdvance := false, seen := ({} : Sre.Seen).add 14 } false else at0 X.cps 0 true false (({} : Sre.Seen).add 14)) = _
      by_cases hq : X.cps.size < 2
      · rw [if_pos (by simp; omega), if_pos hq]
      · rw [if_neg (by simp; omega), if_neg hq]
    have hX2 : X.cps.size ≤ 2 ^ 20 := hl
    refine Tr.bind (P := fun _ r => r = none) ?_ fun h2 r k2 e => by subst e; exact Tr.pure rfl
    show Tr prog w A h' (reRunToEnd (Sre.forSearch ipCode X.cps 0 0 X.cps.size false)) _
    rw [hs]
    by_cases hq : X.cps.size < 2
    · rw [if_pos hq]
      exact run_end (k := 1) (Fails.step rfl rfl) (by decide)
    · rw [if_neg hq]
      exact run_end (fails_at hX X.cps.size 0 true false _ (by omega)) (by omega)

theorem call_search {p : Addr} {X : Str} {t : Tok} (hp : IsPat h p) (hX : NoDigit X.cps) (hl : X.length ≤ 2 ^ 20) :
    Tr prog w A h (call (.builtin "re.Pattern.search") [.ref p, .str X t]) fun _ v => v = .none := by
  intro s Q E hs q; subst hs
  obtain ⟨o, _, _, _, _, _, h1, h2, _⟩ := hp.get
  refine wpAny_call_entry slot_search ⟨o, h1, h2⟩ entry_search ?_ (args_search _ _)
  exact (search_tree hp hX hl).use fun fin h' tk k e => by subst e; exact ⟨_, rfl, q _ h' tk k rfl⟩
end
end Mine
end
section
open PySem PySem.W PyProof.Rows
set_option maxRecDepth 100000
set_option Elab.async false
namespace Mine
noncomputable def stAt (i : Nat) : Stmt := PySem.Challenge.pw_of0012_01.main.body.getD i (.Pass default)
def nameOf : Stmt → Str | .FunctionDef n .. => n | _ => Str.empty
def paramsOf : Stmt → Arguments | .FunctionDef _ a .. => a | _ => ⟨[], [], none, [], [], none, []⟩
def bodyOf : Stmt → List Stmt | .FunctionDef _ _ b .. => b | _ => []
def scopeOf : Stmt → Scope | .FunctionDef _ _ _ _ _ _ sc _ _ _ => sc | _ => default
def posOf : Stmt → Pos | .FunctionDef _ _ _ _ _ _ _ _ _ p => p | _ => default
/-- the def that is statement i of the text -/
abbrev FnI (mg : Str → Option Value) (h : Heap) (i : Nat) (nm : Str) (a : Addr) (fd : FuncData) : Prop := FnAt mg h nm (paramsOf (stAt i)) (bodyOf (stAt i)) (scopeOf (stAt i)) a fd
noncomputable abbrev fe (i : Nat) (nm : Str) (L a : Addr) (cd : Value) : Env := fenv (scopeOf (stAt i)) nm L a cd

def turns {α : Type} (xs : List α) : List (List α) := (List.range xs.length).map fun i => xs.drop i ++ xs.take i

section
variable {prog : Program} {w : World} {A : Around} {h : Heap} {mg : Str → Option Value} {α : Type} {P : V α}

theorem turns_map (xs : List α) : ((rng 0 xs.length 1).filter fun _ => true).map (fun k => xs.drop k.toNat ++ xs.take k.toNat) = turns xs := by
  unfold turns
  rw [rng_one, List.filter_eq_self.mpr (by simp), List.map_map]
  have : ((xs.length : Int) - 0).toNat = xs.length := by omega
  rw [this]
  refine List.map_congr_left fun i _ => ?_
  simp

theorem turns_spec {f : Addr} {fd : FuncData} {v : Value} {xs : List α} (lp : Lives P) (hp : ∀ h h' v x, P h v x → P h' v x) (G : Gl mg h) (Fr : Free mg) (ao : Ao A 3) (fn : FnI mg h 33 (S "_law_turns") f fd) (hv : ListV P h v xs) (hlen : xs.length ≤ 64) :
    Tr prog w A h (call (.ref f) [v]) fun h' u => ListV (ListV P) h' u (turns xs) := by
  refine tr_call (binds := [(S "row", v)]) G fn (by have := ao.hd; omega) (fun _ _ _ => rfl) (fun n x hx => ?_) (fun L cd s h₁ tk F hcl => ?_)
  · simp only [List.mem_singleton] at hx; subst hx
    exact .inr ⟨by rfl, by rfl⟩
  · have aod := ao.deeper (env := fe 33 (S "_law_turns") L f cd)
    have R : Rd mg (fe 33 (S "_law_turns") L f cd) h₁ := ⟨G.up F.keep, fenv_ge _ _ _ _ _, rfl, Fr⟩
    have hrow : ListV P h₁ v xs := lives_list lp _ _ _ _ F.keep.kq hv
    have hlz : xs.length ≤ sizeLine := by unfold sizeLine; omega
    refine ex_return (P := fun h' u => NewL (ListV P) h₁ h' u (((rng 0 xs.length 1).filter fun _ => true).map fun k => xs.drop k.toNat ++ xs.take k.toNat)) ?_ ?_
    · refine tr_comp (S := fun x u _ => x ∈ rng 0 xs.length 1 ∧ ∃ t, u = .int x t) (lives_list lp) F rfl ?_ (by have := rng_len_le 0 xs.length 1 (by omega) (by omega); unfold sizeLine; omega) (fun C cells sp => body_local rfl fun x u h2 m cm hs F2 hc hb => ?_)
      · refine Tr.mono (ev_range1 R rfl (fun h1 k1 => ev_len (P := P) (xs := xs) (R.up k1) rfl (fun h2 k2 => ev_cell ((F.up k1).up k2) rfl rfl rfl rfl (lives_list lp _ _ _ _ (k1.trans k2).kq hrow)) rfl (by omega)) rfl) fun h' u k p => iters_rng k aod.hh p (by omega) (by omega) (by omega) (by omega) (by omega) (by omega)
      · obtain ⟨hx, t, rfl⟩ := hs
        have hx' := mem_rng_one hx
        have hc1 : cells.lookup (S "row") = some (L + 1) := sp.free (S "row") (by simp)
        have hc2 : cm (S "row") = some v := hc (S "row") (by simp)
        have row : ∀ h3, Keep h2 h3 → ListV P h3 v xs := fun h3 k3 => lives_list lp _ _ _ _ (F2.keep.trans k3).kq hrow
        refine Tr.mono (tr_BinOp (R := fun a h3 b => ListV P h3 a (xs.drop x.toNat) ∧ ListV P h3 b (xs.take x.toNat))
          (slice_from lp (ev_cell F2 rfl hc1 hc2 rfl (row _ (Keep.refl _))) (fun h3 k3 => ev_loc (F2.up k3) rfl hb rfl ⟨t, rfl⟩) hx'.1 hlz)
          (fun h3 a k3 p3 => Tr.mono (slice_upto lp (ev_cell (F2.up k3) rfl hc1 hc2 rfl (row _ k3)) (fun h4 k4 => ev_loc ((F2.up k3).up k4) rfl hb rfl ⟨t, rfl⟩) hx'.1 hlz) fun h4 b k4 p4 => ⟨lives_list lp _ _ _ _ k4.kq p3.list, p4.list⟩)
          (fun h3 a b k3 p3 => Tr.mono (op_add lp p3.1 p3.2 (by simp; unfold sizeLine; omega)) fun h4 u k4 p4 => p4.from k3)) fun h3 u k3 p3 => off_new hp p3
    · intro u h' tk' k p
      rw [turns_map] at p
      exact ⟨u, h', tk', rfl, rfl, F.keep.trans k, p.list⟩
end
end Mine
end
section
open PySem PySem.W PyProof.Rows
set_option maxRecDepth 100000
set_option Elab.async false
namespace Mine
abbrev LI (xs : List Int) : Heap → Value → Prop := IsL IntV xs
theorem LI.on {xs : List Int} {h h' : Heap} {v : Value} (x : ListV IntV h v xs) (k : Kq h h') : ListV IntV h' v xs := lives_list lives_int _ _ _ _ k x

def bordersF (part : List Int) (r : Int) : List Int := (rng 1 r 1).filter fun k => decide (part.take k.toNat = part.drop (r - k).toNat)
def lengthsF (turn : List Int) (r : Int) : List Int := bordersF (turn.take r.toNat) r ++ rng r turn.length r

section
variable {prog : Program} {w : World} {A : Around} {h : Heap} {mg : Str → Option Value}

theorem lengths_spec {f : Addr} {fd : FuncData} {v v' : Value} {xs : List Int} {r : Int} (G : Gl mg h) (Fr : Free mg) (ao : Ao A 3) (fn : FnI mg h 35 (S "_law_lengths") f fd) (hv : ListV IntV h v xs) (hr : IntV h v' r) (hlen : xs.length ≤ 64) (h1r : 1 ≤ r) (hr64 : r ≤ 64) :
    Tr prog w A h (call (.ref f) [v, v']) fun h' u => NewL IntV h h' u (lengthsF xs r) := by
  refine tr_call (binds := [(S "turn", v), (S "root", v')]) G fn (by have := ao.hd; omega) (fun _ _ _ => rfl) (fun n x hx => ?_) (fun L cd s h₁ tk F hcl => ?_)
  · simp only [List.mem_cons, List.not_mem_nil, or_false] at hx
    rcases hx with rfl | rfl
    · exact .inl rfl
    · exact .inr ⟨by rfl, by rfl⟩
  · have aod := ao.deeper (env := fe 35 (S "_law_lengths") L f cd)
    have hlz : xs.length ≤ sizeLine := by unfold sizeLine; omega
    have hu : (A.deeper (fe 35 (S "_law_lengths") L f cd)).units + 64 < cLine := by have := aod.hu; omega
    obtain ⟨t, rfl⟩ := hr
    -- part = turn[:root]
    refine ex_assignC F (slice_upto lives_int (ev_loc F rfl rfl rfl (LI.on hv F.keep.kq)) (fun h2 k2 => ev_cell (F.up k2) rfl rfl rfl rfl ⟨t, rfl⟩) (k := r) (by omega) hlz) rfl rfl (hcl (S "part") _ rfl) rfl fun h2 vp h3 tk3 k2 p2 F3 kq3 => ?_
    have hpart : ListV IntV h3 vp (xs.take r.toNat) := LI.on p2.list kq3
    have R3 : Rd mg (fe 35 (S "_law_lengths") L f cd) h3 := ⟨G.up F3.keep, fenv_ge _ _ _ _ _, rfl, Fr⟩
    have hpl : (xs.take r.toNat).length ≤ sizeLine := by rw [List.length_take]; omega
    -- short = [..]
    refine ex_comp (S := fun x u _ => x ∈ rng 1 r 1 ∧ ∃ t, u = .int x t) (p := fun k => decide ((xs.take r.toNat).take k.toNat = (xs.take r.toNat).drop (r - k).toNat)) (f := fun k => k) (T := IntV) lives_int F3 rfl rfl rfl
      (Tr.mono (ev_range2 R3 rfl (fun h4 k4 => tr_int) (fun h4 k4 => ev_cell (F3.up k4) rfl rfl rfl rfl ⟨t, rfl⟩) rfl rfl) fun h' u k p => iters_rng k aod.hh p (by omega) (by omega) (by omega) (by omega) (by omega) (by omega))
      (by have := rng_len_le 1 r 1 (by omega) (by omega); unfold sizeLine; omega)
      (fun C cells sp => body_local_if rfl (fun x u h5 m cm hs F5 hc hb => ?_) (fun x u h5 m cm hs F5 hc hb => ?_)) fun h4 tk4 vs F4 kq4 p4 => ?_
    · -- part[:size] == part[root - size:]
      obtain ⟨hx, t', rfl⟩ := hs
      have hx' := mem_rng_one hx
      have hc1 : cells.lookup (S "part") = some (L + 2) := sp.free (S "part") (by simp)
      have hc2 : cm (S "part") = some vp := hc (S "part") (by simp)
      have hc3 : cells.lookup (S "root") = some (L + 1) := sp.free (S "root") (by simp)
      have hc4 : cm (S "root") = some (.int r t) := hc (S "root") (by simp)
      have part : ∀ h6, Keep h5 h6 → ListV IntV h6 vp (xs.take r.toNat) := fun h6 k6 => LI.on hpart (F5.keep.trans k6).kq
      refine tr_test (R := fun a h6 b => ListV IntV h6 a ((xs.take r.toNat).take x.toNat) ∧ ListV IntV h6 b ((xs.take r.toNat).drop (r - x).toNat))
        (slice_upto lives_int (ev_cell F5 rfl hc1 hc2 rfl (part _ (Keep.refl _))) (fun h6 k6 => ev_loc (F5.up k6) rfl hb rfl ⟨t', rfl⟩) (by omega) hpl)
        (fun h6 a k6 p6 => Tr.mono (slice_from lives_int (ev_cell (F5.up k6) rfl hc1 hc2 rfl (part _ k6)) (fun h7 k7 => ev_sub (ev_cell ((F5.up k6).up k7) rfl hc3 hc4 rfl ⟨t, rfl⟩) fun h8 k8 => ev_loc (((F5.up k6).up k7).up k8) rfl hb rfl ⟨t', rfl⟩) (by omega) hpl) fun h7 b k7 p7 => ⟨LI.on p6.list k7.kq, p7.list⟩)
        (fun h6 a b k6 p6 => eq_L hu p6.1 p6.2)
    · exact Tr.mono (ev_loc F5 rfl hb rfl hs.2) fun _ _ _ p => off_int p
    · -- return short + list(range(root, len(turn), root))
      have R4 : Rd mg (fe 35 (S "_law_lengths") L f cd) h4 := ⟨G.up F4.keep, fenv_ge _ _ _ _ _, rfl, Fr⟩
      have hsh : ListV IntV h4 vs (bordersF (xs.take r.toNat) r) := by
        have : ((rng 1 r 1).filter fun k => decide ((xs.take r.toNat).take k.toNat = (xs.take r.toNat).drop (r - k).toNat)).map (fun k => k) = bordersF (xs.take r.toNat) r := by simp [bordersF]
        rw [← this]; exact p4
      have hl1 : (bordersF (xs.take r.toNat) r).length ≤ 1001 := by
        have := rng_len_le 1 r 1 (by omega) (by omega)
        have h2 : (bordersF (xs.take r.toNat) r).length ≤ (rng 1 r 1).length := List.length_filter_le _ _
        omega
      have hl2 : (rng r xs.length r).length ≤ 1001 := rng_len_le _ _ _ (by omega) (by omega)
      refine ex_return (tr_BinOp (R := fun a h6 b => ListV IntV h6 a (bordersF (xs.take r.toNat) r) ∧ ListV IntV h6 b (rng r xs.length r)) (ev_loc (Pv := LI (bordersF (xs.take r.toNat) r)) F4 rfl rfl rfl hsh)
        (fun h6 a k6 p6 => Tr.mono (ev_list_range (R4.up k6) aod.hh rfl (fun h7 k7 => ev_range3 ((R4.up k6).up k7) rfl (fun h8 k8 => ev_cell (((F4.up k6).up k7).up k8) rfl rfl rfl rfl ⟨t, rfl⟩)
            (fun h8 k8 => ev_len (P := IntV) (xs := xs) (((R4.up k6).up k7).up k8) rfl (fun h9 k9 => ev_loc ((((F4.up k6).up k7).up k8).up k9) rfl rfl rfl (LI.on hv (((((F4.up k6).up k7).up k8).up k9).keep).kq)) rfl (by omega))
            (fun h8 k8 => ev_cell (((F4.up k6).up k7).up k8) rfl rfl rfl rfl ⟨t, rfl⟩) rfl rfl (by omega) (by omega)) rfl (by omega) (by omega) (by omega) (by omega) (by omega) (by omega)) fun h7 b k7 p7 => ⟨LI.on p6 k7.kq, p7.list⟩)
        (fun h6 a b k6 p6 => Tr.mono (op_add lives_int p6.1 p6.2 (by unfold sizeLine; omega)) fun h7 u k7 p7 => p7.from k6)) fun u h' tk' k p => ⟨u, h', tk', rfl, rfl, F4.keep.trans k, p.from F4.keep⟩
end
end Mine
end
section
open PySem PySem.W PyProof.Rows
set_option maxRecDepth 100000
set_option Elab.async false
namespace Mine
def okRoot (ring : List Int) (k : Nat) : Bool := decide (ring.length % k = 0) && decide (ring = (List.replicate (ring.length / k) (ring.take k)).flatten)
structure IsRoot (ring : List Int) (r : Nat) : Prop where
  pos : 1 ≤ r
  le : r ≤ ring.length
  ok : okRoot ring r = true
  least : ∀ j, 1 ≤ j → j < r → okRoot ring j = false
theorem okRoot_all (ring : List Int) (h : 1 ≤ ring.length) : okRoot ring ring.length = true := by
  unfold okRoot
  rw [Nat.mod_self, Nat.div_self (by omega), List.take_length]; simp
theorem flat_len {α : Type} (xs : List α) (n : Nat) : (List.replicate n xs).flatten.length = n * xs.length := by
  induction n with
  | zero => simp
  | succ n ih => rw [List.replicate_succ, List.flatten_cons, List.length_append, ih, Nat.succ_mul, Nat.add_comm]

section
variable {prog : Program} {w : World} {A : Around} {h : Heap} {mg : Str → Option Value}

theorem root_spec {f : Addr} {fd : FuncData} {v : Value} {xs : List Int} (G : Gl mg h) (Fr : Free mg) (ao : Ao A 3) (fn : FnI mg h 31 (S "_law_root") f fd) (hv : ListV IntV h v xs) (h1 : 1 ≤ xs.length) (hlen : xs.length ≤ 64) :
    Tr prog w A h (call (.ref f) [v]) fun h' u => ∃ r : Nat, IsRoot xs r ∧ IntV h' u r := by
  refine tr_call (binds := [(S "ring", v)]) G fn (by have := ao.hd; omega) (fun _ _ _ => rfl) (fun n x hx => ?_) (fun L cd s h₁ tk F hcl => ?_)
  · simp only [List.mem_cons, List.not_mem_nil, or_false] at hx
    subst hx; exact .inl rfl
  · have aod := ao.deeper (env := fe 31 (S "_law_root") L f cd)
    have hlz : xs.length ≤ sizeLine := by unfold sizeLine; omega
    have hu : (A.deeper (fe 31 (S "_law_root") L f cd)).units + 64 < cLine := by have := aod.hu; omega
    refine ex_assign F (tr_int (i := 1)) rfl rfl fun h2 v1 h3 tk3 k2 p2 F3 kq3 => ?_
    obtain ⟨t1, rfl⟩ := p2
    refine wpAny_execs_cons (wpAny_While (codeAny_whileLoop (I := fun n s' => ∃ (h' : Heap) (tk' k : Nat) (m' : Str → Option Value) (t' : Tok), s' = { s with heap := h', toks := tk' } ∧ n = xs.length + 1 - k ∧ 1 ≤ k ∧ k ≤ xs.length ∧ (∀ j, 1 ≤ j → j < k → okRoot xs j = false) ∧
        Fx h (fe 31 (S "_law_root") L f cd) m' (bindC (fe 31 (S "_law_root") L f cd).kindOf [(S "ring", v)] fun _ => none) h' ∧ m' (S "ring") = some v ∧ m' (S "size") = some (.int k t')) ?_ xs.length
        ⟨h3, tk3, 1, _, t1, rfl, by omega, by omega, h1, fun j a b => by omega, F3, rfl, rfl⟩))
    rintro n s' ⟨h', tk', k, m', t', rfl, rfl, hk1, hk2, hno, F', hm1, hm2⟩
    have R : Rd mg (fe 31 (S "_law_root") L f cd) h' := ⟨G.up F'.keep, fenv_ge _ _ _ _ _, rfl, Fr⟩
    have ring : ∀ h4, Keep h' h4 → ∀ px, Tr prog w (A.deeper (fe 31 (S "_law_root") L f cd)) h4 (eval (.Name (S "ring") px) (fe 31 (S "_law_root") L f cd)) (LI xs) := fun h4 k4 px => ev_loc (F'.up k4) rfl hm1 rfl (LI.on hv (F'.up k4).keep.kq)
    have size : ∀ h4, Keep h' h4 → ∀ px, Tr prog w (A.deeper (fe 31 (S "_law_root") L f cd)) h4 (eval (.Name (S "size") px) (fe 31 (S "_law_root") L f cd)) (IsI k) := fun h4 k4 px => ev_loc (F'.up k4) rfl hm2 rfl ⟨t', rfl⟩
    have len : ∀ h4, Keep h' h4 → ∀ p1 p2 p3, Tr prog w (A.deeper (fe 31 (S "_law_root") L f cd)) h4 (eval (.Call (.Name (S "len") p1) [.Name (S "ring") p2] [] p3) (fe 31 (S "_law_root") L f cd)) (IsI xs.length) :=
      fun h4 k4 p1 p2 p3 => ev_len (P := IntV) (R.up k4) rfl (fun h5 k5 => ring h5 (k4.trans k5) _) rfl (by omega)
    have hdiv : (((xs.length : Nat) : Int).fdiv (k : Int)).toNat = xs.length / k := by
      rw [Int.fdiv_eq_ediv_of_nonneg _ (by omega), ← Int.natCast_ediv]; rfl
    have hdle : xs.length / k ≤ xs.length := Nat.div_le_self _ _
    refine Tr.use (s := { s with heap := h', toks := tk' }) (P := fun _ b => b = !okRoot xs k) ?_ ?_
    · refine Tr.mono (P := fun _ b => b = ((((xs.length : Nat) : Int).fmod (k : Int) != 0) || !decide (xs = (List.replicate (xs.length / k) (xs.take k)).flatten))) (test_or (test_ne (ev_mod (by omega) (len h' (Keep.refl _) _ _ _) fun h4 k4 => size h4 k4 _) fun h4 k4 => tr_int)
        (fun h4 k4 _ => tr_test (R := fun a h5 b => ListV IntV h5 a xs ∧ ListV IntV h5 b (List.replicate (xs.length / k) (xs.take k)).flatten) (ring h4 k4 _)
          (fun h5 a k5 p5 => Tr.mono (P := fun h' v => NewL IntV h5 h' v (List.replicate (((xs.length : Nat) : Int).fdiv (k : Int)).toNat (xs.take ((k : Int)).toNat)).flatten) (tr_BinOp (R := fun a h6 b => ListV IntV h6 a (xs.take ((k : Int)).toNat) ∧ IntV h6 b (((xs.length : Nat) : Int).fdiv (k : Int))) (slice_upto lives_int (ring h5 (k4.trans k5) _) (fun h6 k6 => size h6 ((k4.trans k5).trans k6) _) (by omega) hlz)
              (fun h6 a k6 p6 => Tr.mono (ev_div (by omega) (PyProof.noPylong_small (by omega)) (len h6 ((k4.trans k5).trans k6) _ _ _) fun h7 k7 => size h7 (((k4.trans k5).trans k6).trans k7) _) fun h7 b k7 p7 => ⟨LI.on p6.list k7.kq, p7⟩)
              (fun h6 a b k6 p6 => Tr.mono (op_mul lives_int p6.1 p6.2 (Int.fdiv_nonneg (by omega) (by omega)) (by omega) (by
                rw [hdiv, List.length_take]
                have : min (k : Int).toNat xs.length ≤ 64 := by omega
                calc _ ≤ 64 * 64 := Nat.mul_le_mul this (by omega)
                  _ ≤ _ := by omega)) fun h7 u k7 p7 => p7.from k6))
            fun h6 b k6 p6 => ⟨LI.on p5 k6.kq, by have := p6.list; rw [hdiv] at this; simpa using this⟩)
          (fun h5 a b k5 p5 => ne_L hu p5.1 p5.2))) fun _ b _ e => ?_
      rw [e]; unfold okRoot
      have e1 : ((xs.length : Nat) : Int).fmod (k : Int) = ((xs.length % k : Nat) : Int) := by
        rw [Int.fmod_eq_emod_of_nonneg _ (by omega)]; rfl
      rw [e1]
      by_cases hq : xs.length % k = 0
      · rw [hq]; simp
      · have h0 : ((xs.length % k : Nat) : Int) ≠ 0 := by omega
        have h2 : (((xs.length % k : Nat) : Int) != 0) = true := by simpa using h0
        rw [h2, decide_eq_false hq]; rfl
    · intro b h4 tk4 k4 e
      subst e
      cases hok : okRoot xs k with
      | true =>
        simp only [Bool.not_true, Bool.false_eq_true, if_false]
        refine wpAny_execs_nil ?_
        refine ex_return (ev_loc (Pv := IsI (k : Int)) (F'.up k4) rfl hm2 rfl ⟨t', rfl⟩) fun u h' tk' k5 p => ⟨u, h', tk', rfl, rfl, (F'.up k4).keep.trans k5, k, ⟨hk1, hk2, hok, hno⟩, p⟩
      | false =>
        simp only [Bool.not_false, if_true]
        have hlt : k < xs.length := by
          rcases Nat.lt_or_ge k xs.length with q | q
          · exact q
          · have : k = xs.length := by omega
            rw [this, okRoot_all xs h1] at hok; cases hok
        refine ex_assign (F'.up k4) (ev_add (ev_loc (F'.up k4) rfl hm2 rfl ⟨t', rfl⟩) fun h5 k5 => tr_int) rfl rfl fun h5 v5 h6 tk6 k5 p5 F6 kq6 => wpAny_execs_nil ?_
        obtain ⟨t6, rfl⟩ := p5
        refine ⟨xs.length + 1 - (k + 1), by omega, h6, tk6, k + 1, _, t6, rfl, rfl, by omega, by omega, fun j a b => ?_, F6, ?_, ?_⟩
        · rcases Nat.lt_or_ge j k with q | q
          · exact hno j a q
          · have : j = k := by omega
            rw [this]; exact hok
        · exact hm1
        · rfl
end
end Mine
end
section
open PySem PySem.W PyProof.Rows
set_option maxRecDepth 100000
set_option Elab.async false
namespace Mine
def rightsF (t : Int) : List Int := [t.fmod 512, (t + 73).fmod 512, (t * 3 + 292).fmod 512]
def placesF (draws : List Int) : List Int := [0, 1] ++ ((draws.drop 1).take 2).map fun (x : Int) => x.fmod 3
def oftenF (draws : List Int) : Int := 1 + (draws.take 1).sum.fmod 3
def placesT (draws : List Int) : List Int := (List.replicate (oftenF draws).toNat (placesF draws)).flatten.take 6
def ringF (draws : List Int) : List Int := (placesT draws).map fun p => (rightsF draws.sum).getD p.toNat 0

theorem placesF_mem {draws : List Int} {x : Int} (h : x ∈ placesF draws) : 0 ≤ x ∧ x < 3 := by
  unfold placesF at h
  simp only [List.cons_append, List.nil_append, List.mem_cons, List.mem_map] at h
  rcases h with rfl | rfl | ⟨y, _, rfl⟩
  · omega
  · omega
  · exact ⟨Int.fmod_nonneg_of_pos _ (by omega), Int.fmod_lt_of_pos _ (by omega)⟩
theorem placesF_len (draws : List Int) : 2 ≤ (placesF draws).length ∧ (placesF draws).length ≤ 4 := by
  unfold placesF
  simp only [List.length_append, List.length_cons, List.length_nil, List.length_map, List.length_take, List.length_drop]
  omega
theorem oftenF_bd (draws : List Int) : 1 ≤ oftenF draws ∧ oftenF draws ≤ 3 := by
  unfold oftenF
  have h1 := Int.fmod_nonneg_of_pos (draws.take 1).sum (show (0 : Int) < 3 by omega)
  have h2 := Int.fmod_lt_of_pos (draws.take 1).sum (show (0 : Int) < 3 by omega)
  omega
theorem placesT_mem {draws : List Int} {x : Int} (h : x ∈ placesT draws) : 0 ≤ x ∧ x < 3 := by
  unfold placesT at h
  obtain ⟨l, hl, hx⟩ := List.mem_flatten.mp (List.mem_of_mem_take h)
  rw [(List.mem_replicate.mp hl).2] at hx
  exact placesF_mem hx

section
variable {prog : Program} {w : World} {A : Around} {h : Heap} {mg : Str → Option Value}

theorem ring_spec {f : Addr} {fd : FuncData} {v : Value} {xs : List Int} (G : Gl mg h) (Fr : Free mg) (ao : Ao A 3) (fn : FnI mg h 32 (S "_law_ring") f fd) (hv : ListV IntV h v xs) (hlen : xs.length ≤ 64) :
    Tr prog w A h (call (.ref f) [v]) fun h' u => ListV IntV h' u (ringF xs) := by
  refine tr_call (binds := [(S "draws", v)]) G fn (by have := ao.hd; omega) (fun _ _ _ => rfl) (fun n x hx => ?_) (fun L cd s h₁ tk F hcl => ?_)
  · simp only [List.mem_cons, List.not_mem_nil, or_false] at hx
    subst hx; exact .inl rfl
  · have aod := ao.deeper (env := fe 32 (S "_law_ring") L f cd)
    have hlz : xs.length ≤ sizeLine := by unfold sizeLine; omega
    have hz : ∀ n : Nat, n ≤ 100 → n ≤ sizeLine := fun n hn => by unfold sizeLine; omega
    have RD : ∀ {m cm : Str → Option Value} {h' : Heap}, Fx h (fe 32 (S "_law_ring") L f cd) m cm h' → Rd mg (fe 32 (S "_law_ring") L f cd) h' := fun F => ⟨G.up F.keep, fenv_ge _ _ _ _ _, rfl, Fr⟩
    -- total = sum(draws)
    refine ex_assign F (ev_sum (RD F) aod.hh rfl (fun h2 k2 => ev_loc (F.up k2) rfl rfl rfl (LI.on hv (F.up k2).keep.kq)) rfl) rfl rfl fun h2 vt h3 tk3 k2 p2 F3 kq3 => ?_
    obtain ⟨tt, rfl⟩ := p2
    -- rights = [..]
    refine ex_assignC F3 (tr_List (xs := rightsF xs.sum) lives_int (disp_cons lives_int (ev_mod (by omega) (ev_loc F3 rfl rfl rfl ⟨tt, rfl⟩) fun h4 k4 => tr_int)
      (fun h4 k4 => disp_cons lives_int (ev_mod (by omega) (ev_add (ev_loc (F3.up k4) rfl rfl rfl ⟨tt, rfl⟩) fun h5 k5 => tr_int) fun h5 k5 => tr_int)
        (fun h5 k5 => disp_cons lives_int (ev_mod (by omega) (ev_add (ev_mul (IntMulOk.of_right (by decide)) (ev_loc ((F3.up k4).up k5) rfl rfl rfl ⟨tt, rfl⟩) fun h6 k6 => tr_int) fun h6 k6 => tr_int) fun h6 k6 => tr_int) (fun h6 k6 => disp_nil .nil) rfl) rfl) rfl) (hz _ (by simp [rightsF]))) rfl rfl (hcl (S "rights") _ rfl) rfl
      fun h4 vr h5 tk5 k4 p4 F5 kq5 => ?_
    have hrights : ListV IntV h5 vr (rightsF xs.sum) := LI.on p4.list kq5
    -- places = [0, 1] + [..]
    refine ex_assign F5 (tr_BinOp (T := fun h' v => NewL IntV h5 h' v (placesF xs)) (R := fun a h6 b => ListV IntV h6 a [0, 1] ∧ ListV IntV h6 b (((xs.drop 1).take 2).map fun (x : Int) => x.fmod 3))
      (tr_List (xs := [0, 1]) lives_int (disp_cons lives_int tr_int (fun h6 k6 => disp_cons lives_int tr_int (fun h7 k7 => disp_nil .nil) rfl) rfl) (hz _ (by simp)))
      (fun h6 a k6 p6 => Tr.mono (tr_comp (S := fun x u _ => IntV h u x) (p := fun _ => true) (f := fun (x : Int) => x.fmod 3) (T := IntV) (xs := (xs.drop 1).take 2) lives_int (F5.up k6) rfl
          (Tr.mono (slice_both (a := 1) (b := 3) (by omega) lives_int (ev_loc (F5.up k6) rfl rfl rfl (LI.on hv (F5.up k6).keep.kq)) (fun h7 k7 => tr_int) (fun h7 k7 => tr_int) hlz) fun h7 u k7 p7 => iters_list k7 aod.hh p7.list) (hz _ (by simp; omega))
          (fun C cells sp => body_local rfl fun x u h8 m cm hs F8 hc hb => Tr.mono (ev_mod (by omega) (ev_loc F8 rfl hb rfl hs) fun h9 k9 => tr_int) fun _ _ _ p => off_int p))
          fun h7 b k7 p7 => ⟨LI.on p6.list k7.kq, by have := p7.list; rw [List.filter_eq_self.mpr (by simp)] at this; exact this⟩)
      (fun h6 a b k6 p6 => Tr.mono (op_add lives_int p6.1 p6.2 (hz _ (by simp; omega))) fun h7 u k7 p7 => p7.from k6)) rfl rfl fun h6 vp h7 tk7 k6 p6 F7 kq7 => ?_
    have hplaces : ListV IntV h7 vp (placesF xs) := LI.on p6.list kq7
    have hrights7 : ListV IntV h7 vr (rightsF xs.sum) := LI.on hrights (k6.kq.trans kq7)
    -- often = ..
    refine ex_assign F7 (ev_add (a := 1) tr_int fun h8 k8 => ev_mod (b := 3) (by omega) (ev_sum (RD (F7.up k8)) aod.hh rfl (fun h9 k9 => Tr.mono (slice_upto (k := 1) lives_int (ev_loc ((F7.up k8).up k9) rfl rfl rfl (LI.on hv ((F7.up k8).up k9).keep.kq)) (fun h10 k10 => tr_int) (by omega) hlz) fun _ _ _ p => p.list) rfl) fun h9 k9 => tr_int) rfl rfl
      fun h8 vo h9 tk9 k8 p8 F9 kq9 => ?_
    have hplaces9 : ListV IntV h9 vp (placesF xs) := LI.on hplaces (k8.kq.trans kq9)
    have hrights9 : ListV IntV h9 vr (rightsF xs.sum) := LI.on hrights7 (k8.kq.trans kq9)
    have hoften : IntV h9 vo (oftenF xs) := p8
    have hb := oftenF_bd xs
    have hpl := placesF_len xs
    have hmul : (placesF xs).length * (oftenF xs).toNat ≤ 100 := by
      have : (placesF xs).length * (oftenF xs).toNat ≤ 4 * 3 := Nat.mul_le_mul hpl.2 (by omega)
      omega
    -- return [..]
    refine ex_return (tr_comp (S := fun x u _ => x ∈ placesT xs ∧ IntV h u x) (p := fun _ => true) (f := fun p => (rightsF xs.sum).getD p.toNat 0) (T := IntV) (xs := placesT xs) lives_int F9 rfl
      (Tr.mono (slice_upto (xs := (List.replicate (oftenF xs).toNat (placesF xs)).flatten) (k := 6) lives_int (Tr.mono (tr_BinOp (T := fun h' v => NewL IntV h9 h' v (List.replicate (oftenF xs).toNat (placesF xs)).flatten) (R := fun a h10 b => ListV IntV h10 a (placesF xs) ∧ IntV h10 b (oftenF xs)) (ev_loc (Pv := LI (placesF xs)) F9 rfl rfl rfl hplaces9)
          (fun h10 a k10 p10 => Tr.mono (ev_loc (Pv := IsI (oftenF xs)) (F9.up k10) rfl rfl rfl hoften) fun h11 b k11 p11 => ⟨LI.on p10 k11.kq, p11⟩)
          (fun h10 a b k10 p10 => Tr.mono (op_mul lives_int p10.1 p10.2 (by omega) (by omega) (by omega)) fun h11 u k11 p11 => p11.from k10)) fun _ _ _ p => p.list) (fun h10 k10 => tr_int) (by omega) (hz _ (by rw [flat_len]; rw [Nat.mul_comm]; exact hmul))) fun h10 u k10 p10 => (iters_list k10 aod.hh p10.list).mem)
      (hz _ (by unfold placesT; rw [List.length_take]; omega))
      (fun C cells sp => body_local rfl fun x u h11 m cm hs F11 hc hb' => ?_)) fun u h' tk' k p => ?_
    · have hx := placesT_mem hs.1
      have hc1 : cells.lookup (S "rights") = some (L + 1) := sp.free (S "rights") (by simp)
      have hc2 : cm (S "rights") = some vr := hc (S "rights") (by simp)
      refine Tr.mono (tr_item lives_int (ev_cell F11 rfl hc1 hc2 rfl (LI.on hrights9 F11.keep.kq)) (fun h12 k12 => ev_loc (F11.up k12) rfl hb' rfl hs.2) (x := (rightsF xs.sum).getD x.toNat 0) hx.1 (by omega) ?_ (fun o i => ⟨_, rfl⟩)) fun _ _ _ p => off_int p
      have hlt : x.toNat < (rightsF xs.sum).length := by show x.toNat < 3; omega
      rw [List.getD_eq_getElem?_getD, List.getElem?_eq_getElem hlt]; rfl
    · refine ⟨u, h', tk', rfl, rfl, F9.keep.trans k, ?_⟩
      have := p.list
      rw [List.filter_eq_self.mpr (by simp)] at this
      exact this
end
end Mine
end
section
open PySem PySem.W PyProof.Rows
set_option maxRecDepth 100000
set_option Elab.async false
namespace Mine
def orderF : List Int → List Int → Int
  | a :: as, b :: bs => if a ≠ b then (if a < b then -1 else 1) else orderF as bs
  | _, _ => 0
theorem orderF_drop {xs ys : List Int} {i : Nat} {a b : Int} (ha : xs[i]? = some a) (hb : ys[i]? = some b) : orderF (xs.drop i) (ys.drop i) = if a ≠ b then (if a < b then -1 else 1) else orderF (xs.drop (i + 1)) (ys.drop (i + 1)) := by
  obtain ⟨h1, rfl⟩ := List.getElem?_eq_some_iff.mp ha
  obtain ⟨h2, rfl⟩ := List.getElem?_eq_some_iff.mp hb
  rw [List.drop_eq_getElem_cons h1, List.drop_eq_getElem_cons h2, orderF]
theorem orderF_end {xs ys : List Int} {i : Nat} (h : xs.length ≤ i ∨ ys.length ≤ i) : orderF (xs.drop i) (ys.drop i) = 0 := by
  rcases h with h | h
  · rw [List.drop_of_length_le h]; unfold orderF; rfl
  · rw [List.drop_of_length_le h]; cases xs.drop i <;> rfl

section
variable {prog : Program} {w : World} {A : Around} {h : Heap} {mg : Str → Option Value}

theorem order_spec {f : Addr} {fd : FuncData} {v v' : Value} {xs ys : List Int} (G : Gl mg h) (Fr : Free mg) (ao : Ao A 3) (fn : FnI mg h 34 (S "_law_order") f fd) (hv : ListV IntV h v xs) (hv' : ListV IntV h v' ys) :
    Tr prog w A h (call (.ref f) [v, v']) (IsI (orderF xs ys)) := by
  refine tr_call (binds := [(S "one", v), (S "other", v')]) G fn (by have := ao.hd; omega) (fun _ _ _ => rfl) (fun n x hx => ?_) (fun L cd s h₁ tk F hcl => ?_)
  · simp only [List.mem_cons, List.not_mem_nil, or_false] at hx
    rcases hx with rfl | rfl <;> exact .inl rfl
  · have aod := ao.deeper (env := fe 34 (S "_law_order") L f cd)
    have hh := aod.hh
    have R : Rd mg (fe 34 (S "_law_order") L f cd) h₁ := ⟨G.up F.keep, fenv_ge _ _ _ _ _, rfl, Fr⟩
    obtain ⟨l1, us, rfl, pl1, a1⟩ := hv
    obtain ⟨l2, ws, rfl, pl2, a2⟩ := hv'
    refine wpAny_execs_cons (wpAny_For ?_)
    -- zip(one, other)
    refine Tr.use (s := { s with heap := h₁, toks := tk }) (P := fun h2 z => ∃ z' TI TO i1 i2, z = .ref z' ∧ ZipApart z' TI TO i1 i2 l1 l2 ∧ h₁.get? z' = none ∧ h₁.get? TO = none ∧ h₁.get? i1 = none ∧ h₁.get? i2 = none ∧
        (IsZip h2 z' TI TO .none ∧ IsPair h2 TI (.ref i1) (.ref i2) ∧ (∃ a b, IsPair h2 TO a b) ∧ h2.IsListIter i1 l1 0 ∧ h2.IsListIter i2 l2 0 ∧ h2.IsList l1 us.toArray ∧ h2.IsList l2 ws.toArray))
      (call_t (P1 := fun _ vs => vs = [.ref l1, .ref l2]) (tr_builtin R.G R.ge R.fn rfl R.fr.zip bb_zip rfl (by decide)) (fun h2 k2 => Tr.mono (args2 (P1 := fun _ u => u = .ref l1) (P2 := fun a _ u => a = .ref l1 ∧ u = .ref l2) (ev_loc (F.up k2) rfl rfl rfl rfl)
          (fun h3 u k3 e => Tr.mono (ev_loc (Pv := fun _ u => u = .ref l2) ((F.up k2).up k3) rfl rfl rfl rfl) fun _ _ _ e' => ⟨e, e'⟩) rfl) fun h' vs _ p => ?_) (fun h2 vs k2 p2 => ?_) rfl rfl) ?_
    · obtain ⟨a, b', rfl, rfl, rfl⟩ := p; rfl
    · subst p2
      intro s' Q E hse q; subst hse
      have p1 : s'.heap.IsList l1 us.toArray := (show s'.heap.PlainList l1 us.toArray from by obtain ⟨c, hc⟩ := pl1; exact ⟨c, (F.keep.trans k2) _ _ hc⟩).isList
      have p2 : s'.heap.IsList l2 ws.toArray := (show s'.heap.PlainList l2 ws.toArray from by obtain ⟨c, hc⟩ := pl2; exact ⟨c, (F.keep.trans k2) _ _ hc⟩).isList
      have b1 : l1 < s'.heap.objs.size := by obtain ⟨_, e, _⟩ := p1; exact Heap.lt_size e
      have b2 : l2 < s'.heap.objs.size := by obtain ⟨_, e, _⟩ := p2; exact Heap.lt_size e
      have nn : ∀ a, s'.heap.objs.size ≤ a → h₁.get? a = none := fun a ha => by
        cases e : h₁.get? a with
        | none => rfl
        | some o => exact absurd (Heap.lt_size (k2 _ _ e)) (Nat.not_lt.mpr ha)
      refine call_zip_2 p1 p2 fun h' hz hTI hTO hi1 hi2 _ hk => q _ h' s'.toks hk ⟨_, _, _, _, _, rfl, zipApart_new b1 b2, nn _ (Nat.le_add_right _ _), nn _ (Nat.le_add_right _ _), nn _ (Nat.le_refl _), nn _ (Nat.le_add_right _ _),
        hz, hTI, ⟨_, _, hTO⟩, hi1, hi2, p1.at fun o e => hk _ o e, p2.at fun o e => hk _ o e⟩
    · rintro z h2 tk2 k2 ⟨z', TI, TO, i1, i2, rfl, D, n1, n2, n3, n4, st0⟩
      have W := WalksT.zip2 (prog := prog) (w := w) hh z' TI TO i1 i2 l1 l2 D us.toArray ws.toArray
      refine W.self 0 _ _ _ st0 ?_
      have len1 := a1.length
      have len2 := a2.length
      refine codeAny_forLoop_any (I := fun n s' => ∃ (h' : Heap) (tk' i : Nat) (m' cm' : Str → Option Value), s' = { s with heap := h', toks := tk' } ∧ i ≤ min us.length ws.length ∧ n = min us.length ws.length + 1 - i ∧ orderF xs ys = orderF (xs.drop i) (ys.drop i) ∧
          Fx h (fe 34 (S "_law_order") L f cd) m' cm' h' ∧ (IsZip h' z' TI TO .none ∧ IsPair h' TI (.ref i1) (.ref i2) ∧ (∃ a b, IsPair h' TO a b) ∧ h'.IsListIter i1 l1 i ∧ h'.IsListIter i2 l2 i ∧ h'.IsList l1 us.toArray ∧ h'.IsList l2 ws.toArray)) ?_ (min us.length ws.length + 1)
        ⟨h2, tk2, 0, _, _, rfl, Nat.zero_le _, rfl, rfl, F.up k2, st0⟩
      rintro n s' ⟨h', tk', i, m', cm', rfl, hi, rfl, ho, F', st⟩
      have wrn : ∀ a ∈ [z', TO, i1, i2], h.get? a = none := fun a ha => by
        have : h₁.get? a = none := by
          simp only [List.mem_cons, List.not_mem_nil, or_false] at ha
          rcases ha with rfl | rfl | rfl | rfl <;> assumption
        cases e : h.get? a with
        | none => rfl
        | some o => rw [F.keep _ _ e] at this; cases this
      have wrL : (fe 34 (S "_law_order") L f cd).locals ∉ [z', TO, i1, i2] := fun hm => by
        have h0 : h₁.get? L = none := by
          change L ∈ _ at hm
          simp only [List.mem_cons, List.not_mem_nil, or_false] at hm
          rcases hm with e | e | e | e <;> rw [e] <;> assumption
        obtain ⟨o, _, _, hoo, _⟩ := F.ns
        change h₁.get? L = _ at hoo
        rw [h0] at hoo; cases hoo
      have Fup : ∀ {h'' : Heap}, (∀ b o, b ∉ [z', TO, i1, i2] → h'.get? b = some o → h''.get? b = some o) → Fx h (fe 34 (S "_law_order") L f cd) m' cm' h'' := fun k =>
        ⟨F'.fn, F'.ns.at' fun o e => k _ o wrL e, fun a o e => k a o (fun hm => by rw [wrn a hm] at e; cases e) (F'.keep a o e), F'.fresh, fun n c e => (by cases e), F'.apart⟩
      by_cases hlt : i < min us.length ws.length
      · refine (WalksT.x W (elts := _) (k := _) (pos := _)).turn (by simpa using hlt) st fun u h3 tk3 hP st3 k3 => ?_
        obtain ⟨T, vals, rfl, hT, x, y, hx, hy, rfl⟩ := hP
        obtain ⟨a, hxa, ta, rfl⟩ := a1.get i x (by simpa using hx)
        obtain ⟨b', hyb, tb, rfl⟩ := a2.get i y (by simpa using hy)
        have F3 := Fup k3
        refine assign_pair (s := { s with heap := h3, toks := tk3 }) hh F3 hT rfl rfl fun h4 tk4 F4 k4 => ?_
        have st4 := W.frame _ _ h4 st3 fun b hb o e => k4 b o (fun e' => ?_) e
        · refine ex_if (test_ne (ev_loc F4 rfl rfl rfl ⟨ta, rfl⟩) fun h5 k5 => ev_loc (F4.up k5) rfl rfl rfl ⟨tb, rfl⟩) fun h5 tk5 k5 => ?_
          rw [orderF_drop hxa hyb] at ho
          by_cases hab : a = b'
          · subst hab
            have e : (a != a) = false := by simp
            rw [e, if_neg (by simp)]
            rw [if_neg (by simp)] at ho
            refine wpAny_execs_nil (wpAny_execs_nil ?_)
            exact ⟨min us.length ws.length + 1 - (i + 1), by omega, h5, tk5, i + 1, _, _, rfl, hlt, rfl, ho, F4.up k5, W.frame _ _ h5 st4 fun b _ o e => k5 b o e⟩
          · have e : (a != b') = true := by simpa using hab
            rw [e, if_pos rfl]
            rw [if_pos hab] at ho
            refine ex_return (P := IsI (orderF xs ys)) (tr_IfExp (test_lt (ev_loc (F4.up k5) rfl rfl rfl ⟨ta, rfl⟩) fun h6 k6 => ev_loc ((F4.up k5).up k6) rfl rfl rfl ⟨tb, rfl⟩) (fun hc h6 k6 => ?_) (fun hc h6 k6 => ?_)) fun u h6 tk6 k6 p6 => ?_
            · rw [ho, if_pos (by simpa using hc)]; exact tr_neg tr_int
            · rw [ho, if_neg (by simpa using hc)]; exact tr_int
            · exact ⟨u, h6, tk6, rfl, rfl, (F4.up k5).keep.trans k6, p6⟩
        · -- the frame is no part of the source
          have e2 : b = L := e'
          obtain ⟨oL, es, ep, hoL, hdL, _⟩ := F3.ns
          change h3.get? L = _ at hoL
          rw [← e2] at hoL
          obtain ⟨s1, s2, ⟨_, _, s3⟩, ⟨_, s4, _, s4'⟩, ⟨_, s5, _, s5'⟩, ⟨_, s6, _, _, s6'⟩, ⟨_, s7, _, _, s7'⟩⟩ := st3
          simp only [List.mem_cons, List.not_mem_nil, or_false] at hb
          rcases hb with e | e | e | e | e | e | e <;> rw [e] at hoL
          · unfold IsZip at s1; rw [s1] at hoL; cases hoL; cases hdL
          · unfold IsPair at s2; rw [s2] at hoL; cases hoL; cases hdL
          · unfold IsPair at s3; rw [s3] at hoL; cases hoL; cases hdL
          · rw [s4] at hoL; cases hoL; rw [s4'] at hdL; cases hdL
          · rw [s5] at hoL; cases hoL; rw [s5'] at hdL; cases hdL
          · rw [s6] at hoL; cases hoL; rw [s6'] at hdL; cases hdL
          · rw [s7] at hoL; cases hoL; rw [s7'] at hdL; cases hdL
      · have hin : i = min us.length ws.length := by omega
        subst hin
        refine W.done _ _ _ (by simpa using st) fun h3 tk3 k3 => ?_
        have F3 := Fup k3
        refine wpAny_execs_nil (ex_return (tr_int) fun u h6 tk6 k6 p6 => ⟨u, h6, tk6, rfl, rfl, F3.keep.trans k6, ?_⟩)
        rw [ho, orderF_end (by omega)]; exact p6
end
end Mine
end
section
open PySem PySem.W PyProof.Rows
set_option maxRecDepth 100000
set_option Elab.async false
namespace Mine
abbrev LS (xs : List Str) : Heap → Value → Prop := IsL StrV xs
theorem LS.on {xs : List Str} {h h' : Heap} {v : Value} (x : ListV StrV h v xs) (k : Kq h h') : ListV StrV h' v xs := lives_list lives_str _ _ _ _ k x
def cmpF (xs ys : List Str) : Int := (if lexF gtS xs ys then 1 else 0) - (if lexF ltS xs ys then 1 else 0)

section
variable {prog : Program} {w : World} {A : Around} {h : Heap} {mg : Str → Option Value}
theorem cmp_spec {f : Addr} {fd : FuncData} {v v' : Value} {xs ys : List Str} (G : Gl mg h) (ao : Ao A 3) (fn : FnI mg h 29 (S "three_way_cmp") f fd) (hv : ListV StrV h v xs) (hv' : ListV StrV h v' ys) (hsz : xs.length = ys.length) :
    Tr prog w A h (call (.ref f) [v, v']) (IsI (cmpF xs ys)) := by
  refine tr_call (binds := [(S "x", v), (S "y", v')]) G fn (by have := ao.hd; omega) (fun _ _ _ => rfl) (fun n x hx => ?_) (fun L cd s h₁ tk F hcl => ?_)
  · simp only [List.mem_cons, List.not_mem_nil, or_false] at hx
    rcases hx with rfl | rfl <;> exact .inl rfl
  · have aod := ao.deeper (env := fe 29 (S "three_way_cmp") L f cd)
    have hu : (A.deeper (fe 29 (S "three_way_cmp") L f cd)).units + 64 < cLine := by have := aod.hu; omega
    have X : ∀ {h2 : Heap} (k2 : Keep h₁ h2) (px : Pos), Tr prog w (A.deeper (fe 29 (S "three_way_cmp") L f cd)) h2 (eval (.Name (S "x") px) (fe 29 (S "three_way_cmp") L f cd)) (LS xs) := fun k2 px => ev_loc (F.up k2) rfl rfl rfl (LS.on hv (F.up k2).keep.kq)
    have Y : ∀ {h2 : Heap} (k2 : Keep h₁ h2) (px : Pos), Tr prog w (A.deeper (fe 29 (S "three_way_cmp") L f cd)) h2 (eval (.Name (S "y") px) (fe 29 (S "three_way_cmp") L f cd)) (LS ys) := fun k2 px => ev_loc (F.up k2) rfl rfl rfl (LS.on hv' (F.up k2).keep.kq)
    refine ex_return (P := IsI (cmpF xs ys)) (tr_BinOp (R := fun a _ b => a = .bool (lexF gtS xs ys) ∧ b = .bool (lexF ltS xs ys))
      (tr_Compare (T := IsB (lexF gtS xs ys)) (R := fun a h3 b => ListV StrV h3 a xs ∧ ListV StrV h3 b ys) (X (Keep.refl _) _) (fun h2 a k2 p2 => Tr.mono (Y k2 _) fun h3 b k3 p3 => ⟨LS.on p2 k3.kq, p3⟩) (fun h2 a b k2 p2 => cmpL_gt hu p2.1 p2.2 hsz))
      (fun h2 a k2 p2 => Tr.mono (tr_Compare (T := IsB (lexF ltS xs ys)) (R := fun a h3 b => ListV StrV h3 a xs ∧ ListV StrV h3 b ys) (X k2 _) (fun h3 a k3 p3 => Tr.mono (Y (k2.trans k3) _) fun h4 b k4 p4 => ⟨LS.on p3 k4.kq, p4⟩) (fun h3 a b k3 p3 => cmpL_lt hu p3.1 p3.2 hsz)) fun h3 b k3 p3 => ⟨p2, p3⟩)
      (fun h2 a b k2 p2 => ?_)) fun u h' tk' k p => ⟨u, h', tk', rfl, rfl, F.keep.trans k, p⟩
    obtain ⟨rfl, rfl⟩ := p2
    exact op_sub_bool
end
end Mine
end
section
open PySem PySem.W PyProof.Rows PySem.W.KXs
set_option maxRecDepth 100000
set_option Elab.async false
namespace Mine
/-- a text that lower leaves as it is, without a digit -/
structure Label (x : Str) : Prop where
  still : Still x
  nodigit : NoDigit x.cps
  len : x.length ≤ 1000

section
variable {prog : Program} {w : World} {A : Around} {h : Heap} {mg : Str → Option Value}
theorem test_none {env : Env} {e : Expr} (he : Tr prog w A h (eval e env) fun _ v => v = .none) (hp : isTrue e env (eval e env) = (do let v ← eval e env; standAt e.pos; holding [v] (truthy v)) := by rfl) :
    Tr prog w A h (isTrue e env (eval e env)) fun _ b => b = false := by
  intro s Q E hs q; subst hs
  refine isTrue_plain (he.use fun v h1 t1 k1 p1 => ?_) hp
  subst p1
  exact wpAny_pure (q _ h1 t1 k1 rfl)

theorem patT {p : Addr} : ∀ (s : Shared) (ov : Value), (ov = .ref p ∧ IsPat s.heap p) → s.TypeIs ov "re.Pattern" ∧ ∀ a, ov = .ref a → ∃ ob, s.heap.get? a = some ob ∧ ob.dict = none := by
  rintro s ov ⟨rfl, hp⟩
  obtain ⟨o, _, _, _, _, _, h1, h2, h3, _⟩ := hp.get
  exact ⟨⟨o, h1, h2⟩, fun a e => by cases e; exact ⟨o, h1, h3⟩⟩

theorem hdn_spec {f p : Addr} {fd : FuncData} {v : Value} {x : Str} (G : Gl mg h) (ao : Ao A 3) (fn : FnI mg h 3 (S "liberal_is_HDN") f fd) (hg : mg (S "IPV4_RE") = some (.ref p)) (hp : IsPat h p) (hv : StrV h v x) (hx : Label x) :
    Tr prog w A h (call (.ref f) [v]) (IsB true) := by
  refine tr_call (binds := [(S "text", v)]) G fn (by have := ao.hd; omega) (fun _ _ _ => rfl) (fun n x hx => ?_) (fun L cd s h₁ tk F hcl => ?_)
  · simp only [List.mem_cons, List.not_mem_nil, or_false] at hx
    subst hx; exact .inl rfl
  · obtain ⟨t, rfl⟩ := hv
    have ge : GEnv (fe 3 (S "liberal_is_HDN") L f cd) := fenv_ge _ _ _ _ _
    refine ex_if (test_none (meth1 (Po := fun h' ov => ov = .ref p ∧ IsPat h' p) (Pa := fun ov h' u => ov = .ref p ∧ IsPat h' p ∧ u = .str x t) plainAttrs_pattern slot_search type_search
      (Tr.mono (tr_global (G.up F.keep) ge rfl rfl hg rfl) fun h' u k e => ⟨e, hp.up (F.keep.trans k)⟩) patT (fun h2 ov k2 p2 => Tr.mono (ev_loc (Pv := fun _ u => u = .str x t) (F.up k2) rfl rfl rfl rfl) fun h3 u k3 e => ⟨p2.1, p2.2.up k3, e⟩)
      (fun h2 ov u k2 p2 => ?_) rfl rfl rfl)) fun h2 tk2 k2 => ?_
    · obtain ⟨rfl, hp', rfl⟩ := p2
      exact call_search hp' hx.nodigit (by have := hx.len; omega)
    · rw [if_neg (by simp)]
      refine wpAny_execs_nil ?_
      exact ex_return tr_bool fun u h' tk' k p => ⟨u, h', tk', rfl, rfl, (F.keep.trans k2).trans k, p⟩

theorem udm_spec {f f1 p : Addr} {fd fd1 : FuncData} {v v' : Value} {x y : Str} (G : Gl mg h) (ao : Ao A 4) (fn : FnI mg h 4 (S "user_domain_match") f fd) (fn1 : FnI mg h 3 (S "liberal_is_HDN") f1 fd1)
    (hg : mg (S "IPV4_RE") = some (.ref p)) (hp : IsPat h p) (hv : StrV h v x) (hv' : StrV h v' y) (hx : Label x) (hy : Label y) (hd : Txt.startswith y (S ".") = true) :
    Tr prog w A h (call (.ref f) [v, v']) (IsB (Txt.endswith x y)) := by
  refine tr_call (binds := [(S "A", v), (S "B", v')]) G fn (by have := ao.hd; omega) (fun _ _ _ => rfl) (fun n x hx => ?_) (fun L cd s h₁ tk F hcl => ?_)
  · simp only [List.mem_cons, List.not_mem_nil, or_false] at hx
    rcases hx with rfl | rfl <;> exact .inl rfl
  · have aod := ao.deeper (env := fe 4 (S "user_domain_match") L f cd)
    have ge : GEnv (fe 4 (S "user_domain_match") L f cd) := fenv_ge _ _ _ _ _
    obtain ⟨o1, ho1, hd1⟩ := fn1.obj
    refine ex_assign F (ev_lower hx.still (by have := hx.len; omega) (ev_loc F rfl rfl rfl hv) rfl rfl) rfl rfl fun h2 va h3 tk3 k2 pa F3 kq3 => ?_
    refine ex_assign F3 (ev_lower hy.still (by have := hy.len; omega) (ev_loc F3 rfl rfl rfl hv') rfl rfl) rfl rfl fun h4 vb h5 tk5 k4 pb F5 kq5 => ?_
    have A5 : ∀ {h6 : Heap} (k6 : Keep h5 h6) (px : Pos), Tr prog w (A.deeper (fe 4 (S "user_domain_match") L f cd)) h6 (eval (.Name (S "A") px) (fe 4 (S "user_domain_match") L f cd)) (IsS x) := fun k6 px => ev_loc (F5.up k6) rfl rfl rfl pa
    have B5 : ∀ {h6 : Heap} (k6 : Keep h5 h6) (px : Pos), Tr prog w (A.deeper (fe 4 (S "user_domain_match") L f cd)) h6 (eval (.Name (S "B") px) (fe 4 (S "user_domain_match") L f cd)) (IsS y) := fun k6 px => ev_loc (F5.up k6) rfl rfl rfl pb
    have hdn : ∀ {h6 : Heap} (k6 : Keep h5 h6) {z : Str} {e : Expr} {px pos : Pos}, Label z → (∀ h7, Keep h6 h7 → Tr prog w (A.deeper (fe 4 (S "user_domain_match") L f cd)) h7 (eval e (fe 4 (S "user_domain_match") L f cd)) (IsS z)) →
        starEach [e] (fe 4 (S "user_domain_match") L f cd) = [(false, eval e (fe 4 (S "user_domain_match") L f cd))] →
        Tr prog w (A.deeper (fe 4 (S "user_domain_match") L f cd)) h6 (eval (.Call (.Name (S "liberal_is_HDN") px) [e] [] pos) (fe 4 (S "user_domain_match") L f cd)) fun _ v => v = .bool true := by
      intro h6 k6 z e px pos hz he hst
      have kk : Keep h h6 := F5.keep.trans k6
      refine call_d (tr_global (G.up kk) ge rfl rfl fn1.glob rfl) (kk _ _ ho1) hd1 (fun h7 k7 => args1 (he h7 k7) hst) (fun h7 vs k7 p7 => ?_) hst
      obtain ⟨u, rfl, pu⟩ := p7
      exact hdn_spec (G.up (kk.trans k7)) aod (fn1.up (kk.trans k7)) hg (hp.up (kk.trans k7)) pu hz
    -- both are such names
    refine ex_if (c := false) (Tr.mono (test_not (test_and (test_val (hdn (Keep.refl _) hx (fun h7 k7 => A5 k7 _) rfl)) fun h6 k6 _ => test_val (hdn k6 hy (fun h7 k7 => B5 (k6.trans k7) _) rfl))) fun _ b _ e => by rw [e]; rfl) fun h6 tk6 k6 => ?_
    rw [if_neg (by simp)]
    refine wpAny_execs_nil ?_
    refine ex_assign (s := { s with heap := h6, toks := tk6 }) (F5.up k6) (ev_starts (B5 k6 _) (fun h7 k7 => tr_str) rfl rfl rfl) rfl rfl fun h7 vd h8 tk8 k7 pd F8 kq8 => ?_
    have pd' : vd = .bool true := by rw [← hd]; exact pd
    subst pd'
    have A8 : ∀ {h6 : Heap} (k6 : Keep h8 h6) (px : Pos), Tr prog w (A.deeper (fe 4 (S "user_domain_match") L f cd)) h6 (eval (.Name (S "A") px) (fe 4 (S "user_domain_match") L f cd)) (IsS x) := fun k6 px => ev_loc (F8.up k6) rfl rfl rfl pa
    have B8 : ∀ {h6 : Heap} (k6 : Keep h8 h6) (px : Pos), Tr prog w (A.deeper (fe 4 (S "user_domain_match") L f cd)) h6 (eval (.Name (S "B") px) (fe 4 (S "user_domain_match") L f cd)) (IsS y) := fun k6 px => ev_loc (F8.up k6) rfl rfl rfl pb
    refine ex_if (c := Txt.endswith x y) (Tr.mono (test_and (test_val (ev_loc F8 rfl rfl rfl rfl)) fun h9 k9 _ => test_val (ev_ends (A8 k9 _) (fun h10 k10 => B8 (k9.trans k10) _) rfl rfl rfl)) fun _ b _ e => by rw [e]; rfl) fun h9 tk9 k9 => ?_
    cases he : Txt.endswith x y with
    | true =>
      rw [if_pos rfl]
      exact ex_return tr_bool fun u h' tk' k p => ⟨u, h', tk', rfl, rfl, (F8.keep.trans k9).trans k, p⟩
    | false =>
      rw [if_neg (by simp)]
      refine wpAny_execs_nil ?_
      refine ex_if (s := { s with heap := h9, toks := tk9 }) (c := false) (Tr.mono (test_and (d := true) (test_not (test_val (ev_loc (F8.up k9) rfl rfl rfl rfl))) fun h10 k10 hc => by cases hc) fun _ b _ e => by rw [e]; rfl) fun h10 tk10 k10 => ?_
      rw [if_neg (by simp)]
      refine wpAny_execs_nil ?_
      exact ex_return tr_bool fun u h' tk' k p => ⟨u, h', tk', rfl, rfl, ((F8.keep.trans k9).trans k10).trans k, p⟩
end
end Mine
end
section
open PySem PySem.W PyProof.Rows
set_option maxRecDepth 100000
set_option Elab.async false
namespace Mine
/-- tuples, pairs of the table -/
def TupV {α : Type} (P : V α) : V (List α) := fun h v xs => ∃ l vs, v = .ref l ∧ h.IsTuple l vs.toArray ∧ All2 (P h) vs xs
def PairV : V (Int × Str) := fun h v x => ∃ l t u, v = .ref l ∧ h.IsTuple l #[.int x.1 t, .str x.2 u]
theorem PairV.up {h h' : Heap} {v : Value} {x : Int × Str} (p : PairV h v x) (k : Keep h h') : PairV h' v x := by
  obtain ⟨l, t, u, e, ht⟩ := p
  exact ⟨l, t, u, e, IsTuple_at ht fun o e => k _ _ e⟩
theorem TupV.up {α : Type} {P : V α} (hP : ∀ {h h' : Heap} {v : Value} {x : α}, P h v x → Keep h h' → P h' v x) {h h' : Heap} {v : Value} {xs : List α} (p : TupV P h v xs) (k : Keep h h') : TupV P h' v xs := by
  obtain ⟨l, vs, e, ht, ha⟩ := p
  exact ⟨l, vs, e, IsTuple_at ht fun o e => k _ _ e, ha.imp fun v x q => hP q k⟩

def hitF (index : Nat) (mode bit : Int) : Bool := if index = 0 then Builtin.bitAnd mode 61440 == bit else Builtin.bitAnd mode bit == bit
def charF (index : Nat) (mode : Int) (es : List (Int × Str)) : Str := match es.find? (fun p => hitF index mode p.1) with
  | some p => p.2
  | none => if index = 0 then S "?" else S "-"

noncomputable def rowBody : List Stmt := match (bodyOf (stAt 27)) with | _ :: .For _ _ body _ _ :: _ => body | _ => []

section
variable {prog : Program} {w : World} {A : Around} {h : Heap} {mg : Str → Option Value}
theorem ifmt_spec {f : Addr} {fd : FuncData} {v : Value} {n : Int} (G : Gl mg h) (ao : Ao A 2) (fn : FnI mg h 6 (S "S_IFMT") f fd) (hv : IntV h v n) :
    Tr prog w A h (call (.ref f) [v]) (IsI (Builtin.bitAnd n 61440)) := by
  refine tr_call (binds := [(S "mode", v)]) G fn (by have := ao.hd; omega) (fun _ _ _ => rfl) (fun n x hx => ?_) (fun L cd s h₁ tk F hcl => ?_)
  · simp only [List.mem_cons, List.not_mem_nil, or_false] at hx
    subst hx; exact .inl rfl
  · exact ex_return (ev_and (ev_loc F rfl rfl rfl hv) fun h2 k2 => tr_int) fun u h' tk' k p => ⟨u, h', tk', rfl, rfl, F.keep.trans k, p⟩

/-- one row of the table -/
theorem row_step {f f1 : Addr} {fd1 : FuncData} {L : Addr} {cd : Value} {m cm : Str → Option Value} {s : Shared} {p : Addr} {perms : List Value} {i : Nat} {ti tm : Tok} {mode : Int} {vt : Value} {es : List (Int × Str)} {Q : Flow → Shared → Prop} {E : Value → Shared → Prop}
    (G : Gl mg h) (ao : Ao A 3) (fn1 : FnI mg h 6 (S "S_IFMT") f1 fd1) (F : Fx h (fe 27 (S "filemode") L f cd) m cm s.heap)
    (h1 : m (S "perm") = some (.ref p)) (h2 : m (S "mode") = some (.int mode tm)) (h3 : m (S "index") = some (.int i ti)) (h4 : m (S "table") = some vt) (ht : TupV PairV h vt es) (hp : s.heap.PlainList p perms.toArray) (hpb : h.get? p = none) (hsz : perms.length ≤ 100)
    (q : ∀ h' tk m' c t, c = charF i mode es → Fx h (fe 27 (S "filemode") L f cd) m' cm h' → m' (S "perm") = some (.ref p) → m' (S "mode") = some (.int mode tm) → h'.PlainList p (perms ++ [Value.str c t]).toArray →
      (∀ a o, a ≠ L → a ≠ p → s.heap.get? a = some o → h'.get? a = some o) → Q .next { s with heap := h', toks := tk }) :
    wpAny (model prog w) A (execs rowBody (fe 27 (S "filemode") L f cd)) Q E s := by
  obtain ⟨l, vs, rfl, htup, ha⟩ := ht
  obtain ⟨o1, ho1, hd1⟩ := fn1.obj
  have ge : GEnv (fe 27 (S "filemode") L f cd) := fenv_ge _ _ _ _ _
  have hlt : l ≠ s.heap.objs.size := by obtain ⟨o, ho, _⟩ := htup; exact Nat.ne_of_lt (Heap.lt_size (F.keep _ _ ho))
  have htup' : s.heap.IsTuple l vs.toArray := IsTuple_at htup fun o e => F.keep _ _ e
  refine wpAny_execs_cons (wpAny_For (Tr.use (P := fun _ u => u = .ref l) (ev_loc F rfl h4 rfl rfl) fun u h5 tk5 k5 e => ?_))
  subst e
  have F5 := F.up k5
  have htup5 : h5.IsTuple l vs.toArray := IsTuple_at htup' fun o e => k5 _ _ e
  have hlt5 : l ≠ h5.objs.size := by obtain ⟨o, ho, _⟩ := htup5; exact Nat.ne_of_lt (Heap.lt_size ho)
  have hp5 : h5.PlainList p perms.toArray := by obtain ⟨n, hn⟩ := hp; exact ⟨n, k5 _ _ hn⟩
  refine wpAny_pyIter_tuple (s := { s with heap := h5, toks := tk5 }) htup5 ?_
  have W := walks_tuple_pairs (prog := prog) (w := w) (A := A) (elts := [.Name (S "bit") ⟨47, 12, 47, 15⟩, .Name (S "char") ⟨47, 17, 47, 21⟩]) (k := 0) (pos := ⟨47, 12, 47, 21⟩) ao.hh h5.objs.size l hlt5 vs.toArray
  generalize hI : h5.objs.size = I at W hlt5 ⊢
  have hIh : h.get? I = none := by
    cases e : h.get? I with
    | none => rfl
    | some o => exact absurd (Heap.lt_size (F5.keep _ _ e)) (by rw [hI]; exact Nat.lt_irrefl _)
  have hIn : h5.get? I = none := by rw [← hI]; exact size_none h5
  have hIL : L ≠ I := by
    rintro rfl
    obtain ⟨o, _, _, ho, _⟩ := F5.ns
    change h5.get? L = _ at ho
    rw [hIn] at ho; cases ho
  have hpI : p ≠ I := by rintro rfl; obtain ⟨n, hn⟩ := hp5; rw [hIn] at hn; cases hn
  have len := ha.length
  refine codeAny_forLoop_any (I := fun n s' => ∃ (h' : Heap) (tk' j : Nat) (m' : Str → Option Value), s' = { s with heap := h', toks := tk' } ∧ j ≤ vs.length ∧ n = vs.length + 1 - j ∧ (∀ x ∈ es.take j, hitF i mode x.1 = false) ∧
      Fx h (fe 27 (S "filemode") L f cd) m' cm h' ∧ m' (S "perm") = some (.ref p) ∧ m' (S "mode") = some (.int mode tm) ∧ m' (S "index") = some (.int i ti) ∧ h'.PlainList p perms.toArray ∧ (h'.IsTupleIter I l j ∧ h'.IsTuple l vs.toArray) ∧
      (∀ a o, a ≠ L → a ≠ I → h5.get? a = some o → h'.get? a = some o)) ?_ (vs.length + 1)
    ⟨_, tk5, 0, m, rfl, Nat.zero_le _, rfl, by simp, F5.up (Keep.push _ _), h1, h2, h3, (by obtain ⟨n, hn⟩ := hp5; exact ⟨n, Heap.get?_push_of_some _ hn⟩), ⟨⟨_, by rw [← hI]; exact new_get _ _ rfl, rfl, rfl⟩, htup5.push _⟩, fun a o _ _ e => Heap.get?_push_of_some _ e⟩
  rintro n s' ⟨h', tk', j, m', rfl, hj, rfl, hno, F', g1, g2, g3, hp', st, hk⟩
  have Fup : ∀ {h'' : Heap}, (∀ b o, b ∉ [I] → h'.get? b = some o → h''.get? b = some o) → Fx h (fe 27 (S "filemode") L f cd) m' cm h'' := fun k =>
    ⟨F'.fn, F'.ns.at' fun o e => k _ o (fun hm => hIL (List.mem_singleton.mp hm)) e, fun a o e => k a o (fun hm => by simp at hm; rw [hm, hIh] at e; cases e) (F'.keep a o e), F'.fresh, fun n c e => (by cases e), F'.apart⟩
  -- the last word: a sign is appended
  have fin : ∀ {h9 : Heap} {tk9 : Nat} {m9 : Str → Option Value} {e : Expr} {c : Str} {p1 p2 p3 p4 : Pos} {Q' : Flow → Shared → Prop} {E' : Value → Shared → Prop} {rest : List Stmt}, Fx h (fe 27 (S "filemode") L f cd) m9 cm h9 → m9 (S "perm") = some (.ref p) → m9 (S "mode") = some (.int mode tm) → h9.PlainList p perms.toArray →
      (∀ a o, a ≠ L → a ≠ I → h5.get? a = some o → h9.get? a = some o) → (∀ h1, Keep h9 h1 → Tr prog w A h1 (eval e (fe 27 (S "filemode") L f cd)) (IsS c)) → c = charF i mode es → (p2.endLine == p3.line) = true →
      starEach [e] (fe 27 (S "filemode") L f cd) = [(false, eval e (fe 27 (S "filemode") L f cd))] → swapsWith (.Call (.Attribute (.Name (S "perm") p1) "append" p2) [e] [] p3) none p4.line (fe 27 (S "filemode") L f cd) = pure false →
      (∀ s9, Q .next s9 → wpAny (model prog w) A (execs rest (fe 27 (S "filemode") L f cd)) Q' E' s9) →
      wpAny (model prog w) A (execs (.Expr (.Call (.Attribute (.Name (S "perm") p1) "append" p2) [e] [] p3) p4 :: rest) (fe 27 (S "filemode") L f cd)) Q' E' { s with heap := h9, toks := tk9 } := by
    intro h9 tk9 m9 e c p1 p2 p3 p4 Q' E' rest F9 a1 a2 hp9 hk9 he hc hl hst hsw hq
    refine ex_append (s := { s with heap := h9, toks := tk9 }) F9 (ev_loc F9 rfl a1 rfl rfl) hp9 he hpb (by rw [List.size_toArray]; unfold sizeLine; omega) rfl hl hst rfl hsw fun h10 v h11 tk11 k10 pv F11 hl11 hs11 => hq _ ?_
    obtain ⟨tv, rfl⟩ := pv
    refine q h11 tk11 m9 c tv hc F11 a1 a2 (by simpa using hl11) fun a o na np ea => ?_
    have ea5 := k5 a o ea
    refine hs11.extBut a o np (k10 a o (hk9 a o na (fun x => by rw [x, hIn] at ea5; cases ea5) ea5))
  by_cases hlt' : j < vs.length
  · refine W.turn (by simpa using hlt') st fun u h6 tk6 hP st6 k6 => ?_
    have F6 := Fup k6
    obtain ⟨x, hx, lp, tb, tc, rfl, hpair⟩ := ha.get j u (by simpa using hP)
    have hpair6 : h6.IsTuple lp #[.int x.1 tb, .str x.2 tc] := IsTuple_at hpair fun o e => F6.keep _ _ e
    refine assign_pair (s := { s with heap := h6, toks := tk6 }) ao.hh F6 hpair6 rfl rfl fun h7 tk7 F7 k7 => ?_
    have hp6 : h6.PlainList p perms.toArray := by obtain ⟨n, hn⟩ := hp'; exact ⟨n, k6 _ _ (by simpa using hpI) hn⟩
    have hpL : p ≠ L := by
      rintro rfl
      obtain ⟨o, _, _, ho, hd, _⟩ := F6.ns
      change h6.get? p = _ at ho
      obtain ⟨n, hn⟩ := hp6; rw [hn] at ho; cases ho; cases hd
    have hp7 : h7.PlainList p perms.toArray := by obtain ⟨n, hn⟩ := hp6; exact ⟨n, k7 _ _ hpL hn⟩
    have hlL : l ≠ L := by
      rintro rfl
      obtain ⟨o, _, _, ho, hd, _⟩ := F6.ns
      change h6.get? l = _ at ho
      obtain ⟨o', hn, _, _, hd'⟩ := st6.2; rw [hn] at ho; cases ho; rw [hd'] at hd; cases hd
    have st7 : h7.IsTupleIter I l (j + 1) ∧ h7.IsTuple l vs.toArray := W.frame _ _ h7 st6 fun b hb o e => k7 b o (fun e' => by
      change b = L at e'
      simp only [List.mem_cons, List.not_mem_nil, or_false] at hb
      rcases hb with r | r
      · exact hIL (e'.symm.trans r)
      · exact hlL (r.symm.trans e')) e
    have hk7 : ∀ a o, a ≠ L → a ≠ I → h5.get? a = some o → h7.get? a = some o := fun a o na ni ea => k7 a o na (k6 a o (by simpa using ni) (hk a o na ni ea))
    have found : hitF i mode x.1 = true → x.2 = charF i mode es := fun hh => by
      unfold charF
      have hsplit : es = es.take j ++ x :: es.drop (j + 1) := by
        obtain ⟨hlt2, rfl⟩ := List.getElem?_eq_some_iff.mp hx
        rw [← List.drop_eq_getElem_cons hlt2, List.take_append_drop]
      have : es.find? (fun p => hitF i mode p.1) = some x := by
        rw [hsplit, List.find?_append]
        have : (es.take j).find? (fun p => hitF i mode p.1) = none := by
          rw [List.find?_eq_none]; intro y hy; rw [hno y hy]; simp
        rw [this, List.find?_cons, hh]; rfl
      rw [this]
    have goon : hitF i mode x.1 = false → ∀ {h8 : Heap} {tk8 : Nat}, Keep h7 h8 → ∃ k, k < vs.length + 1 - j ∧ ∃ (h' : Heap) (tk' j : Nat) (m' : Str → Option Value), ({ s with heap := h8, toks := tk8 } : Shared) = { s with heap := h', toks := tk' } ∧ j ≤ vs.length ∧ k = vs.length + 1 - j ∧ (∀ x ∈ es.take j, hitF i mode x.1 = false) ∧
      Fx h (fe 27 (S "filemode") L f cd) m' cm h' ∧ m' (S "perm") = some (.ref p) ∧ m' (S "mode") = some (.int mode tm) ∧ m' (S "index") = some (.int i ti) ∧ h'.PlainList p perms.toArray ∧ (h'.IsTupleIter I l j ∧ h'.IsTuple l vs.toArray) ∧
      (∀ a o, a ≠ L → a ≠ I → h5.get? a = some o → h'.get? a = some o) := fun hh h8 tk8 k8 =>
      ⟨vs.length + 1 - (j + 1), by omega, h8, tk8, j + 1, _, rfl, hlt', rfl, (by
        rw [List.take_add_one, hx]; intro y hy
        rcases List.mem_append.mp hy with r | r
        · exact hno y r
        · simp at r; rw [r]; exact hh), F7.up k8, g1, g2, g3, (by obtain ⟨n, hn⟩ := hp7; exact ⟨n, k8 _ _ hn⟩), W.frame _ _ h8 st7 fun b _ o e => k8 b o e, fun a o na ni ea => k8 a o (hk7 a o na ni ea)⟩
    -- if index == 0
    refine ex_if (s := { s with heap := h7, toks := tk7 }) (test_eq (ev_loc F7 rfl g3 rfl ⟨ti, rfl⟩) fun h8 k8 => tr_int) fun h8 tk8 k8 => ?_
    have F8 := F7.up k8
    have hp8 : h8.PlainList p perms.toArray := by obtain ⟨n, hn⟩ := hp7; exact ⟨n, k8 _ _ hn⟩
    have hk8 : ∀ a o, a ≠ L → a ≠ I → h5.get? a = some o → h8.get? a = some o := fun a o na ni ea => k8 a o (hk7 a o na ni ea)
    by_cases hi0 : i = 0
    · have e0 : (((i : Nat) : Int) == 0) = true := by simp [hi0]
      rw [e0, if_pos rfl]
      refine ex_if (s := { s with heap := h8, toks := tk8 }) (c := hitF i mode x.1) (Tr.mono (test_eq (a := Builtin.bitAnd mode 61440) (b := x.1) (call_d (tr_global (G.up F8.keep) ge rfl rfl fn1.glob rfl) (F8.keep _ _ ho1) hd1 (fun h9 k9 => args1 (ev_loc (Pv := IsI mode) (F8.up k9) rfl g2 rfl ⟨tm, rfl⟩) rfl) (fun h9 us k9 p9 => ?_) rfl)
        (fun h9 k9 => ev_loc (F8.up k9) rfl rfl rfl ⟨tb, rfl⟩)) fun _ b _ e => by rw [e]; unfold hitF; rw [if_pos hi0]) fun h9 tk9 k9 => ?_
      · obtain ⟨u, rfl, pu⟩ := p9
        exact ifmt_spec (G.up (F8.up k9).keep) ⟨ao.hh, by have := ao.hd; omega, by have := ao.hu; omega⟩ (fn1.up (F8.up k9).keep) pu
      cases hh : hitF i mode x.1 with
      | true =>
        rw [if_pos rfl]
        refine fin (F8.up k9) g1 g2 (by obtain ⟨n, hn⟩ := hp8; exact ⟨n, k9 _ _ hn⟩) (fun a o na ni ea => k9 a o (hk8 a o na ni ea)) (fun h10 k10 => ev_loc ((F8.up k9).up k10) rfl rfl rfl ⟨tc, rfl⟩) (found hh) rfl rfl rfl fun s9 hq => ?_
        exact wpAny_execs_cons (wpAny_Break (wpAny_execs_nil hq))
      | false =>
        rw [if_neg (by simp)]
        refine wpAny_execs_nil (wpAny_execs_nil (wpAny_execs_nil ?_))
        exact goon hh (k8.trans k9)
    · have e0 : (((i : Nat) : Int) == 0) = false := by simp [hi0]
      rw [e0, if_neg (by simp)]
      refine ex_if (s := { s with heap := h8, toks := tk8 }) (c := hitF i mode x.1) (Tr.mono (test_eq (a := Builtin.bitAnd mode x.1) (b := x.1) (ev_and (ev_loc F8 rfl g2 rfl ⟨tm, rfl⟩) fun h9 k9 => ev_loc (F8.up k9) rfl rfl rfl ⟨tb, rfl⟩)
        (fun h9 k9 => ev_loc (F8.up k9) rfl rfl rfl ⟨tb, rfl⟩)) fun _ b _ e => by rw [e]; unfold hitF; rw [if_neg hi0]) fun h9 tk9 k9 => ?_
      cases hh : hitF i mode x.1 with
      | true =>
        rw [if_pos rfl]
        refine fin (F8.up k9) g1 g2 (by obtain ⟨n, hn⟩ := hp8; exact ⟨n, k9 _ _ hn⟩) (fun a o na ni ea => k9 a o (hk8 a o na ni ea)) (fun h10 k10 => ev_loc ((F8.up k9).up k10) rfl rfl rfl ⟨tc, rfl⟩) (found hh) rfl rfl rfl fun s9 hq => ?_
        exact wpAny_execs_cons (wpAny_Break (wpAny_execs_nil hq))
      | false =>
        rw [if_neg (by simp)]
        refine wpAny_execs_nil (wpAny_execs_nil (wpAny_execs_nil ?_))
        exact goon hh (k8.trans k9)
  · have hin : j = vs.length := by omega
    subst hin
    refine W.done _ _ _ (by simpa using st) fun h6 tk6 k6 => ?_
    have F6 := Fup k6
    have hp6 : h6.PlainList p perms.toArray := by obtain ⟨n, hn⟩ := hp'; exact ⟨n, k6 _ _ (by simpa using hpI) hn⟩
    have hk6 : ∀ a o, a ≠ L → a ≠ I → h5.get? a = some o → h6.get? a = some o := fun a o na ni ea => k6 a o (by simpa using ni) (hk a o na ni ea)
    have none : es.find? (fun p => hitF i mode p.1) = none := by
      rw [List.find?_eq_none]; intro y hy
      rw [len, List.take_length] at hno
      rw [hno y hy]; simp
    refine ex_if (s := { s with heap := h6, toks := tk6 }) (test_eq (ev_loc F6 rfl g3 rfl ⟨ti, rfl⟩) fun h8 k8 => tr_int) fun h8 tk8 k8 => ?_
    have F8 := F6.up k8
    have hp8 : h8.PlainList p perms.toArray := by obtain ⟨n, hn⟩ := hp6; exact ⟨n, k8 _ _ hn⟩
    have hk8 : ∀ a o, a ≠ L → a ≠ I → h5.get? a = some o → h8.get? a = some o := fun a o na ni ea => k8 a o (hk6 a o na ni ea)
    by_cases hi0 : i = 0
    · have e0 : (((i : Nat) : Int) == 0) = true := by simp [hi0]
      rw [e0, if_pos rfl]
      refine fin F8 g1 g2 hp8 hk8 (fun h10 k10 => tr_str) (by unfold charF; rw [none]; simp [hi0]) rfl rfl rfl fun s9 hq => wpAny_execs_nil (wpAny_execs_nil (wpAny_execs_nil hq))
    · have e0 : (((i : Nat) : Int) == 0) = false := by simp [hi0]
      rw [e0, if_neg (by simp)]
      refine fin F8 g1 g2 hp8 hk8 (fun h10 k10 => tr_str) (by unfold charF; rw [none]; simp [hi0]) rfl rfl rfl fun s9 hq => wpAny_execs_nil (wpAny_execs_nil (wpAny_execs_nil hq))
end
end Mine
end
section
open PySem PySem.W PyProof.Rows
set_option maxRecDepth 100000
set_option Elab.async false
namespace Mine
def chF (mode : Int) (table : List (List (Int × Str))) (k : Nat) : Str := charF k mode (table.getD k [])
def charsF (mode : Int) (table : List (List (Int × Str))) : List Str := (List.range table.length).map (chF mode table)

section
variable {prog : Program} {w : World} {A : Around} {h : Heap} {mg : Str → Option Value}

theorem filemode_spec {f f1 T : Addr} {fd fd1 : FuncData} {v : Value} {mode : Int} {table : List (List (Int × Str))} (G : Gl mg h) (Fr : Free mg) (ao : Ao A 4) (fn : FnI mg h 27 (S "filemode") f fd) (fn1 : FnI mg h 6 (S "S_IFMT") f1 fd1)
    (hg : mg (S "_filemode_table") = some (.ref T)) (ht : TupV (TupV PairV) h (.ref T) table) (hv : IntV h v mode) (hlen : table.length ≤ 100) (hj : JoinOk (S "") (charsF mode table) = true) :
    Tr prog w A h (call (.ref f) [v]) (IsS (Txt.join (S "") (charsF mode table))) := by
  refine tr_call (binds := [(S "mode", v)]) G fn (by have := ao.hd; omega) (fun _ _ _ => rfl) (fun n x hx => ?_) (fun L cd s h₁ tk F hcl => ?_)
  · simp only [List.mem_cons, List.not_mem_nil, or_false] at hx
    subst hx; exact .inl rfl
  · have aod := ao.deeper (env := fe 27 (S "filemode") L f cd)
    have hh := aod.hh
    have ge : GEnv (fe 27 (S "filemode") L f cd) := fenv_ge _ _ _ _ _
    obtain ⟨tm, rfl⟩ := hv
    obtain ⟨T', rows, eT, htup, ha⟩ := ht
    cases eT
    -- perm = []
    refine ex_assign F (tr_List (P := StrV) (xs := []) lives_str (disp_nil .nil) (by unfold sizeLine; simp)) rfl rfl fun h2 vp h3 tk3 k2 p2 F3 kq3 => ?_
    obtain ⟨p, vs0, rfl, hpn, hpl, ha0⟩ := p2.from F.keep
    cases ha0
    have hp3 : h3.PlainList p #[] := kq3 _ _ hpl
    have htup3 : h3.IsTuple T rows.toArray := IsTuple_at htup fun o e => F3.keep _ _ e
    have hTlt : T < h3.objs.size := by obtain ⟨o, ho, _⟩ := htup3; exact Heap.lt_size ho
    refine wpAny_execs_cons (wpAny_For ?_)
    -- enumerate(_filemode_table)
    refine Tr.use (s := { s with heap := h3, toks := tk3 }) (P := fun h4 z => ∃ e it, z = .ref e ∧ e ≠ it ∧ T ≠ e ∧ T ≠ it ∧ h3.get? e = none ∧ h3.get? it = none ∧ IsEnum h4 e it 0 .none ∧ h4.IsTupleIter it T 0 ∧ h4.IsTuple T rows.toArray)
      (call_t (P1 := fun _ vs => vs = [.ref T]) (tr_builtin (G.up F3.keep) ge rfl rfl Fr.enumerate bb_enumerate rfl (by decide)) (fun h4 k4 => Tr.mono (args1 (P1 := fun _ u => u = .ref T) (tr_global (G.up (F3.keep.trans k4)) ge rfl rfl hg rfl) rfl) fun h' vs _ ⟨u, e1, e2⟩ => by rw [e1, e2]) (fun h4 vs k4 p4 => ?_) rfl rfl) ?_
    · subst p4
      intro s' Q E hse q; subst hse
      have t4 : s'.heap.IsTuple T rows.toArray := IsTuple_at htup3 fun o e => k4 _ _ e
      have b1 : T < s'.heap.objs.size := by obtain ⟨_, e, _⟩ := t4; exact Heap.lt_size e
      have nn : ∀ a, s'.heap.objs.size ≤ a → h3.get? a = none := fun a ha => by
        cases e : h3.get? a with
        | none => rfl
        | some o => exact absurd (Heap.lt_size (k4 _ _ e)) (Nat.not_lt.mpr ha)
      exact call_enum_tuple t4 fun h' he hi hk => q _ h' s'.toks hk ⟨_, _, rfl, Nat.succ_ne_self _, Nat.ne_of_lt (Nat.lt_succ_of_lt b1), Nat.ne_of_lt b1, nn _ (Nat.le_succ _), nn _ (Nat.le_refl _), he, hi, IsTuple_at t4 fun o e => hk _ _ e⟩
    · rintro z h4 tk4 k4 ⟨e, it, rfl, hei, hTe, hTi, ne, ni, he4, hi4, ht4⟩
      have D : Draws prog w (A.deeper (fe 27 (S "filemode") L f cd)).in1 it [it, T] rows.toArray.size (fun i v => rows.toArray[i]? = some v) (fun i h => h.IsTupleIter it T i ∧ h.IsTuple T rows.toArray) := draws_tuple (A := (A.deeper (fe 27 (S "filemode") L f cd)).in1) hh it T hTi rows.toArray
      have W := WalksT.enumerateD D e hei (by simp; exact ⟨hei, hTe.symm⟩) (by simp)
      refine W.self 0 _ _ _ ⟨⟨_, he4⟩, hi4, ht4⟩ ?_
      have len := ha.length
      have hnL : ∀ a, h3.get? a = none → a ≠ L := fun a hn e => by
        obtain ⟨o, _, _, ho, _⟩ := F3.ns
        change h3.get? L = _ at ho
        rw [← e, hn] at ho; cases ho
      have hnp : ∀ a, h3.get? a = none → a ≠ p := fun a hn e => by obtain ⟨n, hc⟩ := hp3; rw [← e, hn] at hc; cases hc
      have hnh : ∀ a, h3.get? a = none → h.get? a = none := fun a hn => by
        cases q : h.get? a with
        | none => rfl
        | some o => rw [F3.keep _ _ q] at hn; cases hn
      have hTL : T ≠ L := by
        rintro rfl
        obtain ⟨o, _, _, ho, hd, _⟩ := F3.ns
        change h3.get? T = _ at ho
        obtain ⟨o', hn, _, _, hd'⟩ := htup3; rw [hn] at ho; cases ho; rw [hd'] at hd; cases hd
      have hTp : T ≠ p := by
        rintro rfl
        obtain ⟨n, hc⟩ := hp3
        obtain ⟨o', hn, hcl, _⟩ := htup3; rw [hn] at hc; cases hc; exact absurd (show Value.type "list" = Value.type "tuple" from hcl) (by decide)
      refine codeAny_forLoop_any (I := fun n s' => ∃ (h' : Heap) (tk' i : Nat) (m' : Str → Option Value) (perms : List Value), s' = { s with heap := h', toks := tk' } ∧ i ≤ rows.length ∧ n = rows.length + 1 - i ∧
          Fx h (fe 27 (S "filemode") L f cd) m' (bindC (fe 27 (S "filemode") L f cd).kindOf [(S "mode", .int mode tm)] fun _ => none) h' ∧ m' (S "perm") = some (.ref p) ∧ m' (S "mode") = some (.int mode tm) ∧ h'.PlainList p perms.toArray ∧ All2 (StrV h') perms ((List.range i).map (chF mode table)) ∧
          ((∃ old, IsEnum h' e it i old) ∧ h'.IsTupleIter it T i ∧ h'.IsTuple T rows.toArray)) ?_ (rows.length + 1)
        ⟨h4, tk4, 0, _, [], rfl, Nat.zero_le _, rfl, F3.up k4, rfl, rfl, (by obtain ⟨n, hc⟩ := hp3; exact ⟨n, k4 _ _ hc⟩), .nil, ⟨_, he4⟩, hi4, ht4⟩
      rintro n s' ⟨h', tk', i, m', perms, rfl, hi, rfl, F', g1, g2, hp', hall, st⟩
      have Fup : ∀ {h'' : Heap}, (∀ b o, b ∉ [e, it] → h'.get? b = some o → h''.get? b = some o) → Fx h (fe 27 (S "filemode") L f cd) m' (bindC (fe 27 (S "filemode") L f cd).kindOf [(S "mode", .int mode tm)] fun _ => none) h'' := fun k =>
        ⟨F'.fn, F'.ns.at' fun o q => k _ o (fun hm => by
            change L ∈ _ at hm
            simp only [List.mem_cons, List.not_mem_nil, or_false] at hm
            rcases hm with r | r
            · exact hnL e ne r.symm
            · exact hnL it ni r.symm) q, fun a o q => k a o (fun hm => by
            simp only [List.mem_cons, List.not_mem_nil, or_false] at hm
            rcases hm with r | r
            · rw [r, hnh e ne] at q; cases q
            · rw [r, hnh it ni] at q; cases q) (F'.keep a o q), F'.fresh, fun n c q => (by cases q), F'.apart⟩
      have hpw : p ∉ [e, it] := fun hm => by
        simp only [List.mem_cons, List.not_mem_nil, or_false] at hm
        rcases hm with r | r
        · exact hnp e ne r.symm
        · exact hnp it ni r.symm
      by_cases hlt : i < rows.length
      · refine (WalksT.x W).turn (by simpa using hlt) st fun u h5 tk5 hP st5 k5 => ?_
        obtain ⟨Tp, vals, rfl, hTp5, ti, x, hx, rfl⟩ := hP
        have F5 := Fup k5
        obtain ⟨es, hes, hrow⟩ := ha.get i x (by simpa using hx)
        refine assign_pair (s := { s with heap := h5, toks := tk5 }) hh F5 hTp5 rfl rfl fun h6 tk6 F6 k6 => ?_
        have hpL : p ≠ L := by
          rintro rfl
          obtain ⟨o, _, _, ho, hd, _⟩ := F'.ns
          change h'.get? p = _ at ho
          obtain ⟨n, hn⟩ := hp'; rw [hn] at ho; cases ho; cases hd
        have hp6 : h6.PlainList p perms.toArray := by obtain ⟨n, hn⟩ := hp'; exact ⟨n, k6 _ _ hpL (k5 _ _ hpw hn)⟩
        have hplen : perms.length = i := by rw [hall.length]; simp
        have hes' : table.getD i [] = es := by rw [List.getD_eq_getElem?_getD, hes]; rfl
        refine row_step (f1 := f1) (fd1 := fd1) (m := _) (perms := perms) (i := i) (ti := ti) (tm := tm) (mode := mode) (vt := x) (es := es) (s := { s with heap := h6, toks := tk6 }) G aod fn1 F6 g1 g2 rfl rfl hrow hp6 hpn (by omega)
          fun h7 tk7 m7 c t hc F7 a1 a2 hp7 k7 => ?_
        refine ⟨rows.length + 1 - (i + 1), by omega, h7, tk7, i + 1, m7, perms ++ [.str c t], rfl, hlt, rfl, F7, a1, a2, hp7, ?_, ?_⟩
        · rw [List.range_succ, List.map_append]
          refine All2.append (hall.imp fun _ _ p => p) (.cons ⟨t, ?_⟩ .nil)
          show Value.str c t = Value.str (chF mode table i) t
          rw [hc]; unfold chF; rw [hes']
        · have st6 := W.frame _ _ h6 st5 fun b hb o q => k6 b o (fun r => ?_) q
          · exact W.frame _ _ h7 st6 fun b hb o q => k7 b o (fun r => by
              simp only [List.mem_cons, List.not_mem_nil, or_false] at hb
              rcases hb with r' | r' | r'
              · exact hnL e ne (r'.symm.trans r)
              · exact hnL it ni (r'.symm.trans r)
              · exact hTL (r'.symm.trans r)) (fun r => by
              simp only [List.mem_cons, List.not_mem_nil, or_false] at hb
              rcases hb with r' | r' | r'
              · exact hnp e ne (r'.symm.trans r)
              · exact hnp it ni (r'.symm.trans r)
              · exact hTp (r'.symm.trans r)) q
          · change b = L at r
            simp only [List.mem_cons, List.not_mem_nil, or_false] at hb
            rcases hb with r' | r' | r'
            · exact hnL e ne (r'.symm.trans r)
            · exact hnL it ni (r'.symm.trans r)
            · exact hTL (r'.symm.trans r)
      · have hin : i = rows.length := by omega
        subst hin
        refine W.done _ _ _ (by simpa using st) fun h5 tk5 k5 => ?_
        have F5 := Fup k5
        have hp5 : h5.PlainList p perms.toArray := by obtain ⟨n, hn⟩ := hp'; exact ⟨n, k5 _ _ hpw hn⟩
        refine wpAny_execs_nil ?_
        have hlist : ListV StrV h5 (.ref p) (charsF mode table) := ⟨p, perms, rfl, hp5, by unfold charsF; rw [← len]; exact hall.imp fun _ _ q => q⟩
        exact ex_return (s := { s with heap := h5, toks := tk5 }) (ev_join hj tr_str (fun h6 k6 => ev_loc (F5.up k6) rfl g1 rfl (LS.on hlist k6.kq)) rfl rfl rfl) fun u h6 tk6 k6 p6 => ⟨u, h6, tk6, rfl, rfl, F5.keep.trans k6, p6⟩
end
end Mine
end
section
open PySem PySem.W PyProof.Rows PySem.W.KXs
set_option maxRecDepth 100000
set_option Elab.async false
namespace Mine
abbrev Table := List (List (Int × Str))
def labelF (table : Table) (one : Int) : Str := Txt.join (S "") (charsF (32768 + one) table)
def rowsF (table : Table) (ring : List Int) : List (List Str) := turns (ring.map (labelF table))
def ranksF (rows : List (List Str)) : List (List Int) := rows.map fun a => rows.map fun b => cmpF a b
def ordersF (numbers : List (List Int)) : List (List Int) := numbers.map fun a => numbers.map fun b => orderF a b
def hostF (host : List Str) : Str := Txt.join (S ".") host
def ruleF (host : List Str) (k : Nat) : Str := S "." ++ Txt.join (S ".") (host.take k)
def lenF (n : Nat) (host : List Str) : List Int := (rng 1 n 1).filter fun k => Txt.endswith (hostF host) (ruleF host k.toNat)
def leastF (ranks lengths : List (List Int)) : List (List Int) := ((ranks.zip lengths).filter fun x => !decide ((1 : Int) ∈ x.1)).map fun x => x.2
def endF (n r : Nat) : List (List Int) := (List.replicate (((n : Int).fdiv (r : Int)).toNat) [rng r n r]).flatten

structure LawFacts (table : Table) (ring : List Int) : Prop where
  pos : 1 ≤ ring.length
  len : ring.length ≤ 6
  join : ∀ one ∈ ring, JoinOk (S "") (charsF (32768 + one) table) = true
  host : ∀ host ∈ rowsF table ring, host.length = ring.length ∧ Label (hostF host) ∧ JoinOk (S ".") host = true
  rule : ∀ host ∈ rowsF table ring, ∀ k, Label (ruleF host k) ∧ JoinOk (S ".") (host.take k) = true ∧ Txt.startswith (ruleF host k) (S ".") = true
  order : ranksF (rowsF table ring) = ordersF (turns ring)
  lengths : ∀ r, IsRoot ring r → (rowsF table ring).map (lenF ring.length) = (turns ring).map fun t => lengthsF t r
  least : ∀ r, IsRoot ring r → leastF (ranksF (rowsF table ring)) ((rowsF table ring).map (lenF ring.length)) = endF ring.length r

structure Txtop (mg : Str → Option Value) (h : Heap) (table : Table) : Prop where
  G : Gl mg h
  fr : Free mg
  hdn : ∃ a fd, FnI mg h 3 (S "liberal_is_HDN") a fd
  udm : ∃ a fd, FnI mg h 4 (S "user_domain_match") a fd
  ifmt : ∃ a fd, FnI mg h 6 (S "S_IFMT") a fd
  fm : ∃ a fd, FnI mg h 27 (S "filemode") a fd
  cmp : ∃ a fd, FnI mg h 29 (S "three_way_cmp") a fd
  root : ∃ a fd, FnI mg h 31 (S "_law_root") a fd
  ring : ∃ a fd, FnI mg h 32 (S "_law_ring") a fd
  turns : ∃ a fd, FnI mg h 33 (S "_law_turns") a fd
  order : ∃ a fd, FnI mg h 34 (S "_law_order") a fd
  lengths : ∃ a fd, FnI mg h 35 (S "_law_lengths") a fd
  pat : ∃ p, mg (S "IPV4_RE") = some (.ref p) ∧ IsPat h p
  tab : ∃ T, mg (S "_filemode_table") = some (.ref T) ∧ TupV (TupV PairV) h (.ref T) table
  tlen : table.length ≤ 100
theorem TabUp {h h' : Heap} {v : Value} {table : Table} (p : TupV (TupV PairV) h v table) (k : Keep h h') : TupV (TupV PairV) h' v table :=
  TupV.up (P := TupV PairV) (fun q k => TupV.up (P := PairV) (fun q k => PairV.up q k) q k) p k
theorem Txtop.up {mg : Str → Option Value} {h h' : Heap} {table : Table} (x : Txtop mg h table) (k : Keep h h') : Txtop mg h' table :=
  { G := x.G.up k, fr := x.fr
    hdn := let ⟨a, fd, f⟩ := x.hdn; ⟨a, fd, f.up k⟩
    udm := let ⟨a, fd, f⟩ := x.udm; ⟨a, fd, f.up k⟩
    ifmt := let ⟨a, fd, f⟩ := x.ifmt; ⟨a, fd, f.up k⟩
    fm := let ⟨a, fd, f⟩ := x.fm; ⟨a, fd, f.up k⟩
    cmp := let ⟨a, fd, f⟩ := x.cmp; ⟨a, fd, f.up k⟩
    root := let ⟨a, fd, f⟩ := x.root; ⟨a, fd, f.up k⟩
    ring := let ⟨a, fd, f⟩ := x.ring; ⟨a, fd, f.up k⟩
    turns := let ⟨a, fd, f⟩ := x.turns; ⟨a, fd, f.up k⟩
    order := let ⟨a, fd, f⟩ := x.order; ⟨a, fd, f.up k⟩
    lengths := let ⟨a, fd, f⟩ := x.lengths; ⟨a, fd, f.up k⟩
    pat := let ⟨p, e, i⟩ := x.pat; ⟨p, e, i.up k⟩
    tab := let ⟨T, e, t⟩ := x.tab; ⟨T, e, TabUp t k⟩
    tlen := x.tlen }

section
variable {prog : Program} {w : World} {A : Around} {env : Env} {h : Heap} {mg : Str → Option Value} {table : Table} {px pos : Pos}
/-! the calls, as expressions -/
theorem ev_call1 {i : Nat} {nm : Str} {e : Expr} {a : Addr} {fd : FuncData} {Pa R : Heap → Value → Prop} (G : Gl mg h) (ge : GEnv env) (fk : env.scope.kind = .function) (hk : env.kindOf nm = some .globalImplicit) (hd : (nm == ("__debug__" : Str)) = false) (fn : FnI mg h i nm a fd)
    (he : ∀ h1, Keep h h1 → Tr prog w A h1 (eval e env) Pa) (hst : starEach [e] env = [(false, eval e env)]) (hc : ∀ h1 u, Keep h h1 → Pa h1 u → Tr prog w A h1 (call (.ref a) [u]) R) :
    Tr prog w A h (eval (.Call (.Name nm px) [e] [] pos) env) R := by
  obtain ⟨o, ho, hdd⟩ := fn.obj
  refine call_d (tr_global G ge fk hk fn.glob hd) ho hdd (fun h1 k1 => args1 (he h1 k1) hst) (fun h1 us k1 p1 => ?_) hst
  obtain ⟨u, rfl, pu⟩ := p1
  exact hc h1 u k1 pu
theorem ev_call2 {i : Nat} {nm : Str} {e e' : Expr} {a : Addr} {fd : FuncData} {Pa : Heap → Value → Prop} {Pb : Value → Heap → Value → Prop} {R : Heap → Value → Prop} (G : Gl mg h) (ge : GEnv env) (fk : env.scope.kind = .function) (hk : env.kindOf nm = some .globalImplicit) (hd : (nm == ("__debug__" : Str)) = false) (fn : FnI mg h i nm a fd)
    (he : ∀ h1, Keep h h1 → Tr prog w A h1 (eval e env) Pa) (he' : ∀ h1 u, Keep h h1 → Pa h1 u → Tr prog w A h1 (eval e' env) (Pb u)) (hst : starEach [e, e'] env = [(false, eval e env), (false, eval e' env)]) (hst' : starEach [e'] env = [(false, eval e' env)])
    (hc : ∀ h1 u u', Keep h h1 → Pb u h1 u' → Tr prog w A h1 (call (.ref a) [u, u']) R) :
    Tr prog w A h (eval (.Call (.Name nm px) [e, e'] [] pos) env) R := by
  obtain ⟨o, ho, hdd⟩ := fn.obj
  refine call_d (tr_global G ge fk hk fn.glob hd) ho hdd (fun h1 k1 => args2 (he h1 k1) (fun h2 u k2 p2 => he' h2 u (k1.trans k2) p2) hst) (fun h1 us k1 p1 => ?_) (by rw [hst, hst'])
  obtain ⟨u, u', rfl, pu⟩ := p1
  exact hc h1 u u' k1 pu
end
end Mine
end
section
open PySem PySem.W PyProof.Rows PySem.W.KXs
set_option maxRecDepth 100000
set_option Elab.async false
namespace Mine
abbrev LLI := ListV (ListV IntV)
abbrev LLS := ListV (ListV StrV)
theorem lives_LLI : Lives LLI := lives_list (lives_list lives_int)
theorem lives_LLS : Lives LLS := lives_list (lives_list lives_str)
noncomputable def lawTail : List Stmt := (bodyOf (stAt 36)).drop 7
noncomputable def lawEnd : List Stmt := (bodyOf (stAt 36)).drop 8

/-- an int list apart from two places -/
def Far (p I : Addr) (H : Heap) (y : Value) (zs : List Int) : Prop := ∃ D vs, y = .ref D ∧ D ≠ p ∧ D ≠ I ∧ H.PlainList D vs.toArray ∧ All2 (IntV H) vs zs
/-- lists stay, but at two places -/
def Kp (p I : Addr) (H H' : Heap) : Prop := ∀ a items, a ≠ p → a ≠ I → H.PlainList a items → H'.PlainList a items
theorem Kq.kp {p I : Addr} {H H' : Heap} (k : Kq H H') : Kp p I H H' := fun a items _ _ x => k a items x
theorem Kp.trans {p I : Addr} {a b c : Heap} (x : Kp p I a b) (y : Kp p I b c) : Kp p I a c := fun l i n m e => y l i n m (x l i n m e)
theorem Far.on {p I : Addr} {H H' : Heap} {y : Value} {zs : List Int} (x : Far p I H y zs) (k : Kp p I H H') : Far p I H' y zs := by
  obtain ⟨D, vs, e, n, m, hl, ha⟩ := x
  exact ⟨D, vs, e, n, m, k _ _ n m hl, ha.imp fun _ _ q => q⟩

section
variable {prog : Program} {w : World} {A : Around} {h : Heap} {mg : Str → Option Value} {table : Table}

theorem law_end {f L pL : Addr} {cd : Value} {m cm : Str → Option Value} {s : Shared} {r : Nat} {t2 : Tok} {v1 v3 v5 : Value} {ring : List Int} {Q : Flow → Shared → Prop} {E : Value → Shared → Prop}
    (X : Txtop mg h table) (ao : Ao A 4) (LF : LawFacts table ring) (hr : IsRoot ring r) (F : Fx h (fe 36 (S "law") L f cd) m cm s.heap)
    (g1 : m (S "lengths") = some (.ref pL)) (g2 : m (S "ranks") = some v5) (g3 : m (S "ring") = some v1) (c1 : cm (S "root") = some (.int r t2)) (c2 : cm (S "numbers") = some v3)
    (len0 : LLI s.heap (.ref pL) ((rowsF table ring).map (lenF ring.length))) (ring0 : ListV IntV s.heap v1 ring) (num0 : LLI s.heap v3 (turns ring)) (ranks0 : LLI s.heap v5 (ranksF (rowsF table ring)))
    (q : ∀ v h' tk, Keep h h' → IsB true h' v → Q (.ret v) { s with heap := h', toks := tk }) :
    wpAny (model prog w) A (execs lawEnd (fe 36 (S "law") L f cd)) Q E s := by
  have hh := ao.hh
  have ge : GEnv (fe 36 (S "law") L f cd) := fenv_ge _ _ _ _ _
  have hu : A.units + 64 < cLine := by have := ao.hu; omega
  have ao3 : Ao A 3 := ⟨hh, by have := ao.hd; omega, by have := ao.hu; omega⟩
  have hz : ∀ n : Nat, n ≤ 1000 → n ≤ sizeLine := fun n hn => by unfold sizeLine; omega
  obtain ⟨aLen, fdLen, fnLen⟩ := X.lengths
  have RD : ∀ {m cm : Str → Option Value} {h' : Heap}, Fx h (fe 36 (S "law") L f cd) m cm h' → Rd mg (fe 36 (S "law") L f cd) h' := fun F => ⟨X.G.up F.keep, ge, rfl, X.fr⟩
  have hrl := LF.len
  have hr1 := hr.pos
  have hr2 := hr.le
  have hnums : (turns ring).length = ring.length := by simp [turns]
  have hrows : (rowsF table ring).length = ring.length := by simp [rowsF, turns]
  have htl : ∀ x ∈ turns ring, x.length = ring.length := fun x hx => by
    simp only [turns, List.mem_map] at hx
    obtain ⟨j, hj, rfl⟩ := hx
    simp; simp at hj; omega
  -- if lengths != ..
  refine ex_if (c := false) (Tr.mono (P := fun _ b => b = !decide ((rowsF table ring).map (lenF ring.length) = (turns ring).map fun t => lengthsF t r)) (tr_test (R := fun a h1 b => LLI h1 a ((rowsF table ring).map (lenF ring.length)) ∧ LLI h1 b ((turns ring).map fun t => lengthsF t r)) (ev_loc (Pv := fun h u => LLI h u ((rowsF table ring).map (lenF ring.length))) F rfl g1 rfl len0)
      (fun h1 a k1 p1 => Tr.mono (tr_comp (S := fun x u _ => x ∈ turns ring ∧ ListV IntV h1 u x) (p := fun _ => true) (f := fun t => lengthsF t r) (T := ListV IntV) (xs := turns ring) (lives_list lives_int) (F.up k1) rfl
        (Tr.mono (ev_cell (Pv := fun _ u => u = v3) (F.up k1) rfl rfl c2 rfl rfl) fun h2 u k2 e => by rw [e]; exact (iters_old k2 hh (lives_LLI _ _ _ _ k1.kq num0)).mem) (hz _ (by omega))
        (fun C cells sp => body_local rfl fun x u h2 m2 cm2 hs F2 hc hb => ?_)) fun h2 b k2 p2 => ⟨lives_LLI _ _ _ _ k2.kq p1, by
          have := p2.list; rw [List.filter_eq_self.mpr (by simp)] at this; exact this⟩)
      (fun h1 a b k1 p1 => ne_LL hu p1.1 p1.2)) fun _ b _ e => by rw [e, LF.lengths r hr]; simp) fun h1 tk1 k1 => ?_
  · have hl2 : cells.lookup (S "root") = some (L + 1) := sp.free (S "root") (by simp)
    have hv2 : cm2 (S "root") = some (.int r t2) := (hc (S "root") (by simp)).trans c1
    have kk : Keep h h2 := (F.up k1).keep.trans F2.keep
    refine Tr.mono (P := fun h' u => NewL IntV h2 h' u (lengthsF x r)) (ev_call2 (Pa := LI x) (Pb := fun a h' b => ListV IntV h' a x ∧ IntV h' b r) (X.G.up kk) ge rfl rfl rfl (fnLen.up kk)
        (fun h3 k3 => ev_loc (F2.up k3) rfl hb rfl (LI.on hs.2 (F2.keep.trans k3).kq))
        (fun h3 a k3 p3 => Tr.mono (ev_cell (Pv := IsI r) (F2.up k3) rfl hl2 hv2 rfl ⟨_, rfl⟩) fun h4 b k4 p4 => ⟨LI.on p3 k4.kq, p4⟩) rfl rfl
        (fun h3 a b k3 p3 => (lengths_spec (X.G.up (kk.trans k3)) X.fr ao3 (fnLen.up (kk.trans k3)) p3.1 p3.2 (by rw [htl x hs.1]; omega) (by omega) (by omega)).mono fun _ _ _ p => p.from k3)) fun _ _ _ p => off_new flat_int p
  rw [if_neg (by simp)]
  refine wpAny_execs_nil ?_
  have F1 := F.up k1
  have len1 : LLI h1 (.ref pL) ((rowsF table ring).map (lenF ring.length)) := lives_LLI _ _ _ _ k1.kq len0
  have ring1 : ListV IntV h1 v1 ring := LI.on ring0 k1.kq
  have ranks1 : LLI h1 v5 (ranksF (rowsF table ring)) := lives_LLI _ _ _ _ k1.kq ranks0
  have hrk : (ranksF (rowsF table ring)).length = ring.length := by simp [ranksF, hrows]
  -- least = ..
  refine ex_comp (s := { s with heap := h1, toks := tk1 }) (S := PairS h1 (ListV IntV) (ListV IntV)) (p := fun x => !decide ((1 : Int) ∈ x.1)) (f := fun x => x.2) (T := ListV IntV) (xs := (ranksF (rowsF table ring)).zip ((rowsF table ring).map (lenF ring.length))) (lives_list lives_int) F1 rfl rfl rfl
      (ev_zip (v := v5) (v' := .ref pL) (RD F1) hh rfl (fun h2 k2 => ev_loc (F1.up k2) rfl g2 rfl rfl) (fun h2 k2 => ev_loc (F1.up k2) rfl g1 rfl rfl) rfl rfl ranks1 len1) (hz _ (by simp; omega))
      (fun C cells sp => body_pair_if hh rfl rfl (by decide) (fun x u u' h2 m2 cm2 pu pu' F2 e1 e2 => ?_) (fun x u u' h2 m2 cm2 pu pu' F2 e1 e2 => Tr.mono (ev_loc (Pv := fun _ y => y = u') F2 rfl e2 rfl rfl) fun h3 y k3 e => by rw [e]; exact off_old flat_int pu' (F2.keep.trans k3))) fun h2 tk2 v6 F2 kq2 p2 => ?_
  · exact tr_test (R := fun a h3 b => IntV h3 a 1 ∧ ListV IntV h3 b x.1) tr_int (fun h3 a k3 p3 => Tr.mono (ev_loc (Pv := LI x.1) (F2.up k3) rfl e1 rfl (LI.on pu (F2.keep.trans k3).kq)) fun h4 b k4 p4 => ⟨p3, p4⟩) fun h3 a b k3 p3 => notin_L hu p3.1 p3.2
  -- return ..
  have ring2 : ListV IntV h2 v1 ring := LI.on ring1 kq2
  have root2 : ∀ {h3 : Heap} (k3 : Keep h2 h3) (px : Pos), Tr prog w A h3 (eval (.Name (S "root") px) (fe 36 (S "law") L f cd)) (IsI r) := fun k3 px => ev_cell (F2.up k3) rfl rfl c1 rfl ⟨_, rfl⟩
  have lenE : ∀ {h3 : Heap} (k3 : Keep h2 h3) (px pos p1 : Pos), Tr prog w A h3 (eval (.Call (.Name (S "len") px) [.Name (S "ring") p1] [] pos) (fe 36 (S "law") L f cd)) (IsI ring.length) := fun k3 px pos p1 =>
    ev_len (RD (F2.up k3)) rfl (fun h4 k4 => ev_loc (F2.up (k3.trans k4)) rfl g3 rfl (LI.on ring2 (k3.trans k4).kq)) rfl (by omega)
  refine ex_return (s := { s with heap := h2, toks := tk2 }) (P := IsB true) (Tr.mono (tr_Compare (R := fun a h3 b => LLI h3 a (leastF (ranksF (rowsF table ring)) ((rowsF table ring).map (lenF ring.length))) ∧ LLI h3 b (endF ring.length r))
    (ev_loc (Pv := fun h u => LLI h u (leastF (ranksF (rowsF table ring)) ((rowsF table ring).map (lenF ring.length)))) F2 rfl rfl rfl p2)
    (fun h3 a k3 p3 => Tr.mono (P := fun h4 b => NewL (ListV IntV) h3 h4 b (endF ring.length r)) ?_ fun h4 b k4 p4 => ⟨lives_LLI _ _ _ _ k4.kq p3, p4.list⟩)
    (fun h3 a b k3 p3 => eq_LL hu p3.1 p3.2)) fun h3 b k3 e => by rw [LF.least r hr] at e; simpa using e) fun u h3 tk3 k3 p3 => q u h3 tk3 (F2.keep.trans k3) p3
  refine tr_BinOp (R := fun a h4 b => LLI h4 a [rng r ring.length r] ∧ IntV h4 b ((ring.length : Int).fdiv (r : Int))) (P := fun h4 a => LLI h4 a [rng r ring.length r])
    (Tr.mono (tr_List (P := ListV IntV) (xs := [rng r ring.length r]) (lives_list lives_int) (disp_cons (lives_list lives_int) (Tr.mono (ev_list_range (RD (F2.up k3)) hh rfl (fun h4 k4 => ev_range3 (RD (F2.up (k3.trans k4))) rfl (fun h5 k5 => root2 ((k3.trans k4).trans k5) _) (fun h5 k5 => lenE ((k3.trans k4).trans k5) _ _ _) (fun h5 k5 => root2 ((k3.trans k4).trans k5) _) rfl rfl (by omega) (by omega)) rfl (by omega) (by omega) (by omega) (by omega) (by omega) (by omega)) fun _ _ _ p => p.list) (fun h4 k4 => disp_nil .nil) rfl) (hz _ (by simp))) fun _ _ _ p => p.list)
    (fun h4 a k4 p4 => Tr.mono (ev_div (by omega) (PyProof.noPylong_small (by omega)) (lenE (k3.trans k4) _ _ _) fun h5 k5 => root2 ((k3.trans k4).trans k5) _) fun h5 b k5 p5 => ⟨lives_LLI _ _ _ _ k5.kq p4, p5⟩)
    (fun h4 a b k4 p4 => (op_mul (lives_list lives_int) p4.1 p4.2 ?_ ?_ ?_).mono fun _ _ _ p => p.from k4)
  all_goals
    have hd : ((ring.length : Int).fdiv (r : Int)) = ((ring.length / r : Nat) : Int) := by rw [Int.fdiv_eq_ediv_of_nonneg _ (by omega)]; rfl
    have hd2 := Nat.div_le_self ring.length r
    rw [hd]
  · exact Int.natCast_nonneg _
  · generalize ring.length / r = z at hd2 ⊢
    omega
  · show 1 * (Int.toNat ((ring.length / r : Nat) : Int)) ≤ 2 ^ 24
    rw [Int.toNat_natCast]; omega

theorem law_tail {f L pL lR : Addr} {cd : Value} {m cm : Str → Option Value} {s : Shared} {h12 : Heap} {r : Nat} {t2 : Tok} {v1 v3 v5 : Value} {ring : List Int} {Q : Flow → Shared → Prop} {E : Value → Shared → Prop}
    (X : Txtop mg h table) (ao : Ao A 4) (LF : LawFacts table ring) (hr : IsRoot ring r) (F : Fx h (fe 36 (S "law") L f cd) m cm s.heap) (hcl : h.get? (L + 4) = none)
    (g1 : m (S "lengths") = some (.ref pL)) (g2 : m (S "ranks") = some v5) (g3 : m (S "ring") = some v1) (c1 : cm (S "root") = some (.int r t2)) (c2 : cm (S "numbers") = some v3) (c3 : cm (S "rows") = some (.ref lR))
    (hp : s.heap.PlainList pL #[]) (hpb : h.get? pL = none) (hpn : h12.get? pL = none) (kq : Kq h12 s.heap)
    (ring0 : ListV IntV h12 v1 ring) (num0 : LLI h12 v3 (turns ring)) (row0 : LLS h12 (.ref lR) (rowsF table ring)) (ranks0 : LLI h12 v5 (ranksF (rowsF table ring)))
    (q : ∀ v h' tk, Keep h h' → IsB true h' v → Q (.ret v) { s with heap := h', toks := tk }) :
    wpAny (model prog w) A (execs lawTail (fe 36 (S "law") L f cd)) Q E s := by
  have hh := ao.hh
  have ge : GEnv (fe 36 (S "law") L f cd) := fenv_ge _ _ _ _ _
  have hz : ∀ n : Nat, n ≤ 1000 → n ≤ sizeLine := fun n hn => by unfold sizeLine; omega
  obtain ⟨aUdm, fdUdm, fnUdm⟩ := X.udm
  obtain ⟨aHdn, fdHdn, fnHdn⟩ := X.hdn
  obtain ⟨pP, gP, isP⟩ := X.pat
  have RD : ∀ {m cm : Str → Option Value} {h' : Heap}, Fx h (fe 36 (S "law") L f cd) m cm h' → Rd mg (fe 36 (S "law") L f cd) h' := fun F => ⟨X.G.up F.keep, ge, rfl, X.fr⟩
  have hrl := LF.len
  have hrows : (rowsF table ring).length = ring.length := by simp [rowsF, turns]
  have hnp : ∀ a items, h12.PlainList a items → a ≠ pL := fun a items ⟨n, e⟩ x => by rw [x, hpn] at e; cases e
  obtain ⟨lR', rvs, eR, plR, aR⟩ := row0
  cases eR
  have lenR := aR.length
  refine wpAny_execs_cons (wpAny_For (Tr.use (P := fun _ u => u = .ref lR) (ev_cell F rfl rfl c3 rfl rfl) fun u h15 tk15 k15 e => ?_))
  subst e
  have F15 := F.up k15
  have kq15 : Kq h12 h15 := kq.trans k15.kq
  have hp15 : h15.PlainList pL #[] := k15.kq _ _ hp
  have plR15 : h15.PlainList lR rvs.toArray := kq15 _ _ plR
  have hlt15 : lR < h15.objs.size := by obtain ⟨_, e⟩ := plR15; exact Heap.lt_size e
  refine wpAny_pyIter_list (s := { s with heap := h15, toks := tk15 }) plR15.isList ?_
  have W := Walks.x (x := S "host") (px := ⟨96, 8, 96, 12⟩) (Walks.list (prog := prog) (w := w) (A := A) hh h15.objs.size lR (Nat.ne_of_lt hlt15) rvs.toArray)
  generalize hI : h15.objs.size = I at W hlt15 ⊢
  have hIn15 : h15.get? I = none := by rw [← hI]; exact size_none h15
  have hIb : h.get? I = none := none_of_keep F15.keep hIn15
  have hnI : ∀ a items, h12.PlainList a items → a ≠ I := fun a items x e => by obtain ⟨n, hn⟩ := kq15 _ _ x; rw [e, hIn15] at hn; cases hn
  have hpI : pL ≠ I := fun e => by obtain ⟨n, hn⟩ := hp15; rw [e, hIn15] at hn; cases hn
  have hIL : I ≠ L := fun e => by
    obtain ⟨o, _, _, ho, _⟩ := F15.ns
    change h15.get? L = _ at ho
    rw [← e, hIn15] at ho; cases ho
  have hIc : ∀ n c, (fe 36 (S "law") L f cd).cells.lookup n = some c → c ≠ I := fun n c ec e => by
    obtain ⟨o, ho, _⟩ := F15.cell n c ec
    rw [e, hIn15] at ho; cases ho
  have kqOf : ∀ {H : Heap}, Kp pL I h15 H → Kq h12 H := fun k a items x => k a items (hnp _ _ x) (hnI _ _ x) (kq15 _ _ x)
  refine codeAny_forLoop_any (I := fun n s' => ∃ (h' : Heap) (tk' i : Nat) (cm' : Str → Option Value) (ys : List Value), s' = { s with heap := h', toks := tk' } ∧ i ≤ rvs.length ∧ n = rvs.length + 1 - i ∧
      Fx h (fe 36 (S "law") L f cd) m cm' h' ∧ cm' (S "root") = some (.int r t2) ∧ cm' (S "numbers") = some v3 ∧ h'.PlainList pL ys.toArray ∧ All2 (Far pL I h') ys (((rowsF table ring).take i).map (lenF ring.length)) ∧ Kp pL I h15 h' ∧
      (h'.IsListIter I lR i ∧ h'.IsList lR rvs.toArray)) ?_ (rvs.length + 1)
    ⟨_, tk15, 0, cm, [], rfl, Nat.zero_le _, rfl, F15.up (Keep.push _ _), c1, c2, (Keep.push _ _).kq _ _ hp15, (by simpa using All2.nil), (Keep.push _ _).kq.kp, ⟨_, by rw [← hI]; exact new_get _ _ rfl, rfl, rfl⟩, plR15.isList.push _⟩
  rintro n s' ⟨H, tk', i, cm', ys, rfl, hi, rfl, F', d1, d2, hp', hall, kp, st⟩
  have Fup : ∀ {h'' : Heap}, (∀ b o, b ∉ [I] → H.get? b = some o → h''.get? b = some o) → Fx h (fe 36 (S "law") L f cd) m cm' h'' := fun k =>
    ⟨F'.fn, F'.ns.at' fun o e => k _ o (fun hm => hIL (List.mem_singleton.mp hm).symm) e, fun a o e => k a o (fun hm => by simp at hm; rw [hm, hIb] at e; cases e) (F'.keep a o e), F'.fresh,
      fun n c e => (by obtain ⟨o, ho, hd⟩ := F'.cell n c e; exact ⟨o, k c o (fun hm => hIc n c e (List.mem_singleton.mp hm)) ho, hd⟩), F'.apart⟩
  have kpOf : ∀ {h'' : Heap}, (∀ b o, b ∉ [I] → H.get? b = some o → h''.get? b = some o) → Kp pL I H h'' := fun k a items _ nI ⟨n, e⟩ => ⟨n, k a _ (by simpa using nI) e⟩
  have pOf : ∀ {h'' : Heap}, (∀ b o, b ∉ [I] → H.get? b = some o → h''.get? b = some o) → h''.PlainList pL ys.toArray := fun k => by obtain ⟨n, e⟩ := hp'; exact ⟨n, k pL _ (by simpa using hpI) e⟩
  by_cases hlt : i < rvs.length
  · refine W.turn (by simpa using hlt) st fun u h5 tk5 hP st5 k5 => ?_
    have F5 := Fup k5
    have hp5 := pOf k5
    have kp5 : Kp pL I h15 h5 := kp.trans (kpOf k5)
    obtain ⟨host, hhost, phost⟩ := aR.get i u (by simpa using hP)
    have hmem : host ∈ rowsF table ring := List.mem_of_getElem? hhost
    obtain ⟨hhl, hlab, hjoin⟩ := LF.host host hmem
    refine wpAny_assign_Name (st_cell (s := { s with heap := h5, toks := tk5 }) (c := L + 4) F5 rfl rfl hcl fun h6 tk6 F6 hs6 kq6 => ?_)
    have hp6 : h6.PlainList pL ys.toArray := kq6 _ _ hp5
    have kp6 : Kp pL I h15 h6 := kp5.trans kq6.kp
    have host6 : ListV StrV h6 u host := LS.on phost (kqOf kp6)
    have ring6 : ListV IntV h6 v1 ring := LI.on ring0 (kqOf kp6)
    have st6 := W.frame _ _ h6 st5 fun b hb o q => hs6.extBut b o (fun r => ?_) q
    · have hysl : ys.length = i := by
        rw [hall.length]; simp; omega
      refine ex_append (s := { s with heap := h6, toks := tk6 }) (Pe := fun h' y => NewL IntV h6 h' y (lenF ring.length host)) F6 (ev_loc F6 rfl g1 rfl rfl) hp6 (fun h7 k7 => Tr.mono (tr_comp (S := fun k u _ => k ∈ rng 1 ring.length 1 ∧ ∃ t, u = .int k t) (p := fun k => Txt.endswith (hostF host) (ruleF host k.toNat)) (f := fun k => k) (T := IntV) (xs := rng 1 ring.length 1) lives_int (F6.up k7) rfl
          (Tr.mono (ev_range2 (RD (F6.up k7)) rfl (fun h8 k8 => tr_int) (fun h8 k8 => ev_len (RD (F6.up (k7.trans k8))) rfl (fun h9 k9 => ev_loc (F6.up ((k7.trans k8).trans k9)) rfl g3 rfl (LI.on ring6 ((k7.trans k8).trans k9).kq)) rfl (by omega)) rfl rfl) fun h8 v k8 p8 => iters_rng k8 hh p8 (by omega) (by omega) (by omega) (by omega) (by omega) (by omega)) (hz _ ?_)
          (fun C cells sp => body_local_if rfl (fun k v h8 m8 cm8 hs F8 hc hb => ?_) (fun k v h8 m8 cm8 hs F8 hc hb => Tr.mono (ev_loc (Pv := IsI k) F8 rfl hb rfl hs.2) fun _ _ _ p => off_int p))) fun h8 y k8 p8 => ?_) hpb ?_ rfl rfl rfl rfl rfl fun h9 v h10 tk10 k9 pv F10 hl10 hs10 => ?_
      · rw [rng_one]; simp; omega
      · obtain ⟨tv, rfl⟩ := hs.2
        have hk := mem_rng_one hs.1
        obtain ⟨rlab, rjoin, rdot⟩ := LF.rule host hmem k.toNat
        have hl2 : cells.lookup (S "host") = some (L + 4) := sp.free (S "host") (by simp)
        have hv2 : cm8 (S "host") = some u := (hc (S "host") (by simp)).trans rfl
        have kk : Keep h h8 := (F6.up k7).keep.trans F8.keep
        have hostE : ∀ {h9 : Heap} (k9 : Keep h8 h9) (px : Pos), Tr prog w A h9 (eval (.Name (S "host") px) (compE _ (fe 36 (S "law") L f cd) C cells)) (IsL StrV host) := fun k9 px => ev_cell (F8.up k9) rfl hl2 hv2 rfl (LS.on host6 ((k7.trans F8.keep).trans k9).kq)
        refine test_val (Tr.mono (ev_call2 (Pa := IsS (hostF host)) (Pb := fun a h' b => StrV h' a (hostF host) ∧ StrV h' b (ruleF host k.toNat)) (X.G.up kk) ge rfl rfl rfl (fnUdm.up kk)
          (fun h9 k9 => ev_join hjoin tr_str (fun h10 k10 => hostE (k9.trans k10) _) rfl rfl rfl)
          (fun h9 a k9 p9 => Tr.mono (ev_addS (x := S ".") (y := Txt.join (S ".") (host.take k.toNat)) ?_ tr_str (fun h10 k10 => ev_join rjoin tr_str (fun h11 k11 => Tr.mono (slice_upto lives_str (hostE ((k9.trans k10).trans k11) _) (fun h12 k12 => ev_loc (F8.up (((k9.trans k10).trans k11).trans k12)) rfl hb rfl ⟨_, rfl⟩) (by omega) (hz _ (by omega))) fun _ _ _ p => p.list) rfl rfl rfl)) fun h10 b k10 p10 => ⟨p9, p10⟩) rfl rfl
          (fun h9 a b k9 p9 => udm_spec (X.G.up (kk.trans k9)) ao (fnUdm.up (kk.trans k9)) (fnHdn.up (kk.trans k9)) gP (isP.up (kk.trans k9)) p9.1 p9.2 hlab rlab rdot)) fun _ _ _ p => p)
        have e1 := rlab.len
        unfold ruleF at e1
        rw [Str.length_append] at e1
        exact hz _ e1
      · have := p8.from k7
        rw [List.map_id'] at this
        exact this
      · rw [List.size_toArray]; exact hz _ (by omega)
      · refine wpAny_execs_nil ?_
        obtain ⟨D, vs, rfl, hDn, hDl, hDa⟩ := pv
        have hDp : D ≠ pL := fun e => by obtain ⟨n, e'⟩ := hp6; rw [← e, hDn] at e'; cases e'
        have hDI : D ≠ I := fun e => by obtain ⟨⟨o, e', _⟩, _⟩ := st6; rw [← e, hDn] at e'; cases e'
        have kp910 : Kp pL I h9 h10 := fun a items np nI ⟨n, e⟩ => ⟨n, hs10.extBut a _ np e⟩
        have kp610 : Kp pL I h6 h10 := k9.kq.kp.trans kp910
        refine ⟨rvs.length + 1 - (i + 1), by omega, h10, tk10, i + 1, _, ys ++ [.ref D], rfl, hlt, rfl, F10, d1, d2, by simpa using hl10, ?_, kp6.trans kp610, ?_⟩
        · rw [List.take_add_one, hhost, List.map_append]
          refine All2.append (hall.imp fun _ _ x => (x.on (kpOf k5)).on (kq6.kp.trans kp610)) (.cons ?_ .nil)
          exact ⟨D, vs, rfl, hDp, hDI, kp910 _ _ hDp hDI hDl, hDa.imp fun _ _ x => x⟩
        · exact W.frame _ _ h10 st6 fun b hb o q => hs10.extBut b o (fun r => by
            simp only [List.mem_cons, List.not_mem_nil, or_false] at hb
            rcases hb with r' | r'
            · exact hpI (r.symm.trans r')
            · exact hnp _ _ plR (r'.symm.trans r)) (k9 b o q)
    · simp only [List.mem_cons, List.not_mem_nil, or_false] at hb
      rcases hb with r' | r'
      · exact hIc (S "host") _ rfl (r.symm.trans r')
      · obtain ⟨o', ho', hd'⟩ := F5.cell (S "host") (L + 4) rfl
        obtain ⟨n, hn⟩ := kqOf kp5 _ _ plR
        rw [← r', r, ho'] at hn; cases hn; cases hd'
  · have hin : i = rvs.length := by omega
    subst hin
    refine W.done _ _ _ (by simpa using st) fun h5 tk5 k5 => ?_
    have F5 := Fup k5
    have kp5 : Kp pL I h15 h5 := kp.trans (kpOf k5)
    have hall5 : All2 (Far pL I h5) ys (((rowsF table ring).take rvs.length).map (lenF ring.length)) := hall.imp fun _ _ x => x.on (kpOf k5)
    rw [lenR, List.take_length] at hall5
    refine wpAny_execs_nil ?_
    exact law_end (s := { s with heap := h5, toks := tk5 }) X ao LF hr F5 g1 g2 g3 d1 d2 ⟨pL, ys, rfl, pOf k5, hall5.imp fun y zs ⟨D, vs, e, _, _, hl, ha⟩ => ⟨D, vs, e, hl, ha⟩⟩ (LI.on ring0 (kqOf kp5)) (lives_LLI _ _ _ _ (kqOf kp5) num0) (lives_LLI _ _ _ _ (kqOf kp5) ranks0) q
end
end Mine
end
section
open PySem PySem.W PyProof.Rows PySem.W.KXs
set_option maxRecDepth 100000
set_option Elab.async false
namespace Mine
section
variable {prog : Program} {w : World} {A : Around} {h : Heap} {mg : Str → Option Value} {table : Table}

theorem law_spec {f : Addr} {fd : FuncData} {v : Value} {xs : List Int} (X : Txtop mg h table) (ao : Ao A 8) (fn : FnI mg h 36 (S "law") f fd) (hv : ScrV h v xs) (hlen : xs.length ≤ 63) (LF : LawFacts table (ringF (xs.take 10))) :
    Tr prog w A h (call (.ref f) [v]) (IsB true) := by
  refine tr_call (binds := [(S "script", v)]) X.G fn (by have := ao.hd; omega) (fun _ _ _ => rfl) (fun n x hx => ?_) (fun L cd s h₁ tk F hcl => ?_)
  · simp only [List.mem_cons, List.not_mem_nil, or_false] at hx
    subst hx; exact .inl rfl
  · have aod := ao.deeper (env := fe 36 (S "law") L f cd)
    have hh := aod.hh
    have ge : GEnv (fe 36 (S "law") L f cd) := fenv_ge _ _ _ _ _
    have hu : (A.deeper (fe 36 (S "law") L f cd)).units + 64 < cLine := by have := aod.hu; omega
    have ao3 : Ao (A.deeper (fe 36 (S "law") L f cd)) 3 := ⟨hh, by have := aod.hd; omega, by have := aod.hu; omega⟩
    have ao4 : Ao (A.deeper (fe 36 (S "law") L f cd)) 4 := ⟨hh, by have := aod.hd; omega, by have := aod.hu; omega⟩
    have hz : ∀ n : Nat, n ≤ 1000 → n ≤ sizeLine := fun n hn => by unfold sizeLine; omega
    obtain ⟨aRing, fdRing, fnRing⟩ := X.ring
    obtain ⟨aRoot, fdRoot, fnRoot⟩ := X.root
    obtain ⟨aTurns, fdTurns, fnTurns⟩ := X.turns
    obtain ⟨aFm, fdFm, fnFm⟩ := X.fm
    obtain ⟨aIf, fdIf, fnIf⟩ := X.ifmt
    obtain ⟨aCmp, fdCmp, fnCmp⟩ := X.cmp
    obtain ⟨aOrd, fdOrd, fnOrd⟩ := X.order
    obtain ⟨aLen, fdLen, fnLen⟩ := X.lengths
    obtain ⟨aUdm, fdUdm, fnUdm⟩ := X.udm
    obtain ⟨aHdn, fdHdn, fnHdn⟩ := X.hdn
    obtain ⟨pP, gP, isP⟩ := X.pat
    obtain ⟨tT, gT, isT⟩ := X.tab
    have RD : ∀ {m cm : Str → Option Value} {h' : Heap}, Fx h (fe 36 (S "law") L f cd) m cm h' → Rd mg (fe 36 (S "law") L f cd) h' := fun F => ⟨X.G.up F.keep, ge, rfl, X.fr⟩
    generalize hring : ringF (xs.take 10) = ring at LF
    have hrl := LF.len
    -- ring = _law_ring(script[:10])
    refine ex_assign F (P := fun h' u => ListV IntV h' u ring) (ev_call1 (Pa := LI (xs.take 10)) (X.G.up F.keep) ge rfl rfl rfl (fnRing.up F.keep)
      (fun h2 k2 => Tr.mono (slice_script (xs := xs) (k := 10) (ev_loc (F.up k2) rfl rfl rfl (hv.up (F.up k2).keep)) (fun h3 k3 => tr_int) (by omega) (hz _ (by omega))) fun _ _ _ p => p.list) rfl
      (fun h2 u k2 p2 => by rw [← hring]; exact ring_spec (X.G.up (F.up k2).keep) X.fr ao3 (fnRing.up (F.up k2).keep) p2 (by simp; omega))) rfl rfl fun h2 v1 h3 tk3 k2 p2 F3 kq3 => ?_
    have ring3 : ListV IntV h3 v1 ring := LI.on p2 kq3
    -- root = _law_root(ring)
    refine ex_assignC F3 (P := fun h' u => ∃ r : Nat, IsRoot ring r ∧ IntV h' u r) (ev_call1 (Pa := LI ring) (X.G.up F3.keep) ge rfl rfl rfl (fnRoot.up F3.keep) (fun h4 k4 => ev_loc (F3.up k4) rfl rfl rfl (LI.on ring3 k4.kq)) rfl
      (fun h4 u k4 p4 => root_spec (X.G.up (F3.up k4).keep) X.fr ao3 (fnRoot.up (F3.up k4).keep) p4 LF.pos (by omega))) rfl rfl (hcl (S "root") _ rfl) rfl fun h4 v2 h5 tk5 k4 p4 F5 kq5 => ?_
    obtain ⟨r, hr, t2, rfl⟩ := p4
    have hr1 := hr.pos
    have hr2 := hr.le
    have ring5 : ListV IntV h5 v1 ring := LI.on ring3 (k4.kq.trans kq5)
    -- numbers = _law_turns(ring)
    refine ex_assignC F5 (P := fun h' u => LLI h' u (turns ring)) (ev_call1 (Pa := LI ring) (X.G.up F5.keep) ge rfl rfl rfl (fnTurns.up F5.keep) (fun h6 k6 => ev_loc (F5.up k6) rfl rfl rfl (LI.on ring5 k6.kq)) rfl
      (fun h6 u k6 p6 => turns_spec lives_int flat_int (X.G.up (F5.up k6).keep) X.fr ao3 (fnTurns.up (F5.up k6).keep) p6 (by omega))) rfl rfl (hcl (S "numbers") _ rfl) rfl fun h6 v3 h7 tk7 k6 p6 F7 kq7 => ?_
    have ring7 : ListV IntV h7 v1 ring := LI.on ring5 (k6.kq.trans kq7)
    have num7 : LLI h7 v3 (turns ring) := lives_LLI _ _ _ _ kq7 p6
    -- rows = _law_turns([filemode(32768 + one) for one in ring])
    refine ex_assignC F7 (P := fun h' u => LLS h' u (rowsF table ring)) (ev_call1 (Pa := LS (ring.map (labelF table))) (X.G.up F7.keep) ge rfl rfl rfl (fnTurns.up F7.keep)
      (fun h8 k8 => Tr.mono (tr_comp (S := fun x u _ => x ∈ ring ∧ IntV h8 u x) (p := fun _ => true) (f := labelF table) (T := StrV) (xs := ring) lives_str (F7.up k8) rfl
        (Tr.mono (ev_loc (Pv := fun _ u => u = v1) (F7.up k8) rfl rfl rfl rfl) fun h9 u k9 e => by rw [e]; exact (iters_old k9 hh (LI.on ring7 k8.kq)).mem) (hz _ (by omega))
        (fun C cells sp => body_local rfl fun x u h9 m cm hs F9 hc hb => Tr.mono (ev_call1 (Pa := IsI (32768 + x)) (X.G.up ((F7.up k8).keep.trans F9.keep)) ge rfl rfl rfl (fnFm.up ((F7.up k8).keep.trans F9.keep))
          (fun h10 k10 => ev_add tr_int fun h11 k11 => ev_loc ((F9.up k10).up k11) rfl hb rfl hs.2) rfl
          (fun h10 u k10 p10 => filemode_spec (X.G.up (((F7.up k8).keep.trans F9.keep).trans k10)) X.fr ao4 (fnFm.up (((F7.up k8).keep.trans F9.keep).trans k10)) (fnIf.up (((F7.up k8).keep.trans F9.keep).trans k10)) gT (TabUp isT (((F7.up k8).keep.trans F9.keep).trans k10)) p10 X.tlen (LF.join x hs.1)))
          fun _ _ _ p => off_str p)) fun h9 u k9 p9 => by have := p9.list; rw [List.filter_eq_self.mpr (by simp)] at this; exact this) rfl
      (fun h8 u k8 p8 => turns_spec lives_str flat_str (X.G.up (F7.up k8).keep) X.fr ao3 (fnTurns.up (F7.up k8).keep) p8 (by simp; omega))) rfl rfl (hcl (S "rows") _ rfl) rfl fun h8 v4 h9 tk9 k8 p8 F9 kq9 => ?_
    have ring9 : ListV IntV h9 v1 ring := LI.on ring7 (k8.kq.trans kq9)
    have num9 : LLI h9 v3 (turns ring) := lives_LLI _ _ _ _ (k8.kq.trans kq9) num7
    have row9 : LLS h9 v4 (rowsF table ring) := lives_LLS _ _ _ _ kq9 p8
    have hrows : (rowsF table ring).length = ring.length := by simp [rowsF, turns]
    have hnums : (turns ring).length = ring.length := by simp [turns]
    have hhost : ∀ x ∈ rowsF table ring, x.length = ring.length := fun x hx => (LF.host x hx).1
    -- ranks = [[three_way_cmp(row, other) for other in rows] for row in rows]
    refine ex_comp (S := fun x u _ => x ∈ rowsF table ring ∧ ListV StrV h9 u x) (p := fun _ => true) (f := fun a => (((rowsF table ring).filter fun _ => true).map fun b => cmpF a b)) (T := ListV IntV) (xs := rowsF table ring) (lives_list lives_int) F9 rfl rfl rfl
      (Tr.mono (ev_cell (Pv := fun _ u => u = v4) F9 rfl rfl rfl rfl rfl) fun h10 u k10 e => by rw [e]; exact (iters_old k10 hh row9).mem) (hz _ (by omega))
      (fun C cells sp => body_cell rfl (by simp) (by simp; decide) sp fun x u h10 m cm hs F10 hc hb => ?_) fun h11 tk11 v5 F11 kq11 p11 => ?_
    · obtain ⟨c, hc1, hc2, hc3⟩ := sp.own (S "row") (by simp)
      have hrw : cells.lookup (S "rows") = some (L + 3) := sp.free (S "rows") (by simp)
      have hrv : cm (S "rows") = some v4 := hc (S "rows") (by simp)
      have row10 : LLS h10 v4 (rowsF table ring) := lives_LLS _ _ _ _ F10.keep.kq row9
      refine Tr.mono (tr_comp (S := fun y u _ => y ∈ rowsF table ring ∧ ListV StrV h10 u y) (p := fun _ => true) (f := fun b => cmpF x b) (T := IntV) (xs := rowsF table ring) lives_int F10 (by
          simp only [compOk, compE, List.all_cons, List.all_nil, hc1]; rfl)
        (Tr.mono (ev_cell (Pv := fun _ u => u = v4) F10 rfl hrw hrv rfl rfl) fun h11 u k11 e => by rw [e]; exact (iters_old k11 hh row10).mem) (hz _ (by omega))
        (fun C2 cells2 sp2 => body_local rfl fun y u2 h11 m2 cm2 hs2 F11 hcl2 hb2 => ?_)) fun h11 u k11 p11 => off_new flat_int p11
      have hl2 : cells2.lookup (S "row") = some c := (sp2.free (S "row") (by simp)).trans hc1
      have hv2 : cm2 (S "row") = some u := (hcl2 (S "row") (by simp)).trans hb
      have kk : Keep h h11 := (F9.keep.trans F10.keep).trans F11.keep
      refine Tr.mono (ev_call2 (Pa := LS x) (Pb := fun a h' b => ListV StrV h' a x ∧ ListV StrV h' b y) (X.G.up kk) ge rfl rfl rfl (fnCmp.up kk)
        (fun h12 k12 => ev_cell (F11.up k12) rfl hl2 hv2 rfl (LS.on hs.2 ((F10.keep.trans F11.keep).trans k12).kq))
        (fun h12 a k12 p12 => Tr.mono (ev_loc (Pv := LS y) (F11.up k12) rfl hb2 rfl (LS.on hs2.2 (F11.keep.trans k12).kq)) fun h13 b k13 p13 => ⟨LS.on p12 k13.kq, p13⟩) rfl rfl
        (fun h12 a b k12 p12 => cmp_spec (X.G.up (kk.trans k12)) ao3 (fnCmp.up (kk.trans k12)) p12.1 p12.2 (by rw [hhost x hs.1, hhost y hs2.1]))) fun _ _ _ p => off_int p
    have ranks11 : LLI h11 v5 (ranksF (rowsF table ring)) := by
      have e : ((rowsF table ring).filter fun _ => true).map (fun a => (((rowsF table ring).filter fun _ => true).map fun b => cmpF a b)) = ranksF (rowsF table ring) := by
        rw [List.filter_eq_self.mpr (by simp)]; rfl
      rw [← e]; exact p11
    have ring11 : ListV IntV h11 v1 ring := LI.on ring9 kq11
    have num11 : LLI h11 v3 (turns ring) := lives_LLI _ _ _ _ kq11 num9
    have row11 : LLS h11 v4 (rowsF table ring) := lives_LLS _ _ _ _ kq11 row9
    -- if ranks != ..
    refine ex_if (c := false) (Tr.mono (P := fun _ b => b = !decide (ranksF (rowsF table ring) = ordersF (turns ring))) (tr_test (R := fun a h12 b => LLI h12 a (ranksF (rowsF table ring)) ∧ LLI h12 b (ordersF (turns ring))) (ev_loc (Pv := fun h u => LLI h u (ranksF (rowsF table ring))) F11 rfl rfl rfl ranks11)
      (fun h12 a k12 p12 => Tr.mono (tr_comp (S := fun x u _ => x ∈ turns ring ∧ ListV IntV h12 u x) (p := fun _ => true) (f := fun a => (((turns ring).filter fun _ => true).map fun b => orderF a b)) (T := ListV IntV) (xs := turns ring) (lives_list lives_int) (F11.up k12) rfl
        (Tr.mono (ev_cell (Pv := fun _ u => u = v3) (F11.up k12) rfl rfl rfl rfl rfl) fun h13 u k13 e => by rw [e]; exact (iters_old k13 hh (lives_LLI _ _ _ _ k12.kq num11)).mem) (hz _ (by omega))
        (fun C cells sp => body_cell rfl (by simp) (by simp; decide) sp fun x u h13 m cm hs F13 hc hb => ?_)) fun h13 b k13 p13 => ⟨lives_LLI _ _ _ _ k13.kq p12, by
          have := p13.list; rw [List.filter_eq_self.mpr (by simp)] at this; exact this⟩)
      (fun h12 a b k12 p12 => ne_LL hu p12.1 p12.2)) fun _ b _ e => by rw [e, LF.order]; simp) fun h12 tk12 k12 => ?_
    · obtain ⟨c, hc1, hc2, hc3⟩ := sp.own (S "turn") (by simp)
      have hrw : cells.lookup (S "numbers") = some (L + 2) := sp.free (S "numbers") (by simp)
      have hrv : cm (S "numbers") = some v3 := hc (S "numbers") (by simp)
      have num13 : LLI h13 v3 (turns ring) := lives_LLI _ _ _ _ (k12.trans F13.keep).kq num11
      refine Tr.mono (tr_comp (S := fun y u _ => y ∈ turns ring ∧ ListV IntV h13 u y) (p := fun _ => true) (f := fun b => orderF x b) (T := IntV) (xs := turns ring) lives_int F13 (by
          simp only [compOk, compE, List.all_cons, List.all_nil, hc1]; rfl)
        (Tr.mono (ev_cell (Pv := fun _ u => u = v3) F13 rfl hrw hrv rfl rfl) fun h14 u k14 e => by rw [e]; exact (iters_old k14 hh num13).mem) (hz _ (by omega))
        (fun C2 cells2 sp2 => body_local rfl fun y u2 h14 m2 cm2 hs2 F14 hcl2 hb2 => ?_)) fun h14 u k14 p14 => off_new flat_int p14
      have hl2 : cells2.lookup (S "turn") = some c := (sp2.free (S "turn") (by simp)).trans hc1
      have hv2 : cm2 (S "turn") = some u := (hcl2 (S "turn") (by simp)).trans hb
      have kk : Keep h h14 := ((F11.up k12).keep.trans F13.keep).trans F14.keep
      refine Tr.mono (ev_call2 (Pa := LI x) (Pb := fun a h' b => ListV IntV h' a x ∧ ListV IntV h' b y) (X.G.up kk) ge rfl rfl rfl (fnOrd.up kk)
        (fun h15 k15 => ev_cell (F14.up k15) rfl hl2 hv2 rfl (LI.on hs.2 ((F13.keep.trans F14.keep).trans k15).kq))
        (fun h15 a k15 p15 => Tr.mono (ev_loc (Pv := LI y) (F14.up k15) rfl hb2 rfl (LI.on hs2.2 (F14.keep.trans k15).kq)) fun h16 b k16 p16 => ⟨LI.on p15 k16.kq, p16⟩) rfl rfl
        (fun h15 a b k15 p15 => order_spec (X.G.up (kk.trans k15)) X.fr ao3 (fnOrd.up (kk.trans k15)) p15.1 p15.2)) fun _ _ _ p => off_int p
    rw [if_neg (by simp)]
    refine wpAny_execs_nil ?_
    have F12 := F11.up k12
    have ring12 : ListV IntV h12 v1 ring := LI.on ring11 k12.kq
    have num12 : LLI h12 v3 (turns ring) := lives_LLI _ _ _ _ k12.kq num11
    have row12 : LLS h12 v4 (rowsF table ring) := lives_LLS _ _ _ _ k12.kq row11
    have ranks12 : LLI h12 v5 (ranksF (rowsF table ring)) := lives_LLI _ _ _ _ k12.kq ranks11
    -- lengths = []
    refine ex_assign (s := { s with heap := h12, toks := tk12 }) F12 (tr_List (P := ListV IntV) (xs := []) (lives_list lives_int) (disp_nil .nil) (hz _ (by simp))) rfl rfl fun h13 v6 h14 tk14 k13 p13 F14 kq14 => ?_
    obtain ⟨pL, vs0, rfl, hpn, hpl, ha0⟩ := p13
    cases ha0
    have hp14 : h14.PlainList pL #[] := kq14 _ _ hpl
    have kq12 : Kq h12 h14 := k13.kq.trans kq14
    have hpb : h.get? pL = none := none_of_keep F12.keep hpn
    have e4 : ∃ lR, v4 = .ref lR := let ⟨lR, _, e, _⟩ := row12; ⟨lR, e⟩
    obtain ⟨lR, rfl⟩ := e4
    exact law_tail (s := { s with heap := h14, toks := tk14 }) X ao4 LF hr F14 (hcl (S "host") _ rfl) rfl rfl rfl rfl rfl rfl hp14 hpb hpn kq12 ring12 num12 row12 ranks12 fun v h' tk k p => ⟨v, h', tk, rfl, rfl, k, p⟩
end
end Mine
end
section
open PySem PySem.W PyProof.Rows
set_option maxRecDepth 100000
set_option Elab.async false
namespace Mine
def table0 : Table := [[(40960, S "l"), (49152, S "s"), (32768, S "-"), (24576, S "b"), (16384, S "d"), (8192, S "c"), (4096, S "p")], [(256, S "r")], [(128, S "w")], [(2112, S "s"), (2048, S "S"), (64, S "x")], [(32, S "r")], [(16, S "w")], [(1032, S "s"), (1024, S "S"), (8, S "x")], [(4, S "r")], [(2, S "w")], [(513, S "t"), (512, S "T"), (1, S "x")]]
abbrev lab (i : Int) : Str := labelF table0 i
abbrev labL (i : Int) : List Nat := (lab i).cps.toList
def sg (b : Bool) (c : Nat) : Nat := if b then c else 45
/-- the ten signs, by the bits -/
def sig (i : Nat) : List Nat := [45, sg (i.testBit 8) 114, sg (i.testBit 7) 119, sg (i.testBit 6) 120, sg (i.testBit 5) 114, sg (i.testBit 4) 119, sg (i.testBit 3) 120, sg (i.testBit 2) 114, sg (i.testBit 1) 119, sg (i.testBit 0) 120]
theorem labs0 : ∀ i < 32, labL ((i + 0 : Nat) : Int) = sig (i + 0) := by decide +kernel
theorem labs1 : ∀ i < 32, labL ((i + 32 : Nat) : Int) = sig (i + 32) := by decide +kernel
theorem labs2 : ∀ i < 32, labL ((i + 64 : Nat) : Int) = sig (i + 64) := by decide +kernel
theorem labs3 : ∀ i < 32, labL ((i + 96 : Nat) : Int) = sig (i + 96) := by decide +kernel
theorem labs4 : ∀ i < 32, labL ((i + 128 : Nat) : Int) = sig (i + 128) := by decide +kernel
theorem labs5 : ∀ i < 32, labL ((i + 160 : Nat) : Int) = sig (i + 160) := by decide +kernel
theorem labs6 : ∀ i < 32, labL ((i + 192 : Nat) : Int) = sig (i + 192) := by decide +kernel
theorem labs7 : ∀ i < 32, labL ((i + 224 : Nat) : Int) = sig (i + 224) := by decide +kernel
theorem labs8 : ∀ i < 32, labL ((i + 256 : Nat) : Int) = sig (i + 256) := by decide +kernel
theorem labs9 : ∀ i < 32, labL ((i + 288 : Nat) : Int) = sig (i + 288) := by decide +kernel
theorem labs10 : ∀ i < 32, labL ((i + 320 : Nat) : Int) = sig (i + 320) := by decide +kernel
theorem labs11 : ∀ i < 32, labL ((i + 352 : Nat) : Int) = sig (i + 352) := by decide +kernel
theorem labs12 : ∀ i < 32, labL ((i + 384 : Nat) : Int) = sig (i + 384) := by decide +kernel
theorem labs13 : ∀ i < 32, labL ((i + 416 : Nat) : Int) = sig (i + 416) := by decide +kernel
theorem labs14 : ∀ i < 32, labL ((i + 448 : Nat) : Int) = sig (i + 448) := by decide +kernel
theorem labs15 : ∀ i < 32, labL ((i + 480 : Nat) : Int) = sig (i + 480) := by decide +kernel
theorem lab_sig (i : Nat) (h : i < 512) : labL (i : Nat) = sig i := by
  have e : i = i % 32 + 32 * (i / 32) := by omega
  have hm : i % 32 < 32 := by omega
  have hd : i / 32 < 16 := by omega
  generalize i % 32 = j at e hm
  generalize i / 32 = d at e hd
  match d, hd, e with
  | 0, _, e => rw [show i = j + 0 by omega]; exact labs0 j hm
  | 1, _, e => rw [show i = j + 32 by omega]; exact labs1 j hm
  | 2, _, e => rw [show i = j + 64 by omega]; exact labs2 j hm
  | 3, _, e => rw [show i = j + 96 by omega]; exact labs3 j hm
  | 4, _, e => rw [show i = j + 128 by omega]; exact labs4 j hm
  | 5, _, e => rw [show i = j + 160 by omega]; exact labs5 j hm
  | 6, _, e => rw [show i = j + 192 by omega]; exact labs6 j hm
  | 7, _, e => rw [show i = j + 224 by omega]; exact labs7 j hm
  | 8, _, e => rw [show i = j + 256 by omega]; exact labs8 j hm
  | 9, _, e => rw [show i = j + 288 by omega]; exact labs9 j hm
  | 10, _, e => rw [show i = j + 320 by omega]; exact labs10 j hm
  | 11, _, e => rw [show i = j + 352 by omega]; exact labs11 j hm
  | 12, _, e => rw [show i = j + 384 by omega]; exact labs12 j hm
  | 13, _, e => rw [show i = j + 416 by omega]; exact labs13 j hm
  | 14, _, e => rw [show i = j + 448 by omega]; exact labs14 j hm
  | 15, _, e => rw [show i = j + 480 by omega]; exact labs15 j hm
  | n + 16, hd, _ => exact absurd hd (by omega)
theorem sg_ok (b : Bool) {c : Nat} (hc : c = 114 ∨ c = 119 ∨ c = 120) : sg b c = 45 ∨ sg b c = 114 ∨ sg b c = 119 ∨ sg b c = 120 := by
  unfold sg; cases b <;> simp <;> omega
theorem sig_ok (i : Nat) : ∀ c ∈ sig i, c = 45 ∨ c = 114 ∨ c = 119 ∨ c = 120 := by
  intro c hc
  unfold sig at hc
  simp only [List.mem_cons, List.not_mem_nil, or_false] at hc
  rcases hc with rfl | rfl | rfl | rfl | rfl | rfl | rfl | rfl | rfl | rfl
  · exact .inl rfl
  all_goals exact sg_ok _ (by omega)
theorem next0 : ∀ i < 64, sig (i + 0) < sig (i + 0 + 1) := by decide +kernel
theorem next1 : ∀ i < 64, sig (i + 64) < sig (i + 64 + 1) := by decide +kernel
theorem next2 : ∀ i < 64, sig (i + 128) < sig (i + 128 + 1) := by decide +kernel
theorem next3 : ∀ i < 64, sig (i + 192) < sig (i + 192 + 1) := by decide +kernel
theorem next4 : ∀ i < 64, sig (i + 256) < sig (i + 256 + 1) := by decide +kernel
theorem next5 : ∀ i < 64, sig (i + 320) < sig (i + 320 + 1) := by decide +kernel
theorem next6 : ∀ i < 64, sig (i + 384) < sig (i + 384 + 1) := by decide +kernel
theorem next7 : ∀ i < 63, sig (i + 448) < sig (i + 448 + 1) := by decide +kernel
theorem sig_next (i : Nat) (h : i < 511) : sig i < sig (i + 1) := by
  have e : i = i % 64 + 64 * (i / 64) := by omega
  have hm : i % 64 < 64 := by omega
  have hd : i / 64 < 8 := by omega
  generalize i % 64 = j at e hm
  generalize i / 64 = d at e hd
  match d, hd, e with
  | 0, _, e => rw [show i = j + 0 by omega]; exact next0 j (by omega)
  | 1, _, e => rw [show i = j + 64 by omega]; exact next1 j (by omega)
  | 2, _, e => rw [show i = j + 128 by omega]; exact next2 j (by omega)
  | 3, _, e => rw [show i = j + 192 by omega]; exact next3 j (by omega)
  | 4, _, e => rw [show i = j + 256 by omega]; exact next4 j (by omega)
  | 5, _, e => rw [show i = j + 320 by omega]; exact next5 j (by omega)
  | 6, _, e => rw [show i = j + 384 by omega]; exact next6 j (by omega)
  | 7, _, e => rw [show i = j + 448 by omega]; exact next7 j (by omega)
  | n + 8, hd, _ => exact absurd hd (by omega)
theorem lab_next (i : Nat) (h : i < 511) : labL (i : Nat) < labL ((i + 1 : Nat) : Int) := by
  rw [lab_sig i (by omega), lab_sig (i + 1) (by omega)]; exact sig_next i h
theorem one_sign : ∀ es ∈ table0, ∀ p ∈ es, p.2.length = 1 := by decide +kernel
theorem char_len {k : Nat} {mode : Int} {es : List (Int × Str)} (h : ∀ p ∈ es, p.2.length = 1) : (charF k mode es).length = 1 := by
  unfold charF
  split
  · rename_i p e; exact h p (List.mem_of_find?_eq_some e)
  · split <;> decide +kernel
theorem chars_join (mode : Int) : JoinOk (S "") (charsF mode table0) = true := by
  have h1 : ∀ x ∈ charsF mode table0, x.length = 1 := fun x hx => by
    unfold charsF at hx
    obtain ⟨k, hk, rfl⟩ := List.mem_map.mp hx
    unfold chF
    refine char_len fun p hp => ?_
    rw [List.getD_eq_getElem?_getD] at hp
    cases e : table0[k]? with
    | none => rw [e] at hp; simp at hp
    | some es => rw [e] at hp; exact one_sign es (List.mem_of_getElem? e) p hp
  have h2 : (charsF mode table0).length = 10 := by unfold charsF; simp [table0]
  have h3 : ∀ (l : List Str) (acc : Nat), (∀ x ∈ l, x.length = 1) → l.foldl (fun a x => a + x.length + (S "").length) acc = acc + l.length := by
    intro l
    induction l with
    | nil => intro acc _; simp
    | cons x xs ih =>
      intro acc h
      have h0 : (S "").length = 0 := by decide +kernel
      rw [List.foldl_cons, ih _ fun y hy => h y (by simp [hy]), h x (by simp), h0, List.length_cons]; omega
  unfold JoinOk
  rw [List.foldl_toArray', h3 _ _ h1, h2]
  · simp [Builtin.Str.tooLong, sizeLine]
  · simp
/-- a right -/
def Right (a : Int) : Prop := 0 ≤ a ∧ a < 512
theorem lab_ltN (i : Nat) : ∀ d : Nat, i + d + 1 < 512 → labL (i : Nat) < labL ((i + d + 1 : Nat) : Int)
  | 0, h => lab_next i (by omega)
  | d + 1, h => List.lt_trans (lab_ltN i d (by omega)) (lab_next (i + d + 1) (by omega))
theorem lab_lt {a b : Int} (ha : Right a) (hb : Right b) (h : a < b) : labL a < labL b := by
  obtain ⟨i, rfl⟩ := Int.eq_ofNat_of_zero_le ha.1
  obtain ⟨j, rfl⟩ := Int.eq_ofNat_of_zero_le hb.1
  have h2 := hb.2
  have : j = i + (j - i - 1) + 1 := by omega
  rw [this]
  exact lab_ltN i _ (by omega)
theorem lab_len {a : Int} (ha : Right a) : (labL a).length = 10 := by
  obtain ⟨i, rfl⟩ := Int.eq_ofNat_of_zero_le ha.1
  rw [lab_sig i (by have := ha.2; omega)]; rfl
theorem lab_sign {a : Int} (ha : Right a) : ∀ c ∈ labL a, c = 45 ∨ c = 114 ∨ c = 119 ∨ c = 120 := by
  obtain ⟨i, rfl⟩ := Int.eq_ofNat_of_zero_le ha.1
  rw [lab_sig i (by have := ha.2; omega)]; exact sig_ok i
theorem lab_join {a : Int} (_ : Right a) : JoinOk (S "") (charsF (32768 + a) table0) = true := chars_join _
theorem lab_inj {a b : Int} (ha : Right a) (hb : Right b) (h : lab a = lab b) : a = b := by
  have h' : labL a = labL b := by unfold labL; rw [h]
  rcases Int.lt_trichotomy a b with c | c | c
  · have := lab_lt ha hb c; rw [h'] at this; exact absurd this (List.lt_irrefl _)
  · exact c
  · have := lab_lt hb ha c; rw [h'] at this; exact absurd this (List.lt_irrefl _)
theorem ltS_lab {a b : Int} (ha : Right a) (hb : Right b) : ltS (lab a) (lab b) = decide (a < b) := by
  unfold ltS
  rcases Int.lt_trichotomy a b with c | c | c
  · rw [decide_eq_true c, decide_eq_true (lab_lt ha hb c)]
  · subst c; rw [decide_eq_false (Int.lt_irrefl _), decide_eq_false (List.lt_irrefl _)]
  · rw [decide_eq_false (show ¬ a < b by omega), decide_eq_false]
    exact fun x => List.lt_irrefl _ (List.lt_trans x (lab_lt hb ha c))
theorem gtS_lab {a b : Int} (ha : Right a) (hb : Right b) : gtS (lab a) (lab b) = decide (b < a) := ltS_lab hb ha

theorem lex_lab {c : Str → Str → Bool} {d : Int → Int → Bool} (hc : ∀ {a b : Int}, Right a → Right b → c (lab a) (lab b) = d a b) : ∀ (x y : List Int), (∀ a ∈ x, Right a) → (∀ a ∈ y, Right a) →
    lexF c (x.map lab) (y.map lab) = (match x, y with | a :: as, b :: bs => if a = b then lexF c (as.map lab) (bs.map lab) else d a b | _, _ => false)
  | [], _, _, _ => by simp [lexF]
  | _ :: _, [], _, _ => by simp [lexF]
  | a :: as, b :: bs, hx, hy => by
    have ha := hx a (by simp)
    have hb := hy b (by simp)
    show (if lab a == lab b then _ else _) = _
    by_cases e : a = b
    · subst e; simp
    · have : (lab a == lab b) = false := by simpa using fun h => e (lab_inj ha hb h)
      rw [this]; simp [e, hc ha hb]
theorem cmp_lab : ∀ (x y : List Int), (∀ a ∈ x, Right a) → (∀ a ∈ y, Right a) → cmpF (x.map lab) (y.map lab) = orderF x y
  | [], y, _, _ => by cases y <;> simp [cmpF, lexF, orderF]
  | a :: as, [], _, _ => by simp [cmpF, lexF, orderF]
  | a :: as, b :: bs, hx, hy => by
    have ih := cmp_lab as bs (fun z hz => hx z (by simp [hz])) (fun z hz => hy z (by simp [hz]))
    unfold cmpF at ih ⊢
    rw [lex_lab gtS_lab _ _ hx hy, lex_lab ltS_lab _ _ hx hy]
    by_cases e : a = b
    · subst e; simp only [if_true]; rw [ih]; simp [orderF]
    · simp only [e, if_false]
      unfold orderF
      rw [if_pos e]
      rcases Int.lt_trichotomy a b with c | c | c
      · simp [c, show ¬ b < a by omega]
      · exact absurd c e
      · simp [c, show ¬ a < b by omega]
end Mine
end
section
open PySem PySem.W PyProof.Rows
set_option maxRecDepth 100000
set_option Elab.async false
namespace Mine
/-- labels, a dot ahead of each -/
def dots (host : List Str) : List Nat := (host.map fun x => 46 :: x.cps.toList).flatten
theorem dots_cons (x : Str) (xs : List Str) : dots (x :: xs) = 46 :: x.cps.toList ++ dots xs := rfl
def Ten (host : List Str) : Prop := ∀ x ∈ host, x.cps.toList.length = 10
theorem dots_len : ∀ host, Ten host → (dots host).length = 11 * host.length
  | [], _ => rfl
  | x :: xs, h => by
    have h1 := h x (by simp)
    have h2 := dots_len xs fun y hy => h y (by simp [hy])
    rw [dots_cons]; simp only [List.length_append, List.length_cons, h1, h2]; omega
theorem dots_drop : ∀ (host : List Str) (j : Nat), Ten host → (dots host).drop (11 * j) = dots (host.drop j)
  | host, 0, _ => by simp
  | [], j + 1, _ => by simp [dots]
  | x :: xs, j + 1, h => by
    have h1 := h x (by simp)
    have h2 := dots_drop xs j fun y hy => h y (by simp [hy])
    have hl : (46 :: x.cps.toList).length = 11 := by rw [List.length_cons, h1]
    rw [dots_cons, show 11 * (j + 1) = (46 :: x.cps.toList).length + 11 * j by rw [hl]; omega, List.drop_append]
    simp only [Nat.add_sub_cancel_left, List.drop_succ_cons]
    rw [List.drop_eq_nil_of_le (by omega), List.nil_append, h2]
theorem dots_inj : ∀ (a b : List Str), Ten a → Ten b → dots a = dots b → a = b
  | [], [], _, _, _ => rfl
  | [], y :: ys, _, _, h => by simp [dots] at h
  | x :: xs, [], _, _, h => by simp [dots] at h
  | x :: xs, y :: ys, ha, hb, h => by
    have h1 := ha x (by simp)
    have h2 := hb y (by simp)
    rw [dots_cons, dots_cons] at h
    obtain ⟨e1, e2⟩ := List.append_inj h (by simp only [List.length_cons, h1, h2])
    have e3 : x = y := by
      have : x.cps.toList = y.cps.toList := by simpa using e1
      exact Str.ext' (Array.toList_inj.mp this)
    rw [e3, dots_inj xs ys (fun z hz => ha z (by simp [hz])) (fun z hz => hb z (by simp [hz])) e2]
theorem dotS : (S ".").cps.toList = [46] := by decide +kernel
theorem join_list : ∀ (x : Str) (xs : List Str), (Str.join (S ".") (x :: xs)).cps.toList = x.cps.toList ++ dots xs
  | x, [] => by simp [Str.join, dots]
  | x, y :: ys => by
    have ih := join_list y ys
    show (x ++ S "." ++ Str.join (S ".") (y :: ys)).cps.toList = _
    rw [Str.cps_append, Str.cps_append]
    simp only [Array.toList_append, dotS, ih, dots_cons]
    simp
theorem txt_join (xs : List Str) : Txt.join (S ".") xs = Str.join (S ".") xs := StrLaws.glued_eq_join _ _
theorem host_list {host : List Str} (h : 1 ≤ host.length) : (hostF host).cps.toList = (dots host).drop 1 := by
  cases host with
  | nil => simp at h
  | cons x xs => unfold hostF; rw [txt_join, join_list, dots_cons]; rfl
theorem rule_list (host : List Str) {k : Nat} (h : 1 ≤ (host.take k).length) : (ruleF host k).cps.toList = dots (host.take k) := by
  unfold ruleF
  rw [Str.cps_append, Array.toList_append, dotS, txt_join]
  cases e : host.take k with
  | nil => rw [e] at h; simp at h
  | cons x xs => rw [join_list, dots_cons]; rfl
theorem ends_iff {host : List Str} {n k : Nat} (hn : host.length = n) (ht : Ten host) (h1 : 1 ≤ k) (hk : k < n) : Txt.endswith (hostF host) (ruleF host k) = decide (host.take k = host.drop (n - k)) := by
  have tt : Ten (host.take k) := fun x hx => ht x (List.mem_of_mem_take hx)
  have td : Ten (host.drop (n - k)) := fun x hx => ht x (List.mem_of_mem_drop hx)
  have lt : (host.take k).length = k := by simp; omega
  have hh := host_list (host := host) (by omega)
  have hr := rule_list host (k := k) (by omega)
  have l1 : (hostF host).length = 11 * n - 1 := by
    have : (hostF host).length = (hostF host).cps.toList.length := Array.length_toList.symm
    rw [this, hh, List.length_drop, dots_len _ ht, hn]
  have l2 : (ruleF host k).length = 11 * k := by
    have : (ruleF host k).length = (ruleF host k).cps.toList.length := Array.length_toList.symm
    rw [this, hr, dots_len _ tt, lt]
  unfold Txt.endswith
  rw [StrLaws.subAt_eq, l1, l2, hh, hr, List.drop_drop, decide_eq_true (show 0 + 11 * k ≤ 11 * n - 1 by omega), Bool.true_and, show 1 + (11 * n - 1 - 11 * k) = 11 * (n - k) by omega, dots_drop _ _ ht]
  have ld : (dots (host.drop (n - k))).length = 11 * k := by rw [dots_len _ td, List.length_drop, hn]; omega
  rw [List.take_of_length_le (by omega)]
  by_cases e : host.take k = host.drop (n - k)
  · rw [← e]; simp
  · rw [decide_eq_false e]
    have : ¬ dots (host.drop (n - k)) = dots (host.take k) := fun x => e (dots_inj _ _ td tt x).symm
    simpa using this
/-- signs of labels, and dots -/
def Sg (c : Nat) : Prop := c = 46 ∨ c = 45 ∨ c = 114 ∨ c = 119 ∨ c = 120
theorem label_of {x : Str} (h : ∀ c ∈ x.cps.toList, Sg c) (hl : x.length ≤ 1000) : Label x := by
  refine ⟨fun c hc => ?_, fun c hc => ?_, hl⟩
  · rcases h c hc with rfl | rfl | rfl | rfl | rfl <;> omega
  · rcases h c (by simpa using hc) with rfl | rfl | rfl | rfl | rfl <;> decide +kernel
theorem dots_sg {host : List Str} (h : ∀ x ∈ host, ∀ c ∈ x.cps.toList, Sg c) : ∀ c ∈ dots host, Sg c := by
  intro c hc
  unfold dots at hc
  obtain ⟨l, hl, hm⟩ := List.mem_flatten.mp hc
  obtain ⟨x, hx, rfl⟩ := List.mem_map.mp hl
  rcases List.mem_cons.mp hm with r | r
  · exact .inl r
  · exact h x hx c r
theorem join_ok : ∀ {host : List Str}, Ten host → host.length ≤ 64 → JoinOk (S ".") host = true := by
  intro host ht hl
  have : ∀ (l : List Str) (acc : Nat), Ten l → l.foldl (fun a x => a + x.length + (S ".").length) acc = acc + 11 * l.length := by
    intro l
    induction l with
    | nil => intro acc _; simp
    | cons x xs ih =>
      intro acc h
      have h1 : x.length = 10 := by have := h x (by simp); exact Array.length_toList.symm.trans this
      have h2 : (S ".").length = 1 := by decide +kernel
      rw [List.foldl_cons, ih _ fun y hy => h y (by simp [hy]), h1, h2, List.length_cons]; omega
  unfold JoinOk
  rw [List.foldl_toArray', this _ _ ht]
  · simp [Builtin.Str.tooLong, sizeLine]; omega
  · simp
end Mine
end
section
open PySem PySem.W PyProof.Rows
set_option maxRecDepth 100000
set_option Elab.async false
namespace Mine
section
variable {α β : Type}
theorem turns_comm (f : α → β) (xs : List α) : turns (xs.map f) = (turns xs).map (List.map f) := by
  unfold turns
  rw [List.length_map, List.map_map]
  refine List.map_congr_left fun i _ => ?_
  simp
theorem turns_mem {xs t : List α} (h : t ∈ turns xs) : t.length = xs.length ∧ ∀ a ∈ t, a ∈ xs := by
  simp only [turns, List.mem_map] at h
  obtain ⟨j, hj, rfl⟩ := h
  simp only [List.mem_range] at hj
  refine ⟨by simp; omega, fun a ha => ?_⟩
  rcases List.mem_append.mp ha with r | r
  · exact List.mem_of_mem_drop r
  · exact List.mem_of_mem_take r
theorem map_inj_on {f : α → β} : ∀ {x y : List α}, (∀ a ∈ x, ∀ b ∈ y, f a = f b → a = b) → x.map f = y.map f → x = y
  | [], [], _, _ => rfl
  | [], _ :: _, _, h => by simp at h
  | _ :: _, [], _, h => by simp at h
  | a :: as, b :: bs, hi, h => by
    simp only [List.map_cons, List.cons.injEq] at h
    rw [hi a (by simp) b (by simp) h.1, map_inj_on (fun c hc d hd => hi c (by simp [hc]) d (by simp [hd])) h.2]
theorem dec_map [DecidableEq α] [DecidableEq β] {f : α → β} {x y : List α} (h : ∀ a ∈ x, ∀ b ∈ y, f a = f b → a = b) : decide (x.map f = y.map f) = decide (x = y) := by
  by_cases e : x = y
  · subst e; simp
  · rw [decide_eq_false e, decide_eq_false]; exact fun q => e (map_inj_on h q)
end
/-- the lengths in which a turn begins as it ends -/
def bordF (n : Nat) (t : List Int) : List Int := (rng 1 n 1).filter fun k => decide (t.take k.toNat = t.drop (n - k.toNat))

theorem len_bord {n : Nat} {t : List Int} (ht : t.length = n) (hr : ∀ a ∈ t, Right a) : lenF n (t.map lab) = bordF n t := by
  unfold lenF bordF
  refine List.filter_congr fun k hk => ?_
  have := mem_rng_one hk
  rw [ends_iff (n := n) (by simpa using ht) (fun x hx => by obtain ⟨a, ha, rfl⟩ := List.mem_map.mp hx; exact lab_len (hr a ha)) (by omega) (by omega), ← List.map_take, ← List.map_drop]
  exact dec_map fun a ha b hb => lab_inj (hr a (List.mem_of_mem_take ha)) (hr b (List.mem_of_mem_drop hb))

/-- the law of the numbers alone -/
structure NumFacts (ring : List Int) : Prop where
  lengths : ∀ r, IsRoot ring r → (turns ring).map (bordF ring.length) = (turns ring).map fun t => lengthsF t r
  least : ∀ r, IsRoot ring r → leastF (ordersF (turns ring)) ((turns ring).map (bordF ring.length)) = endF ring.length r

theorem facts_of {ring : List Int} (h1 : 1 ≤ ring.length) (h6 : ring.length ≤ 6) (hr : ∀ a ∈ ring, Right a) (N : NumFacts ring) : LawFacts table0 ring := by
  have hrows : rowsF table0 ring = (turns ring).map (List.map lab) := turns_comm _ _
  have hmem : ∀ host ∈ rowsF table0 ring, ∃ t ∈ turns ring, host = t.map lab := fun host hh => by
    rw [hrows] at hh; obtain ⟨t, ht, rfl⟩ := List.mem_map.mp hh; exact ⟨t, ht, rfl⟩
  have ten : ∀ t ∈ turns ring, Ten (t.map lab) := fun t ht x hx => by
    obtain ⟨a, ha, rfl⟩ := List.mem_map.mp hx; exact lab_len (hr a ((turns_mem ht).2 a ha))
  have sg : ∀ t ∈ turns ring, ∀ x ∈ t.map lab, ∀ c ∈ x.cps.toList, Sg c := fun t ht x hx c hc => by
    obtain ⟨a, ha, rfl⟩ := List.mem_map.mp hx; exact .inr (lab_sign (hr a ((turns_mem ht).2 a ha)) c hc)
  have hord : ranksF (rowsF table0 ring) = ordersF (turns ring) := by
    rw [hrows]; unfold ranksF ordersF
    rw [List.map_map]
    refine List.map_congr_left fun a ha => ?_
    simp only [Function.comp, List.map_map]
    refine List.map_congr_left fun b hb => ?_
    exact cmp_lab a b (fun z hz => hr z ((turns_mem ha).2 z hz)) (fun z hz => hr z ((turns_mem hb).2 z hz))
  have hlens : (rowsF table0 ring).map (lenF ring.length) = (turns ring).map (bordF ring.length) := by
    rw [hrows, List.map_map]
    exact List.map_congr_left fun t ht => len_bord (turns_mem ht).1 fun z hz => hr z ((turns_mem ht).2 z hz)
  refine ⟨h1, h6, fun a ha => lab_join (hr a ha), fun host hh => ?_, fun host hh k => ?_, hord, fun r hR => ?_, fun r hR => ?_⟩
  · obtain ⟨t, ht, rfl⟩ := hmem host hh
    have hl := (turns_mem ht).1
    have hl' : (t.map lab).length = ring.length := by simpa using hl
    refine ⟨hl', label_of (fun c hc => ?_) ?_, join_ok (ten t ht) (by omega)⟩
    · rw [host_list (by omega)] at hc
      exact dots_sg (sg t ht) c (List.mem_of_mem_drop hc)
    · have e : (hostF (t.map lab)).length = (hostF (t.map lab)).cps.toList.length := Array.length_toList.symm
      rw [e, host_list (by omega), List.length_drop, dots_len _ (ten t ht), hl']; omega
  · obtain ⟨t, ht, rfl⟩ := hmem host hh
    have hl := (turns_mem ht).1
    have hl' : (t.map lab).length = ring.length := by simpa using hl
    have tt : Ten ((t.map lab).take k) := fun x hx => ten t ht x (List.mem_of_mem_take hx)
    refine ⟨?_, join_ok tt (by rw [List.length_take]; omega), ?_⟩
    · by_cases hk : 1 ≤ ((t.map lab).take k).length
      · refine label_of (fun c hc => ?_) ?_
        · rw [rule_list _ hk] at hc
          exact dots_sg (fun x hx => sg t ht x (List.mem_of_mem_take hx)) c hc
        · have e : (ruleF (t.map lab) k).length = (ruleF (t.map lab) k).cps.toList.length := Array.length_toList.symm
          rw [e, rule_list _ hk, dots_len _ tt, List.length_take]; omega
      · have e0 : (t.map lab).take k = [] := by
          cases e : (t.map lab).take k with
          | nil => rfl
          | cons x xs => rw [e] at hk; simp at hk
        unfold ruleF
        rw [e0]
        refine label_of ?_ (by decide +kernel)
        have : (S "." ++ Txt.join (S ".") ([] : List Str)).cps.toList = [46] := by decide +kernel
        rw [this]
        intro c hc
        exact .inl (by simpa using hc)
    · exact KT.starts_app _ _
  · rw [hlens]; exact N.lengths r hR
  · rw [hlens, hord]; exact N.least r hR

/-! by the order of the numbers alone -/
section
variable {g : Int → Int} {ring : List Int}
theorem order_map : ∀ (x y : List Int), (∀ a ∈ x, ∀ b ∈ y, (a < b ↔ g a < g b) ∧ (a = b ↔ g a = g b)) → orderF (x.map g) (y.map g) = orderF x y
  | [], y, _ => by cases y <;> simp [orderF]
  | a :: as, [], _ => by simp [orderF]
  | a :: as, b :: bs, h => by
    have ih := order_map as bs fun c hc d hd => h c (by simp [hc]) d (by simp [hd])
    have h0 := h a (by simp) b (by simp)
    simp only [List.map_cons]
    unfold orderF
    rw [ih]
    by_cases e : a = b
    · rw [if_neg (by simpa using h0.2.mp e), if_neg (by simpa using e)]
    · rw [if_pos (fun q => e (h0.2.mpr q)), if_pos e]
      by_cases l : a < b
      · rw [if_pos (h0.1.mp l), if_pos l]
      · rw [if_neg (fun q => l (h0.1.mpr q)), if_neg l]
theorem bord_map {n : Nat} {t : List Int} (hi : ∀ a ∈ t, ∀ b ∈ t, g a = g b → a = b) : bordF n (t.map g) = bordF n t := by
  unfold bordF
  refine List.filter_congr fun k hk => ?_
  rw [← List.map_take, ← List.map_drop]
  exact dec_map fun a ha b hb => hi a (List.mem_of_mem_take ha) b (List.mem_of_mem_drop hb)
theorem lengths_map {r : Int} {t : List Int} (hi : ∀ a ∈ t, ∀ b ∈ t, g a = g b → a = b) : lengthsF (t.map g) r = lengthsF t r := by
  unfold lengthsF bordersF
  rw [List.length_map, ← List.map_take]
  congr 1
  refine List.filter_congr fun k hk => ?_
  rw [← List.map_take, ← List.map_drop]
  exact dec_map fun a ha b hb => hi a (List.mem_of_mem_take (List.mem_of_mem_take ha)) b (List.mem_of_mem_take (List.mem_of_mem_drop hb))
theorem okRoot_map {k : Nat} (hi : ∀ a ∈ ring, ∀ b ∈ ring, g a = g b → a = b) : okRoot (ring.map g) k = okRoot ring k := by
  unfold okRoot
  rw [List.length_map, ← List.map_take]
  congr 1
  have : (List.replicate (ring.length / k) ((ring.take k).map g)).flatten = ((List.replicate (ring.length / k) (ring.take k)).flatten).map g := by
    rw [List.map_flatten, List.map_replicate]
  rw [this]
  exact dec_map fun a ha b hb => hi a ha b (by
    obtain ⟨l, hl, hm⟩ := List.mem_flatten.mp hb
    rw [(List.mem_replicate.mp hl).2] at hm
    exact List.mem_of_mem_take hm)
theorem root_map {r : Nat} (hi : ∀ a ∈ ring, ∀ b ∈ ring, g a = g b → a = b) (h : IsRoot ring r) : IsRoot (ring.map g) r :=
  ⟨h.pos, by simpa using h.le, by rw [okRoot_map hi]; exact h.ok, fun j h1 h2 => by rw [okRoot_map hi]; exact h.least j h1 h2⟩

theorem num_map (hm : ∀ a ∈ ring, ∀ b ∈ ring, (a < b ↔ g a < g b) ∧ (a = b ↔ g a = g b)) (N : NumFacts (ring.map g)) : NumFacts ring := by
  have hi : ∀ a ∈ ring, ∀ b ∈ ring, g a = g b → a = b := fun a ha b hb => (hm a ha b hb).2.mpr
  have it : ∀ t ∈ turns ring, ∀ a ∈ t, ∀ b ∈ t, g a = g b → a = b := fun t ht a ha b hb => hi a ((turns_mem ht).2 a ha) b ((turns_mem ht).2 b hb)
  have e1 : (turns (ring.map g)).map (bordF ring.length) = (turns ring).map (bordF ring.length) := by
    rw [turns_comm, List.map_map]
    exact List.map_congr_left fun t ht => bord_map (it t ht)
  have e2 : ordersF (turns (ring.map g)) = ordersF (turns ring) := by
    rw [turns_comm]; unfold ordersF
    rw [List.map_map]
    refine List.map_congr_left fun a ha => ?_
    simp only [Function.comp, List.map_map]
    refine List.map_congr_left fun b hb => ?_
    exact order_map a b fun c hc d hd => hm c ((turns_mem ha).2 c hc) d ((turns_mem hb).2 d hd)
  have e3 : ∀ r : Nat, ((turns (ring.map g)).map fun t => lengthsF t r) = (turns ring).map fun t => lengthsF t r := fun r => by
    rw [turns_comm, List.map_map]
    exact List.map_congr_left fun t ht => lengths_map (it t ht)
  refine ⟨fun r hR => ?_, fun r hR => ?_⟩
  · have := N.lengths r (root_map hi hR)
    rw [List.length_map, e1, e3] at this; exact this
  · have := N.least r (root_map hi hR)
    rw [List.length_map, e1, e2] at this; exact this
end

/-! the check -/
def rootB (ring : List Int) (r : Nat) : Bool := okRoot ring r && (List.range r).all fun j => j == 0 || !okRoot ring j
def chk (ring : List Int) : Bool := (List.range 7).all fun r => r == 0 || !rootB ring r ||
  (decide ((turns ring).map (bordF ring.length) = (turns ring).map fun t => lengthsF t r) && decide (leastF (ordersF (turns ring)) ((turns ring).map (bordF ring.length)) = endF ring.length r))
theorem num_of_chk {ring : List Int} (h6 : ring.length ≤ 6) (h : chk ring = true) : NumFacts ring := by
  have key : ∀ r, IsRoot ring r → (turns ring).map (bordF ring.length) = ((turns ring).map fun t => lengthsF t r) ∧ leastF (ordersF (turns ring)) ((turns ring).map (bordF ring.length)) = endF ring.length r := fun r hR => by
    have h1 := hR.pos
    have h2 := hR.le
    have h3 : rootB ring r = true := by
      unfold rootB
      rw [hR.ok, Bool.true_and, List.all_eq_true]
      intro j hj
      simp only [List.mem_range] at hj
      by_cases e : j = 0
      · simp [e]
      · rw [hR.least j (by omega) hj]; simp
    have h4 := List.all_eq_true.mp h r (by simp; omega)
    rw [h3] at h4
    have h5 : (r == 0) = false := by simp; omega
    simpa [h5] using h4
  exact ⟨fun r hR => (key r hR).1, fun r hR => (key r hR).2⟩
def kinds : List (List Int) := [[0, 1, 2], [0, 2, 1], [1, 0, 2], [1, 2, 0], [2, 0, 1], [2, 1, 0], [0, 2, 0], [1, 0, 1]]
def tails : List (List Int) := [[], [0], [1], [2], [0, 0], [0, 1], [0, 2], [1, 0], [1, 1], [1, 2], [2, 0], [2, 1], [2, 2]]
def ring0 (kind tail : List Int) (often : Nat) : List Int := ((List.replicate often ([0, 1] ++ tail)).flatten.take 6).map fun p => kind.getD p.toNat 0
theorem chk01 : ∀ tail ∈ tails, chk (ring0 [0, 1, 2] tail 1) = true := by decide +kernel
theorem chk02 : ∀ tail ∈ tails, chk (ring0 [0, 1, 2] tail 2) = true := by decide +kernel
theorem chk03 : ∀ tail ∈ tails, chk (ring0 [0, 1, 2] tail 3) = true := by decide +kernel
theorem chk11 : ∀ tail ∈ tails, chk (ring0 [0, 2, 1] tail 1) = true := by decide +kernel
theorem chk12 : ∀ tail ∈ tails, chk (ring0 [0, 2, 1] tail 2) = true := by decide +kernel
theorem chk13 : ∀ tail ∈ tails, chk (ring0 [0, 2, 1] tail 3) = true := by decide +kernel
theorem chk21 : ∀ tail ∈ tails, chk (ring0 [1, 0, 2] tail 1) = true := by decide +kernel
theorem chk22 : ∀ tail ∈ tails, chk (ring0 [1, 0, 2] tail 2) = true := by decide +kernel
theorem chk23 : ∀ tail ∈ tails, chk (ring0 [1, 0, 2] tail 3) = true := by decide +kernel
theorem chk31 : ∀ tail ∈ tails, chk (ring0 [1, 2, 0] tail 1) = true := by decide +kernel
theorem chk32 : ∀ tail ∈ tails, chk (ring0 [1, 2, 0] tail 2) = true := by decide +kernel
theorem chk33 : ∀ tail ∈ tails, chk (ring0 [1, 2, 0] tail 3) = true := by decide +kernel
theorem chk41 : ∀ tail ∈ tails, chk (ring0 [2, 0, 1] tail 1) = true := by decide +kernel
theorem chk42 : ∀ tail ∈ tails, chk (ring0 [2, 0, 1] tail 2) = true := by decide +kernel
theorem chk43 : ∀ tail ∈ tails, chk (ring0 [2, 0, 1] tail 3) = true := by decide +kernel
theorem chk51 : ∀ tail ∈ tails, chk (ring0 [2, 1, 0] tail 1) = true := by decide +kernel
theorem chk52 : ∀ tail ∈ tails, chk (ring0 [2, 1, 0] tail 2) = true := by decide +kernel
theorem chk53 : ∀ tail ∈ tails, chk (ring0 [2, 1, 0] tail 3) = true := by decide +kernel
theorem chk61 : ∀ tail ∈ tails, chk (ring0 [0, 2, 0] tail 1) = true := by decide +kernel
theorem chk62 : ∀ tail ∈ tails, chk (ring0 [0, 2, 0] tail 2) = true := by decide +kernel
theorem chk63 : ∀ tail ∈ tails, chk (ring0 [0, 2, 0] tail 3) = true := by decide +kernel
theorem chk71 : ∀ tail ∈ tails, chk (ring0 [1, 0, 1] tail 1) = true := by decide +kernel
theorem chk72 : ∀ tail ∈ tails, chk (ring0 [1, 0, 1] tail 2) = true := by decide +kernel
theorem chk73 : ∀ tail ∈ tails, chk (ring0 [1, 0, 1] tail 3) = true := by decide +kernel
theorem chk_all : ∀ kind ∈ kinds, ∀ tail ∈ tails, ∀ often ∈ [1, 2, 3], chk (ring0 kind tail often) = true := by
  intro kind hk tail ht often ho
  simp only [kinds, List.mem_cons, List.not_mem_nil, or_false] at hk ho
  rcases hk with rfl | rfl | rfl | rfl | rfl | rfl | rfl | rfl <;> rcases ho with rfl | rfl | rfl
  · exact chk01 tail ht
  · exact chk02 tail ht
  · exact chk03 tail ht
  · exact chk11 tail ht
  · exact chk12 tail ht
  · exact chk13 tail ht
  · exact chk21 tail ht
  · exact chk22 tail ht
  · exact chk23 tail ht
  · exact chk31 tail ht
  · exact chk32 tail ht
  · exact chk33 tail ht
  · exact chk41 tail ht
  · exact chk42 tail ht
  · exact chk43 tail ht
  · exact chk51 tail ht
  · exact chk52 tail ht
  · exact chk53 tail ht
  · exact chk61 tail ht
  · exact chk62 tail ht
  · exact chk63 tail ht
  · exact chk71 tail ht
  · exact chk72 tail ht
  · exact chk73 tail ht
end Mine
end
section
open PySem PySem.W PyProof.Rows
set_option maxRecDepth 100000
set_option Elab.async false
namespace Mine
def rho (a b c x : Int) : Int := (if a < x then 1 else 0) + (if b < x then 1 else 0) + (if c < x then 1 else 0)
theorem rho_mono {a b c : Int} : ∀ x ∈ [a, b, c], ∀ y ∈ [a, b, c], (x < y ↔ rho a b c x < rho a b c y) ∧ (x = y ↔ rho a b c x = rho a b c y) := by
  intro x hx y hy
  simp only [List.mem_cons, List.not_mem_nil, or_false] at hx hy
  unfold rho
  rcases hx with rfl | rfl | rfl <;> rcases hy with rfl | rfl | rfl <;> constructor <;> constructor <;> intro h <;> (try subst h) <;> repeat' (first | omega | split at h | split)
theorem rho_kind {a b c : Int} (hab : a ≠ b) (hbc : b ≠ c) : [rho a b c a, rho a b c b, rho a b c c] ∈ kinds := by
  unfold rho kinds
  rcases Int.lt_trichotomy a b with h1 | h1 | h1
  · rcases Int.lt_trichotomy b c with h2 | h2 | h2
    · simp [h1, h2, show a < c by omega, show ¬ b < a by omega, show ¬ c < a by omega, show ¬ c < b by omega]
    · exact absurd h2 hbc
    · rcases Int.lt_trichotomy a c with h3 | h3 | h3
      · simp [h1, h2, h3, show ¬ b < a by omega, show ¬ c < a by omega, show ¬ b < c by omega]
      · subst h3; simp [h1, show ¬ b < a by omega]
      · simp [h1, h2, h3, show ¬ b < a by omega, show ¬ a < c by omega, show ¬ b < c by omega]
  · exact absurd h1 hab
  · rcases Int.lt_trichotomy b c with h2 | h2 | h2
    · rcases Int.lt_trichotomy a c with h3 | h3 | h3
      · simp [h1, h2, h3, show ¬ a < b by omega, show ¬ c < a by omega, show ¬ c < b by omega]
      · subst h3; simp [h1, show ¬ a < b by omega]
      · simp [h1, h2, h3, show ¬ a < b by omega, show ¬ a < c by omega, show ¬ c < b by omega]
    · exact absurd h2 hbc
    · simp [h1, h2, show c < a by omega, show ¬ a < b by omega, show ¬ a < c by omega, show ¬ b < c by omega]

theorem law_facts (draws : List Int) : LawFacts table0 (ringF draws) := by
  have e1 : ∀ x : Int, x.fmod 512 = x % 512 := fun x => Int.fmod_eq_emod_of_nonneg _ (by omega)
  have e3 : ∀ x : Int, x.fmod 3 = x % 3 := fun x => Int.fmod_eq_emod_of_nonneg _ (by omega)
  have hpl := placesF_len draws
  have hof := oftenF_bd draws
  have hlenT : (placesT draws).length = min 6 ((oftenF draws).toNat * (placesF draws).length) := by
    unfold placesT; rw [List.length_take, flat_len]
  have hl : (ringF draws).length = (placesT draws).length := by simp [ringF]
  have hl1 : 1 ≤ (ringF draws).length := by
    rw [hl, hlenT]
    have : 1 * 1 ≤ (oftenF draws).toNat * (placesF draws).length := Nat.mul_le_mul (by omega) (by omega)
    omega
  have hl6 : (ringF draws).length ≤ 6 := by rw [hl, hlenT]; omega
  generalize hd : draws.sum = t at *
  generalize ha : t.fmod 512 = a at *
  generalize hb : (t + 73).fmod 512 = b at *
  generalize hc : (t * 3 + 292).fmod 512 = c at *
  have hrt : rightsF draws.sum = [a, b, c] := by rw [hd]; unfold rightsF; rw [ha, hb, hc]
  rw [e1] at ha hb hc
  have hab : a ≠ b := by omega
  have hbc : b ≠ c := by omega
  have hmem : ∀ x ∈ ringF draws, x ∈ [a, b, c] := fun x hx => by
    unfold ringF at hx
    obtain ⟨p, hp, rfl⟩ := List.mem_map.mp hx
    have h3 := placesT_mem hp
    rw [hrt]
    have : p.toNat = 0 ∨ p.toNat = 1 ∨ p.toNat = 2 := by omega
    rcases this with h | h | h <;> rw [h] <;> simp
  refine facts_of hl1 hl6 (fun x hx => ?_) (num_map (g := rho a b c) (fun x hx y hy => rho_mono x (hmem x hx) y (hmem y hy)) (num_of_chk (by simpa using hl6) ?_))
  · have := hmem x hx
    simp only [List.mem_cons, List.not_mem_nil, or_false] at this
    unfold Right
    rcases this with rfl | rfl | rfl <;> omega
  · obtain ⟨tail, htl, htail⟩ : ∃ tail ∈ tails, placesF draws = [0, 1] ++ tail := by
      unfold placesF
      have hz : ∀ x : Int, x.fmod 3 = 0 ∨ x.fmod 3 = 1 ∨ x.fmod 3 = 2 := fun x => by rw [e3]; omega
      have hlen : ((draws.drop 1).take 2).length ≤ 2 := by rw [List.length_take]; omega
      match hq : (draws.drop 1).take 2 with
      | [] => exact ⟨[], by decide, rfl⟩
      | [x] => refine ⟨[x.fmod 3], ?_, rfl⟩; rcases hz x with h | h | h <;> rw [h] <;> decide
      | [x, y] => refine ⟨[x.fmod 3, y.fmod 3], ?_, rfl⟩; rcases hz x with h | h | h <;> rcases hz y with h' | h' | h' <;> rw [h, h'] <;> decide
      | x :: y :: z :: r => rw [hq] at hlen; simp at hlen
    have hoft : (oftenF draws).toNat ∈ [1, 2, 3] := by
      have : (oftenF draws).toNat = 1 ∨ (oftenF draws).toNat = 2 ∨ (oftenF draws).toNat = 3 := by omega
      simpa using this
    have := chk_all _ (rho_kind hab hbc) tail htl _ hoft
    have e : (ringF draws).map (rho a b c) = ring0 [rho a b c a, rho a b c b, rho a b c c] tail (oftenF draws).toNat := by
      unfold ringF ring0
      rw [List.map_map, ← htail]
      refine List.map_congr_left fun p hp => ?_
      have h3 := placesT_mem hp
      rw [Function.comp, hrt]
      have : p.toNat = 0 ∨ p.toNat = 1 ∨ p.toNat = 2 := by omega
      rcases this with h | h | h <;> rw [h] <;> rfl
    rw [e]; exact this
end Mine
end
section
open PySem PySem.W PyProof.Rows
set_option maxRecDepth 100000
set_option Elab.async false
namespace Mine
section
variable {P : Params} {h : Heap} {mg : Str → Option Value}
theorem fn3 (KX : (hd.heap_39 P).In h) (G : Gl mg h) : ∃ a fd, FnI mg h 3 (S "liberal_is_HDN") a fd :=
  ⟨43, _, mg_of KX G.g (by kernel_rfl), ⟨_, KX 43 _ rfl, rfl⟩, ⟨_, _, _, rfl⟩, codeRec_of KX (by kernel_rfl)⟩
theorem fn4 (KX : (hd.heap_39 P).In h) (G : Gl mg h) : ∃ a fd, FnI mg h 4 (S "user_domain_match") a fd :=
  ⟨50, _, mg_of KX G.g (by kernel_rfl), ⟨_, KX 50 _ rfl, rfl⟩, ⟨_, _, _, rfl⟩, codeRec_of KX (by kernel_rfl)⟩
theorem fn6 (KX : (hd.heap_39 P).In h) (G : Gl mg h) : ∃ a fd, FnI mg h 6 (S "S_IFMT") a fd :=
  ⟨57, _, mg_of KX G.g (by kernel_rfl), ⟨_, KX 57 _ rfl, rfl⟩, ⟨_, _, _, rfl⟩, codeRec_of KX (by kernel_rfl)⟩
theorem fn27 (KX : (hd.heap_39 P).In h) (G : Gl mg h) : ∃ a fd, FnI mg h 27 (S "filemode") a fd :=
  ⟨97, _, mg_of KX G.g (by kernel_rfl), ⟨_, KX 97 _ rfl, rfl⟩, ⟨_, _, _, rfl⟩, codeRec_of KX (by kernel_rfl)⟩
theorem fn29 (KX : (hd.heap_39 P).In h) (G : Gl mg h) : ∃ a fd, FnI mg h 29 (S "three_way_cmp") a fd :=
  ⟨104, _, mg_of KX G.g (by kernel_rfl), ⟨_, KX 104 _ rfl, rfl⟩, ⟨_, _, _, rfl⟩, codeRec_of KX (by kernel_rfl)⟩
theorem fn31 (KX : (hd.heap_39 P).In h) (G : Gl mg h) : ∃ a fd, FnI mg h 31 (S "_law_root") a fd :=
  ⟨111, _, mg_of KX G.g (by kernel_rfl), ⟨_, KX 111 _ rfl, rfl⟩, ⟨_, _, _, rfl⟩, codeRec_of KX (by kernel_rfl)⟩
theorem fn32 (KX : (hd.heap_39 P).In h) (G : Gl mg h) : ∃ a fd, FnI mg h 32 (S "_law_ring") a fd :=
  ⟨116, _, mg_of KX G.g (by kernel_rfl), ⟨_, KX 116 _ rfl, rfl⟩, ⟨_, _, _, rfl⟩, codeRec_of KX (by kernel_rfl)⟩
theorem fn33 (KX : (hd.heap_39 P).In h) (G : Gl mg h) : ∃ a fd, FnI mg h 33 (S "_law_turns") a fd :=
  ⟨121, _, mg_of KX G.g (by kernel_rfl), ⟨_, KX 121 _ rfl, rfl⟩, ⟨_, _, _, rfl⟩, codeRec_of KX (by kernel_rfl)⟩
theorem fn34 (KX : (hd.heap_39 P).In h) (G : Gl mg h) : ∃ a fd, FnI mg h 34 (S "_law_order") a fd :=
  ⟨128, _, mg_of KX G.g (by kernel_rfl), ⟨_, KX 128 _ rfl, rfl⟩, ⟨_, _, _, rfl⟩, codeRec_of KX (by kernel_rfl)⟩
theorem fn35 (KX : (hd.heap_39 P).In h) (G : Gl mg h) : ∃ a fd, FnI mg h 35 (S "_law_lengths") a fd :=
  ⟨133, _, mg_of KX G.g (by kernel_rfl), ⟨_, KX 133 _ rfl, rfl⟩, ⟨_, _, _, rfl⟩, codeRec_of KX (by kernel_rfl)⟩
theorem fn36 (KX : (hd.heap_39 P).In h) (G : Gl mg h) : mg (S "law") = some (.ref 138) ∧ ∃ fd, FnI mg h 36 (S "law") 138 fd :=
  have e := mg_of KX G.g (n := S "law") (v := .ref 138) (by kernel_rfl)
  ⟨e, _, e, ⟨_, KX 138 _ rfl, rfl⟩, ⟨_, _, _, rfl⟩, codeRec_of KX (by kernel_rfl)⟩
theorem free_of (KX : (hd.heap_39 P).In h) (G : Gl mg h) : Free mg :=
  ⟨mg_none_of KX G.g (by kernel_rfl), mg_none_of KX G.g (by kernel_rfl), mg_none_of KX G.g (by kernel_rfl), mg_none_of KX G.g (by kernel_rfl), mg_none_of KX G.g (by kernel_rfl), mg_none_of KX G.g (by kernel_rfl)⟩
theorem pat_of (KX : (hd.heap_39 P).In h) (G : Gl mg h) : ∃ p, mg (S "IPV4_RE") = some (.ref p) ∧ IsPat h p :=
  ⟨36, mg_of KX G.g (by kernel_rfl), ⟨_, _, _, _, 35, _, KX 36 _ rfl, rfl, rfl, rfl, rfl, KX 35 _ rfl, rfl, by kernel_rfl, by kernel_rfl, by kernel_rfl⟩⟩
theorem pair_in {K : Frag} {l : Addr} {d : Option Addr} {a : Int} {b : Str} {t u : Tok} {n : Nat} {sl : Array (Option Value)} (X : K.In h) (e : K.lookup l = some ⟨.type "tuple", d, .seq #[.int a t, .str b u] n, sl⟩) : PairV h (.ref l) (a, b) :=
  ⟨l, t, u, rfl, _, X l _ e, rfl, _, rfl⟩
theorem tup_in {α : Type} {Q : V α} {K : Frag} {l : Addr} {d : Option Addr} {vs : List Value} {xs : List α} {n : Nat} {sl : Array (Option Value)} (X : K.In h) (e : K.lookup l = some ⟨.type "tuple", d, .seq vs.toArray n, sl⟩) (ha : All2 (Q h) vs xs) : TupV Q h (.ref l) xs :=
  ⟨l, vs, rfl, ⟨_, X l _ e, rfl, _, rfl⟩, ha⟩
theorem tab_of (KX : (hd.heap_39 P).In h) (G : Gl mg h) : ∃ T, mg (S "_filemode_table") = some (.ref T) ∧ TupV (TupV PairV) h (.ref T) table0 := by
  refine ⟨90, mg_of KX G.g (by kernel_rfl), ?_⟩
  refine tup_in (vs := [.ref 65, .ref 67, .ref 69, .ref 73, .ref 75, .ref 77, .ref 81, .ref 83, .ref 85, .ref 89]) KX rfl ?_
  exact .cons (tup_in (vs := [.ref 58, .ref 59, .ref 60, .ref 61, .ref 62, .ref 63, .ref 64]) KX rfl (.cons (pair_in (l := 58) KX rfl) (.cons (pair_in (l := 59) KX rfl) (.cons (pair_in (l := 60) KX rfl) (.cons (pair_in (l := 61) KX rfl) (.cons (pair_in (l := 62) KX rfl) (.cons (pair_in (l := 63) KX rfl) (.cons (pair_in (l := 64) KX rfl) (.nil))))))))) (.cons (tup_in (vs := [.ref 66]) KX rfl (.cons (pair_in (l := 66) KX rfl) (.nil))) (.cons (tup_in (vs := [.ref 68]) KX rfl (.cons (pair_in (l := 68) KX rfl) (.nil))) (.cons (tup_in (vs := [.ref 70, .ref 71, .ref 72]) KX rfl (.cons (pair_in (l := 70) KX rfl) (.cons (pair_in (l := 71) KX rfl) (.cons (pair_in (l := 72) KX rfl) (.nil))))) (.cons (tup_in (vs := [.ref 74]) KX rfl (.cons (pair_in (l := 74) KX rfl) (.nil))) (.cons (tup_in (vs := [.ref 76]) KX rfl (.cons (pair_in (l := 76) KX rfl) (.nil))) (.cons (tup_in (vs := [.ref 78, .ref 79, .ref 80]) KX rfl (.cons (pair_in (l := 78) KX rfl) (.cons (pair_in (l := 79) KX rfl) (.cons (pair_in (l := 80) KX rfl) (.nil))))) (.cons (tup_in (vs := [.ref 82]) KX rfl (.cons (pair_in (l := 82) KX rfl) (.nil))) (.cons (tup_in (vs := [.ref 84]) KX rfl (.cons (pair_in (l := 84) KX rfl) (.nil))) (.cons (tup_in (vs := [.ref 86, .ref 87, .ref 88]) KX rfl (.cons (pair_in (l := 86) KX rfl) (.cons (pair_in (l := 87) KX rfl) (.cons (pair_in (l := 88) KX rfl) (.nil))))) (.nil))))))))))
theorem txtop_of (KX : (hd.heap_39 P).In h) (G : Gl mg h) : Txtop mg h table0 :=
  { G := G, fr := free_of KX G, hdn := fn3 KX G, udm := fn4 KX G, ifmt := fn6 KX G, fm := fn27 KX G, cmp := fn29 KX G, root := fn31 KX G, ring := fn32 KX G, turns := fn33 KX G, order := fn34 KX G, lengths := fn35 KX G, pat := pat_of KX G, tab := tab_of KX G, tlen := by decide }
end
end Mine
end
section
open PySem PySem.W PyProof.Rows
set_option Elab.async false
set_option maxRecDepth 100000
set_option maxHeartbeats 8000000
namespace Mine
theorem callerAo : Ao callerA 8 := ⟨rfl, by decide +kernel, by decide +kernel⟩
end Mine
theorem PySem.Challenge.cw_of0012_01_holds : PySem.Challenge.rw_of0012_01.Holds := by
  refine Mine.hd ?_
  k_fill
  intro w s₀ s₁ mg mb G Y fa o pm cd doc dV kV ho hd hcd hD hmg hg args vals as hpre hlay hrd hwl hlo
  have KX := kIn_of Y
  refine Ground.open G ?_
  intro T B D TE TW
  wrow_args hpre hlay hrd hwl hlo
  rename_i xs _ _ _ _ _ _ _ l vs _ hL _ _ _ hI _ hc _
  have GL : Mine.Gl mg s₁.heap := ⟨T.g, ⟨mb, T.b, T.builtins⟩, T.nolimit⟩
  obtain ⟨e138, fd, fn⟩ := Mine.fn36 KX GL
  have efa : fa = 138 := by
    have : some (Value.ref fa) = some (Value.ref 138) := hmg.symm.trans e138
    cases this; rfl
  subst efa
  have X := Mine.txtop_of KX GL
  have hlen : xs.length ≤ 63 := by omega
  refine (Mine.law_spec X Mine.callerAo fn ⟨l, vs, rfl, hL, hI⟩ hlen (Mine.law_facts _)).use fun v h' tk k p => ?_
  cases p
  refine GoodW.toG ⟨.inl ⟨.bool true, .bool true, [], rfl, raisesW_false ?_, .bool true, ?_, unshared_nil⟩, k, rfl, hg⟩
  · wrow_none_raised
  · wrow_post
end
