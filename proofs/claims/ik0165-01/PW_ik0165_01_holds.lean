import PyProof.Rows.All
import PyProof.JoinWalk
import PyProof.Rows.GenFrame
import KE.KLam
import PySem.Builtin.Re_Pattern.W2All
import Wide.All
import OpenK.AllK
import PySem.Challenge.RW_ik0165_01
set_option Elab.async false
set_option maxRecDepth 100000
set_option autoImplicit false
set_option compiler.extract_closed false
set_option linter.unusedVariables false
set_option linter.unusedSimpArgs false
set_option maxHeartbeats 0
namespace Ik
section TIkLogic
open PySem PySem.Calls PyProof.Rows
set_option maxRecDepth 4000
noncomputable def er : Value → Value
  | .int i _ => .int i 0
  | .float b _ => .float b 0
  | .str s _ => .str s 0
  | .bytes b _ => .bytes b 0
  | v => v

theorem er_int {v : Value} {i : Int} {t : Tok} (h : er v = .int i t) : ∃ u, v = .int i u := by
  cases v <;> simp only [er, Value.int.injEq, reduceCtorEq] at h
  exact ⟨_, by rw [h.1]⟩
theorem er_str {v : Value} {x : Str} {t : Tok} (h : er v = .str x t) : ∃ u, v = .str x u := by
  cases v <;> simp only [er, Value.str.injEq, reduceCtorEq] at h
  exact ⟨_, by rw [h.1]⟩
theorem er_bytes {v : Value} {x : Array UInt8} {t : Tok} (h : er v = .bytes x t) : ∃ u, v = .bytes x u := by
  cases v <;> simp only [er, Value.bytes.injEq, reduceCtorEq] at h
  exact ⟨_, by rw [h.1]⟩
theorem er_bool {v : Value} {b : Bool} (h : er v = .bool b) : v = .bool b := by
  cases v <;> simp only [er, reduceCtorEq] at h
  exact h
theorem er_none {v : Value} (h : er v = .none) : v = .none := by
  cases v <;> simp only [er, reduceCtorEq] at h <;> rfl
theorem er_ref {v : Value} {a : Addr} (h : er v = .ref a) : v = .ref a := by
  cases v <;> simp only [er, reduceCtorEq] at h
  exact h
theorem er_builtin {v : Value} {a : String} (h : er v = .builtin a) : v = .builtin a := by
  cases v <;> simp only [er, reduceCtorEq] at h
  exact h
theorem er_type {v : Value} {a : String} (h : er v = .type a) : v = .type a := by
  cases v <;> simp only [er, reduceCtorEq] at h
  exact h
theorem er_er (v : Value) : er (er v) = er v := by cases v <;> rfl

theorem wpM {M : Model} {A : Around} {α β : Type} {t : Sem α} {P : β → Shared → Prop} {Q : α → β → Prop} {R : α → Shared → Prop} {E : Value → Shared → Prop} {s : Shared} (h : wpAny M A t (fun v s' => ∃ σ', P σ' s' ∧ Q v σ') (fun _ _ => False) s) (k : ∀ v s' σ', P σ' s' → Q v σ' → R v s') : wpAny M A t R E s :=
  wpAny_mono h (fun v s' x => Exists.elim x fun σ' y => k v s' σ' y.1 y.2) fun _ _ e => e.elim
structure Cx where
  prog : Program
  w : World
  B : Shared

noncomputable abbrev Res := Obj → Prop
noncomputable abbrev Asn := List (Addr × Res)
noncomputable def At (h : Heap) (a : Addr) (r : Res) : Prop := ∃ o, h.get? a = some o ∧ r o

noncomputable def lst (xs : List Value) : Res := fun o => ∃ items n, o = { cls := .type "list", data := .seq items n } ∧ items.toList.map er = xs
noncomputable def tup (xs : List Value) : Res := fun o => ∃ items n, o = { cls := .type "tuple", data := .seq items n } ∧ items.toList.map er = xs
noncomputable def ns (l : List (Str × Value)) : Res := fun o => ∃ es ep, ∃ m : Str → Option Value, o.data = .dict es ep ∧ StrKeys es ∧ (∀ name, nsFind es name = m name) ∧ ∀ x v, l.lookup x = some v → ∃ u, m x = some u ∧ er u = v
noncomputable def cel (v : Option Value) : Res := fun o => ∃ u, o.data = .cell u ∧ u.map er = v
noncomputable def lit (l : Addr) (i : Nat) : Res := fun o => o.cls = .type "list_iterator" ∧ o.data = .fields #[.ref l, .int i 0]

structure St (C : Cx) (σ : Asn) (s : Shared) : Prop where
  drawn : s.drawn = C.B.drawn
  os : s.os = C.B.os
  gens : AllBare s.gens
  keep : ∀ b o, C.B.heap.get? b = some o → s.heap.get? b = some o
  nodup : (σ.map (·.1)).Nodup
  own : ∀ p ∈ σ, At s.heap p.1 p.2
  new : ∀ p ∈ σ, C.B.heap.get? p.1 = none

noncomputable def EW (C : Cx) {α : Type} (A : Around) (t : Sem α) (σ : Asn) (Q : α → Asn → Prop) : Prop :=
  ∀ s, St C σ s → wpAny (model C.prog C.w) A t (fun v s' => ∃ σ', St C σ' s' ∧ Q v σ') (fun _ _ => False) s

section
variable {C : Cx} {A : Around} {α β : Type} {σ σ' : Asn} {t : Sem α} {Q Q' : α → Asn → Prop}

theorem EW.mono (h : EW C A t σ Q) (hQ : ∀ v σ, Q v σ → Q' v σ) : EW C A t σ Q' := fun s hs =>
  wpM (h s hs) fun _ _ σ' a b => ⟨σ', a, hQ _ _ b⟩
theorem EW.pure {a : α} (h : Q a σ) : EW C A (pure a) σ Q := fun _ hs => wpAny_pure ⟨σ, hs, h⟩
theorem EW.bind {f : α → Sem β} {Q : β → Asn → Prop} (h : EW C A t σ fun v σ₁ => EW C A (f v) σ₁ Q) : EW C A (t >>= f) σ Q := fun s hs =>
  wpAny_bind (wpM (h s hs) fun _ s' _ a b => b s' a)
theorem EW.of_eq {a : α} (e : t = Pure.pure a) (h : Q a σ) : EW C A t σ Q := e ▸ EW.pure h

theorem At.keep {h h' : Heap} {a : Addr} {r : Res} (x : At h a r) (k : ∀ o, h.get? a = some o → h'.get? a = some o) : At h' a r := by
  obtain ⟨o, e, y⟩ := x
  exact ⟨o, k o e, y⟩

theorem St.grow {s : Shared} {h' : Heap} {tk : Nat} (S : St C σ s) (k : ∀ b o, s.heap.get? b = some o → h'.get? b = some o) : St C σ { s with heap := h', toks := tk } :=
  ⟨S.drawn, S.os, S.gens, fun b o e => k b o (S.keep b o e), S.nodup, fun p hp => (S.own p hp).keep (k p.1), S.new⟩
theorem St.toks {s : Shared} (S : St C σ s) (tk : Nat) : St C σ { s with toks := tk } := S.grow fun _ _ e => e

theorem St.none_of_fresh {s : Shared} (S : St C σ s) {a : Addr} (h : s.heap.get? a = none) : C.B.heap.get? a = none := by
  cases e : C.B.heap.get? a with
  | none => rfl
  | some o => rw [S.keep a o e] at h; cases h
theorem St.not_mem {s : Shared} (S : St C σ s) {a : Addr} (h : s.heap.get? a = none) : a ∉ σ.map (·.1) := fun hm => by
  obtain ⟨p, hp, rfl⟩ := List.mem_map.mp hm
  obtain ⟨o, e, _⟩ := S.own p hp
  rw [e] at h; cases h

theorem St.alloc {s : Shared} {h' : Heap} {tk : Nat} {a : Addr} {r : Res} (S : St C σ s) (hn : s.heap.get? a = none) (ha : At h' a r)
    (k : ∀ b o, s.heap.get? b = some o → h'.get? b = some o) : St C ((a, r) :: σ) { s with heap := h', toks := tk } := by
  have G := S.grow (tk := tk) k
  refine ⟨G.drawn, G.os, G.gens, G.keep, ?_, ?_, ?_⟩
  · rw [List.map_cons, List.nodup_cons]
    exact ⟨S.not_mem hn, S.nodup⟩
  · intro p hp
    rcases List.mem_cons.mp hp with rfl | hp
    · exact ha
    · exact G.own p hp
  · intro p hp
    rcases List.mem_cons.mp hp with rfl | hp
    · exact S.none_of_fresh hn
    · exact S.new p hp

inductive Up (a : Addr) (r r' : Res) : Asn → Asn → Prop
  | here {τ : Asn} : Up a r r' ((a, r) :: τ) ((a, r') :: τ)
  | there {p : Addr × Res} {τ τ' : Asn} : Up a r r' τ τ' → Up a r r' (p :: τ) (p :: τ')
theorem Up.keys {a : Addr} {r r' : Res} {σ σ' : Asn} (u : Up a r r' σ σ') : σ'.map (·.1) = σ.map (·.1) := by
  induction u with
  | here => rfl
  | there u ih => rw [List.map_cons, List.map_cons, ih]
theorem Up.mem {a : Addr} {r r' : Res} {σ σ' : Asn} (u : Up a r r' σ σ') : (a, r) ∈ σ := by
  induction u with
  | here => exact .head _
  | there u ih => exact .tail _ ih
theorem Up.split {a : Addr} {r r' : Res} {σ σ' : Asn} (u : Up a r r' σ σ') : ∀ p ∈ σ', p = (a, r') ∨ p ∈ σ := by
  induction u with
  | here => exact fun p hp => (List.mem_cons.mp hp).imp id fun h => .tail _ h
  | there u ih =>
    intro p hp
    rcases List.mem_cons.mp hp with rfl | hp
    · exact .inr (.head _)
    · exact (ih p hp).imp id fun h => .tail _ h
theorem St.get {s : Shared} (S : St C σ s) {a : Addr} {r : Res} (hm : (a, r) ∈ σ) : At s.heap a r := S.own _ hm

theorem nodup_fst {σ : Asn} (h : (σ.map (·.1)).Nodup) {a : Addr} {r r' : Res} (h1 : (a, r) ∈ σ) (h2 : (a, r') ∈ σ) : r = r' := by
  induction σ with
  | nil => cases h1
  | cons p l ih =>
    rw [List.map_cons, List.nodup_cons] at h
    rcases List.mem_cons.mp h1 with e1 | m1
    · rcases List.mem_cons.mp h2 with e2 | m2
      · exact congrArg Prod.snd (e1.trans e2.symm)
      · exact absurd (List.mem_map.mpr ⟨(a, r'), m2, by rw [← e1]⟩) h.1
    · rcases List.mem_cons.mp h2 with e2 | m2
      · exact absurd (List.mem_map.mpr ⟨(a, r), m1, by rw [← e2]⟩) h.1
      · exact ih h.2 m1 m2

theorem Up.nodup_mem {a : Addr} {r r' : Res} {σ σ' : Asn} (u : Up a r r' σ σ') : (σ.map (·.1)).Nodup → ∀ p ∈ σ', p = (a, r') ∨ (p ∈ σ ∧ p.1 ≠ a) := by
  induction u with
  | here =>
    intro nd p hp
    rw [List.map_cons, List.nodup_cons] at nd
    rcases List.mem_cons.mp hp with rfl | hp
    · exact .inl rfl
    · exact .inr ⟨.tail _ hp, fun e => nd.1 (List.mem_map.mpr ⟨p, hp, e⟩)⟩
  | there u ih =>
    intro nd p hp
    rw [List.map_cons, List.nodup_cons] at nd
    rcases List.mem_cons.mp hp with rfl | hp
    · exact .inr ⟨.head _, fun e => nd.1 (List.mem_map.mpr ⟨_, u.mem, e.symm⟩)⟩
    · exact (ih nd.2 p hp).imp id fun h => ⟨.tail _ h.1, h.2⟩

theorem St.set {s : Shared} {h' : Heap} {tk : Nat} {a : Addr} {r r' : Res} (S : St C σ s) (u : Up a r r' σ σ') (ha : At h' a r')
    (k : ∀ b o, b ≠ a → s.heap.get? b = some o → h'.get? b = some o) : St C σ' { s with heap := h', toks := tk } := by
  refine ⟨S.drawn, S.os, S.gens, fun b o e => k b o (fun q => ?_) (S.keep b o e), by rw [u.keys]; exact S.nodup, fun p hp => ?_, fun p hp => ?_⟩
  · have := S.new _ u.mem
    rw [← q] at this
    rw [show C.B.heap.get? b = none from this] at e
    cases e
  · rcases u.nodup_mem S.nodup p hp with rfl | ⟨hm, hne⟩
    · exact ha
    · exact (S.own p hm).keep fun o e => k p.1 o hne e
  · rcases u.nodup_mem S.nodup p hp with rfl | ⟨hm, hne⟩
    · exact (S.new (a, r) u.mem : C.B.heap.get? a = none)
    · exact S.new p hm

theorem St.sub {s : Shared} (S : St C σ s) (h : σ'.Sublist σ) : St C σ' s :=
  ⟨S.drawn, S.os, S.gens, S.keep, S.nodup.sublist (h.map _), fun p hp => S.own p (h.subset hp), fun p hp => S.new p (h.subset hp)⟩
theorem St.perm {s : Shared} (S : St C σ s) (h : σ.Perm σ') : St C σ' s :=
  ⟨S.drawn, S.os, S.gens, S.keep, (h.map (·.1)).nodup_iff.mp S.nodup, fun p hp => S.own p (h.mem_iff.mpr hp), fun p hp => S.new p (h.mem_iff.mpr hp)⟩
theorem EW.sub (h : EW C A t σ' Q) (hs : σ'.Sublist σ) : EW C A t σ Q := fun s S => h s (S.sub hs)
theorem EW.perm (h : EW C A t σ' Q) (hs : σ.Perm σ') : EW C A t σ Q := fun s S => h s (S.perm hs)
end

noncomputable def Has (C : Cx) (σ : Asn) (a : Addr) (r : Res) : Prop := (a, r) ∈ σ ∨ At C.B.heap a r
theorem St.has {C : Cx} {σ : Asn} {s : Shared} (S : St C σ s) {a : Addr} {r : Res} (h : Has C σ a r) : At s.heap a r :=
  h.elim S.get fun ⟨o, e, y⟩ => ⟨o, S.keep a o e, y⟩

theorem ns_of {h : Heap} {a : Addr} {l : List (Str × Value)} (x : At h a (ns l)) : ∃ m, h.Ns a m ∧ ∀ x v, l.lookup x = some v → ∃ u, m x = some u ∧ er u = v := by
  obtain ⟨o, e, es, ep, m, h1, h2, h3, h4⟩ := x
  exact ⟨m, ⟨o, es, ep, e, h1, h2, h3⟩, h4⟩
theorem ns_at {h : Heap} {a : Addr} {l : List (Str × Value)} {m : Str → Option Value} (x : h.Ns a m) (k : ∀ x v, l.lookup x = some v → ∃ u, m x = some u ∧ er u = v) : At h a (ns l) := by
  obtain ⟨o, es, ep, e, h1, h2, h3⟩ := x
  exact ⟨o, e, es, ep, m, h1, h2, h3, k⟩
theorem lst_of {h : Heap} {a : Addr} {xs : List Value} (x : At h a (lst xs)) : ∃ items, h.PlainList a items ∧ items.toList.map er = xs := by
  obtain ⟨o, e, items, n, d, q⟩ := x
  exact ⟨items, ⟨n, d ▸ e⟩, q⟩
theorem lst_at {h : Heap} {a : Addr} {items : Array Value} {xs : List Value} (x : h.PlainList a items) (e : items.toList.map er = xs) : At h a (lst xs) := by
  obtain ⟨n, d⟩ := x
  exact ⟨_, d, items, n, rfl, e⟩
theorem tup_of {h : Heap} {a : Addr} {xs : List Value} (x : At h a (tup xs)) : ∃ items n, h.get? a = some { cls := .type "tuple", data := .seq items n } ∧ items.toList.map er = xs := by
  obtain ⟨o, e, items, n, d, q⟩ := x
  exact ⟨items, n, d ▸ e, q⟩
theorem tup_at {h : Heap} {a : Addr} {items : Array Value} {n : Nat} {xs : List Value} (x : h.get? a = some { cls := .type "tuple", data := .seq items n }) (e : items.toList.map er = xs) : At h a (tup xs) :=
  ⟨_, x, items, n, rfl, e⟩
theorem isTup_of {h : Heap} {a : Addr} {items : Array Value} {n : Nat} (x : h.get? a = some { cls := .type "tuple", data := .seq items n }) : IsTup h a items := ⟨_, x, rfl, n, rfl⟩
theorem cel_of {h : Heap} {a : Addr} {v : Option Value} (x : At h a (cel v)) : ∃ u, h.IsCell a u ∧ u.map er = v := by
  obtain ⟨o, e, u, d, q⟩ := x
  exact ⟨u, ⟨o, e, d⟩, q⟩
theorem cel_at {h : Heap} {a : Addr} {u v : Option Value} (x : h.IsCell a u) (e : u.map er = v) : At h a (cel v) := by
  obtain ⟨o, e', d⟩ := x
  exact ⟨o, e', u, d, e⟩
theorem lit_of {h : Heap} {a l : Addr} {i : Nat} (x : At h a (lit l i)) : h.IsListIter a l i := by
  obtain ⟨o, e, c, d⟩ := x
  exact ⟨o, e, c, d⟩
theorem lit_at {h : Heap} {a l : Addr} {i : Nat} (x : h.IsListIter a l i) : At h a (lit l i) := by
  obtain ⟨o, e, c, d⟩ := x
  exact ⟨o, e, c, d⟩

noncomputable def EV (C : Cx) (A : Around) (env : Env) (e : Expr) (σ : Asn) (Q : Value → Asn → Prop) : Prop := EW C A (eval e env) σ fun v σ' => Q (er v) σ'
noncomputable def ET (C : Cx) (A : Around) (env : Env) (e : Expr) (σ : Asn) (Q : Bool → Asn → Prop) : Prop := EW C A (isTrue e env (eval e env)) σ Q
noncomputable def erF : Flow → Flow
  | .ret v => .ret (er v)
  | f => f
noncomputable def EX (C : Cx) (A : Around) (env : Env) (ss : List Stmt) (σ : Asn) (Q : Flow → Asn → Prop) : Prop := EW C A (execs ss env) σ fun f σ' => Q (erF f) σ'
noncomputable def ES (C : Cx) (A : Around) (env : Env) (st : Stmt) (σ : Asn) (Q : Flow → Asn → Prop) : Prop := EW C A (exec st env) σ fun f σ' => Q (erF f) σ'
noncomputable def E1 (C : Cx) (A : Around) (f : Value → Sem Value) (a : Value) (σ : Asn) (Q : Value → Asn → Prop) : Prop := ∀ u, er u = a → EW C A (f u) σ fun v σ' => Q (er v) σ'
noncomputable def E2 (C : Cx) (A : Around) (f : Value → Value → Sem Value) (a b : Value) (σ : Asn) (Q : Value → Asn → Prop) : Prop := ∀ u v, er u = a → er v = b → EW C A (f u v) σ fun v σ' => Q (er v) σ'
noncomputable def EB (C : Cx) (A : Around) (a : Value) (σ : Asn) (Q : Bool → Asn → Prop) : Prop := ∀ u, er u = a → EW C A (truthy u) σ Q
noncomputable def EL (C : Cx) (A : Around) (env : Env) (es : List Expr) (σ : Asn) (Q : List Value → Asn → Prop) : Prop := ∀ pos, EW C A (spliced (backTo pos (starEach es env))) σ fun vs σ' => Q (vs.map er) σ'
noncomputable def EC (C : Cx) (A : Around) (f : Value) (vs : List Value) (σ : Asn) (Q : Value → Asn → Prop) : Prop := ∀ us : List Value, us.map er = vs → EW C A (call f us) σ fun v σ' => Q (er v) σ'

section
variable {C : Cx} {A : Around} {env : Env} {σ : Asn}

theorem EV.mono {e : Expr} {Q Q' : Value → Asn → Prop} (h : EV C A env e σ Q) (hQ : ∀ v σ, Q v σ → Q' v σ) : EV C A env e σ Q' := EW.mono h fun _ _ => hQ _ _
theorem EX.mono {e : List Stmt} {Q Q' : Flow → Asn → Prop} (h : EX C A env e σ Q) (hQ : ∀ v σ, Q v σ → Q' v σ) : EX C A env e σ Q' := EW.mono h fun _ _ => hQ _ _
theorem EC.mono {f : Value} {vs : List Value} {Q Q' : Value → Asn → Prop} (h : EC C A f vs σ Q) (hQ : ∀ v σ, Q v σ → Q' v σ) : EC C A f vs σ Q' := fun us e => EW.mono (h us e) fun _ _ => hQ _ _

theorem x_nil {Q : Flow → Asn → Prop} (h : Q .next σ) : EX C A env [] σ Q := fun _ S => wpAny_execs_nil ⟨σ, S, h⟩
noncomputable abbrev Nx (C : Cx) (A : Around) (env : Env) (rest : List Stmt) (Q : Flow → Asn → Prop) : Flow → Asn → Prop := fun f σ' => match f with | .next => EX C A env rest σ' Q | f => Q f σ'
theorem x_cons {st : Stmt} {rest : List Stmt} {Q : Flow → Asn → Prop} (h : ES C A env st σ (Nx C A env rest Q)) : EX C A env (st :: rest) σ Q := fun s S =>
  wpAny_execs_cons (wpAny_mono (h s S) (fun f s' ⟨σ', S', h'⟩ => by
    cases f with
    | next => exact h' s' S'
    | brk => exact ⟨σ', S', h'⟩
    | cont => exact ⟨σ', S', h'⟩
    | ret v => exact ⟨σ', S', h'⟩) fun _ _ e => e)
theorem s_return {e : Expr} {pos : Pos} {Q : Flow → Asn → Prop} (h : EV C A env e σ fun v σ' => Q (.ret v) σ') : ES C A env (.Return (some e) pos) σ Q := fun s S =>
  wpAny_Return_some (h s S)
noncomputable abbrev IfK (C : Cx) (A : Around) (env : Env) (body orelse : List Stmt) (Q : Flow → Asn → Prop) : Bool → Asn → Prop := fun b σ' => if b then EX C A env body σ' Q else EX C A env orelse σ' Q
theorem s_if {test : Expr} {body orelse : List Stmt} {pos : Pos} {Q : Flow → Asn → Prop} (h : ET C A env test σ (IfK C A env body orelse Q)) : ES C A env (.If test body orelse pos) σ Q := fun s S =>
  wpAny_If (wpM (h s S) fun b s' σ' S' h' => by cases b <;> exact h' s' S')
theorem s_break {pos : Pos} {Q : Flow → Asn → Prop} (h : Q .brk σ) : ES C A env (.Break pos) σ Q := fun _ S => wpAny_Break ⟨σ, S, h⟩
theorem s_continue {pos : Pos} {Q : Flow → Asn → Prop} (h : Q .cont σ) : ES C A env (.Continue pos) σ Q := fun _ S => wpAny_Continue ⟨σ, S, h⟩
theorem s_pass {pos : Pos} {Q : Flow → Asn → Prop} (h : Q .next σ) : ES C A env (.Pass pos) σ Q := fun _ S => wpAny_Pass ⟨σ, S, h⟩
theorem s_expr {e : Expr} {pos : Pos} {Q : Flow → Asn → Prop} (h : EV C A env e σ fun _ σ' => Q .next σ') (hi : interactive env = false := by exact rfl) (hs : swapsWith e none pos.line env = pure false := by exact rfl) : ES C A env (.Expr e pos) σ Q := fun s S =>
  wpAny_Expr_any (h s S) hi hs

noncomputable def EN (C : Cx) (A : Around) (env : Env) (x : Str) (v : Value) (σ : Asn) (Q : Asn → Prop) : Prop := ∀ u, er u = v → EW C A (storeName env x u) σ fun _ σ' => Q σ'
theorem s_assign {x : Str} {px pos : Pos} {e : Expr} {Q : Flow → Asn → Prop} (h : EV C A env e σ fun v σ' => EN C A env x v σ' (Q .next))
    (hs : swapsWith e (some (.Name x px)) pos.line env = pure false := by exact rfl) : ES C A env (.Assign [.Name x px] e pos) σ Q := fun s S =>
  wpAny_Assign_Name (wpM (h s S) fun v s' _ S' h' => h' v rfl s' S') hs
theorem s_aug {x : Str} {px pos : Pos} {op : Operator} {e : Expr} {Q : Flow → Asn → Prop}
    (h : EW C A (loadName env x) σ fun old σ₁ => EV C A env e σ₁ fun v σ₂ => E2 C A (inplaceOp op) (er old) v σ₂ fun r σ₃ => EN C A env x r σ₃ (Q .next)) : ES C A env (.AugAssign (.Name x px) op e pos) σ Q := fun s S =>
  wpAny_AugAssign_Name (wpM (h s S) fun old s₁ _ S₁ h₁ => wpM (h₁ s₁ S₁) fun v s₂ _ S₂ h₂ => wpM (h₂ old v rfl rfl s₂ S₂) fun r s₃ _ S₃ h₃ => h₃ r rfl s₃ S₃)

theorem n_local {x : Str} {v : Value} {l : List (Str × Value)} {σ' : Asn} {Q : Asn → Prop} (u : Up env.locals (ns l) (ns ((x, v) :: l)) σ σ') (h : Q σ')
    (hl : env.kindOf x = some .local := by exact rfl) (hp : (env.scope.kind == .class || (env.scope.kind == .module && env.locals != env.globals)) = false := by exact rfl) : EN C A env x v σ Q := fun y hy s S => by
  obtain ⟨m, hn, hm⟩ := ns_of (S.get u.mem)
  refine wpAny_storeName_local hl hn (fun h' hn' hs => ⟨σ', S.set u (ns_at hn' fun z v' e => ?_) (fun b o hb e => hs.extBut b o hb e), h⟩) hp
  rw [List.lookup_cons] at e
  by_cases hz : z = x
  · subst hz
    simp only [beq_self_eq_true] at e
    cases e
    exact ⟨y, by simp, hy⟩
  · rw [beq_eq_false_iff_ne.mpr hz] at e
    simp only [if_neg hz]
    exact hm z v' e
theorem n_cell {x : Str} {v : Value} {c : Addr} {v₀ : Option Value} {σ' : Asn} {Q : Asn → Prop} (hc : env.cells.lookup x = some c) (u : Up c (cel v₀) (cel (some v)) σ σ') (h : Q σ')
    (hl : env.kindOf x = some .cell := by exact rfl) (hk : env.scope.kind = .function := by exact rfl) : EN C A env x v σ Q := fun y hy s S => by
  obtain ⟨w, hw, _⟩ := cel_of (S.get u.mem)
  exact wpAny_storeName_cell hk hl hc hw fun h' hv hs => ⟨σ', S.set u (cel_at hv (by simp [hy])) (fun b o hb e => hs.extBut b o hb e), h⟩

theorem l_local {x : Str} {v : Value} {l : List (Str × Value)} {Q : Value → Asn → Prop} (hm : (env.locals, ns l) ∈ σ) (hv : l.lookup x = some v) (h : ∀ u, er u = v → Q u σ)
    (hl : env.kindOf x = some .local := by exact rfl) (hk : env.scope.kind = .function := by exact rfl) : EW C A (loadName env x) σ Q := fun s S => by
  obtain ⟨m, hn, hm⟩ := ns_of (S.get hm)
  obtain ⟨u, hu, e⟩ := hm _ _ hv
  exact wpAny_loadName_local hk hl hn hu ⟨σ, S, h u e⟩
theorem l_cell {x : Str} {v : Value} {c : Addr} {Q : Value → Asn → Prop} (hc : env.cells.lookup x = some c) (hm : (c, cel (some v)) ∈ σ) (h : ∀ u, er u = v → Q u σ)
    (hl : env.kindOf x = some .cell := by exact rfl) (hk : env.scope.kind = .function := by exact rfl) : EW C A (loadName env x) σ Q := fun s S => by
  obtain ⟨u, hu, e⟩ := cel_of (S.get hm)
  cases u with
  | none => cases e
  | some u => exact wpAny_loadName_cell hk hl hc hu ⟨σ, S, h u (by simpa using e)⟩
theorem v_name {x : Str} {pos : Pos} {Q : Value → Asn → Prop} (h : EW C A (loadName env x) σ fun v σ' => Q (er v) σ') (hd : (x == ("__debug__" : Str)) = false := by decide) : EV C A env (.Name x pos) σ Q := fun s S =>
  wpAny_Name (h s S) hd
theorem v_local {x : Str} {pos : Pos} {v : Value} {l : List (Str × Value)} {Q : Value → Asn → Prop} (hm : (env.locals, ns l) ∈ σ) (hv : l.lookup x = some v) (h : Q v σ)
    (hl : env.kindOf x = some .local := by exact rfl) (hk : env.scope.kind = .function := by exact rfl) (hd : (x == ("__debug__" : Str)) = false := by decide) : EV C A env (.Name x pos) σ Q :=
  v_name (l_local hm hv (fun u e => by rw [e]; exact h) hl hk) hd
theorem v_cell {x : Str} {pos : Pos} {v : Value} {c : Addr} {Q : Value → Asn → Prop} (hc : env.cells.lookup x = some c) (hm : (c, cel (some v)) ∈ σ) (h : Q v σ)
    (hl : env.kindOf x = some .cell := by exact rfl) (hk : env.scope.kind = .function := by exact rfl) (hd : (x == ("__debug__" : Str)) = false := by decide) : EV C A env (.Name x pos) σ Q :=
  v_name (l_cell hc hm (fun u e => by rw [e]; exact h) hl hk) hd

structure Glob (C : Cx) (mg : Str → Option Value) : Prop where
  g : C.B.heap.Ns mainGlobals mg
  b : ∃ mb, C.B.heap.Ns builtinsNs mb ∧ ∀ x : Str, x ≠ "__name__" → mb x = bootBuiltins x
  nolimit : C.B.heap.NoLimit
theorem v_glob {x : Str} {pos : Pos} {v : Value} {mg : Str → Option Value} {Q : Value → Asn → Prop} (G : Glob C mg) (hv : mg x = some v) (h : Q (er v) σ) (hg : env.globals = mainGlobals := by exact rfl)
    (hx : env.kindOf x = some .globalImplicit := by exact rfl) (hk : env.scope.kind = .function := by exact rfl) (hd : (x == ("__debug__" : Str)) = false := by decide) : EV C A env (.Name x pos) σ Q := fun _ S =>
  Name_function_global hk hx (loadGlobal_global (by rw [hg]; exact G.g.keeps S.keep) hv ⟨σ, S, h⟩) hd
theorem v_builtin {x : Str} {pos : Pos} {v : Value} {mg : Str → Option Value} {Q : Value → Asn → Prop} (G : Glob C mg) (hv : mg x = none) (hb : bootBuiltins x = some v) (h : Q (er v) σ) (hg : env.globals = mainGlobals := by exact rfl)
    (hbn : env.builtins = builtinsNs := by exact rfl) (hx : env.kindOf x = some .globalImplicit := by exact rfl) (hk : env.scope.kind = .function := by exact rfl) (hd : (x == ("__debug__" : Str)) = false := by decide) (hn : x ≠ "__name__" := by decide) : EV C A env (.Name x pos) σ Q := fun _ S =>
  let ⟨_, hb1, hb2⟩ := G.b
  Name_function_global hk hx (loadGlobal_builtin (by rw [hg]; exact G.g.keeps S.keep) hv (by rw [hbn]; exact hb1.keeps S.keep) ((hb2 _ hn).trans hb) ⟨σ, S, h⟩) hd

theorem v_int {i : Int} {k : Nat} {pos : Pos} {Q : Value → Asn → Prop} (h : Q (.int i 0) σ) : EV C A env (.Constant (.int i) k pos) σ Q := fun _ S => wpAny_Constant_int ⟨σ, S.toks _, h⟩
theorem v_none {k : Nat} {pos : Pos} {Q : Value → Asn → Prop} (h : Q .none σ) : EV C A env (.Constant .none k pos) σ Q := fun _ S => wpAny_pure ⟨σ, S, h⟩
theorem v_bool {b : Bool} {k : Nat} {pos : Pos} {Q : Value → Asn → Prop} (h : Q (.bool b) σ) : EV C A env (.Constant (.bool b) k pos) σ Q := fun _ S => wpAny_pure ⟨σ, S, h⟩
theorem v_str {x : Str} {k : Nat} {pos : Pos} {Q : Value → Asn → Prop} (h : Q (.str x 0) σ) : EV C A env (.Constant (.str x) k pos) σ Q := fun s S => by
  show wpAny _ _ (mkText x) _ _ s
  intro Γ p hΓ
  rw [Sem.wp_cmd_mkText]
  exact ⟨σ, S.toks _, h⟩
theorem v_bin {l r : Expr} {op : Operator} {pos : Pos} {Q : Value → Asn → Prop} (h : EV C A env l σ fun a σ₁ => EV C A env r σ₁ fun b σ₂ => E2 C A (binaryOp op) a b σ₂ Q) : EV C A env (.BinOp l op r pos) σ Q := fun s S =>
  wpAny_BinOp (wpM (h s S) fun a s₁ _ S₁ h₁ => wpM (h₁ s₁ S₁) fun b s₂ _ S₂ h₂ => h₂ a b rfl rfl s₂ S₂)
theorem v_cmp {l r : Expr} {op : CmpOp} {pos : Pos} {Q : Value → Asn → Prop} (h : EV C A env l σ fun a σ₁ => EV C A env r σ₁ fun b σ₂ => E2 C A (compareOp op) a b σ₂ Q)
    (hm : behindInMarks op r = false := by with_unfolding_all rfl) : EV C A env (.Compare l [op] [r] pos) σ Q := fun s S =>
  wpAny_Compare1 (wpM (h s S) fun a s₁ _ S₁ h₁ => wpM (h₁ s₁ S₁) fun b s₂ _ S₂ h₂ => h₂ a b rfl rfl s₂ S₂) hm
theorem t_cmp {l r : Expr} {op : CmpOp} {pos : Pos} {Q : Bool → Asn → Prop} (h : EV C A env l σ fun a σ₁ => EV C A env r σ₁ fun b σ₂ => E2 C A (compareOp op) a b σ₂ fun c σ₃ => EB C A c σ₃ Q)
    (hm : behindInMarks op r = false := by with_unfolding_all rfl) : ET C A env (.Compare l [op] [r] pos) σ Q := fun s S =>
  wpAny_isTrue_Compare1 (wpM (h s S) fun a s₁ _ S₁ h₁ => wpM (h₁ s₁ S₁) fun b s₂ _ S₂ h₂ => wpM (h₂ a b rfl rfl s₂ S₂) fun c s₃ _ S₃ h₃ => h₃ c rfl s₃ S₃) hm
theorem v_ifexp {test body orelse : Expr} {pos : Pos} {Q : Value → Asn → Prop} (h : ET C A env test σ fun b σ' => if b then EV C A env body σ' Q else EV C A env orelse σ' Q) : EV C A env (.IfExp test body orelse pos) σ Q := fun s S =>
  IfExp_ (wpM (h s S) fun b s' σ' S' h' => by cases b <;> exact h' s' S')
theorem v_unary {op : UnaryOp} {x : Expr} {pos : Pos} {Q : Value → Asn → Prop} (h : EV C A env x σ fun a σ₁ => E1 C A (unaryOp op) a σ₁ Q) : EV C A env (.UnaryOp op x pos) σ Q := fun s S =>
  UnaryOp_ (wpM (h s S) fun a s₁ _ S₁ h₁ => h₁ a rfl s₁ S₁)
theorem t_not {x : Expr} {pos : Pos} {Q : Bool → Asn → Prop} (h : ET C A env x σ fun b σ' => Q (!b) σ') : ET C A env (.UnaryOp .Not x pos) σ Q := fun s S => isTrue_not (h s S)
theorem t_value {e : Expr} {Q : Bool → Asn → Prop} (h : EV C A env e σ fun v σ' => EB C A v σ' Q)
    (he : isTrue e env (eval e env) = (do let v ← eval e env; standAt e.pos; holding [v] (truthy v)) := by exact rfl) : ET C A env e σ Q := fun s S =>
  isTrue_plain (wpM (h s S) fun v s' _ S' h' => h' v rfl s' S') he
end
end TIkLogic
section TIkOps
open PySem PySem.Calls PyProof.Rows
set_option maxRecDepth 4000
theorem wpK {M : Model} {A : Around} {α : Type} {t : Sem α} {Q : α → Shared → Prop} {E : Value → Shared → Prop} {s : Shared} (h : ∀ K : α → Shared → Prop, (∀ v s', Q v s' → K v s') → wpAny M A t K E s) : wpAny M A t Q E s := h Q fun _ _ h => h
theorem wp_t {M : Model} {A : Around} {α : Type} {a b : Sem α} {Q : α → Shared → Prop} {E : Value → Shared → Prop} {s : Shared} {c : Prop} [Decidable c] (h : c) (ha : wpAny M A a Q E s) : wpAny M A (if c then a else b) Q E s := by rw [if_pos h]; exact ha
theorem wp_f {M : Model} {A : Around} {α : Type} {a b : Sem α} {Q : α → Shared → Prop} {E : Value → Shared → Prop} {s : Shared} {c : Prop} [Decidable c] (h : ¬c) (hb : wpAny M A b Q E s) : wpAny M A (if c then a else b) Q E s := by rw [if_neg h]; exact hb
section
variable {C : Cx} {A : Around} {σ : Asn} {Q : Value → Asn → Prop} {QB : Bool → Asn → Prop} {i j : Int} {x y : Str} {ti tj : Tok}

theorem o_add (h : Q (.int (i + j) 0) σ) : E2 C A (binaryOp .Add) (.int i ti) (.int j tj) σ Q := fun u v hu hv s S => by
  obtain ⟨t, rfl⟩ := er_int hu; obtain ⟨t', rfl⟩ := er_int hv; exact add_int ⟨σ, S.toks _, h⟩
theorem o_sub (h : Q (.int (i - j) 0) σ) : E2 C A (binaryOp .Sub) (.int i ti) (.int j tj) σ Q := fun u v hu hv s S => by
  obtain ⟨t, rfl⟩ := er_int hu; obtain ⟨t', rfl⟩ := er_int hv; exact sub_int ⟨σ, S.toks _, h⟩
theorem o_mul (h : Q (.int (i * j) 0) σ) (hm : IntMulOk i j) : E2 C A (binaryOp .Mult) (.int i ti) (.int j tj) σ Q := fun u v hu hv s S => by
  obtain ⟨t, rfl⟩ := er_int hu; obtain ⟨t', rfl⟩ := er_int hv; exact mul_int ⟨σ, S.toks _, h⟩ hm
theorem o_mod (hj : j ≠ 0) (h : Q (.int (i.fmod j) 0) σ) : E2 C A (binaryOp .Mod) (.int i ti) (.int j tj) σ Q := fun u v hu hv s S => by
  obtain ⟨t, rfl⟩ := er_int hu; obtain ⟨t', rfl⟩ := er_int hv; exact mod_int hj ⟨σ, S.toks _, h⟩
theorem o_div (hj : j ≠ 0) (hp : Builtin.divisionGoesByPylong i j = false) (h : Q (.int (i.fdiv j) 0) σ) : E2 C A (binaryOp .FloorDiv) (.int i ti) (.int j tj) σ Q := fun u v hu hv s S => by
  obtain ⟨t, rfl⟩ := er_int hu; obtain ⟨t', rfl⟩ := er_int hv; exact floordiv_int hj ⟨σ, S.toks _, h⟩ (.inl hp)
theorem o_shr (hj : 0 ≤ j) (h : Q (.int (i.fdiv (2 ^ j.toNat)) 0) σ) : E2 C A (binaryOp .RShift) (.int i ti) (.int j tj) σ Q := fun u v hu hv s S => by
  obtain ⟨t, rfl⟩ := er_int hu; obtain ⟨t', rfl⟩ := er_int hv; exact rshift_int hj ⟨σ, S.toks _, h⟩
theorem o_iadd (h : Q (.int (i + j) 0) σ) : E2 C A (inplaceOp .Add) (.int i ti) (.int j tj) σ Q := fun u v hu hv s S => by
  obtain ⟨t, rfl⟩ := er_int hu; obtain ⟨t', rfl⟩ := er_int hv; exact iadd_int ⟨σ, S.toks _, h⟩
theorem o_neg (h : Q (.int (-i) 0) σ) : E1 C A (unaryOp .USub) (.int i ti) σ Q := fun u hu s S => by
  obtain ⟨t, rfl⟩ := er_int hu; exact neg_int ⟨σ, S.toks _, h⟩
theorem o_lt (h : Q (.bool (decide (i < j))) σ) : E2 C A (compareOp .Lt) (.int i ti) (.int j tj) σ Q := fun u v hu hv s S => by
  obtain ⟨t, rfl⟩ := er_int hu; obtain ⟨t', rfl⟩ := er_int hv; exact lt_int ⟨σ, S, h⟩
theorem o_gt (h : Q (.bool (decide (j < i))) σ) : E2 C A (compareOp .Gt) (.int i ti) (.int j tj) σ Q := fun u v hu hv s S => by
  obtain ⟨t, rfl⟩ := er_int hu; obtain ⟨t', rfl⟩ := er_int hv; exact gt_int ⟨σ, S, h⟩
theorem o_le (h : Q (.bool (decide (i ≤ j))) σ) : E2 C A (compareOp .LtE) (.int i ti) (.int j tj) σ Q := fun u v hu hv s S => by
  obtain ⟨t, rfl⟩ := er_int hu; obtain ⟨t', rfl⟩ := er_int hv; exact le_int ⟨σ, S, h⟩
theorem o_ge (h : Q (.bool (decide (j ≤ i))) σ) : E2 C A (compareOp .GtE) (.int i ti) (.int j tj) σ Q := fun u v hu hv s S => by
  obtain ⟨t, rfl⟩ := er_int hu; obtain ⟨t', rfl⟩ := er_int hv; exact ge_int ⟨σ, S, h⟩
theorem o_eq (h : Q (.bool (i == j)) σ) : E2 C A (compareOp .Eq) (.int i ti) (.int j tj) σ Q := fun u v hu hv s S => by
  obtain ⟨t, rfl⟩ := er_int hu; obtain ⟨t', rfl⟩ := er_int hv; exact eq_int ⟨σ, S, h⟩
theorem o_ne (h : Q (.bool (i != j)) σ) : E2 C A (compareOp .NotEq) (.int i ti) (.int j tj) σ Q := fun u v hu hv s S => by
  obtain ⟨t, rfl⟩ := er_int hu; obtain ⟨t', rfl⟩ := er_int hv; exact ne_int ⟨σ, S, h⟩
theorem o_ne_bool {a b : Bool} (h : Q (.bool (a != b)) σ) : E2 C A (compareOp .NotEq) (.bool a) (.bool b) σ Q := fun u v hu hv s S => by
  obtain rfl := er_bool hu; obtain rfl := er_bool hv; exact ne_bool ⟨σ, S, h⟩
theorem o_eq_str (h : Q (.bool (x == y)) σ) : E2 C A (compareOp .Eq) (.str x ti) (.str y tj) σ Q := fun u v hu hv s S => by
  obtain ⟨t, rfl⟩ := er_str hu; obtain ⟨t', rfl⟩ := er_str hv; exact PyProof.Rows.eq_str ⟨σ, S, h⟩
theorem o_ne_str (h : Q (.bool (x != y)) σ) : E2 C A (compareOp .NotEq) (.str x ti) (.str y tj) σ Q := fun u v hu hv s S => by
  obtain ⟨t, rfl⟩ := er_str hu; obtain ⟨t', rfl⟩ := er_str hv; exact PyProof.Rows.ne_str ⟨σ, S, h⟩
theorem o_le_str (h : Q (.bool (!(y.cps.toList < x.cps.toList))) σ) : E2 C A (compareOp .LtE) (.str x ti) (.str y tj) σ Q := fun u v hu hv s S => by
  obtain ⟨t, rfl⟩ := er_str hu; obtain ⟨t', rfl⟩ := er_str hv; exact P.le_str ⟨σ, S, h⟩
theorem o_add_str (hz : x.length + y.length ≤ sizeLine) (h : Q (.str (x ++ y) 0) σ) : E2 C A (binaryOp .Add) (.str x ti) (.str y tj) σ Q := fun u v hu hv s S => by
  obtain ⟨t, rfl⟩ := er_str hu; obtain ⟨t', rfl⟩ := er_str hv; exact PyProof.Rows.add_str (fun _ _ => ⟨σ, S.toks _, h⟩) hz
theorem o_iadd_str (hz : x.length + y.length ≤ sizeLine) (h : Q (.str (x ++ y) 0) σ) : E2 C A (inplaceOp .Add) (.str x ti) (.str y tj) σ Q := fun u v hu hv s S => by
  obtain ⟨t, rfl⟩ := er_str hu; obtain ⟨t', rfl⟩ := er_str hv; exact PyProof.Rows.iadd_str (fun _ _ => ⟨σ, S.toks _, h⟩) hz
theorem o_in_str (h : Q (.bool !(Builtin.Str.occurrences x y 0 x.length 1).isEmpty) σ) : E2 C A (compareOp .In) (.str y tj) (.str x ti) σ Q := fun u v hu hv s S => by
  obtain ⟨t, rfl⟩ := er_str hu; obtain ⟨t', rfl⟩ := er_str hv; exact P.in_str ⟨σ, S, h⟩
theorem o_notin_str (h : Q (.bool (!(!(Builtin.Str.occurrences x y 0 x.length 1).isEmpty))) σ) : E2 C A (compareOp .NotIn) (.str y tj) (.str x ti) σ Q := fun u v hu hv s S => by
  obtain ⟨t, rfl⟩ := er_str hu; obtain ⟨t', rfl⟩ := er_str hv; exact P.notIn_str ⟨σ, S, h⟩
theorem o_is {a b : Value} (hp : ∀ u v, er u = a → er v = b → plainIs u v = true ∧ (u == v) = (a == b)) (h : Q (.bool (a == b)) σ) : E2 C A (compareOp .Is) a b σ Q := fun u v hu hv s S =>
  wpAny_is_plain (hp u v hu hv).1 ⟨σ, S, by rw [(hp u v hu hv).2]; exact h⟩

theorem b_bool {b : Bool} (h : QB b σ) : EB C A (.bool b) σ QB := fun u hu s S => by
  obtain rfl := er_bool hu; exact wpAny_truthy_bool ⟨σ, S, h⟩
theorem b_str (hz : (x.length : Int) < 9223372036854775808) (h : QB ((x.length : Int) != 0) σ) : EB C A (.str x ti) σ QB := fun u hu s S => by
  obtain ⟨t, rfl⟩ := er_str hu; exact P.truthy_str (by lia) ⟨σ, S.toks _, h⟩
theorem b_int (h : QB (i != 0) σ) : EB C A (.int i ti) σ QB := fun u hu s S => by
  obtain ⟨t, rfl⟩ := er_int hu; exact PyProof.Rows.truthy_int ⟨σ, S, h⟩
end
end TIkOps
section TIkItem
open PySem PySem.Calls PyProof.Rows
set_option maxRecDepth 4000
noncomputable def GI (C : Cx) (A : Around) (o i : Value) (σ : Asn) (Q : Value → Asn → Prop) : Prop := ∀ u v, er u = o → er v = i → ∀ s, St C σ s →
  (∃ T id, s.TypeIs u T ∧ typeLookup (.type T) "__getitem__" = pure (some (.builtin id))) ∧ wpAny (model C.prog C.w) A (getItem u v) (fun r s' => ∃ σ', St C σ' s' ∧ Q (er r) σ') (fun _ _ => False) s
noncomputable def EP (C : Cx) (A : Around) (env : Env) (p : Option Expr) (σ : Asn) (Q : Value → Asn → Prop) : Prop := EW C A (evalPart p env) σ fun v σ' => Q (er v) σ'
noncomputable def SL (C : Cx) (A : Around) (o l u st : Value) (σ : Asn) (Q : Value → Asn → Prop) : Prop := ∀ vo vl vu vs a, er vo = o → er vl = l → er vu = u → er vs = st → ∀ s, St C σ s → s.heap.IsSliceOf a vl vu vs →
  (∃ T id, s.TypeIs vo T ∧ typeLookup (.type T) "__getitem__" = pure (some (.builtin id))) ∧ wpAny (model C.prog C.w) A (getItem vo (.ref a)) (fun r s' => ∃ σ', St C σ' s' ∧ Q (er r) σ') (fun _ _ => False) s

section
variable {C : Cx} {A : Around} {env : Env} {σ : Asn} {Q : Value → Asn → Prop} {x : Str} {k : Int} {t t' : Tok} {l : Addr} {xs : List Value} {v : Value}

theorem v_item {value slice : Expr} {pos : Pos} (h : EV C A env value σ fun o σ₁ => EV C A env slice σ₁ fun i σ₂ => GI C A o i σ₂ Q)
    (hs : ∀ o i, ∃ ops, subscripted slice false o i = operate ops (getItem o i) := by exact fun _ _ => ⟨_, rfl⟩) : EV C A env (.Subscript value slice pos) σ Q := fun s S =>
  Subscript_ (wpAny_mono (h s S) (fun o s₁ ⟨_, S₁, h₁⟩ => wpAny_mono (h₁ s₁ S₁) (fun i s₂ ⟨_, S₂, h₂⟩ => by
    obtain ⟨⟨T, id, hT, hl⟩, hg⟩ := h₂ o i rfl rfl s₂ S₂
    obtain ⟨ops, hs⟩ := hs o i
    exact tail_any hT hl hg hs) fun _ _ e => e) fun _ _ e => e)
theorem v_slice {value : Expr} {lo hi st : Option Expr} {p pos : Pos} (h : EV C A env value σ fun o σ₁ => EP C A env lo σ₁ fun l σ₂ => EP C A env hi σ₂ fun u σ₃ => EP C A env st σ₃ fun t σ₄ => SL C A o l u t σ₄ Q)
    (hs : ∀ o i, ∃ ops, subscripted (.Slice lo hi st p) false o i = operate ops (getItem o i) := by exact fun _ _ => ⟨_, rfl⟩) : EV C A env (.Subscript value (.Slice lo hi st p) pos) σ Q := fun s S =>
  Subscript_ (wpAny_mono (h s S) (fun o s₁ ⟨_, S₁, h₁⟩ => wpAny_Slice (wpAny_mono (h₁ s₁ S₁) (fun vl s₂ ⟨_, S₂, h₂⟩ => wpAny_mono (h₂ s₂ S₂) (fun vu s₃ ⟨_, S₃, h₃⟩ => wpAny_mono (h₃ s₃ S₃) (fun vs s₄ ⟨_, S₄, h₄⟩ => by
    have S₅ := S₄.grow (h' := s₄.heap.push { cls := .type "slice", data := .fields #[vl, vu, vs] }) (tk := s₄.toks) fun b ob e => Heap.get?_push_of_some _ e
    obtain ⟨⟨T, id, hT, hl⟩, hg⟩ := h₄ o vl vu vs s₄.heap.objs.size rfl rfl rfl rfl _ S₅ (Heap.IsSliceOf.new ..)
    obtain ⟨ops, hs⟩ := hs o (.ref s₄.heap.objs.size)
    exact tail_any hT hl hg hs) fun _ _ e => e) fun _ _ e => e) fun _ _ e => e)) fun _ _ e => e)
theorem p_none (h : Q .none σ) : EP C A env none σ Q := fun s S => by
  rw [evalPart_none]; exact wpAny_pure ⟨σ, S, h⟩
theorem p_some {e : Expr} (h : EV C A env e σ Q) : EP C A env (some e) σ Q := fun s S => by
  rw [evalPart_some]; exact h s S

theorem map_get {items : Array Value} {k : Nat} (e : items.toList.map er = xs) (hx : xs[k]? = some v) : ∃ u, items[k]? = some u ∧ er u = v := by
  subst e
  rw [List.getElem?_map] at hx
  obtain ⟨u, h1, h2⟩ := Option.map_eq_some_iff.mp hx
  exact ⟨u, by simpa using h1, h2⟩
theorem map_size {items : Array Value} (e : items.toList.map er = xs) : items.size = xs.length := by
  subst e; simp

theorem i_list (hl : Has C σ l (lst xs)) (h0 : 0 ≤ k) (hk : k < 2 ^ 63) (hx : xs[k.toNat]? = some v) (h : Q v σ) : GI C A (.ref l) (.int k t) σ Q := fun u i hu hi s S => by
  obtain rfl := er_ref hu; obtain ⟨t', rfl⟩ := er_int hi
  obtain ⟨items, hp, e⟩ := lst_of (S.has hl)
  obtain ⟨w, hw, rfl⟩ := map_get e hx
  exact ⟨⟨"list", _, hp.isList.typeIs, slot_list_getitem.lookup⟩, wpAny_getItem_list hp.isList h0 hk hw ⟨σ, S, h⟩⟩
theorem i_tup {j : Nat} (hl : Has C σ l (tup xs)) (h0 : -(2 ^ 63) ≤ k) (hk : k < 2 ^ 63) (hj : seqIndex? k xs.length = some j) (hx : xs[j]? = some v) (h : Q v σ) : GI C A (.ref l) (.int k t) σ Q := fun u i hu hi s S => by
  obtain rfl := er_ref hu; obtain ⟨t', rfl⟩ := er_int hi
  obtain ⟨items, n, hp, e⟩ := tup_of (S.has hl)
  obtain ⟨w, hw, rfl⟩ := map_get e hx
  exact ⟨⟨"tuple", _, ⟨_, hp, rfl⟩, slot_tuple_getitem.lookup⟩, PyProof.Rows.getItem_tuple (isTup_of hp) h0 hk (by rw [map_size e]; exact hj) hw ⟨σ, S, h⟩⟩
theorem i_str {j c : Nat} (h0 : -(2 ^ 63) ≤ k) (hk : k < 2 ^ 63) (hj : seqIndex? k x.length = some j) (hc : x.cps[j]? = some c) (h : Q (.str ⟨#[c]⟩ 0) σ) : GI C A (.str x t) (.int k t') σ Q := fun u i hu hi s S => by
  obtain ⟨_, rfl⟩ := er_str hu; obtain ⟨_, rfl⟩ := er_int hi
  refine ⟨⟨"str", _, typeIs_str _ _ _, PySem.F.slot_str_getitem.lookup⟩, P.getItem_str (c := c) ?_ ?_ ⟨σ, S.toks _, h⟩⟩
  · simp only [Bool.or_eq_false_iff, decide_eq_false_iff_not]; lia
  · rw [hj]; exact hc

noncomputable def sl (x : Str) (lo hi : Option Int) : Str := ⟨((x.cps.toList.drop (lo.elim 0 (clipAt x.length))).take (hi.elim x.length (clipAt x.length) - lo.elim 0 (clipAt x.length))).toArray⟩
theorem sl_picked (x : Str) (lo hi : Option Int) : Builtin.Str.strSliceIndices lo hi 1 x.length = (List.range (hi.elim x.length (clipAt x.length) - lo.elim 0 (clipAt x.length))).map (lo.elim 0 (clipAt x.length) + ·) := by
  have e : Builtin.Str.strSliceIndices lo hi 1 x.length = sliceRange (sliceBounds lo hi none x.length).1 (sliceBounds lo hi none x.length).2.1 (sliceBounds lo hi none x.length).2.2 := by
    cases lo <;> cases hi <;> rfl
  rw [e, sliceBounds_plain, sliceRange_one]
theorem part_of {v : Value} {p : Option Int} (h : er v = (match p with | none => .none | some i => .int i 0)) : ∃ q : Option (Int × Tok), v = partValue q ∧ q.map (·.1) = p := by
  cases p with
  | none => exact ⟨none, er_none h, rfl⟩
  | some i => obtain ⟨u, rfl⟩ := er_int h; exact ⟨some (i, u), rfl, rfl⟩
noncomputable def pv : Option Int → Value
  | none => .none
  | some i => .int i 0
theorem sl_str {lo hi : Option Int} (hz : x.length ≤ sizeLine) (h : Q (.str (sl x lo hi) 0) σ) : SL C A (.str x t) (pv lo) (pv hi) .none σ Q := fun vo vl vu vs a ho hl hu hs s S hsl => by
  obtain ⟨tx, rfl⟩ := er_str ho
  obtain ⟨ql, rfl, e1⟩ := part_of (p := lo) (by cases lo <;> exact hl)
  obtain ⟨qu, rfl, e2⟩ := part_of (p := hi) (by cases hi <;> exact hu)
  obtain rfl := er_none hs
  refine ⟨⟨"str", _, typeIs_str _ _ _, PySem.F.slot_str_getitem.lookup⟩, wpAny_getItem_str_slice (l := ql) (u := qu) (st := none) hsl rfl ?_⟩
  have ep : slicePicked x ql qu none = (List.range (hi.elim x.length (clipAt x.length) - lo.elim 0 (clipAt x.length))).map (lo.elim 0 (clipAt x.length) + ·) := by
    unfold slicePicked
    rw [e1, e2]
    exact sl_picked x lo hi
  have ev : (⟨((slicePicked x ql qu none).filterMap (x.cps[·]?)).toArray⟩ : Str) = sl x lo hi := by
    rw [ep, pick_run]; rfl
  have lz : (sl x lo hi).length ≤ x.length := by
    simp only [sl, Str.length, List.size_toArray, List.length_take, List.length_drop, Array.length_toList]; lia
  unfold sliceMade
  split
  · rename_i hc
    have hlen : (slicePicked x ql qu none).length = x.length := by simpa using hc
    have : sl x lo hi = x := by
      rw [ep, List.length_map, List.length_range] at hlen
      have hlo : lo.elim 0 (clipAt x.length) = 0 ∨ x.length = 0 := by
        have : hi.elim x.length (clipAt x.length) ≤ x.length := by
          cases hi with
          | none => exact Nat.le_refl _
          | some i => simp only [Option.elim, clipAt]; lia
        lia
      have hx : x = ⟨x.cps.toList.toArray⟩ := by simp
      unfold sl
      rcases hlo with h0 | h0
      · rw [h0] at hlen ⊢
        rw [Nat.sub_zero] at hlen ⊢
        rw [hlen, List.drop_zero, List.take_of_length_le (by simp [Str.length])]
      · have : x.cps.toList = [] := List.eq_nil_of_length_eq_zero (by simpa [Str.length] using h0)
        rw [this]; simp
        cases x; simp only [Str.mk.injEq] at *
        exact (Array.toList_eq_nil_iff.mp this).symm
    rw [this] at h
    exact ⟨σ, S, h⟩
  · rw [ev]
    refine ⟨?_, ?_⟩
    all_goals first | lia | exact ⟨σ, S.toks _, h⟩
end
end TIkItem
section TIkCall
open PySem PySem.Calls PyProof.Rows
set_option maxRecDepth 4000
structure Room (A : Around) (d u : Nat) : Prop where
  handled : A.handled = none
  depth : A.depth + d < recursionLimit
  units : A.units + u < cLine
theorem Room.deeper {A : Around} {d u : Nat} (R : Room A (d + 1) (u + 3)) (env : Env) : Room (A.deeper env) d u :=
  ⟨R.handled, by have := R.depth; show A.depth + 1 + d < _; lia, by have := R.units; show A.units + 3 + u < _; lia⟩
theorem Room.less {A : Around} {d u d' u' : Nat} (R : Room A d u) (hd : d' ≤ d) (hu : u' ≤ u) : Room A d' u' :=
  ⟨R.handled, Nat.lt_of_le_of_lt (Nat.add_le_add_left hd _) R.depth, Nat.lt_of_le_of_lt (Nat.add_le_add_left hu _) R.units⟩

noncomputable def FnAt (C : Cx) (f : Addr) (qual : Str) (params : Arguments) (body : List Stmt) (scope : Scope) (dV : Value) : Prop :=
  ∃ fo name doc pm an cdv ct, C.B.heap.get? f = some fo ∧ fo.data = .func (PySem.W.fnX name qual params body scope [] dV .none doc pm an cdv ct) ∧ C.B.heap.CodeRec cdv qual

noncomputable def FnAtC (C : Cx) (f : Addr) (qual : Str) (params : Arguments) (body : List Stmt) (scope : Scope) (dV cdv : Value) : Prop :=
  ∃ fo name doc pm an ct, C.B.heap.get? f = some fo ∧ fo.data = .func (PySem.W.fnX name qual params body scope [] dV .none doc pm an cdv ct) ∧ C.B.heap.CodeRec cdv qual
theorem FnAtC.fn {C : Cx} {f : Addr} {qual : Str} {params : Arguments} {body : List Stmt} {scope : Scope} {dV cdv : Value} (h : FnAtC C f qual params body scope dV cdv) : FnAt C f qual params body scope dV := by
  obtain ⟨fo, name, doc, pm, an, ct, h1, h2, h3⟩ := h
  exact ⟨fo, name, doc, pm, an, cdv, ct, h1, h2, h3⟩
noncomputable abbrev fenv (qual : Str) (scope : Scope) (L f : Addr) (cd : Value) : Env := PySem.W.envX qual scope L f cd (cellsFrom (L + 1) scope.names [])

noncomputable def locE (names : List (Str × NameKind)) (l : List (Str × Value)) : List (Str × Value) := (l.filter fun x => names.lookup x.1 == some .local).reverse
noncomputable def celE (names : List (Str × NameKind)) (l : List (Str × Value)) (L : Addr) : Asn :=
  (cellsFrom (L + 1) names []).map fun c => (c.2, cel (((l.filter fun x => !(names.lookup x.1 == some .local)).reverse).lookup c.1))

theorem bindL_eq {k : Str → Option NameKind} : ∀ (l : List (Str × Value)) (m : Str → Option Value) (x : Str), bindL k l m x = (((l.filter fun y => k y.1 == some .local).reverse).lookup x).or (m x)
  | [], m, x => by simp [bindL]
  | (n, v) :: r, m, x => by
    unfold bindL
    rw [bindL_eq r]
    by_cases hk : k n = some .local
    · simp only [hk, if_true, beq_self_eq_true, List.filter_cons, List.reverse_cons, List.lookup_append, Option.or_assoc]
      congr 1
      by_cases hx : x = n
      · subst hx; simp
      · simp [List.lookup_cons, beq_eq_false_iff_ne.mpr hx, hx]
    · have : (k n == some NameKind.local) = false := by simpa using hk
      simp only [hk, if_false, this, List.filter_cons, Bool.false_eq_true]
theorem bindC_eq {k : Str → Option NameKind} : ∀ (l : List (Str × Value)) (m : Str → Option Value) (x : Str), bindC k l m x = (((l.filter fun y => !(k y.1 == some .local)).reverse).lookup x).or (m x)
  | [], m, x => by simp [bindC]
  | (n, v) :: r, m, x => by
    unfold bindC
    rw [bindC_eq r]
    by_cases hk : k n = some .local
    · simp only [hk, if_true, beq_self_eq_true, List.filter_cons, Bool.not_true, Bool.false_eq_true, if_false]
    · have : (k n == some NameKind.local) = false := by simpa using hk
      simp only [hk, if_false, this, List.filter_cons, Bool.not_false, if_true, List.reverse_cons, List.lookup_append, Option.or_assoc]
      congr 1
      by_cases hx : x = n
      · subst hx; simp
      · simp [List.lookup_cons, beq_eq_false_iff_ne.mpr hx, hx]
theorem lookup_er (l : List (Str × Value)) (x : Str) : (l.map fun b => (b.1, er b.2)).lookup x = (l.lookup x).map er := by
  induction l with
  | nil => rfl
  | cons b r ih =>
    rw [List.map_cons, List.lookup_cons, List.lookup_cons]
    cases x == b.1 <;> simp [ih]
theorem filter_er (l : List (Str × Value)) (p : Str → Bool) : ((l.filter fun y => p y.1).map fun b => (b.1, er b.2)) = (l.map fun b => (b.1, er b.2)).filter fun y => p y.1 := by
  induction l with
  | nil => rfl
  | cons b r ih => simp only [List.map_cons, List.filter_cons]; cases p b.1 <;> simp [ih]

noncomputable def Binds (C : Cx) (σ : Asn) (qual : Str) (params : Arguments) (body : List Stmt) (scope : Scope) (dV : Value) (vs : List Value) (l : List (Str × Value)) : Prop :=
  ∀ us name doc pm an cdv ct, us.map er = vs → ∀ s, St C σ s → ∃ binds, BindsTo s (PySem.W.fnX name qual params body scope [] dV .none doc pm an cdv ct) ⟨us, []⟩ binds ∧ binds.map (fun b => (b.1, er b.2)) = l

noncomputable def retOf : Flow → Value
  | .ret v => v
  | _ => .none

section
variable {C : Cx} {A : Around} {σ : Asn} {f : Addr} {qual : Str} {params : Arguments} {body : List Stmt} {scope : Scope} {dV : Value} {vs : List Value} {l : List (Str × Value)} {Q : Value → Asn → Prop}

theorem c_fnC {cdv : Value} {ll : List (Str × Value)} {cs : Addr → Asn} (hlim : C.B.heap.NoLimit) (F : FnAtC C f qual params body scope dV cdv) (hroom : A.depth < recursionLimit) (hb : Binds C σ qual params body scope dV vs l)
    (hkind : ∀ n, ∀ x ∈ l, scope.names.lookup x.1 = some .local ∨ (scope.names.lookup x.1 = some .cell ∧ ((cellsFrom n scope.names []).lookup x.1).isSome = true))
    (hnd : ((cellsFrom 0 scope.names []).map (·.1)).Nodup) (hll : locE scope.names l = ll) (hcs : ∀ L, celE scope.names l L = cs L)
    (h : ∀ L, EX C (A.deeper (fenv qual scope L f cdv)) (fenv qual scope L f cdv) body ((L, ns ll) :: (cs L ++ σ)) fun fl σ' => ∃ τ : Asn, τ.Sublist σ' ∧ Q (retOf fl) τ)
    (hk : scope.kind = .function := by rfl) (hco : scope.isCoroutine = false := by rfl) (hgen : scope.isGenerator = false := by rfl) : EC C A (.ref f) vs σ Q := fun us hus s S => by
  subst hll
  obtain ⟨fo, name, doc, pm, an, ct, hf, hd, hcd⟩ := F
  obtain ⟨binds, hbd, he⟩ := hb us name doc pm an cdv ct hus s S
  refine wpAny_call (codeAny_call_function hroom (S.keep _ _ hf) hd hco hgen rfl (hcd.keeps S.keep) (hbd _ _ _ _ (wpAny_newFunctionEnv_cells hk (fun x hx => ?_) fun env henv s' x => ?_)))
  · exact hkind _ (x.1, er x.2) (by rw [← he]; exact List.mem_map_of_mem (f := fun b : Str × Value => (b.1, er b.2)) hx)
  · subst henv
    refine ⟨(hlim.keeps S.keep).keeps x.toInCall.keep, codeAny_func ?_⟩
    obtain ⟨h₁, tk, rfl⟩ := x.toInCall.same
    have hnd' : ((cellsFrom (s.heap.objs.size + 1) scope.names []).map (·.1)).Nodup := by rw [← cellsFrom_names scope.names 0 (s.heap.objs.size + 1) [] [] rfl]; exact hnd
    have kO : ∀ y : Str × Value, ((PySem.W.envX qual scope s.heap.objs.size f cdv (cellsFrom (s.heap.objs.size + 1) scope.names [])).kindOf y.1 == some NameKind.local) = (scope.names.lookup y.1 == some .local) := fun _ => rfl
    have SL : St C ((s.heap.objs.size, ns (locE scope.names l)) :: (cs s.heap.objs.size ++ σ)) { s with heap := h₁, toks := tk } := by
      have S₁ := S.grow (tk := tk) x.toInCall.keep
      have key : ∀ p ∈ celE scope.names l s.heap.objs.size, At h₁ p.1 p.2 ∧ s.heap.objs.size < p.1 ∧ p.1 ∈ (cellsFrom (s.heap.objs.size + 1) scope.names []).map (·.2) := by
        intro p hp
        obtain ⟨⟨n, c⟩, hc, rfl⟩ := List.mem_map.mp hp
        refine ⟨cel_at (x.cell n c (lookup_of_mem_nodup hnd' hc)) ?_, x.above n c hc, List.mem_map.mpr ⟨(n, c), hc, rfl⟩⟩
        rw [bindC_eq, Option.or_none, ← he, ← lookup_er, List.map_reverse]
        refine congrArg (fun q => List.lookup n (List.reverse q)) ?_
        exact filter_er binds fun y => !(scope.names.lookup y == some NameKind.local)
      have hns : At h₁ s.heap.objs.size (ns (locE scope.names l)) := by
        refine ns_at x.toInCall.ns fun y v hv => ?_
        have e : (locE scope.names l).lookup y = ((((binds.filter fun z => scope.names.lookup z.1 == some .local).reverse).lookup y)).map er := by
          unfold locE
          rw [← he, ← lookup_er, List.map_reverse]
          exact congrArg (fun q => List.lookup y (List.reverse q)) (filter_er binds fun z => scope.names.lookup z == some NameKind.local).symm
        rw [e] at hv
        obtain ⟨u, h1, h2⟩ := Option.map_eq_some_iff.mp hv
        refine ⟨u, ?_, h2⟩
        have e' := bindL_eq (k := (PySem.W.envX qual scope s.heap.objs.size f cdv (cellsFrom (s.heap.objs.size + 1) scope.names [])).kindOf) binds (fun _ => none) y
        refine Eq.trans e' ?_
        rw [Option.or_none]
        exact h1
      have fresh : ∀ a, s.heap.objs.size ≤ a → s.heap.get? a = none := fun a ha => by
        cases e : s.heap.get? a with
        | none => rfl
        | some o => exact absurd (Heap.lt_size e) (Nat.not_lt.mpr ha)
      rw [← hcs]
      refine ⟨S₁.drawn, S₁.os, S₁.gens, S₁.keep, ?_, ?_, ?_⟩
      · rw [List.map_cons, List.map_append, List.nodup_cons]
        refine ⟨fun hm => ?_, List.nodup_append.mpr ⟨?_, S.nodup, ?_⟩⟩
        · rcases List.mem_append.mp hm with hm | hm
          · obtain ⟨p, hp, e⟩ := List.mem_map.mp hm
            have h1 := (key p hp).2.1
            have h2 : p.1 = s.heap.objs.size := e
            exact absurd h2 (Nat.ne_of_gt h1)
          · exact S.not_mem (fresh _ (Nat.le_refl _)) hm
        · have : (celE scope.names l s.heap.objs.size).map (·.1) = (cellsFrom (s.heap.objs.size + 1) scope.names []).map (·.2) := by
            unfold celE; rw [List.map_map]; rfl
          rw [this]
          exact List.pairwise_map.mpr x.apart
        · intro a ha b hb e
          subst e
          obtain ⟨p, hp, e⟩ := List.mem_map.mp ha
          exact S.not_mem (fresh a (by have h1 := (key p hp).2.1; have h2 : p.1 = a := e; exact Nat.le_of_lt (h2 ▸ h1))) hb
      · intro p hp
        rcases List.mem_cons.mp hp with rfl | hp
        · exact hns
        · rcases List.mem_append.mp hp with hp | hp
          · exact (key p hp).1
          · exact S₁.own p hp
      · intro p hp
        rcases List.mem_cons.mp hp with rfl | hp
        · exact S.none_of_fresh (fresh _ (Nat.le_refl _))
        · rcases List.mem_append.mp hp with hp | hp
          · exact S.none_of_fresh (fresh _ (by have := (key p hp).2.1; lia))
          · exact S.new p hp
    refine wpAny_mono (h _ _ SL) (fun fl s' ⟨σ', S', τ, ht, hq⟩ => ⟨τ, S'.sub ht, ?_⟩) fun _ _ e => e.elim
    cases fl <;> exact hq

theorem c_fn {ll : List (Str × Value)} {cs : Addr → Asn} (hlim : C.B.heap.NoLimit) (F : FnAt C f qual params body scope dV) (hroom : A.depth < recursionLimit) (hb : Binds C σ qual params body scope dV vs l)
    (hkind : ∀ n, ∀ x ∈ l, scope.names.lookup x.1 = some .local ∨ (scope.names.lookup x.1 = some .cell ∧ ((cellsFrom n scope.names []).lookup x.1).isSome = true))
    (hnd : ((cellsFrom 0 scope.names []).map (·.1)).Nodup) (hll : locE scope.names l = ll) (hcs : ∀ L, celE scope.names l L = cs L)
    (h : ∀ L cdv, EX C (A.deeper (fenv qual scope L f cdv)) (fenv qual scope L f cdv) body ((L, ns ll) :: (cs L ++ σ)) fun fl σ' => ∃ τ : Asn, τ.Sublist σ' ∧ Q (retOf fl) τ)
    (hk : scope.kind = .function := by rfl) (hco : scope.isCoroutine = false := by rfl) (hgen : scope.isGenerator = false := by rfl) : EC C A (.ref f) vs σ Q := by
  obtain ⟨fo, name, doc, pm, an, cdv, ct, hf, hd, hcd⟩ := F
  exact c_fnC hlim ⟨fo, name, doc, pm, an, ct, hf, hd, hcd⟩ hroom hb hkind hnd hll hcs (fun L => h L cdv) hk hco hgen

theorem el_nil {env : Env} {Q : List Value → Asn → Prop} (h : Q [] σ) : EL C A env [] σ Q := fun pos s S => spliced_none ⟨σ, S, h⟩
theorem el_cons {env : Env} {e : Expr} {rest : List Expr} {Q : List Value → Asn → Prop} (h : EV C A env e σ fun v σ₁ => EL C A env rest σ₁ fun vs σ₂ => Q (v :: vs) σ₂)
    (he : starEach (e :: rest) env = (false, eval e env) :: starEach rest env := by rfl) : EL C A env (e :: rest) σ Q := fun pos s S =>
  spliced_more (wpM (h s S) fun v s₁ _ S₁ h₁ => wpM (h₁ pos s₁ S₁) fun vs s₂ σ₂ S₂ h₂ => ⟨σ₂, S₂, h₂⟩) he
inductive Callee (C : Cx) : Value → Prop
  | builtin (id : String) : Callee C (.builtin id)
  | type (T : String) : Callee C (.type T)
  | fn {f : Addr} {qual : Str} {params : Arguments} {body : List Stmt} {scope : Scope} {dV : Value} (F : FnAt C f qual params body scope dV) : Callee C (.ref f)

theorem spliced_none_inv {env : Env} {pos : Pos} {Q : List Value → Shared → Prop} {E : Value → Shared → Prop} {M : Model} {s : Shared} {f : Value} (h : wpAny M A (spliced (backTo pos (starEach [] env))) Q E s) : wpAny M A (evalArgs f true (backTo pos (starEach [] env)) []) (fun a s' => a.kw = [] ∧ Q a.pos s') E s := by
  have h' : wpAny M A (pure [] : Sem (List Value)) Q E s := h
  have e : evalArgs f true (backTo pos (starEach [] env)) [] = (do let x ← (pure [] : Sem (List Value)); pure ⟨x, []⟩) := rfl
  rw [e]
  exact wpAny_bind (wpAny_mono h' (fun v s' q => wpAny_pure ⟨rfl, q⟩) fun _ _ e => e)
theorem evalArgs_EL {env : Env} {args : List Expr} {Q : List Value → Asn → Prop} {f : Value} {pos : Pos} {s : Shared} (h : EL C A env args σ Q) (S : St C σ s)
    (he : args = [] ∨ ∃ e rest, args = e :: rest ∧ starEach (e :: rest) env = (false, eval e env) :: starEach rest env) :
    wpAny (model C.prog C.w) A (evalArgs f true (backTo pos (starEach args env)) []) (fun a s' => a.kw = [] ∧ ∃ σ', St C σ' s' ∧ Q (a.pos.map er) σ') (fun _ _ => False) s := by
  rcases he with rfl | ⟨e, rest, rfl, he⟩
  · exact spliced_none_inv (h pos s S)
  · have := h pos s S
    rw [he] at this ⊢
    exact evalArgs_plain (wpAny_mono this (fun vs s' ⟨σ', S', q⟩ => ⟨rfl, σ', S', q⟩) fun _ _ e => e)
end
end TIkCall
section TIkCall2
open PySem PySem.Calls PyProof.Rows
set_option maxRecDepth 4000
noncomputable def CW (C : Cx) (A : Around) (env : Env) (f : Value) (args : List Expr) (σ : Asn) (Q : Value → Asn → Prop) : Prop :=
  ∀ u pos, er u = f → EW C A (callWith pos u [] (backTo pos (starEach args env)) []) σ fun v σ' => Q (er v) σ'
noncomputable def EM (C : Cx) (A : Around) (env : Env) (name : Str) (o : Value) (args : List Expr) (σ : Asn) (Q : Value → Asn → Prop) : Prop :=
  ∀ u pos, er u = o → ∀ s, St C σ s → MethodOnS C.prog C.w A (fun _ _ => False) name u pos (backTo pos (starEach args env)) (fun v s' => ∃ σ', St C σ' s' ∧ Q (er v) σ') s

section
variable {C : Cx} {A : Around} {env : Env} {σ : Asn} {Q : Value → Asn → Prop}

theorem v_call {x : Str} {p pos : Pos} {args : List Expr} (h : EV C A env (.Name x p) σ fun f σ₁ => CW C A env f args σ₁ Q) : EV C A env (.Call (.Name x p) args [] pos) σ Q := fun s S => by
  rw [arm_eval_Call_Name']
  exact wpAny_bind (wpM (h s S) fun f s₁ _ S₁ h₁ => h₁ f pos rfl s₁ S₁)
noncomputable def NoStar (args : List Expr) (env : Env) : Prop := starEach args env = args.map fun e => (false, eval e env)
theorem NoStar.any {args : List Expr} (h : NoStar args env) (pos : Pos) : (backTo pos (starEach args env)).any (·.1) = false := by
  rw [h]; unfold backTo; induction args with
  | nil => rfl
  | cons a r ih => simp
theorem NoStar.or {args : List Expr} (h : NoStar args env) : args = [] ∨ ∃ e rest, args = e :: rest ∧ starEach (e :: rest) env = (false, eval e env) :: starEach rest env := by
  cases args with
  | nil => exact .inl rfl
  | cons e rest =>
    refine .inr ⟨e, rest, rfl, ?_⟩
    cases e <;> first | rfl | (exfalso; have e : some true = some false := congrArg (fun l => (l.head?).map (·.1)) h; cases e)
theorem cw_builtin {id : String} {args : List Expr} (h : EL C A env args σ fun vs σ₁ => EC C A (.builtin id) vs σ₁ Q) (hp : NoStar args env := by exact rfl) : CW C A env (.builtin id) args σ Q := fun u pos hu s S => by
  obtain rfl := er_builtin hu
  refine callWith_builtin (hp.any pos) (wpAny_mono (evalArgs_EL h S hp.or) (fun a s' hz => ?_) fun _ _ e => e)
  obtain ⟨hk, _, S', h'⟩ := hz
  rw [hk, List.nil_append]; exact h' a.pos rfl s' S'
theorem cw_type {T : String} {args : List Expr} (h : EL C A env args σ fun vs σ₁ => EC C A (.type T) vs σ₁ Q) (hp : NoStar args env := by exact rfl) : CW C A env (.type T) args σ Q := fun u pos hu s S => by
  obtain rfl := er_type hu
  refine PySem.callWith_type (hp.any pos) (wpAny_mono (evalArgs_EL h S hp.or) (fun a s' hz => ?_) fun _ _ e => e)
  obtain ⟨hk, _, S', h'⟩ := hz
  rw [hk, List.nil_append]; exact h' a.pos rfl s' S'
theorem cw_fn {f : Addr} {qual : Str} {params : Arguments} {body : List Stmt} {scope : Scope} {dV : Value} {args : List Expr} (F : FnAt C f qual params body scope dV)
    (h : EL C A env args σ fun vs σ₁ => EC C A (.ref f) vs σ₁ Q) (hp : NoStar args env := by exact rfl) : CW C A env (.ref f) args σ Q := fun u pos hu s S => by
  obtain rfl := er_ref hu
  obtain ⟨fo, name, doc, pm, an, cdv, ct, hf, hd, hcd⟩ := F
  refine callWith_function (o := fo) (wpAny_mono (evalArgs_EL h S hp.or) (fun a s' ⟨hk, _, S', h'⟩ => ⟨⟨S'.keep _ _ hf, hd⟩, ?_⟩) fun _ _ e => e)
  rw [hk, List.nil_append]; exact h' a.pos rfl s' S'

theorem v_meth {o : Expr} {name : Str} {apos pos : Pos} {args : List Expr} (h : EV C A env o σ fun ov σ₁ => EM C A env name ov args σ₁ Q)
    (hbase : attributeBase o name env (eval o env) = eval o env := by exact rfl)
    (hfew : ((backTo pos (starEach args env)).all (fun x => !x.1) && (backToKw pos (keywordEach [] env)).all (fun x => x.1.isSome)
      && decide (args.length + ([] : List Keyword).length + (if ([] : List Keyword).isEmpty then 0 else 1) < 30)) = true := by exact rfl)
    (hline : (apos.endLine == pos.line) = true := by exact rfl) : EV C A env (.Call (.Attribute o name apos) args [] pos) σ Q := fun s S =>
  wpAny_Call_method_lateS hbase hfew hline (wpM (h s S) fun ov s₁ _ S₁ h₁ => h₁ ov pos rfl s₁ S₁)

theorem f_ord {c : Nat} {t : Tok} (h : Q (.int c 0) σ) : EC C A (.builtin "ord") [.str ⟨#[c]⟩ t] σ Q := fun us hus s S => by
  obtain ⟨a, rfl, ha⟩ := List.map_eq_singleton_iff.mp hus
  obtain ⟨u, rfl⟩ := er_str ha
  exact P.ord_of_char ⟨σ, S.toks _, h⟩
theorem f_chr {i : Int} {t : Tok} (h0 : 0 ≤ i) (h1 : i ≤ 1114111) (h : Q (.str ⟨#[i.toNat]⟩ 0) σ) : EC C A (.builtin "chr") [.int i t] σ Q := fun us hus s S => by
  obtain ⟨a, rfl, ha⟩ := List.map_eq_singleton_iff.mp hus
  obtain ⟨u, rfl⟩ := er_int ha
  exact P.chr_of_int (by simp; lia) ⟨σ, S.toks _, h⟩
end
end TIkCall2
section TIkFn
open PySem PySem.Calls PyProof.Rows
set_option maxRecDepth 4000
noncomputable def kindB (scope : Scope) (x : Str) : Bool := scope.names.lookup x == some .local || (scope.names.lookup x == some .cell && ((cellsFrom 0 scope.names []).map (·.1)).contains x)
noncomputable def nodupB : List Str → Bool
  | [] => true
  | a :: r => !r.contains a && nodupB r
theorem nodup_ofB : ∀ {l : List Str}, nodupB l = true → l.Nodup
  | [], _ => .nil
  | a :: r, h => by
    unfold nodupB at h
    rw [Bool.and_eq_true] at h
    rw [List.nodup_cons]
    exact ⟨fun m => by simp [m] at h, nodup_ofB h.2⟩
theorem lookup_isSome_of {l : List (Str × Addr)} {x : Str} (h : x ∈ l.map (·.1)) : (l.lookup x).isSome = true := by
  induction l with
  | nil => cases h
  | cons a r ih =>
    rw [List.lookup_cons]
    by_cases e : x = a.1
    · simp [e]
    · rw [beq_eq_false_iff_ne.mpr e]
      rw [List.map_cons, List.mem_cons] at h
      exact ih (h.resolve_left e)
theorem kind_of {scope : Scope} {l : List (Str × Value)} (h : l.all (fun x => kindB scope x.1) = true) (n : Addr) (x : Str × Value) (hx : x ∈ l) :
    scope.names.lookup x.1 = some .local ∨ (scope.names.lookup x.1 = some .cell ∧ ((cellsFrom n scope.names []).lookup x.1).isSome = true) := by
  have := List.all_eq_true.mp h x hx
  unfold kindB at this
  rw [Bool.or_eq_true, Bool.and_eq_true] at this
  refine this.imp (fun h => by simpa using h) fun ⟨h1, h2⟩ => ⟨by simpa using h1, lookup_isSome_of ?_⟩
  rw [← cellsFrom_names scope.names 0 n [] [] rfl]
  simpa using h2

section
variable {C : Cx} {A : Around} {σ : Asn} {f : Addr} {qual : Str} {params : Arguments} {body : List Stmt} {scope : Scope} {dV : Value} {vs : List Value} {l : List (Str × Value)} {Q : Value → Asn → Prop}
theorem c_def {ll : List (Str × Value)} {cs : Addr → Asn} (hlim : C.B.heap.NoLimit) (F : FnAt C f qual params body scope dV) (hroom : A.depth < recursionLimit) (hb : Binds C σ qual params body scope dV vs l)
    (h : ∀ L cdv, EX C (A.deeper (fenv qual scope L f cdv)) (fenv qual scope L f cdv) body ((L, ns ll) :: (cs L ++ σ)) fun fl σ' => ∃ τ : Asn, τ.Sublist σ' ∧ Q (retOf fl) τ)
    (hkind : l.all (fun x => kindB scope x.1) = true := by exact rfl)
    (hnd : nodupB ((cellsFrom 0 scope.names []).map (·.1)) = true := by exact rfl) (hll : locE scope.names l = ll := by exact rfl) (hcs : ∀ L, celE scope.names l L = cs L := by exact fun _ => rfl)
    (hk : scope.kind = .function := by exact rfl) (hco : scope.isCoroutine = false := by exact rfl) (hgen : scope.isGenerator = false := by exact rfl) : EC C A (.ref f) vs σ Q :=
  c_fn hlim F hroom hb (kind_of hkind) (nodup_ofB hnd) hll hcs h hk hco hgen

theorem binds1 {p : Str} {v : Value} (e : ∀ u name doc pm an cdv ct, bindArgs (PySem.W.fnX name qual params body scope [] dV .none doc pm an cdv ct) ⟨[u], []⟩ = pure [(p, u)] := by intros; rfl) : Binds C σ qual params body scope dV [v] [(p, v)] := fun us name doc pm an cdv ct hus s S => by
  obtain ⟨a, rfl, ha⟩ := List.map_eq_singleton_iff.mp hus
  exact ⟨[(p, a)], BindsTo.of_eq (e a ..), by simp [ha]⟩
theorem map2 {us : List Value} {v w : Value} (h : us.map er = [v, w]) : ∃ a b, us = [a, b] ∧ er a = v ∧ er b = w := by
  obtain ⟨a, us, rfl, ha, h⟩ := List.map_eq_cons_iff.mp h
  obtain ⟨b, us, rfl, hb, h⟩ := List.map_eq_cons_iff.mp h
  obtain rfl := List.map_eq_nil_iff.mp h
  exact ⟨a, b, rfl, ha, hb⟩
theorem map3 {us : List Value} {v w x : Value} (h : us.map er = [v, w, x]) : ∃ a b c, us = [a, b, c] ∧ er a = v ∧ er b = w ∧ er c = x := by
  obtain ⟨a, us, rfl, ha, h⟩ := List.map_eq_cons_iff.mp h
  obtain ⟨b, c, rfl, hb, hc⟩ := map2 h
  exact ⟨a, b, c, rfl, ha, hb, hc⟩
theorem map4 {us : List Value} {v w x y : Value} (h : us.map er = [v, w, x, y]) : ∃ a b c d, us = [a, b, c, d] ∧ er a = v ∧ er b = w ∧ er c = x ∧ er d = y := by
  obtain ⟨a, us, rfl, ha, h⟩ := List.map_eq_cons_iff.mp h
  obtain ⟨b, c, d, rfl, hb, hc, hd⟩ := map3 h
  exact ⟨a, b, c, d, rfl, ha, hb, hc, hd⟩
theorem binds2 {p q : Str} {v w : Value} (e : ∀ u u' name doc pm an cdv ct, bindArgs (PySem.W.fnX name qual params body scope [] dV .none doc pm an cdv ct) ⟨[u, u'], []⟩ = pure [(p, u), (q, u')] := by intros; rfl) : Binds C σ qual params body scope dV [v, w] [(p, v), (q, w)] := fun us name doc pm an cdv ct hus s S => by
  obtain ⟨a, b, rfl, ha, hb⟩ := map2 hus
  exact ⟨[(p, a), (q, b)], BindsTo.of_eq (e a b ..), by simp [ha, hb]⟩
theorem binds3 {p q r : Str} {v w x : Value} (e : ∀ u u' u'' name doc pm an cdv ct, bindArgs (PySem.W.fnX name qual params body scope [] dV .none doc pm an cdv ct) ⟨[u, u', u''], []⟩ = pure [(p, u), (q, u'), (r, u'')] := by intros; rfl) : Binds C σ qual params body scope dV [v, w, x] [(p, v), (q, w), (r, x)] := fun us name doc pm an cdv ct hus s S => by
  obtain ⟨a, b, c, rfl, ha, hb, hc⟩ := map3 hus
  exact ⟨[(p, a), (q, b), (r, c)], BindsTo.of_eq (e a b c ..), by simp [ha, hb, hc]⟩
theorem binds4 {p q r o : Str} {v w x y : Value} (e : ∀ u u' u'' u₃ name doc pm an cdv ct, bindArgs (PySem.W.fnX name qual params body scope [] dV .none doc pm an cdv ct) ⟨[u, u', u'', u₃], []⟩ = pure [(p, u), (q, u'), (r, u''), (o, u₃)] := by intros; rfl) : Binds C σ qual params body scope dV [v, w, x, y] [(p, v), (q, w), (r, x), (o, y)] := fun us name doc pm an cdv ct hus s S => by
  obtain ⟨a, b, c, d, rfl, ha, hb, hc, hd⟩ := map4 hus
  exact ⟨[(p, a), (q, b), (r, c), (o, d)], BindsTo.of_eq (e a b c d ..), by simp [ha, hb, hc, hd]⟩
theorem binds2d {T : Addr} {xs : List Value} {p q r : Str} {v w x : Value} (hT : At C.B.heap T (tup xs)) (hx : xs[1]? = some x) (h2 : xs.length = 2)
    (e : ∀ u u' name doc pm an cdv ct, ∃ k, bindArgs (PySem.W.fnX name qual params body scope [] (.ref T) .none doc pm an cdv ct) ⟨[u, u'], []⟩ = seqItems? (.ref T) >>= k ∧ ∀ d₀ d₁, k (some #[d₀, d₁]) = pure [(p, u), (q, u'), (r, d₁)] := by intros; exact ⟨_, rfl, fun _ _ => rfl⟩) : Binds C σ qual params body scope (.ref T) [v, w] [(p, v), (q, w), (r, x)] := fun us name doc pm an cdv ct hus s S => by
  obtain ⟨a, b, rfl, ha, hb⟩ := map2 hus
  obtain ⟨items, n, hp, he⟩ := tup_of (S.has (.inr hT))
  have hsz := map_size he
  rw [h2] at hsz
  obtain ⟨d₁, hd, hd'⟩ := map_get he hx
  have hi : ∃ d₀, items = #[d₀, d₁] := by
    have h0 : 0 < items.size := by lia
    refine ⟨items[0], ?_⟩
    apply Array.ext
    · simpa using hsz
    · intro i h1 h2
      have : i = 0 ∨ i = 1 := by lia
      rcases this with rfl | rfl
      · rfl
      · have := (Array.getElem?_eq_some_iff.mp hd).2
        simpa using this
  obtain ⟨d₀, rfl⟩ := hi
  obtain ⟨k, e1, e2⟩ := e a b name doc pm an cdv ct
  exact ⟨[(p, a), (q, b), (r, d₁)], BindsTo.of_defaults rfl hp rfl e1 (e2 d₀ d₁), by simp [ha, hb, hd']⟩
theorem binds1d {T : Addr} {p r : Str} {v x : Value} (hT : At C.B.heap T (tup [x]))
    (e : ∀ u name doc pm an cdv ct, ∃ k, bindArgs (PySem.W.fnX name qual params body scope [] (.ref T) .none doc pm an cdv ct) ⟨[u], []⟩ = seqItems? (.ref T) >>= k ∧ ∀ d₁, k (some #[d₁]) = pure [(p, u), (r, d₁)] := by intros; exact ⟨_, rfl, fun _ => rfl⟩) : Binds C σ qual params body scope (.ref T) [v] [(p, v), (r, x)] := fun us name doc pm an cdv ct hus s S => by
  obtain ⟨a, rfl, ha⟩ := List.map_eq_singleton_iff.mp hus
  obtain ⟨items, n, hp, he⟩ := tup_of (S.has (.inr hT))
  obtain ⟨d, hd, hd'⟩ := List.map_eq_singleton_iff.mp he
  have : items = #[d] := by cases items; simp at hd; simp [hd]
  subst this
  obtain ⟨k, e1, e2⟩ := e a name doc pm an cdv ct
  exact ⟨[(p, a), (r, d)], BindsTo.of_defaults rfl hp rfl e1 (e2 d), by simp [ha, hd']⟩
end
end TIkFn
section TIkLoop
open PySem PySem.Calls PyProof.Rows
set_option maxRecDepth 4000
inductive Pick (a : Addr) (r : Res) : Asn → Asn → Prop
  | here {σ : Asn} : Pick a r ((a, r) :: σ) σ
  | there {p : Addr × Res} {σ σ' : Asn} : Pick a r σ σ' → Pick a r (p :: σ) (p :: σ')
theorem Pick.perm {a : Addr} {r : Res} {σ σ' : Asn} (u : Pick a r σ σ') : σ.Perm ((a, r) :: σ') := by
  induction u with
  | here => exact .refl _
  | there p ih => exact (ih.cons _).trans (.swap ..)
inductive Wk : Asn → Asn → Prop
  | refl {σ : Asn} : Wk σ σ
  | drop {p : Addr × Res} {σ τ : Asn} : Wk σ τ → Wk (p :: σ) τ
  | keep {a : Addr} {r r' : Res} {σ σ' τ : Asn} : Pick a r σ σ' → (∀ o, r o → r' o) → Wk σ' τ → Wk σ ((a, r') :: τ)
theorem Wk.keys {σ τ : Asn} (w : Wk σ τ) : ∃ ρ, (σ.map (·.1)).Perm (τ.map (·.1) ++ ρ) := by
  induction w with
  | refl => exact ⟨[], by simp⟩
  | @drop p σ τ _ ih =>
    obtain ⟨ρ, h⟩ := ih
    refine ⟨p.1 :: ρ, ?_⟩
    rw [List.map_cons]
    exact (h.cons _).trans List.perm_middle.symm
  | keep p _ _ ih =>
    obtain ⟨ρ, h⟩ := ih
    exact ⟨ρ, (p.perm.map (·.1)).trans (by rw [List.map_cons, List.map_cons]; exact h.cons _)⟩
theorem Wk.own {σ τ : Asn} (w : Wk σ τ) : ∀ p ∈ τ, ∃ q ∈ σ, q.1 = p.1 ∧ ∀ o, q.2 o → p.2 o := by
  induction w with
  | refl => exact fun p hp => ⟨p, hp, rfl, fun _ => id⟩
  | drop _ ih => exact fun p hp => let ⟨q, h, e⟩ := ih p hp; ⟨q, .tail _ h, e⟩
  | @keep a r r' σ σ' τ pk f _ ih =>
    intro p hp
    rcases List.mem_cons.mp hp with rfl | hp
    · exact ⟨(a, r), pk.perm.mem_iff.mpr (.head _), rfl, f⟩
    · obtain ⟨q, h, e⟩ := ih p hp
      exact ⟨q, pk.perm.mem_iff.mpr (.tail _ h), e⟩
theorem St.wk {C : Cx} {σ τ : Asn} {s : Shared} (S : St C σ s) (w : Wk σ τ) : St C τ s := by
  refine ⟨S.drawn, S.os, S.gens, S.keep, ?_, fun p hp => ?_, fun p hp => ?_⟩
  · obtain ⟨ρ, h⟩ := w.keys
    exact (List.nodup_append.mp (h.nodup_iff.mp S.nodup)).1
  · obtain ⟨q, h, e, f⟩ := w.own p hp
    obtain ⟨o, ho, hr⟩ := S.own q h
    exact ⟨o, e ▸ ho, f o hr⟩
  · obtain ⟨q, h, e, _⟩ := w.own p hp
    exact e ▸ S.new q h
theorem EW.wk {C : Cx} {A : Around} {α : Type} {t : Sem α} {σ τ : Asn} {Q : α → Asn → Prop} (h : EW C A t τ Q) (w : Wk σ τ) : EW C A t σ Q := fun s S => h s (S.wk w)
theorem Wk.trans' {C : Cx} {σ τ ρ : Asn} {s : Shared} (w : Wk σ τ) (w' : Wk τ ρ) (S : St C σ s) : St C ρ s := (S.wk w).wk w'

inductive Sel (l : List (Str × Value)) : List (Str × Value) → Prop
  | nil : Sel l []
  | cons {x : Str} {v : Value} {r : List (Str × Value)} : l.lookup x = some v → Sel l r → Sel l ((x, v) :: r)
theorem Sel.lookup {l r : List (Str × Value)} (h : Sel l r) : ∀ x v, r.lookup x = some v → l.lookup x = some v := by
  induction h with
  | nil => intro x v e; cases e
  | @cons y w r hl _ ih =>
    intro x v e
    rw [List.lookup_cons] at e
    by_cases hx : x = y
    · subst hx; simp only [beq_self_eq_true] at e; cases e; exact hl
    · rw [beq_eq_false_iff_ne.mpr hx] at e; exact ih x v e
theorem ns_wk {l r : List (Str × Value)} (h : Sel l r) : ∀ o, ns l o → ns r o := fun o ⟨es, ep, m, h1, h2, h3, h4⟩ => ⟨es, ep, m, h1, h2, h3, fun x v e => h4 x v (h.lookup x v e)⟩

noncomputable def PI (C : Cx) (A : Around) (x : Value) (σ : Asn) (Q : Value → Asn → Prop) : Prop := ∀ u, er u = x → EW C A (pyIter u) σ fun v σ' => Q (er v) σ'
noncomputable def NX (C : Cx) (A : Around) (it : Value) (σ : Asn) (Q : Option Value → Asn → Prop) : Prop := ∀ u, er u = it → EW C A (pyNext u) σ fun v σ' => Q (v.map er) σ'
noncomputable def AS (C : Cx) (A : Around) (env : Env) (t : Expr) (v : Value) (σ : Asn) (Q : Asn → Prop) : Prop := ∀ u, er u = v → EW C A (assign t env u) σ fun _ σ' => Q σ'
noncomputable def AL (C : Cx) (A : Around) (env : Env) (ts : List Expr) (vs : List Value) (σ : Asn) (Q : Asn → Prop) : Prop := ∀ us, us.map er = vs → EW C A (assignInOrder ((assignEach ts env).map (·.2)) us) σ fun _ σ' => Q σ'

structure Iter (C : Cx) (it : Value) (vs : List Value) (R : Nat → Asn) (cond : Asn → Prop) : Prop where
  self : ∀ A σ Q, Q it (R 0 ++ σ) → PI C A it (R 0 ++ σ) Q
  next : ∀ A i v σ Q, cond σ → vs[i]? = some v → Q (some v) (R (i + 1) ++ σ) → NX C A it (R i ++ σ) Q
  stop : ∀ A σ Q, A.handled = none → cond σ → Q none σ → NX C A it (R vs.length ++ σ) Q
  go : ∀ A ts k p i v σ s, St C (R i ++ σ) s → ∀ u w, er u = it → er w = v → vs[i - 1]? = some v → ∀ Q : Shared → Prop, Q s → wpAny (model C.prog C.w) A (letOwnedTupleGo (.Tuple ts k p) u w) (fun _ => Q) (fun _ _ => False) s

section
variable {C : Cx} {A : Around} {env : Env} {σ : Asn}

theorem pi_list {l : Addr} {xs : List Value} {Q : Value → Asn → Prop} (hl : Has C σ l (lst xs)) (h : ∀ it, Q (.ref it) ((it, lit l 0) :: σ)) : PI C A (.ref l) σ Q := fun u hu s S => by
  obtain rfl := er_ref hu
  obtain ⟨items, hp, e⟩ := lst_of (S.has hl)
  refine wpAny_pyIter_list hp.isList ⟨_, ?_, h s.heap.objs.size⟩
  refine St.alloc (tk := s.toks) S ?_ ⟨_, Heap.get?_push_size _ rfl, rfl, rfl⟩ fun b o hb => Heap.get?_push_of_some _ hb
  exact Heap.get?_none_of_le (Nat.le_refl _)
theorem iter_list {it l : Addr} {xs : List Value} (hne : ∀ v ∈ xs, True := by exact fun _ _ => trivial) : Iter C (.ref it) xs (fun i => [(it, lit l i)]) (fun σ => Has C σ l (lst xs)) where
  self A σ Q h u hu s S := by
    obtain rfl := er_ref hu
    exact wpAny_pyIter_listiter (lit_of (S.get (.head _))) ⟨_, S, h⟩
  next A i v σ Q hc hv h u hu s S := by
    obtain rfl := er_ref hu
    obtain ⟨items, hp, e⟩ := lst_of (S.has (hc.imp (fun h => .tail _ h) id))
    obtain ⟨w, hw, rfl⟩ := map_get e hv
    exact wpAny_pyNext_list_item (lit_of (S.get (.head _))) hp.isList hw fun h' hi hs => ⟨_, S.set (tk := s.toks) .here (lit_at hi) fun b o hb ho => hs.extBut b o hb ho, h⟩
  stop A σ Q hh hc h u hu s S := by
    obtain rfl := er_ref hu
    obtain ⟨items, hp, e⟩ := lst_of (S.has (hc.imp (fun h => .tail _ h) id))
    refine wpAny_pyNext_list_end hh (lit_of (S.get (.head _))) hp.isList ?_ fun h' hs => ⟨σ, ?_, h⟩
    · rw [Array.getElem?_eq_none_iff, map_size e]; exact Nat.le_refl _
    · have S' := S.sub (σ' := σ) (List.sublist_cons_self ..)
      have hn : ∀ p ∈ σ, p.1 ≠ it := fun p hp q => by
        have := S.nodup
        simp only [List.singleton_append, List.map_cons, List.nodup_cons] at this
        exact this.1 (List.mem_map.mpr ⟨p, hp, q⟩)
      refine ⟨S.drawn, S.os, S.gens, fun b o e => hs b o (fun q => ?_) (S.keep b o e), S'.nodup, fun p hp => (S'.own p hp).keep fun o e => hs p.1 o (hn p hp) e, S'.new⟩
      have := S.new (it, lit l xs.length) (.head _)
      rw [← q] at this
      rw [show C.B.heap.get? b = none from this] at e; cases e
  go A ts k p i v σ s S u w hu hw hv Q hq := by
    obtain rfl := er_ref hu
    have hit := lit_of (S.get (.head _))
    cases w with
    | ref T => exact wpAny_letOwnedTupleGo_listiter hit hq
    | _ => exact wpAny_pure hq

theorem as_name {x : Str} {p : Pos} {v : Value} {Q : Asn → Prop} (h : EN C A env x v σ Q) : AS C A env (.Name x p) v σ Q := fun u hu s S => wpAny_assign_Name (h u hu s S)
theorem al_nil {Q : Asn → Prop} (h : Q σ) : AL C A env [] [] σ Q := fun us hus s S => by
  obtain rfl := List.map_eq_nil_iff.mp hus
  exact wpAny_assignInOrder_none ⟨σ, S, h⟩
theorem al_cons {x : Str} {p : Pos} {v : Value} {ts : List Expr} {vs : List Value} {Q : Asn → Prop} (h : EN C A env x v σ fun σ' => AL C A env ts vs σ' Q) : AL C A env (.Name x p :: ts) (v :: vs) σ Q := fun us hus s S => by
  obtain ⟨u, us, rfl, hu, hus⟩ := List.map_eq_cons_iff.mp hus
  exact wpAny_assignInOrder_more (wpM (wpAny_assign_Name (h u hu s S)) fun _ s' _ S' h' => h' us hus s' S')
theorem as_tuple {t : Addr} {xs : List Value} {ts : List Expr} {k : Nat} {p : Pos} {Q : Asn → Prop} (hh : A.handled = none) (ht : Has C σ t (tup xs)) (hn : (assignEach ts env).length = xs.length) (hs : (assignEach ts env).findIdx? (·.1) = none)
    (h : AL C A env ts xs σ Q) : AS C A env (.Tuple ts k p) (.ref t) σ Q := fun u hu s S => by
  obtain rfl := er_ref hu
  obtain ⟨items, n, hp, e⟩ := tup_of (S.has ht)
  refine wpAny_assign_Tuple hh ⟨_, hp, rfl, n, rfl⟩ (by rw [hn, map_size e]) hs fun h' hx => ?_
  exact h items.toList e _ (S.grow (tk := s.toks) fun b o hb => hx b o (Nat.ne_of_lt (Heap.lt_size hb)) hb)

inductive WhN (σ : Asn) (n : Nat) (I : Nat → Asn → Prop) : Prop
  | mk (τ : Asn) (m : Nat) (w : Wk σ τ) (hm : m < n) (hi : I m τ)
noncomputable abbrev WhQ (I : Nat → Asn → Prop) (n : Nat) (Q : Flow → Asn → Prop) : Flow → Asn → Prop := fun f σ => match f with
  | .next | .cont => WhN σ n I
  | .brk => Q .next σ
  | .ret v => Q (.ret v) σ
noncomputable abbrev WhT (C : Cx) (A : Around) (env : Env) (body : List Stmt) (K Q : Flow → Asn → Prop) : Bool → Asn → Prop := fun b σ' => if b then EX C A env body σ' K else Q .next σ'
inductive RetN (Q : Value → Asn → Prop) (v : Value) (σ : Asn) : Prop
  | mk (τ : Asn) (w : Wk σ τ) (h : Q v τ)
noncomputable abbrev RetK (Q : Value → Asn → Prop) : Flow → Asn → Prop := fun fl σ => RetN Q (retOf fl) σ
theorem s_while {test : Expr} {body : List Stmt} {pos : Pos} {Q : Flow → Asn → Prop} (I : Nat → Asn → Prop) (n : Nat) {τ : Asn} (w : Wk σ τ) (h0 : I n τ)
    (h : ∀ n σ, I n σ → ∀ K : Flow → Asn → Prop, (∀ f σ', WhQ I n Q f σ' → K f σ') → ET C A env test σ (WhT C A env body K Q)) : ES C A env (.While test body [] pos) σ Q := fun s S => by
  refine wpAny_While (codeAny_whileLoop (I := fun n s => ∃ τ, St C τ s ∧ I n τ) ?_ n ⟨τ, S.wk w, h0⟩)
  intro n s ⟨τ, S, hi⟩
  refine wpM (h n τ hi _ (fun _ _ h => h) s S) fun b s' σ' S' hq => ?_
  cases b with
  | false =>
    exact wpAny_execs_nil ⟨σ', S', hq⟩
  | true =>
    refine wpM (hq s' S') fun f s'' σ'' S'' hf => ?_
    cases f with
    | next => obtain ⟨τ, m, w, hm, hi⟩ := hf; exact ⟨m, hm, τ, S''.wk w, hi⟩
    | cont => obtain ⟨τ, m, w, hm, hi⟩ := hf; exact ⟨m, hm, τ, S''.wk w, hi⟩
    | brk => exact ⟨σ'', S'', hf⟩
    | ret v => exact ⟨σ'', S'', hf⟩

inductive ForN (σ : Asn) (R : Nat → Asn) (J : Nat → Asn → Prop) (i : Nat) : Prop
  | mk (τ : Asn) (w : Wk σ (R i ++ τ)) (hj : J i τ)
noncomputable abbrev ForQ (R : Nat → Asn) (J : Nat → Asn → Prop) (i : Nat) (Q : Flow → Asn → Prop) : Flow → Asn → Prop := fun f σ => match f with
  | .next | .cont => ForN σ R J i
  | .brk => Q .next σ
  | .ret v => Q (.ret v) σ
inductive ForP (C : Cx) (A : Around) (env : Env) (target : Expr) (body : List Stmt) (Q : Flow → Asn → Prop) (it : Value) (σ : Asn) : Prop
  | mk (vs : List Value) (R : Nat → Asn) (cond : Asn → Prop) (hit : Iter C it vs R cond) (J : Nat → Asn → Prop) (h0 : ForN σ R J 0) (hc : ∀ i σ, J i σ → cond σ)
      (hstep : ∀ i v σ₃, vs[i]? = some v → J i σ₃ → ∀ K : Flow → Asn → Prop, (∀ f σ', ForQ R J (i + 1) Q f σ' → K f σ') → AS C A env target v (R (i + 1) ++ σ₃) fun σ₄ => EX C A env body σ₄ K)
      (hend : ∀ σ₃, J vs.length σ₃ → Q .next σ₃)
noncomputable abbrev ForI (C : Cx) (A : Around) (env : Env) (target : Expr) (body : List Stmt) (Q : Flow → Asn → Prop) : Value → Asn → Prop := fun x σ₁ => PI C A x σ₁ (ForP C A env target body Q)
theorem s_for {target iter : Expr} {body : List Stmt} {pos : Pos} {Q : Flow → Asn → Prop} (hh : A.handled = none) 
    (h : EV C A env iter σ (ForI C A env target body Q))
    (hs : ∀ x, foldedSetIterable iter env x = pure x := by exact fun _ => rfl) (ht : (∀ it v, letOwnedTupleGo target it v = pure ()) ∨ ∃ ts k p, target = .Tuple ts k p := by exact .inl fun _ _ => rfl) : ES C A env (.For target iter body [] pos) σ Q := fun s S => by
  refine wpAny_For (wpM (h s S) fun x s₁ σ₁ S₁ h₁ => wpAny_mono (h₁ x rfl s₁ S₁) (fun it s₂ hz => ?_) fun _ _ e => e) hs
  obtain ⟨σ₂, S₂, vs, R, cond, hit, J, ⟨σ₃, w, h0⟩, hc, hstep, hend⟩ := hz
  refine codeAny_forLoop_any (I := fun n s => ∃ i σ, n + i = vs.length ∧ St C (R i ++ σ) s ∧ J i σ) ?_ vs.length ⟨0, σ₃, by simp, S₂.wk w, h0⟩
  intro n s ⟨i, σ, hn, S, hj⟩
  by_cases hi : i = vs.length
  · subst hi
    refine wpAny_mono (hit.stop A σ (fun r σ' => r = none ∧ Q .next σ') hh (hc _ _ hj) ⟨rfl, hend _ hj⟩ it rfl s S) (fun r s' hz => ?_) fun _ _ e => e.elim
    obtain ⟨σ', S', hr, hq⟩ := hz
    cases r with
    | none => exact wpAny_execs_nil ⟨σ', S', hq⟩
    | some r => cases hr
  · have hlt : i < vs.length := by omega
    refine wpAny_mono (hit.next A i vs[i] σ (fun r σ' => r = some vs[i] ∧ σ' = R (i + 1) ++ σ) (hc _ _ hj) (List.getElem?_eq_getElem hlt) ⟨rfl, rfl⟩ it rfl s S) (fun r s' ⟨σ', S', hr, hq⟩ => ?_) fun _ _ e => e.elim
    subst hq
    cases r with
    | none => cases hr
    | some v =>
      have hv : er v = vs[i] := by simpa using hr
      have fin : ∀ s', St C (R (i + 1) ++ σ) s' → wpAny (model C.prog C.w) A (assign target env v) (fun _ s₂ => wpAny (model C.prog C.w) A (execs body env) (fun f s₃ => match f with
          | .next | .cont => ∃ m, m < n ∧ ∃ i σ, m + i = vs.length ∧ St C (R i ++ σ) s₃ ∧ J i σ
          | .brk => ∃ σ', St C σ' s₃ ∧ Q (erF .next) σ'
          | .ret v => ∃ σ', St C σ' s₃ ∧ Q (erF (.ret v)) σ') (fun _ _ => False) s₂) (fun _ _ => False) s' := fun s' S' => by
        refine wpM (hstep i vs[i] σ (List.getElem?_eq_getElem hlt) hj _ (fun _ _ h => h) v hv s' S') fun _ s₂ σ₄ S₄ h₄ => wpM (h₄ s₂ S₄) fun f s₃ σ₅ S₅ h₅ => ?_
        cases f with
        | next => obtain ⟨τ, w, hj'⟩ := h₅; exact ⟨n - 1, by omega, i + 1, τ, by omega, S₅.wk w, hj'⟩
        | cont => obtain ⟨τ, w, hj'⟩ := h₅; exact ⟨n - 1, by omega, i + 1, τ, by omega, S₅.wk w, hj'⟩
        | brk => exact ⟨σ₅, S₅, h₅⟩
        | ret v => exact ⟨σ₅, S₅, h₅⟩
      have up : ∀ s', St C (R (i + 1) ++ σ) s' → wpAny (model C.prog C.w) A (assign target env v) (fun _ s₂ => wpAny (model C.prog C.w) A (execs body env) (fun f s₃ => match f with
          | .next | .cont => ∃ m, m < n ∧ ∃ i σ, m + i = vs.length ∧ St C (R i ++ σ) s₃ ∧ J i σ
          | .brk => ∃ σ', St C σ' s₃ ∧ Q (erF .next) σ'
          | .ret v => ∃ σ', St C σ' s₃ ∧ Q (erF (.ret v)) σ') (notedBy (model C.prog C.w) A env fun e s' => cameBackBy (model C.prog C.w) A env (fun _ _ => False) e s') s₂) (notedBy (model C.prog C.w) A env fun e s' => cameBackBy (model C.prog C.w) A env (fun _ _ => False) e s') s' :=
        fun s' S' => wpAny_mono (fin s' S') (fun _ _ h => wpAny_mono h (fun _ _ h => h) fun _ _ e => e.elim) fun _ _ e => e.elim
      rcases ht with ht | ⟨ts, k, p, rfl⟩
      · refine wpAny_of_eq (ht it v) (wpAny_mono (up s' S') (fun _ _ h => wpAny_mono h (fun f _ h => ?_) fun _ _ e => e) fun _ _ e => e)
        cases f <;> exact h
      · refine wpAny_mono (hit.go A ts k p (i + 1) vs[i] σ s' S' it v rfl hv (by simp [hlt]) (fun x => x = s') rfl) (fun _ s'' e => ?_) fun _ _ e => e.elim
        subst e
        refine wpAny_mono (up s'' S') (fun _ _ h => wpAny_mono h (fun f _ h => ?_) fun _ _ e => e) fun _ _ e => e
        cases f <;> exact h
end
end TIkLoop
section TIkComp
open PySem PySem.Calls PyProof.Rows
set_option maxRecDepth 4000
theorem compLoop_any {prog : Program} {w : World} {A : Around} {R : Result → Shared → Prop} {s : Shared} {elt target iter : Expr} {ifs : List Expr} {scope : Scope} {pos : Pos} {it acc : Value} {env : Env} (I : Nat → Shared → Prop)
    (turn : ∀ n s, I n s → wpAny (model prog w) A (pyNext it) (fun r s₁ => match r with
      | none => R (.ok .next) s₁
      | some v => wpAny (model prog w) A (letOwnedTupleGo target it v) (fun _ s₁' => wpAny (model prog w) A (assign target env v) (fun _ s₂ =>
          wpAny (model prog w) A (forIn ifs true fun c r => if r = true then do let ok ← isTrue c env (eval c env); pure (ForInStep.yield ok) else pure (ForInStep.yield r)) (fun ok s₃ =>
            if ok = true then wpAny (model prog w) A (eval elt env) (fun x s₄ =>
              wpAny (model prog w) A (call (.builtin "list.append") [acc, x]) (fun _ s₅ => ∃ m, m < n ∧ I m s₅) (fun _ _ => False) s₄) (fun _ _ => False) s₃
            else ∃ m, m < n ∧ I m s₃) (fun _ _ => False) s₂) (fun _ _ => False) s₁') (fun _ _ => False) s₁) (fun _ _ => False) s)
    (n : Nat) (h : I n s) : codeAny (model prog w) A (.compLoop (.ListComp elt [⟨target, iter, ifs, 0⟩] scope pos) 0 it acc env) R s := by
  refine codeAny_loop rfl I (fun n s hI => ?_) n h
  show wpAny _ A ((compTurn (.ListComp elt [⟨target, iter, ifs, 0⟩] scope pos) 0 it acc env).onRaise (fun x => do noteFrame x env; theTreesLotGoes x)) _ _ s
  refine wpAny_noted ?_
  rw [compTurn_list]
  refine wpAny_bind (wpAny_standAt (wpAny_bind (wpAny_mono (turn n s hI) (fun r s₁ h₁ => ?_) fun _ _ h' => h'.elim)))
  cases r with
  | none => exact wpAny_pure h₁
  | some v =>
    refine wpAny_bind (wpAny_mono h₁ (fun _ s₁' h₁' => wpAny_bind (wpAny_mono h₁' (fun _ s₂ h₂ => wpAny_bind (wpAny_mono h₂ (fun ok s₃ h₃ => ?_) fun _ _ h' => h'.elim)) fun _ _ h' => h'.elim)) fun _ _ h' => h'.elim)
    cases ok with
    | false => exact wpAny_pure ⟨rfl, h₃⟩
    | true =>
      exact wpAny_bind (wpAny_bind (wpAny_mono h₃ (fun x s₄ h₄ => wpAny_bind (wpAny_mono h₄ (fun _ s₅ h₅ => wpAny_pure (wpAny_pure ⟨rfl, h₅⟩)) fun _ _ h' => h'.elim)) fun _ _ h' => h'.elim))

noncomputable def TS (C : Cx) (A : Around) (env : Env) (ifs : List Expr) (σ : Asn) (Q : Bool → Asn → Prop) : Prop :=
  EW C A (forIn ifs true fun c r => if r = true then do let ok ← isTrue c env (eval c env); pure (ForInStep.yield ok) else pure (ForInStep.yield r)) σ Q

section
variable {C : Cx} {A : Around} {env : Env} {σ : Asn}
theorem ts_nil {Q : Bool → Asn → Prop} (h : Q true σ) : TS C A env [] σ Q := fun s S => wpAny_tests_nil ⟨σ, S, h⟩
theorem ts_one {c : Expr} {Q : Bool → Asn → Prop} (h : ET C A env c σ Q) : TS C A env [c] σ Q := fun s S => wpAny_tests_one (h s S)

theorem Up.app {a : Addr} {r r' : Res} {σ' : Asn} : ∀ (ρ : Asn), Up a r r' σ σ' → Up a r r' (ρ ++ σ) (ρ ++ σ')
  | [], u => u
  | _ :: ρ, u => .there (Up.app ρ u)
theorem closure_of {scope : Scope} {cl : List (Str × Addr)} (e : closureFor scope env = pure cl) : closureFor scope env = pure cl := e

inductive CompN (σ : Asn) (R : Nat → Asn) (J : Nat → List Value → Asn → Prop) (L D : Addr) (ys : List Value) (i : Nat) (zs : List Value) : Prop
  | mk (τ : Asn) (w : Wk σ (R i ++ (L, ns []) :: (D, lst ys) :: τ)) (hj : J i zs τ)
inductive CompH (σ : Asn) (R : Nat → Asn) (J : Nat → List Value → Asn → Prop) : Prop
  | mk (τ : Asn) (w : Wk σ (R 0 ++ τ)) (hj : J 0 [] τ)
inductive CompP (C : Cx) (A : Around) (env : Env) (scope : Scope) (cl : List (Str × Addr)) (target elt : Expr) (ifs : List Expr) (E : List Value → Asn → Addr → Addr → Prop) (it : Value) (σ : Asn) : Prop
  | mk (vs : List Value) (R : Nat → Asn) (cond : Asn → Prop) (hit : Iter C it vs R cond) (J : Nat → List Value → Asn → Prop) (h0 : CompH σ R J)
      (hc : ∀ i ys σ p q, i ≤ vs.length → J i ys σ → cond (p :: q :: σ) ∧ ys.length ≤ sizeLine)
      (hstep : ∀ i v ys σ₃ D L, vs[i]? = some v → J i ys σ₃ → ∀ (K : Value → Asn → Prop) (K' : Asn → Prop), (∀ y σ, CompN σ R J L D ys (i + 1) (ys ++ [y]) → K y σ) → (∀ σ, CompN σ R J L D ys (i + 1) ys → K' σ) →
        AS C A (compEnvC scope cl L env) target v (R (i + 1) ++ (L, ns []) :: (D, lst ys) :: σ₃) fun σ₄ => TS C A (compEnvC scope cl L env) ifs σ₄ fun b σ₅ => if b = true then EV C A (compEnvC scope cl L env) elt σ₅ K else K' σ₅)
      (hend : ∀ ys σ₃ D L, J vs.length ys σ₃ → E ys σ₃ D L)
noncomputable abbrev CompI (C : Cx) (A : Around) (env : Env) (scope : Scope) (cl : List (Str × Addr)) (target elt : Expr) (ifs : List Expr) (E : List Value → Asn → Addr → Addr → Prop) : Value → Asn → Prop := fun x σ₁ => PI C A x σ₁ (CompP C A env scope cl target elt ifs E)
theorem comp_core {elt target iter : Expr} {ifs : List Expr} {scope : Scope} {pos ip : Pos} {use : Option (Value → Sem Unit)} {Q' : Value → Shared → Prop} {s : Shared} (S : St C σ s) (cl : List (Str × Addr)) (hh : A.handled = none)
    (h : EV C A env iter σ (CompI C A env scope cl target elt ifs (fun ys σ₃ D L => ∀ s', St C ((L, ns []) :: (D, lst ys) :: σ₃) s' → compPost (model C.prog C.w) A (fun _ _ => False) use Q' (.ref D) L (.ok .next) s')))
    (hcl : closureFor scope env = pure cl) (hs : ∀ x, foldedSetIterable iter env x = pure x) (hk : scope.kind = .function)
    (hn : scope.names.all (fun x => x.2 != .cell && (x.2 != .local || scope.names.lookup x.1 == some .local)) = true)
    (ht : (∀ it v, letOwnedTupleGo target it v = pure ()) ∨ ∃ ts k p, target = .Tuple ts k p) :
    wpAny (model C.prog C.w) A (comprehension (.ListComp elt [⟨target, iter, ifs, 0⟩] scope pos) scope env ip (newList []) false (eval iter env) use) Q' (fun _ _ => False) s := by
  have hn' := List.all_eq_true.mp hn
  refine wpAny_comprehension_free (gs := []) rfl hs hcl hk (fun x hx hl => ?_) (wpM (h s S) fun x s₁ σ₁ S₁ h₁ => wpAny_mono (h₁ x rfl s₁ S₁) (fun it s₂ ⟨σ₂, S₂, vs, R, cond, hit, J, ⟨σ₃, w, h0⟩, hc, hstep, hend⟩ => ?_) fun _ _ e => e)
  · have := hn' x hx
    rw [hl] at this
    simpa using this
  refine wpAny_newList ?_ (by show 0 ≤ _; exact Nat.zero_le _)
  refine wpAny_newFunctionEnv (fun x hx e => ?_) (fun x hx => by cases hx) (fun h' hns hsb => ?_) hk
  · have := hn' x hx
    rw [e] at this
    simp at this
  show codeAny (model C.prog C.w) A (.compStart _ 0 it (.ref s₂.heap.objs.size) (compEnvC scope cl (s₂.heap.push { cls := .type "list", data := .seq [].toArray }).objs.size env)) _ _
  have S₃ : St C ((s₂.heap.objs.size, lst []) :: (R 0 ++ σ₃)) { s₂ with heap := s₂.heap.push { cls := .type "list", data := .seq [].toArray } } := by
    refine St.alloc (tk := s₂.toks) (S₂.wk w) (Heap.get?_none_of_le (Nat.le_refl _)) ⟨_, Heap.get?_push_size _ rfl, #[], _, rfl, rfl⟩ fun b o hb => Heap.get?_push_of_some _ hb
  have S₄ : St C (((s₂.heap.push { cls := .type "list", data := .seq [].toArray }).objs.size, ns []) :: (s₂.heap.objs.size, lst []) :: (R 0 ++ σ₃)) { s₂ with heap := h', toks := s₂.toks + 0 } := by
    refine St.alloc (s := { s₂ with heap := s₂.heap.push { cls := .type "list", data := .seq [].toArray } }) (tk := s₂.toks + 0) S₃ (Heap.get?_none_of_le (Nat.le_refl _)) (ns_at hns fun x v e => by cases e) fun b o hb => ?_
    rw [hsb.2 b (Nat.ne_of_lt (Heap.lt_size hb))]
    exact Heap.get?_push_of_some _ hb
  generalize hs3 : ({ s₂ with heap := h', toks := s₂.toks + 0 } : Shared) = s₅ at S₄ ⊢
  generalize s₂.heap.objs.size = D at S₄ ⊢
  generalize (s₂.heap.push { cls := .type "list", data := .seq [].toArray }).objs.size = L at S₄ ⊢
  have S₆ : St C (R 0 ++ (L, ns []) :: (D, lst []) :: σ₃) s₅ := by
    exact S₄.perm (((List.perm_middle (a := (D, lst [])) (l₁ := R 0) (l₂ := σ₃)).symm.cons (L, ns [])).trans (List.perm_middle (a := (L, ns [])) (l₁ := R 0) (l₂ := (D, lst []) :: σ₃)).symm)
  have key : ∀ itv, er itv = er it → ∀ s, St C (R 0 ++ (L, ns []) :: (D, lst []) :: σ₃) s → codeAny (model C.prog C.w) A (.compLoop (.ListComp elt [⟨target, iter, ifs, 0⟩] scope pos) 0 itv (.ref D) (compEnvC scope cl L env))
      (compPost (model C.prog C.w) A (fun _ _ => False) use Q' (.ref D) L) s := fun itv hitv s S => by
    refine compLoop_any (I := fun n s => ∃ i ys τ, n + i = vs.length ∧ St C (R i ++ (L, ns []) :: (D, lst ys) :: τ) s ∧ J i ys τ) ?_ vs.length ⟨0, [], σ₃, by simp, S, h0⟩
    intro n s ⟨i, ys, τ, hni, S, hj⟩
    by_cases hi : i = vs.length
    · subst hi
      refine wpAny_mono (hit.stop A ((L, ns []) :: (D, lst ys) :: τ) (fun r σ' => r = none ∧ σ' = (L, ns []) :: (D, lst ys) :: τ) hh (hc _ _ _ _ _ (Nat.le_refl _) hj).1 ⟨rfl, rfl⟩ itv hitv s S) (fun r s' hz => ?_) fun _ _ e => e.elim
      obtain ⟨σ', S', hr, hq⟩ := hz
      subst hq
      cases r with
      | some r => cases hr
      | none =>
        exact hend ys τ D L hj s' S'
    · have hlt : i < vs.length := by omega
      refine wpAny_mono (hit.next A i vs[i] _ (fun r σ' => r = some vs[i] ∧ σ' = R (i + 1) ++ (L, ns []) :: (D, lst ys) :: τ) (hc _ _ _ _ _ (Nat.le_of_lt hlt) hj).1 (List.getElem?_eq_getElem hlt) ⟨rfl, rfl⟩ itv hitv s S) (fun r s' ⟨σ', S', hr, hq⟩ => ?_) fun _ _ e => e.elim
      subst hq
      cases r with
      | none => cases hr
      | some v =>
        have hv : er v = vs[i] := by simpa using hr
        have fin : wpAny (model C.prog C.w) A (assign target (compEnvC scope cl L env) v) (fun _ s₂ =>
          wpAny (model C.prog C.w) A (forIn ifs true fun c r => if r = true then do let ok ← isTrue c (compEnvC scope cl L env) (eval c (compEnvC scope cl L env)); pure (ForInStep.yield ok) else pure (ForInStep.yield r)) (fun ok s₃ =>
            if ok = true then wpAny (model C.prog C.w) A (eval elt (compEnvC scope cl L env)) (fun x s₄ =>
              wpAny (model C.prog C.w) A (call (.builtin "list.append") [.ref D, x]) (fun _ s₅ => ∃ m, m < n ∧ ∃ i ys τ, m + i = vs.length ∧ St C (R i ++ (L, ns []) :: (D, lst ys) :: τ) s₅ ∧ J i ys τ) (fun _ _ => False) s₄) (fun _ _ => False) s₃
            else ∃ m, m < n ∧ ∃ i ys τ, m + i = vs.length ∧ St C (R i ++ (L, ns []) :: (D, lst ys) :: τ) s₃ ∧ J i ys τ) (fun _ _ => False) s₂) (fun _ _ => False) s' := by
          refine wpM (hstep i vs[i] ys τ D L (List.getElem?_eq_getElem hlt) hj _ _ (fun _ _ h => h) (fun _ h => h) v hv s' S') fun _ s₂ σ₄ S₄ h₄ => wpM (h₄ s₂ S₄) fun b s₃ σ₅ S₅ h₅ => ?_
          cases b with
          | false =>
            obtain ⟨τ', w, hj'⟩ := h₅
            exact ⟨n - 1, by omega, i + 1, ys, τ', by omega, S₅.wk w, hj'⟩
          | true =>
            refine wpAny_mono (h₅ s₃ S₅) (fun y s₄ hz => ?_) fun _ _ e => e
            obtain ⟨σ₆, S₆, τ', w, hj'⟩ := hz
            have S₇ := S₆.wk w
            obtain ⟨items, hp, he⟩ := lst_of (S₇.get (a := D) (r := lst ys) (List.mem_append_right _ (.tail _ (.head _))))
            refine wpAny_list_append_plain hp (fun h' hp' hs => ⟨n - 1, by omega, i + 1, ys ++ [er y], τ', by omega, ?_, hj'⟩) (by rw [map_size he]; exact (hc _ _ _ (0, ns []) (0, ns []) (Nat.le_of_lt hlt) hj).2)
            refine St.set (tk := s₄.toks) S₇ (Up.app _ (.there .here)) (lst_at hp' ?_) fun b o hb ho => hs.extBut b o hb ho
            rw [Array.toList_push, List.map_append, he]; rfl
        rcases ht with ht | ⟨ts, k, p, rfl⟩
        · exact wpAny_of_eq (ht itv v) fin
        · refine wpAny_mono (hit.go A ts k p (i + 1) vs[i] _ s' S' itv v hitv hv (by simp [hlt]) (fun x => x = s') rfl) (fun _ s'' e => ?_) fun _ _ e => e.elim
          subst e
          exact fin
  refine codeAny_compStart_list (key _ rfl _ S₆) (wpAny_mono (hit.self A _ (fun r σ' => r = er it ∧ σ' = R 0 ++ (L, ns []) :: (D, lst []) :: σ₃) ⟨rfl, rfl⟩ it rfl s₅ S₆) (fun v s' h' => ?_) fun _ _ e => e.elim)
  obtain ⟨σ', S', hv, rfl⟩ := h'
  exact key _ hv _ S'
theorem comp_drop {L D : Addr} {ys : List Value} {σ₃ : Asn} {s' : Shared} (S' : St C ((L, ns []) :: (D, lst ys) :: σ₃) s') : ∃ m, s'.heap.Ns L m ∧ ∀ h', Heap.SameBut L s'.heap h' → St C ((D, lst ys) :: σ₃) { s' with heap := h' } := by
  obtain ⟨m, hm, _⟩ := ns_of (S'.get (.head _))
  refine ⟨m, hm, fun h'' hs => ?_⟩
  have hnm : ∀ p ∈ (D, lst ys) :: σ₃, p.1 ≠ L := fun p hp q => by
    have := S'.nodup
    rw [List.map_cons, List.nodup_cons] at this
    exact this.1 (List.mem_map.mpr ⟨p, hp, q⟩)
  refine ⟨S'.drawn, S'.os, S'.gens, fun b o e => ?_, (List.nodup_cons.mp S'.nodup).2, fun p hp => (S'.own p (.tail _ hp)).keep fun o e => hs.extBut p.1 o (hnm p hp) e, fun p hp => S'.new p (.tail _ hp)⟩
  refine hs.extBut b o (fun q => ?_) (S'.keep b o e)
  have := S'.new (L, ns []) (.head _)
  rw [← q] at this
  rw [show C.B.heap.get? b = none from this] at e; cases e
theorem v_listcomp {elt target iter : Expr} {ifs : List Expr} {scope : Scope} {pos : Pos} {Q : Value → Asn → Prop} (cl : List (Str × Addr)) (hh : A.handled = none)
    (h : EV C A env iter σ (CompI C A env scope cl target elt ifs (fun ys σ₃ D _ => Q (.ref D) ((D, lst ys) :: σ₃))))
    (hcl : closureFor scope env = pure cl := by exact rfl) (hs : ∀ x, foldedSetIterable iter env x = pure x := by exact fun _ => rfl) (hk : scope.kind = .function := by exact rfl)
    (hn : scope.names.all (fun x => x.2 != .cell && (x.2 != .local || scope.names.lookup x.1 == some .local)) = true := by exact rfl)
    (ht : (∀ it v, letOwnedTupleGo target it v = pure ()) ∨ ∃ ts k p, target = .Tuple ts k p := by first | exact .inl fun _ _ => rfl | exact .inr ⟨_, _, _, rfl⟩) : EV C A env (.ListComp elt [⟨target, iter, ifs, 0⟩] scope pos) σ Q := fun s S => by
  rw [eval_ListComp]
  refine comp_core (use := none) S cl hh (EW.mono h fun x σ₁ h₁ u hu => EW.mono (h₁ u hu) fun it σ₂ ⟨vs, R, cond, hit, J, h0, hc, hstep, hend⟩ => ⟨vs, R, cond, hit, J, h0, hc, hstep, fun ys σ₃ D L hj s' S' => ?_⟩) hcl hs hk hn ht
  obtain ⟨m, hm, hd⟩ := comp_drop S'
  exact ⟨m, hm, fun h' hs' => ⟨_, hd h' hs', hend ys σ₃ D L hj⟩⟩
inductive CompE (Q : Flow → Asn → Prop) (L : Addr) (σ : Asn) : Prop
  | mk (D : Addr) (ys : List Value) (σ₅ : Asn) (e : σ = (L, ns []) :: (D, lst ys) :: σ₅) (h : Q .next ((D, lst ys) :: σ₅))
theorem s_assign_comp {x : Str} {px : Pos} {elt target iter : Expr} {ifs : List Expr} {scope : Scope} {pos cpos : Pos} {Q : Flow → Asn → Prop} (cl : List (Str × Addr)) (hh : A.handled = none)
    (h : EV C A env iter σ (CompI C A env scope cl target elt ifs (fun ys σ₃ D L => EN C A env x (.ref D) ((L, ns []) :: (D, lst ys) :: σ₃) (CompE Q L))))
    (hsw : swapsWith (.ListComp elt [⟨target, iter, ifs, 0⟩] scope cpos) (some (.Name x px)) pos.line env = pure true := by exact rfl)
    (hcl : closureFor scope env = pure cl := by exact rfl) (hs : ∀ x, foldedSetIterable iter env x = pure x := by exact fun _ => rfl) (hk : scope.kind = .function := by exact rfl)
    (hn : scope.names.all (fun x => x.2 != .cell && (x.2 != .local || scope.names.lookup x.1 == some .local)) = true := by exact rfl)
    (ht : (∀ it v, letOwnedTupleGo target it v = pure ()) ∨ ∃ ts k p, target = .Tuple ts k p := by first | exact .inl fun _ _ => rfl | exact .inr ⟨_, _, _, rfl⟩) :
    ES C A env (.Assign [.Name x px] (.ListComp elt [⟨target, iter, ifs, 0⟩] scope cpos) pos) σ Q := fun s S => by
  rw [exec_Assign_Name_used _ _ _ _ hsw]
  refine wpAny_bind (wpAny_standAt (wpAny_bind ?_))
  show wpAny _ A (do let _ ← comprehension (.ListComp elt [⟨target, iter, ifs, 0⟩] scope cpos) scope env _ (newList []) false (eval iter env) (some (assign (.Name x px) env))) _ _ s
  refine wpAny_bind (wpAny_mono (comp_core (use := some (assign (.Name x px) env)) (Q' := fun _ s' => ∃ σ', St C σ' s' ∧ Q (erF .next) σ') S cl hh (EW.mono h fun x' σ₁ h₁ u hu => EW.mono (h₁ u hu) fun it σ₂ ⟨vs, R, cond, hit, J, h0, hc, hstep, hend⟩ => ⟨vs, R, cond, hit, J, h0, hc, hstep, fun ys σ₃ D L hj s' S' => ?_⟩) hcl hs hk hn ht) (fun _ s' hq => wpAny_pure (wpAny_pure hq)) fun _ _ e => e)
  show wpAny _ A (assign (.Name x px) env (.ref D)) _ _ _
  refine wpAny_assign_Name (wpAny_mono (hend ys σ₃ D L hj (.ref D) rfl s' S') (fun _ s'' hz => ?_) fun _ _ e => e)
  obtain ⟨σ₄, S'', D', ys', σ₅, e, hq⟩ := hz
  subst e
  obtain ⟨m, hm, hd⟩ := comp_drop S''
  exact ⟨m, hm, fun h' hs' => ⟨_, hd h' hs', hq⟩⟩
end
end TIkComp
section TIkBI
open PySem PySem.Calls PyProof.Rows
set_option maxRecDepth 4000
section
variable {C : Cx} {A : Around} {env : Env} {σ σ' : Asn} {Q : Value → Asn → Prop} {x y : Str} {t u : Tok} {l : Addr} {xs : List Value}

theorem callWith_EC {id : String} {first : List Value} {args : List Expr} {pos : Pos} {s : Shared} (h : EL C A env args σ fun vs σ₁ => EC C A (.builtin id) (first.map er ++ vs) σ₁ Q) (hp : NoStar args env) (S : St C σ s) :
    wpAny (model C.prog C.w) A (callWith pos (.builtin id) first (backTo pos (starEach args env)) []) (fun v s' => ∃ σ', St C σ' s' ∧ Q (er v) σ') (fun _ _ => False) s := by
  refine callWith_builtin (hp.any pos) (wpAny_mono (evalArgs_EL h S hp.or) (fun a s' hz => ?_) fun _ _ e => e)
  obtain ⟨hk, _, S', h'⟩ := hz
  rw [hk]; exact h' (first ++ a.pos) (by rw [List.map_append]) s' S'
theorem em_str {name : Str} {id : String} {args : List Expr} (slot : Slot "str" name id) (ty : typeOf (.builtin id) = pure (.type "method_descriptor")) (h : EL C A env args σ fun vs σ₁ => EC C A (.builtin id) (.str x 0 :: vs) σ₁ Q)
    (hp : NoStar args env := by exact rfl) : EM C A env name (.str x t) args σ Q := fun v pos hv s S => by
  obtain ⟨t', rfl⟩ := er_str hv
  exact ⟨"str", id, PySem.F.plainAttrs_str, slot, ty, typeIs_str _ _ _, (fun _ e => nomatch e), callWith_EC (first := [.str x t']) h hp S⟩
inductive StrM : Str → String → Prop
  | translate : StrM "translate" "str.translate"
  | splitlines : StrM "splitlines" "str.splitlines"
  | join : StrM "join" "str.join"
  | rstrip : StrM "rstrip" "str.rstrip"
  | endswith : StrM "endswith" "str.endswith"
  | count : StrM "count" "str.count"
  | replace : StrM "replace" "str.replace"
  | split : StrM "split" "str.split"
theorem StrM.ok {name : Str} {id : String} (m : StrM name id) : Slot "str" name id ∧ typeOf (.builtin id) = pure (.type "method_descriptor") := by
  cases m
  · exact ⟨PySem.F.slot_str_translate, PySem.F.type_str_translate⟩
  · exact ⟨PySem.F.slot_str_splitlines, PySem.F.type_str_splitlines⟩
  · exact ⟨PySem.F.slot_str_join, PySem.F.type_str_join⟩
  · exact ⟨PySem.F.slot_str_rstrip, PySem.F.type_str_rstrip⟩
  · exact ⟨PySem.F.slot_str_endswith, PySem.F.type_str_endswith⟩
  · exact ⟨PySem.F.slot_str_count, PySem.F.type_str_count⟩
  · exact ⟨PySem.F.slot_str_replace, PySem.F.type_str_replace⟩
  · exact ⟨PySem.F.slot_str_split, PySem.F.type_str_split⟩
theorem em_strM {name : Str} {id : String} {args : List Expr} (h : EL C A env args σ fun vs σ₁ => EC C A (.builtin id) (.str x 0 :: vs) σ₁ Q) (m : StrM name id := by constructor)
    (hp : NoStar args env := by exact rfl) : EM C A env name (.str x t) args σ Q := em_str m.ok.1 m.ok.2 h hp
theorem em_list {name : Str} {id : String} {args : List Expr} (hl : Has C σ l (lst xs)) (slot : Slot "list" name id) (ty : typeOf (.builtin id) = pure (.type "method_descriptor")) (h : EL C A env args σ fun vs σ₁ => EC C A (.builtin id) (.ref l :: vs) σ₁ Q)
    (hp : NoStar args env := by exact rfl) : EM C A env name (.ref l) args σ Q := fun v pos hv s S => by
  obtain rfl := er_ref hv
  obtain ⟨items, ⟨n, hpl⟩, _⟩ := lst_of (S.has hl)
  refine ⟨"list", id, PySem.F.plainAttrs_list, slot, ty, ⟨_, hpl, rfl⟩, fun a e => ?_, callWith_EC (first := [.ref l]) h hp S⟩
  cases e
  exact ⟨_, hpl, rfl⟩
theorem ec_meets {T : String} {name : Str} {id : String} {B : Builtin} {v : Value} {S : PySem.Spec} {us : List Value} {s : Shared} (slot : Slot T name id) (hT : s.TypeIs v T) (entry : entryFor table id = some B) (args : argsOk id ⟨v :: us, []⟩) (g : Meets (B ⟨v :: us, []⟩) S)
    (h : S A (wants (fun r s' => ∃ σ', St C σ' s' ∧ Q (er r) σ') (fun _ _ => False)) s) : wpAny (model C.prog C.w) A (call (.builtin id) (v :: us)) (fun r s' => ∃ σ', St C σ' s' ∧ Q (er r) σ') (fun _ _ => False) s := call_meets slot hT entry args g h

theorem f_append {v : Value} (hup : Up l (lst xs) (lst (xs ++ [v])) σ σ') (hz : xs.length ≤ sizeLine) (h : Q .none σ') : EC C A (.builtin "list.append") [.ref l, v] σ Q := fun us hus s S => by
  obtain ⟨a, b, rfl, ha, hb⟩ := map2 hus
  obtain rfl := er_ref ha
  obtain ⟨items, hp, he⟩ := lst_of (S.get hup.mem)
  exact wpAny_list_append_plain hp (fun h' hp' hs => ⟨σ', S.set (tk := s.toks) hup (lst_at hp' (by rw [Array.toList_push, List.map_append, he, List.map_singleton, hb])) fun b o hb ho => hs.extBut b o hb ho, h⟩) (by rw [map_size he]; exact hz)
theorem f_pop {v : Value} (hup : Up l (lst (xs ++ [v])) (lst xs) σ σ') (hz : xs.length < sizeLine) (h : Q v σ') : EC C A (.builtin "list.pop") [.ref l] σ Q := fun us hus s S => by
  obtain ⟨a, rfl, ha⟩ := List.map_eq_singleton_iff.mp hus
  obtain rfl := er_ref ha
  obtain ⟨items, ⟨n, hp⟩, he⟩ := lst_of (S.get hup.mem)
  have hsz : items.size = xs.length + 1 := by rw [map_size he]; simp
  obtain ⟨w, hw, rfl⟩ := map_get (k := items.size - 1) he (v := v) (by rw [hsz]; simp)
  refine ec_meets PySem.F.slot_list_pop ⟨_, hp, rfl⟩ PySem.F.entry_list_pop (PySem.F.args_list_pop_1 _) (MeetsSeq.list_pop_last l items n w hw (by lia)) ⟨hp, σ', ?_, h⟩
  refine St.set (tk := s.toks) S hup (lst_at (items := items.eraseIdxIfInBounds (items.size - 1)) ⟨if (items.eraseIdxIfInBounds (items.size - 1)).size == items.size then n else n + 1, ?_⟩ ?_) fun b o hb ho => (Heap.SameBut.update ..).extBut b o hb ho
  · rw [Heap.get?_update_self _ hp rfl]
    rfl
  · have : (items.eraseIdxIfInBounds (items.size - 1)).toList = items.toList.dropLast := by
      rw [Array.eraseIdxIfInBounds, dif_pos (by lia), Array.toList_eraseIdx, List.dropLast_eq_take, List.eraseIdx_eq_take_drop_succ]
      simp [hsz]
    rw [this, List.map_dropLast, he]; simp
theorem f_len_list (hl : Has C σ l (lst xs)) (hz : (xs.length : Int) < 2 ^ 63) (h : Q (.int xs.length 0) σ) : EC C A (.builtin "len") [.ref l] σ Q := fun us hus s S => by
  obtain ⟨a, rfl, ha⟩ := List.map_eq_singleton_iff.mp hus
  obtain rfl := er_ref ha
  obtain ⟨items, hp, he⟩ := lst_of (S.has hl)
  refine Calls.call_len_list hp.isList (by rw [map_size he]; exact hz) ⟨σ, S.toks _, ?_⟩
  rw [map_size he]; exact h
theorem f_len_str (hz : (x.length : Int) < 2 ^ 63) (h : Q (.int x.length 0) σ) : EC C A (.builtin "len") [.str x t] σ Q := fun us hus s S => by
  obtain ⟨a, rfl, ha⟩ := List.map_eq_singleton_iff.mp hus
  obtain ⟨t', rfl⟩ := er_str ha
  exact P.len_str (by lia) ⟨σ, S.toks _, h⟩
theorem f_rstrip (hz : x.length ≤ sizeLine) (h : Q (.str (Txt.rstrip x) 0) σ) : EC C A (.builtin "str.rstrip") [.str x t] σ Q := fun us hus s S => by
  obtain ⟨a, rfl, ha⟩ := List.map_eq_singleton_iff.mp hus
  obtain ⟨t', rfl⟩ := er_str ha
  exact SC.rstrip (fun _ _ => ⟨σ, S.toks _, h⟩) hz
theorem f_endswith (h : Q (.bool (Txt.endswith x y)) σ) : EC C A (.builtin "str.endswith") [.str x t, .str y u] σ Q := fun us hus s S => by
  obtain ⟨a, b, rfl, ha, hb⟩ := map2 hus
  obtain ⟨t', rfl⟩ := er_str ha; obtain ⟨u', rfl⟩ := er_str hb
  exact SC.endswith ⟨σ, S, h⟩
theorem f_count (h : Q (.int (Txt.count x y) 0) σ) : EC C A (.builtin "str.count") [.str x t, .str y u] σ Q := fun us hus s S => by
  obtain ⟨a, b, rfl, ha, hb⟩ := map2 hus
  obtain ⟨t', rfl⟩ := er_str ha; obtain ⟨u', rfl⟩ := er_str hb
  exact SC.count ⟨σ, S.toks _, h⟩
theorem f_isinstance_str (h : Q (.bool true) σ) : EC C A (.builtin "isinstance") [.str x t, .type "str"] σ Q := fun us hus s S => by
  obtain ⟨a, b, rfl, ha, hb⟩ := map2 hus
  obtain ⟨t', rfl⟩ := er_str ha; obtain rfl := er_type hb
  exact IsiPair.str_str ⟨σ, S, h⟩
end
end TIkBI
section TIkStr
open PySem PySem.Calls PyProof.Rows
set_option maxRecDepth 4000
noncomputable def txs (l : List Str) : List Value := l.map fun x => .str x 0
theorem txs_length (l : List Str) : (txs l).length = l.length := by simp [txs]
theorem txs_append (l m : List Str) : txs (l ++ m) = txs l ++ txs m := by simp [txs]
theorem txs_get {l : List Str} {k : Nat} {x : Str} (h : l[k]? = some x) : (txs l)[k]? = some (.str x 0) := by simp [txs, h]
theorem txs_from : ∀ (tk : Nat) (l : List Str), (strsFrom tk l).map er = txs l
  | _, [] => rfl
  | tk, x :: r => by
    show er (.str x tk) :: (strsFrom (tk + 1) r).map er = _
    rw [txs_from (tk + 1) r]; rfl
theorem txs_are : ∀ {vs : List Value} {l : List Str}, vs.map er = txs l → StrsAre vs l
  | [], [], _ => .nil
  | [], _ :: _, h => by cases h
  | _ :: _, [], h => by cases h
  | v :: vs, x :: l, h => by
    rw [List.map_cons, show txs (x :: l) = .str x 0 :: txs l from rfl, List.cons.injEq] at h
    obtain ⟨t, rfl⟩ := er_str h.1
    exact .cons x t (txs_are h.2)

section
variable {C : Cx} {A : Around} {env : Env} {σ σ' : Asn} {Q : Value → Asn → Prop} {x y : Str} {t u : Tok} {l : Addr} {xs : List Value}

theorem St.new_list {s : Shared} {tk : Nat} (S : St C σ s) {vs : List Value} {ws : List Value} (e : vs.map er = ws) : St C ((s.heap.objs.size, lst ws) :: σ) { s with heap := s.heap.push { cls := .type "list", data := .seq vs.toArray }, toks := tk } :=
  S.alloc (Heap.get?_none_of_le (Nat.le_refl _)) ⟨_, Heap.get?_push_size _ rfl, vs.toArray, _, rfl, by simpa using e⟩ fun b o hb => Heap.get?_push_of_some _ hb
theorem St.new_tup {s : Shared} {tk : Nat} (S : St C σ s) {vs : List Value} {ws : List Value} (e : vs.map er = ws) : St C ((s.heap.objs.size, tup ws) :: σ) { s with heap := s.heap.push { cls := .type "tuple", data := .seq vs.toArray }, toks := tk } :=
  S.alloc (Heap.get?_none_of_le (Nat.le_refl _)) ⟨_, Heap.get?_push_size _ rfl, vs.toArray, _, rfl, by simpa using e⟩ fun b o hb => Heap.get?_push_of_some _ hb

theorem f_splitlines (hz : x.length ≤ sizeLine) (hz2 : (lineCuts x).length ≤ sizeLine) (h : ∀ D, Q (.ref D) ((D, lst (txs (Txt.lines x))) :: σ)) : EC C A (.builtin "str.splitlines") [.str x t] σ Q := fun us hus s S => by
  obtain ⟨a, rfl, ha⟩ := List.map_eq_singleton_iff.mp hus
  obtain ⟨t', rfl⟩ := er_str ha
  refine ec_meets PySem.F.slot_str_splitlines (typeIs_str _ _ _) PySem.F.entry_str_splitlines (PySem.F.args_str_splitlines_1 _) (meets_str_splitlines x t' hz hz2) ?_
  cases hw : lineCuts x == [(0, x.length)]
  · simp only [Bool.false_eq_true, if_false]
    refine ⟨_, S.new_list (txs_from ..), ?_⟩
    have : Txt.lines x = linesOf x := if_neg (ne_true_of_eq_false hw)
    rw [← this]; exact h _
  · simp only [if_true]
    refine ⟨_, S.new_list (tk := s.toks) (ws := txs (Txt.lines x)) ?_, h _⟩
    have : Txt.lines x = [x] := if_pos hw
    rw [this]; rfl
theorem f_split (hy : (y.length == 0) = false) (hz : x.length + 2 ≤ sizeLine) (h : ∀ D, Q (.ref D) ((D, lst (txs (Txt.split x y))) :: σ)) : EC C A (.builtin "str.split") [.str x t, .str y u] σ Q := fun us hus s S => by
  obtain ⟨a, b, rfl, ha, hb⟩ := map2 hus
  obtain ⟨t', rfl⟩ := er_str ha; obtain ⟨u', rfl⟩ := er_str hb
  cases h1 : (decide (x.length < y.length) || decide (Builtin.Str.strKind x < Builtin.Str.strKind y))
  · cases hf : (Builtin.Str.occurrences x y 0 x.length (x.length + 1)).isEmpty
    · refine ec_meets PySem.F.slot_str_split (typeIs_str _ _ _) PySem.F.entry_str_split (PySem.F.args_str_split_2 _ _) (meets_str_split_sep x y t' u' h1 hy hf (by lia) (by rw [length_partsBetween]; have e1 := StrLaws.occ_length_le x y 0 x.length (x.length + 1); lia)) ?_
      refine ⟨_, S.new_list (txs_from ..), ?_⟩
      have : Txt.split x y = Builtin.Str.partsBetween x (Builtin.Str.occurrences x y 0 x.length (x.length + 1)) y.length := (if_neg (ne_true_of_eq_false h1)).trans (if_neg (ne_true_of_eq_false hf))
      rw [← this]; exact h _
    · refine ec_meets PySem.F.slot_str_split (typeIs_str _ _ _) PySem.F.entry_str_split (PySem.F.args_str_split_2 _ _) (meets_str_split_not_found x y t' u' h1 hy hf) ⟨_, S.new_list (tk := s.toks) (ws := txs (Txt.split x y)) ?_, h _⟩
      have : Txt.split x y = [x] := (if_neg (ne_true_of_eq_false h1)).trans (if_pos hf)
      rw [this]; rfl
  · refine ec_meets PySem.F.slot_str_split (typeIs_str _ _ _) PySem.F.entry_str_split (PySem.F.args_str_split_2 _ _) (meets_str_split_cannot_occur x y t' u' h1) ⟨_, S.new_list (tk := s.toks) (ws := txs (Txt.split x y)) ?_, h _⟩
    have : Txt.split x y = [x] := if_pos h1
    rw [this]; rfl
theorem f_join {ys : List Str} (hl : Has C σ l (lst (txs ys))) (hz : (ys.map (·.length)).sum + ys.length * x.length ≤ 16777216) (h : Q (.str (Txt.join x ys) 0) σ) : EC C A (.builtin "str.join") [.str x t, .ref l] σ Q := fun us hus s S => by
  obtain ⟨a, b, rfl, ha, hb⟩ := map2 hus
  obtain ⟨t', rfl⟩ := er_str ha; obtain rfl := er_ref hb
  obtain ⟨items, hp, he⟩ := lst_of (S.has hl)
  exact PyProof.Rows.join_list hp.isList (txs_are he) hz fun t'' k => ⟨σ, S.toks _, h⟩

theorem v_list {es : List Expr} {pos : Pos} (h : EL C A env es σ fun vs σ₁ => vs.length ≤ sizeLine ∧ ∀ D, Q (.ref D) ((D, lst vs) :: σ₁)) : EV C A env (.List es pos) σ Q := fun s S =>
  wpAny_List_spliced (wpAny_mono (h pos s S) (fun vs s₁ ⟨σ₁, S₁, hz, h₁⟩ => ⟨by simpa using hz, _, S₁.new_list (tk := s₁.toks) rfl, h₁ _⟩) fun _ _ e => e)
theorem v_tuple {es : List Expr} {k : Nat} {pos : Pos} (h : EL C A env es σ fun vs σ₁ => vs.length ≤ sizeLine ∧ ∀ D, Q (.ref D) ((D, tup vs) :: σ₁)) : EV C A env (.Tuple es k pos) σ Q := fun s S =>
  wpAny_Tuple_spliced (wpAny_mono (h pos s S) (fun vs s₁ ⟨σ₁, S₁, hz, h₁⟩ => ⟨by simpa using hz, _, S₁.new_tup (tk := s₁.toks) rfl, h₁ _⟩) fun _ _ e => e)
end
end TIkStr
section TIkTrans
open PySem PySem.Calls PyProof.Rows
set_option maxRecDepth 4000
noncomputable def outOf (r : Nat → Option Str) (c : Nat) : Str := (r c).getD ⟨#[c]⟩
noncomputable def TL (C : Cx) (tab : Value) (r : Nat → Option Str) (σ : Asn) (x : Str) : Prop := ∀ A : Around, ∀ c ∈ x.cps.toList, A.handled = none → ∀ u, er u = tab → ∀ s, St C σ s →
  wpAny (model C.prog C.w) A (Builtin.Str.tableLookup u c) (fun m s' => St C σ s' ∧ m = (match r c with | some t => .text t | none => .keep)) (fun _ _ => False) s
noncomputable def tr (r : Nat → Option Str) (x : Str) : Str := ⟨(x.cps.toList.flatMap fun c => (outOf r c).cps.toList).toArray⟩

theorem foldl_outs (l : List Str) (a : Array Nat) : l.foldl (fun acc p => acc ++ p.cps) a = a ++ (l.flatMap fun p => p.cps.toList).toArray := by
  induction l generalizing a with
  | nil => simp
  | cons p r ih => rw [List.foldl_cons, ih, List.flatMap_cons]; apply Array.ext'; simp

noncomputable abbrev TrI (C : Cx) (σ : Asn) (x : Str) (r : Nat → Option Str) (rest : List Nat) (b : List Str × Nat × Bool × List (Nat × Option Nat) × Bool) (s : Shared) : Prop :=
  St C σ s ∧ b.2.2.2.2 = false ∧ ∃ done, x.cps.toList = done ++ rest ∧ b.1.reverse = done.map (outOf r) ∧ b.2.1 = (done.map fun c => (outOf r c).length).sum ∧
    ∀ c a, b.2.2.2.1.lookup c = some a → ∃ d, a = some d ∧ outOf r c = ⟨#[d]⟩
theorem wp_val {M : Model} {A : Around} {α : Type} {t : Sem α} {P : Shared → Prop} {m0 : α} {Q : α → Shared → Prop} {E : Value → Shared → Prop} {s : Shared} (h : wpAny M A t (fun m s' => P s' ∧ m = m0) (fun _ _ => False) s) (k : ∀ s', P s' → Q m0 s') : wpAny M A t Q E s :=
  wpAny_mono h (fun m s' hz => by obtain ⟨S', rfl⟩ := hz; exact k s' S') fun _ _ e => e.elim
section
variable {C : Cx} {A : Around} {σ : Asn} {Q : Value → Asn → Prop} {x : Str} {t : Tok} {tab : Value} {r : Nat → Option Str}

theorem f_translate (hh : A.handled = none) (hT : TL C tab r σ x) (hz : (x.cps.toList.map fun c => (outOf r c).length).sum ≤ sizeLine) (h : Q (.str (if x.length = 0 then x else tr r x) 0) σ) : EC C A (.builtin "str.translate") [.str x t, tab] σ Q := fun us hus s S => by
  obtain ⟨a, b, rfl, ha, hb⟩ := map2 hus
  obtain ⟨t', rfl⟩ := er_str ha
  refine wpAny_call_entry PySem.F.slot_str_translate (typeIs_str _ _ _) PySem.F.entry_str_translate ?_ (PySem.F.args_str_translate_2 _ _)
  unfold Builtin.«str.translate»
  show wpAny _ _ (if (x.length == 0) = true then _ else _) _ _ s
  by_cases hx : x.length = 0
  · rw [if_pos (by simpa using hx)]
    rw [if_pos hx] at h
    exact wpAny_bind (wpAny_rule (wpAny_bind (wpAny_pure (wpAny_pure ⟨_, rfl, σ, S, h⟩))))
  rw [if_neg (by simpa using hx)]
  rw [if_neg hx] at h
  dsimp only
  have small : ∀ n : Nat, n ≤ sizeLine → Builtin.Str.tooLong n = false := fun n hn => by unfold Builtin.Str.tooLong; simpa using hn
  refine wpAny_bind (MeetsSeq2.wpAny_forIn_array (I := TrI C σ x r) (Q := _) _ ?_ ?_ _ _ ⟨S, rfl, [], rfl, rfl, rfl, fun c a e => by cases e⟩)
  · rintro c rest ⟨pieces, total, fast, known, ad⟩ s' ⟨S', rfl, done, hd, hp, htot, hk⟩
    dsimp only at hp htot hk ⊢
    have hsum : total + (outOf r c).length ≤ sizeLine := by
      have : (x.cps.toList.map fun c => (outOf r c).length).sum = total + ((outOf r c).length + (rest.map fun c => (outOf r c).length).sum) := by
        rw [hd, List.map_append, List.sum_append, htot]; rfl
      lia
    have hmem : c ∈ x.cps.toList := by rw [hd]; simp
    have hsm : ¬Builtin.Str.tooLong total = true := by rw [small total (by lia)]; exact Bool.false_ne_true
    have look : ∀ s, St C σ s → wpAny (model C.prog C.w) A.in1 (Builtin.Str.tableLookup b c) (fun m s' => St C σ s' ∧ m = (match r c with | some t => .text t | none => .keep)) (fun _ _ => False) s := fun s S => hT A.in1 c hmem hh b hb s S
    have yes : ∀ (o : Str) (fast' : Bool) (known' : List (Nat × Option Nat)) (n : Nat) s', St C σ s' → o = outOf r c → n = (outOf r c).length → (∀ c a, known'.lookup c = some a → ∃ d, a = some d ∧ outOf r c = ⟨#[d]⟩) →
        TrI C σ x r rest (o :: pieces, total + n, fast', known', false) s' := by
      intro o fast' known' n s' S' ho hn hk'
      refine ⟨S', rfl, done ++ [c], by rw [hd]; simp, ?_, ?_, hk'⟩
      · dsimp only; rw [List.reverse_cons, hp, ho, List.map_append]; rfl
      · dsimp only; rw [htot, hn, List.map_append, List.sum_append]; simp
    have new : ∀ d, outOf r c = ⟨#[d]⟩ → ∀ c' a, List.lookup c' ((c, some d) :: known) = some a → ∃ d, a = some d ∧ outOf r c' = ⟨#[d]⟩ := by
      intro d hd c' a e
      rw [List.lookup_cons] at e
      by_cases hc : c' = c
      · subst hc; simp only [beq_self_eq_true] at e; cases e; exact ⟨d, rfl, hd⟩
      · rw [beq_eq_false_iff_ne.mpr hc] at e; exact hk c' a e
    have lookN : r c = none → ∀ s, St C σ s → wpAny (model C.prog C.w) A.in1 (Builtin.Str.tableLookup b c) (fun m s' => St C σ s' ∧ m = .keep) (fun _ _ => False) s := fun e s S => by
      have := look s S
      rw [e] at this; exact this
    have lookS : ∀ t, r c = some t → ∀ s, St C σ s → wpAny (model C.prog C.w) A.in1 (Builtin.Str.tableLookup b c) (fun m s' => St C σ s' ∧ m = .text t) (fun _ _ => False) s := fun t e s S => by
      have := look s S
      rw [e] at this; exact this
    have one : ∀ t : Str, r c = some t → (t.length == 1 && t.cps.all fun x => decide (x < 128)) = true → ∃ d, t.cps[0]? = some d ∧ outOf r c = ⟨#[d]⟩ := by
      intro t hr hg
      rw [Bool.and_eq_true] at hg
      have h1 : t.cps.size = 1 := by simpa [Str.length] using hg.1
      refine ⟨t.cps[0], Array.getElem?_eq_getElem (by lia), ?_⟩
      simp only [outOf, hr, Option.getD_some]
      cases t with
      | mk a =>
        congr 1
        apply Array.ext
        · simpa using h1
        · intro i hi1 hi2
          simp at hi2; subst hi2; rfl
    refine wp_f hsm ?_
    cases fast with
    | false =>
      refine wp_f Bool.false_ne_true ?_
      cases hr : r c with
      | none =>
        refine wpAny_bind (wp_val (lookN hr s' S') fun s'' S'' => ?_)
        exact wpAny_pure (yes _ _ _ 1 _ S'' (by simp [outOf, hr]) (by simp [outOf, hr, Str.length]) hk)
      | some t =>
        refine wpAny_bind (wp_val (lookS t hr s' S') fun s'' S'' => ?_)
        exact wpAny_pure (yes _ _ _ t.length _ S'' (by simp [outOf, hr]) (by simp [outOf, hr]) hk)
    | true =>
      refine wp_t rfl ?_
      cases hkn : List.lookup c known with
      | some a =>
        obtain ⟨d, rfl, ho⟩ := hk c a hkn
        refine wpAny_bind (wpAny_pure ?_)
        exact wpAny_pure (yes _ _ _ 1 _ S' ho.symm (by rw [ho]; rfl) hk)
      | none =>
        cases hr : r c with
        | none =>
          refine wpAny_bind (wp_val (lookN hr s' S') fun s'' S'' => ?_)
          refine wpAny_bind (wpAny_pure ?_)
          exact wpAny_pure (yes _ _ _ 1 _ S'' (by simp [outOf, hr]) (by simp [outOf, hr, Str.length]) (new c (by simp [outOf, hr])))
        | some t =>
          refine wpAny_bind (wp_val (lookS t hr s' S') fun s'' S'' => ?_)
          dsimp only
          by_cases hg : (t.length == 1 && t.cps.all fun x => decide (x < 128)) = true
          · obtain ⟨d, hd0, ho⟩ := one t hr hg
            rw [if_pos hg, hd0]
            refine wpAny_bind (wpAny_pure ?_)
            exact wpAny_pure (yes _ _ _ 1 _ S'' ho.symm (by rw [ho]; rfl) (new _ ho))
          · rw [if_neg hg]
            refine wpAny_bind (wpAny_pure ?_)
            refine wpAny_bind (wpAny_rule ?_)
            refine wpAny_bind (wp_val (lookS t hr s'' S'') fun s₃ S₃ => ?_)
            exact wpAny_pure (yes _ _ _ t.length _ S₃ (by simp [outOf, hr]) (by simp [outOf, hr]) hk)
  · rintro ⟨pieces, total, fast, known, ad⟩ s' ⟨S', _, done, hd, hp, htot, _⟩
    dsimp only at hp htot ⊢
    rw [List.append_nil] at hd
    rw [← hd] at hp htot
    rw [if_neg (by rw [small total (by lia)]; simp)]
    have e : ({ cps := List.foldl (fun acc p => acc ++ p.cps) #[] pieces.reverse } : Str) = tr r x := by
      rw [foldl_outs, hp]
      unfold tr
      rw [List.flatMap_map]; simp
    rw [e]
    exact wpAny_bind (wpAny_mkStr (wpAny_pure ⟨_, rfl, σ, S'.toks _, h⟩) (by
      unfold tr Str.length
      simp only [List.size_toArray, List.length_flatMap]
      exact hz))
end
section
variable {C : Cx} {σ : Asn} {x : Str} {r : Nat → Option Str}
theorem tl_list {l : Addr} {ts : List Str} (hl : Has C σ l (lst (txs ts))) (hr : ∀ c ∈ x.cps.toList, c < 2 ^ 62 ∧ ∃ y, ts[c]? = some y ∧ r c = some y) : TL C (.ref l) r σ x := fun A c hc hh u hu s S => by
  obtain rfl := er_ref hu
  obtain ⟨items, hp, he⟩ := lst_of (S.has hl)
  obtain ⟨hlt, y, hy, hry⟩ := hr c hc
  obtain ⟨v, hv, hev⟩ := map_get he (txs_get hy)
  obtain ⟨t, rfl⟩ := er_str hev
  rw [hry]
  unfold Builtin.Str.tableLookup
  refine wpAny_bind (wpAny_attempt (wpAny_bind (wpAny_mkInt ?_)))
  refine wpAny_getItem_list (s := { s with toks := s.toks + 1 }) hp.isList (k := c) (by lia) (by lia) (by simpa using hv) ?_
  exact wpAny_bind (wpAny_pure (wpAny_bind (wpAny_pure (wpAny_pure ⟨S.toks _, rfl⟩))))
theorem tl_dict {d : Addr} {f : Int → Option Value} (hd : (d == sysModules) = false) (hm : C.B.heap.MapOf (intKind C.prog C.w) d f) (hr : ∀ c ∈ x.cps.toList, f c = none) : TL C (.ref d) (fun _ => none) σ x := fun A c hc hh u hu s S => by
  obtain rfl := er_ref hu
  unfold Builtin.Str.tableLookup
  refine wpAny_bind (wpAny_attempt (wpAny_bind (wpAny_mkInt ?_)))
  refine wpAny_getItem_missing_of (s := { s with toks := s.toks + 1 }) (knd := intKind C.prog C.w) (k := (c : Int)) (by show Value.isInt (c : Int) (.int (c : Int) s.toks) = true; simp [Value.isInt]) hd hh (let ⟨o, es, ep, h, rest⟩ := hm; ⟨o, es, ep, S.keep _ _ h, rest⟩) (hr c hc) fun h' e hx => ?_
  obtain ⟨ob, t, h1, h2, h3⟩ := hx.there
  refine wpAny_bind (wpAny_isInstance (T := "KeyError") (b := true) ⟨ob, h1, h2⟩ ?_ ?_)
  · rw [isSubtype_type]; kernel_rfl
  · exact wpAny_bind (wpAny_rule (wpAny_pure ⟨S.grow hx.keeps, rfl⟩))
end
end TIkTrans
section TIkInt
open PySem PySem.Calls PyProof.Rows
set_option maxRecDepth 100000
theorem typeCall_int_2 (a b : Value) : checkTypeCall "int" ⟨[a, b], []⟩ = pure () := by kernel_rfl
theorem newCall_int_2 (a b : Value) : checkBuiltinCall "int.__new__" ⟨[.type "int", a, b], []⟩ = pure () := by kernel_rfl
theorem args_oi3 (a b c : Value) : argsOk "object.__init__" ⟨[a, b, c], []⟩ := by unfold argsOk; kernel_rfl
theorem call_int_2 {C : Cx} {A : Around} {E : Value → Shared → Prop} {s : Shared} {x b : Value} {S : PySem.Spec} {Q : Value → Shared → Prop} (g : Meets (Builtin.«int.__new__» ⟨[.type "int", x, b], []⟩) S) (h : S A.in1 (wants (fun obj s₁ => s₁.TypeIs obj "int" ∧ Q obj s₁) E) s) :
    wpAny (model C.prog C.w) A (call (.type "int") [x, b]) Q E s :=
  callType_new PySem.F.called_int PySem.F.newNe_int (typeCall_int_2 x b) (newCall_int_2 x b) (fun obj => args_oi3 obj x b) PySem.F.entry_int_new g h
theorem gives_hex_3D (u u' : Tok) : Gives (Builtin.«int.__new__» ⟨[.type "int", .str ⟨#[51, 68]⟩ u, .int 16 u'], []⟩) (.int 61) :=
  .of_wp fun M A E s Q h => by
    obtain ⟨hp, g, d, tk, os⟩ := s
    have f1 := PySem.F.conv_sub_int
    have f2 := PySem.F.madeHere_int
    repeat (any_goals (first | assumption | wp_step))
    generalize hq : (int_private% "readNumeral") _ _ _ = q
    have e : q = (int_private% "Numeral.value") 61 := by rw [← hq]; kernel_rfl
    subst e
    dsimp only
    repeat (any_goals (first | assumption | wp_step))
    exact ⟨_, rfl, h⟩
theorem gives_hex_E9 (u u' : Tok) : Gives (Builtin.«int.__new__» ⟨[.type "int", .str ⟨#[69, 57]⟩ u, .int 16 u'], []⟩) (.int 233) :=
  .of_wp fun M A E s Q h => by
    obtain ⟨hp, g, d, tk, os⟩ := s
    have f1 := PySem.F.conv_sub_int
    have f2 := PySem.F.madeHere_int
    repeat (any_goals (first | assumption | wp_step))
    generalize hq : (int_private% "readNumeral") _ _ _ = q
    have e : q = (int_private% "Numeral.value") 233 := by rw [← hq]; kernel_rfl
    subst e
    dsimp only
    repeat (any_goals (first | assumption | wp_step))
    exact ⟨_, rfl, h⟩
theorem gives_hex_20 (u u' : Tok) : Gives (Builtin.«int.__new__» ⟨[.type "int", .str ⟨#[50, 48]⟩ u, .int 16 u'], []⟩) (.int 32) :=
  .of_wp fun M A E s Q h => by
    obtain ⟨hp, g, d, tk, os⟩ := s
    have f1 := PySem.F.conv_sub_int
    have f2 := PySem.F.madeHere_int
    repeat (any_goals (first | assumption | wp_step))
    generalize hq : (int_private% "readNumeral") _ _ _ = q
    have e : q = (int_private% "Numeral.value") 32 := by rw [← hq]; kernel_rfl
    subst e
    dsimp only
    repeat (any_goals (first | assumption | wp_step))
    exact ⟨_, rfl, h⟩
theorem gives_hex_09 (u u' : Tok) : Gives (Builtin.«int.__new__» ⟨[.type "int", .str ⟨#[48, 57]⟩ u, .int 16 u'], []⟩) (.int 9) :=
  .of_wp fun M A E s Q h => by
    obtain ⟨hp, g, d, tk, os⟩ := s
    have f1 := PySem.F.conv_sub_int
    have f2 := PySem.F.madeHere_int
    repeat (any_goals (first | assumption | wp_step))
    generalize hq : (int_private% "readNumeral") _ _ _ = q
    have e : q = (int_private% "Numeral.value") 9 := by rw [← hq]; kernel_rfl
    subst e
    dsimp only
    repeat (any_goals (first | assumption | wp_step))
    exact ⟨_, rfl, h⟩
section
variable {C : Cx} {A : Around} {σ : Asn} {Q : Value → Asn → Prop} {t u : Tok}
noncomputable def hexV : List (Str × Nat) := [(⟨#[51, 68]⟩, 61), (⟨#[69, 57]⟩, 233), (⟨#[50, 48]⟩, 32), (⟨#[48, 57]⟩, 9)]
theorem f_hex {x : Str} {n : Nat} (hx : hexV.lookup x = some n) (h : Q (.int n 0) σ) : EC C A (.type "int") [.str x t, .int 16 u] σ Q := fun us hus s S => by
  obtain ⟨a, b, rfl, ha, hb⟩ := map2 hus
  obtain ⟨t', rfl⟩ := er_str ha; obtain ⟨u', rfl⟩ := er_int hb
  have fin : ∀ n : Int, Q (.int n 0) σ → (Made.int n).post (fun obj s₁ => s₁.TypeIs obj "int" ∧ ∃ σ', St C σ' s₁ ∧ Q (er obj) σ') s := fun n h => ⟨rfl, σ, S.toks _, h⟩
  unfold hexV at hx
  simp only [List.lookup_cons] at hx
  split at hx
  · rename_i e; obtain rfl := eq_of_beq e; cases hx; exact call_int_2 (gives_hex_3D t' u').meets (fin _ h)
  split at hx
  · rename_i e; obtain rfl := eq_of_beq e; cases hx; exact call_int_2 (gives_hex_E9 t' u').meets (fin _ h)
  split at hx
  · rename_i e; obtain rfl := eq_of_beq e; cases hx; exact call_int_2 (gives_hex_20 t' u').meets (fin _ h)
  split at hx
  · rename_i e; obtain rfl := eq_of_beq e; cases hx; exact call_int_2 (gives_hex_09 t' u').meets (fin _ h)
  · cases hx
end
end TIkInt
section TIkBound
open PySem PySem.Calls PyProof.Rows
set_option maxRecDepth 100000
theorem md_get : typeLookup (.type "method_descriptor") "__get__" = pure (some (.builtin "method_descriptor.__get__")) := by rw [typeLookup_type, builtinLookup_eq_fast]; kernel_rfl
theorem md_set : typeLookup (.type "method_descriptor") "__set__" = pure none := by rw [typeLookup_type, builtinLookup_eq_fast]; kernel_rfl
theorem md_del : typeLookup (.type "method_descriptor") "__delete__" = pure none := by rw [typeLookup_type, builtinLookup_eq_fast]; kernel_rfl
theorem ty_append : typeOf (.builtin "list.append") = pure (.type "method_descriptor") := PySem.F.type_list_append
theorem find_append {M : Model} {A : Around} {E : Value → Shared → Prop} {s : Shared} {a : Addr} {xs : Array Value} {k : Nat} {Q : Builtin.ObjectAttr.Found → Shared → Prop}
    (hx : s.heap.get? a = some { cls := .type "list", dict := none, data := .seq xs k, slots := #[] }) (h : Q (.bind (.builtin "method_descriptor.__get__") (.builtin "list.append")) s) :
    wpAny M A (Builtin.ObjectAttr.find (.ref a) (.type "list") "append") Q E s := by
  unfold Builtin.ObjectAttr.find
  refine wpAny_bind (wpAny_of_eq PySem.F.slot_list_append.lookup ?_)
  unfold Builtin.ObjectAttr.getOf
  refine wpAny_bind (wpAny_specialOf_val ty_append md_get ?_)
  unfold Builtin.ObjectAttr.dataDescriptor?
  dsimp only
  refine wpAny_bind ?_
  refine wpAny_bind ?_
  unfold Builtin.ObjectAttr.takesStores
  refine wpAny_bind (wpAny_specialOf_val ty_append md_set ?_)
  rw [if_neg (by simp)]
  refine wpAny_bind (wpAny_specialOf_val ty_append md_del ?_)
  refine wpAny_pure ?_
  rw [if_neg (by simp)]
  refine wpAny_pure ?_
  dsimp only
  unfold Builtin.ObjectAttr.ownThenClass
  refine wpAny_bind ?_
  unfold Builtin.ObjectAttr.inOwnDict
  dsimp only
  refine wpAny_bind ?_
  unfold Builtin.ObjectAttr.ownDict
  obtain ⟨hp, g, d, tk, os⟩ := s
  repeat (any_goals (first | assumption | wp_step))

theorem slot_mdget : Slot "method_descriptor" "__get__" "method_descriptor.__get__" :=
  .of (owner := "method_descriptor") (n := "__get__") (by rw [typeLookup_type, builtinLookup_eq_fast]; kernel_rfl) (by decide +kernel) (by decide +kernel) (by decide +kernel)
    (by first | exact .inl (by decide +kernel) | exact .inr (by decide +kernel)) (by rw [isSubtype_type]; kernel_rfl)
theorem entry_mdget : entryFor table "method_descriptor.__get__" = some Builtin.«method_descriptor.__get__» := entryFor_of_tree (by kernel_rfl)
theorem args_mdget (a b c : Value) : argsOk "method_descriptor.__get__" ⟨[a, b, c], []⟩ := by unfold argsOk; kernel_rfl
theorem told_append : Manifest.toldItsClass.contains "list.append" = false := by decide +kernel
theorem mdget_append {M : Model} {A : Around} {E : Value → Shared → Prop} {s : Shared} {a : Addr} {o : Obj} {Q : PySem.Fin → Shared → Prop}
    (hx : s.heap.get? a = some o) (hc : o.cls = .type "list") (h : Q (.done (.ret (.ref s.heap.objs.size))) { s with heap := s.heap.push { cls := .type "builtin_function_or_method", data := .fields #[.builtin "list.append", .ref a] } }) :
    wpAny M A (Builtin.«method_descriptor.__get__» ⟨[.builtin "list.append", .ref a, .type "list"], []⟩) Q E s := by
  unfold Builtin.«method_descriptor.__get__»
  refine wpAny_bind (wpAny_of_eq (a := (.builtin "list.append", some (.ref a), some (.type "list"))) (by first | rfl | kernel_rfl) ?_)
  dsimp only
  rw [if_neg (by rw [told_append]; simp)]
  refine wpAny_bind ?_
  refine wpAny_bind (wpAny_of_eq (a := ((Str.ofString "append", Value.type "list") : Str × Value)) (by first | rfl | kernel_rfl) ?_)
  dsimp only
  refine wpAny_bind (wpAny_isInstance (T := "list") (b := true) ⟨o, hx, hc⟩ (by rw [isSubtype_type]; kernel_rfl) ?_)
  rw [if_neg (by simp)]
  refine wpAny_pure ?_
  exact wpAny_bind (wpAny_newObj_type (wpAny_pure h))

noncomputable def bnd (l : Addr) : Res := fun o => o = { cls := .type "builtin_function_or_method", data := .fields #[.builtin "list.append", .ref l] }
theorem meets_getattr_append (a : Addr) (xs : Array Value) (k : Nat) (u : Tok) :
    Meets (Builtin.«object.__getattribute__» ⟨[.ref a, .str "append" u], []⟩) (fun A R s => s.heap.get? a = some { cls := .type "list", dict := none, data := .seq xs k, slots := #[] } ∧ R (.ok (.ret (.ref s.heap.objs.size))) { s with heap := s.heap.push { cls := .type "builtin_function_or_method", data := .fields #[.builtin "list.append", .ref a] } }) :=
  Meets.of_wp fun prog w A R s hs => by
    obtain ⟨hx, hs⟩ := hs
    unfold Builtin.«object.__getattribute__»
    refine wpAny_bind (wpAny_of_eq (a := (.ref a, [.str "append" u])) (by first | rfl | kernel_rfl) ?_)
    dsimp only
    refine wpAny_bind (wpAny_of_eq (a := (Str.ofString "append")) (by first | rfl | kernel_rfl) ?_)
    refine wpAny_bind (wpAny_typeOf (T := "list") ⟨_, hx, rfl⟩ ?_)
    refine wpAny_bind (find_append hx ?_)
    dsimp only
    unfold Builtin.ObjectAttr.bindTo
    dsimp only
    refine wpAny_bind (wpAny_holding (wpAny_call_entry slot_mdget ty_append entry_mdget ?_ (args_mdget _ _ _)))
    exact mdget_append hx rfl ⟨_, rfl, wpAny_pure ⟨_, rfl, hs⟩⟩
theorem am_entry : entryFor table "list.__getattribute__" = some Builtin.«object.__getattribute__» := am_entry_list_getattribute
theorem getAttr_append {prog : Program} {w : World} {A : Around} {E : Value → Shared → Prop} {s : Shared} {a : Addr} {xs : Array Value} {k : Nat} {Q : Value → Shared → Prop}
    (hx : s.heap.get? a = some { cls := .type "list", dict := none, data := .seq xs k, slots := #[] })
    (h : ∀ tk, Q (.ref s.heap.objs.size) { s with heap := s.heap.push { cls := .type "builtin_function_or_method", data := .fields #[.builtin "list.append", .ref a] }, toks := tk }) :
    wpAny (model prog w) A (getAttr (.ref a) "append" true) Q E s := by
  obtain ⟨hp, g, d, tk, os⟩ := s
  have hT : ∀ tk', (⟨hp, g, d, tk', os⟩ : Shared).TypeIs (.ref a) "list" := fun _ => ⟨_, hx, rfl⟩
  have f3 := PySem.F.slot_list_getattribute.lookup
  have f4 := PySem.F.slot_list_getattribute.bind (.ref a)
  unfold getAttr getAttrBy
  repeat (any_goals (first | assumption | exact hT _ | ((with_reducible show wpAny _ _ (call (Value.builtin "list.__getattribute__") _ _) _ _ _); refine call_meets PySem.F.slot_list_getattribute (hT _) am_entry (PySem.F.args_list_getattribute_2 _ _) (meets_getattr_append a xs k _) ⟨hx, ?_⟩) | wp_step))
  exact wpAny_pure (h _)
end TIkBound
section TIkBound2
open PySem PySem.Calls PyProof.Rows
set_option maxRecDepth 100000
theorem quiet_append {as : Args} : (Code.builtin "list.append" as).quiet = true := Code.quiet_builtin _ (by decide +kernel)
theorem sig_append : ∃ sg, Manifest.signature? "list.append" = some sg := ⟨_, by rw [show Manifest.signature? "list.append" = some ((Manifest.signature? "list.append").get (by decide +kernel)) from by simp]⟩
theorem check_append' (a b : Value) : (match Manifest.signature? "list.append" with | none => pure () | some sig => Bind.checkArgs "list.append" { sig with full := s!"{Bind.lastOf "list"}.{Bind.lastOf "list.append"}" } ⟨[a, b], []⟩) = (pure () : Sem Unit) := by kernel_rfl
theorem check_append {M : Model} {A : Around} {E : Value → Shared → Prop} {s : Shared} {l : Addr} {xs : Array Value} {k : Nat} {b : Value} {Q : Unit → Shared → Prop} (hx : s.heap.get? l = some { cls := .type "list", data := .seq xs k }) (h : Q () s) :
    wpAny M A (checkBoundCall "list.append" ⟨[.ref l, b], []⟩) Q E s := by
  obtain ⟨sg, hs⟩ := sig_append
  have hc' := check_append' (.ref l) b
  rw [hs] at hc'
  unfold checkBoundCall
  rw [hs]
  have hk : builtinKind "list.append" = some .method := by kernel_rfl
  rw [hk]
  dsimp only
  rw [if_neg (by decide)]
  refine wpAny_bind (wpAny_isInstance (T := "list") (b := false) ⟨_, hx, rfl⟩ (by rw [isSubtype_type]; kernel_rfl) ?_)
  rw [if_neg (by decide +kernel)]
  refine wpAny_bind ?_
  have hT : s.TypeIs (.ref l) "list" := ⟨_, hx, rfl⟩
  have hty : wpAny M A (isType (.ref l)) (fun b s' => b = false ∧ s' = s) E s := by
    unfold isType loadHead
    exact wpAny_bind (wpAny_loadPart hx (wpAny_pure ⟨rfl, rfl⟩))
  refine wpAny_mono hty (fun b' s' hz => ?_) fun _ _ e => e
  obtain ⟨e1, e2⟩ := hz
  subst e1; subst e2
  rw [if_neg (by simp)]
  refine wpAny_bind (wpAny_typeOf hT ?_)
  dsimp only
  exact wpAny_of_eq hc' h
theorem entry_append : entryFor table "list.append" = some Builtin.«list.append» := entry_list_append
section
variable {C : Cx} {A : Around} {env : Env} {σ σ' : Asn} {Q : Value → Asn → Prop} {l b : Addr} {xs : List Value}
theorem v_bound {x : Str} {p pos : Pos} (h : EV C A env (.Name x p) σ fun v σ₁ => ∃ l, v = .ref l ∧ ∃ xs, Has C σ₁ l (lst xs) ∧ ∀ b, Q (.ref b) ((b, bnd l) :: σ₁)) : EV C A env (.Attribute (.Name x p) "append" pos) σ Q := fun s S => by
  rw [arm_eval_Attribute]
  refine wpAny_bind (wpAny_mono (h s S) (fun v s₁ hz => ?_) fun _ _ e => e)
  obtain ⟨σ₁, S₁, l, hv, xs, hl, hq⟩ := hz
  obtain rfl := er_ref hv
  obtain ⟨items, ⟨n, hp⟩, _⟩ := lst_of (S₁.has hl)
  refine wpAny_bind (wpAny_standAt (wpAny_bind (wpAny_holding (getAttr_append hp fun tk => ?_))))
  refine wpAny_bind (wpAny_pure (wpAny_pure ⟨_, S₁.alloc (r := bnd l) (Heap.get?_none_of_le (Nat.le_refl _)) ⟨_, Heap.get?_push_size _ rfl, rfl⟩ fun b o hb => Heap.get?_push_of_some _ hb, hq _⟩))
theorem f_bound {v : Value} (hb : (b, bnd l) ∈ σ) (hup : Up l (lst xs) (lst (xs ++ [v])) σ σ') (hz : xs.length ≤ sizeLine) (h : Q .none σ') : EC C A (.ref b) [v] σ Q := fun us hus s S => by
  obtain ⟨a, rfl, ha⟩ := List.map_eq_singleton_iff.mp hus
  obtain ⟨o, ho, rfl⟩ := S.get hb
  obtain ⟨items, ⟨n, hp⟩, he⟩ := lst_of (S.get hup.mem)
  refine wpAny_call (codeAny_of_tree ?_)
  show wpAny _ A.in1 (callAny (.ref b) ⟨[a], []⟩) _ _ s
  refine wpAny_bind (wpAny_load ho ?_)
  simp only [show (Value.type "builtin_function_or_method" == Value.type "method" || Value.type "builtin_function_or_method" == Value.type "builtin_function_or_method" || Value.type "builtin_function_or_method" == Value.type "method-wrapper") = true by decide, if_true]
  show wpAny _ _ (if (Value.type "builtin_function_or_method" != Value.type "method") = true then _ else _) _ _ s
  rw [if_pos (by decide)]
  refine wpAny_bind (check_append hp ?_)
  refine wpAny_bind (wpAny_pure (wpAny_pure ?_))
  refine ⟨quiet_append, codeAny_builtin entry_append ?_⟩
  show wpAny _ _ (updateSeq l (·.push a) >>= fun _ => ret .none) _ _ s
  refine wpAny_bind (wpAny_updateSeq hp rfl (wpAny_pure ⟨σ', ?_, h⟩) (by rw [map_size he]; exact hz) (by rw [Array.size_push, map_size he]; lia))
  refine St.set (tk := s.toks) S hup (lst_at (items := items.push a) ⟨n + 1, ?_⟩ ?_) fun b o hb ho => (Heap.SameBut.update ..).extBut b o hb ho
  · rw [Heap.get?_update_self _ hp (by rw [Obj.mapSeq_push_plain]; rfl), Obj.mapSeq_push_plain]
  · rw [Array.toList_push, List.map_append, he, List.map_singleton, ha]
theorem cw_bound {args : List Expr} (hb : (b, bnd l) ∈ σ) (h : EL C A env args σ fun vs σ₁ => (b, bnd l) ∈ σ₁ ∧ EC C A (.ref b) vs σ₁ Q) (hp : NoStar args env := by exact rfl) : CW C A env (.ref b) args σ Q := fun u pos hu s S => by
  obtain rfl := er_ref hu
  unfold callWith
  refine wpAny_bind (wpAny_holding (wpAny_mono (evalArgs_EL h S hp.or) (fun a s' ⟨hk, σ₁, S', hm, h'⟩ => wpAny_bind (wpAny_standAt ?_)) fun _ _ e => e))
  obtain ⟨o, ho, rfl⟩ := S'.get hm
  simp only [hp.any, List.any_nil, Bool.or_false]
  refine wpAny_bind (m := keeperOf (.ref b)) ?_
  unfold keeperOf
  refine wpAny_bind (wpAny_load ho ?_)
  simp only [show (Value.type "builtin_function_or_method" != Value.type "method") = true by decide, show (Value.type "builtin_function_or_method" == Value.type "builtin_function_or_method" || Value.type "builtin_function_or_method" == Value.type "method-wrapper") = true by decide, if_true]
  refine wpAny_pure ?_
  rw [hk, List.nil_append]
  exact wpAny_bind (wpAny_mono (h' a.pos rfl s' S') (fun r s₂ hr => wpAny_bind (wpAny_holding (wpAny_point (wpAny_pure hr)))) fun _ _ x => x)
end
end TIkBound2
section TIkExp
open PySem PySem.Calls PyProof.Rows
set_option maxRecDepth 100000
theorem setItem_plain {prog : Program} {w : World} {A : Around} {E : Value → Shared → Prop} {s : Shared} {l : Addr} {items : Array Value} {j : Nat} {t : Tok} {v : Value} {Q : Unit → Shared → Prop} (hp : s.heap.PlainList l items)
    {k : Int} (hkj : k = (j : Int)) (hfit : k < 2 ^ 63) (hj : j < items.size)
    (hQ : ∀ h', h'.PlainList l (items.setIfInBounds j v) → Heap.SameBut l s.heap h' → Q () { s with heap := h' }) :
    wpAny (model prog w) A (setItem (.ref l) (.int k t) v) Q E s := by
  obtain ⟨n, ho⟩ := id hp
  have hl := hp.isList
  have hf := fitsIndex_of (k := k) (by lia) hfit
  clear hfit
  unfold setItem
  try with_reducible refine wpAny_holding ?_
  first | refine wpAny_bind (wpAny_pure ?_) | skip
  refine wpAny_bind (wpAny_sequenceKey hl.typeIs (by decide) ?_)
  refine wpAny_bind (wpAny_callSpecial?_slot (name := Str.ofString "__setitem__") hl.typeIs slot_list_setitem
    (wpAny_call_entry slot_list_setitem hl.typeIs entry_list_setitem ?_ (args_list_setitem _ _ _)))
  show wpAny _ _ (Builtin.List.listSubscript? (.int k t) >>= _) _ _ s
  refine wpAny_bind (wpAny_listSubscript_int hf ?_)
  subst hkj
  have hx' : items[j]? = some items[j] := Array.getElem?_eq_getElem hj
  show wpAny _ _ ((seqItemAt l j >>= fun r => pure (r.map (j, ·))) >>= _) _ _ s
  refine wpAny_bind (wpAny_bind (wpAny_seqItemAt ho rfl (wpAny_pure ?_)))
  rw [hx']
  show wpAny _ _ (setSeqItemAt l j v >>= _) _ _ s
  have hfin : (s.heap.update l (Obj.mapSeq (·.setIfInBounds j v))).PlainList l (items.setIfInBounds j v) :=
    ⟨if (items.setIfInBounds j v).size == items.size then n else n + 1, by rw [Heap.get?_update_self _ ho rfl]; rfl⟩
  refine wpAny_bind (wpAny_setSeqItemAt ho rfl ?_)
  first
    | exact wpAny_bind (wpAny_pure (wpAny_pure ⟨.none, rfl, wpAny_pure (hQ _ hfin (Heap.SameBut.update ..))⟩))
    | exact wpAny_pure ⟨.none, rfl, wpAny_pure (hQ _ hfin (Heap.SameBut.update ..))⟩

noncomputable def SI (C : Cx) (A : Around) (o i v : Value) (σ : Asn) (Q : Asn → Prop) : Prop := ∀ uo ui uv, er uo = o → er ui = i → er uv = v → EW C A (setItem uo ui uv) σ fun _ σ' => Q σ'
noncomputable def BA (C : Cx) (A : Around) (env : Env) (op : BoolOp) (es : List Expr) (σ : Asn) (Q : Bool → Asn → Prop) : Prop := EW C A (allTrue op es env) σ Q
noncomputable def CH (C : Cx) (A : Around) (pos : Pos) (a : Value) (ops : List CmpOp) (rs : List (Sem Value)) (σ : Asn) (Q : Value → Asn → Prop) : Prop := ∀ u, er u = a → EW C A (compareChain pos u ops rs) σ fun v σ' => Q (er v) σ'
section
variable {C : Cx} {A : Around} {env : Env} {σ σ' : Asn} {Q : Value → Asn → Prop} {QB : Bool → Asn → Prop} {QF : Flow → Asn → Prop} {l b : Addr} {xs : List Value} {pos : Pos}

theorem set_list {j : Nat} {t : Tok} {v : Value} {QU : Asn → Prop} (hj : j < xs.length) (hz : xs.length ≤ sizeLine) (hup : Up l (lst xs) (lst (xs.set j v)) σ σ') (h : QU σ') : SI C A (.ref l) (.int j t) v σ QU := fun uo ui uv ho hi hv s S => by
  obtain rfl := er_ref ho; obtain ⟨t', rfl⟩ := er_int hi
  obtain ⟨items, hp, he⟩ := lst_of (S.get hup.mem)
  have hsz : sizeLine = 2 ^ 24 := rfl
  have h63 : (2 : Int) ^ 63 = 9223372036854775808 := by decide
  have h24 : (2 : Nat) ^ 24 = 16777216 := by decide
  have hlt : (j : Int) < 2 ^ 63 := by lia
  refine setItem_plain (j := j) hp rfl hlt (by rw [map_size he]; exact hj) fun h' hp' hs => ⟨σ', S.set (tk := s.toks) hup (lst_at hp' ?_) fun b o hb ho => hs.extBut b o hb ho, h⟩
  rw [Array.toList_setIfInBounds, List.map_set, he, hv]
theorem s_setitem {o i value : Expr} {pos' pos : Pos} (h : EV C A env value σ fun v σ₁ => EV C A env o σ₁ fun ov σ₂ => EV C A env i σ₂ fun iv σ₃ => SI C A ov iv v σ₃ (QF .next))
    (hs : swapsWith value (some (.Subscript o i pos')) pos.line env = pure false := by exact rfl) : ES C A env (.Assign [.Subscript o i pos'] value pos) σ QF := fun s S =>
  wpAny_Assign_Subscript (wpAny_mono (h s S) (fun v s₁ ⟨_, S₁, h₁⟩ => wpAny_mono (h₁ s₁ S₁) (fun ov s₂ ⟨_, S₂, h₂⟩ => wpAny_mono (h₂ s₂ S₂) (fun iv s₃ ⟨_, S₃, h₃⟩ =>
    wpM (h₃ ov iv v rfl rfl rfl s₃ S₃) fun _ s₄ σ₄ S₄ h₄ => ⟨σ₄, S₄, h₄⟩) fun _ _ e => e) fun _ _ e => e) fun _ _ e => e) hs

theorem t_bool {op : BoolOp} {es : List Expr} (h : BA C A env op es σ QB) : ET C A env (.BoolOp op es pos) σ QB := fun s S => wpAny_isTrue_BoolOp (h s S)
theorem a_nil (h : QB true σ) : BA C A env .And [] σ QB := fun s S => wpAny_allTrue_And_nil ⟨σ, S, h⟩
theorem o_nil (h : QB false σ) : BA C A env .Or [] σ QB := fun s S => wpAny_allTrue_Or_nil ⟨σ, S, h⟩
theorem a_cons {e : Expr} {es : List Expr} (h : ET C A env e σ fun b σ₁ => if b = true then BA C A env .And es σ₁ QB else QB false σ₁) : BA C A env .And (e :: es) σ QB := fun s S =>
  wpAny_allTrue_And_cons (wpAny_mono (h s S) (fun b s₁ ⟨σ₁, S₁, h₁⟩ => by
    cases b with
    | true => exact h₁ s₁ S₁
    | false => exact ⟨σ₁, S₁, h₁⟩) fun _ _ e => e)
theorem o_cons {e : Expr} {es : List Expr} (h : ET C A env e σ fun b σ₁ => if b = true then QB true σ₁ else BA C A env .Or es σ₁ QB) : BA C A env .Or (e :: es) σ QB := fun s S =>
  wpAny_allTrue_Or_cons (wpAny_mono (h s S) (fun b s₁ ⟨σ₁, S₁, h₁⟩ => by
    cases b with
    | false => exact h₁ s₁ S₁
    | true => exact ⟨σ₁, S₁, h₁⟩) fun _ _ e => e)
theorem v_and {e₁ e₂ : Expr} {es : List Expr} (h : EV C A env e₁ σ fun v σ₁ => EB C A v σ₁ fun b σ₂ => if b = true then EV C A env (.BoolOp .And (e₂ :: es) pos) σ₂ Q else Q v σ₂) : EV C A env (.BoolOp .And (e₁ :: e₂ :: es) pos) σ Q := fun s S =>
  BoolOp_and (wpAny_mono (h s S) (fun v s₁ ⟨_, S₁, h₁⟩ => wpAny_mono (h₁ v rfl s₁ S₁) (fun b s₂ ⟨σ₂, S₂, h₂⟩ => by
    cases b with
    | true => exact h₂ s₂ S₂
    | false => exact ⟨σ₂, S₂, h₂⟩) fun _ _ e => e) fun _ _ e => e)
theorem v_bone {op : BoolOp} {e : Expr} (h : EV C A env e σ Q) : EV C A env (.BoolOp op [e] pos) σ Q := fun s S => BoolOp_one (h s S)

theorem v_chain2 {l r₁ r₂ : Expr} {op₁ op₂ : CmpOp} (h : EV C A env l σ fun a σ₁ => EV C A env r₁ σ₁ fun b σ₂ => E2 C A (compareOp op₁) a b σ₂ fun c σ₃ => EB C A c σ₃ fun t σ₄ => if t = true then EV C A env r₂ σ₄ fun d σ₅ => E2 C A (compareOp op₂) b d σ₅ Q else Q c σ₄)
    (hm : lastMarks [op₁, op₂] [r₁, r₂] = false := by with_unfolding_all rfl) : EV C A env (.Compare l [op₁, op₂] [r₁, r₂] pos) σ Q := fun s S =>
  Compare_chain (wpAny_mono (h s S) (fun a s₁ ⟨_, S₁, h₁⟩ => chain_link (wpAny_mono (h₁ s₁ S₁) (fun b s₂ ⟨_, S₂, h₂⟩ => wpAny_mono (h₂ a b rfl rfl s₂ S₂) (fun c s₃ ⟨_, S₃, h₃⟩ => wpAny_mono (h₃ c rfl s₃ S₃) (fun t s₄ ⟨σ₄, S₄, h₄⟩ => by
    cases t with
    | false => exact ⟨σ₄, S₄, h₄⟩
    | true => exact chain_last (wpM (h₄ s₄ S₄) fun d s₅ _ S₅ h₅ => h₅ b d rfl rfl s₅ S₅)) fun _ _ e => e) fun _ _ e => e) fun _ _ e => e)) fun _ _ e => e) hm

theorem s_assert {test : Expr} {msg : Option Expr} (h : ET C A env test σ fun b σ₁ => b = true ∧ QF .next σ₁) : ES C A env (.Assert test msg pos) σ QF := fun s S =>
  wpAny_Assert_holds (wpAny_mono (h s S) (fun b s₁ ⟨σ₁, S₁, hb, h₁⟩ => ⟨hb, σ₁, S₁, h₁⟩) fun _ _ e => e)
theorem s_assign_tuple {ts : List Expr} {k : Nat} {p : Pos} {e : Expr} (h : EV C A env e σ fun v σ' => AS C A env (.Tuple ts k p) v σ' (QF .next))
    (hs : swapsWithSole [.Tuple ts k p] e pos.line env = pure false := by exact rfl) (hw : swappedStores [.Tuple ts k p] e env = pure none := by exact rfl) : ES C A env (.Assign [.Tuple ts k p] e pos) σ QF := fun s S =>
  Assign_Tuple (wpM (h s S) fun v s₁ _ S₁ h₁ => wpM (h₁ v rfl s₁ S₁) fun _ s₂ σ₂ S₂ h₂ => ⟨σ₂, S₂, h₂⟩) hs hw
theorem s_assign_two {ts : List Expr} {k : Nat} {p : Pos} {e : Expr} {x y : Str} (hh : A.handled = none) (h : EV C A env e σ fun v σ₁ => ∃ T a b, v = .ref T ∧ Has C σ₁ T (tup [a, b]) ∧ EN C A env y b σ₁ fun σ₂ => EN C A env x a σ₂ (QF .next))
    (hs : swapsWithSole [.Tuple ts k p] e pos.line env = pure false := by exact rfl) (hw : swappedStores [.Tuple ts k p] e env = pure (some [x, y]) := by exact rfl) : ES C A env (.Assign [.Tuple ts k p] e pos) σ QF := fun s S => by
  refine Assign_Tuple_swapped (names := [x, y]) (wpAny_mono (h s S) (fun v s₁ hz => ?_) fun _ _ e => e) hs hw
  obtain ⟨σ₁, S₁, T, a, b, hv, ht, h₁⟩ := hz
  obtain rfl := er_ref hv
  obtain ⟨items, n, hp, he⟩ := tup_of (S₁.has ht)
  have hsz : items.size = 2 := by rw [map_size he]; rfl
  obtain ⟨ua, ub, hab, hea, heb⟩ := map2 he
  have := unpackItems_tuple (prog := C.prog) (w := C.w) (A := A) (E := fun _ _ => False) (s := s₁) (t := T) (items := items) (Q := fun items s₂ => wpAny (model C.prog C.w) A (assignInOrder ([x, y].reverse.map fun n => bindName env n) items.reverse) (fun _ s' => ∃ σ', St C σ' s' ∧ QF (erF .next) σ') (fun _ _ => False) s₂) hh (isTup_of hp) (fun h' hx => ?_)
  · rw [hsz] at this; exact this
  · rw [hab]
    have S₂ := S₁.grow (tk := s₁.toks) fun b o hb => hx b o (Nat.ne_of_lt (Heap.lt_size hb)) hb
    refine wpAny_assignInOrder_more (wpAny_bindName (wpM (h₁ ub heb _ S₂) fun _ s₃ σ₃ S₃ h₃ => ?_))
    exact wpAny_assignInOrder_more (wpAny_bindName (wpM (h₃ ua hea _ S₃) fun _ s₄ σ₄ S₄ h₄ => wpAny_assignInOrder_none ⟨σ₄, S₄, h₄⟩))
end
end TIkExp
section TIkBase
open PySem PySem.Calls PyProof.Rows
set_option maxRecDepth 4000
noncomputable abbrev pw := PySem.Challenge.pw_ik0165_01
noncomputable def stAt (k : Nat) : Stmt := (pw.main.body[k]?).getD (.Pass ⟨0,0,0,0⟩)
noncomputable def fnP : Stmt → Arguments
  | .FunctionDef _ a _ _ _ _ _ _ _ _ => a
  | _ => ⟨[], [], none, [], [], none, []⟩
noncomputable def fnB : Stmt → List Stmt
  | .FunctionDef _ _ b _ _ _ _ _ _ _ => b
  | _ => []
noncomputable def fnS : Stmt → Scope
  | .FunctionDef _ _ _ _ _ _ s _ _ _ => s
  | _ => ⟨.function, [], false, false, []⟩
noncomputable abbrev FnK (C : Cx) (f : Addr) (qual : Str) (k : Nat) (dV : Value) : Prop := FnAt C f qual (fnP (stAt k)) (fnB (stAt k)) (fnS (stAt k)) dV
noncomputable abbrev sv (l : List Nat) : Value := .str ⟨l.toArray⟩ 0
noncomputable def hexC (d : Nat) : Nat := if d < 10 then 48 + d else 55 + d
noncomputable def quo (c : Nat) : List Nat := [61, hexC (c / 16), hexC (c % 16)]
noncomputable def quoMap : List (List Nat) := (List.range 256).map quo
noncomputable def plainC (c : Nat) : Bool := (32 ≤ c && c ≤ 126 && c != 61) || c == 9 || c == 13 || c == 10
noncomputable def enc (c : Nat) : List Nat := if plainC c then [c] else quo c
noncomputable def encMap : List (List Nat) := (List.range 256).map enc
structure Lay where
  aUnquote : Addr
  aQuote : Addr
  aBodyEncode : Addr
  aDecode : Addr
  aEscape : Addr
  aTranslate : Addr
  aHeappop : Addr
  aHeapreplace : Addr
  aHeapify : Addr
  aSiftdown : Addr
  aSiftup : Addr
  aLawLetters : Addr
  aLawWire : Addr
  aLawBySums : Addr
  aLawMeets : Addr
  aLawLines : Addr
  aLawComesBack : Addr
  aLaw : Addr
  dBody : Addr
  dDecode : Addr
  quoM : Addr
  encM : Addr
  spec : Addr
  twin : Addr

noncomputable def hexDigits : List Nat := [48, 49, 50, 51, 52, 53, 54, 55, 56, 57, 97, 98, 99, 100, 101, 102, 65, 66, 67, 68, 69, 70]
noncomputable def globs (L : Lay) : List (Str × Value) := [("unquote", .ref L.aUnquote), ("quote", .ref L.aQuote), ("body_encode", .ref L.aBodyEncode), ("decode", .ref L.aDecode), ("escape", .ref L.aEscape), ("_translate", .ref L.aTranslate), ("heappop", .ref L.aHeappop), ("heapreplace", .ref L.aHeapreplace), ("heapify", .ref L.aHeapify), ("_siftdown", .ref L.aSiftdown), ("_siftup", .ref L.aSiftup), ("_law_letters", .ref L.aLawLetters), ("_law_wire", .ref L.aLawWire), ("_law_by_sums", .ref L.aLawBySums), ("_law_meets", .ref L.aLawMeets), ("_law_lines", .ref L.aLawLines), ("_law_comes_back", .ref L.aLawComesBack), ("law", .ref L.aLaw), ("CRLF", sv [13, 10]), ("hexdigits", sv hexDigits), ("_QUOPRI_MAP", .ref L.quoM), ("_QUOPRI_BODY_ENCODE_MAP", .ref L.encM), ("_special_chars_map", .ref L.spec), ("_twin_re_1", .ref L.twin)]
noncomputable def bnames : List (Str × Value) := [("chr", .builtin "chr"), ("int", .type "int"), ("ord", .builtin "ord"), ("len", .builtin "len"), ("isinstance", .builtin "isinstance"), ("str", .type "str"), ("range", .type "range"), ("sorted", .builtin "sorted"), ("sum", .builtin "sum"), ("list", .type "list"), ("zip", .type "zip"), ("reversed", .type "reversed"), ("ValueError", .type "ValueError")]
structure Base (C : Cx) (mg : Str → Option Value) (L : Lay) : Prop where
  G : Glob C mg
  fUnquote : FnK C L.aUnquote "unquote" 15 .none
  fQuote : FnK C L.aQuote "quote" 16 .none
  fBodyEncode : FnK C L.aBodyEncode "body_encode" 20 (.ref L.dBody)
  fDecode : FnK C L.aDecode "decode" 21 (.ref L.dDecode)
  fEscape : FnK C L.aEscape "escape" 25 .none
  fTranslate : FnK C L.aTranslate "_translate" 27 .none
  fHeappop : FnK C L.aHeappop "heappop" 29 .none
  fHeapreplace : FnK C L.aHeapreplace "heapreplace" 30 .none
  fHeapify : FnK C L.aHeapify "heapify" 31 .none
  fSiftdown : FnK C L.aSiftdown "_siftdown" 32 .none
  fSiftup : FnK C L.aSiftup "_siftup" 33 .none
  fLawLetters : FnK C L.aLawLetters "_law_letters" 35 .none
  fLawWire : FnK C L.aLawWire "_law_wire" 36 .none
  fLawBySums : FnK C L.aLawBySums "_law_by_sums" 37 .none
  fLawMeets : FnK C L.aLawMeets "_law_meets" 38 .none
  fLawLines : FnK C L.aLawLines "_law_lines" 39 .none
  fLawComesBack : FnK C L.aLawComesBack "_law_comes_back" 40 .none
  fLaw : FnK C L.aLaw "law" 41 .none
  g : ∀ x v, (globs L).lookup x = some v → ∃ u, mg x = some u ∧ er u = v
  n : ∀ x v, bnames.lookup x = some v → mg x = none ∧ bootBuiltins x = some v ∧ x ≠ "__name__" ∧ er v = v
  mQuo : At C.B.heap L.quoM (lst (quoMap.map sv))
  mEnc : At C.B.heap L.encM (lst (encMap.map sv))
  mSpec : ∃ f, C.B.heap.MapOf (intKind C.prog C.w) L.spec f ∧ ∀ c ∈ [61, 67, 56, 57, 65], f c = none
  sSpec : (L.spec == sysModules) = false
  mBody : At C.B.heap L.dBody (tup [.int 76 0, sv [10]])
  mDecode : At C.B.heap L.dDecode (tup [sv [10]])
end TIkBase
section TIkAuto
open PySem PySem.Calls PyProof.Rows
set_option maxRecDepth 4000
noncomputable def kL (env : Env) (x : Str) : Bool := (env.kindOf x == some .local) && (env.scope.kind == .function) && !(x == ("__debug__" : Str))
noncomputable def kC (env : Env) (x : Str) : Bool := (env.kindOf x == some .cell) && (env.scope.kind == .function) && !(x == ("__debug__" : Str))
noncomputable def kG (env : Env) (x : Str) : Bool := (env.kindOf x == some .globalImplicit) && (env.scope.kind == .function) && !(x == ("__debug__" : Str)) && (env.globals == mainGlobals) && (env.builtins == builtinsNs)
theorem kL_of {env : Env} {x : Str} (h : kL env x = true) : env.kindOf x = some .local ∧ env.scope.kind = .function ∧ (x == ("__debug__" : Str)) = false := by
  unfold kL at h
  simp only [Bool.and_eq_true, Bool.not_eq_true', beq_iff_eq] at h
  exact ⟨h.1.1, h.1.2, h.2⟩
theorem kC_of {env : Env} {x : Str} (h : kC env x = true) : env.kindOf x = some .cell ∧ env.scope.kind = .function ∧ (x == ("__debug__" : Str)) = false := by
  unfold kC at h
  simp only [Bool.and_eq_true, Bool.not_eq_true', beq_iff_eq] at h
  exact ⟨h.1.1, h.1.2, h.2⟩
theorem kG_of {env : Env} {x : Str} (h : kG env x = true) : env.kindOf x = some .globalImplicit ∧ env.scope.kind = .function ∧ (x == ("__debug__" : Str)) = false ∧ env.globals = mainGlobals ∧ env.builtins = builtinsNs := by
  unfold kG at h
  simp only [Bool.and_eq_true, Bool.not_eq_true', beq_iff_eq] at h
  exact ⟨h.1.1.1.1, h.1.1.1.2, h.1.1.2, h.1.2, h.2⟩
noncomputable def GV (mg : Str → Option Value) (x : Str) (v : Value) : Prop := ∃ u, mg x = some u ∧ er u = v
noncomputable def BV (mg : Str → Option Value) (x : Str) (v : Value) : Prop := mg x = none ∧ bootBuiltins x = some v ∧ x ≠ "__name__" ∧ er v = v
section
variable {C : Cx} {A : Around} {env : Env} {σ σ' : Asn} {Q : Value → Asn → Prop} {QF : Flow → Asn → Prop} {mg : Str → Option Value} {L : Lay}
theorem GV.of {x : Str} {v : Value} (B : Base C mg L) (h : (globs L).lookup x = some v) : GV mg x v := B.g x v h
theorem BV.of {x : Str} {v : Value} (B : Base C mg L) (h : bnames.lookup x = some v) : BV mg x v := B.n x v h
theorem Wk.left {ρ τ : Asn} (h : Wk σ ρ) : Wk (τ ++ σ) ρ := by
  induction τ with
  | nil => exact h
  | cons p τ ih => exact .drop ih
theorem lv {x : Str} {pos : Pos} {v : Value} {l : List (Str × Value)} (h : Q v σ) (hl : kL env x = true := by first | with_reducible assumption | kernel_rfl)
    (hm : (env.locals, ns l) ∈ σ := by first | ((repeat (first | exact List.Mem.head _ | refine List.Mem.tail _ ?_)); done) | fail) (hv : l.lookup x = some v := by exact rfl) : EV C A env (.Name x pos) σ Q :=
  v_local hm hv h (kL_of hl).1 (kL_of hl).2.1 (kL_of hl).2.2
theorem cv {x : Str} {pos : Pos} {v : Value} {c : Addr} (h : Q v σ) (hl : kC env x = true := by first | with_reducible assumption | kernel_rfl) (hc : env.cells.lookup x = some c := by exact rfl)
    (hm : (c, cel (some v)) ∈ σ := by first | ((repeat (first | exact List.Mem.head _ | refine List.Mem.tail _ ?_)); done) | fail) : EV C A env (.Name x pos) σ Q := v_cell hc hm h (kC_of hl).1 (kC_of hl).2.1 (kC_of hl).2.2
theorem ln {x : Str} {v : Value} {l : List (Str × Value)} {Q : Asn → Prop} (h : Q σ') (hl : kL env x = true := by first | with_reducible assumption | kernel_rfl)
    (u : Up env.locals (ns l) (ns ((x, v) :: l)) σ σ' := by first | ((repeat (first | exact Up.here | apply Up.there)); done) | fail) : EN C A env x v σ Q := n_local u h (kL_of hl).1 (by rw [(kL_of hl).2.1]; rfl)
theorem cn {x : Str} {v : Value} {c : Addr} {v₀ : Option Value} {Q : Asn → Prop} (h : Q σ') (hl : kC env x = true := by first | with_reducible assumption | kernel_rfl) (hc : env.cells.lookup x = some c := by exact rfl)
    (u : Up c (cel v₀) (cel (some v)) σ σ' := by first | ((repeat (first | exact Up.here | apply Up.there)); done) | fail) : EN C A env x v σ Q := n_cell hc u h (kC_of hl).1 (kC_of hl).2.1
theorem EW.out {α : Type} {t : Sem α} {Q : α → Asn → Prop} (h : EW C A t σ fun v τ => ∃ τ', Wk τ τ' ∧ Q v τ') : EW C A t σ Q := fun s S =>
  wpAny_mono (h s S) (fun v s' ⟨τ, S', τ', w, q⟩ => ⟨τ', S'.wk w, q⟩) fun _ _ e => e
theorem c_w {f : Addr} {qual : Str} {params : Arguments} {body : List Stmt} {scope : Scope} {dV : Value} {vs : List Value} {l : List (Str × Value)} {ll : List (Str × Value)} {cs : Addr → Asn} (hlim : C.B.heap.NoLimit) (F : FnAt C f qual params body scope dV) (hroom : A.depth < recursionLimit) (hb : Binds C σ qual params body scope dV vs l)
    (h : ∀ L cdv, EX C (A.deeper (fenv qual scope L f cdv)) (fenv qual scope L f cdv) body ((L, ns ll) :: (cs L ++ σ)) (RetK Q))
    (hkind : l.all (fun x => kindB scope x.1) = true := by exact rfl)
    (hnd : nodupB ((cellsFrom 0 scope.names []).map (·.1)) = true := by exact rfl) (hll : locE scope.names l = ll := by exact rfl) (hcs : ∀ L, celE scope.names l L = cs L := by exact fun _ => rfl)
    (hk : scope.kind = .function := by exact rfl) (hco : scope.isCoroutine = false := by exact rfl) (hgen : scope.isGenerator = false := by exact rfl) : EC C A (.ref f) vs σ Q := fun us hus =>
  EW.out (c_def (Q := fun v τ => ∃ τ', Wk τ τ' ∧ Q v τ') hlim F hroom hb (fun L cdv => EX.mono (h L cdv) fun fl σ' ⟨τ, w, q⟩ => ⟨σ', List.Sublist.refl _, τ, w, q⟩) hkind hnd hll hcs hk hco hgen us hus)
theorem gv {x : Str} {pos : Pos} {v : Value} (B : Base C mg L) (h : Q v σ) (hl : kG env x = true := by first | with_reducible assumption | kernel_rfl)
    (hv : GV mg x v := by first | with_reducible assumption | exact GV.of B (by exact rfl)) : EV C A env (.Name x pos) σ Q := by
  obtain ⟨u, hu, rfl⟩ := hv
  exact v_glob B.G hu h (kG_of hl).2.2.2.1 (kG_of hl).1 (kG_of hl).2.1 (kG_of hl).2.2.1
theorem bv {x : Str} {pos : Pos} {v : Value} (B : Base C mg L) (h : Q v σ) (hl : kG env x = true := by first | with_reducible assumption | kernel_rfl)
    (hv : BV mg x v := by first | with_reducible assumption | exact BV.of B (by exact rfl)) : EV C A env (.Name x pos) σ Q := by
  obtain ⟨h1, h2, h3, h4⟩ := hv
  exact v_builtin B.G h1 h2 (by rw [h4]; exact h) (kG_of hl).2.2.2.1 (kG_of hl).2.2.2.2 (kG_of hl).1 (kG_of hl).2.1 (kG_of hl).2.2.1 h3
theorem gv' {x : Str} {pos : Pos} {v : Value} (h : Q v σ) (B : Base C mg L := by assumption) (hl : kG env x = true := by first | with_reducible assumption | kernel_rfl)
    (hv : GV mg x v := by first | with_reducible assumption | exact GV.of B (by exact rfl)) : EV C A env (.Name x pos) σ Q := gv B h hl hv
theorem bv' {x : Str} {pos : Pos} {v : Value} (h : Q v σ) (B : Base C mg L := by assumption) (hl : kG env x = true := by first | with_reducible assumption | kernel_rfl)
    (hv : BV mg x v := by first | with_reducible assumption | exact BV.of B (by exact rfl)) : EV C A env (.Name x pos) σ Q := bv B h hl hv
theorem ite_t {c : Prop} [Decidable c] {a b : Prop} (h : c) (ha : a) : if c then a else b := by rw [if_pos h]; exact ha
theorem ite_n {c : Prop} [Decidable c] {a b : Prop} (h : ¬c) (hb : b) : if c then a else b := by rw [if_neg h]; exact hb
theorem ite_dt {p : Prop} [Decidable p] {a b : Prop} (h : p) (ha : a) : if decide p = true then a else b := ite_t (decide_eq_true h) ha
theorem ite_df {p : Prop} [Decidable p] {a b : Prop} (h : ¬p) (hb : b) : if decide p = true then a else b := ite_n (by simpa using h) hb
theorem nr {rest : List Stmt} {Q : Flow → Asn → Prop} {v : Value} (h : Q (.ret v) σ) : Nx C A env rest Q (.ret v) σ := h
theorem nb {rest : List Stmt} {Q : Flow → Asn → Prop} (h : Q .brk σ) : Nx C A env rest Q .brk σ := h
theorem nc {rest : List Stmt} {Q : Flow → Asn → Prop} (h : Q .cont σ) : Nx C A env rest Q .cont σ := h
theorem wb {I : Nat → Asn → Prop} {n : Nat} {Q : Flow → Asn → Prop} (h : Q .next σ) : WhQ I n Q .brk σ := h
theorem wr {I : Nat → Asn → Prop} {n : Nat} {Q : Flow → Asn → Prop} {v : Value} (h : Q (.ret v) σ) : WhQ I n Q (.ret v) σ := h
theorem fb {R : Nat → Asn} {J : Nat → Asn → Prop} {n : Nat} {Q : Flow → Asn → Prop} (h : Q .next σ) : ForQ R J n Q .brk σ := h
theorem fr {R : Nat → Asn} {J : Nat → Asn → Prop} {n : Nat} {Q : Flow → Asn → Prop} {v : Value} (h : Q (.ret v) σ) : ForQ R J n Q (.ret v) σ := h
theorem kf {K Q : Flow → Asn → Prop} {f : Flow} (hk : ∀ f σ', Q f σ' → K f σ') (h : Q f σ) : K f σ := hk _ _ h
theorem kv {K Q : Value → Asn → Prop} {v : Value} (hk : ∀ y σ', Q y σ' → K y σ') (h : Q v σ) : K v σ := hk _ _ h
theorem ka {K Q : Asn → Prop} (hk : ∀ σ', Q σ' → K σ') (h : Q σ) : K σ := hk _ h
theorem x_K {ss : List Stmt} {Q : Flow → Asn → Prop} (h : ∀ K : Flow → Asn → Prop, (∀ f σ', Q f σ' → K f σ') → EX C A env ss σ K) : EX C A env ss σ Q := h Q fun _ _ h => h
inductive LawFn (L : Lay) : Addr → Prop
  | unquote : LawFn L L.aUnquote
  | quote : LawFn L L.aQuote
  | bodyEncode : LawFn L L.aBodyEncode
  | decode : LawFn L L.aDecode
  | escape : LawFn L L.aEscape
  | translate : LawFn L L.aTranslate
  | heappop : LawFn L L.aHeappop
  | heapreplace : LawFn L L.aHeapreplace
  | heapify : LawFn L L.aHeapify
  | siftdown : LawFn L L.aSiftdown
  | siftup : LawFn L L.aSiftup
  | lawLetters : LawFn L L.aLawLetters
  | lawWire : LawFn L L.aLawWire
  | lawBySums : LawFn L L.aLawBySums
  | lawMeets : LawFn L L.aLawMeets
  | lawLines : LawFn L L.aLawLines
  | lawComesBack : LawFn L L.aLawComesBack
theorem LawFn.ok {a : Addr} (B : Base C mg L) (h : LawFn L a) : ∃ qual params body scope dV, FnAt C a qual params body scope dV := by
  cases h
  · exact ⟨_, _, _, _, _, B.fUnquote⟩
  · exact ⟨_, _, _, _, _, B.fQuote⟩
  · exact ⟨_, _, _, _, _, B.fBodyEncode⟩
  · exact ⟨_, _, _, _, _, B.fDecode⟩
  · exact ⟨_, _, _, _, _, B.fEscape⟩
  · exact ⟨_, _, _, _, _, B.fTranslate⟩
  · exact ⟨_, _, _, _, _, B.fHeappop⟩
  · exact ⟨_, _, _, _, _, B.fHeapreplace⟩
  · exact ⟨_, _, _, _, _, B.fHeapify⟩
  · exact ⟨_, _, _, _, _, B.fSiftdown⟩
  · exact ⟨_, _, _, _, _, B.fSiftup⟩
  · exact ⟨_, _, _, _, _, B.fLawLetters⟩
  · exact ⟨_, _, _, _, _, B.fLawWire⟩
  · exact ⟨_, _, _, _, _, B.fLawBySums⟩
  · exact ⟨_, _, _, _, _, B.fLawMeets⟩
  · exact ⟨_, _, _, _, _, B.fLawLines⟩
  · exact ⟨_, _, _, _, _, B.fLawComesBack⟩
theorem wF {a : Addr} {args : List Expr} (h : EL C A env args σ fun vs σ₁ => EC C A (.ref a) vs σ₁ Q) (B : Base C mg L := by assumption) (hf : LawFn L a := by constructor) (hp : NoStar args env := by exact rfl) : CW C A env (.ref a) args σ Q := by
  obtain ⟨_, _, _, _, _, F⟩ := hf.ok B
  exact cw_fn F h hp
inductive IntOp (i j : Int) : (Value → Value → Sem Value) → Value → Prop
  | add : IntOp i j (binaryOp .Add) (.int (i + j) 0)
  | sub : IntOp i j (binaryOp .Sub) (.int (i - j) 0)
  | lt : IntOp i j (compareOp .Lt) (.bool (decide (i < j)))
  | gt : IntOp i j (compareOp .Gt) (.bool (decide (j < i)))
  | le : IntOp i j (compareOp .LtE) (.bool (decide (i ≤ j)))
  | ge : IntOp i j (compareOp .GtE) (.bool (decide (j ≤ i)))
  | eq : IntOp i j (compareOp .Eq) (.bool (i == j))
  | ne : IntOp i j (compareOp .NotEq) (.bool (i != j))
  | iadd : IntOp i j (inplaceOp .Add) (.int (i + j) 0)
theorem o_int {op : Value → Value → Sem Value} {i j : Int} {ti tj : Tok} {v : Value} (h : Q v σ) (m : IntOp i j op v := by constructor) : E2 C A op (.int i ti) (.int j tj) σ Q := by
  cases m
  · exact o_add h
  · exact o_sub h
  · exact o_lt h
  · exact o_gt h
  · exact o_le h
  · exact o_ge h
  · exact o_eq h
  · exact o_ne h
  · exact o_iadd h
end
end TIkAuto
section TIkSl
open PySem PySem.Calls PyProof.Rows
set_option maxRecDepth 4000
theorem clip_nat (n a : Nat) : clipAt n (a : Int) = min a n := by
  unfold clipAt
  lia
theorem sl_nn (l : List Nat) (a b : Nat) : sl ⟨l.toArray⟩ (some (a : Int)) (some (b : Int)) = ⟨((l.drop a).take (b - a)).toArray⟩ := by
  unfold sl
  simp only [Option.elim, clip_nat, Str.length, List.size_toArray]
  congr 2
  by_cases ha : a ≤ l.length
  · rw [Nat.min_eq_left ha]
    by_cases hb : b ≤ l.length
    · rw [Nat.min_eq_left hb]
    · rw [Nat.min_eq_right (by lia), List.take_of_length_le (by simp), List.take_of_length_le (by simp; lia)]
  · rw [Nat.min_eq_right (a := a) (by lia), List.drop_of_length_le (Nat.le_refl _), List.drop_of_length_le (by lia)]; simp
theorem sl_n (l : List Nat) (a : Nat) : sl ⟨l.toArray⟩ (some (a : Int)) none = ⟨(l.drop a).toArray⟩ := by
  unfold sl
  simp only [Option.elim, clip_nat, Str.length, List.size_toArray]
  congr 2
  by_cases ha : a ≤ l.length
  · rw [Nat.min_eq_left ha, List.take_of_length_le (by simp)]
  · rw [Nat.min_eq_right (by lia), List.drop_of_length_le (Nat.le_refl _), List.drop_of_length_le (by lia)]; simp
theorem sl_h (l : List Nat) (b : Nat) : sl ⟨l.toArray⟩ none (some (b : Int)) = ⟨(l.take b).toArray⟩ := by
  unfold sl
  simp only [Option.elim, clip_nat, Str.length, List.size_toArray, Nat.sub_zero, List.drop_zero]
  congr 2
  by_cases hb : b ≤ l.length
  · rw [Nat.min_eq_left hb]
  · rw [Nat.min_eq_right (by lia), List.take_of_length_le (Nat.le_refl _), List.take_of_length_le (by lia)]
theorem sl_m1 (l : List Nat) (a : Nat) : sl ⟨l.toArray⟩ (some (a : Int)) (some (-1)) = ⟨(l.drop a).dropLast.toArray⟩ := by
  unfold sl
  have e : clipAt l.length (-1) = l.length - 1 := by unfold clipAt; lia
  simp only [Option.elim, clip_nat, Str.length, List.size_toArray, e]
  congr 1
  rw [List.dropLast_eq_take, List.length_drop]
  by_cases ha : a ≤ l.length
  · rw [Nat.min_eq_left ha]; congr 1; congr 1; lia
  · rw [Nat.min_eq_right (by lia), List.drop_of_length_le (Nat.le_refl _), List.drop_of_length_le (by lia)]; simp
theorem sl_hm1 (l : List Nat) : sl ⟨l.toArray⟩ none (some (-1)) = ⟨l.dropLast.toArray⟩ := by
  have e : clipAt l.length (-1) = l.length - 1 := by unfold clipAt; lia
  unfold sl
  simp only [Option.elim, Str.length, List.size_toArray, e, List.drop_zero, Nat.sub_zero]
  rw [List.dropLast_eq_take]

section
variable {C : Cx} {A : Around} {env : Env} {σ σ' : Asn} {Q : Value → Asn → Prop} {QB : Bool → Asn → Prop} {l m : List Nat} {i j : Int} {t u : Tok} {a b c d : Nat} {y : Str}
theorem q_nn (hz : l.length ≤ sizeLine) (ha : i = (a : Int)) (hb : j = (b : Int)) (h : Q (sv ((l.drop a).take (b - a))) σ) : SL C A (.str ⟨l.toArray⟩ t) (.int i 0) (.int j 0) .none σ Q := by
  subst ha; subst hb
  exact sl_str (lo := some (a : Int)) (hi := some (b : Int)) (by simpa [Str.length] using hz) (by rw [sl_nn]; exact h)
theorem q_n (hz : l.length ≤ sizeLine) (ha : i = (a : Int)) (h : Q (sv (l.drop a)) σ) : SL C A (.str ⟨l.toArray⟩ t) (.int i 0) .none .none σ Q := by
  subst ha
  exact sl_str (lo := some (a : Int)) (hi := none) (by simpa [Str.length] using hz) (by rw [sl_n]; exact h)
theorem q_h (hz : l.length ≤ sizeLine) (hb : j = (b : Int)) (h : Q (sv (l.take b)) σ) : SL C A (.str ⟨l.toArray⟩ t) .none (.int j 0) .none σ Q := by
  subst hb
  exact sl_str (lo := none) (hi := some (b : Int)) (by simpa [Str.length] using hz) (by rw [sl_h]; exact h)
theorem q_m1 (hz : l.length ≤ sizeLine) (ha : i = (a : Int)) (hj : j = -1) (h : Q (sv (l.drop a).dropLast) σ) : SL C A (.str ⟨l.toArray⟩ t) (.int i 0) (.int j 0) .none σ Q := by
  subst ha; subst hj
  exact sl_str (lo := some (a : Int)) (hi := some (-1)) (by simpa [Str.length] using hz) (by rw [sl_m1]; exact h)
theorem q_hm1 (hz : l.length ≤ sizeLine) (hj : j = -1) (h : Q (sv l.dropLast) σ) : SL C A (.str ⟨l.toArray⟩ t) .none (.int j 0) .none σ Q := by
  subst hj
  exact sl_str (lo := none) (hi := some (-1)) (by simpa [Str.length] using hz) (by rw [sl_hm1]; exact h)
theorem g_at (hz : l.length ≤ sizeLine) (hi : i = (a : Int)) (hc : l[a]? = some c) (h : Q (sv [c]) σ) : GI C A (.str ⟨l.toArray⟩ t) (.int i u) σ Q := by
  subst hi
  have hlt : a < l.length := by
    rcases Nat.lt_or_ge a l.length with h | h
    · exact h
    · rw [List.getElem?_eq_none h] at hc; cases hc
  have hs : sizeLine = 16777216 := by decide
  refine i_str (j := a) (c := c) (by lia) (by lia) (by rw [PySem.seqIndex_of (by lia) (by simp only [Str.length, List.size_toArray]; lia)]; simp) (by simpa using hc) h
theorem g_last (hz : l.length ≤ sizeLine) (hi : i = -1) (hc : l.getLast? = some c) (h : Q (sv [c]) σ) : GI C A (.str ⟨l.toArray⟩ t) (.int i u) σ Q := by
  subst hi
  have hne : l ≠ [] := by intro e; subst e; cases hc
  have hpos : 0 < l.length := List.length_pos_iff.mpr hne
  have hs : sizeLine = 16777216 := by decide
  refine i_str (j := l.length - 1) (c := c) (by lia) (by lia) ?_ ?_ h
  · simp only [Str.length, List.size_toArray]; rw [MeetsSeq.seqIndex_neg (by lia) (by lia)]; congr 1; lia
  · rw [List.getLast?_eq_getElem?] at hc; simpa using hc
theorem o_eqc (h : Q (.bool (c == d)) σ) (hy : y = ⟨#[d]⟩ := by exact rfl) : E2 C A (compareOp .Eq) (sv [c]) (.str y u) σ Q := by
  subst hy
  refine o_eq_str ?_
  have : (({ cps := [c].toArray } : Str) == { cps := #[d] }) = (c == d) := by
    rw [Bool.eq_iff_iff, beq_iff_eq, beq_iff_eq]; simp
  rw [this]; exact h
theorem o_nec (h : Q (.bool (c != d)) σ) (hy : y = ⟨#[d]⟩ := by exact rfl) : E2 C A (compareOp .NotEq) (sv [c]) (.str y u) σ Q := by
  subst hy
  refine o_ne_str ?_
  have : (({ cps := [c].toArray } : Str) != { cps := #[d] }) = (c != d) := by
    rw [bne, bne]; congr 1
    rw [Bool.eq_iff_iff, beq_iff_eq, beq_iff_eq]; simp
  rw [this]; exact h
theorem o_inc (h : Q (.bool (decide (c ∈ l))) σ) (hy : y = ⟨l.toArray⟩ := by exact rfl) : E2 C A (compareOp .In) (sv [c]) (.str y u) σ Q := by
  subst hy
  refine o_in_str ?_
  rw [show ({ cps := [c].toArray } : Str) = ⟨#[c]⟩ from rfl, StrLaws.found_one]
  simpa using h
theorem o_nic (h : Q (.bool (!decide (c ∈ l))) σ) (hy : y = ⟨l.toArray⟩ := by exact rfl) : E2 C A (compareOp .NotIn) (sv [c]) (.str y u) σ Q := by
  subst hy
  refine o_notin_str ?_
  rw [show ({ cps := [c].toArray } : Str) = ⟨#[c]⟩ from rfl, StrLaws.found_one]
  simpa using h
theorem append_mk (l m : List Nat) : ({ cps := l.toArray } : Str) ++ { cps := m.toArray } = ⟨(l ++ m).toArray⟩ := by
  show Str.mk (l.toArray ++ m.toArray) = _
  simp
theorem o_adds (hz : l.length + m.length ≤ sizeLine) (h : Q (sv (l ++ m)) σ) (hy : y = ⟨m.toArray⟩ := by exact rfl) : E2 C A (binaryOp .Add) (.str ⟨l.toArray⟩ t) (.str y u) σ Q := by
  subst hy
  exact o_add_str (by simpa [Str.length] using hz) (by rw [append_mk]; exact h)
theorem o_iadds (hz : l.length + m.length ≤ sizeLine) (h : Q (sv (l ++ m)) σ) (hy : y = ⟨m.toArray⟩ := by exact rfl) : E2 C A (inplaceOp .Add) (.str ⟨l.toArray⟩ t) (.str y u) σ Q := by
  subst hy
  exact o_iadd_str (by simpa [Str.length] using hz) (by rw [append_mk]; exact h)
theorem b_sv (hz : l.length ≤ sizeLine) (h : QB (!l.isEmpty) σ) : EB C A (.str ⟨l.toArray⟩ t) σ QB := by
  have hs : sizeLine = 16777216 := by decide
  refine b_str (by simp only [Str.length, List.size_toArray]; lia) ?_
  cases l with
  | nil => exact h
  | cons a r => 
    have : ((({ cps := (a :: r).toArray } : Str).length : Int) != 0) = (!(a :: r).isEmpty) := by
      simp [Str.length]; lia
    rw [this]; exact h
theorem f_bound' {b e : Addr} {xs : List Value} {v : Value} (h : Q .none σ') (hz : xs.length ≤ sizeLine) (hb : (b, bnd e) ∈ σ := by first | ((repeat (first | exact List.Mem.head _ | refine List.Mem.tail _ ?_)); done) | fail) (hup : Up e (lst xs) (lst (xs ++ [v])) σ σ' := by first | ((repeat (first | exact Up.here | apply Up.there)); done) | fail) : EC C A (.ref b) [v] σ Q := f_bound hb hup hz h
theorem f_append' {e : Addr} {xs : List Value} {v : Value} (h : Q .none σ') (hz : xs.length ≤ sizeLine) (hup : Up e (lst xs) (lst (xs ++ [v])) σ σ' := by first | ((repeat (first | exact Up.here | apply Up.there)); done) | fail) : EC C A (.builtin "list.append") [.ref e, v] σ Q := f_append hup hz h
theorem cw_bound' {b e : Addr} {args : List Expr} (h : EL C A env args σ fun vs σ₁ => (b, bnd e) ∈ σ₁ ∧ EC C A (.ref b) vs σ₁ Q) (hb : (b, bnd e) ∈ σ := by first | ((repeat (first | exact List.Mem.head _ | refine List.Mem.tail _ ?_)); done) | fail) (hp : NoStar args env := by exact rfl) : CW C A env (.ref b) args σ Q := cw_bound hb h hp
theorem em_append' {e : Addr} {xs : List Value} {args : List Expr} (h : EL C A env args σ fun vs σ₁ => EC C A (.builtin "list.append") (.ref e :: vs) σ₁ Q) (hl : (e, lst xs) ∈ σ := by first | ((repeat (first | exact List.Mem.head _ | refine List.Mem.tail _ ?_)); done) | fail) (hp : NoStar args env := by exact rfl) : EM C A env "append" (.ref e) args σ Q := em_list (.inl hl) PySem.F.slot_list_append PySem.F.type_list_append h hp
theorem em_pop' {e : Addr} {xs : List Value} {args : List Expr} (h : EL C A env args σ fun vs σ₁ => EC C A (.builtin "list.pop") (.ref e :: vs) σ₁ Q) (hl : (e, lst xs) ∈ σ := by first | ((repeat (first | exact List.Mem.head _ | refine List.Mem.tail _ ?_)); done) | fail) (hp : NoStar args env := by exact rfl) : EM C A env "pop" (.ref e) args σ Q := em_list (.inl hl) PySem.F.slot_list_pop PySem.F.type_list_pop h hp
theorem s_augl {x : Str} {px pos : Pos} {op : Operator} {e : Expr} {v : Value} {n : List (Str × Value)} {QF : Flow → Asn → Prop}
    (h : EV C A env e σ fun w σ₂ => E2 C A (inplaceOp op) v w σ₂ fun r σ₃ => EN C A env x r σ₃ (QF .next)) (hm : (env.locals, ns n) ∈ σ := by first | ((repeat (first | exact List.Mem.head _ | refine List.Mem.tail _ ?_)); done) | fail) (hv : n.lookup x = some v := by exact rfl)
    (hl : kL env x = true := by first | with_reducible assumption | kernel_rfl) : ES C A env (.AugAssign (.Name x px) op e pos) σ QF :=
  s_aug (l_local hm hv (fun u hu => by rw [hu]; exact h) (kL_of hl).1 (kL_of hl).2.1)
theorem lst_wk {xs ys : List Value} (e : xs = ys) : ∀ o, lst xs o → lst ys o := fun _ h => e ▸ h
end
end TIkSl
section TIkSpec
open PySem PySem.Calls PyProof.Rows
set_option maxRecDepth 4000
noncomputable def cutAt (L : Nat) (r : List Nat) : Nat := if r[L - 3]? = some 61 then L - 3 else if r[L - 2]? = some 61 then L - 2 else L - 1
noncomputable def tailOf (L : Nat) (r : List Nat) : List Nat := match r.getLast? with
  | some c => if c = 32 ∨ c = 9 then (if r.length + 2 ≤ L then r.dropLast ++ quo c else if r.length + 1 = L then r.dropLast ++ [c, 61, 10] else r.dropLast ++ ([61, 10] ++ quo c)) else r
  | none => r
noncomputable def encF (L : Nat) : Nat → List Nat → List (List Nat)
  | 0, r => [tailOf L r]
  | n + 1, r => if L < r.length then (r.take (cutAt L r) ++ [61]) :: encF L n (r.drop (cutAt L r)) else [tailOf L r]
noncomputable def encL (L : Nat) (r : List Nat) : List (List Nat) := encF L r.length r
theorem cutAt_pos {L : Nat} (hL : 4 ≤ L) (r : List Nat) : 1 ≤ cutAt L r ∧ cutAt L r < L := by unfold cutAt; split <;> (try split) <;> lia
theorem encF_fuel {L : Nat} (hL : 4 ≤ L) : ∀ (n m : Nat) (r : List Nat), r.length ≤ n → r.length ≤ m → encF L n r = encF L m r
  | 0, 0, r, _, _ => rfl
  | 0, m + 1, r, h, _ => by unfold encF; rw [if_neg (by lia)]
  | n + 1, 0, r, _, h => by unfold encF; rw [if_neg (by lia)]
  | n + 1, m + 1, r, h, h' => by
    have := cutAt_pos hL r
    unfold encF
    split
    · rw [encF_fuel hL n m _ (by rw [List.length_drop]; lia) (by rw [List.length_drop]; lia)]
    · rfl
theorem encL_long {L : Nat} (hL : 4 ≤ L) {r : List Nat} (h : L < r.length) : encL L r = (r.take (cutAt L r) ++ [61]) :: encL L (r.drop (cutAt L r)) := by
  have := cutAt_pos hL r
  unfold encL
  obtain ⟨n, hn⟩ : ∃ n, r.length = n + 1 := ⟨r.length - 1, by lia⟩
  rw [hn, encF, if_pos (by lia), encF_fuel hL n _ _ (by rw [List.length_drop]; lia) (Nat.le_refl _)]
theorem encL_short {L : Nat} {r : List Nat} (h : ¬ L < r.length) : encL L r = [tailOf L r] := by
  unfold encL
  cases hr : r.length with
  | zero => rfl
  | succ n => rw [encF, if_neg (by lia)]
noncomputable def encT (t : List Nat) (x : List Nat) : List Nat := x.flatMap enc
noncomputable def chunks (L : Nat) (ls : List (List Nat)) (t : List Nat) : List (List Nat) := ls.flatMap (encL L) ++ if t.getLast? = some 10 then [[]] else []
noncomputable def joinL (l : List (List Nat)) : List Nat := List.intercalate [10] l
end TIkSpec
section TIkR1
open PySem PySem.Calls PyProof.Rows
set_option maxRecDepth 4000
noncomputable def rng (a b c : Int) : Res := fun o => ∃ t u v, o = { cls := .type "range", dict := none, data := .fields #[.int a t, .int b u, .int c v], slots := #[] }
noncomputable def rit (x left step : Int) : Res := fun o => o = { cls := .type "range_iterator", dict := none, data := .fields #[rawInt x, rawInt left, rawInt step], slots := #[] }
section
variable {C : Cx} {A : Around} {env : Env} {σ σ' : Asn} {Q : Value → Asn → Prop} {l : Addr} {xs : List Value}
theorem f_range1 {n : Int} {t : Tok} (h : ∀ r, Q (.ref r) ((r, rng 0 n 1) :: σ)) : EC C A (.type "range") [.int n t] σ Q := fun us hus s S => by
  obtain ⟨a, rfl, ha⟩ := List.map_eq_singleton_iff.mp hus
  obtain ⟨u, rfl⟩ := er_int ha
  exact call_range_1 ⟨_, S.alloc (r := rng 0 n 1) (Heap.get?_none_of_le (Nat.le_refl _)) ⟨_, Heap.get?_push_size _ rfl, _, _, _, rfl⟩ fun b o hb => Heap.get?_push_of_some _ hb, h _⟩
theorem f_range3 {a b c : Int} {t u v : Tok} (hc : c ≠ 0) (hp : Builtin.divisionGoesByPylong (b - a) c = false) (h : ∀ r, Q (.ref r) ((r, rng a b c) :: σ)) : EC C A (.type "range") [.int a t, .int b u, .int c v] σ Q := fun us hus s S => by
  obtain ⟨x, y, z, rfl, ha, hb, hz⟩ := map3 hus
  obtain ⟨u, rfl⟩ := er_int ha; obtain ⟨u', rfl⟩ := er_int hb; obtain ⟨u'', rfl⟩ := er_int hz
  exact call_range_3 hc ⟨_, S.alloc (r := rng a b c) (tk := s.toks) (Heap.get?_none_of_le (Nat.le_refl _)) ⟨_, Heap.get?_push_size _ rfl, _, _, _, rfl⟩ fun b o hb => Heap.get?_push_of_some _ hb, h _⟩ (.inl hp)
theorem pi_range {r : Addr} {a b c : Int} (hr : Has C σ r (rng a b c)) (hsm : Builtin.Range.small a b c = true) (h : ∀ it, Q (.ref it) ((it, rit a (Builtin.Range.rangeSize a b c) c) :: σ)) : PI C A (.ref r) σ Q := fun u hu s S => by
  obtain rfl := er_ref hu
  obtain ⟨o, ho, t, u, v, rfl⟩ := S.has hr
  exact wpAny_pyIter_range ho hsm ⟨_, S.alloc (r := rit a (Builtin.Range.rangeSize a b c) c) (tk := s.toks) (Heap.get?_none_of_le (Nat.le_refl _)) ⟨_, Heap.get?_push_size _ rfl, rfl⟩ fun b o hb => Heap.get?_push_of_some _ hb, h _⟩
noncomputable def rints (a c : Int) (n : Nat) : List Value := (List.range n).map fun i : Nat => .int (a + (i : Int) * c) 0
theorem rints_length (a c : Int) (n : Nat) : (rints a c n).length = n := by simp [rints]
theorem rints_get {a c : Int} {n i : Nat} {v : Value} (h : (rints a c n)[i]? = some v) : v = .int (a + i * c) 0 ∧ i < n := by
  unfold rints at h
  rw [List.getElem?_map] at h
  obtain ⟨j, h1, rfl⟩ := Option.map_eq_some_iff.mp h
  have hi : i < n := by
    rcases Nat.lt_or_ge i n with h' | h'
    · exact h'
    · rw [List.getElem?_eq_none (by simpa using h')] at h1; cases h1
  rw [List.getElem?_range hi] at h1
  cases h1
  exact ⟨rfl, hi⟩
theorem iter_range {it : Addr} {a c : Int} {n : Nat} : Iter C (.ref it) (rints a c n) (fun i => [(it, rit (a + i * c) ((n : Int) - i) c)]) (fun _ => True) where
  self A σ Q h u hu s S := by
    obtain rfl := er_ref hu
    obtain ⟨o, ho, rfl⟩ := S.get (.head _)
    exact wpAny_pyIter_rangeiter ho ⟨_, S, h⟩
  next A i v σ Q hc hv h u hu s S := by
    obtain rfl := er_ref hu
    obtain ⟨rfl, hi⟩ := rints_get hv
    obtain ⟨o, ho, rfl⟩ := S.get (.head _)
    refine wpAny_pyNext_range_item ho (by lia) fun h' hi' hs => ⟨_, S.set (r' := rit (a + (i + 1 : Nat) * c) ((n : Int) - (i + 1 : Nat)) c) (tk := s.toks + 1) .here ⟨_, hi', ?_⟩ fun b o hb ho => hs.extBut b o hb ho, h⟩
    rw [show a + ((i + 1 : Nat) : Int) * c = a + i * c + c by rw [Int.natCast_add, Int.add_mul]; lia, show (n : Int) - ((i + 1 : Nat) : Int) = n - i - 1 by lia]
    rfl
  stop A σ Q hh hc h u hu s S := by
    obtain rfl := er_ref hu
    obtain ⟨o, ho, rfl⟩ := S.get (.head _)
    rw [rints_length] at *
    refine wpAny_pyNext_range_end hh ho (by lia) fun h' hs => ⟨σ, ?_, h⟩
    have S' := S.sub (σ' := σ) (List.sublist_cons_self ..)
    have hn : ∀ p ∈ σ, p.1 ≠ it := fun p hp q => by
      have := S.nodup
      simp only [List.singleton_append, List.map_cons, List.nodup_cons] at this
      exact this.1 (List.mem_map.mpr ⟨p, hp, q⟩)
    refine ⟨S.drawn, S.os, S.gens, fun b o e => hs b o (fun q => ?_) (S.keep b o e), S'.nodup, fun p hp => (S'.own p hp).keep fun o e => hs p.1 o (hn p hp) e, S'.new⟩
    have := S.new (it, _) (.head _)
    rw [← q] at this
    rw [show C.B.heap.get? b = none from this] at e; cases e
  go A ts k p i v σ s S u w hu hw hv Q hq := by
    obtain ⟨rfl, _⟩ := rints_get hv
    obtain rfl := er_ref hu
    obtain ⟨t, rfl⟩ := er_int hw
    show wpAny _ _ (pure ()) _ _ _
    exact wpAny_pure hq
theorem pi_range1 {r : Addr} {n : Nat} (hr : Has C σ r (rng 0 n 1)) (hn : n ≤ 100000) (h : ∀ it, Q (.ref it) ((it, rit (0 + (0 : Nat) * 1) ((n : Int) - (0 : Nat)) 1) :: σ)) : PI C A (.ref r) σ Q := by
  have e : Builtin.Range.rangeSize 0 n 1 = n := by rw [rangeSize_one]; split <;> lia
  refine pi_range hr ?_ fun it => ?_
  · unfold Builtin.Range.small
    rw [e]
    unfold Builtin.Range.rangeFitsLong
    simp; lia
  · have := h it
    rw [e]
    simpa using this

theorem fm_congr {α β : Type} {f g : α → Option β} : ∀ {l : List α}, (∀ a ∈ l, f a = g a) → l.filterMap f = l.filterMap g
  | [], _ => rfl
  | a :: r, h => by rw [List.filterMap_cons, List.filterMap_cons, h a (.head _), fm_congr fun b hb => h b (.tail _ hb)]
theorem part_is {v : Value} {p : Option Int} (h : er v = pv p) : IsPart v p := by
  cases p with
  | none => obtain rfl := er_none h; exact .none
  | some i => obtain ⟨u, rfl⟩ := er_int h; exact .int i u
theorem pick_map (items : Array Value) (lo hi st : Option Int) : (slicePick items lo hi st).toList.map er = (slicePick (items.toList.map er).toArray lo hi st).toList := by
  unfold slicePick
  have hsz : (items.toList.map er).toArray.size = items.size := by simp
  rw [hsz, List.map_filterMap]
  refine fm_congr fun i _ => ?_
  simp
theorem q_list {lo hi st : Option Int} (hl : Has C σ l (lst xs)) (hz : xs.length ≤ sizeLine) (h0 : st ≠ some 0) (h : ∀ D, Q (.ref D) ((D, lst (slicePick xs.toArray lo hi st).toList) :: σ)) : SL C A (.ref l) (pv lo) (pv hi) (pv st) σ Q := fun vo vl vu vs a ho hlo hhi hst s S hsl => by
  obtain rfl := er_ref ho
  obtain ⟨items, hp, he⟩ := lst_of (S.has hl)
  refine ⟨⟨"list", _, hp.isList.typeIs, slot_list_getitem.lookup⟩, wpAny_getItem_list_slice hp.isList hsl (part_is hlo) (part_is hhi) (part_is hst) h0 ⟨_, S.alloc (r := lst _) (tk := s.toks) (Heap.get?_none_of_le (Nat.le_refl _)) ⟨_, Heap.get?_push_size _ rfl, _, _, rfl, ?_⟩ fun b o hb => Heap.get?_push_of_some _ hb, h _⟩ (by rw [map_size he]; exact hz)⟩
  rw [pick_map, he]
theorem q_lh {b : Nat} {j : Int} (hl : Has C σ l (lst xs)) (hz : xs.length ≤ sizeLine) (hj : j = (b : Int)) (h : ∀ D, Q (.ref D) ((D, lst (xs.take b)) :: σ)) : SL C A (.ref l) .none (.int j 0) .none σ Q := by
  subst hj
  refine q_list (lo := none) (hi := some (b : Int)) (st := none) hl hz (by simp) fun D => ?_
  have e : (slicePick xs.toArray none (some (b : Int)) none).toList = xs.take b := by
    rw [slicePick_plain]
    simp only [Option.elim, clip_nat, List.size_toArray, Nat.sub_zero, List.drop_zero]
    by_cases hb : b ≤ xs.length
    · rw [Nat.min_eq_left hb]
    · rw [Nat.min_eq_right (by lia), List.take_of_length_le (Nat.le_refl _), List.take_of_length_le (by lia)]
  rw [e]; exact h D
theorem q_ln {a : Nat} {i : Int} (hl : Has C σ l (lst xs)) (hz : xs.length ≤ sizeLine) (hi : i = (a : Int)) (h : ∀ D, Q (.ref D) ((D, lst (xs.drop a)) :: σ)) : SL C A (.ref l) (.int i 0) .none .none σ Q := by
  subst hi
  refine q_list (lo := some (a : Int)) (hi := none) (st := none) hl hz (by simp) fun D => ?_
  rw [slicePick_from']; exact h D
theorem q_any {i : Int} {a k : Nat} (hl : Has C σ l (lst xs)) (hz : xs.length ≤ sizeLine) (hi : i = (a : Int)) (hk : 0 < k) (h : ∀ D ys, (∀ v ∈ ys, v ∈ xs) → ys.length ≤ (xs.length + k - 1) / k → Q (.ref D) ((D, lst ys) :: σ)) : SL C A (.ref l) (.int i 0) .none (.int k 0) σ Q := by
  subst hi
  refine q_list (lo := some (a : Int)) (hi := none) (st := some (k : Int)) hl hz (by simp only [ne_eq, Option.some.injEq]; lia) fun D => ?_
  refine h D _ (fun v hv => ?_) ?_
  · unfold slicePick at hv
    rw [List.mem_filterMap] at hv
    obtain ⟨j, _, e⟩ := hv
    exact List.mem_of_getElem? (by simpa using e)
  · unfold slicePick
    refine Nat.le_trans (List.length_filterMap_le _ _) ?_
    have e : sliceBounds (some (a : Int)) none (some (k : Int)) xs.toArray.size = (((min a xs.length : Nat) : Int), (xs.length : Int), (k : Int)) := by
      have h1 : ¬ ((a : Int) < 0) := by lia
      have h2 : (k : Int) > 0 := by lia
      simp only [sliceBounds, Option.getD_some, List.size_toArray, if_neg h1, if_pos h2]
      congr 1
      lia
    rw [e]
    have h2 : (k : Int) > 0 := by lia
    unfold sliceRange
    simp only [if_pos h2]
    rw [List.length_map, List.length_range]
    split
    · have hle : (((xs.length : Int) - ((min a xs.length : Nat) : Int) + k - 1) / (k : Int)) ≤ ((xs.length + k - 1 : Nat) : Int) / (k : Int) := Int.ediv_le_ediv (by lia) (by lia)
      exact Int.toNat_le.mpr (by rw [Int.natCast_ediv]; exact hle)
    · exact Nat.zero_le _
end
end TIkR1
section TIkR2
open PySem PySem.Calls PyProof.Rows PySem.SeqAt
set_option maxRecDepth 4000
noncomputable def tlt (x y : List Int) : Bool := match x, y with
  | [], [] => false
  | [], _ :: _ => true
  | _ :: _, [] => false
  | a :: r, b :: t => if a = b then tlt r t else decide (a < b)
theorem tuple_ltZ (l b : Addr) (items items2 : Array Value) (n n2 : Nat) (xs ys : List Int) (h1 : items.toList.map er = xs.map fun i => .int i 0) (h2 : items2.toList.map er = ys.map fun i => .int i 0) :
    Meets (Builtin.«tuple.__lt__» ⟨[.ref l, .ref b], []⟩)
      (fun A R s => s.heap.get? l = some { cls := .type "tuple", dict := none, data := .seq items n, slots := #[] } ∧ s.heap.get? b = some { cls := .type "tuple", dict := none, data := .seq items2 n2, slots := #[] } ∧ A.units < cLine ∧
        R (.ok (.ret (.bool (tlt xs ys)))) s) :=
  .of_wp fun prog w A R s h => by
    obtain ⟨hp, g, d, tk, os⟩ := s; obtain ⟨hl, hb, hu, h⟩ := h
    have f2 := AutoSeq1.sub_tuple_tuple
    have hsx : items.size = xs.length := by have := congrArg List.length h1; simpa using this
    have hsy : items2.size = ys.length := by have := congrArg List.length h2; simpa using this
    wp_walk using AutoSeq1.wpAny_loadPart' hl, AutoSeq1.wpAny_loadPart' hb, wpAny_forIn_list _ (fun rest b s' => b.1 = none ∧ s' = ⟨hp, g, d, tk, os⟩ ∧ ∃ (rx ry : List Value) (zx zy : List Int), rest = rx.zip ry ∧ rx.map er = zx.map (fun i => .int i 0) ∧ ry.map er = zy.map (fun i => .int i 0) ∧
      (zx.length : Int) - zy.length = (xs.length : Int) - ys.length ∧ R (.ok (.ret (.bool (tlt zx zy)))) ⟨hp, g, d, tk, os⟩) _
    case turn =>
      rintro ⟨y, x⟩ rest b s' ⟨hb', rfl, rx, ry, zx, zy, hz, e1, e2, hlen, hR⟩
      cases rx with
      | nil => cases hz
      | cons a rx =>
        cases ry with
        | nil => cases hz
        | cons c ry =>
          injection hz with hz1 hz2
          injection hz1 with hy hx
          subst hy hx
          cases zx with
          | nil => cases e1
          | cons i zx =>
            cases zy with
            | nil => cases e2
            | cons j zy =>
              rw [List.map_cons, List.map_cons, List.cons.injEq] at e1 e2
              obtain ⟨t, rfl⟩ := er_int e1.1
              obtain ⟨u, rfl⟩ := er_int e2.1
              refine wpAny_bind (EqAt.int_int i t j u prog w _ _ ?_)
              unfold tlt at hR
              cases hy : (i == j) with
              | true =>
                have hij : i = j := by simpa using hy
                rw [if_pos hij] at hR
                wp_walk
                exact ⟨rfl, rfl, rx, ry, zx, zy, hz2, e1.2, e2.2, by simp only [List.length_cons] at hlen; lia, hR⟩
              | false =>
                have hij : ¬ i = j := by simpa using hy
                rw [if_neg hij] at hR
                rw [if_pos (show (!false) = true from rfl)]
                refine wpAny_bind (wpAny_rule ?_)
                refine wpAny_bind (m := richCompare .Lt (.int i t) (.int j u)) ?_
                show wpAny _ _ (compareOp .Lt (.int i t) (.int j u)) _ _ _
                refine lt_int ?_
                refine wpAny_bind (wpAny_pure (wpAny_pure ?_))
                exact wpAny_pure ⟨_, rfl, hR⟩
    case fin =>
      rintro ⟨b1, b2⟩ s' ⟨hb', rfl, rx, ry, zx, zy, hz, e1, e2, hlen, hR⟩
      simp only at hb'
      subst hb'
      have hr : tlt zx zy = decide (xs.length < ys.length) := by
        have l1 := congrArg List.length e1
        have l2 := congrArg List.length e2
        simp only [List.length_map] at l1 l2
        have hz' := congrArg List.length hz
        rw [List.length_zip, List.length_nil] at hz'
        rcases zx with _ | ⟨i, zx⟩ <;> rcases zy with _ | ⟨j, zy⟩ <;> simp only [List.length_nil, List.length_cons] at * <;> unfold tlt
        · simp; lia
        · simp; lia
        · simp; lia
        · lia
      rw [hr] at hR
      wp_walk
      exact ⟨_, rfl, by simpa [Builtin.Tuple.tupleCompareSizes, hsx, hsy] using hR⟩
    case h =>
      exact ⟨rfl, rfl, items.toList, items2.toList, xs, ys, rfl, h1, h2, rfl, h⟩
section
variable {C : Cx} {A : Around} {env : Env} {σ σ' : Asn} {Q : Value → Asn → Prop} {QB : Bool → Asn → Prop} {l m : Addr} {xs ys : List Value}
noncomputable def zs (l : List Int) : List Value := l.map fun i => .int i 0
theorem o_lt_tup {x y : List Int} (hu : A.units < cLine) (h1 : Has C σ l (tup (zs x))) (h2 : Has C σ m (tup (zs y))) (h : Q (.bool (tlt x y)) σ) : E2 C A (compareOp .Lt) (.ref l) (.ref m) σ Q := fun u v hu' hv s S => by
  obtain rfl := er_ref hu'; obtain rfl := er_ref hv
  obtain ⟨items, n, hp, he⟩ := tup_of (S.has h1)
  obtain ⟨items2, n2, hp2, he2⟩ := tup_of (S.has h2)
  exact richCompare_meets_room (op := .Lt) ⟨_, hp, rfl⟩ ⟨_, hp2, rfl⟩ F.slot_tuple_lt F.entry_tuple_lt (F.args_tuple_lt_2 _ _) (tuple_ltZ l m items items2 n n2 x y he he2)
    ⟨hp, hp2, hu, show Value.bool (tlt x y) ≠ Value.notImplemented ∧ _ from ⟨(fun x => nomatch x), ⟨σ, S, h⟩⟩⟩ hu
theorem b_list (hl : Has C σ l (lst xs)) (hz : xs.length ≤ sizeLine) (h : QB (!xs.isEmpty) σ) : EB C A (.ref l) σ QB := fun u hu s S => by
  obtain rfl := er_ref hu
  obtain ⟨items, hp, he⟩ := lst_of (S.has hl)
  have hs : sizeLine = 16777216 := by decide
  refine wpAny_truthy_list hp.isList (by rw [map_size he]; lia) ⟨σ, S.toks _, ?_⟩
  have : items.isEmpty = xs.isEmpty := by
    have e := map_size he
    cases xs with
    | nil => simpa [Array.isEmpty] using e
    | cons a r => simp only [List.length_cons] at e; simp only [Array.isEmpty, List.isEmpty_cons, decide_eq_false_iff_not]; lia
  rw [this]; exact h
theorem o_addl (h1 : Has C σ l (lst xs)) (h2 : Has C σ m (lst ys)) (hz : xs.length + ys.length ≤ sizeLine) (h : ∀ D, Q (.ref D) ((D, lst (xs ++ ys)) :: σ)) : E2 C A (binaryOp .Add) (.ref l) (.ref m) σ Q := fun u v hu hv s S => by
  obtain rfl := er_ref hu; obtain rfl := er_ref hv
  obtain ⟨items, ⟨n, hp⟩, he⟩ := lst_of (S.has h1)
  obtain ⟨items2, ⟨n2, hp2⟩, he2⟩ := lst_of (S.has h2)
  exact PySem.P.add_list hp hp2 ⟨_, S.alloc (r := lst (xs ++ ys)) (tk := s.toks) (Heap.get?_none_of_le (Nat.le_refl _)) ⟨_, Heap.get?_push_size _ rfl, _, _, rfl, by rw [Array.toList_append, List.map_append, he, he2]⟩ fun b o hb => Heap.get?_push_of_some _ hb, h _⟩ (by rw [map_size he, map_size he2]; exact hz)
noncomputable def Eqs (a b : Value) (e : Bool) : Prop := ∀ (A : Around) (s : Shared) (u v : Value), er u = a → er v = b → EqAt A s u v e
theorem eqs_str (x y : Str) : Eqs (.str x 0) (.str y 0) (x == y) := fun A s u v hu hv => by
  obtain ⟨t, rfl⟩ := er_str hu; obtain ⟨t', rfl⟩ := er_str hv
  exact EqAt.str_str x t y t'
theorem strs_at {items : Array Value} {x : List Str} (he : items.toList.map er = txs x) {j : Nat} (h1 : j < items.size) : er items[j] = .str ((x[j]?).getD ⟨#[]⟩) 0 := by
  have hx : j < x.length := by have := map_size he; rw [txs_length] at this; lia
  obtain ⟨v, hv, e⟩ := map_get (k := j) he (txs_get (List.getElem?_eq_getElem hx))
  rw [Array.getElem?_eq_getElem h1] at hv
  cases hv
  rw [e, List.getElem?_eq_getElem hx]; rfl
theorem eq_lists {x y : List Str} (h1 : Has C σ l (lst (txs x))) (h2 : Has C σ m (lst (txs y))) (s : Shared) (S : St C σ s) (hu : A.units < cLine) (op : CmpOp) (neg : Bool) (hop : (op = .Eq ∧ neg = false) ∨ (op = .NotEq ∧ neg = true)) (h : Q (.bool (neg != (x == y))) σ) :
    wpAny (model C.prog C.w) A (compareOp op (.ref l) (.ref m)) (fun v s' => ∃ σ', St C σ' s' ∧ Q (er v) σ') (fun _ _ => False) s := by
  obtain ⟨items, hp, he⟩ := lst_of (S.has h1)
  obtain ⟨items2, hp2, he2⟩ := lst_of (S.has h2)
  have z1 := map_size he
  have z2 := map_size he2
  rw [txs_length] at z1 z2
  by_cases hsz : x.length = y.length
  · have hes : ∀ j (h1 : j < items.size) (h2 : j < items2.size), EqAt A.in1 s items[j] items2[j] ((x[j]?).getD ⟨#[]⟩ == (y[j]?).getD ⟨#[]⟩) := fun j h1 h2 => by
      refine eqs_str _ _ _ _ _ _ ?_ ?_
      · exact strs_at he h1
      · exact strs_at he2 h2
    have hall : ((List.range items.size).all fun j => ((x[j]?).getD ⟨#[]⟩ == (y[j]?).getD ⟨#[]⟩)) = (x == y) := by
      rw [Bool.eq_iff_iff, List.all_eq_true, beq_iff_eq]
      constructor
      · intro hh
        refine List.ext_getElem hsz fun i hi1 hi2 => ?_
        have := hh i (List.mem_range.mpr (by lia))
        rw [List.getElem?_eq_getElem hi1, List.getElem?_eq_getElem hi2] at this
        simpa using this
      · rintro rfl j _
        simp
    rcases hop with ⟨rfl, rfl⟩ | ⟨rfl, rfl⟩
    · refine eq_listAt hp.isList hp2.isList (by lia) hu hes ?_
      rw [hall]; exact ⟨σ, S, by rw [Bool.false_bne] at h; exact h⟩
    · refine RcNeAt.lists hp.isList hp2.isList (by lia) hu hes C.prog C.w _ _ ?_
      rw [hall]; exact ⟨σ, S, by rw [Bool.true_bne] at h; exact h⟩
  · have hne : (x == y) = false := by
      rw [beq_eq_false_iff_ne]
      rintro rfl; exact hsz rfl
    rw [hne] at h
    rcases hop with ⟨rfl, rfl⟩ | ⟨rfl, rfl⟩
    · exact eq_list_lengthsAt hp.isList hp2.isList (by simp; lia) hu ⟨σ, S, h⟩
    · exact RcNeAt.lists_lengths hp.isList hp2.isList (by simp; lia) hu C.prog C.w _ _ ⟨σ, S, h⟩
theorem o_eqls {x y : List Str} (hu : A.units < cLine) (h1 : Has C σ l (lst (txs x))) (h2 : Has C σ m (lst (txs y))) (h : Q (.bool (x == y)) σ) : E2 C A (compareOp .Eq) (.ref l) (.ref m) σ Q := fun u v hu' hv s S => by
  obtain rfl := er_ref hu'; obtain rfl := er_ref hv
  exact eq_lists h1 h2 s S hu .Eq false (.inl ⟨rfl, rfl⟩) (by simpa using h)
theorem o_nels {x y : List Str} (hu : A.units < cLine) (h1 : Has C σ l (lst (txs x))) (h2 : Has C σ m (lst (txs y))) (h : Q (.bool (x != y)) σ) : E2 C A (compareOp .NotEq) (.ref l) (.ref m) σ Q := fun u v hu' hv s S => by
  obtain rfl := er_ref hu'; obtain rfl := er_ref hv
  exact eq_lists h1 h2 s S hu .NotEq true (.inr ⟨rfl, rfl⟩) (by simpa [bne] using h)
theorem eq_nil (h1 : Has C σ l (lst xs)) (h2 : Has C σ m (lst [])) (s : Shared) (S : St C σ s) (hu : A.units < cLine) (op : CmpOp) (neg : Bool) (hop : (op = .Eq ∧ neg = false) ∨ (op = .NotEq ∧ neg = true)) (h : Q (.bool (neg != xs.isEmpty)) σ) :
    wpAny (model C.prog C.w) A (compareOp op (.ref l) (.ref m)) (fun v s' => ∃ σ', St C σ' s' ∧ Q (er v) σ') (fun _ _ => False) s := by
  obtain ⟨items, hp, he⟩ := lst_of (S.has h1)
  obtain ⟨items2, hp2, he2⟩ := lst_of (S.has h2)
  have z1 := map_size he
  have z2 := map_size he2
  rw [List.length_nil] at z2
  cases xs with
  | nil =>
    rw [List.length_nil] at z1
    have hall : ∀ e : Nat → Bool, (List.range items.size).all e = true := fun e => by rw [z1]; rfl
    rcases hop with ⟨rfl, rfl⟩ | ⟨rfl, rfl⟩
    · refine eq_listAt (e := fun _ => true) hp.isList hp2.isList (by lia) hu (fun j h1 => by lia) ?_
      rw [hall]; exact ⟨σ, S, h⟩
    · refine RcNeAt.lists (e := fun _ => true) hp.isList hp2.isList (by lia) hu (fun j h1 => by lia) C.prog C.w _ _ ?_
      rw [hall]; exact ⟨σ, S, h⟩
  | cons a r =>
    simp only [List.length_cons] at z1
    rcases hop with ⟨rfl, rfl⟩ | ⟨rfl, rfl⟩
    · exact eq_list_lengthsAt hp.isList hp2.isList (by simp; lia) hu ⟨σ, S, h⟩
    · exact RcNeAt.lists_lengths hp.isList hp2.isList (by simp; lia) hu C.prog C.w _ _ ⟨σ, S, h⟩
theorem o_eq0 (hu : A.units < cLine) (h1 : Has C σ l (lst xs)) (h2 : Has C σ m (lst [])) (h : Q (.bool xs.isEmpty) σ) : E2 C A (compareOp .Eq) (.ref l) (.ref m) σ Q := fun u v hu' hv s S => by
  obtain rfl := er_ref hu'; obtain rfl := er_ref hv
  exact eq_nil h1 h2 s S hu .Eq false (.inl ⟨rfl, rfl⟩) (by simpa using h)
theorem o_ne0 (hu : A.units < cLine) (h1 : Has C σ l (lst xs)) (h2 : Has C σ m (lst [])) (h : Q (.bool (!xs.isEmpty)) σ) : E2 C A (compareOp .NotEq) (.ref l) (.ref m) σ Q := fun u v hu' hv s S => by
  obtain rfl := er_ref hu'; obtain rfl := er_ref hv
  exact eq_nil h1 h2 s S hu .NotEq true (.inr ⟨rfl, rfl⟩) (by simpa using h)
end
end TIkR2
section TIkR3
open PySem PySem.Calls PyProof.Rows
set_option maxRecDepth 4000
noncomputable def sit (x : Str) (i : Nat) : Res := fun o => ∃ t, o.cls = .type "str_ascii_iterator" ∧ o.data = .fields #[.str x t, .int i 0]
noncomputable def zipR (TI TO : Addr) : Res := fun o => ∃ f0 f1, o = { cls := .type "zip", dict := none, data := .fields #[f0, f1, .bool false, .ref TI, .ref TO], slots := #[] }
noncomputable def prR : Res := fun o => ∃ a b, o = { cls := .type "tuple", data := .seq #[a, b] }
noncomputable def zipA (z TI TO i1 i2 l : Addr) (x : Str) (k : Nat) : Asn := [(z, zipR TI TO), (TI, tup [.ref i1, .ref i2]), (TO, prR), (i1, lit l k), (i2, sit x k)]
section
variable {C : Cx} {A : Around} {env : Env} {σ ρ : Asn} {z TI TO i1 i2 l : Addr} {x : Str} {k : Nat} {xs : List Value} {s : Shared} {E : Value → Shared → Prop}
theorem St.same {s : Shared} {h' : Heap} {tk : Nat} {a : Addr} {r : Res} {σ : Asn} (S : St C σ s) (hm : (a, r) ∈ σ) (ha : At h' a r) (hs : Heap.SameBut a s.heap h') : St C σ { s with heap := h', toks := tk } := by
  refine ⟨S.drawn, S.os, S.gens, fun b o e => hs.extBut b o (fun q => ?_) (S.keep b o e), S.nodup, fun p hp => ?_, S.new⟩
  · have := S.new _ hm
    rw [← q] at this
    rw [show C.B.heap.get? b = none from this] at e; cases e
  · by_cases hpa : p.1 = a
    · obtain ⟨p1, p2⟩ := p
      simp only at hpa
      subst hpa
      rw [nodup_fst S.nodup hp hm]
      exact ha
    · exact (S.own p hp).keep fun o e => hs.extBut p.1 o hpa e
theorem zip_free {Q : Bool → Shared → Prop} (S : St C σ s) (hm : (z, zipR TI TO) ∈ σ) (h : ∀ b s', St C σ s' → Q b s') : wpAny (model C.prog C.w) A (Builtin.SmallTypes.ownedTupleIsFree (.ref z)) Q E s := by
  obtain ⟨o, hz, f0, f1, rfl⟩ := S.get hm
  unfold Builtin.SmallTypes.ownedTupleIsFree
  refine wpAny_bind (wpAny_field hz rfl (x := f0) rfl ?_)
  cases f0 with
  | none => exact wpAny_pure (h _ _ S)
  | int a t =>
    have hla : ∀ (Q' : Option Obj → Shared → Prop), Q' (s.heap.get? a.toNat) s → wpAny (model C.prog C.w) A (loadIfAlive a.toNat) Q' E s := fun Q' hq => by
      intro Γ p hΓ
      exact hq
    refine wpAny_bind (hla _ ?_)
    cases s.heap.get? a.toNat with
    | none => exact wpAny_pure (h _ _ S)
    | some ob =>
      simp only [Option.isNone_some, Bool.false_eq_true, if_false]
      refine wpAny_bind (wpAny_field hz rfl (x := f1) rfl ?_)
      split
      · refine wpAny_bind (wpAny_setField_rec hz (by simp) fun h' hz' hs => wpAny_pure (h _ _ ?_))
        exact S.same (tk := s.toks) hm ⟨_, hz', _, _, rfl⟩ hs
      · exact wpAny_pure (h _ _ S)
  | _ => exact wpAny_pure (h _ _ S)
theorem zip_set {Q : Unit → Shared → Prop} {v : Value} {j : Nat} (hj : j = 0 ∨ j = 1) (S : St C σ s) (hm : (z, zipR TI TO) ∈ σ) (h : ∀ s', St C σ s' → s'.heap.objs.size = s.heap.objs.size → Q () s') : wpAny (model C.prog C.w) A (setField (.ref z) j v) Q E s := by
  obtain ⟨o, hz, f0, f1, rfl⟩ := S.get hm
  refine wpAny_setField_rec hz (by simp; lia) fun h' hz' hs => h _ (S.same (tk := s.toks) hm ⟨_, hz', ?_⟩ hs) hs.1
  rcases hj with rfl | rfl
  · exact ⟨v, f1, rfl⟩
  · exact ⟨f0, v, rfl⟩
theorem draw_list {Q : Value → Shared → Prop} {v : Value} {σ' : Asn} (S : St C σ s) (u : Up i1 (lit l k) (lit l (k + 1)) σ σ') (hl : Has C σ l (lst xs)) (hv : xs[k]? = some v) (h : ∀ w s', er w = v → St C σ' s' → Q w s') : wpAny (model C.prog C.w) A (Builtin.SmallTypes.nextOf (.ref i1)) Q E s := by
  obtain ⟨items, hp, he⟩ := lst_of (S.has hl)
  obtain ⟨w, hw, rfl⟩ := map_get he hv
  exact wpAny_nextOf_list_item (lit_of (S.get u.mem)) hp.isList hw fun h' hi hs => h w _ rfl (S.set (tk := s.toks) u (lit_at hi) fun b o hb ho => hs.extBut b o hb ho)
theorem draw_str {Q : Value → Shared → Prop} {c : Nat} {σ' : Asn} (S : St C σ s) (u : Up i2 (sit x k) (sit x (k + 1)) σ σ') (hv : x.cps[k]? = some c) (h : ∀ w s', er w = .str ⟨#[c]⟩ 0 → St C σ' s' → Q w s') : wpAny (model C.prog C.w) A (Builtin.SmallTypes.nextOf (.ref i2)) Q E s := by
  obtain ⟨o, ho, t, hc, hd⟩ := S.get u.mem
  exact wpAny_nextOf_ascii_item (t := t) ⟨o, ho, hc, hd⟩ hv fun h' ⟨o', ho', hc', hd'⟩ hs => h _ _ rfl (S.set (tk := s.toks + 1) u ⟨o', ho', t, hc', hd'⟩ fun b o hb ho => hs.extBut b o hb ho)
theorem St.but {s : Shared} {h' : Heap} {tk : Nat} {a : Addr} {r : Res} {σ ρ : Asn} (S : St C σ s) (pk : Pick a r σ ρ) (hs : Heap.ExtBut a s.heap h') : St C ρ { s with heap := h', toks := tk } := by
  have S₁ := S.perm pk.perm
  have S₂ := S₁.sub (σ' := ρ) (List.sublist_cons_self ..)
  have hn : ∀ p ∈ ρ, p.1 ≠ a := fun p hp q => by
    have := S₁.nodup
    simp only [List.map_cons, List.nodup_cons] at this
    exact this.1 (List.mem_map.mpr ⟨p, hp, q⟩)
  refine ⟨S.drawn, S.os, S.gens, fun b o e => hs b o (fun q => ?_) (S.keep b o e), S₂.nodup, fun p hp => (S₂.own p hp).keep fun o e => hs p.1 o (hn p hp) e, S₂.new⟩
  have := S₁.new (a, r) (.head _)
  rw [← q] at this
  rw [show C.B.heap.get? b = none from this] at e; cases e
theorem draw_list_end {Q : Value → Shared → Prop} (hh : A.handled = none) (S : St C σ s) (pk : Pick i1 (lit l k) σ ρ) (hl : Has C σ l (lst xs)) (hv : xs[k]? = none) (h : ∀ e s', (∃ o, s'.heap.get? e = some o ∧ o.cls = .type "StopIteration") → St C ρ s' → E (.ref e) s') : wpAny (model C.prog C.w) A (Builtin.SmallTypes.nextOf (.ref i1)) Q E s := by
  obtain ⟨items, hp, he⟩ := lst_of (S.has hl)
  refine wpAny_nextOf_list_end hh (lit_of (S.get (pk.perm.mem_iff.mpr (.head _)))) hp.isList ?_ fun h' e hs ho => h e _ ho (S.but (tk := s.toks) pk hs)
  rw [Array.getElem?_eq_none_iff, map_size he]
  exact List.getElem?_eq_none_iff.mp hv
theorem draw_str_end {Q : Value → Shared → Prop} (hh : A.handled = none) (S : St C σ s) (pk : Pick i2 (sit x k) σ ρ) (hv : x.cps[k]? = none) (h : ∀ e s', (∃ o, s'.heap.get? e = some o ∧ o.cls = .type "StopIteration") → St C ρ s' → E (.ref e) s') : wpAny (model C.prog C.w) A (Builtin.SmallTypes.nextOf (.ref i2)) Q E s := by
  obtain ⟨o, ho, t, hc, hd⟩ := S.get (pk.perm.mem_iff.mpr (.head _))
  exact wpAny_nextOf_ascii_end (t := t) hh ⟨o, ho, hc, hd⟩ hv fun h' e hs ho => h e _ ho (S.but (tk := s.toks) pk hs)
theorem pr_set {Q : Unit → Shared → Prop} {v : Value} {j : Nat} (S : St C σ s) (hm : (TO, prR) ∈ σ) (h : ∀ s', St C σ s' → Q () s') : wpAny (model C.prog C.w) A (updateSeq TO (·.setIfInBounds j v)) Q E s := by
  obtain ⟨o, hz, a, b, rfl⟩ := S.get hm
  refine wpAny_updateSeq_pair hz fun h' hz' hs => h _ (S.same (tk := s.toks) hm ⟨_, hz', ?_⟩ hs)
  match j with
  | 0 => exact ⟨v, b, rfl⟩
  | 1 => exact ⟨a, v, rfl⟩
  | j + 2 => exact ⟨a, b, by simp [Array.setIfInBounds]⟩
end
end TIkR3
section TIkR4
open PySem PySem.Calls PyProof.Rows
set_option maxRecDepth 4000
section
variable {C : Cx} {A : Around} {env : Env} {σ ρ : Asn} {z TI TO i1 i2 l : Addr} {x : Str} {k : Nat} {xs : List Value} {s : Shared} {E : Value → Shared → Prop}
theorem pr_items {Q : Option (Array Value) → Shared → Prop} (S : St C σ s) (hm : (TO, prR) ∈ σ) (h : ∀ a b, IsPair s.heap TO a b → Q (some #[a, b]) s) : wpAny (model C.prog C.w) A (seqItems? (.ref TO)) Q E s := by
  obtain ⟨o, hz, a, b, rfl⟩ := S.get hm
  exact wpAny_seqItems hz rfl (h a b hz)
noncomputable def pr2 (a b : Value) : Res := fun o => ∃ u v, er u = a ∧ er v = b ∧ o = { cls := .type "tuple", data := .seq #[u, v] }
theorem zip_item {v : Value} {c : Nat} {Q : Value → Shared → Prop} (S : St C (zipA z TI TO i1 i2 l x k ++ ρ) s) (hl : Has C ρ l (lst xs)) (hv : xs[k]? = some v) (hc : x.cps[k]? = some c)
    (h : ∀ T s', St C ((T, tup [v, .str ⟨#[c]⟩ 0]) :: (zipA z TI TO i1 i2 l x (k + 1) ++ ρ)) s' → Q (.ref T) s') :
    wpAny (model C.prog C.w) A (Builtin.«zip.__next__» ⟨[.ref z], []⟩) (fun fin s' => ∃ v, fin = .done (.ret v) ∧ Q v s') E s := by
  obtain ⟨o, hz, f0, f1, rfl⟩ := S.get (a := z) (r := zipR TI TO) (.head _)
  obtain ⟨its, n, hTI, hits⟩ := tup_of (S.get (a := TI) (r := tup [.ref i1, .ref i2]) (.tail _ (.head _)))
  obtain ⟨a1, a2, hits', ha1, ha2⟩ := map2 hits
  obtain rfl := er_ref ha1
  obtain rfl := er_ref ha2
  have e : its = #[.ref i1, .ref i2] := by cases its; simp only at hits'; rw [hits']
  subst e
  have hl' : ∀ τ, Has C (τ ++ ρ) l (lst xs) := fun τ => hl.imp (fun h => List.mem_append_right _ h) id
  show wpAny _ _ (field (.ref z) 2 >>= _) _ _ _
  refine wpAny_bind (wpAny_field hz rfl (x := .bool false) rfl ?_)
  show wpAny _ _ (field (.ref z) 3 >>= _) _ _ _
  refine wpAny_bind (wpAny_field hz rfl (x := .ref TI) rfl ?_)
  refine wpAny_bind (wpAny_seqItems hTI rfl ?_)
  show wpAny _ _ (Builtin.SmallTypes.ownedTupleIsFree (.ref z) >>= _) _ _ _
  refine wpAny_bind (zip_free S (.head _) fun b s₁ S₁ => ?_)
  cases b with
  | true =>
    simp only [if_true]
    refine wpAny_bind (wpAny_rule ?_)
    obtain ⟨o, hz₁, g0, g1, rfl⟩ := S₁.get (a := z) (r := zipR TI TO) (.head _)
    refine wpAny_bind (wpAny_field hz₁ rfl (x := .ref TO) rfl ?_)
    refine wpAny_bind (zip_set (.inl rfl) S₁ (.head _) fun s₂ S₂ _ => ?_)
    refine wpAny_bind ?_
    simp only [List.zipIdx_cons, List.zipIdx_nil, List.forIn_cons, List.forIn_nil]
    refine wpAny_bind (wpAny_bind (wpAny_onRaise ?_))
    show wpAny _ _ (Builtin.SmallTypes.nextOf (.ref i1) >>= _) _ _ _
    refine wpAny_bind (draw_list (σ' := [(z, zipR TI TO), (TI, tup [.ref i1, .ref i2]), (TO, prR), (i1, lit l (k + 1)), (i2, sit x k)] ++ ρ) S₂ (.there (.there (.there .here))) (hl' _) hv fun w₁ s₃ hw₁ S₃ => wpAny_pure ?_)
    obtain ⟨_, hTO₃, b0, b1, rfl⟩ := S₃.get (a := TO) (r := prR) (.tail _ (.tail _ (.head _)))
    refine wpAny_bind (wpAny_seqItems hTO₃ rfl ?_)
    refine wpAny_bind (wpAny_updateSeq_pair hTO₃ fun h₄ hT₄ hs₄ => ?_)
    have S₄ := S₃.set (σ' := [(z, zipR TI TO), (TI, tup [.ref i1, .ref i2]), (TO, pr2 (er w₁) (er b1)), (i1, lit l (k + 1)), (i2, sit x k)] ++ ρ) (tk := s₃.toks) (.there (.there .here)) ⟨_, hT₄, (⟨w₁, b1, rfl, rfl, rfl⟩ : pr2 _ _ _)⟩ fun b o hb e => hs₄.extBut b o hb e
    refine wpAny_bind (wpAny_letGo (wpAny_pure ?_))
    refine wpAny_bind (wpAny_bind (wpAny_onRaise ?_))
    show wpAny _ _ (Builtin.SmallTypes.nextOf (.ref i2) >>= _) _ _ _
    refine wpAny_bind (draw_str (σ' := [(z, zipR TI TO), (TI, tup [.ref i1, .ref i2]), (TO, pr2 (er w₁) (er b1)), (i1, lit l (k + 1)), (i2, sit x (k + 1))] ++ ρ) S₄ (.there (.there (.there (.there .here)))) hc fun w₂ s₅ hw₂ S₅ => wpAny_pure ?_)
    obtain ⟨_, hTO₅, c0, c1, hc0, hc1, rfl⟩ := S₅.get (a := TO) (r := pr2 (er w₁) (er b1)) (.tail _ (.tail _ (.head _)))
    refine wpAny_bind (wpAny_seqItems hTO₅ rfl ?_)
    refine wpAny_bind (wpAny_updateSeq_pair hTO₅ fun h₆ hT₆ hs₆ => ?_)
    have S₆ := S₅.set (σ' := zipA z TI TO i1 i2 l x (k + 1) ++ ρ) (tk := s₅.toks) (.there (.there .here)) ⟨_, hT₆, (⟨c0, w₂, rfl⟩ : prR _)⟩ fun b o hb e => hs₆.extBut b o hb e
    refine wpAny_bind (wpAny_letGo (wpAny_pure (wpAny_pure ?_)))
    refine wpAny_bind (wpAny_seqItems hT₆ rfl ?_)
    refine wpAny_bind (wpAny_newTuple ?_ (by rw [show sizeLine = 16777216 by decide]; simp))
    have S₇ := S₆.new_tup (tk := s₅.toks) (vs := [c0, w₂]) (ws := [v, .str ⟨#[c]⟩ 0]) (by simp [hc0, hw₁, hw₂])
    refine wpAny_bind (m := Builtin.SmallTypes.ownedTupleHandOut (.ref z) (.ref h₆.objs.size)) ?_
    unfold Builtin.SmallTypes.ownedTupleHandOut
    refine wpAny_bind (zip_set (.inl rfl) S₇ (.tail _ (.head _)) fun s₈ S₈ _ => ?_)
    refine zip_set (.inr rfl) S₈ (.tail _ (.head _)) fun s₉ S₉ _ => ?_
    exact wpAny_pure ⟨_, rfl, h _ _ S₉⟩
  | false =>
    simp only [Bool.false_eq_true, if_false]
    refine wpAny_bind ?_
    rw [List.forIn_toArray]
    simp only [List.forIn_cons, List.forIn_nil]
    refine wpAny_bind (wpAny_bind (wpAny_holding ?_))
    show wpAny _ _ (Builtin.SmallTypes.nextOf (.ref i1) >>= _) _ _ _
    refine wpAny_bind (draw_list (σ' := [(z, zipR TI TO), (TI, tup [.ref i1, .ref i2]), (TO, prR), (i1, lit l (k + 1)), (i2, sit x k)] ++ ρ) S₁ (.there (.there (.there .here))) (hl' _) hv fun w₁ s₃ hw₁ S₃ => wpAny_pure ?_)
    refine wpAny_pure ?_
    refine wpAny_bind (wpAny_bind (wpAny_holding ?_))
    show wpAny _ _ (Builtin.SmallTypes.nextOf (.ref i2) >>= _) _ _ _
    refine wpAny_bind (draw_str (σ' := zipA z TI TO i1 i2 l x (k + 1) ++ ρ) S₃ (.there (.there (.there (.there .here)))) hc fun w₂ s₅ hw₂ S₅ => wpAny_pure ?_)
    refine wpAny_pure (wpAny_pure ?_)
    refine wpAny_bind (wpAny_newTuple ?_ (by rw [show sizeLine = 16777216 by decide]; simp))
    exact wpAny_pure ⟨_, rfl, h _ _ (S₅.new_tup (tk := s₅.toks) (vs := [w₁, w₂]) (ws := [v, .str ⟨#[c]⟩ 0]) (by simp [hw₁, hw₂]))⟩
theorem zip_end {Q : PySem.Fin → Shared → Prop} (hh : A.handled = none) (S : St C (zipA z TI TO i1 i2 l x k ++ ρ) s) (hl : Has C ρ l (lst xs)) (hv : xs[k]? = none ∨ x.cps[k]? = none)
    (h : ∀ e s', (∃ o, s'.heap.get? e = some o ∧ o.cls = .type "StopIteration") → St C ρ s' → E (.ref e) s') :
    wpAny (model C.prog C.w) A (Builtin.«zip.__next__» ⟨[.ref z], []⟩) Q E s := by
  obtain ⟨o, hz, f0, f1, rfl⟩ := S.get (a := z) (r := zipR TI TO) (.head _)
  obtain ⟨its, n, hTI, hits⟩ := tup_of (S.get (a := TI) (r := tup [.ref i1, .ref i2]) (.tail _ (.head _)))
  obtain ⟨a1, a2, hits', ha1, ha2⟩ := map2 hits
  obtain rfl := er_ref ha1
  obtain rfl := er_ref ha2
  have e : its = #[.ref i1, .ref i2] := by cases its; simp only at hits'; rw [hits']
  subst e
  have hl' : ∀ τ, Has C (τ ++ ρ) l (lst xs) := fun τ => hl.imp (fun h => List.mem_append_right _ h) id
  show wpAny _ _ (field (.ref z) 2 >>= _) _ _ _
  refine wpAny_bind (wpAny_field hz rfl (x := .bool false) rfl ?_)
  show wpAny _ _ (field (.ref z) 3 >>= _) _ _ _
  refine wpAny_bind (wpAny_field hz rfl (x := .ref TI) rfl ?_)
  refine wpAny_bind (wpAny_seqItems hTI rfl ?_)
  show wpAny _ _ (Builtin.SmallTypes.ownedTupleIsFree (.ref z) >>= _) _ _ _
  refine wpAny_bind (zip_free S (.head _) fun b s₁ S₁ => ?_)
  have sub : ∀ (τ : Asn), (τ ++ ρ).Sublist (τ ++ ρ) ∧ ρ.Sublist (τ ++ ρ) := fun τ => ⟨.refl _, List.sublist_append_right ..⟩
  cases b with
  | true =>
    simp only [if_true]
    refine wpAny_bind (wpAny_rule ?_)
    obtain ⟨o, hz₁, g0, g1, rfl⟩ := S₁.get (a := z) (r := zipR TI TO) (.head _)
    refine wpAny_bind (wpAny_field hz₁ rfl (x := .ref TO) rfl ?_)
    refine wpAny_bind (zip_set (.inl rfl) S₁ (.head _) fun s₂ S₂ _ => ?_)
    refine wpAny_bind ?_
    simp only [List.zipIdx_cons, List.zipIdx_nil, List.forIn_cons, List.forIn_nil]
    have fin : ∀ (e : Addr) (s' : Shared) (τ : Asn), (z, zipR TI TO) ∈ τ ++ ρ → (∃ o, s'.heap.get? e = some o ∧ o.cls = .type "StopIteration") → St C (τ ++ ρ) s' → wpAny (model C.prog C.w) A (setField (.ref z) 0 Value.none) (fun _ s'' => E (.ref e) s'') E s' := fun e s' τ hm ⟨o, ho, hc⟩ S' => by
      obtain ⟨o', hz', f0', f1', rfl⟩ := S'.get hm
      have hez : e ≠ z := fun q => by subst q; rw [hz'] at ho; cases ho; simp at hc
      refine wpAny_setField_rec hz' (by simp) fun h' hz'' hs => ?_
      exact h e _ ⟨o, hs.extBut e o hez ho, hc⟩ ((S'.same (tk := s'.toks) hm ⟨_, hz'', ⟨_, _, rfl⟩⟩ hs).sub (sub τ).2)
    refine wpAny_bind (wpAny_bind (wpAny_onRaise ?_))
    show wpAny _ _ (Builtin.SmallTypes.nextOf (.ref i1) >>= _) _ _ _
    cases hx : xs[k]? with
    | none =>
      refine wpAny_bind (draw_list_end (ρ := [(z, zipR TI TO), (TI, tup [.ref i1, .ref i2]), (TO, prR), (i2, sit x k)] ++ ρ) hh S₂ (.there (.there (.there .here))) (hl' _) hx fun e s₃ he S₃ => ?_)
      exact fin e s₃ [(z, zipR TI TO), (TI, tup [.ref i1, .ref i2]), (TO, prR), (i2, sit x k)] (.head _) he S₃
    | some v =>
      have hy : x.cps[k]? = none := hv.resolve_left (by rw [hx]; simp)
      refine wpAny_bind (draw_list (σ' := [(z, zipR TI TO), (TI, tup [.ref i1, .ref i2]), (TO, prR), (i1, lit l (k + 1)), (i2, sit x k)] ++ ρ) S₂ (.there (.there (.there .here))) (hl' _) hx fun w₁ s₃ hw₁ S₃ => wpAny_pure ?_)
      obtain ⟨_, hTO₃, b0, b1, rfl⟩ := S₃.get (a := TO) (r := prR) (.tail _ (.tail _ (.head _)))
      refine wpAny_bind (wpAny_seqItems hTO₃ rfl ?_)
      refine wpAny_bind (pr_set S₃ (.tail _ (.tail _ (.head _))) fun s₄ S₄ => ?_)
      refine wpAny_bind (wpAny_letGo (wpAny_pure ?_))
      refine wpAny_bind (wpAny_bind (wpAny_onRaise ?_))
      show wpAny _ _ (Builtin.SmallTypes.nextOf (.ref i2) >>= _) _ _ _
      refine wpAny_bind (draw_str_end (ρ := [(z, zipR TI TO), (TI, tup [.ref i1, .ref i2]), (TO, prR), (i1, lit l (k + 1))] ++ ρ) hh S₄ (.there (.there (.there (.there .here)))) hy fun e s₅ he S₅ => ?_)
      exact fin e s₅ [(z, zipR TI TO), (TI, tup [.ref i1, .ref i2]), (TO, prR), (i1, lit l (k + 1))] (.head _) he S₅
  | false =>
    simp only [Bool.false_eq_true, if_false]
    refine wpAny_bind ?_
    rw [List.forIn_toArray]
    simp only [List.forIn_cons, List.forIn_nil]
    refine wpAny_bind (wpAny_bind (wpAny_holding ?_))
    show wpAny _ _ (Builtin.SmallTypes.nextOf (.ref i1) >>= _) _ _ _
    cases hx : xs[k]? with
    | none =>
      refine wpAny_bind (draw_list_end (ρ := [(z, zipR TI TO), (TI, tup [.ref i1, .ref i2]), (TO, prR), (i2, sit x k)] ++ ρ) hh S₁ (.there (.there (.there .here))) (hl' _) hx fun e s₃ he S₃ => ?_)
      exact h e s₃ he (S₃.sub (sub _).2)
    | some v =>
      have hy : x.cps[k]? = none := hv.resolve_left (by rw [hx]; simp)
      refine wpAny_bind (draw_list (σ' := [(z, zipR TI TO), (TI, tup [.ref i1, .ref i2]), (TO, prR), (i1, lit l (k + 1)), (i2, sit x k)] ++ ρ) S₁ (.there (.there (.there .here))) (hl' _) hx fun w₁ s₃ hw₁ S₃ => wpAny_pure ?_)
      refine wpAny_pure ?_
      refine wpAny_bind (wpAny_bind (wpAny_holding ?_))
      show wpAny _ _ (Builtin.SmallTypes.nextOf (.ref i2) >>= _) _ _ _
      refine wpAny_bind (draw_str_end (ρ := [(z, zipR TI TO), (TI, tup [.ref i1, .ref i2]), (TO, prR), (i1, lit l (k + 1))] ++ ρ) hh S₃ (.there (.there (.there (.there .here)))) hy fun e s₅ he S₅ => ?_)
      exact h e s₅ he (S₅.sub (sub _).2)
end
end TIkR4
section TIkR5
open PySem PySem.Calls PyProof.Rows
set_option maxRecDepth 100000
theorem zip_no_len : typeLookup (.type "zip") "__len__" = pure none := by rw [typeLookup_type, builtinLookup_eq_fast]; kernel_rfl
theorem zip_no_hint : typeLookup (.type "zip") "__length_hint__" = pure none := by rw [typeLookup_type, builtinLookup_eq_fast]; kernel_rfl
noncomputable abbrev zH1 (h : Heap) (l1 : Addr) : Heap := h.push { cls := .type "list_iterator", data := .fields #[.ref l1, .int 0 0] }
noncomputable abbrev zH2 (h : Heap) (l1 : Addr) (x : Str) (t : Tok) : Heap := (zH1 h l1).push { cls := .type "str_ascii_iterator", data := .fields #[.str x t, .int 0 0] }
noncomputable abbrev zH3 (h : Heap) (l1 : Addr) (x : Str) (t : Tok) : Heap := (zH2 h l1 x t).push { cls := .type "tuple", data := .seq #[.ref h.objs.size, .ref (zH1 h l1).objs.size] }
noncomputable abbrev zH4 (h : Heap) (l1 : Addr) (x : Str) (t : Tok) : Heap := (zH3 h l1 x t).push { cls := .type "tuple", data := .seq #[.none, .none] }
noncomputable abbrev zH5 (h : Heap) (l1 : Addr) (x : Str) (t : Tok) : Heap := (zH4 h l1 x t).push { cls := .type "zip", data := .fields #[.none, .bool false, .bool false, .ref (zH2 h l1 x t).objs.size, .ref (zH3 h l1 x t).objs.size] }
set_option maxHeartbeats 4000000 in
theorem meets_zip_ls (l1 : Addr) (xs : Array Value) (x : Str) (t : Tok) (ha : x.cps.all (· < 128) = true) :
    Meets (Builtin.«zip.__new__» ⟨[.type "zip", .ref l1, .str x t], []⟩) (fun _ R s => s.heap.IsList l1 xs ∧
      R (.ok (.ret (.ref (zH4 s.heap l1 x t).objs.size))) { s with heap := zH5 s.heap l1 x t }) :=
  .of_wp fun prog w A R s h => by
    obtain ⟨hp, g, d, tk, os⟩ := s; obtain ⟨hl1, h⟩ := h
    have hsub := sub_zip
    have hL1 : Heap.IsList (Shared.heap ⟨hp, g, d, tk, os⟩) l1 xs := hl1
    wp_walk using wpAny_pyIter_list hL1, wpAny_pyIter_ascii ha
    exact ⟨_, rfl, h⟩
section
variable {C : Cx} {A : Around} {env : Env} {σ ρ : Asn} {z TI TO i1 i2 l D : Addr} {x : Str} {k : Nat} {xs acc : List Value} {s : Shared} {E : Value → Shared → Prop} {Q : Value → Asn → Prop}
theorem f_zip {t : Tok} (hl : Has C σ l (lst xs)) (ha : x.cps.all (· < 128) = true) (h : ∀ z TI TO i1 i2, Q (.ref z) (zipA z TI TO i1 i2 l x 0 ++ σ)) : EC C A (.type "zip") [.ref l, .str x t] σ Q := fun us hus s S => by
  obtain ⟨a, b, rfl, ha', hb⟩ := map2 hus
  obtain rfl := er_ref ha'
  obtain ⟨t', rfl⟩ := er_str hb
  obtain ⟨items, hp, he⟩ := lst_of (S.has hl)
  refine callType_new F.called_zip (by decide) (F.typeCall_zip_2 _ _) (F.newCall_zip_2 _ _) (fun obj => F.args_object_init_3 obj _ _) F.entry_zip_new
    (meets_zip_ls l items x t' ha) ⟨hp.isList, ?_⟩
  have S₁ := S.alloc (h' := zH1 s.heap l) (r := lit l 0) (tk := s.toks) (Heap.get?_none_of_le (Nat.le_refl _)) ⟨_, Heap.get?_push_size _ rfl, rfl, rfl⟩ fun b o hb => Heap.get?_push_of_some _ hb
  have S₂ := S₁.alloc (h' := zH2 s.heap l x t') (r := sit x 0) (tk := s.toks) (Heap.get?_none_of_le (Nat.le_refl _)) ⟨_, Heap.get?_push_size _ rfl, t', rfl, rfl⟩ fun b o hb => Heap.get?_push_of_some _ hb
  have S₃ := S₂.alloc (h' := zH3 s.heap l x t') (r := tup [.ref s.heap.objs.size, .ref (zH1 s.heap l).objs.size]) (tk := s.toks) (Heap.get?_none_of_le (Nat.le_refl _)) ⟨_, Heap.get?_push_size _ rfl, _, _, rfl, rfl⟩ fun b o hb => Heap.get?_push_of_some _ hb
  have S₄ := S₃.alloc (h' := zH4 s.heap l x t') (r := prR) (tk := s.toks) (Heap.get?_none_of_le (Nat.le_refl _)) ⟨_, Heap.get?_push_size _ rfl, _, _, rfl⟩ fun b o hb => Heap.get?_push_of_some _ hb
  have hz : (zH5 s.heap l x t').get? (zH4 s.heap l x t').objs.size = some _ := Heap.get?_push_size _ rfl
  have S₅ := S₄.alloc (h' := zH5 s.heap l x t') (r := zipR (zH2 s.heap l x t').objs.size (zH3 s.heap l x t').objs.size) (tk := s.toks) (Heap.get?_none_of_le (Nat.le_refl _)) ⟨_, hz, _, _, rfl⟩ fun b o hb => Heap.get?_push_of_some _ hb
  refine ⟨⟨_, hz, rfl⟩, _, S₅.perm ?_, h (zH4 s.heap l x t').objs.size (zH2 s.heap l x t').objs.size (zH3 s.heap l x t').objs.size s.heap.objs.size (zH1 s.heap l).objs.size⟩
  refine .cons _ ?_
  refine (List.Perm.swap ..).trans (.cons _ (.cons _ ?_))
  exact .swap ..
theorem zip_next {v : Value} {c : Nat} {Q : Option Value → Shared → Prop} (S : St C (zipA z TI TO i1 i2 l x k ++ ρ) s) (hl : Has C ρ l (lst xs)) (hv : xs[k]? = some v) (hc : x.cps[k]? = some c)
    (h : ∀ T s', St C ((T, tup [v, .str ⟨#[c]⟩ 0]) :: (zipA z TI TO i1 i2 l x (k + 1) ++ ρ)) s' → Q (some (.ref T)) s') : wpAny (model C.prog C.w) A (pyNext (.ref z)) Q E s := by
  obtain ⟨o, hz, f0, f1, rfl⟩ := S.get (a := z) (r := zipR TI TO) (.head _)
  have hT : s.TypeIs (.ref z) "zip" := ⟨_, hz, rfl⟩
  unfold pyNext
  exact wpAny_bind (wpAny_attempt (wpAny_callSpecial?_slot (name := Str.ofString "__next__") hT F.slot_zip_next
    (wpAny_call_entry F.slot_zip_next hT F.entry_zip_next
      (zip_item S hl hv hc fun T s' S' => wpAny_pure (h T s' S')) (F.args_zip_next_1 _))))
theorem zip_stop {Q : Option Value → Shared → Prop} (hh : A.handled = none) (S : St C (zipA z TI TO i1 i2 l x k ++ ρ) s) (hl : Has C ρ l (lst xs)) (hv : xs[k]? = none ∨ x.cps[k]? = none)
    (h : ∀ s', St C ρ s' → Q none s') : wpAny (model C.prog C.w) A (pyNext (.ref z)) Q E s := by
  obtain ⟨o, hz, f0, f1, rfl⟩ := S.get (a := z) (r := zipR TI TO) (.head _)
  have hT : s.TypeIs (.ref z) "zip" := ⟨_, hz, rfl⟩
  unfold pyNext
  refine wpAny_bind (wpAny_attempt (wpAny_callSpecial?_slot (name := Str.ofString "__next__") hT F.slot_zip_next
    (wpAny_call_entry F.slot_zip_next hT F.entry_zip_next (zip_end hh S hl hv fun e s' he S' => ?_) (F.args_zip_next_1 _))))
  obtain ⟨o, ho, hc⟩ := he
  refine wpAny_bind (wpAny_isInstance (T := "StopIteration") (b := true) ⟨o, ho, hc⟩ isSubtype_stop ?_)
  exact wpAny_pure (h _ S')
noncomputable def pairsA : List Addr → List (List Value) → Asn
  | T :: Ts, p :: ps => (T, tup p) :: pairsA Ts ps
  | _, _ => []
noncomputable def zps (xs : List Value) (x : Str) : List (List Value) := (xs.zip x.cps.toList).map fun p => [p.1, .str ⟨#[p.2]⟩ 0]
theorem zps_get {xs : List Value} {x : Str} {k : Nat} {p : List Value} (h : (zps xs x)[k]? = some p) : ∃ v c, xs[k]? = some v ∧ x.cps[k]? = some c ∧ p = [v, .str ⟨#[c]⟩ 0] := by
  unfold zps at h
  rw [List.getElem?_map] at h
  obtain ⟨q, h1, rfl⟩ := Option.map_eq_some_iff.mp h
  rw [List.getElem?_zip_eq_some] at h1
  exact ⟨q.1, q.2, h1.1, by simpa using h1.2, rfl⟩
theorem zps_end {xs : List Value} {x : Str} {k : Nat} (h : (zps xs x).length ≤ k) : xs[k]? = none ∨ x.cps[k]? = none := by
  unfold zps at h
  rw [List.length_map, List.length_zip] at h
  have hx : x.cps.toList.length = x.cps.size := Array.length_toList
  rcases Nat.le_total xs.length x.cps.size with h' | h'
  · exact .inl (List.getElem?_eq_none (by lia))
  · exact .inr (Array.getElem?_eq_none (by lia))
theorem St.upd {s : Shared} {xs : List Value} {w : Value} {σ σ' : Asn} {Q : Unit → Shared → Prop} (S : St C σ s) (u : Up D (lst xs) (lst (xs ++ [er w])) σ σ') (hz : xs.length ≤ sizeLine) (h : ∀ s', St C σ' s' → Q () s') :
    wpAny (model C.prog C.w) A (updateSeq D (·.push w)) Q E s := by
  obtain ⟨items, ⟨n, hp⟩, he⟩ := lst_of (S.get u.mem)
  refine wpAny_updateSeq hp rfl (h _ ?_) (by rw [map_size he]; exact hz) (by rw [Array.size_push, map_size he]; lia)
  refine St.set (tk := s.toks) S u (lst_at (items := items.push w) ⟨n + 1, ?_⟩ ?_) fun b o hb ho => (Heap.SameBut.update ..).extBut b o hb ho
  · rw [Heap.get?_update_self _ hp (by rw [Obj.mapSeq_push_plain]; rfl), Obj.mapSeq_push_plain]
  · rw [Array.toList_push, List.map_append, he]; rfl
theorem pairsA_snoc {T : Addr} {p : List Value} : ∀ {Ts : List Addr} {ps : List (List Value)}, ps.length = Ts.length → pairsA (Ts ++ [T]) (ps ++ [p]) = pairsA Ts ps ++ [(T, tup p)]
  | [], [], _ => rfl
  | [], _ :: _, h => by cases h
  | _ :: _, [], h => by cases h
  | a :: r, q :: ps, h => congrArg ((a, tup q) :: ·) (pairsA_snoc (by simpa using h))
theorem zip_loop {R : Result → Shared → Prop} {res : Value} (hh : A.handled = none) (hn : (zps xs x).length ≤ 10000) : ∀ (n k : Nat) (Ts : List Addr) (s : Shared), (zps xs x).length - k = n → k ≤ (zps xs x).length → Ts.length = k →
    St C (zipA z TI TO i1 i2 l x k ++ ((D, lst (Ts.map .ref)) :: (pairsA Ts ((zps xs x).take k) ++ ρ))) s → Has C ρ l (lst xs) →
    (∀ Ts s', Ts.length = (zps xs x).length → St C ((D, lst (Ts.map .ref)) :: (pairsA Ts (zps xs x) ++ ρ)) s' → R (.ok (.ret res)) s') →
    codeAny (model C.prog C.w) A (.builtin "list.extend.loop" ⟨[.ref D, .ref z, res], []⟩) R s := by
  intro n
  induction n with
  | zero =>
    intro k Ts s hk hk2 hts S hl hR
    have hke : k = (zps xs x).length := by lia
    refine codeAny_builtin F.entry_extend_loop ?_
    rw [Around.under_plainId F.plain_extend_loop _]
    show wpAny _ A.in1 (pyNext (.ref z) >>= _) _ _ s
    refine wpAny_bind (zip_stop hh S (hl.imp (fun h => .tail _ (List.mem_append_right _ h)) id) (zps_end (by lia)) fun s' S' => ?_)
    rw [List.take_of_length_le (by lia)] at S'
    exact wpAny_pure (hR Ts s' (by lia) S')
  | succ n ih =>
    intro k Ts s hk hk2 hts S hl hR
    have hlt : k < (zps xs x).length := by lia
    obtain ⟨v, c, hv, hc, hp⟩ := zps_get (List.getElem?_eq_getElem hlt)
    refine codeAny_builtin F.entry_extend_loop ?_
    rw [Around.under_plainId F.plain_extend_loop _]
    show wpAny _ A.in1 (pyNext (.ref z) >>= _) _ _ s
    refine wpAny_bind (zip_next S (hl.imp (fun h => .tail _ (List.mem_append_right _ h)) id) hv hc fun T s' S' => ?_)
    show wpAny _ A.in1 (updateSeq D (·.push (.ref T)) >>= _) _ _ _
    have S₁ := S'.perm (σ' := (D, lst (Ts.map .ref)) :: (zipA z TI TO i1 i2 l x (k + 1) ++ ((T, tup [v, .str ⟨#[c]⟩ 0]) :: (pairsA Ts ((zps xs x).take k) ++ ρ)))) ?_
    · refine wpAny_bind (S₁.upd .here (by rw [List.length_map, show sizeLine = 16777216 by decide]; lia) fun s₂ S₂ => ?_)
      refine wpAny_pure ⟨plainId_quiet F.plain_extend_loop _, ih (k + 1) (Ts ++ [T]) s₂ (by lia) hlt (by simp [hts]) (S₂.perm ?_) hl hR⟩
      have e : pairsA (Ts ++ [T]) ((zps xs x).take (k + 1)) = pairsA Ts ((zps xs x).take k) ++ [(T, tup [v, .str ⟨#[c]⟩ 0])] := by
        rw [List.take_add_one, List.getElem?_eq_getElem hlt, hp]
        exact pairsA_snoc (by rw [List.length_take]; lia)
      rw [e, List.map_append]
      refine (List.perm_middle (a := (D, _)) (l₁ := zipA z TI TO i1 i2 l x (k + 1))).symm.trans (.append_left _ (.cons _ ?_))
      rw [List.append_assoc]
      exact (List.perm_middle (a := (T, _)) (l₁ := pairsA Ts _) (l₂ := ρ)).symm
    · refine (List.perm_middle (a := (T, _)) (l₁ := zipA z TI TO i1 i2 l x (k + 1))).symm.trans ?_
      refine (List.Perm.append_left _ (.swap ..)).trans ?_
      exact List.perm_middle
theorem zip_iter {Q : Value → Shared → Prop} (hT : s.TypeIs (.ref z) "zip") (h : Q (.ref z) s) : wpAny (model C.prog C.w) A (pyIter (.ref z)) Q E s := by
  refine wpAny_pyIter_slot hT F.slot_zip_iter (wpAny_call_entry F.slot_zip_iter hT F.entry_zip_iter ?_ (F.args_zip_iter_1 _))
  show wpAny _ _ (ret (.ref z)) _ _ s
  exact wpAny_pure ⟨_, rfl, "zip", _, hT, F.slot_zip_next.lookup, h⟩
theorem f_listzip (hh : A.handled = none) (hn : (zps xs x).length ≤ 10000) (hl : Has C ρ l (lst xs)) (h : ∀ D Ts, Ts.length = (zps xs x).length → Q (.ref D) ((D, lst (Ts.map .ref)) :: (pairsA Ts (zps xs x) ++ ρ))) :
    EC C A (.type "list") [.ref z] (zipA z TI TO i1 i2 l x 0 ++ ρ) Q := fun us hus s S => by
  obtain ⟨a, rfl, ha⟩ := List.map_eq_singleton_iff.mp hus
  obtain rfl := er_ref ha
  refine callType_codes (Q₁ := fun obj s₁ => obj = .ref s.heap.objs.size ∧ s₁ = { s with heap := s.heap.push { cls := .type "list", data := .seq #[] } }) F.called_list (F.typeCall_list_1 _) F.entry_list_init
    (code_list_new _ ⟨rfl, rfl⟩) fun obj s₁ h₁ => ?_
  obtain ⟨rfl, rfl⟩ := h₁
  have S₁ := S.alloc (h' := s.heap.push { cls := .type "list", data := .seq #[] }) (r := lst []) (tk := s.toks) (Heap.get?_none_of_le (Nat.le_refl _)) ⟨_, Heap.get?_push_size _ rfl, _, _, rfl, rfl⟩ fun b o hb => Heap.get?_push_of_some _ hb
  have hS : (s.heap.push { cls := .type "list", data := .seq #[] }).get? s.heap.objs.size = some { cls := .type "list", data := .seq #[] } := Heap.get?_push_size _ rfl
  refine ⟨⟨_, hS, rfl⟩, F.args_list_init_2 _ _, ?_⟩
  generalize hD : s.heap.objs.size = D at *
  show wpAny _ A.in1.in1 (do let old ← Builtin.List.listItems (.ref D); Builtin.List.listUpdate (.ref D) (fun _ => #[]); letGo old.toList.reverse; Builtin.List.listExtendWith (.ref D) (.ref z) .none) _ _ _
  refine wpAny_bind ?_
  unfold Builtin.List.listItems
  refine wpAny_bind (wpAny_seqItems hS rfl (wpAny_pure ?_))
  show wpAny _ A.in1.in1 (updateSeq D (fun _ => #[]) >>= fun _ => letGo (#[] : Array Value).toList.reverse >>= fun _ => Builtin.List.listExtendWith (.ref D) (.ref z) .none) _ _ _
  have z0 : (0 : Nat) ≤ sizeLine := Nat.zero_le _
  refine wpAny_bind (wpAny_updateSeq hS rfl ?_)
  have hS₂ := Heap.get?_update_self (Obj.mapSeq (fun _ => (#[] : Array Value))) hS rfl
  have S₂ : St C ((D, lst []) :: (zipA z TI TO i1 i2 l x 0 ++ ρ)) { s with heap := (s.heap.push { cls := .type "list", data := .seq #[] }).update D (Obj.mapSeq fun _ => #[]) } :=
    S₁.same (tk := s.toks) (.head _) ⟨_, hS₂, _, _, rfl, rfl⟩ (Heap.SameBut.update ..)
  refine wpAny_bind (wpAny_letGo ?_)
  obtain ⟨o, hz, f0, f1, rfl⟩ := S₂.get (a := z) (r := zipR TI TO) (.tail _ (.head _))
  have hDz : D ≠ z := fun q => by subst q; have := S₂.nodup; simp [zipA] at this
  unfold Builtin.List.listExtendWith
  refine wpAny_bind (wpAny_typeOf ⟨_, hz, rfl⟩ ?_)
  have h1 : Builtin.List.listSameRef (.ref D) (.ref z) = false := by simp [Builtin.List.listSameRef, hDz]
  have h2 : (Value.type "zip" == Value.type "list") = false := by decide
  have h3 : (Value.type "zip" == Value.type "tuple") = false := by decide
  simp only [h1, h2, h3, Bool.or_false, Bool.false_eq_true, if_false]
  refine wpAny_bind (zip_iter ⟨_, hz, rfl⟩ ?_)
  refine wpAny_bind (wpAny_holding ?_)
  unfold Builtin.List.listLengthHint
  refine wpAny_bind (wpAny_specialOf ⟨_, hz, rfl⟩ zip_no_len ?_)
  show wpAny _ A.in1.in1 (specialOf (Value.ref z) (Str.ofString "__length_hint__") >>= _) _ _ _
  refine wpAny_bind (wpAny_specialOf ⟨_, hz, rfl⟩ zip_no_hint ?_)
  refine wpAny_pure ?_
  show wpAny _ A.in1.in1 (rule "list.extend.makes-room" >>= fun _ => Builtin.List.listTouch (.ref D) >>= fun _ =>
    again (.builtin "list.extend.loop" ⟨[.ref D, .ref z, .none], []⟩)) _ _ _
  refine wpAny_bind (wpAny_rule ?_)
  refine wpAny_bind ?_
  show wpAny _ A.in1.in1 (updateSeq D (·.push .none) >>= fun _ => updateSeq D (·.pop)) _ _ _
  refine wpAny_bind (wpAny_updateSeq hS₂ rfl ?_)
  have hS₃ := Heap.get?_update_self (Obj.mapSeq (·.push Value.none)) hS₂ rfl
  refine wpAny_updateSeq (hz := by seq_fits) hS₃ rfl ?_
  have hS₄ := Heap.get?_update_self (Obj.mapSeq (·.pop)) hS₃ rfl
  have S₄ := S₂.same (tk := s.toks) (.head _) ⟨_, hS₄, _, _, rfl, rfl⟩ ((Heap.SameBut.update ..).trans (Heap.SameBut.update ..))
  refine wpAny_pure ⟨plainId_quiet F.plain_extend_loop _, zip_loop (TI := TI) (TO := TO) (i1 := i1) (i2 := i2) (l := l) (A := A.in1) (ρ := ρ) (xs := xs) (x := x) (z := z) (D := D) (res := Value.none) (show A.in1.handled = none from hh) hn _ 0 [] _ rfl (Nat.zero_le _) rfl (S₄.perm ?_) hl fun Ts s' hT S' => ?_⟩
  · exact (List.perm_middle (a := (D, _)) (l₁ := zipA z TI TO i1 i2 l x 0)).symm
  · exact ⟨rfl, _, S', h D Ts hT⟩
end
end TIkR5
section TIkWire
noncomputable abbrev Mk := Nat × Nat × Nat
noncomputable def mz (m : Mk) : List Int := [(m.1 : Int), (m.2.1 : Int), (m.2.2 : Int)]
noncomputable def mlt (a b : Mk) : Bool := decide (a.1 < b.1) || (a.1 == b.1 && (decide (a.2.1 < b.2.1) || (a.2.1 == b.2.1 && decide (a.2.2 < b.2.2))))
noncomputable def supM (ts : List Mk) : List Mk := match ts with
  | [a, b] => if mlt a b then [a, b] else [b, a]
  | [a, b, c] => if mlt b c then (if mlt a b then [a, b, c] else [b, a, c]) else (if mlt a c then [a, b, c] else [c, b, a])
  | l => l
theorem supM2 (a b : Mk) : supM [a, b] = if mlt a b then [a, b] else [b, a] := rfl
theorem supM3 (a b c : Mk) : supM [a, b, c] = if mlt b c then (if mlt a b then [a, b, c] else [b, a, c]) else (if mlt a c then [a, b, c] else [c, b, a]) := rfl
noncomputable def rowAt (rs : List (List (List Nat))) (i k : Nat) : List Nat := ((rs[i]?).getD [])[k]?.getD []
noncomputable def cnt (rs : List (List (List Nat))) (i : Nat) : Nat := ((rs[i]?).getD []).length
noncomputable def nextH (rs : List (List (List Nat))) : List Mk → List Mk
  | [] => []
  | m :: rest => if m.2.2 + 1 < cnt rs m.2.1 then supM ((m.1 + (rowAt rs m.2.1 m.2.2).length + 1, m.2.1, m.2.2 + 1) :: rest) else
    match rest.getLast? with
    | none => []
    | some l => supM (l :: rest.dropLast)
noncomputable def wireM (rs : List (List (List Nat))) : Nat → List Mk → List Mk
  | 0, _ => []
  | _ + 1, [] => []
  | n + 1, m :: rest => m :: wireM rs n (nextH rs (m :: rest))
noncomputable def leftM (rs : List (List (List Nat))) (h : List Mk) : Nat := (h.map fun m => cnt rs m.2.1 - m.2.2).sum
noncomputable def lineM (rs : List (List (List Nat))) (m : Mk) : List Nat := quo (200 + m.2.1) ++ rowAt rs m.2.1 m.2.2
end TIkWire
section TIkMerge
theorem mlt_iff (a b : Mk) : mlt a b = true ↔ a.1 < b.1 ∨ (a.1 = b.1 ∧ (a.2.1 < b.2.1 ∨ (a.2.1 = b.2.1 ∧ a.2.2 < b.2.2))) := by
  unfold mlt; simp
theorem lex_tr {a b c : Nat} {P Q R : Prop} (t : P → Q → R) (h1 : a < b ∨ a = b ∧ P) (h2 : b < c ∨ b = c ∧ Q) : a < c ∨ a = c ∧ R := by
  rcases h1 with h | ⟨rfl, p⟩
  · rcases h2 with h' | ⟨rfl, q⟩
    · exact .inl (Nat.lt_trans h h')
    · exact .inl h
  · rcases h2 with h' | ⟨rfl, q⟩
    · exact .inl h'
    · exact .inr ⟨rfl, t p q⟩
theorem mlt_trans {a b c : Mk} (h : mlt a b = true) (h' : mlt b c = true) : mlt a c = true :=
  (mlt_iff _ _).mpr (lex_tr (lex_tr Nat.lt_trans) ((mlt_iff _ _).mp h) ((mlt_iff _ _).mp h'))
theorem mlt_total {a b : Mk} (h : a.2.1 ≠ b.2.1) (h' : ¬ mlt a b = true) : mlt b a = true := by
  rw [mlt_iff] at *
  rcases Nat.lt_trichotomy a.1 b.1 with k | k | k
  · exact absurd (.inl k) h'
  · rcases Nat.lt_trichotomy a.2.1 b.2.1 with m | m | m
    · exact absurd (.inr ⟨k, .inl m⟩) h'
    · exact absurd m h
    · exact .inr ⟨k.symm, .inl m⟩
  · exact .inl k
theorem mlt_irrefl (a : Mk) : ¬ mlt a a = true := by rw [mlt_iff]; lia
noncomputable def startH (rs : List (List (List Nat))) (i k : Nat) : Nat := ((((rs[i]?).getD []).take k).map fun x => x.length + 1).sum
theorem startH_succ {rs : List (List (List Nat))} {i k : Nat} (h : k < cnt rs i) : startH rs i (k + 1) = startH rs i k + (rowAt rs i k).length + 1 := by
  unfold startH rowAt
  have hk : ((rs[i]?).getD [])[k]? = some (((rs[i]?).getD [])[k]) := List.getElem?_eq_getElem h
  rw [List.take_add_one, hk]
  simp [Nat.add_assoc]
theorem startH_lt {rs : List (List (List Nat))} {i : Nat} : ∀ {d k : Nat}, k + d < cnt rs i → d ≠ 0 → startH rs i k < startH rs i (k + d)
  | 0, _, _, h => absurd rfl h
  | 1, k, h, _ => by rw [startH_succ (by lia)]; lia
  | d + 2, k, h, _ => by
    have := startH_lt (rs := rs) (i := i) (d := d + 1) (k := k) (by lia) (by lia)
    rw [show k + (d + 2) = (k + (d + 1)) + 1 by lia, startH_succ (by lia)]; lia
noncomputable def own (rs : List (List (List Nat))) (i k n : Nat) : List Mk := (List.range n).map fun d => (startH rs i (k + d), i, k + d)
theorem own_succ (rs : List (List (List Nat))) (i k n : Nat) : own rs i k (n + 1) = (startH rs i k, i, k) :: own rs i (k + 1) n := by
  unfold own
  rw [List.range_succ_eq_map, List.map_cons, List.map_map]
  congr 1
  refine List.map_congr_left fun d _ => ?_
  simp only [Function.comp, Nat.succ_eq_add_one]
  rw [show k + (d + 1) = k + 1 + d by lia]
noncomputable def remM (rs : List (List (List Nat))) (h : List Mk) : List Mk := h.flatMap fun m => own rs m.2.1 m.2.2 (cnt rs m.2.1 - m.2.2)
structure HOk (rs : List (List (List Nat))) (h : List Mk) : Prop where
  few : h.length ≤ 3
  at_ : ∀ m ∈ h, m.1 = startH rs m.2.1 m.2.2 ∧ m.2.2 < cnt rs m.2.1 ∧ m.2.1 < 3
  apart : (h.map (·.2.1)).Nodup
theorem supM_perm : ∀ (l : List Mk), (supM l).Perm l
  | [] => .refl _
  | [a] => .refl _
  | [a, b] => by
    simp only [supM2, supM3]
    cases mlt a b
    · exact .swap ..
    · exact .refl _
  | [a, b, c] => by
    have h1 : [c, b, a].Perm [b, c, a] := .swap ..
    have h2 : [b, c, a].Perm [b, a, c] := (List.Perm.swap ..).cons b
    have h3 : [b, a, c].Perm [a, b, c] := .swap ..
    simp only [supM2, supM3]
    cases mlt b c
    · cases mlt a c
      · exact (h1.trans h2).trans h3
      · exact .refl _
    · cases mlt a b
      · exact h3
      · exact .refl _
  | a :: b :: c :: d :: r => .refl _
theorem HOk.perm {rs : List (List (List Nat))} {h h' : List Mk} (x : HOk rs h) (p : h'.Perm h) : HOk rs h' :=
  ⟨p.length_eq ▸ x.few, fun m hm => x.at_ m (p.mem_iff.mp hm), (p.map (·.2.1)).nodup_iff.mpr x.apart⟩
noncomputable def Least : List Mk → Prop
  | [] => True
  | m :: r => ∀ q ∈ r, mlt m q = true
theorem supM_least {rs : List (List (List Nat))} : ∀ {l : List Mk}, HOk rs l → Least (supM l)
  | [], _ => trivial
  | [a], _ => fun q hq => by cases hq
  | [a, b], x => by
    have hab : a.2.1 ≠ b.2.1 := by have := x.apart; simp at this; exact this
    simp only [supM2, supM3]
    cases h : mlt a b
    · intro q hq; simp at hq; subst hq; exact mlt_total hab (by simp [h])
    · intro q hq; simp at hq; subst hq; exact h
  | [a, b, c], x => by
    have hn := x.apart
    simp at hn
    obtain ⟨⟨hab, hac⟩, hbc⟩ := hn
    simp only [supM2, supM3]
    cases h1 : mlt b c
    · have h1' := mlt_total hbc (by simp [h1])
      cases h2 : mlt a c
      · intro q hq; simp at hq; rcases hq with rfl | rfl
        · exact h1'
        · exact mlt_total hac (by simp [h2])
      · intro q hq; simp at hq; rcases hq with rfl | rfl
        · exact mlt_trans h2 h1'
        · exact h2
    · cases h2 : mlt a b
      · intro q hq; simp at hq; rcases hq with rfl | rfl
        · exact mlt_total hab (by simp [h2])
        · exact h1
      · intro q hq; simp at hq; rcases hq with rfl | rfl
        · exact h2
        · exact mlt_trans h2 h1
  | a :: b :: c :: d :: r, x => by have := x.few; simp at this
theorem perm_last {rest : List Mk} {l : Mk} (h : rest.getLast? = some l) : (l :: rest.dropLast).Perm rest := by
  rcases List.eq_nil_or_concat rest with rfl | ⟨r, a, rfl⟩
  · cases h
  · rw [List.concat_eq_append] at *
    simp at h
    subst h
    rw [List.dropLast_concat]
    exact (List.perm_append_comm (l₁ := r) (l₂ := [a])).symm
theorem remM_perm {rs : List (List (List Nat))} {h h' : List Mk} (p : h.Perm h') : (remM rs h).Perm (remM rs h') := by
  unfold remM
  exact p.flatMap_right _
theorem nextH_ok {rs : List (List (List Nat))} {m : Mk} {rest : List Mk} (x : HOk rs (m :: rest)) (hl : Least (m :: rest)) :
    HOk rs (nextH rs (m :: rest)) ∧ Least (nextH rs (m :: rest)) ∧ (remM rs (m :: rest)).Perm (m :: remM rs (nextH rs (m :: rest))) ∧ (∀ q ∈ remM rs (nextH rs (m :: rest)), mlt m q = true) ∧ leftM rs (nextH rs (m :: rest)) + 1 = leftM rs (m :: rest) := by
  have hm := x.at_ m (by simp)
  obtain ⟨h1, h2, h3⟩ := hm
  have later : ∀ q ∈ rest, ∀ p ∈ own rs q.2.1 q.2.2 (cnt rs q.2.1 - q.2.2), mlt m p = true := by
    intro q hq p hp
    have hmq := hl q hq
    have hqa := x.at_ q (List.mem_cons_of_mem _ hq)
    unfold own at hp
    obtain ⟨d, hd, rfl⟩ := List.mem_map.mp hp
    rw [List.mem_range] at hd
    by_cases hd0 : d = 0
    · subst hd0
      have : ((startH rs q.2.1 (q.2.2 + 0), q.2.1, q.2.2 + 0) : Mk) = q := by rw [Nat.add_zero, ← hqa.1]
      rw [this]; exact hmq
    · have := startH_lt (rs := rs) (i := q.2.1) (k := q.2.2) (d := d) (by lia) hd0
      rw [mlt_iff] at hmq ⊢
      rw [← hqa.1] at this
      dsimp only
      lia
  have hsplit : own rs m.2.1 m.2.2 (cnt rs m.2.1 - m.2.2) = m :: own rs m.2.1 (m.2.2 + 1) (cnt rs m.2.1 - (m.2.2 + 1)) := by
    rw [show cnt rs m.2.1 - m.2.2 = (cnt rs m.2.1 - (m.2.2 + 1)) + 1 by lia, own_succ, ← h1]
  have hrem : remM rs (m :: rest) = m :: (own rs m.2.1 (m.2.2 + 1) (cnt rs m.2.1 - (m.2.2 + 1)) ++ remM rs rest) := by
    unfold remM
    rw [List.flatMap_cons, hsplit]; rfl
  have hnd := x.apart
  rw [List.map_cons, List.nodup_cons] at hnd
  have hleft : leftM rs (m :: rest) = (cnt rs m.2.1 - m.2.2) + leftM rs rest := by simp [leftM]
  have leftp : ∀ {a b : List Mk}, a.Perm b → leftM rs a = leftM rs b := fun p => by unfold leftM; exact (p.map _).sum_nat
  simp only [nextH]
  by_cases hk : m.2.2 + 1 < cnt rs m.2.1
  · rw [if_pos hk]
    have hst : m.1 + (rowAt rs m.2.1 m.2.2).length + 1 = startH rs m.2.1 (m.2.2 + 1) := by rw [startH_succ h2, ← h1]
    have y : HOk rs ((m.1 + (rowAt rs m.2.1 m.2.2).length + 1, m.2.1, m.2.2 + 1) :: rest) := by
      refine ⟨by have := x.few; simpa using this, fun q hq => ?_, ?_⟩
      · rcases List.mem_cons.mp hq with rfl | hq
        · exact ⟨hst, hk, h3⟩
        · exact x.at_ q (List.mem_cons_of_mem _ hq)
      · rw [List.map_cons, List.nodup_cons]; exact hnd
    have p := supM_perm ((m.1 + (rowAt rs m.2.1 m.2.2).length + 1, m.2.1, m.2.2 + 1) :: rest)
    have hr : remM rs ((m.1 + (rowAt rs m.2.1 m.2.2).length + 1, m.2.1, m.2.2 + 1) :: rest) = own rs m.2.1 (m.2.2 + 1) (cnt rs m.2.1 - (m.2.2 + 1)) ++ remM rs rest := by
      unfold remM; rw [List.flatMap_cons]
    refine ⟨y.perm p, supM_least y, ?_, ?_, ?_⟩
    · rw [hrem]
      refine .cons _ ?_
      rw [← hr]; exact remM_perm p.symm
    · intro q hq
      have hq := (remM_perm p).mem_iff.mp hq
      rw [hr] at hq
      rcases List.mem_append.mp hq with hq | hq
      · unfold own at hq
        obtain ⟨d, hd, rfl⟩ := List.mem_map.mp hq
        rw [List.mem_range] at hd
        have := startH_lt (rs := rs) (i := m.2.1) (k := m.2.2) (d := d + 1) (by lia) (by lia)
        rw [mlt_iff]
        left
        dsimp only
        rw [h1, show m.2.2 + 1 + d = m.2.2 + (d + 1) by lia]; exact this
      · obtain ⟨q', hq', hp⟩ := List.mem_flatMap.mp hq
        exact later q' hq' q hp
    · rw [leftp p, hleft]
      have : leftM rs ((m.1 + (rowAt rs m.2.1 m.2.2).length + 1, m.2.1, m.2.2 + 1) :: rest) = (cnt rs m.2.1 - (m.2.2 + 1)) + leftM rs rest := by simp [leftM]
      rw [this]; lia
  · rw [if_neg hk]
    have h0 : cnt rs m.2.1 - (m.2.2 + 1) = 0 := by lia
    have hown : own rs m.2.1 (m.2.2 + 1) (cnt rs m.2.1 - (m.2.2 + 1)) = [] := by rw [h0]; rfl
    rw [hown, List.nil_append] at hrem
    have xr : HOk rs rest := ⟨by have := x.few; simp at this; lia, fun q hq => x.at_ q (List.mem_cons_of_mem _ hq), hnd.2⟩
    have hin : ∀ q ∈ remM rs rest, mlt m q = true := fun q hq => by
      obtain ⟨q', hq', hp⟩ := List.mem_flatMap.mp hq
      exact later q' hq' q hp
    cases e : rest.getLast? with
    | none =>
      have : rest = [] := List.getLast?_eq_none_iff.mp e
      subst this
      refine ⟨⟨by simp, (fun q hq => by cases hq), by simp⟩, trivial, by rw [hrem], (fun q hq => by cases hq), ?_⟩
      rw [hleft]; simp [leftM]; lia
    | some l =>
      dsimp only
      have p := (supM_perm (l :: rest.dropLast)).trans (perm_last e)
      have y : HOk rs (l :: rest.dropLast) := xr.perm (perm_last e)
      refine ⟨y.perm (supM_perm _), supM_least y, ?_, fun q hq => hin q ((remM_perm p).mem_iff.mp hq), ?_⟩
      · rw [hrem]; exact .cons _ (remM_perm p.symm)
      · rw [leftp p, hleft]; lia
theorem wireM_ok {rs : List (List (List Nat))} : ∀ (n : Nat) (h : List Mk), leftM rs h = n → HOk rs h → Least h → (wireM rs n h).Perm (remM rs h) ∧ (wireM rs n h).Pairwise fun a b => mlt a b = true
  | 0, [], _, _, _ => ⟨.refl _, .nil⟩
  | 0, m :: r, hn, x, _ => by
    have := (x.at_ m (by simp)).2.1
    simp [leftM] at hn; lia
  | n + 1, [], hn, _, _ => by simp [leftM] at hn
  | n + 1, m :: r, hn, x, hl => by
    obtain ⟨y, yl, p, hb, hle⟩ := nextH_ok x hl
    obtain ⟨p', s'⟩ := wireM_ok n (nextH rs (m :: r)) (by lia) y yl
    unfold wireM
    exact ⟨(p'.cons m).trans p.symm, List.pairwise_cons.mpr ⟨fun q hq => hb q (p'.mem_iff.mp hq), s'⟩⟩
theorem sorted_unique {a b : List Mk} (p : a.Perm b) (ha : a.Pairwise fun a b => mlt a b = true) (hb : b.Pairwise fun a b => mlt a b = true) : a = b :=
  p.eq_of_pairwise (fun x y _ _ h h' => absurd (mlt_trans h h') (mlt_irrefl x)) ha hb
noncomputable def marksM (rs : List (List (List Nat))) : List Mk := own rs 0 0 (cnt rs 0) ++ (own rs 1 0 (cnt rs 1) ++ own rs 2 0 (cnt rs 2))
noncomputable def heap0 : List Mk := [(0, 0, 0), (0, 1, 0), (0, 2, 0)]
theorem heap0_ok {rs : List (List (List Nat))} (hne : ∀ i < 3, 0 < cnt rs i) : HOk rs heap0 := by
  refine ⟨by simp [heap0], fun m hm => ?_, by simp [heap0]⟩
  simp only [heap0, List.mem_cons, List.not_mem_nil, or_false] at hm
  rcases hm with rfl | rfl | rfl
  · exact ⟨by simp [startH], hne 0 (by lia), by simp⟩
  · exact ⟨by simp [startH], hne 1 (by lia), by simp⟩
  · exact ⟨by simp [startH], hne 2 (by lia), by simp⟩
theorem heap0_least : Least heap0 := fun q hq => by
  simp only [List.mem_cons, List.not_mem_nil, or_false] at hq
  rcases hq with rfl | rfl <;> decide
theorem wire0 {rs : List (List (List Nat))} (hne : ∀ i < 3, 0 < cnt rs i) : (wireM rs (leftM rs heap0) heap0).Perm (marksM rs) ∧ (wireM rs (leftM rs heap0) heap0).Pairwise fun a b => mlt a b = true := by
  obtain ⟨p, s⟩ := wireM_ok _ heap0 rfl (heap0_ok hne) heap0_least
  refine ⟨p.trans ?_, s⟩
  unfold remM marksM heap0
  simp
end TIkMerge
section TIkSort
open PySem PySem.W PyProof.Rows
section
variable {n : Nat} {lt : Nat → Nat → Bool} {cmp : Nat → Nat → (Bool → Shared → Prop) → Shared → Prop} {s : Shared}
structure Ord (n : Nat) (lt : Nat → Nat → Bool) : Prop where
  tr : ∀ a b c, lt a b = true → lt b c = true → lt a c = true
  tot : ∀ a b, a < n → b < n → a ≠ b → lt a b = true ∨ lt b a = true
  irr : ∀ a, ¬ lt a a = true
structure PermOk (n : Nat) (p : Array Nat) : Prop where
  size : p.size = n
  perm : p.toList.Perm (List.range n)
theorem PermOk.below {p : Array Nat} (h : PermOk n p) {i : Nat} (hi : i < n) : p.getD i 0 < n := by
  have hs := h.size
  have : p.getD i 0 = p[i] := by simp [Array.getD, hs, hi]
  rw [this]
  exact List.mem_range.mp (h.perm.mem_iff.mp (by simp))
theorem PermOk.inj {p : Array Nat} (h : PermOk n p) {i j : Nat} (hi : i < n) (hj : j < n) (hij : i ≠ j) : p.getD i 0 ≠ p.getD j 0 := by
  have hs := h.size
  have e1 : p.getD i 0 = p.toList[i]'(by simp [hs, hi]) := by simp [Array.getD, hs, hi]
  have e2 : p.getD j 0 = p.toList[j]'(by simp [hs, hj]) := by simp [Array.getD, hs, hj]
  rw [e1, e2]
  have nd : p.toList.Nodup := h.perm.nodup_iff.mpr List.nodup_range
  intro e
  rcases Nat.lt_or_gt_of_ne hij with h | h
  · exact List.pairwise_iff_getElem.mp nd i j _ _ h e
  · exact List.pairwise_iff_getElem.mp nd j i _ _ h e.symm
noncomputable def SortedP (lt : Nat → Nat → Bool) (p : Array Nat) (k : Nat) : Prop := ∀ a b, a < b → b < k → lt (p.getD a 0) (p.getD b 0) = true
theorem place_ok (O : Ord n lt) (hc : ∀ i j C, i < n → j < n → C (lt i j) s → cmp i j C s) {p : Array Nat} (hp : PermOk n p) {k : Nat} (hk : k < n) (hs : SortedP lt p k) {Q : Nat → Shared → Prop}
    (hQ : ∀ pos, pos ≤ k → (∀ a, a < pos → lt (p.getD a 0) (p.getD k 0) = true) → (∀ a, pos ≤ a → a < k → lt (p.getD k 0) (p.getD a 0) = true) → Q pos s) :
    ∀ (f l r : Nat), r - l ≤ f → l ≤ r → r ≤ k → (∀ a, a < l → lt (p.getD a 0) (p.getD k 0) = true) → (∀ a, r ≤ a → a < k → lt (p.getD k 0) (p.getD a 0) = true) → (kas_place p k f l r).kasWp cmp Q s
  | 0, l, r, hf, hlr, hrk, h1, h2 => by
    have : l = r := by lia
    subst this
    exact hQ l hrk h1 h2
  | f + 1, l, r, hf, hlr, hrk, h1, h2 => by
    unfold kas_place
    split
    · have : l = r := by lia
      subst this
      exact hQ l hrk h1 h2
    · rename_i hlt
      refine hc _ _ _ (hp.below hk) (hp.below (by lia)) ?_
      have hmk : (l + r) / 2 < k := by lia
      cases e : lt (p.getD k 0) (p.getD ((l + r) / 2) 0) with
      | true =>
        dsimp only
        rw [if_pos rfl]
        refine place_ok O hc hp hk hs hQ f l ((l + r) / 2) (by lia) (by lia) (by lia) h1 fun a ha hak => ?_
        by_cases ham : a = (l + r) / 2
        · rw [ham]; exact e
        · exact O.tr _ _ _ e (hs _ _ (by lia) hak)
      | false =>
        dsimp only
        rw [if_neg (by simp)]
        have hm : lt (p.getD ((l + r) / 2) 0) (p.getD k 0) = true := by
          rcases O.tot _ _ (hp.below (i := (l + r) / 2) (by lia)) (hp.below hk) (hp.inj (by lia) hk (by lia)) with h | h
          · exact h
          · rw [e] at h; cases h
        refine place_ok O hc hp hk hs hQ f ((l + r) / 2 + 1) r (by lia) (by lia) hrk (fun a ha => ?_) h2
        by_cases ham : a = (l + r) / 2
        · rw [ham]; exact hm
        · exact O.tr _ _ _ (hs _ _ (by lia) hmk) hm
theorem bubble_getD {p : Array Nat} {k d : Nat} (hk : k < p.size) (hd : d ≤ k) (i : Nat) : (bubble p k d).getD i 0 = if i = k - d then p.getD k 0 else if k - d < i ∧ i ≤ k then p.getD (i - 1) 0 else p.getD i 0 := by
  simp only [Array.getD_eq_getD_getElem?]
  rw [getElem?_bubble hk d hd i]
  repeat' split
  all_goals rfl
theorem bin_ok (O : Ord n lt) (hc : ∀ i j C, i < n → j < n → C (lt i j) s → cmp i j C s) {Q : Array Nat → Shared → Prop} (hQ : ∀ p, PermOk n p → SortedP lt p n → Q p s) :
    ∀ (f : Nat) (p : Array Nat) (k : Nat), k + f = n → PermOk n p → SortedP lt p k → (kas_bin f p k).kasWp cmp Q s
  | 0, p, k, hk, hp, hs => by
    have : k = n := by lia
    subst this
    exact hQ p hp hs
  | f + 1, p, k, hk, hp, hs => by
    unfold kas_bin
    rw [KasT.kasWp_bind]
    have hkn : k < n := by lia
    refine place_ok O hc hp hkn hs ?_ k 0 k (by lia) (Nat.zero_le _) (Nat.le_refl _) (fun a ha => by lia) (fun a h1 h2 => by lia)
    intro pos hpk hlo hhi
    have hps := hp.size
    refine bin_ok O hc hQ f (bubble p k (k - pos)) (k + 1) (by lia) ⟨by rw [bubble_size, hps], ((bubble_perm p k (k - pos)).toList).trans hp.perm⟩ ?_
    intro a b hab hb
    rw [bubble_getD (by lia) (by lia), bubble_getD (by lia) (by lia)]
    have e : k - (k - pos) = pos := by lia
    rw [e]
    by_cases ha : a = pos
    · rw [if_pos ha, if_neg (by lia), if_pos (by lia)]
      exact hhi _ (by lia) (by lia)
    · rw [if_neg ha]
      by_cases hb' : b = pos
      · rw [if_pos hb', if_neg (by lia)]
        exact hlo a (by lia)
      · rw [if_neg hb']
        by_cases ha2 : pos < a ∧ a ≤ k
        · rw [if_pos ha2, if_pos (by lia)]
          exact hs _ _ (by lia) (by lia)
        · rw [if_neg ha2]
          by_cases hb2 : pos < b ∧ b ≤ k
          · rw [if_pos hb2]
            exact hs _ _ (by lia) (by lia)
          · rw [if_neg hb2]
            exact hs _ _ hab (by lia)
theorem range_getD {i : Nat} (hi : i < n) : (List.toArray (List.range n)).getD i 0 = i := by
  simp [Array.getD, hi]
theorem asc_ok (O : Ord n lt) (hc : ∀ i j C, i < n → j < n → C (lt i j) s → cmp i j C s) {Q : Nat → Shared → Prop} {m₀ : Nat} (hQ : ∀ m, m₀ ≤ m → m ≤ n → SortedP lt (List.toArray (List.range n)) m → Q m s) :
    ∀ (f m : Nat), m₀ ≤ m → 1 ≤ m → m + f = n → SortedP lt (List.toArray (List.range n)) m → (kas_asc (List.toArray (List.range n)) f m).kasWp cmp Q s
  | 0, m, h0, h1, hm, hs => hQ m h0 (by lia) hs
  | f + 1, m, h0, h1, hm, hs => by
    unfold kas_asc
    rw [range_getD (by lia), range_getD (by lia)]
    refine hc _ _ _ (by lia) (by lia) ?_
    cases e : lt m (m - 1) with
    | true => dsimp only; rw [if_pos rfl]; exact hQ m h0 (by lia) hs
    | false =>
      dsimp only
      rw [if_neg (by simp)]
      have hl : lt (m - 1) m = true := by
        rcases O.tot m (m - 1) (by lia) (by lia) (by lia) with h | h
        · rw [e] at h; cases h
        · exact h
      refine asc_ok O hc hQ f (m + 1) (by lia) (by lia) (by lia) fun a b hab hb => ?_
      by_cases hbm : b = m
      · subst hbm
        rw [range_getD (by lia), range_getD (by lia)]
        by_cases ham : a = b - 1
        · rw [ham]; exact hl
        · have := hs a (b - 1) (by lia) (by lia)
          rw [range_getD (by lia), range_getD (by lia)] at this
          exact O.tr _ _ _ this hl
      · exact hs a b hab (by lia)
theorem sort_ok (O : Ord n lt) (h2 : 2 ≤ n) (h01 : lt 0 1 = true) (hc : ∀ i j C, i < n → j < n → C (lt i j) s → cmp i j C s) {Q : Array Nat → Shared → Prop} (hQ : ∀ p, PermOk n p → SortedP lt p n → Q p s) : (kas_sort n).kasWp cmp Q s := by
  have hr : PermOk n (List.toArray (List.range n)) := ⟨by simp, .refl _⟩
  have fin : ∀ m, 2 ≤ m → m ≤ n → SortedP lt (List.toArray (List.range n)) m →
      (if m < n then kas_bin (n - max m 1) (List.toArray (List.range n)) (max m 1) else .ret (List.toArray (List.range n))).kasWp cmp Q s := by
    intro m hm2 hmn hs
    split
    · rename_i hlt
      rw [show max m 1 = m by lia]
      exact bin_ok O hc hQ (n - m) _ m (by lia) hr hs
    · have : m = n := by lia
      subst this
      exact hQ _ hr hs
  have first : SortedP lt (List.toArray (List.range n)) 2 := fun a b hab hb => by
    have : a = 0 ∧ b = 1 := by lia
    obtain ⟨rfl, rfl⟩ := this
    rw [range_getD (by lia), range_getD (by lia)]; exact h01
  unfold kas_sort
  rw [KasT.kasWp_bind]
  unfold kas_count
  rw [KasT.kasWp_bind]
  obtain ⟨k, rfl⟩ : ∃ k, n = k + 2 := ⟨n - 2, by lia⟩
  have main : (kas_asc (List.toArray (List.range (k + 2))) k 2).kasWp cmp (fun m s' => (if (m == k + 2) = true then KasT.ret (m, List.toArray (List.range (k + 2))) else if m > 1 then .ask ((List.toArray (List.range (k + 2))).getD 0 0) ((List.toArray (List.range (k + 2))).getD (m - 1) 0) fun c => if c = true then .ret (m, List.toArray (List.range (k + 2))) else kas_descPart m (k + 2) (kas_rev (List.toArray (List.range (k + 2))) 0 m)
      else kas_descPart m (k + 2) (List.toArray (List.range (k + 2)))).kasWp cmp (fun r s'' => (if r.1 < k + 2 then kas_bin (k + 2 - max r.1 1) r.2 (max r.1 1) else .ret r.2).kasWp cmp Q s'') s') s := by
    refine asc_ok O hc (m₀ := 2) (fun m hm hmn hs => ?_) k 2 (Nat.le_refl _) (by lia) (by lia) first
    by_cases e : (m == k + 2) = true
    · rw [if_pos e]
      exact fin m hm hmn hs
    · rw [if_neg e, if_pos (by lia)]
      rw [range_getD (by lia), range_getD (by lia)]
      refine hc _ _ _ (by lia) (by lia) ?_
      have hlt : lt 0 (m - 1) = true := by
        have := hs 0 (m - 1) (by lia) (by lia)
        rwa [range_getD (by lia), range_getD (by lia)] at this
      rw [hlt]
      dsimp only
      rw [if_pos rfl]
      exact fin m hm hmn hs
  show (kas_asc (List.toArray (List.range (k + 2))) (k + 1) 1).kasWp cmp _ s
  unfold kas_asc
  refine hc _ _ _ (by rw [range_getD (by lia)]; lia) (by rw [range_getD (by lia)]; lia) ?_
  have h10 : lt ((List.toArray (List.range (k + 2))).getD 1 0) ((List.toArray (List.range (k + 2))).getD (1 - 1) 0) = false := by
    rw [range_getD (by lia), range_getD (by lia)]
    cases e : lt 1 (1 - 1) with
    | false => rfl
    | true => exact absurd (O.tr _ _ _ h01 e) (O.irr 0)
  rw [h10]
  dsimp only
  rw [if_neg (by simp)]
  exact main
end
end TIkSort
section TIkR6
open PySem PySem.Calls PyProof.Rows
set_option maxRecDepth 4000
section
variable {C : Cx} {A : Around} {env : Env} {σ σ' : Asn} {Q : Value → Asn → Prop} {QB : Bool → Asn → Prop} {l m : Addr} {xs ys : List Value} {x y : Str} {t u : Tok}
theorem f_sum {ns : List Int} (hh : A.handled = none) (hl : Has C σ l (lst (zs ns))) (h : Q (.int ns.sum 0) σ) : EC C A (.builtin "sum") [.ref l] σ Q := fun us hus s S => by
  obtain ⟨a, rfl, ha⟩ := List.map_eq_singleton_iff.mp hus
  obtain rfl := er_ref ha
  obtain ⟨items, hp, he⟩ := lst_of (S.has hl)
  obtain ⟨ps, hps⟩ : ∃ ps : Array (Int × Tok), items = intItems ps ∧ (ps.toList.map (·.1)) = ns := by
    have key : ∀ (l : List Value) (ns : List Int), l.map er = zs ns → ∃ ps : List (Int × Tok), l = ps.map (fun p => Value.int p.1 p.2) ∧ ps.map (·.1) = ns := by
      intro l
      induction l with
      | nil => intro ns e; cases ns with
        | nil => exact ⟨[], rfl, rfl⟩
        | cons => cases e
      | cons v r ih => intro ns e; cases ns with
        | nil => cases e
        | cons n ns =>
          simp only [zs, List.map_cons, List.cons.injEq] at e
          obtain ⟨t, rfl⟩ := er_int e.1
          obtain ⟨ps, rfl, rfl⟩ := ih ns e.2
          exact ⟨(n, t) :: ps, rfl, rfl⟩
    obtain ⟨ps, e1, e2⟩ := key items.toList ns he
    refine ⟨ps.toArray, ?_, by simpa using e2⟩
    apply Array.ext'
    rw [e1]; simp [intItems]
  obtain ⟨rfl, rfl⟩ := hps
  refine sum_intListG hh hp.isList fun h' tk t' hk => ⟨σ, S.grow hk, ?_⟩
  have e : preSum (numAt ps) ps.size = (ps.toList.map (·.1)).sum := by
    rw [preSum_eq, List.take_of_length_le (by simp)]
  show Q (.int _ 0) σ
  rw [e]; exact h
theorem o_isnone {v : Value} (h : Q (.bool (v == .none)) σ) (hp : plainIs v .none = true := by exact rfl) : E2 C A (compareOp .Is) v .none σ Q := fun a b ha hb s S => by
  obtain rfl := er_none hb
  subst ha
  refine wpAny_is_plain (by rw [← hp]; cases a <;> rfl) ⟨σ, S, ?_⟩
  have : (a == Value.none) = (er a == Value.none) := by cases a <;> rfl
  show Q (.bool (a == Value.none)) σ
  rw [this]; exact h
theorem o_isnotnone {v : Value} (h : Q (.bool (!(v == .none))) σ) (hp : plainIs v .none = true := by exact rfl) : E2 C A (compareOp .IsNot) v .none σ Q := fun a b ha hb s S => by
  obtain rfl := er_none hb
  subst ha
  refine wpAny_isNot_plain (by rw [← hp]; cases a <;> rfl) ⟨σ, S, ?_⟩
  have : (a == Value.none) = (er a == Value.none) := by cases a <;> rfl
  show Q (.bool (!(a == Value.none))) σ
  rw [this]; exact h
theorem o_gt_str (h : Q (.bool (y.cps.toList < x.cps.toList)) σ) : E2 C A (compareOp .Gt) (.str x t) (.str y u) σ Q := fun a b ha hb s S => by
  obtain ⟨_, rfl⟩ := er_str ha; obtain ⟨_, rfl⟩ := er_str hb
  exact P.gt_str ⟨σ, S, h⟩
end
end TIkR6
section TIkR8
open PySem PySem.W PySem.Calls PyProof.Rows
set_option maxRecDepth 100000
section
variable {C : Cx} {A : Around} {env : Env} {σ σ' : Asn} {Q : Value → Asn → Prop} {l : Addr} {s : Shared} {E : Value → Shared → Prop}
theorem ref_items {items : Array Value} {as : List Addr} (he : items.toList.map er = as.map .ref) : items = (as.map Value.ref).toArray := by
  have key : ∀ (l : List Value) (as : List Addr), l.map er = as.map .ref → l = as.map .ref := by
    intro l
    induction l with
    | nil => intro as h; cases as with
      | nil => rfl
      | cons => cases h
    | cons v r ih => intro as h; cases as with
      | nil => cases h
      | cons a as =>
        rw [List.map_cons, List.map_cons, List.cons.injEq] at h
        rw [List.map_cons, er_ref h.1, ih as h.2]
  have := key items.toList as he
  apply Array.ext'
  rw [this]
theorem lex3 {Q : Bool → Shared → Prop} {us vs : List Value} {a b : Mk} (h1 : us.map er = zs (mz a)) (h2 : vs.map er = zs (mz b)) (h : Q (mlt a b) s) :
    KatLex C.prog C.w A true (decide (us.toArray.size < vs.toArray.size)) Q (us.zip vs) 0 s := by
  obtain ⟨a1, a2, a3⟩ := a; obtain ⟨b1, b2, b3⟩ := b
  obtain ⟨u1, u2, u3, rfl, e1, e2, e3⟩ := map3 h1
  obtain ⟨v1, v2, v3, rfl, f1, f2, f3⟩ := map3 h2
  obtain ⟨t1, rfl⟩ := er_int e1; obtain ⟨t2, rfl⟩ := er_int e2; obtain ⟨t3, rfl⟩ := er_int e3
  obtain ⟨w1, rfl⟩ := er_int f1; obtain ⟨w2, rfl⟩ := er_int f2; obtain ⟨w3, rfl⟩ := er_int f3
  unfold mlt at h
  dsimp only at h
  refine kat_cons (SeqAt.EqAt.int_int _ _ _ _ _ _ _ _ ?_)
  by_cases h1 : a1 = b1
  · subst h1
    rw [beq_self_eq_true]
    refine kat_yes (kat_cons (SeqAt.EqAt.int_int _ _ _ _ _ _ _ _ ?_))
    by_cases h2 : a2 = b2
    · subst h2
      rw [beq_self_eq_true]
      refine kat_yes (kat_cons (SeqAt.EqAt.int_int _ _ _ _ _ _ _ _ ?_))
      by_cases h3 : a3 = b3
      · subst h3
        rw [beq_self_eq_true]
        refine kat_yes (kat_nil ?_)
        simpa using h
      · have e : (((a3 : Nat) : Int) == ((b3 : Nat) : Int)) = false := by simp; lia
        rw [e]
        refine kat_no (kat_one _ _ (lt_int ?_))
        show Q _ s
        simpa using h
    · have e : (((a2 : Nat) : Int) == ((b2 : Nat) : Int)) = false := by simp; lia
      have e' : (a2 == b2) = false := by simp [h2]
      rw [e]
      refine kat_no (kat_one _ _ (lt_int ?_))
      rw [e'] at h
      show Q _ s
      simpa using h
  · have e : (((a1 : Nat) : Int) == ((b1 : Nat) : Int)) = false := by simp; lia
    have e' : (a1 == b1) = false := by simp [h1]
    rw [e]
    refine kat_no (oneLt_int ?_)
    rw [e'] at h
    simpa using h
theorem marks_tot (a b : Mk) (h : a ≠ b) : mlt a b = true ∨ mlt b a = true := by
  obtain ⟨a1, a2, a3⟩ := a; obtain ⟨b1, b2, b3⟩ := b
  rw [mlt_iff, mlt_iff]
  dsimp only
  by_cases h1 : a1 = b1
  · by_cases h2 : a2 = b2
    · by_cases h3 : a3 = b3
      · subst h1 h2 h3; exact absurd rfl h
      · lia
    · lia
  · lia
theorem marks_ord {ms : List Mk} (hn : ms.Nodup) : Ord ms.length (fun i j => mlt (ms.getD i (0, 0, 0)) (ms.getD j (0, 0, 0))) where
  tr a b c h h' := mlt_trans h h'
  tot a b ha hb hab := marks_tot _ _ (by
    simp only [List.getD_eq_getElem?_getD, List.getElem?_eq_getElem ha, List.getElem?_eq_getElem hb, Option.getD_some]
    intro e
    rcases Nat.lt_or_gt_of_ne hab with h | h
    · exact List.pairwise_iff_getElem.mp hn a b ha hb h e
    · exact List.pairwise_iff_getElem.mp hn b a hb ha h e.symm)
  irr a := mlt_irrefl _
theorem mark_at {ts : List (Addr × Mk)} {i : Nat} (hi : i < ts.length) : ∃ p, p ∈ ts ∧ (ts.map fun p => Value.ref p.1).getD i .none = .ref p.1 ∧ (ts.map (·.2)).getD i (0, 0, 0) = p.2 := by
  refine ⟨ts[i], List.getElem_mem _, ?_, ?_⟩ <;> simp [List.getD_eq_getElem?_getD, hi]
theorem f_sorted {ts : List (Addr × Mk)} (hl : Has C σ l (lst (ts.map fun p => .ref p.1))) (ht : ∀ p ∈ ts, Has C σ p.1 (tup (zs (mz p.2)))) (h2 : 2 ≤ ts.length) (h64 : ts.length < 64)
    (hn : (ts.map (·.2)).Nodup) (h01 : mlt ((ts.map (·.2)).getD 0 (0, 0, 0)) ((ts.map (·.2)).getD 1 (0, 0, 0)) = true)
    (h : ∀ D ts', List.Perm ts' ts → (ts'.map (·.2)).Pairwise (fun a b => mlt a b = true) → Q (.ref D) ((D, lst (ts'.map fun p => .ref p.1)) :: σ)) :
    EC C A (.builtin "sorted") [.ref l] σ Q := fun us hus s S => by
  obtain ⟨a, rfl, ha⟩ := List.map_eq_singleton_iff.mp hus
  obtain rfl := er_ref ha
  obtain ⟨items, hp, he⟩ := lst_of (S.has hl)
  obtain rfl := ref_items (as := ts.map (·.1)) (by rw [he, List.map_map]; rfl)
  have hvs : ((ts.map (·.1)).map Value.ref) = ts.map fun p => .ref p.1 := by rw [List.map_map]; rfl
  rw [hvs] at hp
  generalize hvd : (ts.map fun p => Value.ref p.1) = vs at hp
  have hlen : vs.length = ts.length := by rw [← hvd]; simp
  refine Calls.call_function_entry kind_sorted plain_sorted entry_sorted (args_sorted1 _) ?_
  unfold Builtin.«sorted»
  refine wpAny_bind (m := checkCount "sorted" 1 1 _) (wpAny_pure ?_)
  refine wpAny_bind (collect_list hp.isList ?_ (by rw [sizeLine_eq]; lia))
  refine wpAny_bind (wpAny_newList ?_ (by rw [sizeLine_eq]; lia))
  have S₁ := S.alloc (h' := s.heap.push (seqObj "list" #[] 0)) (r := lst []) (tk := s.toks) (Heap.get?_none_of_le (Nat.le_refl _)) ⟨_, Heap.get?_push_size _ rfl, _, _, rfl, rfl⟩ fun b o hb => Heap.get?_push_of_some _ hb
  obtain ⟨c0, hc0⟩ : ∃ c, ((s.heap.push (seqObj "list" #[] 0)).update s.heap.objs.size (Obj.mapSeq (· ++ vs.toArray))).get? s.heap.objs.size = some (seqObj "list" (#[] ++ vs.toArray) c) := ⟨_, get?_update_seq (Heap.get?_push_size _ rfl) fun x => x ++ vs.toArray⟩
  have S₂ := S₁.set (h' := (s.heap.push (seqObj "list" #[] 0)).update s.heap.objs.size (Obj.mapSeq (· ++ vs.toArray))) (tk := s.toks) (σ' := (s.heap.objs.size, lst (vs.map er)) :: σ) .here ⟨_, hc0, _, _, rfl, by simp⟩ fun b o hb ho => (Heap.SameBut.update ..).extBut b o hb ho
  have hsz : ((s.heap.push (seqObj "list" #[] 0)).update s.heap.objs.size (Obj.mapSeq (· ++ vs.toArray))).objs.size = s.heap.objs.size + 1 := by
    rw [Heap.size_update, size_push']
  have S₃ := S₂.alloc (h' := ((s.heap.push (seqObj "list" #[] 0)).update s.heap.objs.size (Obj.mapSeq (· ++ vs.toArray))).push (seqObj "list" vs.toArray 0)) (r := lst (vs.map er)) (tk := s.toks) (Heap.get?_none_of_le (Nat.le_refl _)) ⟨_, Heap.get?_push_size _ rfl, _, _, rfl, by simp⟩ fun b o hb => Heap.get?_push_of_some _ hb
  have hoL : (((s.heap.push (seqObj "list" #[] 0)).update s.heap.objs.size (Obj.mapSeq (· ++ vs.toArray))).push (seqObj "list" vs.toArray 0)).get? (s.heap.objs.size + 1) = some (seqObj "list" vs.toArray 0) := by
    rw [← hsz]; exact Heap.get?_push_size _ rfl
  replace S₃ := S₃.sub (σ' := (_, lst (vs.map er)) :: σ) (List.Sublist.cons_cons _ (List.sublist_cons_self ..))
  dsimp only at S₃
  rw [hsz] at S₃
  show wpAny _ _ _ _ _ { s with heap := ((s.heap.push (seqObj "list" #[] 0)).update s.heap.objs.size (Obj.mapSeq (· ++ vs.toArray))).push (seqObj "list" vs.toArray 0) }
  rw [hsz]
  generalize (((s.heap.push (seqObj "list" #[] 0)).update s.heap.objs.size (Obj.mapSeq (· ++ vs.toArray))).push (seqObj "list" vs.toArray 0)) = H at S₃ hoL
  generalize s.heap.objs.size + 1 = D at S₃ hoL
  refine wpAny_bind (wpAny_holding (wpAny_call_entry slot_list_sort ⟨_, hoL, rfl⟩ entry_list_sort ?body (args_list_sort _)))
  case body =>
    rw [list_sort_plain]
    have ho : (⟨H, s.gens, s.drawn, s.toks, s.os⟩ : Shared).heap.get? D = some (seqObj "list" vs.toArray 0) := hoL
    refine wpAny_bind (listItems_at ho rfl ?_)
    refine wpAny_bind (listUpdate_at ho rfl ?_ (by rw [List.size_toArray, sizeLine_eq]; lia) (Nat.zero_le _))
    obtain ⟨e1, ho1⟩ : ∃ e1, (H.update D (Obj.mapSeq fun _ => (#[] : Array Value))).get? D = some (seqObj "list" #[] e1) := ⟨_, get?_update_seq ho fun _ => #[]⟩
    have S₄ := S₃.set (h' := H.update D (Obj.mapSeq fun _ => (#[] : Array Value))) (tk := s.toks) (σ' := (D, lst []) :: σ) .here ⟨_, ho1, _, _, rfl, rfl⟩ fun b o hb ho => (Heap.SameBut.update ..).extBut b o hb ho
    refine wpAny_bind (seqEpoch_at ho1 rfl ?_)
    refine wpAny_bind (wpAny_newTuple ?_ (by show vs.length ≤ _; rw [sizeLine_eq]; lia))
    refine wpAny_bind (wpAny_newList ?_ (Nat.zero_le _))
    refine wpAny_holding ?_
    have S₅ := S₄.grow (h' := ((H.update D (Obj.mapSeq fun _ => (#[] : Array Value))).push (seqObj "tuple" vs.toArray 0)).push (seqObj "list" #[] 0)) (tk := s.toks) fun b o hb => Heap.get?_push_of_some _ (Heap.get?_push_of_some _ hb)
    show wpAny _ _ _ _ _ { s with heap := ((H.update D (Obj.mapSeq fun _ => (#[] : Array Value))).push (seqObj "tuple" vs.toArray 0)).push (seqObj "list" #[] 0) }
    have ho5 : (((H.update D (Obj.mapSeq fun _ => (#[] : Array Value))).push (seqObj "tuple" vs.toArray 0)).push (seqObj "list" #[] 0)).get? D = some (seqObj "list" #[] e1) := Heap.get?_push_of_some _ (Heap.get?_push_of_some _ ho1)
    generalize (((H.update D (Obj.mapSeq fun _ => (#[] : Array Value))).push (seqObj "tuple" vs.toArray 0)).push (seqObj "list" #[] 0)) = H2 at S₅ ho5
    dsimp only
    have hn2 : ¬ vs.toArray.size < 2 := by rw [List.size_toArray]; lia
    rw [if_neg hn2, if_neg hn2]
    have htk : ∀ p ∈ ts, ∃ items n, H2.get? p.1 = some { cls := .type "tuple", data := .seq items n } ∧ items.toList.map er = zs (mz p.2) := fun p hp => tup_of (S₅.has ((ht p hp).imp (fun h => .tail _ h) id))
    obtain ⟨fs, hfs, hfi⟩ : ∃ fs, KatTups H2 vs fs ∧ (fs.length = vs.length ∧ ∀ v ∈ fs, ∃ n t, v = .int n t) := by
      have key : ∀ (ts' : List (Addr × Mk)), (∀ p ∈ ts', p ∈ ts) → ∃ fs, KatTups H2 (ts'.map fun p => Value.ref p.1) fs ∧ fs.length = ts'.length ∧ ∀ v ∈ fs, ∃ n t, v = .int n t := by
        intro ts'
        induction ts' with
        | nil => intro _; exact ⟨[], KatTups.nil, rfl, fun v hv => by cases hv⟩
        | cons p r ih =>
          intro hsub
          obtain ⟨fs, k1, k2, k3⟩ := ih fun q hq => hsub q (List.mem_cons_of_mem _ hq)
          obtain ⟨items, n, g1, g2⟩ := htk p (hsub p (by simp))
          obtain ⟨u1, u2, u3, e0, e1, e2, e3⟩ := map3 g2
          obtain ⟨t1, rfl⟩ := er_int e1
          have hi : items[0]? = some (.int (p.2.1 : Int) t1) := by
            have : items = [Value.int (p.2.1 : Int) t1, u2, u3].toArray := by apply Array.ext'; rw [e0]
            rw [this]; rfl
          refine ⟨.int (p.2.1 : Int) t1 :: fs, KatTups.cons g1 rfl rfl hi k1, by simp [k2], fun v hv => ?_⟩
          rcases List.mem_cons.mp hv with rfl | hv
          · exact ⟨_, _, rfl⟩
          · exact k3 v hv
      obtain ⟨fs, k1, k2, k3⟩ := key ts fun _ h => h
      exact ⟨fs, hvd ▸ k1, by rw [k2, hlen], k3⟩
    refine wpAny_bind (kat_kind (T := .type "int") hfs (by lia) (fun v hv => ?_) (by decide) ?_)
    · obtain ⟨n, t, rfl⟩ := hfi.2 v hv
      exact Looks.now
    have O := marks_ord hn
    rw [List.length_map, ← hlen] at O
    refine wpAny_bind (wpAny_mono (kat_run (vs := vs) (ks := vs) (κ := tuples' (Value.type "int" != Value.type "tuple")) (prog := C.prog) (w := C.w) (A := A.in1.in1) (E := fun _ _ => False) (Q := fun st' s' => ∃ p : Array Nat, p.size = vs.length ∧ arrOf st' = p.map (kas_item (vs.toArray.zip vs.toArray)) ∧ failedOf st' = none ∧ s' = ⟨H2, s.gens, s.drawn, s.toks, s.os⟩ ∧ PermOk vs.length p ∧ SortedP (fun i j => mlt ((ts.map (·.2)).getD i (0, 0, 0)) ((ts.map (·.2)).getD j (0, 0, 0))) p vs.length)
      (G := fun p s' => s' = ⟨H2, s.gens, s.drawn, s.toks, s.os⟩ ∧ PermOk vs.length p ∧ SortedP (fun i j => mlt ((ts.map (·.2)).getD i (0, 0, 0)) ((ts.map (·.2)).getD j (0, 0, 0))) p vs.length)
      rfl (by lia) (by lia) (fun p' st' s' a1 a2 a3 a4 => ⟨p', a1, a2, a3, a4⟩) (sort_ok O (by lia) h01 (fun i j Cc hi hj hcc => ?_) fun p hp hs => ⟨rfl, hp, hs⟩)) ?_ fun _ _ e => e.elim)
    · unfold kas_ask
      obtain ⟨p, hp1, hp2, hp3⟩ := mark_at (ts := ts) (i := i) (by lia)
      obtain ⟨q, hq1, hq2, hq3⟩ := mark_at (ts := ts) (i := j) (by lia)
      rw [hvd] at hp2 hq2
      rw [hp2, hq2]
      rw [hp3, hq3] at hcc
      obtain ⟨i1, n1, g1, g2⟩ := htk p hp1
      obtain ⟨i2, n2, g3, g4⟩ := htk q hq1
      exact kat_lt (b := true) g1 rfl g3 rfl (lex3 g2 g4 hcc)
    rintro ⟨⟨⟩, st'⟩ s' ⟨p, hpz, har, hf, rfl, hperm, hsorted⟩
    dsimp only
    have hout := kat_snds (ks := vs) (vs := vs) rfl har
    rw [hout]
    refine wpAny_bind (seqEpoch_at ho5 rfl ?_)
    have hsz2 : (List.toArray (p.toList.map fun i => vs.getD i Value.none)).size = vs.length := by rw [List.size_toArray, List.length_map, Array.length_toList, hpz]
    refine wpAny_bind (listUpdate_at ho5 rfl ?_ (Nat.zero_le _) (Nat.le_trans (Nat.le_of_eq hsz2) (by rw [sizeLine_eq]; lia)))
    rw [hf]
    simp only [bne_self_eq_false, Bool.false_eq_true, if_false]
    refine wpAny_pure ⟨_, rfl, wpAny_pure ⟨_, rfl, ?_⟩⟩
    have hmem : ∀ i ∈ p.toList, i < ts.length := fun i hi => by
      have := List.mem_range.mp (hperm.perm.mem_iff.mp hi)
      lia
    have hmap : (p.toList.map fun i => vs.getD i Value.none) = (p.toList.map fun i => ts.getD i (0, (0, 0, 0))).map fun q => Value.ref q.1 := by
      rw [List.map_map]
      refine List.map_congr_left fun i hi => ?_
      have := hmem i hi
      rw [← hvd]
      simp [List.getD_eq_getElem?_getD, this]
    have hid : (List.range ts.length).map (fun i => ts.getD i (0, (0, 0, 0))) = ts := by
      refine List.ext_getElem (by simp) fun i h1 h2 => ?_
      simp [List.getD_eq_getElem?_getD, h2]
    refine ⟨_, S₅.set (tk := s.toks) (σ' := (D, lst ((p.toList.map fun i => ts.getD i (0, (0, 0, 0))).map fun q : Addr × Mk => Value.ref q.1)) :: σ) .here ⟨_, get?_update_seq ho5 _, _, _, rfl, ?_⟩ fun b o hb ho => (Heap.SameBut.update ..).extBut b o hb ho, h D _ ?_ ?_⟩
    · rw [hmap]
      simp only [List.map_map]
      try rfl
    · have := hperm.perm.map fun i => ts.getD i (0, (0, 0, 0))
      rw [hlen, hid] at this
      exact this
    · rw [List.map_map]
      refine List.pairwise_iff_getElem.mpr fun i j h1 h2 hij => ?_
      simp only [List.length_map, Array.length_toList] at h1 h2
      have := hsorted i j hij (by lia)
      simp only [List.getElem_map, Function.comp, Array.getElem_toList]
      have e1 : p.getD i 0 = p[i] := by simp [Array.getD, h1]
      have e2 : p.getD j 0 = p[j] := by simp [Array.getD, h2]
      rw [e1, e2] at this
      have m1 := hmem p[i] (by simp)
      have m2 := hmem p[j] (by simp)
      simpa [List.getD_eq_getElem?_getD, m1, m2] using this
end
end TIkR8
section TIkRe
open PySem PySem.Calls PyProof.Rows PySem.Builtin.Re PySem.Builtin
set_option maxRecDepth 100000
theorem rp_attrs : PlainAttrs "re.Pattern" :=
  ⟨⟨"object.__getattribute__", by rw [typeLookup_type, builtinLookup_eq_fast]; kernel_rfl, by decide +kernel⟩, by rw [typeLookup_type, builtinLookup_eq_fast]; kernel_rfl⟩
theorem rp_owner : Manifest.owners.lookup (String.ofList ['n', 'r', 'e', 't', 't', 'a', 'P', '.', 'e', 'r'].reverse) = some Manifest.sig_re_Pattern := by kernel_rfl
theorem rp_slot : Slot "re.Pattern" "sub" "re.Pattern.sub" :=
  .of (owner := "re.Pattern") (n := "sub") (by rw [typeLookup_type, builtinLookup_eq_fast]; kernel_rfl) (by decide +kernel) (by decide +kernel) (by decide +kernel)
    (by first | exact .inl (by decide +kernel) | exact .inr (by decide +kernel)) (by rw [isSubtype_type]; kernel_rfl)
theorem rp_type : typeOf (.builtin "re.Pattern.sub") = pure (.type "method_descriptor") := by show builtinType _ = _; rw [builtinType_eq_fast]; kernel_rfl
theorem rp_entry : entryFor table "re.Pattern.sub" = some Builtin.«re.Pattern.sub» := entryFor_of_tree (by kernel_rfl)
theorem rp_loop : entryFor table "re.Pattern.sub.loop" = some Builtin.«re.Pattern.sub.loop» := entryFor_of_tree (by kernel_rfl)
theorem rp_plain : plainId "re.Pattern.sub.loop" = true := by decide +kernel
theorem rp_args (a b c : Value) : argsOk "re.Pattern.sub" ⟨[a, b, c], []⟩ := by
  unfold argsOk; rw [signature?_of (id := "re.Pattern.sub") (n := ['b', 'u', 's']) (o := ['n', 'r', 'e', 't', 't', 'a', 'P', '.', 'e', 'r']) (by kernel_rfl) rp_owner]; kernel_rfl
theorem fn_call : typeLookup (.type "function") "__call__" = pure (some (.builtin "function.__call__")) := by rw [typeLookup_type, builtinLookup_eq_fast]; kernel_rfl
theorem str_bytearray : isSubtype (.type "str") (.type "bytearray") = pure false := by rw [isSubtype_type]; kernel_rfl
theorem named_sub (a b : Value) : reNamed "re.Pattern.sub" "sub" ["repl", "string", "count"] 2 [a, b] [] = pure [some a, some b, none] := by kernel_rfl
noncomputable def reCode : Array Nat := #[14, 14, 4, 1, 1, 9, 0, 64, 0, 1342177280, 0, 0, 0, 0, 0, 17, 0, 13, 11, 9, 0, 64, 0, 1342177280, 0, 0, 0, 0, 0, 17, 1, 1]
noncomputable def ReAt (h : Heap) (a : Addr) : Prop := ∃ vs b ob items n, h.get? a = some { cls := .type "re.Pattern", data := .fields vs } ∧ reRawNat (vs.getD 6 .none) = 0 ∧ reRawNat (vs.getD 2 .none) = 1 ∧ vs.getD 5 .none = .ref b ∧ h.get? b = some ob ∧ ob.data = .seq items n ∧
  (items.map reRawOf).map (·.toNat) = reCode
noncomputable def reMiss (y : Array Nat) : Bool := match ((Sre.forSearch reCode y 1 0 y.size false).runFor 4).outcome with
  | some .failed => true
  | _ => false
section
variable {C : Cx} {A : Around} {env : Env} {σ : Asn} {P f : Addr} {y : Str} {t : Tok} {s : Shared} {E : Value → Shared → Prop} {Q : Value → Asn → Prop}
theorem em_sub {args : List Expr} (hP : ReAt C.B.heap P) (h : EL C A env args σ fun vs σ₁ => EC C A (.builtin "re.Pattern.sub") (.ref P :: vs) σ₁ Q) (hp : NoStar args env := by exact rfl) : EM C A env "sub" (.ref P) args σ Q := fun v pos hv s S => by
  obtain rfl := er_ref hv
  obtain ⟨vs, b, ob, items, n, h1, h2⟩ := hP
  exact ⟨"re.Pattern", "re.Pattern.sub", rp_attrs, rp_slot, rp_type, ⟨_, S.keep _ _ h1, rfl⟩, (fun a e => by cases e; exact ⟨_, S.keep _ _ h1, rfl⟩), callWith_EC (first := [.ref P]) h hp S⟩
theorem wpAny_target {Q : ReTarget → Shared → Prop} (hP : ReAt s.heap P) (h : Q { pattern := .ref P, string := .str y t, code := reCode, text := y.cps, kind := 0, groups := 1, pos := 0, lim := y.cps.size } s) :
    wpAny (model C.prog C.w) A (reWholeTarget (.ref P) (.str y t)) Q E s := by
  obtain ⟨vs, b, ob, items, n, h1, h2, h3, h4, h5, h6, h7⟩ := hP
  unfold reWholeTarget
  refine wpAny_bind (wpAny_fieldsOf h1 rfl ?_)
  refine wpAny_bind (m := reTextOf (.str y t)) (wpAny_pure ?_)
  dsimp only
  rw [h2]
  simp only [beq_self_eq_true, Bool.false_and, Bool.and_false, Bool.false_eq_true, if_false, show ((0 : Nat) == 1) = false from rfl]
  refine wpAny_bind (wpAny_pure ?_)
  unfold reRawItems
  rw [h4]
  refine wpAny_bind (wpAny_bind (wpAny_seqItems h5 h6 (wpAny_pure ?_)))
  simp only [Option.getD_some]
  rw [h7, h3]
  exact wpAny_pure h
theorem wpAny_miss {m : Sre.M} {Q : Option Sre.M → Shared → Prop} (hm : (m.runFor 4).outcome = some .failed) (h : Q none s) : wpAny (model C.prog C.w) A (reRunToEnd m) Q E s := by
  unfold reRunToEnd
  have e : reDrive (2 ^ 64) m = pure (m.runFor 4) := by
    show (if (m.runFor reTurnSteps).outcome.isSome then pure (m.runFor reTurnSteps) else _) = _
    rw [show reTurnSteps = 4 from rfl, hm]; rfl
  rw [e]
  refine wpAny_bind (wpAny_pure ?_)
  refine wpAny_bind (wpAny_forIn_list _ (fun _ _ s' => s' = s) _ (fun x rest b s₁ hI => ?_) (fun b s₁ hI => ?_) _ _ rfl)
  · subst hI
    split
    · exact wpAny_bind (wpAny_rule (wpAny_pure rfl))
    · exact wpAny_pure rfl
  · subst hI
    rw [hm]
    exact wpAny_pure h
theorem f_sub (hP : ReAt C.B.heap P) (hf : ∀ s, St C σ s → s.TypeIs (.ref f) "function") (hm : reMiss y.cps = true) (h0 : 0 < y.cps.size) (hz : y.cps.size ≤ sizeLine) (h : Q (.str y 0) σ) :
    EC C A (.builtin "re.Pattern.sub") [.ref P, .ref f, .str y t] σ Q := fun us hus s S => by
  obtain ⟨a, b, c, rfl, ha, hb, hc⟩ : ∃ a b c, us = [a, b, c] ∧ er a = .ref P ∧ er b = .ref f ∧ er c = .str y t := by
    rcases us with _ | ⟨a, _ | ⟨b, _ | ⟨c, _ | ⟨d, r⟩⟩⟩⟩ <;> simp only [List.map_cons, List.map_nil, List.cons.injEq, and_true, reduceCtorEq, and_false] at hus
    exact ⟨a, b, c, rfl, hus.1, hus.2.1, hus.2.2⟩
  obtain rfl := er_ref ha
  obtain rfl := er_ref hb
  obtain ⟨t', rfl⟩ := er_str hc
  have hPs : ∀ s, St C σ s → ReAt s.heap P := fun s S => by
    obtain ⟨vs, b, ob, items, n, h1, h2, h3, h4, h5, h6⟩ := hP
    exact ⟨vs, b, ob, items, n, S.keep _ _ h1, h2, h3, h4, S.keep _ _ h5, h6⟩
  obtain ⟨vs, b, ob, items, n, h1, _⟩ := hPs s S
  refine wpAny_call (codeAny_call_builtin (by decide +kernel) rp_entry (rp_slot.check _ _ _ _ _ _ _ _ ⟨_, h1, rfl⟩ (rp_args _ _ _) ?_))
  show wpAny _ A.in1 (reSubstitute "re.Pattern.sub" "sub" false ⟨[.ref P, .ref f, .str y t'], []⟩) _ _ s
  refine wpK fun K hK => ?_
  unfold reSubstitute
  dsimp only
  rw [named_sub]
  refine wpAny_bind (wpAny_pure ?_)
  dsimp only
  refine wpAny_bind (wpAny_pure ?_)
  refine wpAny_bind (wpAny_specialOf (hf s S) fn_call ?_)
  refine wp_t rfl ?_
  refine wpAny_bind (wpAny_pure ?_)
  refine wp_t rfl ?_
  refine wpAny_bind (wpAny_pure ?_)
  dsimp only
  refine wpAny_bind (wpAny_holding (wpAny_target (hPs s S) ?_))
  refine wp_t rfl ?_
  refine wpAny_bind ?_
  unfold reNotHeld
  refine wpAny_bind (wpAny_isInstance (typeIs_str _ _ _) str_bytearray ?_)
  refine wp_f Bool.false_ne_true ?_
  refine wpAny_pure ?_
  refine wpAny_bind (wpAny_newList ?_)
  refine wpAny_pure (hK _ _ ⟨plainId_quiet rp_plain _, ?_⟩)
  clear hK K
  generalize hD : s.heap.objs.size = D
  have S₁ := S.new_list (tk := s.toks) (vs := []) (ws := []) rfl
  rw [hD] at S₁
  refine codeAny_builtin rp_loop ?_
  rw [Around.under_plainId rp_plain]
  refine wpK fun K hK => ?_
  unfold Builtin.«re.Pattern.sub.loop»
  refine wpAny_bind (wpAny_target (hPs _ (S₁.sub (List.sublist_cons_self ..))) ?_)
  dsimp only
  refine wp_f (by decide) (wpAny_bind (wp_f (by decide) (wpAny_miss ?_ ?_)))
  · unfold reMiss at hm
    split at hm
    · rename_i e; exact e
    · cases hm
  dsimp only
  rw [if_pos (show Int.toNat 0 < y.cps.size from h0)]
  have hs : sizeLine = 16777216 := by decide
  have hext : y.cps.extract 0 y.cps.size = y.cps := by simp
  have hext0 : y.cps.extract 0 0 = #[] := by simp
  refine wpAny_bind ?_
  show wpAny _ _ (mkStr ⟨y.cps.extract 0 y.cps.size⟩) _ _ _
  rw [hext]
  refine wpAny_mkStr ?_ (by simpa [Str.length] using hz)
  refine wpAny_bind ((S₁.toks _).upd .here (by simp) fun s₂ S₂ => ?_)
  refine wpAny_bind ?_
  show wpAny _ _ (mkStr ⟨y.cps.extract 0 0⟩) _ _ _
  rw [hext0]
  refine wpAny_mkStr ?_ (by simp [Str.length])
  have S₃ := S₂.toks (s₂.toks + 1)
  obtain ⟨items', hp, he⟩ := lst_of (S₃.get (.head _))
  obtain ⟨n', hp'⟩ := hp
  refine wpAny_bind (wpAny_seqItems hp' rfl ?_)
  have hne : items'.isEmpty = false := by
    cases hq : items'.isEmpty with
    | false => rfl
    | true =>
      rw [Array.isEmpty_iff] at hq
      subst hq; simp at he
  refine wp_f (by show ¬items'.isEmpty = true; rw [hne]; exact Bool.false_ne_true) ?_
  refine wpAny_bind (wpAny_mono (f_join (C := C) (σ := (D, lst [.str y 0]) :: σ) (x := ⟨#[]⟩) (t := 0) (l := D) (ys := [y]) (Q := fun v τ => v = .str y 0 ∧ τ = (D, lst [.str y 0]) :: σ) (.inl (.head _)) (by simp [Str.length]; lia) ⟨rfl, rfl⟩ [.str ⟨#[]⟩ _, .ref D] rfl _ S₃) (fun v s' hz => ?_) fun _ _ e => e)
  obtain ⟨σ', S', hv, hτ⟩ := hz
  subst hτ
  refine wpAny_pure (hK _ _ ⟨σ, S'.sub (List.sublist_cons_self ..), ?_⟩)
  show Q (er v) σ
  rw [hv]; exact h
end
end TIkRe
section TIkLam
open PySem PySem.Calls PyProof.Rows PySem.Builtin.Re PySem.Builtin
set_option maxRecDepth 4000
section
variable {C : Cx} {A : Around} {σ : Asn} {f : Addr} {qual : Str} {params : Arguments} {body : List Stmt} {scope : Scope} {dV : Value} {vs : List Value} {l : List (Str × Value)} {Q : Value → Asn → Prop}
theorem c_wC {cdv : Value} {ll : List (Str × Value)} {cs : Addr → Asn} (hlim : C.B.heap.NoLimit) (F : FnAtC C f qual params body scope dV cdv) (hroom : A.depth < recursionLimit) (hb : Binds C σ qual params body scope dV vs l)
    (h : ∀ L, EX C (A.deeper (fenv qual scope L f cdv)) (fenv qual scope L f cdv) body ((L, ns ll) :: (cs L ++ σ)) (RetK Q))
    (hkind : l.all (fun x => kindB scope x.1) = true := by exact rfl)
    (hnd : nodupB ((cellsFrom 0 scope.names []).map (·.1)) = true := by exact rfl) (hll : locE scope.names l = ll := by exact rfl) (hcs : ∀ L, celE scope.names l L = cs L := by exact fun _ => rfl)
    (hk : scope.kind = .function := by exact rfl) (hco : scope.isCoroutine = false := by exact rfl) (hgen : scope.isGenerator = false := by exact rfl) : EC C A (.ref f) vs σ Q := fun us hus =>
  EW.out (c_fnC (Q := fun v τ => ∃ τ', Wk τ τ' ∧ Q v τ') hlim F hroom hb (kind_of hkind) (nodup_ofB hnd) hll hcs (fun L => EX.mono (h L) fun fl σ' ⟨τ, w, q⟩ => ⟨σ', List.Sublist.refl _, τ, w, q⟩) hk hco hgen us hus)
end
noncomputable def tabR : Res := fun o => ∃ ps, o = PySem.W.tabObj ps ∧ TriplesOk ps.toList
noncomputable def fnR : Res := fun o => o.cls = .type "function"
theorem tab_snoc (ps : Array Value) (pos : Pos) (c : Addr) (h : TriplesOk ps.toList) : tabR (PySem.W.tabObj (ps ++ #[rawInt pos.line, rawInt pos.col, .ref c])) :=
  ⟨_, rfl, by rw [Array.toList_append]; exact TriplesOk_snoc _ _ _ _ h⟩
structure TabOk (C : Cx) (mg : Str → Option Value) (c P : Addr) : Prop where
  hd : PySem.W.CodeHd C.B.heap c P
  bi : C.B.heap.BuiltinsAt mg P
  g : C.B.heap.Ns mainGlobals mg
section
variable {C : Cx} {A : Around} {σ σ' : Asn} {env : Env} {mg : Str → Option Value} {c P : Addr} {Q : Value → Asn → Prop}
theorem v_lambda {params : Arguments} {body : Expr} {scope : Scope} {pos : Pos} (T : TabOk C mg c P) (hc : env.code = .ref c) (hP : Up P tabR tabR σ σ) (h : ∀ f, Q (.ref f) ((f, fnR) :: σ))
    (hdef : defaultsOf params env = ([], []) := by exact rfl) (hcl : closureFor scope env = pure [] := by exact rfl) (hge : env.globals = mainGlobals := by exact rfl) : EV C A env (.Lambda params body scope pos) σ Q := fun s S => by
  refine PySem.W.kla_eval hdef ?_
  obtain ⟨o, hp, ps, rfl, ht⟩ := S.get hP.mem
  obtain ⟨bm, ob, b1, b2, b3, b4, b5, b6, b7, b8⟩ := T.bi
  have hbi : s.heap.BuiltinsAt mg P := ⟨bm, ob, b1, b2, b3, b4, S.keep _ _ b5, b6, b7, b8⟩
  have hnew : C.B.heap.get? P = none := S.new _ hP.mem
  have hgP : mainGlobals ≠ P := fun q => by
    obtain ⟨o, es, ep, e, hd, _⟩ := T.g
    rw [q, hnew] at e; cases e
  have hd : PySem.W.CodeHd s.heap c P := T.hd.keeps S.keep
  cases hf : codeAmong pos ps.toList with
  | some cv =>
    refine PySem.W.kla_makeFunctionHit (mg := mg) hcl hge (T.g.keeps S.keep) hc hd hp ht hf hbi fun ctv h' tk k1 k2 => ?_
    have S₁ := S.grow (tk := tk) k1
    exact ⟨_, S₁.alloc (h' := h'.push _) (r := fnR) (tk := tk) (Heap.get?_none_of_le (Nat.le_refl _)) ⟨_, Heap.get?_push_size _ rfl, rfl⟩ fun b o hb => Heap.get?_push_of_some _ hb, h _⟩
  | none =>
    refine PySem.W.kla_makeFunction (mg := mg) hcl hge (T.g.keeps S.keep) hc hd hp ht hf hgP hbi fun c' ctv h' tk k1 k2 k3 k4 k5 => ?_
    have S₁ : St C σ { s with heap := h', toks := tk } := S.set hP ⟨_, k5, tab_snoc _ _ _ ht⟩ fun b o hb ho => k1 b o hb ho
    exact ⟨_, S₁.alloc (h' := h'.push _) (r := fnR) (tk := tk) (Heap.get?_none_of_le (Nat.le_refl _)) ⟨_, Heap.get?_push_size _ rfl, rfl⟩ fun b o hb => Heap.get?_push_of_some _ hb, h _⟩
end
end TIkLam
section TIkGen
open PySem PySem.Calls PyProof.Rows PySem.Builtin
set_option maxRecDepth 4000
section
variable {C : Cx} {A : Around} {σ σ' : Asn} {env : Env} {mg : Str → Option Value} {c P : Addr} {Q : Value → Asn → Prop}
theorem v_joingen {sep x : Str} {elt iter : Expr} {px kp ap pos gpos : Pos} {scope : Scope} {kk : Nat} {l : Addr} {ys : List Str}
    (T : TabOk C mg c P) (hc : env.code = .ref c) (hP : Up P tabR tabR σ σ) (hh : A.handled = none) (hroom : A.depth < recursionLimit) (hlim : C.B.heap.NoLimit)
    (hi : EV C A env iter σ fun v τ => v = .ref l ∧ τ = σ) (hl : Has C σ l (lst (txs ys)))
    (helt : ∀ (cenv : Env) (A' : Around) (E' : Value → Shared → Prop) (y : Str) (t : Tok) (s : Shared) m, cenv.scope = scope → y ∈ ys → s.heap.Ns cenv.locals m → m x = some (.str y t) →
      wpAny (model C.prog C.w) A' (eval elt cenv) (fun v s' => (∃ u, v = .str y u) ∧ Keeps s s') E' s)
    (hz : JoinOk sep ys = true) (hn : ys.length ≤ 1000) (h : Q (.str (Txt.join sep ys) 0) σ)
    (hco : scope.isCoroutine = false := by exact rfl) (hclos : closureFor scope env = pure [] := by exact rfl) (hcell : ∀ y ∈ scope.names, y.2 ≠ .cell := by decide)
    (h0 : scope.names.lookup (".0" : Str) = some .local := by exact rfl) (hx : scope.names.lookup x = some .local := by exact rfl) (hkind : scope.kind = .function := by exact rfl)
    (hs : ∀ x, genFold iter env x = pure x := by exact fun _ => rfl) (hge : env.globals = mainGlobals := by exact rfl)
    (hbase : attributeBase (.Constant (.str sep) kk kp) "join" env (eval (.Constant (.str sep) kk kp) env) = eval (.Constant (.str sep) kk kp) env := by exact rfl)
    (hline : (ap.endLine == pos.line) = true := by exact rfl) :
    EV C A env (.Call (.Attribute (.Constant (.str sep) kk kp) "join" ap) [.GeneratorExp elt [⟨.Name x px, iter, [], 0⟩] scope gpos] [] pos) σ Q := fun s S => by
  refine wpAny_Call_method_lateS hbase rfl hline (wpAny_mono (v_str (C := C) (A := A) (env := env) (σ := σ) (x := sep) (k := kk) (pos := kp) (Q := fun v τ => v = .str sep 0 ∧ τ = σ) ⟨rfl, rfl⟩ s S) (fun ov s₁ hz => ?_) fun _ _ e => e.elim)
  obtain ⟨τ, S₁, hov, hτ⟩ := hz
  rw [hτ] at S₁
  obtain ⟨t₁, rfl⟩ := er_str hov
  refine ⟨"str", "str.join", PySem.F.plainAttrs_str, PySem.F.slot_str_join, PySem.F.type_str_join, typeIs_str _ _ _, (fun _ e => nomatch e), ?_⟩
  refine callWith_builtin rfl (evalArgs_plain (spliced_cons ?_))
  refine wpAny_GeneratorExp_walksQ hh hco hclos hcell h0 hx hkind hroom (wpAny_mono (hi s₁ S₁) (fun xv s₂ hz => ?_) fun _ _ e => e.elim) hs
  obtain ⟨τ, S₂, hv, hτ⟩ := hz
  rw [hτ] at S₂
  obtain rfl := er_ref hv
  obtain ⟨items, hp, he⟩ := lst_of (S₂.has hl)
  have hlt : l < s₂.heap.objs.size := by obtain ⟨n, e⟩ := hp; exact Heap.lt_size e
  refine wpAny_pyIter_list hp.isList ⟨(hlim.keeps S₂.keep).push _, ?_⟩
  have S₃ : St C σ { s₂ with heap := s₂.heap.push { cls := .type "list_iterator", data := .fields #[.ref l, .int 0 0] } } := S₂.grow (tk := s₂.toks) fun b o hb => Heap.get?_push_of_some _ hb
  obtain ⟨o, hpt, ps, rfl, ht⟩ := S₃.get hP.mem
  have hnew : C.B.heap.get? P = none := S.new _ hP.mem
  have hgP : mainGlobals ≠ P := fun q => by
    obtain ⟨o, es, ep, e, hd, _⟩ := T.g
    rw [q, hnew] at e; cases e
  have hcP : cStatics ≠ P := fun q => by
    obtain ⟨_, hns, _⟩ := hlim
    obtain ⟨o, es, ep, e, hd, _⟩ := hns
    rw [q, hnew] at e; cases e
  have hcs : cStatics < s₂.heap.objs.size := let ⟨_, hn, _⟩ := hlim.keeps S₂.keep; hn.lt
  have hPlt : P < s₂.heap.objs.size := by obtain ⟨o, e, _⟩ := S₂.get hP.mem; exact Heap.lt_size e
  have hlP : l ≠ P := fun e => by
    subst e
    obtain ⟨n, e⟩ := hp
    rw [Heap.get?_push_of_some _ e] at hpt; cases hpt
  have hd : PySem.W.CodeHd _ c P := T.hd.keeps S₃.keep
  obtain ⟨bm, ob, b1, b2, b3, b4, b5, b6, b7, b8⟩ := T.bi
  have key : ∀ (code : Value) (h₃ : Heap) (tk : Nat), Heap.ExtBut P (s₂.heap.push { cls := .type "list_iterator", data := .fields #[.ref l, .int 0 0] }) h₃ → At h₃ P tabR → (s₂.heap.push { cls := .type "list_iterator", data := .fields #[.ref l, .int 0 0] }).objs.size ≤ h₃.objs.size →
      wpAny (model C.prog C.w) A (builtinsFor env.globals env.builtins) (fun bi s₄ =>
        ∃ I fp wr n₀ P St₀ pz F, Value.ref s₂.heap.objs.size = .ref I ∧ (∀ A' : Around, A'.handled = none → Walks C.prog C.w A' I fp wr n₀ P St₀) ∧ St₀ 0 s₄.heap ∧ (∀ b ∈ fp, b < s₄.heap.objs.size) ∧ s₄.heap.NoLimit ∧ cStatics ∉ wr ∧
          (∀ href : Heap, (∀ b o, s₄.heap.get? b = some o → href.get? b = some o) →
            QuietGen C.prog C.w (genEnv scope [] s₄.heap.objs.size code bi env) x [] elt (List.range s₄.heap.objs.size) wr P pz F href) ∧
          (∀ a h₅ tk gs, gs.bare = true → s₄.heap.objs.size < a → h₅.objs.size = a + 1 → (∀ b o, s₄.heap.get? b = some o → h₅.get? b = some o) →
            WalksS C.prog C.w A.in4 a (a :: s₄.heap.objs.size :: List.range s₄.heap.objs.size) (s₄.heap.objs.size :: wr) (GenOnlyQ s₄.gens.size) (passing pz n₀ 0).length
              (fun j y => ∃ i, (passing pz n₀ 0)[j]? = some i ∧ F i y) (GenAt C.prog C.w A.in4 a s₄.gens.size s₄.heap.objs.size (List.range s₄.heap.objs.size) wr pz n₀ F) →
            GenAt C.prog C.w A.in4 a s₄.gens.size s₄.heap.objs.size (List.range s₄.heap.objs.size) wr pz n₀ F 0 { s₄ with gens := s₄.gens.push gs, toks := tk, heap := h₅ } →
            wpAny (model C.prog C.w) A (spliced []) (fun vs s' => wpAny (model C.prog C.w) A (call (.builtin "str.join") ([.str sep t₁] ++ (.ref a :: vs))) (fun v s' => ∃ σ', St C σ' s' ∧ Q (er v) σ') (fun _ _ => False) s') (fun _ _ => False) { s₄ with gens := s₄.gens.push gs, toks := tk, heap := h₅ })) (fun _ _ => False)
        { s₂ with heap := h₃, toks := tk } := by
    intro code h₃ tk hx₃ hat₃ hsz₃
    rw [Heap.size_push] at hsz₃
    have S₄ : St C σ { s₂ with heap := h₃, toks := tk } := S₃.set hP hat₃ fun b o hb ho => hx₃ b o hb ho
    rw [hge]
    refine wpAny_builtinsFor (T.g.keeps S₄.keep) b1 b2 (S₄.keep _ _ b5) b6 b7 b8 ?_
    have hI : h₃.get? s₂.heap.objs.size = some { cls := .type "list_iterator", data := .fields #[.ref l, .int 0 0] } := hx₃ _ _ (Nat.ne_of_gt hPlt) (Heap.get?_push_size _ rfl)
    have hl₃ : h₃.IsList l items := by
      obtain ⟨n, e⟩ := hp
      exact (show h₃.PlainList l items from ⟨n, hx₃ _ _ hlP (Heap.get?_push_of_some _ e)⟩).isList
    refine ⟨s₂.heap.objs.size, [s₂.heap.objs.size, l], [s₂.heap.objs.size], items.size, _, _, fun _ => true, fun i v => ∃ y u, ys[i]? = some y ∧ v = .str y u, rfl, fun A' hA => Walks.list hA _ _ (Nat.ne_of_lt hlt) items, ⟨⟨_, hI, rfl, rfl⟩, hl₃⟩, ?_, hlim.keeps S₄.keep, ?_, ?_, ?_⟩
    · intro b hb
      show b < h₃.objs.size
      simp only [List.mem_cons, List.not_mem_nil, or_false] at hb
      rcases hb with rfl | rfl
      · exact hsz₃
      · exact Nat.lt_trans hlt hsz₃
    · intro hb
      simp only [List.mem_cons, List.not_mem_nil, or_false] at hb
      exact Nat.ne_of_lt hcs hb
    · intro href hhref
      refine ⟨fun A' E' i v s₅ m₂ hA hv hns hm _ => wpAny_pure ⟨rfl, s₅.heap, s₅.toks, rfl, fun _ _ e => e⟩, fun A' E' i v s₅ m₂ hA hv _ hns hm _ => ?_⟩
      have hy : (txs ys)[i]? = some (er v) := by
        rw [← he, List.getElem?_map]
        have : items.toList[i]? = some v := by simpa using hv
        rw [this]; rfl
      simp only [txs, List.getElem?_map] at hy
      obtain ⟨y, hy1, hy2⟩ := Option.map_eq_some_iff.mp hy
      obtain ⟨u, rfl⟩ := er_str hy2.symm
      exact wpAny_mono (helt _ A' E' y u s₅ m₂ rfl (List.mem_of_getElem? hy1) hns hm) (fun v s' ⟨⟨u', e⟩, k⟩ => ⟨⟨y, u', hy1, e⟩, k⟩) fun _ _ e => e
    · intro a h₅ tk₅ gs hgb hag hsz₅ hk₅ W hat
      have hlen : items.size = ys.length := by rw [map_size he, txs_length]
      have hrange : passing (fun _ => true) items.size 0 = List.range items.size := by
        unfold passing
        rw [List.drop_zero, List.filter_eq_self]
        exact fun _ _ => rfl
      have hpass : (passing (fun _ => true) items.size 0).length = ys.length := by rw [hrange, List.length_range, hlen]
      have hpi : ∀ j i : Nat, (passing (fun _ => true) items.size 0)[j]? = some i → i = j := by
        intro j i e
        rw [hrange] at e
        obtain ⟨h1, h2⟩ := List.getElem?_eq_some_iff.mp e
        rw [List.getElem_range] at h2
        exact h2.symm
      rw [hpass] at W
      refine spliced_nil ?_
      refine SC.joinGen W.in4_2 (fun i s' st => st.1.typeIs) hat ?_ (List.mem_cons_self ..) (fun j v ⟨i, hj, y, u, hy, e⟩ => ⟨y, u, e⟩) (fun s' lt hm hacc => ?_) (Nat.le_trans hn (by decide))
      · intro b hb
        show b < h₅.objs.size
        rw [hsz₅]
        rcases List.mem_cons.mp hb with rfl | hb
        · exact Nat.lt_succ_self _
        · rcases List.mem_cons.mp hb with rfl | hb
          · exact Nat.lt_succ_of_lt hag
          · exact Nat.lt_succ_of_lt (Nat.lt_trans (List.mem_range.mp hb) hag)
      have hlt' : lt.map (·.1) = ys := by
        have hsz : lt.length = ys.length := by simpa [strValues] using hacc.1
        apply List.ext_getElem?
        intro j
        by_cases hj : j < ys.length
        · have hj' : j < lt.length := hsz ▸ hj
          obtain ⟨i, hji, y, u, hy, e⟩ := hacc.2 j (.str lt[j].1 lt[j].2) (by simp [strValues, List.getElem?_eq_getElem hj'])
          injection e with h1 _
          rw [hpi j i hji] at hy
          rw [hy, List.getElem?_map, List.getElem?_eq_getElem hj', ← h1]; rfl
        · rw [List.getElem?_eq_none (by simpa [hsz] using Nat.le_of_not_lt hj), List.getElem?_eq_none (by lia)]
      rw [hlt']
      refine ⟨hz, fun t' k => ⟨σ, ?_, h⟩⟩
      have old : ∀ b, b < s₂.heap.objs.size → b ∉ (h₃.objs.size :: [s₂.heap.objs.size]) := fun b hb hm => by
        simp only [List.mem_cons, List.not_mem_nil, or_false] at hm
        rcases hm with rfl | rfl
        · exact Nat.lt_irrefl _ (Nat.lt_trans hb hsz₃)
        · exact Nat.lt_irrefl _ hb
      have kk' : ∀ b o, b < s₂.heap.objs.size → h₃.get? b = some o → s'.heap.get? b = some o := fun b o hb e => hm.heap b o (old b hb) (hk₅ b o e)
      have hbare := (AllBare.push S₄.gens hgb).movedS hm
      exact ⟨hm.drawn.trans S₄.drawn, hm.os.trans S₄.os, hbare, fun b o e => kk' b o (Heap.lt_size (S₂.keep b o e)) (S₄.keep b o e), S₄.nodup,
        fun p hp' => (S₄.own p hp').keep fun o e => kk' p.1 o (by obtain ⟨o', e', _⟩ := S₂.own p hp'; exact Heap.lt_size e') e, S₄.new⟩
  cases hf : codeAmong gpos ps.toList with
  | some cv => exact wpAny_genexprCode_hit hc (hd.code hpt ht) hf (key cv _ s₂.toks (Heap.ExtBut.refl _ _) ⟨_, hpt, ps, rfl, ht⟩ (Nat.le_refl _))
  | none => exact wpAny_genexprCodeX hc (hd.code hpt ht) (hd.tab hpt) hf fun c' h' tk hx' hge' hlt' _ _ htb _ => key (.ref c') h' tk hx' ⟨_, htb.2, tab_snoc _ _ _ ht⟩ (Nat.le_trans hge' (Nat.le_of_lt hlt'))
end
end TIkGen
section TIkR9
open PySem PySem.Calls PyProof.Rows PySem.Builtin PySem.Builtin.Str
set_option maxRecDepth 4000
theorem gives_find4 (x y : Str) (i j : Int) (t u v w : Tok) : Gives (Builtin.«str.find» ⟨[.str x t, .str y u, .int i v, .int j w], []⟩) (.int (match occurrences x y (fromIndex x.length i) (min (fromIndex x.length j) x.length) 1 with | k :: _ => (k : Int) | [] => -1)) := by
  show Gives (match occurrences x y (fromIndex x.length i) (min (fromIndex x.length j) x.length) 1 with | k :: _ => retInt k | [] => (do rule "str.find.not-found"; retInt (-1))) _
  cases occurrences x y (fromIndex x.length i) (min (fromIndex x.length j) x.length) 1 with
  | nil => exact .rule (.of_eq rfl)
  | cons k _ => exact .of_eq rfl
noncomputable def firstI : List Nat → Int
  | k :: _ => (k : Int)
  | [] => -1
section
variable {C : Cx} {A : Around} {σ σ' : Asn} {env : Env} {Q : Value → Asn → Prop} {x y z : Str} {t u v w : Tok} {l : Addr}
theorem f_rep0 (ho : (occurrences x y 0 x.length (x.length + 1)).isEmpty = true) (h : Q (.str x 0) σ) : EC C A (.builtin "str.replace") [.str x t, .str y u, .str z v] σ Q := fun us hus s S => by
  obtain ⟨a, b, c, rfl, ha, hb, hc⟩ := map3 hus
  obtain ⟨t', rfl⟩ := er_str ha
  obtain ⟨u', rfl⟩ := er_str hb
  obtain ⟨v', rfl⟩ := er_str hc
  refine call_gives PySem.F.slot_str_replace (typeIs_str _ _ _) PySem.F.entry_str_replace (PySem.F.args_str_replace_3 _ _ _) (gives_str_replace x y z _ _ _ fun e => by rw [ho] at e; cases e) ?_
  rw [ho]
  exact ⟨σ, S, h⟩
theorem f_find4 {i j : Int} (h : Q (.int (firstI (occurrences x y (fromIndex x.length i) (min (fromIndex x.length j) x.length) 1)) 0) σ) : EC C A (.builtin "str.find") [.str x t, .str y u, .int i v, .int j w] σ Q := fun us hus s S => by
  obtain ⟨a, b, c, d, rfl, ha, hb, hc, hd⟩ := map4 hus
  obtain ⟨t', rfl⟩ := er_str ha
  obtain ⟨u', rfl⟩ := er_str hb
  obtain ⟨v', rfl⟩ := er_int hc
  obtain ⟨w', rfl⟩ := er_int hd
  exact call_gives PySem.F.slot_str_find (typeIs_str _ _ _) PySem.F.entry_str_find (PySem.F.args_str_find_4 _ _ _ _) (gives_find4 x y i j _ _ _ _) ⟨σ, S.toks _, by
    cases ho : occurrences x y (fromIndex x.length i) (min (fromIndex x.length j) x.length) 1 <;> (rw [ho] at h; exact h)⟩
theorem o_in_tups {ys : List Str} (hl : Has C σ l (tup (txs ys))) (h : Q (.bool (ys.any (· == x))) σ) : E2 C A (compareOp .In) (.str x t) (.ref l) σ Q := fun a b ha hb s S => by
  obtain ⟨t', rfl⟩ := er_str ha
  obtain rfl := er_ref hb
  obtain ⟨items, n, hp, he⟩ := tup_of (S.has hl)
  refine SeqAt.in_tupleAt (items := items) (fun v => match v with | .str y _ => y == x | _ => false) ⟨_, hp, rfl, n, rfl⟩ (fun y hy => ?_) ⟨σ, S, ?_⟩
  · have hm : er y ∈ txs ys := by rw [← he]; exact List.mem_map_of_mem (Array.mem_toList_iff.mpr hy)
    obtain ⟨y', _, e⟩ := List.mem_map.mp hm
    obtain ⟨u, rfl⟩ := er_str e.symm
    exact eqs_str _ _ _ _ _ _ rfl rfl
  · have : (items.any fun v => match v with | .str y _ => y == x | _ => false) = ys.any (· == x) := by
      rw [← Array.any_toList]
      have h2 : ∀ (vs : List Value) (zs : List Str), vs.map er = txs zs → (vs.any fun v => match v with | .str y _ => y == x | _ => false) = zs.any (· == x) := by
        intro vs
        induction vs with
        | nil => intro zs e; cases zs <;> simp [txs] at e ⊢
        | cons v r ih =>
          intro zs e
          cases zs with
          | nil => simp [txs] at e
          | cons z q =>
            simp only [txs, List.map_cons, List.cons.injEq] at e
            obtain ⟨u, rfl⟩ := er_str e.1
            rw [List.any_cons, List.any_cons, ih q e.2]
      exact h2 _ _ he
    rw [this]; exact h
theorem wpAny_rep0 {prog : Program} {W : World} {A' : Around} {E : Value → Shared → Prop} {s : Shared} {o : Expr} {ap pos p1 p2 : Pos} {k1 k2 : Nat} {R : Value → Shared → Prop} {cenv : Env} (ho : (occurrences x y 0 x.length (x.length + 1)).isEmpty = true)
    (h : wpAny (model prog W) A' (eval o cenv) (fun v s₁ => ∃ t, v = .str x t ∧ ∀ k, R (.str x t) { s₁ with toks := k }) E s)
    (hbase : attributeBase o "replace" cenv (eval o cenv) = eval o cenv) (hline : (ap.endLine == pos.line) = true) :
    wpAny (model prog W) A' (eval (.Call (.Attribute o "replace" ap) [.Constant (.str y) k1 p1, .Constant (.str z) k2 p2] [] pos) cenv) R E s := by
  refine wpAny_Call_method_lateS hbase rfl hline (wpAny_mono h (fun ov s₁ hz => ?_) fun _ _ e => e)
  obtain ⟨t, e, hR⟩ := hz
  subst e
  refine ⟨"str", "str.replace", PySem.F.plainAttrs_str, PySem.F.slot_str_replace, PySem.F.type_str_replace, typeIs_str _ _ _, (fun _ e => nomatch e), ?_⟩
  refine callWith_builtin rfl (evalArgs_plain (spliced_cons ?_))
  show wpAny _ _ (mkText y) _ _ _
  intro Γ p hΓ
  rw [Sem.wp_cmd_mkText]
  refine spliced_cons ?_
  show wpAny _ _ (mkText z) _ _ _
  intro Γ p hΓ
  rw [Sem.wp_cmd_mkText]
  refine spliced_nil ?_
  refine call_gives PySem.F.slot_str_replace (typeIs_str _ _ _) PySem.F.entry_str_replace (PySem.F.args_str_replace_3 _ _ _) (gives_str_replace x y z _ _ _ fun e => by rw [ho] at e; cases e) ?_
  rw [ho]
  exact hR _
theorem v_fstr {a b : Str} {e : Expr} {k1 k2 : Nat} {p1 p2 p3 pos : Pos} (ha : a.length ≤ 1000) (he : EV C A env e σ fun v τ => ∃ x, v = .str x 0 ∧ a.length + x.length + b.length ≤ 1000 ∧ Q (.str (Str.empty ++ a ++ x ++ b) 0) τ) :
    EV C A env (.JoinedStr [.Constant (.str a) k1 p1, .FormattedValue e (-1) none p2, .Constant (.str b) k2 p3] pos) σ Q := fun s S => by
  have hs : sizeLine = 16777216 := by decide
  have hla : ∀ u v : Str, (u ++ v).length = u.length + v.length := fun u v => strLen_append u v
  have h0 : Str.empty.length = 0 := rfl
  refine wpAny_JoinedStr ?_
  show wpAny _ _ (mkText a) _ _ s
  intro Γ p hΓ
  rw [Sem.wp_cmd_mkText]
  refine ⟨a, _, rfl, ?_, ?_⟩
  · rw [hla, h0]; lia
  show wpAny _ _ (eval (.FormattedValue e (-1) none p2) env) _ _ _
  refine wpAny_FormattedValue_plain (wpAny_mono (he _ (S.toks _)) (fun v s₁ hz => ?_) fun _ _ e => e.elim)
  obtain ⟨τ, S₁, x, hx, hz, hq⟩ := hz
  obtain ⟨t, rfl⟩ := er_str hx
  have key : ∀ (t' : Tok) k, ∃ y t, Value.str x t' = .str y t ∧ (Str.empty ++ a ++ y).length ≤ sizeLine ∧ Joins (model C.prog C.w) A (fun _ _ => False) [eval (.Constant (.str b) k2 p3) env] (Str.empty ++ a ++ y) (fun out s₁ => out.length ≤ sizeLine ∧ ∃ σ', St C σ' { s₁ with toks := s₁.toks + 1 } ∧ Q (er (.str out s₁.toks)) σ') { s₁ with toks := k } := by
    intro t' k
    refine ⟨x, t', rfl, by rw [hla, hla, h0]; lia, ?_⟩
    show wpAny _ _ (mkText b) _ _ _
    intro Γ p hΓ
    rw [Sem.wp_cmd_mkText]
    refine ⟨b, _, rfl, by rw [hla, hla, hla, h0]; lia, by rw [hla, hla, hla, h0]; lia, τ, S₁.toks _, hq⟩
  exact wpAny_formatField_str (key t s₁.toks) (key _ _) (by lia)
end
end TIkR9
section Mac
open PySem PySem.Calls PyProof.Rows
end Mac
open PySem PySem.Calls PyProof.Rows
local macro_rules | `(tactic| walk_at "ITE") => `(tactic| first | (with_reducible show ite _ _ _) | skip)
local macro_rules | `(tactic| walk_at "MEM") => `(tactic| first | ((repeat (first | exact List.Mem.head _ | refine List.Mem.tail _ ?_)); done) | fail)
local macro_rules | `(tactic| walk_at "UP") => `(tactic| first | ((repeat (first | exact Up.here | apply Up.there)); done) | fail)
local macro_rules | `(tactic| walk_at "WEAK") => `(tactic|
  (focus (repeat (first
    | exact Wk.refl
    | refine Wk.keep (by first | ((repeat (first | exact Pick.here | apply Pick.there)); done) | fail) (by first | exact fun _ h => h | (refine ns_wk ?_; first | ((repeat (first | exact Sel.nil | refine Sel.cons (by exact rfl) ?_)); done) | fail) | (refine lst_wk ?_; simp; done)) ?_
    | refine Wk.drop ?_
    | refine Wk.left ?_)); done))
local macro_rules | `(tactic| walk_at "WALK") => `(tactic|
  ((repeat (first
    | ((with_reducible show EV _ _ _ _ _ _); first | ((with_reducible show EV _ _ _ (.Name ..) _ _); first | refine lv ?_ | refine gv' ?_ | refine bv' ?_ | refine cv ?_) | (with_reducible first | refine v_int ?_ | refine v_str ?_ | refine v_none ?_ | refine v_bool ?_ | refine v_call ?_ | refine v_bin ?_ | refine v_unary ?_ | refine v_ifexp ?_ | refine v_cmp ?_) | ((with_reducible show EV _ _ _ (.Call ..) _ _); refine v_meth ?_) | refine v_slice ?_ | refine v_item ?_)
    | ((with_reducible show EX _ _ _ _ _ _); first | refine x_cons ?_ | refine x_nil ?_)
    | ((with_reducible show ES _ _ _ _ _ _); first | (with_reducible first | refine s_if ?_ | refine s_return ?_ | refine s_continue ?_ | refine s_break ?_ | refine s_assert ?_) | ((with_reducible show ES _ _ _ (.Assign [.Name ..] ..) _ _); refine s_assign ?_) | ((with_reducible show ES _ _ _ (.Assign [.Tuple ..] ..) _ _); refine s_assign_tuple ?_) | ((with_reducible show ES _ _ _ (.AugAssign ..) _ _); refine s_augl ?_) | ((with_reducible show ES _ _ _ (.Expr ..) _ _); refine s_expr ?_) | ((with_reducible show ES _ _ _ (.Assign ..) _ _); refine s_setitem ?_))
    | ((with_reducible show EN _ _ _ _ _ _ _); first | refine cn ?_ (by with_reducible assumption) | refine ln ?_ | refine cn ?_)
    | ((with_reducible show EL _ _ _ _ _ _); first | refine el_nil ?_ | refine el_cons ?_)
    | ((with_reducible show CW _ _ _ _ _ _ _); first | refine cw_builtin ?_ | refine cw_type ?_ | refine wF ?_ | refine cw_bound' ?_)
    | ((with_reducible show EM _ _ _ _ _ _ _ _); first | refine em_strM ?_ | refine em_append' ?_ | refine em_pop' ?_)
    | ((with_reducible show EC _ _ (.ref _) [_] _ _); refine f_bound' ?_ ?_)
    | ((with_reducible show EC _ _ (.builtin "list.append") _ _ _); refine f_append' ?_ ?_)
    | ((with_reducible show _ ∧ EC _ _ _ _ _ _); refine And.intro (by walk_at "MEM") ?_)
    | ((with_reducible show AL _ _ _ _ _ _ _); first | refine al_nil ?_ | refine al_cons ?_)
    | ((with_reducible show ET _ _ _ _ _ _); first | refine t_cmp ?_ | refine t_not ?_ | refine t_bool ?_ | refine t_value ?_)
    | (with_reducible first | refine o_int ?_ | refine f_ord ?_ | refine p_none ?_ | refine p_some ?_ | refine b_bool ?_ | refine as_name ?_ | refine a_cons ?_ | refine a_nil ?_ | refine o_cons ?_ | refine o_nil ?_ | refine o_neg ?_ | refine nr ?_ | refine nb ?_ | refine nc ?_ | refine wb ?_ | refine wr ?_ | refine fb ?_ | refine fr ?_ | refine kf (by assumption) ?_ | refine kv (by assumption) ?_ | refine ka (by assumption) ?_ | intro K hK)
    )); (walk_at "ITE")))
section TIkW11
open PySem PySem.Calls PyProof.Rows
set_option maxRecDepth 4000
structure Base2 (C : Cx) (mg : Str → Option Value) (L : Lay) (c P : Addr) : Prop extends Base C mg L where
  fTr : FnAtC C L.aTranslate "_translate" (fnP (stAt 27)) (fnB (stAt 27)) (fnS (stAt 27)) .none (.ref c)
  tab : TabOk C mg c P
  re : ReAt C.B.heap L.twin
section
variable {C : Cx} {A : Around} {σ σ' ρ : Asn} {Q : Value → Asn → Prop} {QF : Flow → Asn → Prop} {mg : Str → Option Value} {L : Lay} {H : Addr} {env : Env}
theorem f_escape {cc : Nat} (B : Base C mg L) (hR : A.depth < recursionLimit) (hh : A.handled = none) (hcc : cc ∈ [61, 67, 56, 57, 65]) (h : Q (sv [cc]) σ) : EC C A (.ref L.aEscape) [sv [cc]] σ Q := by
  have hs : sizeLine = 16777216 := by decide
  refine c_w B.G.nolimit B.fEscape hR (ll := [("pattern", sv [cc])]) (cs := fun _ => []) (binds1 (p := "pattern")) fun c cdv => ?_
  have k_pattern : kL (fenv "escape" (fnS (stAt 25)) c L.aEscape cdv) "pattern" = true := by kernel_rfl
  have k_isinstance : kG (fenv "escape" (fnS (stAt 25)) c L.aEscape cdv) "isinstance" = true := by kernel_rfl
  have k_str : kG (fenv "escape" (fnS (stAt 25)) c L.aEscape cdv) "str" = true := by kernel_rfl
  have k__special_chars_map : kG (fenv "escape" (fnS (stAt 25)) c L.aEscape cdv) "_special_chars_map" = true := by kernel_rfl
  walk_at "WALK"
  refine f_isinstance_str ?_
  walk_at "WALK"
  refine ite_t rfl ?_
  walk_at "WALK"
  obtain ⟨f, hm, hf⟩ := B.mSpec
  refine f_translate (r := fun _ => none) hh (tl_dict B.sSpec hm fun d hd => ?_) ?_ ?_
  · simp only [List.mem_cons, List.not_mem_nil, or_false] at hcc hd
    rw [hd]
    have hf2 := hf
    rcases hcc with rfl | rfl | rfl | rfl | rfl <;> exact hf _ (by decide)
  · simp [outOf, Str.length]; lia
  walk_at "WALK"
  refine ⟨_, ?_, h⟩
  walk_at "WEAK"
end
end TIkW11
section TIkHd0
open PySem PySem.W PyProof.Rows PySem.Calls
set_option maxRecDepth 100000
noncomputable def qv : Program := { pw with main := { pw.main with body := [stAt 41] } }
noncomputable def looseV : List Str := ["_sre", "CRLF", "NL", "_QUOPRI_MAP", "_QUOPRI_HEADER_MAP", "_QUOPRI_BODY_MAP", "ascii_lowercase", "ascii_uppercase", "ascii_letters", "digits", "hexdigits", "unquote", "quote", "_QUOPRI_BODY_ENCODE_MAP", "body_encode", "decode", "_twin_re_1", "_special_chars_map", "escape", "_translate", "heappop", "heapreplace", "heapify", "_siftdown", "_siftup", "_law_letters", "_law_wire", "_law_by_sums", "_law_meets", "_law_lines", "_law_comes_back"]
end TIkHd0
section TIkHd1
open PySem PySem.W PyProof.Rows PySem.Calls PySem.Builtin.Re PySem.Builtin
set_option maxRecDepth 100000
noncomputable def gOf (h : Heap) (b : Addr) : Option Obj := match Nat.beq b 101 with
  | true => none
  | false => h.get? b
noncomputable def codL (g : Addr → Option Obj) : Value → Option Value
  | .ref c => (g c).bind fun o => match o.data with
    | .fields vs => (vs[1]?).map er
    | _ => none
  | _ => none
noncomputable abbrev FnL := Str × Arguments × FuncBody × Scope × Addr × List (Str × Addr) × Value × Value × Addr × Value × Option Value
noncomputable def fnL (g : Addr → Option Obj) (f : Addr) : Option FnL := (g f).bind fun o => match o.data with
  | .func d => some (d.qualname, d.params, d.body, d.scope, d.globals, d.closure, d.defaults, d.kwdefaults, d.builtins, d.code, codL g d.code)
  | _ => none
noncomputable def fnE (qual : Str) (k : Nat) (dV : Value) (code : Addr) : Option FnL :=
  some (qual, fnP (stAt k), .stmts (fnB (stAt k)), fnS (stAt k), mainGlobals, [], dV, .none, builtinsNs, .ref code, some (.str qual 0))
noncomputable abbrev SeqL := Value × Option Addr × Array (Option Value) × Option (List Value)
noncomputable def seqL (g : Addr → Option Obj) (a : Addr) : Option SeqL := (g a).map fun o => (o.cls, o.dict, o.slots, match o.data with
  | .seq xs _ => some (xs.toList.map er)
  | _ => none)
noncomputable def dicB (g : Addr → Option Obj) (a : Addr) : Option (Value × Option Addr × Array (Option Value) × Bool) := (g a).map fun o => (o.cls, o.dict, o.slots, match o.data with
  | .dict es _ => es.toList.all fun (e : DictEntry) => match e.key with
    | .int i _ => decide (e.hash = hashInt i) && !([61, 67, 56, 57, 65] : List Int).contains i
    | _ => false
  | _ => false)
noncomputable def reL (g : Addr → Option Obj) (a : Addr) : Option (Value × Option Addr × Array (Option Value) × Nat × Nat × Value) := (g a).bind fun o => match o.data with
  | .fields vs => some (o.cls, o.dict, o.slots, reRawNat (vs.getD 6 .none), reRawNat (vs.getD 2 .none), vs.getD 5 .none)
  | _ => none
noncomputable def rawL (g : Addr → Option Obj) (a : Addr) : Option (Array Nat) := (g a).bind fun o => match o.data with
  | .seq xs _ => some ((xs.map reRawOf).map (·.toNat))
  | _ => none
noncomputable def codeL (g : Addr → Option Obj) (a : Addr) : Option (Value × Option Value × Value × Value × Value × Value) := (g a).bind fun o => match o.data with
  | .fields vs => some (o.cls, vs[11]?, er (vs.getD 7 .none), er (vs.getD 9 .none), er (vs.getD 10 .none), er (vs.getD 18 .none))
  | _ => none
noncomputable def gNames : List Str := ["unquote", "quote", "body_encode", "decode", "escape", "_translate", "heappop", "heapreplace", "heapify", "_siftdown", "_siftup", "_law_letters", "_law_wire", "_law_by_sums", "_law_meets", "_law_lines", "_law_comes_back", "law", "CRLF", "hexdigits", "_QUOPRI_MAP", "_QUOPRI_BODY_ENCODE_MAP", "_special_chars_map", "_twin_re_1"]
noncomputable def bNames : List Str := ["chr", "int", "ord", "len", "isinstance", "str", "range", "sorted", "sum", "list", "zip", "reversed", "ValueError"]
noncomputable def layV : Lay where
  aUnquote := 54
  aQuote := 61
  aBodyEncode := 74
  aDecode := 82
  aEscape := 99
  aTranslate := 106
  aHeappop := 113
  aHeapreplace := 120
  aHeapify := 127
  aSiftdown := 134
  aSiftup := 141
  aLawLetters := 146
  aLawWire := 151
  aLawBySums := 156
  aLawMeets := 163
  aLawLines := 168
  aLawComesBack := 173
  aLaw := 178
  dBody := 67
  dDecode := 75
  quoM := 34
  encM := 63
  spec := 89
  twin := 87
noncomputable def fnAll (g : Addr → Option Obj) : List (Option FnL) := [fnL g 54, fnL g 61, fnL g 74, fnL g 82, fnL g 99, fnL g 106, fnL g 113, fnL g 120, fnL g 127, fnL g 134, fnL g 141, fnL g 146, fnL g 151, fnL g 156, fnL g 163, fnL g 168, fnL g 173, fnL g 178]
noncomputable def fnExp : List (Option FnL) := [fnE "unquote" 15 .none 53, fnE "quote" 16 .none 60, fnE "body_encode" 20 (.ref 67) 73, fnE "decode" 21 (.ref 75) 81, fnE "escape" 25 .none 98, fnE "_translate" 27 .none 105, fnE "heappop" 29 .none 112, fnE "heapreplace" 30 .none 119, fnE "heapify" 31 .none 126, fnE "_siftdown" 32 .none 133, fnE "_siftup" 33 .none 140, fnE "_law_letters" 35 .none 145, fnE "_law_wire" 36 .none 150, fnE "_law_by_sums" 37 .none 155, fnE "_law_meets" 38 .none 162, fnE "_law_lines" 39 .none 167, fnE "_law_comes_back" 40 .none 172, fnE "law" 41 .none 177]
noncomputable abbrev ObsT := List (Option Value) × List (Option Value) × List (Option FnL) × List (Option SeqL) × Option (Value × Option Addr × Array (Option Value) × Bool) × Option (Value × Option Addr × Array (Option Value) × Nat × Nat × Value) × Option (Array Nat) × Option (Value × Option Value × Value × Value × Value × Value) × Option Value × Option Obj × Option Obj × Bool
noncomputable def obsV (s : Shared) : ObsT :=
  (gNames.map fun x => (s.heap.nsMap mainGlobals x).map er, bNames.map fun x => s.heap.nsMap mainGlobals x, fnAll (gOf s.heap), [seqL (gOf s.heap) 34, seqL (gOf s.heap) 63, seqL (gOf s.heap) 67, seqL (gOf s.heap) 75], dicB (gOf s.heap) 89, reL (gOf s.heap) 87, rawL (gOf s.heap) 86, codeL (gOf s.heap) 105, s.heap.nsMap mainGlobals "__builtins__", s.heap.get? 4, s.heap.get? 101, s.heap.isNs mainGlobals)
noncomputable def obsE : ObsT :=
  ((globs layV).map fun p => some p.2, bNames.map fun _ => none, fnExp, [some (.type "list", none, #[], some (quoMap.map sv)), some (.type "list", none, #[], some (encMap.map sv)), some (.type "tuple", none, #[], some [.int 76 0, sv [10]]), some (.type "tuple", none, #[], some [sv [10]])],
    some (.type "dict", none, #[], true), some (.type "re.Pattern", none, #[], 0, 1, .ref 86), some reCode, some (.type "code", some (.ref 101), .int 3 0, .bool true, .int 276 0, .str "/claim/cut.py" 0), some (.ref 4), some { cls := .type "module", dict := some builtinsNs }, some { cls := .none, data := .fields #[] }, true)
end TIkHd1
section TIkTop1
open PySem PySem.W PyProof.Rows PySem.Calls
set_option maxRecDepth 100000
noncomputable abbrev denQ := PySem.W.Fast.tw11892475500146522536
noncomputable abbrev tableQ := PySem.W.Fast.tw14364793385576792824
noncomputable abbrev execsQ := PySem.W.Fast.tw12563942051412417395
noncomputable abbrev openW (w : World) : Option Shared := (PySem.W.Fast.tw10274390034422433532 PySem.W.Fast.tw14364793385576792824 (opening pw) w 40000 (PySem.W.Fast.tw1435165496053646825 (opening pw)).1 (PySem.W.Fast.tw1435165496053646825 (opening pw)).2).bind (PySem.W.Fast.tw14289696077712309145 pw)
noncomputable def stepK {R : Type} (den : Code → Sem Fin) (p : Program) (w : World) (n₀ : Nat) (ann : Option Value) (fin : Flow → SharedT → Code → Pos → Option R) (ih : SharedT → Thread → Option R) (s : SharedT) (t : Thread) : Option R := match t with
  | ⟨cur, code, pos, stack⟩ => match cur with
    | .at q k => ih s ⟨k (), code, q, stack⟩
    | .rule _ k => ih s ⟨k (), code, pos, stack⟩
    | .point _ k => ih s ⟨k (), code, pos, stack⟩
    | .ask k => ih s ⟨k ⟨p, w.params⟩, code, pos, stack⟩
    | .fresh k => match s with
      | ⟨T, n, life, gens, drawn, toks, os⟩ => ih ⟨T, n, life, gens, drawn, toks + 1, os⟩ ⟨k toks, code, pos, stack⟩
    | .load a _ k => match s with
      | ⟨T, n, life, gens, drawn, toks, os⟩ => match Nat.blt a n with
        | true => match T.get a with
          | some o => match alive o with
            | some o' => ih ⟨T, n, life, gens, drawn, toks, os⟩ ⟨k o', code, pos, stack⟩
            | none => none
          | none => none
        | false => none
    | .alloc o k => match s with
      | ⟨T, n, life, gens, drawn, toks, os⟩ => match ((T.ins n o).get n).isSome with
        | true => ih ⟨T.ins n o, n + 1, life, gens, drawn, toks, os⟩ ⟨k n, code, pos, stack⟩
        | false => none
    | .loadIfAlive a k => match s with
      | ⟨T, n, life, gens, drawn, toks, os⟩ => match Nat.blt a n with
        | true => match T.get a with
          | some o => ih ⟨T, n, life, gens, drawn, toks, os⟩ ⟨k (alive o), code, pos, stack⟩
          | none => none
        | false => ih ⟨T, n, life, gens, drawn, toks, os⟩ ⟨k none, code, pos, stack⟩
    | .call c h g l k => ih s ⟨den c, c, pos, .ret k h g l code pos (match c, code with
        | .builtin _ a, _ => unmarked a.refs
        | .call f a, .builtin .. | .call f a, .call .. => unmarked (if l.contains borrowed then a.refs else f :: a.refs)
        | _, _ => []) :: stack⟩
    | .pure f => match f with
      | .done f => match stack with
        | [] => none
        | a :: rest => match rest with
          | [] => fin f s code pos
          | b :: l => match a with
            | .ret k _ _ _ c p _ => ih s ⟨k (.ok f), c, p, b :: l⟩
            | _ => none
      | .again c => match stepOk n₀ ann ⟨.pure (.again c), code, pos, stack⟩ with
        | true => match stepT den p w s ⟨.pure (.again c), code, pos, stack⟩ with
          | some (s', t') => ih s' t'
          | none => none
        | false => none
    | c => match stepOk n₀ ann ⟨c, code, pos, stack⟩ with
      | true => match stepT den p w s ⟨c, code, pos, stack⟩ with
        | some (s', t') => ih s' t'
        | none => none
      | false => none
noncomputable def isDone : Sem Fin → Bool
  | .pure (.done _) => true
  | _ => false
theorem endAt_none {c : Sem Fin} {code : Code} {pos : Pos} {stack : List Frame} (h : isDone c = false) : endAt 1 ⟨c, code, pos, stack⟩ = none := by
  show (match stack.length == 1, c with | true, .pure (.done f) => some f | _, _ => none) = none
  cases (stack.length == 1) with
  | false => rfl
  | true => cases c with
    | pure f => cases f with
      | done f => cases h
      | _ => rfl
    | _ => rfl
inductive StepRes {R : Type} (den : Code → Sem Fin) (p : Program) (w : World) (n₀ : Nat) (ann : Option Value) (fin : Flow → SharedT → Code → Pos → Option R) (ih : SharedT → Thread → Option R) (s : SharedT) (t : Thread) (r : R) : Prop
  | fin (f : Flow) (h1 : endAt 1 t = some f) (h2 : fin f s t.code t.pos = some r)
  | go (h0 : endAt 1 t = none) (h1 : stepOk n₀ ann t = true) (s' : SharedT) (t' : Thread) (h2 : stepT den p w s t = some (s', t')) (h3 : ih s' t' = some r)
section
variable {R : Type} {den : Code → Sem Fin} {p : Program} {w : World} {n₀ : Nat} {ann : Option Value} {fin : Flow → SharedT → Code → Pos → Option R} {ih : SharedT → Thread → Option R} {s : SharedT} {r : R} {c : Sem Fin} {code : Code} {pos : Pos} {stack : List Frame}
theorem go1 {s' : SharedT} {t' : Thread} (hc : isDone c = false) (hk : stepOk n₀ ann ⟨c, code, pos, stack⟩ = true) (h2 : stepT den p w s ⟨c, code, pos, stack⟩ = some (s', t')) (h : ih s' t' = some r) : StepRes den p w n₀ ann fin ih s ⟨c, code, pos, stack⟩ r :=
  .go (endAt_none hc) hk s' t' h2 h
theorem gen1 (hc : isDone c = false) (h : (match stepOk n₀ ann ⟨c, code, pos, stack⟩ with
      | true => match stepT den p w s ⟨c, code, pos, stack⟩ with
        | some (s', t') => ih s' t'
        | none => none
      | false => none) = some r) : StepRes den p w n₀ ann fin ih s ⟨c, code, pos, stack⟩ r := by
  cases hk : stepOk n₀ ann ⟨c, code, pos, stack⟩ with
  | false => rw [hk] at h; cases h
  | true =>
    rw [hk] at h
    cases hs : stepT den p w s ⟨c, code, pos, stack⟩ with
    | none => rw [hs] at h; cases h
    | some q => rw [hs] at h; exact go1 hc hk hs h
theorem load2 {γ δ : Type} {o : Option Obj} {F : Obj → Option γ} {v : γ} (h : (match o with | some x => F x | none => none) = some v) : ∃ x, F x = some v ∧ ∀ G : Obj → Option δ, (match (generalizing := false) o with | some x => G x | none => none) = G x := by
  cases o with
  | none => cases h
  | some x => exact ⟨x, h, fun _ => rfl⟩
end
theorem stepK_spec {R : Type} {den : Code → Sem Fin} {p : Program} {w : World} {n₀ : Nat} {ann : Option Value} {fin : Flow → SharedT → Code → Pos → Option R} {ih : SharedT → Thread → Option R} {s : SharedT} {t : Thread} {r : R} (h : stepK den p w n₀ ann fin ih s t = some r) :
    StepRes den p w n₀ ann fin ih s t r := by
  obtain ⟨T, n, life, gens, drawn, toks, os⟩ := s
  obtain ⟨cur, code, pos, stack⟩ := t
  cases cur with
  | «at» q k => exact go1 rfl rfl rfl h
  | rule x k => exact go1 rfl rfl rfl h
  | point x k => exact go1 rfl rfl rfl h
  | ask k => exact go1 rfl rfl rfl h
  | fresh k => exact go1 rfl rfl rfl h
  | load a q k =>
    have h' : (match Nat.blt a n with
      | true => match T.get a with
        | some o => match alive o with
          | some o' => ih ⟨T, n, life, gens, drawn, toks, os⟩ ⟨k o', code, pos, stack⟩
          | none => none
        | none => none
      | false => none) = some r := h
    have e : ∀ x, (match (generalizing := false) Nat.blt a n with
      | true => match T.get a with
        | some o => match alive o with
          | some o' => some ((⟨T, n, life, gens, drawn, toks, os⟩ : SharedT), (⟨k o', code, pos, stack⟩ : Thread))
          | none => none
        | none => none
      | false => none) = some x → stepT den p w ⟨T, n, life, gens, drawn, toks, os⟩ ⟨.load a q k, code, pos, stack⟩ = some x := fun _ h => h
    clear h
    cases h1 : Nat.blt a n with
    | false => rw [h1] at h'; cases h'
    | true =>
      rw [h1] at h' e
      obtain ⟨o, ho, g1⟩ := load2 (δ := SharedT × Thread) h'
      obtain ⟨o', ho', g2⟩ := load2 (δ := SharedT × Thread) ho
      exact go1 rfl rfl (e (⟨T, n, life, gens, drawn, toks, os⟩, ⟨k o', code, pos, stack⟩) ((g1 _).trans (g2 fun o' => some (⟨T, n, life, gens, drawn, toks, os⟩, ⟨k o', code, pos, stack⟩)))) ho'
  | alloc o k =>
    have h' : (match ((T.ins n o).get n).isSome with
        | true => ih ⟨T.ins n o, n + 1, life, gens, drawn, toks, os⟩ ⟨k n, code, pos, stack⟩
        | false => none) = some r := h
    have e : ∀ x, (match (generalizing := false) ((T.ins n o).get n).isSome with
        | true => some ((⟨T.ins n o, n + 1, life, gens, drawn, toks, os⟩ : SharedT), (⟨k n, code, pos, stack⟩ : Thread))
        | false => none) = some x → stepT den p w ⟨T, n, life, gens, drawn, toks, os⟩ ⟨.alloc o k, code, pos, stack⟩ = some x := fun _ h => h
    clear h
    cases h1 : ((T.ins n o).get n).isSome with
    | false => rw [h1] at h'; cases h'
    | true => rw [h1] at h' e; exact go1 rfl rfl (e _ rfl) h'
  | loadIfAlive a k =>
    have h' : (match Nat.blt a n with
        | true => match T.get a with
          | some o => ih ⟨T, n, life, gens, drawn, toks, os⟩ ⟨k (alive o), code, pos, stack⟩
          | none => none
        | false => ih ⟨T, n, life, gens, drawn, toks, os⟩ ⟨k none, code, pos, stack⟩) = some r := h
    have e : ∀ x, (match (generalizing := false) Nat.blt a n with
        | true => match T.get a with
          | some o => some ((⟨T, n, life, gens, drawn, toks, os⟩ : SharedT), (⟨k (alive o), code, pos, stack⟩ : Thread))
          | none => none
        | false => some ((⟨T, n, life, gens, drawn, toks, os⟩ : SharedT), (⟨k none, code, pos, stack⟩ : Thread))) = some x → stepT den p w ⟨T, n, life, gens, drawn, toks, os⟩ ⟨.loadIfAlive a k, code, pos, stack⟩ = some x := fun _ h => h
    clear h
    cases h1 : Nat.blt a n with
    | false => rw [h1] at h' e; exact go1 rfl rfl (e _ rfl) h'
    | true =>
      rw [h1] at h' e
      obtain ⟨o, ho, g1⟩ := load2 (δ := SharedT × Thread) h'
      exact go1 rfl rfl (e (⟨T, n, life, gens, drawn, toks, os⟩, ⟨k (alive o), code, pos, stack⟩) (g1 fun o => some (⟨T, n, life, gens, drawn, toks, os⟩, ⟨k (alive o), code, pos, stack⟩))) ho
  | call c hd g l k => exact go1 rfl rfl rfl h
  | pure f => cases f with
    | done f => cases stack with
      | nil => cases h
      | cons a rest => cases rest with
        | nil => exact .fin f rfl h
        | cons b l => cases a with
          | ret k _ _ _ c p _ =>
            refine .go ?_ rfl _ _ rfl h
            rfl
          | _ => cases h
    | again c => exact gen1 rfl h
  | _ => exact gen1 rfl h
noncomputable def segQ (p : Program) (w : World) (n₀ : Nat) (ann : Option Value) (n : Nat) : SharedT → Thread → Option (Flow × SharedT × Code × Pos) :=
  @Nat.rec (fun _ => SharedT → Thread → Option (Flow × SharedT × Code × Pos)) (fun _ _ => none) (fun _ ih => stepK (denQ tableQ) p w n₀ ann (fun f s c q => some (f, s, c, q)) ih) n
noncomputable def goK (p : Program) (w : World) (n₀ : Nat) (ann : Option Value) (n : Nat) : SharedT → Thread → Option (SharedT × Thread) :=
  @Nat.rec (fun _ => SharedT → Thread → Option (SharedT × Thread)) (fun s t => some (s, t)) (fun _ ih => stepK (denQ tableQ) p w n₀ ann (fun _ _ _ _ => none) ih) n
noncomputable abbrev stepQ := PySem.W.Fast.tw10156331382660048174
noncomputable abbrev okQ := PySem.W.Fast.tw6613529449190102663
noncomputable def topQ (p : Program) (w : World) (n₀ : Nat) (ann : Option Value) : Nat → SharedT → Thread → Option SharedT
  | 0, _, _ => none
  | n + 1, s, t => match through t with
    | true => some s
    | false => match okQ n₀ ann t with
      | false => none
      | true => match stepQ (denQ tableQ) p w s t with
        | some (s', t') => topQ p w n₀ ann n s' t'
        | none => none
noncomputable def goQ (p : Program) (w : World) (n₀ : Nat) (ann : Option Value) : Nat → SharedT → Thread → Option (SharedT × Thread)
  | 0, s, t => some (s, t)
  | n + 1, s, t => match through t with
    | true => none
    | false => match okQ n₀ ann t with
      | false => none
      | true => match stepQ (denQ tableQ) p w s t with
        | some (s', t') => goQ p w n₀ ann n s' t'
        | none => none
noncomputable def buildC : List Obj → Nat → BT → Option BT
  | [], _, t => some t
  | o :: l, i, t => match ((t.ins i o).get i).isSome with
    | true => buildC l (i + 1) (t.ins i o)
    | false => none
noncomputable def s0 (w : World) : Shared := (openW w).getD {}
noncomputable def T0 (w : World) : BT := (buildC (s0 w).heap.objs.toList 0 .nil).getD .nil
structure Ext where
  life : Life
  gens : Array GenState
  drawn : Drawn
  os : OsState
  o14 : Obj
  o22 : Obj
noncomputable def ext (w : World) : Ext := ⟨(s0 w).heap.life, (s0 w).gens, (s0 w).drawn, (s0 w).os, (s0 w).heap.objs.getD 14 default, (s0 w).heap.objs.getD 22 default⟩
noncomputable def ke (P : Params) (x : Str) (t : Tok) (v : Value) : DictEntry := ⟨PyData.keyHash P x, .str x t, v⟩
noncomputable def putAll : List Obj → Nat → BT → BT
  | [], _, t => t
  | o :: l, i, t => putAll l (i + 1) (t.ins i o)
noncomputable def op0 (P : Params) : Obj := ⟨.type "dict", none, .dict #[ke P ⟨#[95, 95, 110, 97, 109, 101, 95, 95]⟩ 1 (.str ⟨#[98, 117, 105, 108, 116, 105, 110, 115]⟩ 160), ke P ⟨#[95, 95, 100, 111, 99, 95, 95]⟩ 2 (.builtin "builtins.__doc__:str#opaque"), ke P ⟨#[95, 95, 112, 97, 99, 107, 97, 103, 101, 95, 95]⟩ 3 (.builtin "builtins.__package__:str#opaque"), ke P ⟨#[95, 95, 108, 111, 97, 100, 101, 114, 95, 95]⟩ 4 (.builtin "builtins.__loader__:shared#opaque"), ke P ⟨#[95, 95, 115, 112, 101, 99, 95, 95]⟩ 5 (.builtin "builtins.__spec__#opaque"), ke P ⟨#[95, 95, 98, 117, 105, 108, 100, 95, 99, 108, 97, 115, 115, 95, 95]⟩ 6 (.builtin "__build_class__"), ke P ⟨#[95, 95, 105, 109, 112, 111, 114, 116, 95, 95]⟩ 7 (.builtin "__import__"), ke P ⟨#[97, 98, 115]⟩ 8 (.builtin "abs"), ke P ⟨#[97, 108, 108]⟩ 9 (.builtin "all"), ke P ⟨#[97, 110, 121]⟩ 10 (.builtin "any"), ke P ⟨#[97, 115, 99, 105, 105]⟩ 11 (.builtin "ascii"), ke P ⟨#[98, 105, 110]⟩ 12 (.builtin "bin"), ke P ⟨#[98, 114, 101, 97, 107, 112, 111, 105, 110, 116]⟩ 13 (.builtin "breakpoint"), ke P ⟨#[99, 97, 108, 108, 97, 98, 108, 101]⟩ 14 (.builtin "callable"), ke P ⟨#[99, 104, 114]⟩ 15 (.builtin "chr"), ke P ⟨#[99, 111, 109, 112, 105, 108, 101]⟩ 16 (.builtin "compile"), ke P ⟨#[100, 101, 108, 97, 116, 116, 114]⟩ 17 (.builtin "delattr"), ke P ⟨#[100, 105, 114]⟩ 18 (.builtin "dir"), ke P ⟨#[100, 105, 118, 109, 111, 100]⟩ 19 (.builtin "divmod"), ke P ⟨#[101, 118, 97, 108]⟩ 20 (.builtin "eval"), ke P ⟨#[101, 120, 101, 99]⟩ 21 (.builtin "exec"), ke P ⟨#[102, 111, 114, 109, 97, 116]⟩ 22 (.builtin "format"), ke P ⟨#[103, 101, 116, 97, 116, 116, 114]⟩ 23 (.builtin "getattr"), ke P ⟨#[103, 108, 111, 98, 97, 108, 115]⟩ 24 (.builtin "globals"), ke P ⟨#[104, 97, 115, 97, 116, 116, 114]⟩ 25 (.builtin "hasattr"), ke P ⟨#[104, 97, 115, 104]⟩ 26 (.builtin "hash"), ke P ⟨#[104, 101, 120]⟩ 27 (.builtin "hex"), ke P ⟨#[105, 100]⟩ 28 (.builtin "id"), ke P ⟨#[105, 110, 112, 117, 116]⟩ 29 (.builtin "input"), ke P ⟨#[105, 115, 105, 110, 115, 116, 97, 110, 99, 101]⟩ 30 (.builtin "isinstance"), ke P ⟨#[105, 115, 115, 117, 98, 99, 108, 97, 115, 115]⟩ 31 (.builtin "issubclass"), ke P ⟨#[105, 116, 101, 114]⟩ 32 (.builtin "iter"), ke P ⟨#[97, 105, 116, 101, 114]⟩ 33 (.builtin "aiter"), ke P ⟨#[108, 101, 110]⟩ 34 (.builtin "len"), ke P ⟨#[108, 111, 99, 97, 108, 115]⟩ 35 (.builtin "locals"), ke P ⟨#[109, 97, 120]⟩ 36 (.builtin "max"), ke P ⟨#[109, 105, 110]⟩ 37 (.builtin "min"), ke P ⟨#[110, 101, 120, 116]⟩ 38 (.builtin "next"), ke P ⟨#[97, 110, 101, 120, 116]⟩ 39 (.builtin "anext"), ke P ⟨#[111, 99, 116]⟩ 40 (.builtin "oct"), ke P ⟨#[111, 114, 100]⟩ 41 (.builtin "ord"), ke P ⟨#[112, 111, 119]⟩ 42 (.builtin "pow"), ke P ⟨#[112, 114, 105, 110, 116]⟩ 43 (.builtin "print"), ke P ⟨#[114, 101, 112, 114]⟩ 44 (.builtin "repr"), ke P ⟨#[114, 111, 117, 110, 100]⟩ 45 (.builtin "round"), ke P ⟨#[115, 101, 116, 97, 116, 116, 114]⟩ 46 (.builtin "setattr"), ke P ⟨#[115, 111, 114, 116, 101, 100]⟩ 47 (.builtin "sorted"), ke P ⟨#[115, 117, 109]⟩ 48 (.builtin "sum"), ke P ⟨#[118, 97, 114, 115]⟩ 49 (.builtin "vars"), ke P ⟨#[78, 111, 110, 101]⟩ 50 (.none), ke P ⟨#[69, 108, 108, 105, 112, 115, 105, 115]⟩ 51 (.ellipsis), ke P ⟨#[78, 111, 116, 73, 109, 112, 108, 101, 109, 101, 110, 116, 101, 100]⟩ 52 (.notImplemented), ke P ⟨#[70, 97, 108, 115, 101]⟩ 53 (.bool false), ke P ⟨#[84, 114, 117, 101]⟩ 54 (.bool true), ke P ⟨#[98, 111, 111, 108]⟩ 55 (.type "bool"), ke P ⟨#[109, 101, 109, 111, 114, 121, 118, 105, 101, 119]⟩ 56 (.type "memoryview"), ke P ⟨#[98, 121, 116, 101, 97, 114, 114, 97, 121]⟩ 57 (.type "bytearray"), ke P ⟨#[98, 121, 116, 101, 115]⟩ 58 (.type "bytes"), ke P ⟨#[99, 108, 97, 115, 115, 109, 101, 116, 104, 111, 100]⟩ 59 (.type "classmethod"), ke P ⟨#[99, 111, 109, 112, 108, 101, 120]⟩ 60 (.type "complex"), ke P ⟨#[100, 105, 99, 116]⟩ 61 (.type "dict"), ke P ⟨#[101, 110, 117, 109, 101, 114, 97, 116, 101]⟩ 62 (.type "enumerate"), ke P ⟨#[102, 105, 108, 116, 101, 114]⟩ 63 (.type "filter"), ke P ⟨#[102, 108, 111, 97, 116]⟩ 64 (.type "float"), ke P ⟨#[102, 114, 111, 122, 101, 110, 115, 101, 116]⟩ 65 (.type "frozenset"), ke P ⟨#[112, 114, 111, 112, 101, 114, 116, 121]⟩ 66 (.type "property"), ke P ⟨#[105, 110, 116]⟩ 67 (.type "int"), ke P ⟨#[108, 105, 115, 116]⟩ 68 (.type "list"), ke P ⟨#[109, 97, 112]⟩ 69 (.type "map"), ke P ⟨#[111, 98, 106, 101, 99, 116]⟩ 70 (.type "object"), ke P ⟨#[114, 97, 110, 103, 101]⟩ 71 (.type "range"), ke P ⟨#[114, 101, 118, 101, 114, 115, 101, 100]⟩ 72 (.type "reversed"), ke P ⟨#[115, 101, 116]⟩ 73 (.type "set"), ke P ⟨#[115, 108, 105, 99, 101]⟩ 74 (.type "slice"), ke P ⟨#[115, 116, 97, 116, 105, 99, 109, 101, 116, 104, 111, 100]⟩ 75 (.type "staticmethod"), ke P ⟨#[115, 116, 114]⟩ 76 (.type "str"), ke P ⟨#[115, 117, 112, 101, 114]⟩ 77 (.type "super"), ke P ⟨#[116, 117, 112, 108, 101]⟩ 78 (.type "tuple"), ke P ⟨#[116, 121, 112, 101]⟩ 79 (.type "type"), ke P ⟨#[122, 105, 112]⟩ 80 (.type "zip"), ke P ⟨#[95, 95, 100, 101, 98, 117, 103, 95, 95]⟩ 81 (.bool true), ke P ⟨#[66, 97, 115, 101, 69, 120, 99, 101, 112, 116, 105, 111, 110]⟩ 82 (.type "BaseException"), ke P ⟨#[66, 97, 115, 101, 69, 120, 99, 101, 112, 116, 105, 111, 110, 71, 114, 111, 117, 112]⟩ 83 (.type "BaseExceptionGroup"), ke P ⟨#[69, 120, 99, 101, 112, 116, 105, 111, 110]⟩ 84 (.type "Exception"), ke P ⟨#[71, 101, 110, 101, 114, 97, 116, 111, 114, 69, 120, 105, 116]⟩ 85 (.type "GeneratorExit"), ke P ⟨#[75, 101, 121, 98, 111, 97, 114, 100, 73, 110, 116, 101, 114, 114, 117, 112, 116]⟩ 86 (.type "KeyboardInterrupt"), ke P ⟨#[83, 121, 115, 116, 101, 109, 69, 120, 105, 116]⟩ 87 (.type "SystemExit"), ke P ⟨#[65, 114, 105, 116, 104, 109, 101, 116, 105, 99, 69, 114, 114, 111, 114]⟩ 88 (.type "ArithmeticError"), ke P ⟨#[65, 115, 115, 101, 114, 116, 105, 111, 110, 69, 114, 114, 111, 114]⟩ 89 (.type "AssertionError"), ke P ⟨#[65, 116, 116, 114, 105, 98, 117, 116, 101, 69, 114, 114, 111, 114]⟩ 90 (.type "AttributeError"), ke P ⟨#[66, 117, 102, 102, 101, 114, 69, 114, 114, 111, 114]⟩ 91 (.type "BufferError"), ke P ⟨#[69, 79, 70, 69, 114, 114, 111, 114]⟩ 92 (.type "EOFError"), ke P ⟨#[73, 109, 112, 111, 114, 116, 69, 114, 114, 111, 114]⟩ 93 (.type "ImportError"), ke P ⟨#[76, 111, 111, 107, 117, 112, 69, 114, 114, 111, 114]⟩ 94 (.type "LookupError"), ke P ⟨#[77, 101, 109, 111, 114, 121, 69, 114, 114, 111, 114]⟩ 95 (.type "MemoryError"), ke P ⟨#[78, 97, 109, 101, 69, 114, 114, 111, 114]⟩ 96 (.type "NameError"), ke P ⟨#[79, 83, 69, 114, 114, 111, 114]⟩ 97 (.type "OSError"), ke P ⟨#[82, 101, 102, 101, 114, 101, 110, 99, 101, 69, 114, 114, 111, 114]⟩ 98 (.type "ReferenceError"), ke P ⟨#[82, 117, 110, 116, 105, 109, 101, 69, 114, 114, 111, 114]⟩ 99 (.type "RuntimeError"), ke P ⟨#[83, 116, 111, 112, 65, 115, 121, 110, 99, 73, 116, 101, 114, 97, 116, 105, 111, 110]⟩ 100 (.type "StopAsyncIteration"), ke P ⟨#[83, 116, 111, 112, 73, 116, 101, 114, 97, 116, 105, 111, 110]⟩ 101 (.type "StopIteration"), ke P ⟨#[83, 121, 110, 116, 97, 120, 69, 114, 114, 111, 114]⟩ 102 (.type "SyntaxError"), ke P ⟨#[83, 121, 115, 116, 101, 109, 69, 114, 114, 111, 114]⟩ 103 (.type "SystemError"), ke P ⟨#[84, 121, 112, 101, 69, 114, 114, 111, 114]⟩ 104 (.type "TypeError"), ke P ⟨#[86, 97, 108, 117, 101, 69, 114, 114, 111, 114]⟩ 105 (.type "ValueError"), ke P ⟨#[87, 97, 114, 110, 105, 110, 103]⟩ 106 (.type "Warning"), ke P ⟨#[70, 108, 111, 97, 116, 105, 110, 103, 80, 111, 105, 110, 116, 69, 114, 114, 111, 114]⟩ 107 (.type "FloatingPointError"), ke P ⟨#[79, 118, 101, 114, 102, 108, 111, 119, 69, 114, 114, 111, 114]⟩ 108 (.type "OverflowError"), ke P ⟨#[90, 101, 114, 111, 68, 105, 118, 105, 115, 105, 111, 110, 69, 114, 114, 111, 114]⟩ 109 (.type "ZeroDivisionError"), ke P ⟨#[66, 121, 116, 101, 115, 87, 97, 114, 110, 105, 110, 103]⟩ 110 (.type "BytesWarning"), ke P ⟨#[68, 101, 112, 114, 101, 99, 97, 116, 105, 111, 110, 87, 97, 114, 110, 105, 110, 103]⟩ 111 (.type "DeprecationWarning"), ke P ⟨#[69, 110, 99, 111, 100, 105, 110, 103, 87, 97, 114, 110, 105, 110, 103]⟩ 112 (.type "EncodingWarning"), ke P ⟨#[70, 117, 116, 117, 114, 101, 87, 97, 114, 110, 105, 110, 103]⟩ 113 (.type "FutureWarning"), ke P ⟨#[73, 109, 112, 111, 114, 116, 87, 97, 114, 110, 105, 110, 103]⟩ 114 (.type "ImportWarning"), ke P ⟨#[80, 101, 110, 100, 105, 110, 103, 68, 101, 112, 114, 101, 99, 97, 116, 105, 111, 110, 87, 97, 114, 110, 105, 110, 103]⟩ 115 (.type "PendingDeprecationWarning"), ke P ⟨#[82, 101, 115, 111, 117, 114, 99, 101, 87, 97, 114, 110, 105, 110, 103]⟩ 116 (.type "ResourceWarning"), ke P ⟨#[82, 117, 110, 116, 105, 109, 101, 87, 97, 114, 110, 105, 110, 103]⟩ 117 (.type "RuntimeWarning"), ke P ⟨#[83, 121, 110, 116, 97, 120, 87, 97, 114, 110, 105, 110, 103]⟩ 118 (.type "SyntaxWarning"), ke P ⟨#[85, 110, 105, 99, 111, 100, 101, 87, 97, 114, 110, 105, 110, 103]⟩ 119 (.type "UnicodeWarning"), ke P ⟨#[85, 115, 101, 114, 87, 97, 114, 110, 105, 110, 103]⟩ 120 (.type "UserWarning"), ke P ⟨#[66, 108, 111, 99, 107, 105, 110, 103, 73, 79, 69, 114, 114, 111, 114]⟩ 121 (.type "BlockingIOError"), ke P ⟨#[67, 104, 105, 108, 100, 80, 114, 111, 99, 101, 115, 115, 69, 114, 114, 111, 114]⟩ 122 (.type "ChildProcessError"), ke P ⟨#[67, 111, 110, 110, 101, 99, 116, 105, 111, 110, 69, 114, 114, 111, 114]⟩ 123 (.type "ConnectionError"), ke P ⟨#[70, 105, 108, 101, 69, 120, 105, 115, 116, 115, 69, 114, 114, 111, 114]⟩ 124 (.type "FileExistsError"), ke P ⟨#[70, 105, 108, 101, 78, 111, 116, 70, 111, 117, 110, 100, 69, 114, 114, 111, 114]⟩ 125 (.type "FileNotFoundError"), ke P ⟨#[73, 110, 116, 101, 114, 114, 117, 112, 116, 101, 100, 69, 114, 114, 111, 114]⟩ 126 (.type "InterruptedError"), ke P ⟨#[73, 115, 65, 68, 105, 114, 101, 99, 116, 111, 114, 121, 69, 114, 114, 111, 114]⟩ 127 (.type "IsADirectoryError"), ke P ⟨#[78, 111, 116, 65, 68, 105, 114, 101, 99, 116, 111, 114, 121, 69, 114, 114, 111, 114]⟩ 128 (.type "NotADirectoryError"), ke P ⟨#[80, 101, 114, 109, 105, 115, 115, 105, 111, 110, 69, 114, 114, 111, 114]⟩ 129 (.type "PermissionError"), ke P ⟨#[80, 114, 111, 99, 101, 115, 115, 76, 111, 111, 107, 117, 112, 69, 114, 114, 111, 114]⟩ 130 (.type "ProcessLookupError"), ke P ⟨#[84, 105, 109, 101, 111, 117, 116, 69, 114, 114, 111, 114]⟩ 131 (.type "TimeoutError"), ke P ⟨#[73, 110, 100, 101, 110, 116, 97, 116, 105, 111, 110, 69, 114, 114, 111, 114]⟩ 132 (.type "IndentationError"), ke P ⟨#[95, 73, 110, 99, 111, 109, 112, 108, 101, 116, 101, 73, 110, 112, 117, 116, 69, 114, 114, 111, 114]⟩ 133 (.type "_IncompleteInputError"), ke P ⟨#[73, 110, 100, 101, 120, 69, 114, 114, 111, 114]⟩ 134 (.type "IndexError"), ke P ⟨#[75, 101, 121, 69, 114, 114, 111, 114]⟩ 135 (.type "KeyError"), ke P ⟨#[77, 111, 100, 117, 108, 101, 78, 111, 116, 70, 111, 117, 110, 100, 69, 114, 114, 111, 114]⟩ 136 (.type "ModuleNotFoundError"), ke P ⟨#[78, 111, 116, 73, 109, 112, 108, 101, 109, 101, 110, 116, 101, 100, 69, 114, 114, 111, 114]⟩ 137 (.type "NotImplementedError"), ke P ⟨#[80, 121, 116, 104, 111, 110, 70, 105, 110, 97, 108, 105, 122, 97, 116, 105, 111, 110, 69, 114, 114, 111, 114]⟩ 138 (.type "PythonFinalizationError"), ke P ⟨#[82, 101, 99, 117, 114, 115, 105, 111, 110, 69, 114, 114, 111, 114]⟩ 139 (.type "RecursionError"), ke P ⟨#[85, 110, 98, 111, 117, 110, 100, 76, 111, 99, 97, 108, 69, 114, 114, 111, 114]⟩ 140 (.type "UnboundLocalError"), ke P ⟨#[85, 110, 105, 99, 111, 100, 101, 69, 114, 114, 111, 114]⟩ 141 (.type "UnicodeError"), ke P ⟨#[66, 114, 111, 107, 101, 110, 80, 105, 112, 101, 69, 114, 114, 111, 114]⟩ 142 (.type "BrokenPipeError"), ke P ⟨#[67, 111, 110, 110, 101, 99, 116, 105, 111, 110, 65, 98, 111, 114, 116, 101, 100, 69, 114, 114, 111, 114]⟩ 143 (.type "ConnectionAbortedError"), ke P ⟨#[67, 111, 110, 110, 101, 99, 116, 105, 111, 110, 82, 101, 102, 117, 115, 101, 100, 69, 114, 114, 111, 114]⟩ 144 (.type "ConnectionRefusedError"), ke P ⟨#[67, 111, 110, 110, 101, 99, 116, 105, 111, 110, 82, 101, 115, 101, 116, 69, 114, 114, 111, 114]⟩ 145 (.type "ConnectionResetError"), ke P ⟨#[84, 97, 98, 69, 114, 114, 111, 114]⟩ 146 (.type "TabError"), ke P ⟨#[85, 110, 105, 99, 111, 100, 101, 68, 101, 99, 111, 100, 101, 69, 114, 114, 111, 114]⟩ 147 (.type "UnicodeDecodeError"), ke P ⟨#[85, 110, 105, 99, 111, 100, 101, 69, 110, 99, 111, 100, 101, 69, 114, 114, 111, 114]⟩ 148 (.type "UnicodeEncodeError"), ke P ⟨#[85, 110, 105, 99, 111, 100, 101, 84, 114, 97, 110, 115, 108, 97, 116, 101, 69, 114, 114, 111, 114]⟩ 149 (.type "UnicodeTranslateError"), ke P ⟨#[69, 120, 99, 101, 112, 116, 105, 111, 110, 71, 114, 111, 117, 112]⟩ 150 (.type "ExceptionGroup"), ke P ⟨#[69, 110, 118, 105, 114, 111, 110, 109, 101, 110, 116, 69, 114, 114, 111, 114]⟩ 151 (.type "OSError"), ke P ⟨#[73, 79, 69, 114, 114, 111, 114]⟩ 152 (.type "OSError"), ke P ⟨#[111, 112, 101, 110]⟩ 153 (.builtin "open"), ke P ⟨#[113, 117, 105, 116]⟩ 154 (.builtin "builtins.quit#opaque"), ke P ⟨#[101, 120, 105, 116]⟩ 155 (.builtin "builtins.exit#opaque"), ke P ⟨#[99, 111, 112, 121, 114, 105, 103, 104, 116]⟩ 156 (.builtin "builtins.copyright#opaque"), ke P ⟨#[99, 114, 101, 100, 105, 116, 115]⟩ 157 (.builtin "builtins.credits#opaque"), ke P ⟨#[108, 105, 99, 101, 110, 115, 101]⟩ 158 (.builtin "builtins.license#opaque"), ke P ⟨#[104, 101, 108, 112]⟩ 159 (.builtin "builtins.help#opaque")] 159, #[]⟩
noncomputable def op1 (P : Params) : Obj := ⟨.type "dict", none, .dict #[ke P ⟨#[98, 117, 105, 108, 116, 105, 110, 115]⟩ 162 (.ref 4), ke P ⟨#[95, 95, 109, 97, 105, 110, 95, 95]⟩ 163 (.ref 5), ke P ⟨#[95, 115, 114, 101]⟩ 244 (.ref 12)] 3, #[]⟩
noncomputable def op2 (P : Params) : Obj := ⟨.none, none, .dict #[ke P ⟨#[105, 109, 112, 111, 114, 116, 46, 108, 111, 97, 100, 101, 100, 46, 95, 115, 114, 101]⟩ 183 (.bool true), ke P ⟨#[99, 108, 97, 115, 115, 46, 95, 102, 114, 111, 122, 101, 110, 95, 105, 109, 112, 111, 114, 116, 108, 105, 98, 46, 66, 117, 105, 108, 116, 105, 110, 73, 109, 112, 111, 114, 116, 101, 114]⟩ 185 (.ref 14), ke P ⟨#[119, 97, 116, 99, 104, 101, 100, 46, 105, 109, 112, 111, 114, 116]⟩ 206 (.ref 18), ke P ⟨#[99, 108, 97, 115, 115, 46, 95, 102, 114, 111, 122, 101, 110, 95, 105, 109, 112, 111, 114, 116, 108, 105, 98, 46, 77, 111, 100, 117, 108, 101, 83, 112, 101, 99]⟩ 216 (.ref 22), ke P ⟨#[115, 121, 115, 46, 109, 111, 100, 117, 108, 101, 115, 46, 98, 111, 111, 107, 101, 100, 45, 101, 112, 111, 99, 104]⟩ 245 (.int (3) 0), ke P ⟨#[105, 109, 112, 111, 114, 116, 46, 108, 97, 116, 101, 114, 45, 108, 97, 105, 100, 46, 95, 115, 114, 101]⟩ 270 (.bool true), ke P ⟨#[119, 97, 116, 99, 104, 101, 100, 46, 108, 105, 98, 114, 97, 114, 121]⟩ 272 (.ref 27), ke P ⟨#[119, 97, 116, 99, 104, 101, 100, 46, 108, 105, 98, 114, 97, 114, 121, 45, 111, 98, 106, 101, 99, 116, 115]⟩ 0 (.str ⟨#[12]⟩ 0), ke P ⟨#[119, 97, 116, 99, 104, 101, 100, 46, 108, 105, 98, 114, 97, 114, 121, 45, 100, 101, 101, 112, 46, 95, 115, 114, 101]⟩ 273 (.str ⟨#[4, 0, 0, 11, 4, 0, 0, 11, 4, 0, 0, 3, 4, 0, 0, 11, 8, 4, 100, 105, 99, 116, 2]⟩ 0)] 9, #[]⟩
noncomputable def op3 (P : Params) : Obj := ⟨.type "dict", none, .dict #[ke P ⟨#[95, 95, 110, 97, 109, 101, 95, 95]⟩ 165 (.str ⟨#[95, 95, 109, 97, 105, 110, 95, 95]⟩ 164), ke P ⟨#[95, 95, 100, 111, 99, 95, 95]⟩ 166 (.none), ke P ⟨#[95, 95, 112, 97, 99, 107, 97, 103, 101, 95, 95]⟩ 167 (.none), ke P ⟨#[95, 95, 108, 111, 97, 100, 101, 114, 95, 95]⟩ 168 (.builtin "__main__.__loader__#opaque"), ke P ⟨#[95, 95, 115, 112, 101, 99, 95, 95]⟩ 169 (.none), ke P ⟨#[95, 95, 97, 110, 110, 111, 116, 97, 116, 105, 111, 110, 115, 95, 95]⟩ 170 (.ref 6), ke P ⟨#[95, 95, 98, 117, 105, 108, 116, 105, 110, 115, 95, 95]⟩ 171 (.ref 4), ke P ⟨#[95, 95, 102, 105, 108, 101, 95, 95]⟩ 173 (.str ⟨#[47, 99, 108, 97, 105, 109, 47, 99, 117, 116, 46, 112, 121]⟩ 172), ke P ⟨#[95, 95, 99, 97, 99, 104, 101, 100, 95, 95]⟩ 174 (.none), ke P ⟨#[95, 115, 114, 101]⟩ 275 (.ref 12)] 10, #[]⟩
noncomputable def op4 : Obj := ⟨.type "module", (some (0)), .plain, #[]⟩
noncomputable def op5 : Obj := ⟨.type "module", (some (3)), .plain, #[]⟩
noncomputable def op6 : Obj := ⟨.type "dict", none, .dict #[] 0, #[]⟩
noncomputable def op7 : Obj := ⟨.type "tuple", none, .seq #[] 0, #[]⟩
noncomputable def op8 : Obj := ⟨.none, none, .fields #[], #[]⟩
noncomputable def op9 : Obj := ⟨.type "code", none, .fields #[.str ⟨#[60, 109, 111, 100, 117, 108, 101, 62]⟩ 176, .str ⟨#[60, 109, 111, 100, 117, 108, 101, 62]⟩ 177, .str ⟨#[47, 99, 108, 97, 105, 109, 47, 99, 117, 116, 46, 112, 121]⟩ 178, .int (1) 0, .int (0) 0, .int (0) 0, .int (0) 0, .int (0) 0, .ref 7, .bool false, .int (175) 0, .ref 8, .none, .none, .none, .none, .int (179) 0, .int (1) 0, .str ⟨#[47, 99, 108, 97, 105, 109, 47, 99, 117, 116, 46, 112, 121]⟩ 180], #[]⟩
noncomputable def op10 : Obj := ⟨.type "frame", none, .plain, #[(some (.ref 9)), (some (.ref 3)), (some (.ref 3)), none, (some (.str ⟨#[95, 95, 109, 97, 105, 110, 95, 95]⟩ 164)), none, (some (.ref 0))]⟩
noncomputable def op11 (P : Params) : Obj := ⟨.type "dict", none, .dict #[ke P ⟨#[95, 95, 110, 97, 109, 101, 95, 95]⟩ 247 (.str ⟨#[95, 115, 114, 101]⟩ 246), ke P ⟨#[95, 95, 100, 111, 99, 95, 95]⟩ 248 (.none), ke P ⟨#[95, 95, 112, 97, 99, 107, 97, 103, 101, 95, 95]⟩ 250 (.str ⟨#[]⟩ 249), ke P ⟨#[95, 95, 108, 111, 97, 100, 101, 114, 95, 95]⟩ 251 (.builtin "off-the-table:_sre.__loader__:shared#opaque"), ke P ⟨#[95, 95, 115, 112, 101, 99, 95, 95]⟩ 252 (.builtin "off-the-table:_sre.__spec__:shared#opaque"), ke P ⟨#[99, 111, 109, 112, 105, 108, 101]⟩ 253 (.builtin "_sre.compile"), ke P ⟨#[116, 101, 109, 112, 108, 97, 116, 101]⟩ 254 (.builtin "off-the-table:_sre.template:shared#opaque"), ke P ⟨#[103, 101, 116, 99, 111, 100, 101, 115, 105, 122, 101]⟩ 255 (.builtin "off-the-table:_sre.getcodesize:shared#opaque"), ke P ⟨#[97, 115, 99, 105, 105, 95, 105, 115, 99, 97, 115, 101, 100]⟩ 256 (.builtin "off-the-table:_sre.ascii_iscased:shared#opaque"), ke P ⟨#[117, 110, 105, 99, 111, 100, 101, 95, 105, 115, 99, 97, 115, 101, 100]⟩ 257 (.builtin "off-the-table:_sre.unicode_iscased:shared#opaque"), ke P ⟨#[97, 115, 99, 105, 105, 95, 116, 111, 108, 111, 119, 101, 114]⟩ 258 (.builtin "off-the-table:_sre.ascii_tolower:shared#opaque"), ke P ⟨#[117, 110, 105, 99, 111, 100, 101, 95, 116, 111, 108, 111, 119, 101, 114]⟩ 259 (.builtin "off-the-table:_sre.unicode_tolower:shared#opaque"), ke P ⟨#[77, 65, 71, 73, 67]⟩ 261 (.int (20230612) 260), ke P ⟨#[67, 79, 68, 69, 83, 73, 90, 69]⟩ 263 (.int (4) 262), ke P ⟨#[77, 65, 88, 82, 69, 80, 69, 65, 84]⟩ 265 (.int (4294967295) 264), ke P ⟨#[77, 65, 88, 71, 82, 79, 85, 80, 83]⟩ 267 (.int (1073741823) 266), ke P ⟨#[99, 111, 112, 121, 114, 105, 103, 104, 116]⟩ 269 (.str ⟨#[32, 83, 82, 69, 32, 50, 46, 50, 46, 50, 32, 67, 111, 112, 121, 114, 105, 103, 104, 116, 32, 40, 99, 41, 32, 49, 57, 57, 55, 45, 50, 48, 48, 50, 32, 98, 121, 32, 83, 101, 99, 114, 101, 116, 32, 76, 97, 98, 115, 32, 65, 66, 32]⟩ 268)] 17, #[]⟩
noncomputable def op12 : Obj := ⟨.type "module", (some (11)), .plain, #[]⟩
noncomputable def op13 (P : Params) : Obj := ⟨.type "dict", none, .dict #[ke P ⟨#[95, 95, 109, 111, 100, 117, 108, 101, 95, 95]⟩ 189 (.str ⟨#[95, 102, 114, 111, 122, 101, 110, 95, 105, 109, 112, 111, 114, 116, 108, 105, 98]⟩ 186), ke P ⟨#[95, 95, 102, 105, 114, 115, 116, 108, 105, 110, 101, 110, 111, 95, 95]⟩ 190 (.int (971) 187), ke P ⟨#[95, 95, 100, 111, 99, 95, 95]⟩ 191 (.builtin "_frozen_importlib.BuiltinImporter.__doc__:str#opaque"), ke P ⟨#[95, 79, 82, 73, 71, 73, 78]⟩ 192 (.str ⟨#[98, 117, 105, 108, 116, 45, 105, 110]⟩ 188), ke P ⟨#[102, 105, 110, 100, 95, 115, 112, 101, 99]⟩ 193 (.builtin "_frozen_importlib.BuiltinImporter.find_spec#opaque"), ke P ⟨#[99, 114, 101, 97, 116, 101, 95, 109, 111, 100, 117, 108, 101]⟩ 194 (.builtin "_frozen_importlib.BuiltinImporter.create_module#opaque"), ke P ⟨#[101, 120, 101, 99, 95, 109, 111, 100, 117, 108, 101]⟩ 195 (.builtin "_frozen_importlib.BuiltinImporter.exec_module#opaque"), ke P ⟨#[103, 101, 116, 95, 99, 111, 100, 101]⟩ 196 (.builtin "_frozen_importlib.BuiltinImporter.get_code#opaque"), ke P ⟨#[103, 101, 116, 95, 115, 111, 117, 114, 99, 101]⟩ 197 (.builtin "_frozen_importlib.BuiltinImporter.get_source#opaque"), ke P ⟨#[105, 115, 95, 112, 97, 99, 107, 97, 103, 101]⟩ 198 (.builtin "_frozen_importlib.BuiltinImporter.is_package#opaque"), ke P ⟨#[108, 111, 97, 100, 95, 109, 111, 100, 117, 108, 101]⟩ 199 (.builtin "_frozen_importlib.BuiltinImporter.load_module#opaque"), ke P ⟨#[95, 95, 115, 116, 97, 116, 105, 99, 95, 97, 116, 116, 114, 105, 98, 117, 116, 101, 115, 95, 95]⟩ 200 (.ref 15), ke P ⟨#[95, 95, 100, 105, 99, 116, 95, 95]⟩ 202 (.ref 16), ke P ⟨#[95, 95, 119, 101, 97, 107, 114, 101, 102, 95, 95]⟩ 204 (.ref 17)] 14, #[]⟩
noncomputable def op15 : Obj := ⟨.type "tuple", none, .seq #[] 0, #[]⟩
noncomputable def op16 : Obj := ⟨.type "getset_descriptor", none, .fields #[.str ⟨#[95, 95, 100, 105, 99, 116, 95, 95]⟩ 201, .ref 14, .builtin "function.__dict__", .builtin "function.__dict__#set"], #[]⟩
noncomputable def op17 : Obj := ⟨.type "getset_descriptor", none, .fields #[.str ⟨#[95, 95, 119, 101, 97, 107, 114, 101, 102, 95, 95]⟩ 203, .ref 14, .builtin "ExceptionGroup.__weakref__", .none], #[]⟩
noncomputable def op18 : Obj := ⟨.none, none, .seq #[.int (13) 0, .str ⟨#[6, 189, 10, 95, 95, 109, 111, 100, 117, 108, 101, 95, 95, 6, 186, 17, 95, 102, 114, 111, 122, 101, 110, 95, 105, 109, 112, 111, 114, 116, 108, 105, 98, 6, 190, 15, 95, 95, 102, 105, 114, 115, 116, 108, 105, 110, 101, 110, 111, 95, 95, 4, 187, 0, 971, 6, 191, 7, 95, 95, 100, 111, 99, 95, 95, 9, 52, 95, 102, 114, 111, 122, 101, 110, 95, 105, 109, 112, 111, 114, 116, 108, 105, 98, 46, 66, 117, 105, 108, 116, 105, 110, 73, 109, 112, 111, 114, 116, 101, 114, 46, 95, 95, 100, 111, 99, 95, 95, 58, 115, 116, 114, 35, 111, 112, 97, 113, 117, 101, 6, 192, 7, 95, 79, 82, 73, 71, 73, 78, 6, 188, 8, 98, 117, 105, 108, 116, 45, 105, 110, 6, 193, 9, 102, 105, 110, 100, 95, 115, 112, 101, 99, 9, 50, 95, 102, 114, 111, 122, 101, 110, 95, 105, 109, 112, 111, 114, 116, 108, 105, 98, 46, 66, 117, 105, 108, 116, 105, 110, 73, 109, 112, 111, 114, 116, 101, 114, 46, 102, 105, 110, 100, 95, 115, 112, 101, 99, 35, 111, 112, 97, 113, 117, 101, 6, 194, 13, 99, 114, 101, 97, 116, 101, 95, 109, 111, 100, 117, 108, 101, 9, 54, 95, 102, 114, 111, 122, 101, 110, 95, 105, 109, 112, 111, 114, 116, 108, 105, 98, 46, 66, 117, 105, 108, 116, 105, 110, 73, 109, 112, 111, 114, 116, 101, 114, 46, 99, 114, 101, 97, 116, 101, 95, 109, 111, 100, 117, 108, 101, 35, 111, 112, 97, 113, 117, 101, 6, 195, 11, 101, 120, 101, 99, 95, 109, 111, 100, 117, 108, 101, 9, 52, 95, 102, 114, 111, 122, 101, 110, 95, 105, 109, 112, 111, 114, 116, 108, 105, 98, 46, 66, 117, 105, 108, 116, 105, 110, 73, 109, 112, 111, 114, 116, 101, 114, 46, 101, 120, 101, 99, 95, 109, 111, 100, 117, 108, 101, 35, 111, 112, 97, 113, 117, 101, 6, 196, 8, 103, 101, 116, 95, 99, 111, 100, 101, 9, 49, 95, 102, 114, 111, 122, 101, 110, 95, 105, 109, 112, 111, 114, 116, 108, 105, 98, 46, 66, 117, 105, 108, 116, 105, 110, 73, 109, 112, 111, 114, 116, 101, 114, 46, 103, 101, 116, 95, 99, 111, 100, 101, 35, 111, 112, 97, 113, 117, 101, 6, 197, 10, 103, 101, 116, 95, 115, 111, 117, 114, 99, 101, 9, 51, 95, 102, 114, 111, 122, 101, 110, 95, 105, 109, 112, 111, 114, 116, 108, 105, 98, 46, 66, 117, 105, 108, 116, 105, 110, 73, 109, 112, 111, 114, 116, 101, 114, 46, 103, 101, 116, 95, 115, 111, 117, 114, 99, 101, 35, 111, 112, 97, 113, 117, 101, 6, 198, 10, 105, 115, 95, 112, 97, 99, 107, 97, 103, 101, 9, 51, 95, 102, 114, 111, 122, 101, 110, 95, 105, 109, 112, 111, 114, 116, 108, 105, 98, 46, 66, 117, 105, 108, 116, 105, 110, 73, 109, 112, 111, 114, 116, 101, 114, 46, 105, 115, 95, 112, 97, 99, 107, 97, 103, 101, 35, 111, 112, 97, 113, 117, 101, 6, 199, 11, 108, 111, 97, 100, 95, 109, 111, 100, 117, 108, 101, 9, 52, 95, 102, 114, 111, 122, 101, 110, 95, 105, 109, 112, 111, 114, 116, 108, 105, 98, 46, 66, 117, 105, 108, 116, 105, 110, 73, 109, 112, 111, 114, 116, 101, 114, 46, 108, 111, 97, 100, 95, 109, 111, 100, 117, 108, 101, 35, 111, 112, 97, 113, 117, 101, 6, 200, 21, 95, 95, 115, 116, 97, 116, 105, 99, 95, 97, 116, 116, 114, 105, 98, 117, 116, 101, 115, 95, 95, 4, 0, 0, 15, 6, 202, 8, 95, 95, 100, 105, 99, 116, 95, 95, 4, 0, 0, 16, 6, 204, 11, 95, 95, 119, 101, 97, 107, 114, 101, 102, 95, 95, 4, 0, 0, 17]⟩ 0, .bool true, .bool true, .str ⟨#[]⟩ 205, .int (21) 0, .str ⟨#[6, 227, 10, 95, 95, 109, 111, 100, 117, 108, 101, 95, 95, 6, 217, 17, 95, 102, 114, 111, 122, 101, 110, 95, 105, 109, 112, 111, 114, 116, 108, 105, 98, 6, 228, 15, 95, 95, 102, 105, 114, 115, 116, 108, 105, 110, 101, 110, 111, 95, 95, 4, 218, 0, 562, 6, 229, 7, 95, 95, 100, 111, 99, 95, 95, 9, 47, 95, 102, 114, 111, 122, 101, 110, 95, 105, 109, 112, 111, 114, 116, 108, 105, 98, 46, 77, 111, 100, 117, 108, 101, 83, 112, 101, 99, 46, 95, 95, 100, 111, 99, 95, 95, 58, 115, 116, 114, 35, 111, 112, 97, 113, 117, 101, 6, 230, 8, 95, 95, 105, 110, 105, 116, 95, 95, 9, 44, 95, 102, 114, 111, 122, 101, 110, 95, 105, 109, 112, 111, 114, 116, 108, 105, 98, 46, 77, 111, 100, 117, 108, 101, 83, 112, 101, 99, 46, 95, 95, 105, 110, 105, 116, 95, 95, 35, 111, 112, 97, 113, 117, 101, 6, 231, 8, 95, 95, 114, 101, 112, 114, 95, 95, 9, 44, 95, 102, 114, 111, 122, 101, 110, 95, 105, 109, 112, 111, 114, 116, 108, 105, 98, 46, 77, 111, 100, 117, 108, 101, 83, 112, 101, 99, 46, 95, 95, 114, 101, 112, 114, 95, 95, 35, 111, 112, 97, 113, 117, 101, 6, 232, 6, 95, 95, 101, 113, 95, 95, 9, 42, 95, 102, 114, 111, 122, 101, 110, 95, 105, 109, 112, 111, 114, 116, 108, 105, 98, 46, 77, 111, 100, 117, 108, 101, 83, 112, 101, 99, 46, 95, 95, 101, 113, 95, 95, 35, 111, 112, 97, 113, 117, 101, 6, 233, 6, 99, 97, 99, 104, 101, 100, 9, 42, 95, 102, 114, 111, 122, 101, 110, 95, 105, 109, 112, 111, 114, 116, 108, 105, 98, 46, 77, 111, 100, 117, 108, 101, 83, 112, 101, 99, 46, 99, 97, 99, 104, 101, 100, 35, 111, 112, 97, 113, 117, 101, 6, 234, 6, 112, 97, 114, 101, 110, 116, 9, 42, 95, 102, 114, 111, 122, 101, 110, 95, 105, 109, 112, 111, 114, 116, 108, 105, 98, 46, 77, 111, 100, 117, 108, 101, 83, 112, 101, 99, 46, 112, 97, 114, 101, 110, 116, 35, 111, 112, 97, 113, 117, 101, 6, 235, 12, 104, 97, 115, 95, 108, 111, 99, 97, 116, 105, 111, 110, 9, 48, 95, 102, 114, 111, 122, 101, 110, 95, 105, 109, 112, 111, 114, 116, 108, 105, 98, 46, 77, 111, 100, 117, 108, 101, 83, 112, 101, 99, 46, 104, 97, 115, 95, 108, 111, 99, 97, 116, 105, 111, 110, 35, 111, 112, 97, 113, 117, 101, 6, 236, 21, 95, 95, 115, 116, 97, 116, 105, 99, 95, 97, 116, 116, 114, 105, 98, 117, 116, 101, 115, 95, 95, 4, 0, 0, 23, 6, 238, 8, 95, 95, 100, 105, 99, 116, 95, 95, 4, 0, 0, 24, 6, 240, 11, 95, 95, 119, 101, 97, 107, 114, 101, 102, 95, 95, 4, 0, 0, 25, 6, 241, 8, 95, 95, 104, 97, 115, 104, 95, 95, 0]⟩ 0, .bool true, .bool true, .str ⟨#[]⟩ 242] 1, #[]⟩
noncomputable def op19 : Obj := ⟨.type "list", none, .seq #[] 0, #[]⟩
noncomputable def op20 (P : Params) : Obj := ⟨.type "dict", none, .dict #[ke P ⟨#[110, 97, 109, 101]⟩ 208 (.str ⟨#[95, 115, 114, 101]⟩ 207), ke P ⟨#[108, 111, 97, 100, 101, 114]⟩ 209 (.ref 14), ke P ⟨#[111, 114, 105, 103, 105, 110]⟩ 210 (.str ⟨#[98, 117, 105, 108, 116, 45, 105, 110]⟩ 184), ke P ⟨#[108, 111, 97, 100, 101, 114, 95, 115, 116, 97, 116, 101]⟩ 211 (.none), ke P ⟨#[115, 117, 98, 109, 111, 100, 117, 108, 101, 95, 115, 101, 97, 114, 99, 104, 95, 108, 111, 99, 97, 116, 105, 111, 110, 115]⟩ 212 (.none), ke P ⟨#[95, 117, 110, 105, 110, 105, 116, 105, 97, 108, 105, 122, 101, 100, 95, 115, 117, 98, 109, 111, 100, 117, 108, 101, 115]⟩ 213 (.ref 19), ke P ⟨#[95, 115, 101, 116, 95, 102, 105, 108, 101, 97, 116, 116, 114]⟩ 214 (.bool false), ke P ⟨#[95, 99, 97, 99, 104, 101, 100]⟩ 215 (.none), ke P ⟨#[95, 105, 110, 105, 116, 105, 97, 108, 105, 122, 105, 110, 103]⟩ 243 (.bool false)] 9, #[]⟩
noncomputable def op21 (P : Params) : Obj := ⟨.type "dict", none, .dict #[ke P ⟨#[95, 95, 109, 111, 100, 117, 108, 101, 95, 95]⟩ 227 (.str ⟨#[95, 102, 114, 111, 122, 101, 110, 95, 105, 109, 112, 111, 114, 116, 108, 105, 98]⟩ 217), ke P ⟨#[95, 95, 102, 105, 114, 115, 116, 108, 105, 110, 101, 110, 111, 95, 95]⟩ 228 (.int (562) 218), ke P ⟨#[95, 95, 100, 111, 99, 95, 95]⟩ 229 (.builtin "_frozen_importlib.ModuleSpec.__doc__:str#opaque"), ke P ⟨#[95, 95, 105, 110, 105, 116, 95, 95]⟩ 230 (.builtin "_frozen_importlib.ModuleSpec.__init__#opaque"), ke P ⟨#[95, 95, 114, 101, 112, 114, 95, 95]⟩ 231 (.builtin "_frozen_importlib.ModuleSpec.__repr__#opaque"), ke P ⟨#[95, 95, 101, 113, 95, 95]⟩ 232 (.builtin "_frozen_importlib.ModuleSpec.__eq__#opaque"), ke P ⟨#[99, 97, 99, 104, 101, 100]⟩ 233 (.builtin "_frozen_importlib.ModuleSpec.cached#opaque"), ke P ⟨#[112, 97, 114, 101, 110, 116]⟩ 234 (.builtin "_frozen_importlib.ModuleSpec.parent#opaque"), ke P ⟨#[104, 97, 115, 95, 108, 111, 99, 97, 116, 105, 111, 110]⟩ 235 (.builtin "_frozen_importlib.ModuleSpec.has_location#opaque"), ke P ⟨#[95, 95, 115, 116, 97, 116, 105, 99, 95, 97, 116, 116, 114, 105, 98, 117, 116, 101, 115, 95, 95]⟩ 236 (.ref 23), ke P ⟨#[95, 95, 100, 105, 99, 116, 95, 95]⟩ 238 (.ref 24), ke P ⟨#[95, 95, 119, 101, 97, 107, 114, 101, 102, 95, 95]⟩ 240 (.ref 25), ke P ⟨#[95, 95, 104, 97, 115, 104, 95, 95]⟩ 241 (.none)] 13, #[]⟩
noncomputable def op23 : Obj := ⟨.type "tuple", none, .seq #[.str ⟨#[95, 99, 97, 99, 104, 101, 100]⟩ 219, .str ⟨#[95, 115, 101, 116, 95, 102, 105, 108, 101, 97, 116, 116, 114]⟩ 220, .str ⟨#[95, 117, 110, 105, 110, 105, 116, 105, 97, 108, 105, 122, 101, 100, 95, 115, 117, 98, 109, 111, 100, 117, 108, 101, 115]⟩ 221, .str ⟨#[108, 111, 97, 100, 101, 114]⟩ 222, .str ⟨#[108, 111, 97, 100, 101, 114, 95, 115, 116, 97, 116, 101]⟩ 223, .str ⟨#[110, 97, 109, 101]⟩ 224, .str ⟨#[111, 114, 105, 103, 105, 110]⟩ 225, .str ⟨#[115, 117, 98, 109, 111, 100, 117, 108, 101, 95, 115, 101, 97, 114, 99, 104, 95, 108, 111, 99, 97, 116, 105, 111, 110, 115]⟩ 226] 0, #[]⟩
noncomputable def op24 : Obj := ⟨.type "getset_descriptor", none, .fields #[.str ⟨#[95, 95, 100, 105, 99, 116, 95, 95]⟩ 237, .ref 22, .builtin "function.__dict__", .builtin "function.__dict__#set"], #[]⟩
noncomputable def op25 : Obj := ⟨.type "getset_descriptor", none, .fields #[.str ⟨#[95, 95, 119, 101, 97, 107, 114, 101, 102, 95, 95]⟩ 239, .ref 22, .builtin "ExceptionGroup.__weakref__", .none], #[]⟩
noncomputable def op26 : Obj := ⟨.ref 22, (some (20)), .plain, #[]⟩
noncomputable def op27 : Obj := ⟨.none, none, .seq #[.int (11) 0, .str ⟨#[6, 247, 8, 95, 95, 110, 97, 109, 101, 95, 95, 6, 246, 4, 95, 115, 114, 101, 6, 248, 7, 95, 95, 100, 111, 99, 95, 95, 0, 6, 250, 11, 95, 95, 112, 97, 99, 107, 97, 103, 101, 95, 95, 6, 249, 0, 6, 251, 10, 95, 95, 108, 111, 97, 100, 101, 114, 95, 95, 4, 0, 0, 14, 6, 252, 8, 95, 95, 115, 112, 101, 99, 95, 95, 4, 0, 0, 26, 6, 253, 7, 99, 111, 109, 112, 105, 108, 101, 9, 12, 95, 115, 114, 101, 46, 99, 111, 109, 112, 105, 108, 101, 6, 254, 8, 116, 101, 109, 112, 108, 97, 116, 101, 9, 13, 95, 115, 114, 101, 46, 116, 101, 109, 112, 108, 97, 116, 101, 6, 255, 11, 103, 101, 116, 99, 111, 100, 101, 115, 105, 122, 101, 9, 16, 95, 115, 114, 101, 46, 103, 101, 116, 99, 111, 100, 101, 115, 105, 122, 101, 6, 256, 13, 97, 115, 99, 105, 105, 95, 105, 115, 99, 97, 115, 101, 100, 9, 18, 95, 115, 114, 101, 46, 97, 115, 99, 105, 105, 95, 105, 115, 99, 97, 115, 101, 100, 6, 257, 15, 117, 110, 105, 99, 111, 100, 101, 95, 105, 115, 99, 97, 115, 101, 100, 9, 20, 95, 115, 114, 101, 46, 117, 110, 105, 99, 111, 100, 101, 95, 105, 115, 99, 97, 115, 101, 100, 6, 258, 13, 97, 115, 99, 105, 105, 95, 116, 111, 108, 111, 119, 101, 114, 9, 18, 95, 115, 114, 101, 46, 97, 115, 99, 105, 105, 95, 116, 111, 108, 111, 119, 101, 114, 6, 259, 15, 117, 110, 105, 99, 111, 100, 101, 95, 116, 111, 108, 111, 119, 101, 114, 9, 20, 95, 115, 114, 101, 46, 117, 110, 105, 99, 111, 100, 101, 95, 116, 111, 108, 111, 119, 101, 114, 6, 261, 5, 77, 65, 71, 73, 67, 4, 260, 0, 20230612, 6, 263, 8, 67, 79, 68, 69, 83, 73, 90, 69, 4, 262, 0, 4, 6, 265, 9, 77, 65, 88, 82, 69, 80, 69, 65, 84, 4, 264, 0, 4294967295, 6, 267, 9, 77, 65, 88, 71, 82, 79, 85, 80, 83, 4, 266, 0, 1073741823, 6, 269, 9, 99, 111, 112, 121, 114, 105, 103, 104, 116, 6, 268, 53, 32, 83, 82, 69, 32, 50, 46, 50, 46, 50, 32, 67, 111, 112, 121, 114, 105, 103, 104, 116, 32, 40, 99, 41, 32, 49, 57, 57, 55, 45, 50, 48, 48, 50, 32, 98, 121, 32, 83, 101, 99, 114, 101, 116, 32, 76, 97, 98, 115, 32, 65, 66, 32]⟩ 0, .bool true, .bool false, .str ⟨#[95, 115, 114, 101]⟩ 271] 0, #[]⟩
noncomputable def opens (w : World) (x : Ext) : List Obj := [(op0 w.params), (op1 w.params), (op2 w.params), (op3 w.params), op4, op5, op6, op7, op8, op9, op10, (op11 w.params), op12, (op13 w.params), x.o14, op15, op16, op17, op18, op19, (op20 w.params), (op21 w.params), x.o22, op23, op24, op25, op26, op27]
noncomputable def ob28 : Obj := ⟨.type "tuple", none, .seq #[] 0, #[]⟩
noncomputable def ob29 : Obj := ⟨.none, none, .fields #[], #[]⟩
noncomputable def ob30 : Obj := ⟨.type "code", none, .fields #[.str ⟨#[60, 109, 111, 100, 117, 108, 101, 62]⟩ 277, .str ⟨#[60, 109, 111, 100, 117, 108, 101, 62]⟩ 278, .str ⟨#[47, 99, 108, 97, 105, 109, 47, 99, 117, 116, 46, 112, 121]⟩ 279, .int (1) 0, .int (0) 0, .int (0) 0, .int (0) 0, .int (0) 0, .ref 28, .bool false, .int (276) 0, .ref 29, .none, .none, .none, .none, .int (280) 0, .int (1) 0, .str ⟨#[47, 99, 108, 97, 105, 109, 47, 99, 117, 116, 46, 112, 121]⟩ 281], #[]⟩
noncomputable def ob31 : Obj := ⟨.type "frame", none, .plain, #[(some (.ref 30)), (some (.ref 3)), (some (.ref 3)), none, (some (.str ⟨#[95, 95, 109, 97, 105, 110, 95, 95]⟩ 164)), none, (some (.ref 0))]⟩
noncomputable def ob3 (P : Params) : Obj := ⟨.type "dict", none, .dict #[ke P ⟨#[95, 95, 110, 97, 109, 101, 95, 95]⟩ 165 (.str ⟨#[95, 95, 109, 97, 105, 110, 95, 95]⟩ 164), ke P ⟨#[95, 95, 100, 111, 99, 95, 95]⟩ 166 (.none), ke P ⟨#[95, 95, 112, 97, 99, 107, 97, 103, 101, 95, 95]⟩ 167 (.none), ke P ⟨#[95, 95, 108, 111, 97, 100, 101, 114, 95, 95]⟩ 168 (.builtin "__main__.__loader__#opaque"), ke P ⟨#[95, 95, 115, 112, 101, 99, 95, 95]⟩ 169 (.none), ke P ⟨#[95, 95, 97, 110, 110, 111, 116, 97, 116, 105, 111, 110, 115, 95, 95]⟩ 170 (.ref 6), ke P ⟨#[95, 95, 98, 117, 105, 108, 116, 105, 110, 115, 95, 95]⟩ 171 (.ref 4), ke P ⟨#[95, 95, 102, 105, 108, 101, 95, 95]⟩ 173 (.str ⟨#[47, 99, 108, 97, 105, 109, 47, 99, 117, 116, 46, 112, 121]⟩ 172), ke P ⟨#[95, 95, 99, 97, 99, 104, 101, 100, 95, 95]⟩ 174 (.none), ke P ⟨#[95, 115, 114, 101]⟩ 275 (.ref 12), ke P ⟨#[67, 82, 76, 70]⟩ 283 (.str ⟨#[13, 10]⟩ 282), ke P ⟨#[78, 76]⟩ 285 (.str ⟨#[10]⟩ 284)] 12, #[]⟩
noncomputable def objs2 (w : World) : List Obj := [ob28, ob29, ob30, ob31]
noncomputable def ob32 : Obj := ⟨.type "range", none, .fields #[.int (0) 287, .int (256) 286, .int (1) 288], #[]⟩
noncomputable def ob33 : Obj := ⟨.type "range_iterator", none, .fields #[.int (0) 0, .int (256) 0, .int (1) 0], #[]⟩
noncomputable def ob34 : Obj := ⟨.type "list", none, .seq #[] 0, #[]⟩
noncomputable def ob35 : Obj := ⟨.type "dict", none, .dict #[] 0, #[]⟩
noncomputable def objs1000 (w : World) : List Obj := [ob28, ob29, ob30, ob31, ob32, ob33, ob34, ob35]
noncomputable def ob33v1 : Obj := ⟨.type "range_iterator", none, .fields #[.int (64) 0, .int (192) 0, .int (1) 0], #[]⟩
noncomputable def ob34v1 : Obj := ⟨.type "list", none, .seq #[.str ⟨#[61, 48, 48]⟩ 292, .str ⟨#[61, 48, 49]⟩ 296, .str ⟨#[61, 48, 50]⟩ 300, .str ⟨#[61, 48, 51]⟩ 304, .str ⟨#[61, 48, 52]⟩ 308, .str ⟨#[61, 48, 53]⟩ 312, .str ⟨#[61, 48, 54]⟩ 316, .str ⟨#[61, 48, 55]⟩ 320, .str ⟨#[61, 48, 56]⟩ 324, .str ⟨#[61, 48, 57]⟩ 328, .str ⟨#[61, 48, 65]⟩ 332, .str ⟨#[61, 48, 66]⟩ 336, .str ⟨#[61, 48, 67]⟩ 340, .str ⟨#[61, 48, 68]⟩ 344, .str ⟨#[61, 48, 69]⟩ 348, .str ⟨#[61, 48, 70]⟩ 352, .str ⟨#[61, 49, 48]⟩ 356, .str ⟨#[61, 49, 49]⟩ 360, .str ⟨#[61, 49, 50]⟩ 364, .str ⟨#[61, 49, 51]⟩ 368, .str ⟨#[61, 49, 52]⟩ 372, .str ⟨#[61, 49, 53]⟩ 376, .str ⟨#[61, 49, 54]⟩ 380, .str ⟨#[61, 49, 55]⟩ 384, .str ⟨#[61, 49, 56]⟩ 388, .str ⟨#[61, 49, 57]⟩ 392, .str ⟨#[61, 49, 65]⟩ 396, .str ⟨#[61, 49, 66]⟩ 400, .str ⟨#[61, 49, 67]⟩ 404, .str ⟨#[61, 49, 68]⟩ 408, .str ⟨#[61, 49, 69]⟩ 412, .str ⟨#[61, 49, 70]⟩ 416, .str ⟨#[61, 50, 48]⟩ 420, .str ⟨#[61, 50, 49]⟩ 424, .str ⟨#[61, 50, 50]⟩ 428, .str ⟨#[61, 50, 51]⟩ 432, .str ⟨#[61, 50, 52]⟩ 436, .str ⟨#[61, 50, 53]⟩ 440, .str ⟨#[61, 50, 54]⟩ 444, .str ⟨#[61, 50, 55]⟩ 448, .str ⟨#[61, 50, 56]⟩ 452, .str ⟨#[61, 50, 57]⟩ 456, .str ⟨#[61, 50, 65]⟩ 460, .str ⟨#[61, 50, 66]⟩ 464, .str ⟨#[61, 50, 67]⟩ 468, .str ⟨#[61, 50, 68]⟩ 472, .str ⟨#[61, 50, 69]⟩ 476, .str ⟨#[61, 50, 70]⟩ 480, .str ⟨#[61, 51, 48]⟩ 484, .str ⟨#[61, 51, 49]⟩ 488, .str ⟨#[61, 51, 50]⟩ 492, .str ⟨#[61, 51, 51]⟩ 496, .str ⟨#[61, 51, 52]⟩ 500, .str ⟨#[61, 51, 53]⟩ 504, .str ⟨#[61, 51, 54]⟩ 508, .str ⟨#[61, 51, 55]⟩ 512, .str ⟨#[61, 51, 56]⟩ 516, .str ⟨#[61, 51, 57]⟩ 520, .str ⟨#[61, 51, 65]⟩ 524, .str ⟨#[61, 51, 66]⟩ 528, .str ⟨#[61, 51, 67]⟩ 532, .str ⟨#[61, 51, 68]⟩ 536, .str ⟨#[61, 51, 69]⟩ 540, .str ⟨#[61, 51, 70]⟩ 544] 64, #[]⟩
noncomputable def ob35v1 (P : Params) : Obj := ⟨.type "dict", none, .dict #[ke P ⟨#[99]⟩ 290 (.int (63) 541)] 1, #[]⟩
noncomputable def objs1064 (w : World) : List Obj := [ob28, ob29, ob30, ob31, ob32, ob33v1, ob34v1, ob35v1 w.params]
noncomputable def ob33v2 : Obj := ⟨.type "range_iterator", none, .fields #[.int (128) 0, .int (128) 0, .int (1) 0], #[]⟩
noncomputable def ob34v2 : Obj := ⟨.type "list", none, .seq #[.str ⟨#[61, 48, 48]⟩ 292, .str ⟨#[61, 48, 49]⟩ 296, .str ⟨#[61, 48, 50]⟩ 300, .str ⟨#[61, 48, 51]⟩ 304, .str ⟨#[61, 48, 52]⟩ 308, .str ⟨#[61, 48, 53]⟩ 312, .str ⟨#[61, 48, 54]⟩ 316, .str ⟨#[61, 48, 55]⟩ 320, .str ⟨#[61, 48, 56]⟩ 324, .str ⟨#[61, 48, 57]⟩ 328, .str ⟨#[61, 48, 65]⟩ 332, .str ⟨#[61, 48, 66]⟩ 336, .str ⟨#[61, 48, 67]⟩ 340, .str ⟨#[61, 48, 68]⟩ 344, .str ⟨#[61, 48, 69]⟩ 348, .str ⟨#[61, 48, 70]⟩ 352, .str ⟨#[61, 49, 48]⟩ 356, .str ⟨#[61, 49, 49]⟩ 360, .str ⟨#[61, 49, 50]⟩ 364, .str ⟨#[61, 49, 51]⟩ 368, .str ⟨#[61, 49, 52]⟩ 372, .str ⟨#[61, 49, 53]⟩ 376, .str ⟨#[61, 49, 54]⟩ 380, .str ⟨#[61, 49, 55]⟩ 384, .str ⟨#[61, 49, 56]⟩ 388, .str ⟨#[61, 49, 57]⟩ 392, .str ⟨#[61, 49, 65]⟩ 396, .str ⟨#[61, 49, 66]⟩ 400, .str ⟨#[61, 49, 67]⟩ 404, .str ⟨#[61, 49, 68]⟩ 408, .str ⟨#[61, 49, 69]⟩ 412, .str ⟨#[61, 49, 70]⟩ 416, .str ⟨#[61, 50, 48]⟩ 420, .str ⟨#[61, 50, 49]⟩ 424, .str ⟨#[61, 50, 50]⟩ 428, .str ⟨#[61, 50, 51]⟩ 432, .str ⟨#[61, 50, 52]⟩ 436, .str ⟨#[61, 50, 53]⟩ 440, .str ⟨#[61, 50, 54]⟩ 444, .str ⟨#[61, 50, 55]⟩ 448, .str ⟨#[61, 50, 56]⟩ 452, .str ⟨#[61, 50, 57]⟩ 456, .str ⟨#[61, 50, 65]⟩ 460, .str ⟨#[61, 50, 66]⟩ 464, .str ⟨#[61, 50, 67]⟩ 468, .str ⟨#[61, 50, 68]⟩ 472, .str ⟨#[61, 50, 69]⟩ 476, .str ⟨#[61, 50, 70]⟩ 480, .str ⟨#[61, 51, 48]⟩ 484, .str ⟨#[61, 51, 49]⟩ 488, .str ⟨#[61, 51, 50]⟩ 492, .str ⟨#[61, 51, 51]⟩ 496, .str ⟨#[61, 51, 52]⟩ 500, .str ⟨#[61, 51, 53]⟩ 504, .str ⟨#[61, 51, 54]⟩ 508, .str ⟨#[61, 51, 55]⟩ 512, .str ⟨#[61, 51, 56]⟩ 516, .str ⟨#[61, 51, 57]⟩ 520, .str ⟨#[61, 51, 65]⟩ 524, .str ⟨#[61, 51, 66]⟩ 528, .str ⟨#[61, 51, 67]⟩ 532, .str ⟨#[61, 51, 68]⟩ 536, .str ⟨#[61, 51, 69]⟩ 540, .str ⟨#[61, 51, 70]⟩ 544, .str ⟨#[61, 52, 48]⟩ 548, .str ⟨#[61, 52, 49]⟩ 552, .str ⟨#[61, 52, 50]⟩ 556, .str ⟨#[61, 52, 51]⟩ 560, .str ⟨#[61, 52, 52]⟩ 564, .str ⟨#[61, 52, 53]⟩ 568, .str ⟨#[61, 52, 54]⟩ 572, .str ⟨#[61, 52, 55]⟩ 576, .str ⟨#[61, 52, 56]⟩ 580, .str ⟨#[61, 52, 57]⟩ 584, .str ⟨#[61, 52, 65]⟩ 588, .str ⟨#[61, 52, 66]⟩ 592, .str ⟨#[61, 52, 67]⟩ 596, .str ⟨#[61, 52, 68]⟩ 600, .str ⟨#[61, 52, 69]⟩ 604, .str ⟨#[61, 52, 70]⟩ 608, .str ⟨#[61, 53, 48]⟩ 612, .str ⟨#[61, 53, 49]⟩ 616, .str ⟨#[61, 53, 50]⟩ 620, .str ⟨#[61, 53, 51]⟩ 624, .str ⟨#[61, 53, 52]⟩ 628, .str ⟨#[61, 53, 53]⟩ 632, .str ⟨#[61, 53, 54]⟩ 636, .str ⟨#[61, 53, 55]⟩ 640, .str ⟨#[61, 53, 56]⟩ 644, .str ⟨#[61, 53, 57]⟩ 648, .str ⟨#[61, 53, 65]⟩ 652, .str ⟨#[61, 53, 66]⟩ 656, .str ⟨#[61, 53, 67]⟩ 660, .str ⟨#[61, 53, 68]⟩ 664, .str ⟨#[61, 53, 69]⟩ 668, .str ⟨#[61, 53, 70]⟩ 672, .str ⟨#[61, 54, 48]⟩ 676, .str ⟨#[61, 54, 49]⟩ 680, .str ⟨#[61, 54, 50]⟩ 684, .str ⟨#[61, 54, 51]⟩ 688, .str ⟨#[61, 54, 52]⟩ 692, .str ⟨#[61, 54, 53]⟩ 696, .str ⟨#[61, 54, 54]⟩ 700, .str ⟨#[61, 54, 55]⟩ 704, .str ⟨#[61, 54, 56]⟩ 708, .str ⟨#[61, 54, 57]⟩ 712, .str ⟨#[61, 54, 65]⟩ 716, .str ⟨#[61, 54, 66]⟩ 720, .str ⟨#[61, 54, 67]⟩ 724, .str ⟨#[61, 54, 68]⟩ 728, .str ⟨#[61, 54, 69]⟩ 732, .str ⟨#[61, 54, 70]⟩ 736, .str ⟨#[61, 55, 48]⟩ 740, .str ⟨#[61, 55, 49]⟩ 744, .str ⟨#[61, 55, 50]⟩ 748, .str ⟨#[61, 55, 51]⟩ 752, .str ⟨#[61, 55, 52]⟩ 756, .str ⟨#[61, 55, 53]⟩ 760, .str ⟨#[61, 55, 54]⟩ 764, .str ⟨#[61, 55, 55]⟩ 768, .str ⟨#[61, 55, 56]⟩ 772, .str ⟨#[61, 55, 57]⟩ 776, .str ⟨#[61, 55, 65]⟩ 780, .str ⟨#[61, 55, 66]⟩ 784, .str ⟨#[61, 55, 67]⟩ 788, .str ⟨#[61, 55, 68]⟩ 792, .str ⟨#[61, 55, 69]⟩ 796, .str ⟨#[61, 55, 70]⟩ 800] 128, #[]⟩
noncomputable def ob35v2 (P : Params) : Obj := ⟨.type "dict", none, .dict #[ke P ⟨#[99]⟩ 290 (.int (127) 797)] 1, #[]⟩
noncomputable def objs1128 (w : World) : List Obj := [ob28, ob29, ob30, ob31, ob32, ob33v2, ob34v2, ob35v2 w.params]
noncomputable def ob33v3 : Obj := ⟨.type "range_iterator", none, .fields #[.int (192) 0, .int (64) 0, .int (1) 0], #[]⟩
noncomputable def ob34v3 : Obj := ⟨.type "list", none, .seq #[.str ⟨#[61, 48, 48]⟩ 292, .str ⟨#[61, 48, 49]⟩ 296, .str ⟨#[61, 48, 50]⟩ 300, .str ⟨#[61, 48, 51]⟩ 304, .str ⟨#[61, 48, 52]⟩ 308, .str ⟨#[61, 48, 53]⟩ 312, .str ⟨#[61, 48, 54]⟩ 316, .str ⟨#[61, 48, 55]⟩ 320, .str ⟨#[61, 48, 56]⟩ 324, .str ⟨#[61, 48, 57]⟩ 328, .str ⟨#[61, 48, 65]⟩ 332, .str ⟨#[61, 48, 66]⟩ 336, .str ⟨#[61, 48, 67]⟩ 340, .str ⟨#[61, 48, 68]⟩ 344, .str ⟨#[61, 48, 69]⟩ 348, .str ⟨#[61, 48, 70]⟩ 352, .str ⟨#[61, 49, 48]⟩ 356, .str ⟨#[61, 49, 49]⟩ 360, .str ⟨#[61, 49, 50]⟩ 364, .str ⟨#[61, 49, 51]⟩ 368, .str ⟨#[61, 49, 52]⟩ 372, .str ⟨#[61, 49, 53]⟩ 376, .str ⟨#[61, 49, 54]⟩ 380, .str ⟨#[61, 49, 55]⟩ 384, .str ⟨#[61, 49, 56]⟩ 388, .str ⟨#[61, 49, 57]⟩ 392, .str ⟨#[61, 49, 65]⟩ 396, .str ⟨#[61, 49, 66]⟩ 400, .str ⟨#[61, 49, 67]⟩ 404, .str ⟨#[61, 49, 68]⟩ 408, .str ⟨#[61, 49, 69]⟩ 412, .str ⟨#[61, 49, 70]⟩ 416, .str ⟨#[61, 50, 48]⟩ 420, .str ⟨#[61, 50, 49]⟩ 424, .str ⟨#[61, 50, 50]⟩ 428, .str ⟨#[61, 50, 51]⟩ 432, .str ⟨#[61, 50, 52]⟩ 436, .str ⟨#[61, 50, 53]⟩ 440, .str ⟨#[61, 50, 54]⟩ 444, .str ⟨#[61, 50, 55]⟩ 448, .str ⟨#[61, 50, 56]⟩ 452, .str ⟨#[61, 50, 57]⟩ 456, .str ⟨#[61, 50, 65]⟩ 460, .str ⟨#[61, 50, 66]⟩ 464, .str ⟨#[61, 50, 67]⟩ 468, .str ⟨#[61, 50, 68]⟩ 472, .str ⟨#[61, 50, 69]⟩ 476, .str ⟨#[61, 50, 70]⟩ 480, .str ⟨#[61, 51, 48]⟩ 484, .str ⟨#[61, 51, 49]⟩ 488, .str ⟨#[61, 51, 50]⟩ 492, .str ⟨#[61, 51, 51]⟩ 496, .str ⟨#[61, 51, 52]⟩ 500, .str ⟨#[61, 51, 53]⟩ 504, .str ⟨#[61, 51, 54]⟩ 508, .str ⟨#[61, 51, 55]⟩ 512, .str ⟨#[61, 51, 56]⟩ 516, .str ⟨#[61, 51, 57]⟩ 520, .str ⟨#[61, 51, 65]⟩ 524, .str ⟨#[61, 51, 66]⟩ 528, .str ⟨#[61, 51, 67]⟩ 532, .str ⟨#[61, 51, 68]⟩ 536, .str ⟨#[61, 51, 69]⟩ 540, .str ⟨#[61, 51, 70]⟩ 544, .str ⟨#[61, 52, 48]⟩ 548, .str ⟨#[61, 52, 49]⟩ 552, .str ⟨#[61, 52, 50]⟩ 556, .str ⟨#[61, 52, 51]⟩ 560, .str ⟨#[61, 52, 52]⟩ 564, .str ⟨#[61, 52, 53]⟩ 568, .str ⟨#[61, 52, 54]⟩ 572, .str ⟨#[61, 52, 55]⟩ 576, .str ⟨#[61, 52, 56]⟩ 580, .str ⟨#[61, 52, 57]⟩ 584, .str ⟨#[61, 52, 65]⟩ 588, .str ⟨#[61, 52, 66]⟩ 592, .str ⟨#[61, 52, 67]⟩ 596, .str ⟨#[61, 52, 68]⟩ 600, .str ⟨#[61, 52, 69]⟩ 604, .str ⟨#[61, 52, 70]⟩ 608, .str ⟨#[61, 53, 48]⟩ 612, .str ⟨#[61, 53, 49]⟩ 616, .str ⟨#[61, 53, 50]⟩ 620, .str ⟨#[61, 53, 51]⟩ 624, .str ⟨#[61, 53, 52]⟩ 628, .str ⟨#[61, 53, 53]⟩ 632, .str ⟨#[61, 53, 54]⟩ 636, .str ⟨#[61, 53, 55]⟩ 640, .str ⟨#[61, 53, 56]⟩ 644, .str ⟨#[61, 53, 57]⟩ 648, .str ⟨#[61, 53, 65]⟩ 652, .str ⟨#[61, 53, 66]⟩ 656, .str ⟨#[61, 53, 67]⟩ 660, .str ⟨#[61, 53, 68]⟩ 664, .str ⟨#[61, 53, 69]⟩ 668, .str ⟨#[61, 53, 70]⟩ 672, .str ⟨#[61, 54, 48]⟩ 676, .str ⟨#[61, 54, 49]⟩ 680, .str ⟨#[61, 54, 50]⟩ 684, .str ⟨#[61, 54, 51]⟩ 688, .str ⟨#[61, 54, 52]⟩ 692, .str ⟨#[61, 54, 53]⟩ 696, .str ⟨#[61, 54, 54]⟩ 700, .str ⟨#[61, 54, 55]⟩ 704, .str ⟨#[61, 54, 56]⟩ 708, .str ⟨#[61, 54, 57]⟩ 712, .str ⟨#[61, 54, 65]⟩ 716, .str ⟨#[61, 54, 66]⟩ 720, .str ⟨#[61, 54, 67]⟩ 724, .str ⟨#[61, 54, 68]⟩ 728, .str ⟨#[61, 54, 69]⟩ 732, .str ⟨#[61, 54, 70]⟩ 736, .str ⟨#[61, 55, 48]⟩ 740, .str ⟨#[61, 55, 49]⟩ 744, .str ⟨#[61, 55, 50]⟩ 748, .str ⟨#[61, 55, 51]⟩ 752, .str ⟨#[61, 55, 52]⟩ 756, .str ⟨#[61, 55, 53]⟩ 760, .str ⟨#[61, 55, 54]⟩ 764, .str ⟨#[61, 55, 55]⟩ 768, .str ⟨#[61, 55, 56]⟩ 772, .str ⟨#[61, 55, 57]⟩ 776, .str ⟨#[61, 55, 65]⟩ 780, .str ⟨#[61, 55, 66]⟩ 784, .str ⟨#[61, 55, 67]⟩ 788, .str ⟨#[61, 55, 68]⟩ 792, .str ⟨#[61, 55, 69]⟩ 796, .str ⟨#[61, 55, 70]⟩ 800, .str ⟨#[61, 56, 48]⟩ 804, .str ⟨#[61, 56, 49]⟩ 808, .str ⟨#[61, 56, 50]⟩ 812, .str ⟨#[61, 56, 51]⟩ 816, .str ⟨#[61, 56, 52]⟩ 820, .str ⟨#[61, 56, 53]⟩ 824, .str ⟨#[61, 56, 54]⟩ 828, .str ⟨#[61, 56, 55]⟩ 832, .str ⟨#[61, 56, 56]⟩ 836, .str ⟨#[61, 56, 57]⟩ 840, .str ⟨#[61, 56, 65]⟩ 844, .str ⟨#[61, 56, 66]⟩ 848, .str ⟨#[61, 56, 67]⟩ 852, .str ⟨#[61, 56, 68]⟩ 856, .str ⟨#[61, 56, 69]⟩ 860, .str ⟨#[61, 56, 70]⟩ 864, .str ⟨#[61, 57, 48]⟩ 868, .str ⟨#[61, 57, 49]⟩ 872, .str ⟨#[61, 57, 50]⟩ 876, .str ⟨#[61, 57, 51]⟩ 880, .str ⟨#[61, 57, 52]⟩ 884, .str ⟨#[61, 57, 53]⟩ 888, .str ⟨#[61, 57, 54]⟩ 892, .str ⟨#[61, 57, 55]⟩ 896, .str ⟨#[61, 57, 56]⟩ 900, .str ⟨#[61, 57, 57]⟩ 904, .str ⟨#[61, 57, 65]⟩ 908, .str ⟨#[61, 57, 66]⟩ 912, .str ⟨#[61, 57, 67]⟩ 916, .str ⟨#[61, 57, 68]⟩ 920, .str ⟨#[61, 57, 69]⟩ 924, .str ⟨#[61, 57, 70]⟩ 928, .str ⟨#[61, 65, 48]⟩ 932, .str ⟨#[61, 65, 49]⟩ 936, .str ⟨#[61, 65, 50]⟩ 940, .str ⟨#[61, 65, 51]⟩ 944, .str ⟨#[61, 65, 52]⟩ 948, .str ⟨#[61, 65, 53]⟩ 952, .str ⟨#[61, 65, 54]⟩ 956, .str ⟨#[61, 65, 55]⟩ 960, .str ⟨#[61, 65, 56]⟩ 964, .str ⟨#[61, 65, 57]⟩ 968, .str ⟨#[61, 65, 65]⟩ 972, .str ⟨#[61, 65, 66]⟩ 976, .str ⟨#[61, 65, 67]⟩ 980, .str ⟨#[61, 65, 68]⟩ 984, .str ⟨#[61, 65, 69]⟩ 988, .str ⟨#[61, 65, 70]⟩ 992, .str ⟨#[61, 66, 48]⟩ 996, .str ⟨#[61, 66, 49]⟩ 1000, .str ⟨#[61, 66, 50]⟩ 1004, .str ⟨#[61, 66, 51]⟩ 1008, .str ⟨#[61, 66, 52]⟩ 1012, .str ⟨#[61, 66, 53]⟩ 1016, .str ⟨#[61, 66, 54]⟩ 1020, .str ⟨#[61, 66, 55]⟩ 1024, .str ⟨#[61, 66, 56]⟩ 1028, .str ⟨#[61, 66, 57]⟩ 1032, .str ⟨#[61, 66, 65]⟩ 1036, .str ⟨#[61, 66, 66]⟩ 1040, .str ⟨#[61, 66, 67]⟩ 1044, .str ⟨#[61, 66, 68]⟩ 1048, .str ⟨#[61, 66, 69]⟩ 1052, .str ⟨#[61, 66, 70]⟩ 1056] 192, #[]⟩
noncomputable def ob35v3 (P : Params) : Obj := ⟨.type "dict", none, .dict #[ke P ⟨#[99]⟩ 290 (.int (191) 1053)] 1, #[]⟩
noncomputable def objs1192 (w : World) : List Obj := [ob28, ob29, ob30, ob31, ob32, ob33v3, ob34v3, ob35v3 w.params]
noncomputable def ob33v4 : Obj := ⟨.type "range_iterator", none, .fields #[.int (256) 0, .int (0) 0, .int (1) 0], #[]⟩
noncomputable def ob34v4 : Obj := ⟨.type "list", none, .seq #[.str ⟨#[61, 48, 48]⟩ 292, .str ⟨#[61, 48, 49]⟩ 296, .str ⟨#[61, 48, 50]⟩ 300, .str ⟨#[61, 48, 51]⟩ 304, .str ⟨#[61, 48, 52]⟩ 308, .str ⟨#[61, 48, 53]⟩ 312, .str ⟨#[61, 48, 54]⟩ 316, .str ⟨#[61, 48, 55]⟩ 320, .str ⟨#[61, 48, 56]⟩ 324, .str ⟨#[61, 48, 57]⟩ 328, .str ⟨#[61, 48, 65]⟩ 332, .str ⟨#[61, 48, 66]⟩ 336, .str ⟨#[61, 48, 67]⟩ 340, .str ⟨#[61, 48, 68]⟩ 344, .str ⟨#[61, 48, 69]⟩ 348, .str ⟨#[61, 48, 70]⟩ 352, .str ⟨#[61, 49, 48]⟩ 356, .str ⟨#[61, 49, 49]⟩ 360, .str ⟨#[61, 49, 50]⟩ 364, .str ⟨#[61, 49, 51]⟩ 368, .str ⟨#[61, 49, 52]⟩ 372, .str ⟨#[61, 49, 53]⟩ 376, .str ⟨#[61, 49, 54]⟩ 380, .str ⟨#[61, 49, 55]⟩ 384, .str ⟨#[61, 49, 56]⟩ 388, .str ⟨#[61, 49, 57]⟩ 392, .str ⟨#[61, 49, 65]⟩ 396, .str ⟨#[61, 49, 66]⟩ 400, .str ⟨#[61, 49, 67]⟩ 404, .str ⟨#[61, 49, 68]⟩ 408, .str ⟨#[61, 49, 69]⟩ 412, .str ⟨#[61, 49, 70]⟩ 416, .str ⟨#[61, 50, 48]⟩ 420, .str ⟨#[61, 50, 49]⟩ 424, .str ⟨#[61, 50, 50]⟩ 428, .str ⟨#[61, 50, 51]⟩ 432, .str ⟨#[61, 50, 52]⟩ 436, .str ⟨#[61, 50, 53]⟩ 440, .str ⟨#[61, 50, 54]⟩ 444, .str ⟨#[61, 50, 55]⟩ 448, .str ⟨#[61, 50, 56]⟩ 452, .str ⟨#[61, 50, 57]⟩ 456, .str ⟨#[61, 50, 65]⟩ 460, .str ⟨#[61, 50, 66]⟩ 464, .str ⟨#[61, 50, 67]⟩ 468, .str ⟨#[61, 50, 68]⟩ 472, .str ⟨#[61, 50, 69]⟩ 476, .str ⟨#[61, 50, 70]⟩ 480, .str ⟨#[61, 51, 48]⟩ 484, .str ⟨#[61, 51, 49]⟩ 488, .str ⟨#[61, 51, 50]⟩ 492, .str ⟨#[61, 51, 51]⟩ 496, .str ⟨#[61, 51, 52]⟩ 500, .str ⟨#[61, 51, 53]⟩ 504, .str ⟨#[61, 51, 54]⟩ 508, .str ⟨#[61, 51, 55]⟩ 512, .str ⟨#[61, 51, 56]⟩ 516, .str ⟨#[61, 51, 57]⟩ 520, .str ⟨#[61, 51, 65]⟩ 524, .str ⟨#[61, 51, 66]⟩ 528, .str ⟨#[61, 51, 67]⟩ 532, .str ⟨#[61, 51, 68]⟩ 536, .str ⟨#[61, 51, 69]⟩ 540, .str ⟨#[61, 51, 70]⟩ 544, .str ⟨#[61, 52, 48]⟩ 548, .str ⟨#[61, 52, 49]⟩ 552, .str ⟨#[61, 52, 50]⟩ 556, .str ⟨#[61, 52, 51]⟩ 560, .str ⟨#[61, 52, 52]⟩ 564, .str ⟨#[61, 52, 53]⟩ 568, .str ⟨#[61, 52, 54]⟩ 572, .str ⟨#[61, 52, 55]⟩ 576, .str ⟨#[61, 52, 56]⟩ 580, .str ⟨#[61, 52, 57]⟩ 584, .str ⟨#[61, 52, 65]⟩ 588, .str ⟨#[61, 52, 66]⟩ 592, .str ⟨#[61, 52, 67]⟩ 596, .str ⟨#[61, 52, 68]⟩ 600, .str ⟨#[61, 52, 69]⟩ 604, .str ⟨#[61, 52, 70]⟩ 608, .str ⟨#[61, 53, 48]⟩ 612, .str ⟨#[61, 53, 49]⟩ 616, .str ⟨#[61, 53, 50]⟩ 620, .str ⟨#[61, 53, 51]⟩ 624, .str ⟨#[61, 53, 52]⟩ 628, .str ⟨#[61, 53, 53]⟩ 632, .str ⟨#[61, 53, 54]⟩ 636, .str ⟨#[61, 53, 55]⟩ 640, .str ⟨#[61, 53, 56]⟩ 644, .str ⟨#[61, 53, 57]⟩ 648, .str ⟨#[61, 53, 65]⟩ 652, .str ⟨#[61, 53, 66]⟩ 656, .str ⟨#[61, 53, 67]⟩ 660, .str ⟨#[61, 53, 68]⟩ 664, .str ⟨#[61, 53, 69]⟩ 668, .str ⟨#[61, 53, 70]⟩ 672, .str ⟨#[61, 54, 48]⟩ 676, .str ⟨#[61, 54, 49]⟩ 680, .str ⟨#[61, 54, 50]⟩ 684, .str ⟨#[61, 54, 51]⟩ 688, .str ⟨#[61, 54, 52]⟩ 692, .str ⟨#[61, 54, 53]⟩ 696, .str ⟨#[61, 54, 54]⟩ 700, .str ⟨#[61, 54, 55]⟩ 704, .str ⟨#[61, 54, 56]⟩ 708, .str ⟨#[61, 54, 57]⟩ 712, .str ⟨#[61, 54, 65]⟩ 716, .str ⟨#[61, 54, 66]⟩ 720, .str ⟨#[61, 54, 67]⟩ 724, .str ⟨#[61, 54, 68]⟩ 728, .str ⟨#[61, 54, 69]⟩ 732, .str ⟨#[61, 54, 70]⟩ 736, .str ⟨#[61, 55, 48]⟩ 740, .str ⟨#[61, 55, 49]⟩ 744, .str ⟨#[61, 55, 50]⟩ 748, .str ⟨#[61, 55, 51]⟩ 752, .str ⟨#[61, 55, 52]⟩ 756, .str ⟨#[61, 55, 53]⟩ 760, .str ⟨#[61, 55, 54]⟩ 764, .str ⟨#[61, 55, 55]⟩ 768, .str ⟨#[61, 55, 56]⟩ 772, .str ⟨#[61, 55, 57]⟩ 776, .str ⟨#[61, 55, 65]⟩ 780, .str ⟨#[61, 55, 66]⟩ 784, .str ⟨#[61, 55, 67]⟩ 788, .str ⟨#[61, 55, 68]⟩ 792, .str ⟨#[61, 55, 69]⟩ 796, .str ⟨#[61, 55, 70]⟩ 800, .str ⟨#[61, 56, 48]⟩ 804, .str ⟨#[61, 56, 49]⟩ 808, .str ⟨#[61, 56, 50]⟩ 812, .str ⟨#[61, 56, 51]⟩ 816, .str ⟨#[61, 56, 52]⟩ 820, .str ⟨#[61, 56, 53]⟩ 824, .str ⟨#[61, 56, 54]⟩ 828, .str ⟨#[61, 56, 55]⟩ 832, .str ⟨#[61, 56, 56]⟩ 836, .str ⟨#[61, 56, 57]⟩ 840, .str ⟨#[61, 56, 65]⟩ 844, .str ⟨#[61, 56, 66]⟩ 848, .str ⟨#[61, 56, 67]⟩ 852, .str ⟨#[61, 56, 68]⟩ 856, .str ⟨#[61, 56, 69]⟩ 860, .str ⟨#[61, 56, 70]⟩ 864, .str ⟨#[61, 57, 48]⟩ 868, .str ⟨#[61, 57, 49]⟩ 872, .str ⟨#[61, 57, 50]⟩ 876, .str ⟨#[61, 57, 51]⟩ 880, .str ⟨#[61, 57, 52]⟩ 884, .str ⟨#[61, 57, 53]⟩ 888, .str ⟨#[61, 57, 54]⟩ 892, .str ⟨#[61, 57, 55]⟩ 896, .str ⟨#[61, 57, 56]⟩ 900, .str ⟨#[61, 57, 57]⟩ 904, .str ⟨#[61, 57, 65]⟩ 908, .str ⟨#[61, 57, 66]⟩ 912, .str ⟨#[61, 57, 67]⟩ 916, .str ⟨#[61, 57, 68]⟩ 920, .str ⟨#[61, 57, 69]⟩ 924, .str ⟨#[61, 57, 70]⟩ 928, .str ⟨#[61, 65, 48]⟩ 932, .str ⟨#[61, 65, 49]⟩ 936, .str ⟨#[61, 65, 50]⟩ 940, .str ⟨#[61, 65, 51]⟩ 944, .str ⟨#[61, 65, 52]⟩ 948, .str ⟨#[61, 65, 53]⟩ 952, .str ⟨#[61, 65, 54]⟩ 956, .str ⟨#[61, 65, 55]⟩ 960, .str ⟨#[61, 65, 56]⟩ 964, .str ⟨#[61, 65, 57]⟩ 968, .str ⟨#[61, 65, 65]⟩ 972, .str ⟨#[61, 65, 66]⟩ 976, .str ⟨#[61, 65, 67]⟩ 980, .str ⟨#[61, 65, 68]⟩ 984, .str ⟨#[61, 65, 69]⟩ 988, .str ⟨#[61, 65, 70]⟩ 992, .str ⟨#[61, 66, 48]⟩ 996, .str ⟨#[61, 66, 49]⟩ 1000, .str ⟨#[61, 66, 50]⟩ 1004, .str ⟨#[61, 66, 51]⟩ 1008, .str ⟨#[61, 66, 52]⟩ 1012, .str ⟨#[61, 66, 53]⟩ 1016, .str ⟨#[61, 66, 54]⟩ 1020, .str ⟨#[61, 66, 55]⟩ 1024, .str ⟨#[61, 66, 56]⟩ 1028, .str ⟨#[61, 66, 57]⟩ 1032, .str ⟨#[61, 66, 65]⟩ 1036, .str ⟨#[61, 66, 66]⟩ 1040, .str ⟨#[61, 66, 67]⟩ 1044, .str ⟨#[61, 66, 68]⟩ 1048, .str ⟨#[61, 66, 69]⟩ 1052, .str ⟨#[61, 66, 70]⟩ 1056, .str ⟨#[61, 67, 48]⟩ 1060, .str ⟨#[61, 67, 49]⟩ 1064, .str ⟨#[61, 67, 50]⟩ 1068, .str ⟨#[61, 67, 51]⟩ 1072, .str ⟨#[61, 67, 52]⟩ 1076, .str ⟨#[61, 67, 53]⟩ 1080, .str ⟨#[61, 67, 54]⟩ 1084, .str ⟨#[61, 67, 55]⟩ 1088, .str ⟨#[61, 67, 56]⟩ 1092, .str ⟨#[61, 67, 57]⟩ 1096, .str ⟨#[61, 67, 65]⟩ 1100, .str ⟨#[61, 67, 66]⟩ 1104, .str ⟨#[61, 67, 67]⟩ 1108, .str ⟨#[61, 67, 68]⟩ 1112, .str ⟨#[61, 67, 69]⟩ 1116, .str ⟨#[61, 67, 70]⟩ 1120, .str ⟨#[61, 68, 48]⟩ 1124, .str ⟨#[61, 68, 49]⟩ 1128, .str ⟨#[61, 68, 50]⟩ 1132, .str ⟨#[61, 68, 51]⟩ 1136, .str ⟨#[61, 68, 52]⟩ 1140, .str ⟨#[61, 68, 53]⟩ 1144, .str ⟨#[61, 68, 54]⟩ 1148, .str ⟨#[61, 68, 55]⟩ 1152, .str ⟨#[61, 68, 56]⟩ 1156, .str ⟨#[61, 68, 57]⟩ 1160, .str ⟨#[61, 68, 65]⟩ 1164, .str ⟨#[61, 68, 66]⟩ 1168, .str ⟨#[61, 68, 67]⟩ 1172, .str ⟨#[61, 68, 68]⟩ 1176, .str ⟨#[61, 68, 69]⟩ 1180, .str ⟨#[61, 68, 70]⟩ 1184, .str ⟨#[61, 69, 48]⟩ 1188, .str ⟨#[61, 69, 49]⟩ 1192, .str ⟨#[61, 69, 50]⟩ 1196, .str ⟨#[61, 69, 51]⟩ 1200, .str ⟨#[61, 69, 52]⟩ 1204, .str ⟨#[61, 69, 53]⟩ 1208, .str ⟨#[61, 69, 54]⟩ 1212, .str ⟨#[61, 69, 55]⟩ 1216, .str ⟨#[61, 69, 56]⟩ 1220, .str ⟨#[61, 69, 57]⟩ 1224, .str ⟨#[61, 69, 65]⟩ 1228, .str ⟨#[61, 69, 66]⟩ 1232, .str ⟨#[61, 69, 67]⟩ 1236, .str ⟨#[61, 69, 68]⟩ 1240, .str ⟨#[61, 69, 69]⟩ 1244, .str ⟨#[61, 69, 70]⟩ 1248, .str ⟨#[61, 70, 48]⟩ 1252, .str ⟨#[61, 70, 49]⟩ 1256, .str ⟨#[61, 70, 50]⟩ 1260, .str ⟨#[61, 70, 51]⟩ 1264, .str ⟨#[61, 70, 52]⟩ 1268, .str ⟨#[61, 70, 53]⟩ 1272, .str ⟨#[61, 70, 54]⟩ 1276, .str ⟨#[61, 70, 55]⟩ 1280, .str ⟨#[61, 70, 56]⟩ 1284, .str ⟨#[61, 70, 57]⟩ 1288, .str ⟨#[61, 70, 65]⟩ 1292, .str ⟨#[61, 70, 66]⟩ 1296, .str ⟨#[61, 70, 67]⟩ 1300, .str ⟨#[61, 70, 68]⟩ 1304, .str ⟨#[61, 70, 69]⟩ 1308, .str ⟨#[61, 70, 70]⟩ 1312] 256, #[]⟩
noncomputable def ob35v4 : Obj := ⟨.type "dict", none, .dict #[] 2, #[]⟩
noncomputable def ob36 : Obj := ⟨.type "tuple", none, .seq #[] 0, #[]⟩
noncomputable def ob37 : Obj := ⟨.type "StopIteration", none, .fields #[.ref 36, .none, .none, .none, .bool false, .none], #[]⟩
noncomputable def ob3v1 (P : Params) : Obj := ⟨.type "dict", none, .dict #[ke P ⟨#[95, 95, 110, 97, 109, 101, 95, 95]⟩ 165 (.str ⟨#[95, 95, 109, 97, 105, 110, 95, 95]⟩ 164), ke P ⟨#[95, 95, 100, 111, 99, 95, 95]⟩ 166 (.none), ke P ⟨#[95, 95, 112, 97, 99, 107, 97, 103, 101, 95, 95]⟩ 167 (.none), ke P ⟨#[95, 95, 108, 111, 97, 100, 101, 114, 95, 95]⟩ 168 (.builtin "__main__.__loader__#opaque"), ke P ⟨#[95, 95, 115, 112, 101, 99, 95, 95]⟩ 169 (.none), ke P ⟨#[95, 95, 97, 110, 110, 111, 116, 97, 116, 105, 111, 110, 115, 95, 95]⟩ 170 (.ref 6), ke P ⟨#[95, 95, 98, 117, 105, 108, 116, 105, 110, 115, 95, 95]⟩ 171 (.ref 4), ke P ⟨#[95, 95, 102, 105, 108, 101, 95, 95]⟩ 173 (.str ⟨#[47, 99, 108, 97, 105, 109, 47, 99, 117, 116, 46, 112, 121]⟩ 172), ke P ⟨#[95, 95, 99, 97, 99, 104, 101, 100, 95, 95]⟩ 174 (.none), ke P ⟨#[95, 115, 114, 101]⟩ 275 (.ref 12), ke P ⟨#[67, 82, 76, 70]⟩ 283 (.str ⟨#[13, 10]⟩ 282), ke P ⟨#[78, 76]⟩ 285 (.str ⟨#[10]⟩ 284), ke P ⟨#[95, 81, 85, 79, 80, 82, 73, 95, 77, 65, 80]⟩ 1313 (.ref 34)] 13, #[]⟩
noncomputable def objs3 (w : World) : List Obj := [ob28, ob29, ob30, ob31, ob32, ob33v4, ob34v4, ob35v4, ob36, ob37]
noncomputable def ob38 : Obj := ⟨.type "slice", none, .fields #[.none, .none, .none], #[]⟩
noncomputable def ob39 : Obj := ⟨.type "list", none, .seq #[.str ⟨#[61, 48, 48]⟩ 292, .str ⟨#[61, 48, 49]⟩ 296, .str ⟨#[61, 48, 50]⟩ 300, .str ⟨#[61, 48, 51]⟩ 304, .str ⟨#[61, 48, 52]⟩ 308, .str ⟨#[61, 48, 53]⟩ 312, .str ⟨#[61, 48, 54]⟩ 316, .str ⟨#[61, 48, 55]⟩ 320, .str ⟨#[61, 48, 56]⟩ 324, .str ⟨#[61, 48, 57]⟩ 328, .str ⟨#[61, 48, 65]⟩ 332, .str ⟨#[61, 48, 66]⟩ 336, .str ⟨#[61, 48, 67]⟩ 340, .str ⟨#[61, 48, 68]⟩ 344, .str ⟨#[61, 48, 69]⟩ 348, .str ⟨#[61, 48, 70]⟩ 352, .str ⟨#[61, 49, 48]⟩ 356, .str ⟨#[61, 49, 49]⟩ 360, .str ⟨#[61, 49, 50]⟩ 364, .str ⟨#[61, 49, 51]⟩ 368, .str ⟨#[61, 49, 52]⟩ 372, .str ⟨#[61, 49, 53]⟩ 376, .str ⟨#[61, 49, 54]⟩ 380, .str ⟨#[61, 49, 55]⟩ 384, .str ⟨#[61, 49, 56]⟩ 388, .str ⟨#[61, 49, 57]⟩ 392, .str ⟨#[61, 49, 65]⟩ 396, .str ⟨#[61, 49, 66]⟩ 400, .str ⟨#[61, 49, 67]⟩ 404, .str ⟨#[61, 49, 68]⟩ 408, .str ⟨#[61, 49, 69]⟩ 412, .str ⟨#[61, 49, 70]⟩ 416, .str ⟨#[95]⟩ 1539, .str ⟨#[33]⟩ 1343, .str ⟨#[61, 50, 50]⟩ 428, .str ⟨#[61, 50, 51]⟩ 432, .str ⟨#[61, 50, 52]⟩ 436, .str ⟨#[61, 50, 53]⟩ 440, .str ⟨#[61, 50, 54]⟩ 444, .str ⟨#[61, 50, 55]⟩ 448, .str ⟨#[61, 50, 56]⟩ 452, .str ⟨#[61, 50, 57]⟩ 456, .str ⟨#[42]⟩ 1346, .str ⟨#[43]⟩ 1349, .str ⟨#[61, 50, 67]⟩ 468, .str ⟨#[45]⟩ 1340, .str ⟨#[61, 50, 69]⟩ 476, .str ⟨#[47]⟩ 1352, .str ⟨#[48]⟩ 1511, .str ⟨#[49]⟩ 1514, .str ⟨#[50]⟩ 1517, .str ⟨#[51]⟩ 1520, .str ⟨#[52]⟩ 1523, .str ⟨#[53]⟩ 1526, .str ⟨#[54]⟩ 1529, .str ⟨#[55]⟩ 1532, .str ⟨#[56]⟩ 1535, .str ⟨#[57]⟩ 1538, .str ⟨#[61, 51, 65]⟩ 524, .str ⟨#[61, 51, 66]⟩ 528, .str ⟨#[61, 51, 67]⟩ 532, .str ⟨#[61, 51, 68]⟩ 536, .str ⟨#[61, 51, 69]⟩ 540, .str ⟨#[61, 51, 70]⟩ 544, .str ⟨#[61, 52, 48]⟩ 548, .str ⟨#[65]⟩ 1433, .str ⟨#[66]⟩ 1436, .str ⟨#[67]⟩ 1439, .str ⟨#[68]⟩ 1442, .str ⟨#[69]⟩ 1445, .str ⟨#[70]⟩ 1448, .str ⟨#[71]⟩ 1451, .str ⟨#[72]⟩ 1454, .str ⟨#[73]⟩ 1457, .str ⟨#[74]⟩ 1460, .str ⟨#[75]⟩ 1463, .str ⟨#[76]⟩ 1466, .str ⟨#[77]⟩ 1469, .str ⟨#[78]⟩ 1472, .str ⟨#[79]⟩ 1475, .str ⟨#[80]⟩ 1478, .str ⟨#[81]⟩ 1481, .str ⟨#[82]⟩ 1484, .str ⟨#[83]⟩ 1487, .str ⟨#[84]⟩ 1490, .str ⟨#[85]⟩ 1493, .str ⟨#[86]⟩ 1496, .str ⟨#[87]⟩ 1499, .str ⟨#[88]⟩ 1502, .str ⟨#[89]⟩ 1505, .str ⟨#[90]⟩ 1508, .str ⟨#[61, 53, 66]⟩ 656, .str ⟨#[61, 53, 67]⟩ 660, .str ⟨#[61, 53, 68]⟩ 664, .str ⟨#[61, 53, 69]⟩ 668, .str ⟨#[61, 53, 70]⟩ 672, .str ⟨#[61, 54, 48]⟩ 676, .str ⟨#[97]⟩ 1355, .str ⟨#[98]⟩ 1358, .str ⟨#[99]⟩ 1361, .str ⟨#[100]⟩ 1364, .str ⟨#[101]⟩ 1367, .str ⟨#[102]⟩ 1370, .str ⟨#[103]⟩ 1373, .str ⟨#[104]⟩ 1376, .str ⟨#[105]⟩ 1379, .str ⟨#[106]⟩ 1382, .str ⟨#[107]⟩ 1385, .str ⟨#[108]⟩ 1388, .str ⟨#[109]⟩ 1391, .str ⟨#[110]⟩ 1394, .str ⟨#[111]⟩ 1397, .str ⟨#[112]⟩ 1400, .str ⟨#[113]⟩ 1403, .str ⟨#[114]⟩ 1406, .str ⟨#[115]⟩ 1409, .str ⟨#[116]⟩ 1412, .str ⟨#[117]⟩ 1415, .str ⟨#[118]⟩ 1418, .str ⟨#[119]⟩ 1421, .str ⟨#[120]⟩ 1424, .str ⟨#[121]⟩ 1427, .str ⟨#[122]⟩ 1430, .str ⟨#[61, 55, 66]⟩ 784, .str ⟨#[61, 55, 67]⟩ 788, .str ⟨#[61, 55, 68]⟩ 792, .str ⟨#[61, 55, 69]⟩ 796, .str ⟨#[61, 55, 70]⟩ 800, .str ⟨#[61, 56, 48]⟩ 804, .str ⟨#[61, 56, 49]⟩ 808, .str ⟨#[61, 56, 50]⟩ 812, .str ⟨#[61, 56, 51]⟩ 816, .str ⟨#[61, 56, 52]⟩ 820, .str ⟨#[61, 56, 53]⟩ 824, .str ⟨#[61, 56, 54]⟩ 828, .str ⟨#[61, 56, 55]⟩ 832, .str ⟨#[61, 56, 56]⟩ 836, .str ⟨#[61, 56, 57]⟩ 840, .str ⟨#[61, 56, 65]⟩ 844, .str ⟨#[61, 56, 66]⟩ 848, .str ⟨#[61, 56, 67]⟩ 852, .str ⟨#[61, 56, 68]⟩ 856, .str ⟨#[61, 56, 69]⟩ 860, .str ⟨#[61, 56, 70]⟩ 864, .str ⟨#[61, 57, 48]⟩ 868, .str ⟨#[61, 57, 49]⟩ 872, .str ⟨#[61, 57, 50]⟩ 876, .str ⟨#[61, 57, 51]⟩ 880, .str ⟨#[61, 57, 52]⟩ 884, .str ⟨#[61, 57, 53]⟩ 888, .str ⟨#[61, 57, 54]⟩ 892, .str ⟨#[61, 57, 55]⟩ 896, .str ⟨#[61, 57, 56]⟩ 900, .str ⟨#[61, 57, 57]⟩ 904, .str ⟨#[61, 57, 65]⟩ 908, .str ⟨#[61, 57, 66]⟩ 912, .str ⟨#[61, 57, 67]⟩ 916, .str ⟨#[61, 57, 68]⟩ 920, .str ⟨#[61, 57, 69]⟩ 924, .str ⟨#[61, 57, 70]⟩ 928, .str ⟨#[61, 65, 48]⟩ 932, .str ⟨#[61, 65, 49]⟩ 936, .str ⟨#[61, 65, 50]⟩ 940, .str ⟨#[61, 65, 51]⟩ 944, .str ⟨#[61, 65, 52]⟩ 948, .str ⟨#[61, 65, 53]⟩ 952, .str ⟨#[61, 65, 54]⟩ 956, .str ⟨#[61, 65, 55]⟩ 960, .str ⟨#[61, 65, 56]⟩ 964, .str ⟨#[61, 65, 57]⟩ 968, .str ⟨#[61, 65, 65]⟩ 972, .str ⟨#[61, 65, 66]⟩ 976, .str ⟨#[61, 65, 67]⟩ 980, .str ⟨#[61, 65, 68]⟩ 984, .str ⟨#[61, 65, 69]⟩ 988, .str ⟨#[61, 65, 70]⟩ 992, .str ⟨#[61, 66, 48]⟩ 996, .str ⟨#[61, 66, 49]⟩ 1000, .str ⟨#[61, 66, 50]⟩ 1004, .str ⟨#[61, 66, 51]⟩ 1008, .str ⟨#[61, 66, 52]⟩ 1012, .str ⟨#[61, 66, 53]⟩ 1016, .str ⟨#[61, 66, 54]⟩ 1020, .str ⟨#[61, 66, 55]⟩ 1024, .str ⟨#[61, 66, 56]⟩ 1028, .str ⟨#[61, 66, 57]⟩ 1032, .str ⟨#[61, 66, 65]⟩ 1036, .str ⟨#[61, 66, 66]⟩ 1040, .str ⟨#[61, 66, 67]⟩ 1044, .str ⟨#[61, 66, 68]⟩ 1048, .str ⟨#[61, 66, 69]⟩ 1052, .str ⟨#[61, 66, 70]⟩ 1056, .str ⟨#[61, 67, 48]⟩ 1060, .str ⟨#[61, 67, 49]⟩ 1064, .str ⟨#[61, 67, 50]⟩ 1068, .str ⟨#[61, 67, 51]⟩ 1072, .str ⟨#[61, 67, 52]⟩ 1076, .str ⟨#[61, 67, 53]⟩ 1080, .str ⟨#[61, 67, 54]⟩ 1084, .str ⟨#[61, 67, 55]⟩ 1088, .str ⟨#[61, 67, 56]⟩ 1092, .str ⟨#[61, 67, 57]⟩ 1096, .str ⟨#[61, 67, 65]⟩ 1100, .str ⟨#[61, 67, 66]⟩ 1104, .str ⟨#[61, 67, 67]⟩ 1108, .str ⟨#[61, 67, 68]⟩ 1112, .str ⟨#[61, 67, 69]⟩ 1116, .str ⟨#[61, 67, 70]⟩ 1120, .str ⟨#[61, 68, 48]⟩ 1124, .str ⟨#[61, 68, 49]⟩ 1128, .str ⟨#[61, 68, 50]⟩ 1132, .str ⟨#[61, 68, 51]⟩ 1136, .str ⟨#[61, 68, 52]⟩ 1140, .str ⟨#[61, 68, 53]⟩ 1144, .str ⟨#[61, 68, 54]⟩ 1148, .str ⟨#[61, 68, 55]⟩ 1152, .str ⟨#[61, 68, 56]⟩ 1156, .str ⟨#[61, 68, 57]⟩ 1160, .str ⟨#[61, 68, 65]⟩ 1164, .str ⟨#[61, 68, 66]⟩ 1168, .str ⟨#[61, 68, 67]⟩ 1172, .str ⟨#[61, 68, 68]⟩ 1176, .str ⟨#[61, 68, 69]⟩ 1180, .str ⟨#[61, 68, 70]⟩ 1184, .str ⟨#[61, 69, 48]⟩ 1188, .str ⟨#[61, 69, 49]⟩ 1192, .str ⟨#[61, 69, 50]⟩ 1196, .str ⟨#[61, 69, 51]⟩ 1200, .str ⟨#[61, 69, 52]⟩ 1204, .str ⟨#[61, 69, 53]⟩ 1208, .str ⟨#[61, 69, 54]⟩ 1212, .str ⟨#[61, 69, 55]⟩ 1216, .str ⟨#[61, 69, 56]⟩ 1220, .str ⟨#[61, 69, 57]⟩ 1224, .str ⟨#[61, 69, 65]⟩ 1228, .str ⟨#[61, 69, 66]⟩ 1232, .str ⟨#[61, 69, 67]⟩ 1236, .str ⟨#[61, 69, 68]⟩ 1240, .str ⟨#[61, 69, 69]⟩ 1244, .str ⟨#[61, 69, 70]⟩ 1248, .str ⟨#[61, 70, 48]⟩ 1252, .str ⟨#[61, 70, 49]⟩ 1256, .str ⟨#[61, 70, 50]⟩ 1260, .str ⟨#[61, 70, 51]⟩ 1264, .str ⟨#[61, 70, 52]⟩ 1268, .str ⟨#[61, 70, 53]⟩ 1272, .str ⟨#[61, 70, 54]⟩ 1276, .str ⟨#[61, 70, 55]⟩ 1280, .str ⟨#[61, 70, 56]⟩ 1284, .str ⟨#[61, 70, 57]⟩ 1288, .str ⟨#[61, 70, 65]⟩ 1292, .str ⟨#[61, 70, 66]⟩ 1296, .str ⟨#[61, 70, 67]⟩ 1300, .str ⟨#[61, 70, 68]⟩ 1304, .str ⟨#[61, 70, 69]⟩ 1308, .str ⟨#[61, 70, 70]⟩ 1312] 0, #[]⟩
noncomputable def ob40 : Obj := ⟨.type "slice", none, .fields #[.none, .none, .none], #[]⟩
noncomputable def ob41 : Obj := ⟨.type "list", none, .seq #[.str ⟨#[61, 48, 48]⟩ 292, .str ⟨#[61, 48, 49]⟩ 296, .str ⟨#[61, 48, 50]⟩ 300, .str ⟨#[61, 48, 51]⟩ 304, .str ⟨#[61, 48, 52]⟩ 308, .str ⟨#[61, 48, 53]⟩ 312, .str ⟨#[61, 48, 54]⟩ 316, .str ⟨#[61, 48, 55]⟩ 320, .str ⟨#[61, 48, 56]⟩ 324, .str ⟨#[61, 48, 57]⟩ 328, .str ⟨#[61, 48, 65]⟩ 332, .str ⟨#[61, 48, 66]⟩ 336, .str ⟨#[61, 48, 67]⟩ 340, .str ⟨#[61, 48, 68]⟩ 344, .str ⟨#[61, 48, 69]⟩ 348, .str ⟨#[61, 48, 70]⟩ 352, .str ⟨#[61, 49, 48]⟩ 356, .str ⟨#[61, 49, 49]⟩ 360, .str ⟨#[61, 49, 50]⟩ 364, .str ⟨#[61, 49, 51]⟩ 368, .str ⟨#[61, 49, 52]⟩ 372, .str ⟨#[61, 49, 53]⟩ 376, .str ⟨#[61, 49, 54]⟩ 380, .str ⟨#[61, 49, 55]⟩ 384, .str ⟨#[61, 49, 56]⟩ 388, .str ⟨#[61, 49, 57]⟩ 392, .str ⟨#[61, 49, 65]⟩ 396, .str ⟨#[61, 49, 66]⟩ 400, .str ⟨#[61, 49, 67]⟩ 404, .str ⟨#[61, 49, 68]⟩ 408, .str ⟨#[61, 49, 69]⟩ 412, .str ⟨#[61, 49, 70]⟩ 416, .str ⟨#[61, 50, 48]⟩ 420, .str ⟨#[61, 50, 49]⟩ 424, .str ⟨#[61, 50, 50]⟩ 428, .str ⟨#[61, 50, 51]⟩ 432, .str ⟨#[61, 50, 52]⟩ 436, .str ⟨#[61, 50, 53]⟩ 440, .str ⟨#[61, 50, 54]⟩ 444, .str ⟨#[61, 50, 55]⟩ 448, .str ⟨#[61, 50, 56]⟩ 452, .str ⟨#[61, 50, 57]⟩ 456, .str ⟨#[61, 50, 65]⟩ 460, .str ⟨#[61, 50, 66]⟩ 464, .str ⟨#[61, 50, 67]⟩ 468, .str ⟨#[61, 50, 68]⟩ 472, .str ⟨#[61, 50, 69]⟩ 476, .str ⟨#[61, 50, 70]⟩ 480, .str ⟨#[61, 51, 48]⟩ 484, .str ⟨#[61, 51, 49]⟩ 488, .str ⟨#[61, 51, 50]⟩ 492, .str ⟨#[61, 51, 51]⟩ 496, .str ⟨#[61, 51, 52]⟩ 500, .str ⟨#[61, 51, 53]⟩ 504, .str ⟨#[61, 51, 54]⟩ 508, .str ⟨#[61, 51, 55]⟩ 512, .str ⟨#[61, 51, 56]⟩ 516, .str ⟨#[61, 51, 57]⟩ 520, .str ⟨#[61, 51, 65]⟩ 524, .str ⟨#[61, 51, 66]⟩ 528, .str ⟨#[61, 51, 67]⟩ 532, .str ⟨#[61, 51, 68]⟩ 536, .str ⟨#[61, 51, 69]⟩ 540, .str ⟨#[61, 51, 70]⟩ 544, .str ⟨#[61, 52, 48]⟩ 548, .str ⟨#[61, 52, 49]⟩ 552, .str ⟨#[61, 52, 50]⟩ 556, .str ⟨#[61, 52, 51]⟩ 560, .str ⟨#[61, 52, 52]⟩ 564, .str ⟨#[61, 52, 53]⟩ 568, .str ⟨#[61, 52, 54]⟩ 572, .str ⟨#[61, 52, 55]⟩ 576, .str ⟨#[61, 52, 56]⟩ 580, .str ⟨#[61, 52, 57]⟩ 584, .str ⟨#[61, 52, 65]⟩ 588, .str ⟨#[61, 52, 66]⟩ 592, .str ⟨#[61, 52, 67]⟩ 596, .str ⟨#[61, 52, 68]⟩ 600, .str ⟨#[61, 52, 69]⟩ 604, .str ⟨#[61, 52, 70]⟩ 608, .str ⟨#[61, 53, 48]⟩ 612, .str ⟨#[61, 53, 49]⟩ 616, .str ⟨#[61, 53, 50]⟩ 620, .str ⟨#[61, 53, 51]⟩ 624, .str ⟨#[61, 53, 52]⟩ 628, .str ⟨#[61, 53, 53]⟩ 632, .str ⟨#[61, 53, 54]⟩ 636, .str ⟨#[61, 53, 55]⟩ 640, .str ⟨#[61, 53, 56]⟩ 644, .str ⟨#[61, 53, 57]⟩ 648, .str ⟨#[61, 53, 65]⟩ 652, .str ⟨#[61, 53, 66]⟩ 656, .str ⟨#[61, 53, 67]⟩ 660, .str ⟨#[61, 53, 68]⟩ 664, .str ⟨#[61, 53, 69]⟩ 668, .str ⟨#[61, 53, 70]⟩ 672, .str ⟨#[61, 54, 48]⟩ 676, .str ⟨#[61, 54, 49]⟩ 680, .str ⟨#[61, 54, 50]⟩ 684, .str ⟨#[61, 54, 51]⟩ 688, .str ⟨#[61, 54, 52]⟩ 692, .str ⟨#[61, 54, 53]⟩ 696, .str ⟨#[61, 54, 54]⟩ 700, .str ⟨#[61, 54, 55]⟩ 704, .str ⟨#[61, 54, 56]⟩ 708, .str ⟨#[61, 54, 57]⟩ 712, .str ⟨#[61, 54, 65]⟩ 716, .str ⟨#[61, 54, 66]⟩ 720, .str ⟨#[61, 54, 67]⟩ 724, .str ⟨#[61, 54, 68]⟩ 728, .str ⟨#[61, 54, 69]⟩ 732, .str ⟨#[61, 54, 70]⟩ 736, .str ⟨#[61, 55, 48]⟩ 740, .str ⟨#[61, 55, 49]⟩ 744, .str ⟨#[61, 55, 50]⟩ 748, .str ⟨#[61, 55, 51]⟩ 752, .str ⟨#[61, 55, 52]⟩ 756, .str ⟨#[61, 55, 53]⟩ 760, .str ⟨#[61, 55, 54]⟩ 764, .str ⟨#[61, 55, 55]⟩ 768, .str ⟨#[61, 55, 56]⟩ 772, .str ⟨#[61, 55, 57]⟩ 776, .str ⟨#[61, 55, 65]⟩ 780, .str ⟨#[61, 55, 66]⟩ 784, .str ⟨#[61, 55, 67]⟩ 788, .str ⟨#[61, 55, 68]⟩ 792, .str ⟨#[61, 55, 69]⟩ 796, .str ⟨#[61, 55, 70]⟩ 800, .str ⟨#[61, 56, 48]⟩ 804, .str ⟨#[61, 56, 49]⟩ 808, .str ⟨#[61, 56, 50]⟩ 812, .str ⟨#[61, 56, 51]⟩ 816, .str ⟨#[61, 56, 52]⟩ 820, .str ⟨#[61, 56, 53]⟩ 824, .str ⟨#[61, 56, 54]⟩ 828, .str ⟨#[61, 56, 55]⟩ 832, .str ⟨#[61, 56, 56]⟩ 836, .str ⟨#[61, 56, 57]⟩ 840, .str ⟨#[61, 56, 65]⟩ 844, .str ⟨#[61, 56, 66]⟩ 848, .str ⟨#[61, 56, 67]⟩ 852, .str ⟨#[61, 56, 68]⟩ 856, .str ⟨#[61, 56, 69]⟩ 860, .str ⟨#[61, 56, 70]⟩ 864, .str ⟨#[61, 57, 48]⟩ 868, .str ⟨#[61, 57, 49]⟩ 872, .str ⟨#[61, 57, 50]⟩ 876, .str ⟨#[61, 57, 51]⟩ 880, .str ⟨#[61, 57, 52]⟩ 884, .str ⟨#[61, 57, 53]⟩ 888, .str ⟨#[61, 57, 54]⟩ 892, .str ⟨#[61, 57, 55]⟩ 896, .str ⟨#[61, 57, 56]⟩ 900, .str ⟨#[61, 57, 57]⟩ 904, .str ⟨#[61, 57, 65]⟩ 908, .str ⟨#[61, 57, 66]⟩ 912, .str ⟨#[61, 57, 67]⟩ 916, .str ⟨#[61, 57, 68]⟩ 920, .str ⟨#[61, 57, 69]⟩ 924, .str ⟨#[61, 57, 70]⟩ 928, .str ⟨#[61, 65, 48]⟩ 932, .str ⟨#[61, 65, 49]⟩ 936, .str ⟨#[61, 65, 50]⟩ 940, .str ⟨#[61, 65, 51]⟩ 944, .str ⟨#[61, 65, 52]⟩ 948, .str ⟨#[61, 65, 53]⟩ 952, .str ⟨#[61, 65, 54]⟩ 956, .str ⟨#[61, 65, 55]⟩ 960, .str ⟨#[61, 65, 56]⟩ 964, .str ⟨#[61, 65, 57]⟩ 968, .str ⟨#[61, 65, 65]⟩ 972, .str ⟨#[61, 65, 66]⟩ 976, .str ⟨#[61, 65, 67]⟩ 980, .str ⟨#[61, 65, 68]⟩ 984, .str ⟨#[61, 65, 69]⟩ 988, .str ⟨#[61, 65, 70]⟩ 992, .str ⟨#[61, 66, 48]⟩ 996, .str ⟨#[61, 66, 49]⟩ 1000, .str ⟨#[61, 66, 50]⟩ 1004, .str ⟨#[61, 66, 51]⟩ 1008, .str ⟨#[61, 66, 52]⟩ 1012, .str ⟨#[61, 66, 53]⟩ 1016, .str ⟨#[61, 66, 54]⟩ 1020, .str ⟨#[61, 66, 55]⟩ 1024, .str ⟨#[61, 66, 56]⟩ 1028, .str ⟨#[61, 66, 57]⟩ 1032, .str ⟨#[61, 66, 65]⟩ 1036, .str ⟨#[61, 66, 66]⟩ 1040, .str ⟨#[61, 66, 67]⟩ 1044, .str ⟨#[61, 66, 68]⟩ 1048, .str ⟨#[61, 66, 69]⟩ 1052, .str ⟨#[61, 66, 70]⟩ 1056, .str ⟨#[61, 67, 48]⟩ 1060, .str ⟨#[61, 67, 49]⟩ 1064, .str ⟨#[61, 67, 50]⟩ 1068, .str ⟨#[61, 67, 51]⟩ 1072, .str ⟨#[61, 67, 52]⟩ 1076, .str ⟨#[61, 67, 53]⟩ 1080, .str ⟨#[61, 67, 54]⟩ 1084, .str ⟨#[61, 67, 55]⟩ 1088, .str ⟨#[61, 67, 56]⟩ 1092, .str ⟨#[61, 67, 57]⟩ 1096, .str ⟨#[61, 67, 65]⟩ 1100, .str ⟨#[61, 67, 66]⟩ 1104, .str ⟨#[61, 67, 67]⟩ 1108, .str ⟨#[61, 67, 68]⟩ 1112, .str ⟨#[61, 67, 69]⟩ 1116, .str ⟨#[61, 67, 70]⟩ 1120, .str ⟨#[61, 68, 48]⟩ 1124, .str ⟨#[61, 68, 49]⟩ 1128, .str ⟨#[61, 68, 50]⟩ 1132, .str ⟨#[61, 68, 51]⟩ 1136, .str ⟨#[61, 68, 52]⟩ 1140, .str ⟨#[61, 68, 53]⟩ 1144, .str ⟨#[61, 68, 54]⟩ 1148, .str ⟨#[61, 68, 55]⟩ 1152, .str ⟨#[61, 68, 56]⟩ 1156, .str ⟨#[61, 68, 57]⟩ 1160, .str ⟨#[61, 68, 65]⟩ 1164, .str ⟨#[61, 68, 66]⟩ 1168, .str ⟨#[61, 68, 67]⟩ 1172, .str ⟨#[61, 68, 68]⟩ 1176, .str ⟨#[61, 68, 69]⟩ 1180, .str ⟨#[61, 68, 70]⟩ 1184, .str ⟨#[61, 69, 48]⟩ 1188, .str ⟨#[61, 69, 49]⟩ 1192, .str ⟨#[61, 69, 50]⟩ 1196, .str ⟨#[61, 69, 51]⟩ 1200, .str ⟨#[61, 69, 52]⟩ 1204, .str ⟨#[61, 69, 53]⟩ 1208, .str ⟨#[61, 69, 54]⟩ 1212, .str ⟨#[61, 69, 55]⟩ 1216, .str ⟨#[61, 69, 56]⟩ 1220, .str ⟨#[61, 69, 57]⟩ 1224, .str ⟨#[61, 69, 65]⟩ 1228, .str ⟨#[61, 69, 66]⟩ 1232, .str ⟨#[61, 69, 67]⟩ 1236, .str ⟨#[61, 69, 68]⟩ 1240, .str ⟨#[61, 69, 69]⟩ 1244, .str ⟨#[61, 69, 70]⟩ 1248, .str ⟨#[61, 70, 48]⟩ 1252, .str ⟨#[61, 70, 49]⟩ 1256, .str ⟨#[61, 70, 50]⟩ 1260, .str ⟨#[61, 70, 51]⟩ 1264, .str ⟨#[61, 70, 52]⟩ 1268, .str ⟨#[61, 70, 53]⟩ 1272, .str ⟨#[61, 70, 54]⟩ 1276, .str ⟨#[61, 70, 55]⟩ 1280, .str ⟨#[61, 70, 56]⟩ 1284, .str ⟨#[61, 70, 57]⟩ 1288, .str ⟨#[61, 70, 65]⟩ 1292, .str ⟨#[61, 70, 66]⟩ 1296, .str ⟨#[61, 70, 67]⟩ 1300, .str ⟨#[61, 70, 68]⟩ 1304, .str ⟨#[61, 70, 69]⟩ 1308, .str ⟨#[61, 70, 70]⟩ 1312] 0, #[]⟩
noncomputable def ob42 : Obj := ⟨.type "bytes_iterator", none, .fields #[.none, .int (67) 0], #[]⟩
noncomputable def ob43 : Obj := ⟨.type "tuple", none, .seq #[] 0, #[]⟩
noncomputable def ob44 : Obj := ⟨.type "StopIteration", none, .fields #[.ref 43, .none, .none, .none, .bool false, .none], #[]⟩
noncomputable def ob3v2 (P : Params) : Obj := ⟨.type "dict", none, .dict #[ke P ⟨#[95, 95, 110, 97, 109, 101, 95, 95]⟩ 165 (.str ⟨#[99, 112, 121, 51, 49, 51, 46, 101, 109, 97, 105, 108, 46, 113, 117, 111, 112, 114, 105, 109, 105, 109, 101]⟩ 1329), ke P ⟨#[95, 95, 100, 111, 99, 95, 95]⟩ 166 (.none), ke P ⟨#[95, 95, 112, 97, 99, 107, 97, 103, 101, 95, 95]⟩ 167 (.none), ke P ⟨#[95, 95, 108, 111, 97, 100, 101, 114, 95, 95]⟩ 168 (.builtin "__main__.__loader__#opaque"), ke P ⟨#[95, 95, 115, 112, 101, 99, 95, 95]⟩ 169 (.none), ke P ⟨#[95, 95, 97, 110, 110, 111, 116, 97, 116, 105, 111, 110, 115, 95, 95]⟩ 170 (.ref 6), ke P ⟨#[95, 95, 98, 117, 105, 108, 116, 105, 110, 115, 95, 95]⟩ 171 (.ref 4), ke P ⟨#[95, 95, 102, 105, 108, 101, 95, 95]⟩ 173 (.str ⟨#[47, 99, 108, 97, 105, 109, 47, 99, 117, 116, 46, 112, 121]⟩ 172), ke P ⟨#[95, 95, 99, 97, 99, 104, 101, 100, 95, 95]⟩ 174 (.none), ke P ⟨#[95, 115, 114, 101]⟩ 275 (.ref 12), ke P ⟨#[67, 82, 76, 70]⟩ 283 (.str ⟨#[13, 10]⟩ 282), ke P ⟨#[78, 76]⟩ 285 (.str ⟨#[10]⟩ 284), ke P ⟨#[95, 81, 85, 79, 80, 82, 73, 95, 77, 65, 80]⟩ 1313 (.ref 34), ke P ⟨#[95, 81, 85, 79, 80, 82, 73, 95, 72, 69, 65, 68, 69, 82, 95, 77, 65, 80]⟩ 1314 (.ref 39), ke P ⟨#[95, 81, 85, 79, 80, 82, 73, 95, 66, 79, 68, 89, 95, 77, 65, 80]⟩ 1315 (.ref 41), ke P ⟨#[97, 115, 99, 105, 105, 95, 108, 111, 119, 101, 114, 99, 97, 115, 101]⟩ 1317 (.str ⟨#[97, 98, 99, 100, 101, 102, 103, 104, 105, 106, 107, 108, 109, 110, 111, 112, 113, 114, 115, 116, 117, 118, 119, 120, 121, 122]⟩ 1316), ke P ⟨#[97, 115, 99, 105, 105, 95, 117, 112, 112, 101, 114, 99, 97, 115, 101]⟩ 1319 (.str ⟨#[65, 66, 67, 68, 69, 70, 71, 72, 73, 74, 75, 76, 77, 78, 79, 80, 81, 82, 83, 84, 85, 86, 87, 88, 89, 90]⟩ 1318), ke P ⟨#[97, 115, 99, 105, 105, 95, 108, 101, 116, 116, 101, 114, 115]⟩ 1321 (.str ⟨#[97, 98, 99, 100, 101, 102, 103, 104, 105, 106, 107, 108, 109, 110, 111, 112, 113, 114, 115, 116, 117, 118, 119, 120, 121, 122, 65, 66, 67, 68, 69, 70, 71, 72, 73, 74, 75, 76, 77, 78, 79, 80, 81, 82, 83, 84, 85, 86, 87, 88, 89, 90]⟩ 1320), ke P ⟨#[100, 105, 103, 105, 116, 115]⟩ 1323 (.str ⟨#[48, 49, 50, 51, 52, 53, 54, 55, 56, 57]⟩ 1322), ke P ⟨#[104, 101, 120, 100, 105, 103, 105, 116, 115]⟩ 1328 (.str ⟨#[48, 49, 50, 51, 52, 53, 54, 55, 56, 57, 97, 98, 99, 100, 101, 102, 65, 66, 67, 68, 69, 70]⟩ 1327), ke P ⟨#[99]⟩ 1339 (.int (57) 1536)] 21, #[]⟩
noncomputable def objs13 (w : World) : List Obj := [ob28, ob29, ob30, ob31, ob32, ob33v4, ob34v4, ob35v4, ob36, ob37, ob38, ob39, ob40, ob41, ob42, ob43, ob44]
noncomputable def ob41v1 : Obj := ⟨.type "list", none, .seq #[.str ⟨#[61, 48, 48]⟩ 292, .str ⟨#[61, 48, 49]⟩ 296, .str ⟨#[61, 48, 50]⟩ 300, .str ⟨#[61, 48, 51]⟩ 304, .str ⟨#[61, 48, 52]⟩ 308, .str ⟨#[61, 48, 53]⟩ 312, .str ⟨#[61, 48, 54]⟩ 316, .str ⟨#[61, 48, 55]⟩ 320, .str ⟨#[61, 48, 56]⟩ 324, .str ⟨#[9]⟩ 1827, .str ⟨#[61, 48, 65]⟩ 332, .str ⟨#[61, 48, 66]⟩ 336, .str ⟨#[61, 48, 67]⟩ 340, .str ⟨#[61, 48, 68]⟩ 344, .str ⟨#[61, 48, 69]⟩ 348, .str ⟨#[61, 48, 70]⟩ 352, .str ⟨#[61, 49, 48]⟩ 356, .str ⟨#[61, 49, 49]⟩ 360, .str ⟨#[61, 49, 50]⟩ 364, .str ⟨#[61, 49, 51]⟩ 368, .str ⟨#[61, 49, 52]⟩ 372, .str ⟨#[61, 49, 53]⟩ 376, .str ⟨#[61, 49, 54]⟩ 380, .str ⟨#[61, 49, 55]⟩ 384, .str ⟨#[61, 49, 56]⟩ 388, .str ⟨#[61, 49, 57]⟩ 392, .str ⟨#[61, 49, 65]⟩ 396, .str ⟨#[61, 49, 66]⟩ 400, .str ⟨#[61, 49, 67]⟩ 404, .str ⟨#[61, 49, 68]⟩ 408, .str ⟨#[61, 49, 69]⟩ 412, .str ⟨#[61, 49, 70]⟩ 416, .str ⟨#[32]⟩ 1545, .str ⟨#[33]⟩ 1548, .str ⟨#[34]⟩ 1551, .str ⟨#[35]⟩ 1554, .str ⟨#[36]⟩ 1557, .str ⟨#[37]⟩ 1560, .str ⟨#[38]⟩ 1563, .str ⟨#[39]⟩ 1566, .str ⟨#[40]⟩ 1569, .str ⟨#[41]⟩ 1572, .str ⟨#[42]⟩ 1575, .str ⟨#[43]⟩ 1578, .str ⟨#[44]⟩ 1581, .str ⟨#[45]⟩ 1584, .str ⟨#[46]⟩ 1587, .str ⟨#[47]⟩ 1590, .str ⟨#[48]⟩ 1593, .str ⟨#[49]⟩ 1596, .str ⟨#[50]⟩ 1599, .str ⟨#[51]⟩ 1602, .str ⟨#[52]⟩ 1605, .str ⟨#[53]⟩ 1608, .str ⟨#[54]⟩ 1611, .str ⟨#[55]⟩ 1614, .str ⟨#[56]⟩ 1617, .str ⟨#[57]⟩ 1620, .str ⟨#[58]⟩ 1623, .str ⟨#[59]⟩ 1626, .str ⟨#[60]⟩ 1629, .str ⟨#[61, 51, 68]⟩ 536, .str ⟨#[62]⟩ 1632, .str ⟨#[63]⟩ 1635, .str ⟨#[64]⟩ 1638, .str ⟨#[65]⟩ 1641, .str ⟨#[66]⟩ 1644, .str ⟨#[67]⟩ 1647, .str ⟨#[68]⟩ 1650, .str ⟨#[69]⟩ 1653, .str ⟨#[70]⟩ 1656, .str ⟨#[71]⟩ 1659, .str ⟨#[72]⟩ 1662, .str ⟨#[73]⟩ 1665, .str ⟨#[74]⟩ 1668, .str ⟨#[75]⟩ 1671, .str ⟨#[76]⟩ 1674, .str ⟨#[77]⟩ 1677, .str ⟨#[78]⟩ 1680, .str ⟨#[79]⟩ 1683, .str ⟨#[80]⟩ 1686, .str ⟨#[81]⟩ 1689, .str ⟨#[82]⟩ 1692, .str ⟨#[83]⟩ 1695, .str ⟨#[84]⟩ 1698, .str ⟨#[85]⟩ 1701, .str ⟨#[86]⟩ 1704, .str ⟨#[87]⟩ 1707, .str ⟨#[88]⟩ 1710, .str ⟨#[89]⟩ 1713, .str ⟨#[90]⟩ 1716, .str ⟨#[91]⟩ 1719, .str ⟨#[92]⟩ 1722, .str ⟨#[93]⟩ 1725, .str ⟨#[94]⟩ 1728, .str ⟨#[95]⟩ 1731, .str ⟨#[96]⟩ 1734, .str ⟨#[97]⟩ 1737, .str ⟨#[98]⟩ 1740, .str ⟨#[99]⟩ 1743, .str ⟨#[100]⟩ 1746, .str ⟨#[101]⟩ 1749, .str ⟨#[102]⟩ 1752, .str ⟨#[103]⟩ 1755, .str ⟨#[104]⟩ 1758, .str ⟨#[105]⟩ 1761, .str ⟨#[106]⟩ 1764, .str ⟨#[107]⟩ 1767, .str ⟨#[108]⟩ 1770, .str ⟨#[109]⟩ 1773, .str ⟨#[110]⟩ 1776, .str ⟨#[111]⟩ 1779, .str ⟨#[112]⟩ 1782, .str ⟨#[113]⟩ 1785, .str ⟨#[114]⟩ 1788, .str ⟨#[115]⟩ 1791, .str ⟨#[116]⟩ 1794, .str ⟨#[117]⟩ 1797, .str ⟨#[118]⟩ 1800, .str ⟨#[119]⟩ 1803, .str ⟨#[120]⟩ 1806, .str ⟨#[121]⟩ 1809, .str ⟨#[122]⟩ 1812, .str ⟨#[123]⟩ 1815, .str ⟨#[124]⟩ 1818, .str ⟨#[125]⟩ 1821, .str ⟨#[126]⟩ 1824, .str ⟨#[61, 55, 70]⟩ 800, .str ⟨#[61, 56, 48]⟩ 804, .str ⟨#[61, 56, 49]⟩ 808, .str ⟨#[61, 56, 50]⟩ 812, .str ⟨#[61, 56, 51]⟩ 816, .str ⟨#[61, 56, 52]⟩ 820, .str ⟨#[61, 56, 53]⟩ 824, .str ⟨#[61, 56, 54]⟩ 828, .str ⟨#[61, 56, 55]⟩ 832, .str ⟨#[61, 56, 56]⟩ 836, .str ⟨#[61, 56, 57]⟩ 840, .str ⟨#[61, 56, 65]⟩ 844, .str ⟨#[61, 56, 66]⟩ 848, .str ⟨#[61, 56, 67]⟩ 852, .str ⟨#[61, 56, 68]⟩ 856, .str ⟨#[61, 56, 69]⟩ 860, .str ⟨#[61, 56, 70]⟩ 864, .str ⟨#[61, 57, 48]⟩ 868, .str ⟨#[61, 57, 49]⟩ 872, .str ⟨#[61, 57, 50]⟩ 876, .str ⟨#[61, 57, 51]⟩ 880, .str ⟨#[61, 57, 52]⟩ 884, .str ⟨#[61, 57, 53]⟩ 888, .str ⟨#[61, 57, 54]⟩ 892, .str ⟨#[61, 57, 55]⟩ 896, .str ⟨#[61, 57, 56]⟩ 900, .str ⟨#[61, 57, 57]⟩ 904, .str ⟨#[61, 57, 65]⟩ 908, .str ⟨#[61, 57, 66]⟩ 912, .str ⟨#[61, 57, 67]⟩ 916, .str ⟨#[61, 57, 68]⟩ 920, .str ⟨#[61, 57, 69]⟩ 924, .str ⟨#[61, 57, 70]⟩ 928, .str ⟨#[61, 65, 48]⟩ 932, .str ⟨#[61, 65, 49]⟩ 936, .str ⟨#[61, 65, 50]⟩ 940, .str ⟨#[61, 65, 51]⟩ 944, .str ⟨#[61, 65, 52]⟩ 948, .str ⟨#[61, 65, 53]⟩ 952, .str ⟨#[61, 65, 54]⟩ 956, .str ⟨#[61, 65, 55]⟩ 960, .str ⟨#[61, 65, 56]⟩ 964, .str ⟨#[61, 65, 57]⟩ 968, .str ⟨#[61, 65, 65]⟩ 972, .str ⟨#[61, 65, 66]⟩ 976, .str ⟨#[61, 65, 67]⟩ 980, .str ⟨#[61, 65, 68]⟩ 984, .str ⟨#[61, 65, 69]⟩ 988, .str ⟨#[61, 65, 70]⟩ 992, .str ⟨#[61, 66, 48]⟩ 996, .str ⟨#[61, 66, 49]⟩ 1000, .str ⟨#[61, 66, 50]⟩ 1004, .str ⟨#[61, 66, 51]⟩ 1008, .str ⟨#[61, 66, 52]⟩ 1012, .str ⟨#[61, 66, 53]⟩ 1016, .str ⟨#[61, 66, 54]⟩ 1020, .str ⟨#[61, 66, 55]⟩ 1024, .str ⟨#[61, 66, 56]⟩ 1028, .str ⟨#[61, 66, 57]⟩ 1032, .str ⟨#[61, 66, 65]⟩ 1036, .str ⟨#[61, 66, 66]⟩ 1040, .str ⟨#[61, 66, 67]⟩ 1044, .str ⟨#[61, 66, 68]⟩ 1048, .str ⟨#[61, 66, 69]⟩ 1052, .str ⟨#[61, 66, 70]⟩ 1056, .str ⟨#[61, 67, 48]⟩ 1060, .str ⟨#[61, 67, 49]⟩ 1064, .str ⟨#[61, 67, 50]⟩ 1068, .str ⟨#[61, 67, 51]⟩ 1072, .str ⟨#[61, 67, 52]⟩ 1076, .str ⟨#[61, 67, 53]⟩ 1080, .str ⟨#[61, 67, 54]⟩ 1084, .str ⟨#[61, 67, 55]⟩ 1088, .str ⟨#[61, 67, 56]⟩ 1092, .str ⟨#[61, 67, 57]⟩ 1096, .str ⟨#[61, 67, 65]⟩ 1100, .str ⟨#[61, 67, 66]⟩ 1104, .str ⟨#[61, 67, 67]⟩ 1108, .str ⟨#[61, 67, 68]⟩ 1112, .str ⟨#[61, 67, 69]⟩ 1116, .str ⟨#[61, 67, 70]⟩ 1120, .str ⟨#[61, 68, 48]⟩ 1124, .str ⟨#[61, 68, 49]⟩ 1128, .str ⟨#[61, 68, 50]⟩ 1132, .str ⟨#[61, 68, 51]⟩ 1136, .str ⟨#[61, 68, 52]⟩ 1140, .str ⟨#[61, 68, 53]⟩ 1144, .str ⟨#[61, 68, 54]⟩ 1148, .str ⟨#[61, 68, 55]⟩ 1152, .str ⟨#[61, 68, 56]⟩ 1156, .str ⟨#[61, 68, 57]⟩ 1160, .str ⟨#[61, 68, 65]⟩ 1164, .str ⟨#[61, 68, 66]⟩ 1168, .str ⟨#[61, 68, 67]⟩ 1172, .str ⟨#[61, 68, 68]⟩ 1176, .str ⟨#[61, 68, 69]⟩ 1180, .str ⟨#[61, 68, 70]⟩ 1184, .str ⟨#[61, 69, 48]⟩ 1188, .str ⟨#[61, 69, 49]⟩ 1192, .str ⟨#[61, 69, 50]⟩ 1196, .str ⟨#[61, 69, 51]⟩ 1200, .str ⟨#[61, 69, 52]⟩ 1204, .str ⟨#[61, 69, 53]⟩ 1208, .str ⟨#[61, 69, 54]⟩ 1212, .str ⟨#[61, 69, 55]⟩ 1216, .str ⟨#[61, 69, 56]⟩ 1220, .str ⟨#[61, 69, 57]⟩ 1224, .str ⟨#[61, 69, 65]⟩ 1228, .str ⟨#[61, 69, 66]⟩ 1232, .str ⟨#[61, 69, 67]⟩ 1236, .str ⟨#[61, 69, 68]⟩ 1240, .str ⟨#[61, 69, 69]⟩ 1244, .str ⟨#[61, 69, 70]⟩ 1248, .str ⟨#[61, 70, 48]⟩ 1252, .str ⟨#[61, 70, 49]⟩ 1256, .str ⟨#[61, 70, 50]⟩ 1260, .str ⟨#[61, 70, 51]⟩ 1264, .str ⟨#[61, 70, 52]⟩ 1268, .str ⟨#[61, 70, 53]⟩ 1272, .str ⟨#[61, 70, 54]⟩ 1276, .str ⟨#[61, 70, 55]⟩ 1280, .str ⟨#[61, 70, 56]⟩ 1284, .str ⟨#[61, 70, 57]⟩ 1288, .str ⟨#[61, 70, 65]⟩ 1292, .str ⟨#[61, 70, 66]⟩ 1296, .str ⟨#[61, 70, 67]⟩ 1300, .str ⟨#[61, 70, 68]⟩ 1304, .str ⟨#[61, 70, 69]⟩ 1308, .str ⟨#[61, 70, 70]⟩ 1312] 0, #[]⟩
noncomputable def ob45 : Obj := ⟨.type "bytes_iterator", none, .fields #[.none, .int (95) 0], #[]⟩
noncomputable def ob46 : Obj := ⟨.type "tuple", none, .seq #[] 0, #[]⟩
noncomputable def ob47 : Obj := ⟨.type "StopIteration", none, .fields #[.ref 46, .none, .none, .none, .bool false, .none], #[]⟩
noncomputable def ob3v3 (P : Params) : Obj := ⟨.type "dict", none, .dict #[ke P ⟨#[95, 95, 110, 97, 109, 101, 95, 95]⟩ 165 (.str ⟨#[99, 112, 121, 51, 49, 51, 46, 101, 109, 97, 105, 108, 46, 113, 117, 111, 112, 114, 105, 109, 105, 109, 101]⟩ 1329), ke P ⟨#[95, 95, 100, 111, 99, 95, 95]⟩ 166 (.none), ke P ⟨#[95, 95, 112, 97, 99, 107, 97, 103, 101, 95, 95]⟩ 167 (.none), ke P ⟨#[95, 95, 108, 111, 97, 100, 101, 114, 95, 95]⟩ 168 (.builtin "__main__.__loader__#opaque"), ke P ⟨#[95, 95, 115, 112, 101, 99, 95, 95]⟩ 169 (.none), ke P ⟨#[95, 95, 97, 110, 110, 111, 116, 97, 116, 105, 111, 110, 115, 95, 95]⟩ 170 (.ref 6), ke P ⟨#[95, 95, 98, 117, 105, 108, 116, 105, 110, 115, 95, 95]⟩ 171 (.ref 4), ke P ⟨#[95, 95, 102, 105, 108, 101, 95, 95]⟩ 173 (.str ⟨#[47, 99, 108, 97, 105, 109, 47, 99, 117, 116, 46, 112, 121]⟩ 172), ke P ⟨#[95, 95, 99, 97, 99, 104, 101, 100, 95, 95]⟩ 174 (.none), ke P ⟨#[95, 115, 114, 101]⟩ 275 (.ref 12), ke P ⟨#[67, 82, 76, 70]⟩ 283 (.str ⟨#[13, 10]⟩ 282), ke P ⟨#[78, 76]⟩ 285 (.str ⟨#[10]⟩ 284), ke P ⟨#[95, 81, 85, 79, 80, 82, 73, 95, 77, 65, 80]⟩ 1313 (.ref 34), ke P ⟨#[95, 81, 85, 79, 80, 82, 73, 95, 72, 69, 65, 68, 69, 82, 95, 77, 65, 80]⟩ 1314 (.ref 39), ke P ⟨#[95, 81, 85, 79, 80, 82, 73, 95, 66, 79, 68, 89, 95, 77, 65, 80]⟩ 1315 (.ref 41), ke P ⟨#[97, 115, 99, 105, 105, 95, 108, 111, 119, 101, 114, 99, 97, 115, 101]⟩ 1317 (.str ⟨#[97, 98, 99, 100, 101, 102, 103, 104, 105, 106, 107, 108, 109, 110, 111, 112, 113, 114, 115, 116, 117, 118, 119, 120, 121, 122]⟩ 1316), ke P ⟨#[97, 115, 99, 105, 105, 95, 117, 112, 112, 101, 114, 99, 97, 115, 101]⟩ 1319 (.str ⟨#[65, 66, 67, 68, 69, 70, 71, 72, 73, 74, 75, 76, 77, 78, 79, 80, 81, 82, 83, 84, 85, 86, 87, 88, 89, 90]⟩ 1318), ke P ⟨#[97, 115, 99, 105, 105, 95, 108, 101, 116, 116, 101, 114, 115]⟩ 1321 (.str ⟨#[97, 98, 99, 100, 101, 102, 103, 104, 105, 106, 107, 108, 109, 110, 111, 112, 113, 114, 115, 116, 117, 118, 119, 120, 121, 122, 65, 66, 67, 68, 69, 70, 71, 72, 73, 74, 75, 76, 77, 78, 79, 80, 81, 82, 83, 84, 85, 86, 87, 88, 89, 90]⟩ 1320), ke P ⟨#[100, 105, 103, 105, 116, 115]⟩ 1323 (.str ⟨#[48, 49, 50, 51, 52, 53, 54, 55, 56, 57]⟩ 1322), ke P ⟨#[104, 101, 120, 100, 105, 103, 105, 116, 115]⟩ 1328 (.str ⟨#[48, 49, 50, 51, 52, 53, 54, 55, 56, 57, 97, 98, 99, 100, 101, 102, 65, 66, 67, 68, 69, 70]⟩ 1327), ke P ⟨#[99]⟩ 1339 (.int (9) 1825)] 21, #[]⟩
noncomputable def objs14 (w : World) : List Obj := [ob28, ob29, ob30, ob31, ob32, ob33v4, ob34v4, ob35v4, ob36, ob37, ob38, ob39, ob40, ob41v1, ob42, ob43, ob44, ob45, ob46, ob47]
noncomputable def ob29v1 : Obj := ⟨.none, none, .fields #[.int (18) 0, .int (0) 0, .ref 53, .int (20) 0, .int (0) 0, .ref 60, .int (26) 0, .int (0) 0, .ref 73, .int (64) 0, .int (0) 0, .ref 81], #[]⟩
noncomputable def ob48 : Obj := ⟨.type "tuple", none, .seq #[] 0, #[]⟩
noncomputable def ob49 : Obj := ⟨.none, none, .fields #[], #[]⟩
noncomputable def ob50 : Obj := ⟨.type "tuple", none, .seq #[.str ⟨#[115]⟩ 1831] 0, #[]⟩
noncomputable def ob51 : Obj := ⟨.type "tuple", none, .seq #[] 0, #[]⟩
noncomputable def ob52 : Obj := ⟨.none, none, .func ⟨⟨#[117, 110, 113, 117, 111, 116, 101]⟩, ⟨#[117, 110, 113, 117, 111, 116, 101]⟩, fnP (stAt 15), .stmts (fnB (stAt 15)), fnS (stAt 15), 0, [], .none, .none, .none, .none, none, .none, .none, 0⟩, #[]⟩
noncomputable def ob53 : Obj := ⟨.type "code", none, .fields #[.str ⟨#[117, 110, 113, 117, 111, 116, 101]⟩ 1828, .str ⟨#[117, 110, 113, 117, 111, 116, 101]⟩ 1829, .str ⟨#[47, 99, 108, 97, 105, 109, 47, 99, 117, 116, 46, 112, 121]⟩ 1830, .int (18) 0, .int (1) 0, .int (0) 0, .int (0) 0, .int (3) 0, .ref 48, .bool true, .int (276) 0, .ref 49, .none, .ref 50, .ref 51, .ref 52, .int (1832) 0, .int (18) 0, .str ⟨#[47, 99, 108, 97, 105, 109, 47, 99, 117, 116, 46, 112, 121]⟩ 1833], #[]⟩
noncomputable def ob54 : Obj := ⟨.type "function", none, .func ⟨⟨#[117, 110, 113, 117, 111, 116, 101]⟩, ⟨#[117, 110, 113, 117, 111, 116, 101]⟩, fnP (stAt 15), .stmts (fnB (stAt 15)), fnS (stAt 15), 3, [], .none, .none, .none, .str ⟨#[99, 112, 121, 51, 49, 51, 46, 101, 109, 97, 105, 108, 46, 113, 117, 111, 112, 114, 105, 109, 105, 109, 101]⟩ 1329, none, .ref 53, .none, 0⟩, #[]⟩
noncomputable def ob55 : Obj := ⟨.type "tuple", none, .seq #[] 0, #[]⟩
noncomputable def ob56 : Obj := ⟨.none, none, .fields #[], #[]⟩
noncomputable def ob57 : Obj := ⟨.type "tuple", none, .seq #[.str ⟨#[99]⟩ 1838] 0, #[]⟩
noncomputable def ob58 : Obj := ⟨.type "tuple", none, .seq #[] 0, #[]⟩
noncomputable def ob59 : Obj := ⟨.none, none, .func ⟨⟨#[113, 117, 111, 116, 101]⟩, ⟨#[113, 117, 111, 116, 101]⟩, fnP (stAt 16), .stmts (fnB (stAt 16)), fnS (stAt 16), 0, [], .none, .none, .none, .none, none, .none, .none, 0⟩, #[]⟩
noncomputable def ob60 : Obj := ⟨.type "code", none, .fields #[.str ⟨#[113, 117, 111, 116, 101]⟩ 1835, .str ⟨#[113, 117, 111, 116, 101]⟩ 1836, .str ⟨#[47, 99, 108, 97, 105, 109, 47, 99, 117, 116, 46, 112, 121]⟩ 1837, .int (20) 0, .int (1) 0, .int (0) 0, .int (0) 0, .int (3) 0, .ref 55, .bool true, .int (276) 0, .ref 56, .none, .ref 57, .ref 58, .ref 59, .int (1839) 0, .int (20) 0, .str ⟨#[47, 99, 108, 97, 105, 109, 47, 99, 117, 116, 46, 112, 121]⟩ 1840], #[]⟩
noncomputable def ob61 : Obj := ⟨.type "function", none, .func ⟨⟨#[113, 117, 111, 116, 101]⟩, ⟨#[113, 117, 111, 116, 101]⟩, fnP (stAt 16), .stmts (fnB (stAt 16)), fnS (stAt 16), 3, [], .none, .none, .none, .str ⟨#[99, 112, 121, 51, 49, 51, 46, 101, 109, 97, 105, 108, 46, 113, 117, 111, 112, 114, 105, 109, 105, 109, 101]⟩ 1329, none, .ref 60, .none, 0⟩, #[]⟩
noncomputable def ob62 : Obj := ⟨.type "slice", none, .fields #[.none, .none, .none], #[]⟩
noncomputable def ob63 : Obj := ⟨.type "list", none, .seq #[.str ⟨#[61, 48, 48]⟩ 292, .str ⟨#[61, 48, 49]⟩ 296, .str ⟨#[61, 48, 50]⟩ 300, .str ⟨#[61, 48, 51]⟩ 304, .str ⟨#[61, 48, 52]⟩ 308, .str ⟨#[61, 48, 53]⟩ 312, .str ⟨#[61, 48, 54]⟩ 316, .str ⟨#[61, 48, 55]⟩ 320, .str ⟨#[61, 48, 56]⟩ 324, .str ⟨#[9]⟩ 1827, .str ⟨#[10]⟩ 1849, .str ⟨#[61, 48, 66]⟩ 336, .str ⟨#[61, 48, 67]⟩ 340, .str ⟨#[13]⟩ 1846, .str ⟨#[61, 48, 69]⟩ 348, .str ⟨#[61, 48, 70]⟩ 352, .str ⟨#[61, 49, 48]⟩ 356, .str ⟨#[61, 49, 49]⟩ 360, .str ⟨#[61, 49, 50]⟩ 364, .str ⟨#[61, 49, 51]⟩ 368, .str ⟨#[61, 49, 52]⟩ 372, .str ⟨#[61, 49, 53]⟩ 376, .str ⟨#[61, 49, 54]⟩ 380, .str ⟨#[61, 49, 55]⟩ 384, .str ⟨#[61, 49, 56]⟩ 388, .str ⟨#[61, 49, 57]⟩ 392, .str ⟨#[61, 49, 65]⟩ 396, .str ⟨#[61, 49, 66]⟩ 400, .str ⟨#[61, 49, 67]⟩ 404, .str ⟨#[61, 49, 68]⟩ 408, .str ⟨#[61, 49, 69]⟩ 412, .str ⟨#[61, 49, 70]⟩ 416, .str ⟨#[32]⟩ 1545, .str ⟨#[33]⟩ 1548, .str ⟨#[34]⟩ 1551, .str ⟨#[35]⟩ 1554, .str ⟨#[36]⟩ 1557, .str ⟨#[37]⟩ 1560, .str ⟨#[38]⟩ 1563, .str ⟨#[39]⟩ 1566, .str ⟨#[40]⟩ 1569, .str ⟨#[41]⟩ 1572, .str ⟨#[42]⟩ 1575, .str ⟨#[43]⟩ 1578, .str ⟨#[44]⟩ 1581, .str ⟨#[45]⟩ 1584, .str ⟨#[46]⟩ 1587, .str ⟨#[47]⟩ 1590, .str ⟨#[48]⟩ 1593, .str ⟨#[49]⟩ 1596, .str ⟨#[50]⟩ 1599, .str ⟨#[51]⟩ 1602, .str ⟨#[52]⟩ 1605, .str ⟨#[53]⟩ 1608, .str ⟨#[54]⟩ 1611, .str ⟨#[55]⟩ 1614, .str ⟨#[56]⟩ 1617, .str ⟨#[57]⟩ 1620, .str ⟨#[58]⟩ 1623, .str ⟨#[59]⟩ 1626, .str ⟨#[60]⟩ 1629, .str ⟨#[61, 51, 68]⟩ 536, .str ⟨#[62]⟩ 1632, .str ⟨#[63]⟩ 1635, .str ⟨#[64]⟩ 1638, .str ⟨#[65]⟩ 1641, .str ⟨#[66]⟩ 1644, .str ⟨#[67]⟩ 1647, .str ⟨#[68]⟩ 1650, .str ⟨#[69]⟩ 1653, .str ⟨#[70]⟩ 1656, .str ⟨#[71]⟩ 1659, .str ⟨#[72]⟩ 1662, .str ⟨#[73]⟩ 1665, .str ⟨#[74]⟩ 1668, .str ⟨#[75]⟩ 1671, .str ⟨#[76]⟩ 1674, .str ⟨#[77]⟩ 1677, .str ⟨#[78]⟩ 1680, .str ⟨#[79]⟩ 1683, .str ⟨#[80]⟩ 1686, .str ⟨#[81]⟩ 1689, .str ⟨#[82]⟩ 1692, .str ⟨#[83]⟩ 1695, .str ⟨#[84]⟩ 1698, .str ⟨#[85]⟩ 1701, .str ⟨#[86]⟩ 1704, .str ⟨#[87]⟩ 1707, .str ⟨#[88]⟩ 1710, .str ⟨#[89]⟩ 1713, .str ⟨#[90]⟩ 1716, .str ⟨#[91]⟩ 1719, .str ⟨#[92]⟩ 1722, .str ⟨#[93]⟩ 1725, .str ⟨#[94]⟩ 1728, .str ⟨#[95]⟩ 1731, .str ⟨#[96]⟩ 1734, .str ⟨#[97]⟩ 1737, .str ⟨#[98]⟩ 1740, .str ⟨#[99]⟩ 1743, .str ⟨#[100]⟩ 1746, .str ⟨#[101]⟩ 1749, .str ⟨#[102]⟩ 1752, .str ⟨#[103]⟩ 1755, .str ⟨#[104]⟩ 1758, .str ⟨#[105]⟩ 1761, .str ⟨#[106]⟩ 1764, .str ⟨#[107]⟩ 1767, .str ⟨#[108]⟩ 1770, .str ⟨#[109]⟩ 1773, .str ⟨#[110]⟩ 1776, .str ⟨#[111]⟩ 1779, .str ⟨#[112]⟩ 1782, .str ⟨#[113]⟩ 1785, .str ⟨#[114]⟩ 1788, .str ⟨#[115]⟩ 1791, .str ⟨#[116]⟩ 1794, .str ⟨#[117]⟩ 1797, .str ⟨#[118]⟩ 1800, .str ⟨#[119]⟩ 1803, .str ⟨#[120]⟩ 1806, .str ⟨#[121]⟩ 1809, .str ⟨#[122]⟩ 1812, .str ⟨#[123]⟩ 1815, .str ⟨#[124]⟩ 1818, .str ⟨#[125]⟩ 1821, .str ⟨#[126]⟩ 1824, .str ⟨#[61, 55, 70]⟩ 800, .str ⟨#[61, 56, 48]⟩ 804, .str ⟨#[61, 56, 49]⟩ 808, .str ⟨#[61, 56, 50]⟩ 812, .str ⟨#[61, 56, 51]⟩ 816, .str ⟨#[61, 56, 52]⟩ 820, .str ⟨#[61, 56, 53]⟩ 824, .str ⟨#[61, 56, 54]⟩ 828, .str ⟨#[61, 56, 55]⟩ 832, .str ⟨#[61, 56, 56]⟩ 836, .str ⟨#[61, 56, 57]⟩ 840, .str ⟨#[61, 56, 65]⟩ 844, .str ⟨#[61, 56, 66]⟩ 848, .str ⟨#[61, 56, 67]⟩ 852, .str ⟨#[61, 56, 68]⟩ 856, .str ⟨#[61, 56, 69]⟩ 860, .str ⟨#[61, 56, 70]⟩ 864, .str ⟨#[61, 57, 48]⟩ 868, .str ⟨#[61, 57, 49]⟩ 872, .str ⟨#[61, 57, 50]⟩ 876, .str ⟨#[61, 57, 51]⟩ 880, .str ⟨#[61, 57, 52]⟩ 884, .str ⟨#[61, 57, 53]⟩ 888, .str ⟨#[61, 57, 54]⟩ 892, .str ⟨#[61, 57, 55]⟩ 896, .str ⟨#[61, 57, 56]⟩ 900, .str ⟨#[61, 57, 57]⟩ 904, .str ⟨#[61, 57, 65]⟩ 908, .str ⟨#[61, 57, 66]⟩ 912, .str ⟨#[61, 57, 67]⟩ 916, .str ⟨#[61, 57, 68]⟩ 920, .str ⟨#[61, 57, 69]⟩ 924, .str ⟨#[61, 57, 70]⟩ 928, .str ⟨#[61, 65, 48]⟩ 932, .str ⟨#[61, 65, 49]⟩ 936, .str ⟨#[61, 65, 50]⟩ 940, .str ⟨#[61, 65, 51]⟩ 944, .str ⟨#[61, 65, 52]⟩ 948, .str ⟨#[61, 65, 53]⟩ 952, .str ⟨#[61, 65, 54]⟩ 956, .str ⟨#[61, 65, 55]⟩ 960, .str ⟨#[61, 65, 56]⟩ 964, .str ⟨#[61, 65, 57]⟩ 968, .str ⟨#[61, 65, 65]⟩ 972, .str ⟨#[61, 65, 66]⟩ 976, .str ⟨#[61, 65, 67]⟩ 980, .str ⟨#[61, 65, 68]⟩ 984, .str ⟨#[61, 65, 69]⟩ 988, .str ⟨#[61, 65, 70]⟩ 992, .str ⟨#[61, 66, 48]⟩ 996, .str ⟨#[61, 66, 49]⟩ 1000, .str ⟨#[61, 66, 50]⟩ 1004, .str ⟨#[61, 66, 51]⟩ 1008, .str ⟨#[61, 66, 52]⟩ 1012, .str ⟨#[61, 66, 53]⟩ 1016, .str ⟨#[61, 66, 54]⟩ 1020, .str ⟨#[61, 66, 55]⟩ 1024, .str ⟨#[61, 66, 56]⟩ 1028, .str ⟨#[61, 66, 57]⟩ 1032, .str ⟨#[61, 66, 65]⟩ 1036, .str ⟨#[61, 66, 66]⟩ 1040, .str ⟨#[61, 66, 67]⟩ 1044, .str ⟨#[61, 66, 68]⟩ 1048, .str ⟨#[61, 66, 69]⟩ 1052, .str ⟨#[61, 66, 70]⟩ 1056, .str ⟨#[61, 67, 48]⟩ 1060, .str ⟨#[61, 67, 49]⟩ 1064, .str ⟨#[61, 67, 50]⟩ 1068, .str ⟨#[61, 67, 51]⟩ 1072, .str ⟨#[61, 67, 52]⟩ 1076, .str ⟨#[61, 67, 53]⟩ 1080, .str ⟨#[61, 67, 54]⟩ 1084, .str ⟨#[61, 67, 55]⟩ 1088, .str ⟨#[61, 67, 56]⟩ 1092, .str ⟨#[61, 67, 57]⟩ 1096, .str ⟨#[61, 67, 65]⟩ 1100, .str ⟨#[61, 67, 66]⟩ 1104, .str ⟨#[61, 67, 67]⟩ 1108, .str ⟨#[61, 67, 68]⟩ 1112, .str ⟨#[61, 67, 69]⟩ 1116, .str ⟨#[61, 67, 70]⟩ 1120, .str ⟨#[61, 68, 48]⟩ 1124, .str ⟨#[61, 68, 49]⟩ 1128, .str ⟨#[61, 68, 50]⟩ 1132, .str ⟨#[61, 68, 51]⟩ 1136, .str ⟨#[61, 68, 52]⟩ 1140, .str ⟨#[61, 68, 53]⟩ 1144, .str ⟨#[61, 68, 54]⟩ 1148, .str ⟨#[61, 68, 55]⟩ 1152, .str ⟨#[61, 68, 56]⟩ 1156, .str ⟨#[61, 68, 57]⟩ 1160, .str ⟨#[61, 68, 65]⟩ 1164, .str ⟨#[61, 68, 66]⟩ 1168, .str ⟨#[61, 68, 67]⟩ 1172, .str ⟨#[61, 68, 68]⟩ 1176, .str ⟨#[61, 68, 69]⟩ 1180, .str ⟨#[61, 68, 70]⟩ 1184, .str ⟨#[61, 69, 48]⟩ 1188, .str ⟨#[61, 69, 49]⟩ 1192, .str ⟨#[61, 69, 50]⟩ 1196, .str ⟨#[61, 69, 51]⟩ 1200, .str ⟨#[61, 69, 52]⟩ 1204, .str ⟨#[61, 69, 53]⟩ 1208, .str ⟨#[61, 69, 54]⟩ 1212, .str ⟨#[61, 69, 55]⟩ 1216, .str ⟨#[61, 69, 56]⟩ 1220, .str ⟨#[61, 69, 57]⟩ 1224, .str ⟨#[61, 69, 65]⟩ 1228, .str ⟨#[61, 69, 66]⟩ 1232, .str ⟨#[61, 69, 67]⟩ 1236, .str ⟨#[61, 69, 68]⟩ 1240, .str ⟨#[61, 69, 69]⟩ 1244, .str ⟨#[61, 69, 70]⟩ 1248, .str ⟨#[61, 70, 48]⟩ 1252, .str ⟨#[61, 70, 49]⟩ 1256, .str ⟨#[61, 70, 50]⟩ 1260, .str ⟨#[61, 70, 51]⟩ 1264, .str ⟨#[61, 70, 52]⟩ 1268, .str ⟨#[61, 70, 53]⟩ 1272, .str ⟨#[61, 70, 54]⟩ 1276, .str ⟨#[61, 70, 55]⟩ 1280, .str ⟨#[61, 70, 56]⟩ 1284, .str ⟨#[61, 70, 57]⟩ 1288, .str ⟨#[61, 70, 65]⟩ 1292, .str ⟨#[61, 70, 66]⟩ 1296, .str ⟨#[61, 70, 67]⟩ 1300, .str ⟨#[61, 70, 68]⟩ 1304, .str ⟨#[61, 70, 69]⟩ 1308, .str ⟨#[61, 70, 70]⟩ 1312] 0, #[]⟩
noncomputable def ob64 : Obj := ⟨.type "bytes_iterator", none, .fields #[.none, .int (2) 0], #[]⟩
noncomputable def ob65 : Obj := ⟨.type "tuple", none, .seq #[] 0, #[]⟩
noncomputable def ob66 : Obj := ⟨.type "StopIteration", none, .fields #[.ref 65, .none, .none, .none, .bool false, .none], #[]⟩
noncomputable def ob67 : Obj := ⟨.type "tuple", none, .seq #[.int (76) 1850, .str ⟨#[10]⟩ 284] 0, #[]⟩
noncomputable def ob68 : Obj := ⟨.type "tuple", none, .seq #[] 0, #[]⟩
noncomputable def ob69 : Obj := ⟨.none, none, .fields #[], #[]⟩
noncomputable def ob70 : Obj := ⟨.type "tuple", none, .seq #[.str ⟨#[98, 111, 100, 121]⟩ 1854, .str ⟨#[109, 97, 120, 108, 105, 110, 101, 108, 101, 110]⟩ 1855, .str ⟨#[101, 111, 108]⟩ 1856, .str ⟨#[115, 111, 102, 116, 95, 98, 114, 101, 97, 107]⟩ 1857, .str ⟨#[109, 97, 120, 108, 105, 110, 101, 108, 101, 110, 49]⟩ 1858, .str ⟨#[101, 110, 99, 111, 100, 101, 100, 95, 98, 111, 100, 121]⟩ 1859, .str ⟨#[97, 112, 112, 101, 110, 100]⟩ 1860, .str ⟨#[108, 105, 110, 101]⟩ 1861, .str ⟨#[115, 116, 97, 114, 116]⟩ 1862, .str ⟨#[108, 97, 115, 116, 115, 116, 97, 114, 116]⟩ 1863, .str ⟨#[115, 116, 111, 112]⟩ 1864, .str ⟨#[114, 111, 111, 109]⟩ 1865, .str ⟨#[113]⟩ 1866] 0, #[]⟩
noncomputable def ob71 : Obj := ⟨.type "tuple", none, .seq #[] 0, #[]⟩
noncomputable def ob72 : Obj := ⟨.none, none, .func ⟨⟨#[98, 111, 100, 121, 95, 101, 110, 99, 111, 100, 101]⟩, ⟨#[98, 111, 100, 121, 95, 101, 110, 99, 111, 100, 101]⟩, fnP (stAt 20), .stmts (fnB (stAt 20)), fnS (stAt 20), 0, [], .none, .none, .none, .none, none, .none, .none, 0⟩, #[]⟩
noncomputable def ob73 : Obj := ⟨.type "code", none, .fields #[.str ⟨#[98, 111, 100, 121, 95, 101, 110, 99, 111, 100, 101]⟩ 1851, .str ⟨#[98, 111, 100, 121, 95, 101, 110, 99, 111, 100, 101]⟩ 1852, .str ⟨#[47, 99, 108, 97, 105, 109, 47, 99, 117, 116, 46, 112, 121]⟩ 1853, .int (26) 0, .int (3) 0, .int (0) 0, .int (0) 0, .int (3) 0, .ref 68, .bool true, .int (276) 0, .ref 69, .none, .ref 70, .ref 71, .ref 72, .int (1867) 0, .int (26) 0, .str ⟨#[47, 99, 108, 97, 105, 109, 47, 99, 117, 116, 46, 112, 121]⟩ 1868], #[]⟩
noncomputable def ob74 : Obj := ⟨.type "function", none, .func ⟨⟨#[98, 111, 100, 121, 95, 101, 110, 99, 111, 100, 101]⟩, ⟨#[98, 111, 100, 121, 95, 101, 110, 99, 111, 100, 101]⟩, fnP (stAt 20), .stmts (fnB (stAt 20)), fnS (stAt 20), 3, [], .ref 67, .none, .none, .str ⟨#[99, 112, 121, 51, 49, 51, 46, 101, 109, 97, 105, 108, 46, 113, 117, 111, 112, 114, 105, 109, 105, 109, 101]⟩ 1329, none, .ref 73, .none, 0⟩, #[]⟩
noncomputable def ob75 : Obj := ⟨.type "tuple", none, .seq #[.str ⟨#[10]⟩ 284] 0, #[]⟩
noncomputable def ob76 : Obj := ⟨.type "tuple", none, .seq #[] 0, #[]⟩
noncomputable def ob77 : Obj := ⟨.none, none, .fields #[], #[]⟩
noncomputable def ob78 : Obj := ⟨.type "tuple", none, .seq #[.str ⟨#[101, 110, 99, 111, 100, 101, 100]⟩ 1873, .str ⟨#[101, 111, 108]⟩ 1874, .str ⟨#[100, 101, 99, 111, 100, 101, 100]⟩ 1875, .str ⟨#[108, 105, 110, 101]⟩ 1876, .str ⟨#[105]⟩ 1877, .str ⟨#[110]⟩ 1878, .str ⟨#[99]⟩ 1879] 0, #[]⟩
noncomputable def ob79 : Obj := ⟨.type "tuple", none, .seq #[] 0, #[]⟩
noncomputable def ob80 : Obj := ⟨.none, none, .func ⟨⟨#[100, 101, 99, 111, 100, 101]⟩, ⟨#[100, 101, 99, 111, 100, 101]⟩, fnP (stAt 21), .stmts (fnB (stAt 21)), fnS (stAt 21), 0, [], .none, .none, .none, .none, none, .none, .none, 0⟩, #[]⟩
noncomputable def ob81 : Obj := ⟨.type "code", none, .fields #[.str ⟨#[100, 101, 99, 111, 100, 101]⟩ 1870, .str ⟨#[100, 101, 99, 111, 100, 101]⟩ 1871, .str ⟨#[47, 99, 108, 97, 105, 109, 47, 99, 117, 116, 46, 112, 121]⟩ 1872, .int (64) 0, .int (2) 0, .int (0) 0, .int (0) 0, .int (3) 0, .ref 76, .bool true, .int (276) 0, .ref 77, .none, .ref 78, .ref 79, .ref 80, .int (1880) 0, .int (64) 0, .str ⟨#[47, 99, 108, 97, 105, 109, 47, 99, 117, 116, 46, 112, 121]⟩ 1881], #[]⟩
noncomputable def ob82 : Obj := ⟨.type "function", none, .func ⟨⟨#[100, 101, 99, 111, 100, 101]⟩, ⟨#[100, 101, 99, 111, 100, 101]⟩, fnP (stAt 21), .stmts (fnB (stAt 21)), fnS (stAt 21), 3, [], .ref 75, .none, .none, .str ⟨#[99, 112, 121, 51, 49, 51, 46, 101, 109, 97, 105, 108, 46, 113, 117, 111, 112, 114, 105, 109, 105, 109, 101]⟩ 1329, none, .ref 81, .none, 0⟩, #[]⟩
noncomputable def ob83 : Obj := ⟨.type "list", none, .seq #[.int (14) 1886, .int (14) 1887, .int (4) 1888, .int (1) 1889, .int (1) 1890, .int (9) 1891, .int (0) 1892, .int (64) 1893, .int (0) 1894, .int (1342177280) 1895, .int (0) 1896, .int (0) 1897, .int (0) 1898, .int (0) 1899, .int (0) 1900, .int (17) 1901, .int (0) 1902, .int (13) 1903, .int (11) 1904, .int (9) 1905, .int (0) 1906, .int (64) 1907, .int (0) 1908, .int (1342177280) 1909, .int (0) 1910, .int (0) 1911, .int (0) 1912, .int (0) 1913, .int (0) 1914, .int (17) 1915, .int (1) 1916, .int (1) 1917] 0, #[]⟩
noncomputable def ob84 : Obj := ⟨.type "dict", none, .dict #[] 0, #[]⟩
noncomputable def ob85 : Obj := ⟨.type "tuple", none, .seq #[.none, .none] 0, #[]⟩
noncomputable def ob86 : Obj := ⟨.type "tuple", none, .seq #[.int (14) 0, .int (14) 0, .int (4) 0, .int (1) 0, .int (1) 0, .int (9) 0, .int (0) 0, .int (64) 0, .int (0) 0, .int (1342177280) 0, .int (0) 0, .int (0) 0, .int (0) 0, .int (0) 0, .int (0) 0, .int (17) 0, .int (0) 0, .int (13) 0, .int (11) 0, .int (9) 0, .int (0) 0, .int (64) 0, .int (0) 0, .int (1342177280) 0, .int (0) 0, .int (0) 0, .int (0) 0, .int (0) 0, .int (0) 0, .int (17) 0, .int (1) 0, .int (1) 0] 0, #[]⟩
noncomputable def ob87 : Obj := ⟨.type "re.Pattern", none, .fields #[.str ⟨#[40, 91, 38, 126, 124, 93, 41]⟩ 1884, .int (32) 1919, .int (1) 0, .none, .none, .ref 86, .int (0) 0], #[]⟩
noncomputable def ob3v4 (P : Params) : Obj := ⟨.type "dict", none, .dict #[ke P ⟨#[95, 95, 110, 97, 109, 101, 95, 95]⟩ 165 (.str ⟨#[114, 101]⟩ 1921), ke P ⟨#[95, 95, 100, 111, 99, 95, 95]⟩ 166 (.none), ke P ⟨#[95, 95, 112, 97, 99, 107, 97, 103, 101, 95, 95]⟩ 167 (.none), ke P ⟨#[95, 95, 108, 111, 97, 100, 101, 114, 95, 95]⟩ 168 (.builtin "__main__.__loader__#opaque"), ke P ⟨#[95, 95, 115, 112, 101, 99, 95, 95]⟩ 169 (.none), ke P ⟨#[95, 95, 97, 110, 110, 111, 116, 97, 116, 105, 111, 110, 115, 95, 95]⟩ 170 (.ref 6), ke P ⟨#[95, 95, 98, 117, 105, 108, 116, 105, 110, 115, 95, 95]⟩ 171 (.ref 4), ke P ⟨#[95, 95, 102, 105, 108, 101, 95, 95]⟩ 173 (.str ⟨#[47, 99, 108, 97, 105, 109, 47, 99, 117, 116, 46, 112, 121]⟩ 172), ke P ⟨#[95, 95, 99, 97, 99, 104, 101, 100, 95, 95]⟩ 174 (.none), ke P ⟨#[95, 115, 114, 101]⟩ 275 (.ref 12), ke P ⟨#[67, 82, 76, 70]⟩ 283 (.str ⟨#[13, 10]⟩ 282), ke P ⟨#[78, 76]⟩ 285 (.str ⟨#[10]⟩ 284), ke P ⟨#[95, 81, 85, 79, 80, 82, 73, 95, 77, 65, 80]⟩ 1313 (.ref 34), ke P ⟨#[95, 81, 85, 79, 80, 82, 73, 95, 72, 69, 65, 68, 69, 82, 95, 77, 65, 80]⟩ 1314 (.ref 39), ke P ⟨#[95, 81, 85, 79, 80, 82, 73, 95, 66, 79, 68, 89, 95, 77, 65, 80]⟩ 1315 (.ref 41), ke P ⟨#[97, 115, 99, 105, 105, 95, 108, 111, 119, 101, 114, 99, 97, 115, 101]⟩ 1317 (.str ⟨#[97, 98, 99, 100, 101, 102, 103, 104, 105, 106, 107, 108, 109, 110, 111, 112, 113, 114, 115, 116, 117, 118, 119, 120, 121, 122]⟩ 1316), ke P ⟨#[97, 115, 99, 105, 105, 95, 117, 112, 112, 101, 114, 99, 97, 115, 101]⟩ 1319 (.str ⟨#[65, 66, 67, 68, 69, 70, 71, 72, 73, 74, 75, 76, 77, 78, 79, 80, 81, 82, 83, 84, 85, 86, 87, 88, 89, 90]⟩ 1318), ke P ⟨#[97, 115, 99, 105, 105, 95, 108, 101, 116, 116, 101, 114, 115]⟩ 1321 (.str ⟨#[97, 98, 99, 100, 101, 102, 103, 104, 105, 106, 107, 108, 109, 110, 111, 112, 113, 114, 115, 116, 117, 118, 119, 120, 121, 122, 65, 66, 67, 68, 69, 70, 71, 72, 73, 74, 75, 76, 77, 78, 79, 80, 81, 82, 83, 84, 85, 86, 87, 88, 89, 90]⟩ 1320), ke P ⟨#[100, 105, 103, 105, 116, 115]⟩ 1323 (.str ⟨#[48, 49, 50, 51, 52, 53, 54, 55, 56, 57]⟩ 1322), ke P ⟨#[104, 101, 120, 100, 105, 103, 105, 116, 115]⟩ 1328 (.str ⟨#[48, 49, 50, 51, 52, 53, 54, 55, 56, 57, 97, 98, 99, 100, 101, 102, 65, 66, 67, 68, 69, 70]⟩ 1327), ke P ⟨#[117, 110, 113, 117, 111, 116, 101]⟩ 1834 (.ref 54), ke P ⟨#[113, 117, 111, 116, 101]⟩ 1841 (.ref 61), ke P ⟨#[95, 81, 85, 79, 80, 82, 73, 95, 66, 79, 68, 89, 95, 69, 78, 67, 79, 68, 69, 95, 77, 65, 80]⟩ 1842 (.ref 63), ke P ⟨#[98, 111, 100, 121, 95, 101, 110, 99, 111, 100, 101]⟩ 1869 (.ref 74), ke P ⟨#[100, 101, 99, 111, 100, 101]⟩ 1882 (.ref 82), ke P ⟨#[95, 116, 119, 105, 110, 95, 114, 101, 95, 49]⟩ 1920 (.ref 87)] 28, #[]⟩
noncomputable def objs23 (w : World) : List Obj := [ob28, ob29v1, ob30, ob31, ob32, ob33v4, ob34v4, ob35v4, ob36, ob37, ob38, ob39, ob40, ob41v1, ob42, ob43, ob44, ob45, ob46, ob47, ob48, ob49, ob50, ob51, ob52, ob53, ob54, ob55, ob56, ob57, ob58, ob59, ob60, ob61, ob62, ob63, ob64, ob65, ob66, ob67, ob68, ob69, ob70, ob71, ob72, ob73, ob74, ob75, ob76, ob77, ob78, ob79, ob80, ob81, ob82, ob83, ob84, ob85, ob86, ob87]
noncomputable def ob88 : Obj := ⟨.type "bytes_iterator", none, .fields #[.none, .int (24) 0], #[]⟩
noncomputable def ob89 : Obj := ⟨.type "dict", none, .dict #[⟨40, .int (40) 1924, .str ⟨#[92, 40]⟩ 1928⟩, ⟨41, .int (41) 1930, .str ⟨#[92, 41]⟩ 1934⟩, ⟨91, .int (91) 1936, .str ⟨#[92, 91]⟩ 1940⟩, ⟨93, .int (93) 1942, .str ⟨#[92, 93]⟩ 1946⟩, ⟨123, .int (123) 1948, .str ⟨#[92, 123]⟩ 1952⟩, ⟨125, .int (125) 1954, .str ⟨#[92, 125]⟩ 1958⟩, ⟨63, .int (63) 1960, .str ⟨#[92, 63]⟩ 1964⟩, ⟨42, .int (42) 1966, .str ⟨#[92, 42]⟩ 1970⟩, ⟨43, .int (43) 1972, .str ⟨#[92, 43]⟩ 1976⟩, ⟨45, .int (45) 1978, .str ⟨#[92, 45]⟩ 1982⟩, ⟨124, .int (124) 1984, .str ⟨#[92, 124]⟩ 1988⟩, ⟨94, .int (94) 1990, .str ⟨#[92, 94]⟩ 1994⟩, ⟨36, .int (36) 1996, .str ⟨#[92, 36]⟩ 2000⟩, ⟨92, .int (92) 2002, .str ⟨#[92, 92]⟩ 2006⟩, ⟨46, .int (46) 2008, .str ⟨#[92, 46]⟩ 2012⟩, ⟨38, .int (38) 2014, .str ⟨#[92, 38]⟩ 2018⟩, ⟨126, .int (126) 2020, .str ⟨#[92, 126]⟩ 2024⟩, ⟨35, .int (35) 2026, .str ⟨#[92, 35]⟩ 2030⟩, ⟨32, .int (32) 2032, .str ⟨#[92, 32]⟩ 2036⟩, ⟨9, .int (9) 2038, .str ⟨#[92, 9]⟩ 2042⟩, ⟨10, .int (10) 2044, .str ⟨#[92, 10]⟩ 2048⟩, ⟨13, .int (13) 2050, .str ⟨#[92, 13]⟩ 2054⟩, ⟨11, .int (11) 2056, .str ⟨#[92, 11]⟩ 2060⟩, ⟨12, .int (12) 2062, .str ⟨#[92, 12]⟩ 2066⟩] 24, #[]⟩
noncomputable def ob90 : Obj := ⟨.type "dict", none, .dict #[] 2, #[]⟩
noncomputable def ob91 : Obj := ⟨.type "tuple", none, .seq #[] 0, #[]⟩
noncomputable def ob92 : Obj := ⟨.type "StopIteration", none, .fields #[.ref 91, .none, .none, .none, .bool false, .none], #[]⟩
noncomputable def ob3v5 (P : Params) : Obj := ⟨.type "dict", none, .dict #[ke P ⟨#[95, 95, 110, 97, 109, 101, 95, 95]⟩ 165 (.str ⟨#[114, 101]⟩ 1921), ke P ⟨#[95, 95, 100, 111, 99, 95, 95]⟩ 166 (.none), ke P ⟨#[95, 95, 112, 97, 99, 107, 97, 103, 101, 95, 95]⟩ 167 (.none), ke P ⟨#[95, 95, 108, 111, 97, 100, 101, 114, 95, 95]⟩ 168 (.builtin "__main__.__loader__#opaque"), ke P ⟨#[95, 95, 115, 112, 101, 99, 95, 95]⟩ 169 (.none), ke P ⟨#[95, 95, 97, 110, 110, 111, 116, 97, 116, 105, 111, 110, 115, 95, 95]⟩ 170 (.ref 6), ke P ⟨#[95, 95, 98, 117, 105, 108, 116, 105, 110, 115, 95, 95]⟩ 171 (.ref 4), ke P ⟨#[95, 95, 102, 105, 108, 101, 95, 95]⟩ 173 (.str ⟨#[47, 99, 108, 97, 105, 109, 47, 99, 117, 116, 46, 112, 121]⟩ 172), ke P ⟨#[95, 95, 99, 97, 99, 104, 101, 100, 95, 95]⟩ 174 (.none), ke P ⟨#[95, 115, 114, 101]⟩ 275 (.ref 12), ke P ⟨#[67, 82, 76, 70]⟩ 283 (.str ⟨#[13, 10]⟩ 282), ke P ⟨#[78, 76]⟩ 285 (.str ⟨#[10]⟩ 284), ke P ⟨#[95, 81, 85, 79, 80, 82, 73, 95, 77, 65, 80]⟩ 1313 (.ref 34), ke P ⟨#[95, 81, 85, 79, 80, 82, 73, 95, 72, 69, 65, 68, 69, 82, 95, 77, 65, 80]⟩ 1314 (.ref 39), ke P ⟨#[95, 81, 85, 79, 80, 82, 73, 95, 66, 79, 68, 89, 95, 77, 65, 80]⟩ 1315 (.ref 41), ke P ⟨#[97, 115, 99, 105, 105, 95, 108, 111, 119, 101, 114, 99, 97, 115, 101]⟩ 1317 (.str ⟨#[97, 98, 99, 100, 101, 102, 103, 104, 105, 106, 107, 108, 109, 110, 111, 112, 113, 114, 115, 116, 117, 118, 119, 120, 121, 122]⟩ 1316), ke P ⟨#[97, 115, 99, 105, 105, 95, 117, 112, 112, 101, 114, 99, 97, 115, 101]⟩ 1319 (.str ⟨#[65, 66, 67, 68, 69, 70, 71, 72, 73, 74, 75, 76, 77, 78, 79, 80, 81, 82, 83, 84, 85, 86, 87, 88, 89, 90]⟩ 1318), ke P ⟨#[97, 115, 99, 105, 105, 95, 108, 101, 116, 116, 101, 114, 115]⟩ 1321 (.str ⟨#[97, 98, 99, 100, 101, 102, 103, 104, 105, 106, 107, 108, 109, 110, 111, 112, 113, 114, 115, 116, 117, 118, 119, 120, 121, 122, 65, 66, 67, 68, 69, 70, 71, 72, 73, 74, 75, 76, 77, 78, 79, 80, 81, 82, 83, 84, 85, 86, 87, 88, 89, 90]⟩ 1320), ke P ⟨#[100, 105, 103, 105, 116, 115]⟩ 1323 (.str ⟨#[48, 49, 50, 51, 52, 53, 54, 55, 56, 57]⟩ 1322), ke P ⟨#[104, 101, 120, 100, 105, 103, 105, 116, 115]⟩ 1328 (.str ⟨#[48, 49, 50, 51, 52, 53, 54, 55, 56, 57, 97, 98, 99, 100, 101, 102, 65, 66, 67, 68, 69, 70]⟩ 1327), ke P ⟨#[117, 110, 113, 117, 111, 116, 101]⟩ 1834 (.ref 54), ke P ⟨#[113, 117, 111, 116, 101]⟩ 1841 (.ref 61), ke P ⟨#[95, 81, 85, 79, 80, 82, 73, 95, 66, 79, 68, 89, 95, 69, 78, 67, 79, 68, 69, 95, 77, 65, 80]⟩ 1842 (.ref 63), ke P ⟨#[98, 111, 100, 121, 95, 101, 110, 99, 111, 100, 101]⟩ 1869 (.ref 74), ke P ⟨#[100, 101, 99, 111, 100, 101]⟩ 1882 (.ref 82), ke P ⟨#[95, 116, 119, 105, 110, 95, 114, 101, 95, 49]⟩ 1920 (.ref 87), ke P ⟨#[95, 115, 112, 101, 99, 105, 97, 108, 95, 99, 104, 97, 114, 115, 95, 109, 97, 112]⟩ 2068 (.ref 89)] 29, #[]⟩
noncomputable def objs24 (w : World) : List Obj := [ob28, ob29v1, ob30, ob31, ob32, ob33v4, ob34v4, ob35v4, ob36, ob37, ob38, ob39, ob40, ob41v1, ob42, ob43, ob44, ob45, ob46, ob47, ob48, ob49, ob50, ob51, ob52, ob53, ob54, ob55, ob56, ob57, ob58, ob59, ob60, ob61, ob62, ob63, ob64, ob65, ob66, ob67, ob68, ob69, ob70, ob71, ob72, ob73, ob74, ob75, ob76, ob77, ob78, ob79, ob80, ob81, ob82, ob83, ob84, ob85, ob86, ob87, ob88, ob89, ob90, ob91, ob92]
noncomputable def stO (w : World) : SharedT := ⟨T0 w, (s0 w).heap.objs.size, (s0 w).heap.life, (s0 w).gens, (s0 w).drawn, (s0 w).toks, (s0 w).os⟩
noncomputable def stK (w : World) (x : Ext) (o₃ : Obj) (l : List Obj) (n k : Nat) : SharedT := ⟨putAll l 28 ((putAll (opens w x) 0 .nil).set 3 fun _ => o₃), n, x.life, x.gens, x.drawn, k, x.os⟩
noncomputable def st2 (w : World) (x : Ext) : SharedT := stK w x (ob3 w.params) (objs2 w) 32 286
noncomputable abbrev pos2 : Pos := ⟨3, 0, 3, 2⟩
noncomputable def st1000 (w : World) (x : Ext) : SharedT := stK w x (ob3 w.params) (objs1000 w) 36 289
noncomputable abbrev pos1000 : Pos := ⟨4, 36, 4, 46⟩
noncomputable def st1064 (w : World) (x : Ext) : SharedT := stK w x (ob3 w.params) (objs1064 w) 36 545
noncomputable abbrev pos1064 : Pos := ⟨4, 15, 4, 26⟩
noncomputable def st1128 (w : World) (x : Ext) : SharedT := stK w x (ob3 w.params) (objs1128 w) 36 801
noncomputable abbrev pos1128 : Pos := ⟨4, 15, 4, 26⟩
noncomputable def st1192 (w : World) (x : Ext) : SharedT := stK w x (ob3 w.params) (objs1192 w) 36 1057
noncomputable abbrev pos1192 : Pos := ⟨4, 15, 4, 26⟩
noncomputable def st3 (w : World) (x : Ext) : SharedT := stK w x (ob3v1 w.params) (objs3 w) 38 1314
noncomputable abbrev pos3 : Pos := ⟨4, 0, 4, 11⟩
noncomputable def st13 (w : World) (x : Ext) : SharedT := stK w x (ob3v2 w.params) (objs13 w) 45 1542
noncomputable abbrev pos13 : Pos := ⟨15, 0, 15, 28⟩
noncomputable def st14 (w : World) (x : Ext) : SharedT := stK w x (ob3v3 w.params) (objs14 w) 48 1828
noncomputable abbrev pos14 : Pos := ⟨16, 9, 16, 110⟩
noncomputable def st23 (w : World) (x : Ext) : SharedT := stK w x (ob3v4 w.params) (objs23 w) 88 1923
noncomputable abbrev pos23 : Pos := ⟨95, 0, 95, 8⟩
noncomputable def st24 (w : World) (x : Ext) : SharedT := stK w x (ob3v5 w.params) (objs24 w) 93 2069
noncomputable abbrev pos24 : Pos := ⟨96, 0, 96, 18⟩
noncomputable def envV : Env := { scope := pw.main.scope, locals := mainNs, globals := mainNs, cells := [], code := .ref 30, frame := some 31 }
noncomputable abbrev annV : Option Value := some (.ref 6)
noncomputable abbrev bodyV : List Stmt := behindTheImports pw
noncomputable abbrev codeV : Code := .body bodyV envV
noncomputable abbrev posV : Pos := ⟨0, 0, 0, 0⟩
noncomputable abbrev startQ : Thread := ⟨denQ tableQ codeV, codeV, posV, [topFrame posV]⟩
noncomputable def stA (w : World) : SharedT := ((goQ pw w 28 annV 12 (stO w) (topStub pw)).map (·.1)).getD (stO w)
noncomputable abbrev thrQ (l : List Stmt) (p : Pos) : Thread := ⟨(execsQ l envV).wrap doneF deadEnd id id, codeV, p, [topFrame posV]⟩
noncomputable abbrev ww (a b : Bool) (w : World) : World := (w.withFollow "comprehension-iter-twice" a).withFollow "special-get-raises" b
noncomputable abbrev thrAt (i j : Nat) (p : Pos) : Thread := thrQ ((bodyV.drop i).take j) p
noncomputable def tx0 (w : World) (x : Ext) : Thread := ((goK pw (ww false false w) 28 annV 52 (st2 w x) (thrAt 2 1 pos2)).map (·.2)).getD (thrAt 2 1 pos2)
noncomputable def tx (w : World) (x : Ext) (p : Pos) : Thread := ⟨(tx0 w x).cur, (tx0 w x).code, p, (tx0 w x).stack⟩
noncomputable abbrev posT0 : Pos := ⟨4, 36, 4, 46⟩
noncomputable abbrev posT : Pos := ⟨4, 15, 4, 26⟩
end TIkTop1
section TIkTop2
open PySem PySem.W PyProof.Rows PySem.Calls
set_option maxRecDepth 100000
theorem topQ_spec {p : Program} {w : World} {n₀ : Nat} {ann : Option Value} : ∀ (n : Nat) (s : SharedT) (t : Thread) (s' : SharedT), topQ p w n₀ ann n s t = some s' → topRun treeTable p w n₀ ann n s.abs t = some s'.abs
  | 0, _, _, _, h => by cases h
  | n + 1, s, t, s', h => by
    unfold topQ at h
    unfold topRun
    cases ht : through t with
    | true => rw [ht] at h; cases h; rfl
    | false =>
      rw [ht] at h
      have hok : okQ n₀ ann t = stepOk n₀ ann t := by rw [PySem.W.Fast.te6613529449190102663]
      cases hk : stepOk n₀ ann t with
      | false => simp only [hok, hk] at h; cases h
      | true =>
        simp only [hok, hk] at h
        have hst : stepQ (denQ tableQ) p w s t = stepT (denote treeTable) p w s t := by
          rw [PySem.W.Fast.te10156331382660048174, PySem.W.Fast.te11892475500146522536, PySem.W.Fast.te14364793385576792824]
        rw [hst] at h
        cases hs : stepT (denote treeTable) p w s t with
        | none => rw [hs] at h; cases h
        | some r =>
          obtain ⟨s₂, t₂⟩ := r
          rw [hs] at h
          simp only [stepT_spec hs]
          exact topQ_spec n s₂ t₂ s' h
theorem goQ_spec {p : Program} {w : World} {n₀ : Nat} {ann : Option Value} : ∀ (n : Nat) (s : SharedT) (t : Thread) (s' : SharedT) (t' : Thread), goQ p w n₀ ann n s t = some (s', t') → topGo treeTable p w n₀ ann n s.abs t = some (s'.abs, t')
  | 0, _, _, _, _, h => by cases h; rfl
  | n + 1, s, t, s', t', h => by
    unfold goQ at h
    unfold topGo
    cases ht : through t with
    | true => rw [ht] at h; cases h
    | false =>
      rw [ht] at h
      have hok : okQ n₀ ann t = stepOk n₀ ann t := by rw [PySem.W.Fast.te6613529449190102663]
      cases hk : stepOk n₀ ann t with
      | false => simp only [hok, hk] at h; cases h
      | true =>
        simp only [hok, hk] at h
        have hst : stepQ (denQ tableQ) p w s t = stepT (denote treeTable) p w s t := by
          rw [PySem.W.Fast.te10156331382660048174, PySem.W.Fast.te11892475500146522536, PySem.W.Fast.te14364793385576792824]
        rw [hst] at h
        cases hs : stepT (denote treeTable) p w s t with
        | none => rw [hs] at h; cases h
        | some r =>
          obtain ⟨s₂, t₂⟩ := r
          rw [hs] at h
          simp only [stepT_spec hs]
          exact goQ_spec n s₂ t₂ s' t' h
theorem segQ_spec {p : Program} {w : World} {n₀ : Nat} {ann : Option Value} : ∀ (n : Nat) (s : SharedT) (t : Thread) (f : Flow) (s' : SharedT) (c : Code) (q : Pos), segQ p w n₀ ann n s t = some (f, s', c, q) → segRun treeTable p w n₀ ann 1 n s.abs t = some (f, s'.abs, c, q)
  | 0, _, _, _, _, _, _, h => by cases h
  | n + 1, s, t, f, s', c, q, h => by
    have h' : stepK (denQ tableQ) p w n₀ ann (fun f s c q => some (f, s, c, q)) (segQ p w n₀ ann n) s t = some (f, s', c, q) := h
    have hd : denQ tableQ = denote treeTable := by rw [PySem.W.Fast.te11892475500146522536, PySem.W.Fast.te14364793385576792824]
    rw [hd] at h'
    unfold segRun
    rcases stepK_spec h' with ⟨f', h1, h2⟩ | ⟨h1, h2, s₂, t₂, h3, h4⟩
    · rw [h1]
      cases h2
      rfl
    · rw [h1, h2]
      simp only [stepT_spec h3]
      exact segQ_spec n s₂ t₂ f s' c q h4
theorem goK_spec {p : Program} {w : World} {n₀ : Nat} {ann : Option Value} : ∀ (n : Nat) (s : SharedT) (t : Thread) (s' : SharedT) (t' : Thread), goK p w n₀ ann n s t = some (s', t') → segGo treeTable p w n₀ ann 1 n s.abs t = some (s'.abs, t')
  | 0, _, _, _, _, h => by cases h; rfl
  | n + 1, s, t, s', t', h => by
    have h' : stepK (denQ tableQ) p w n₀ ann (fun _ _ _ _ => none) (goK p w n₀ ann n) s t = some (s', t') := h
    have hd : denQ tableQ = denote treeTable := by rw [PySem.W.Fast.te11892475500146522536, PySem.W.Fast.te14364793385576792824]
    rw [hd] at h'
    unfold segGo
    rcases stepK_spec h' with ⟨f', h1, h2⟩ | ⟨h1, h2, s₂, t₂, h3, h4⟩
    · cases h2
    · rw [h1, h2]
      simp only [stepT_spec h3]
      exact goK_spec n s₂ t₂ s' t' h4
theorem openW_eq (w : World) : openW w = fencedOpening treeTable pw w 40000 := by
  unfold fencedOpening
  rw [PySem.W.Fast.te10274390034422433532, PySem.W.Fast.te1435165496053646825, PySem.W.Fast.te14289696077712309145, PySem.W.Fast.te14364793385576792824]
theorem thrQ_eq (l : List Stmt) (p : Pos) : thrQ l p = piecesOf l envV codeV p [topFrame posV] := by
  show _ = (⟨(execs l envV).wrap doneF deadEnd id id, codeV, p, [topFrame posV]⟩ : Thread)
  rw [PySem.W.Fast.te12563942051412417395]
theorem thrAt_eq (i j : Nat) (p : Pos) : thrAt i j p = piecesOf ((bodyV.drop i).take j) envV codeV p [topFrame posV] := thrQ_eq _ p
theorem startQ_eq : startQ = ⟨denote treeTable codeV, codeV, posV, [topFrame posV]⟩ := by
  rw [PySem.W.Fast.te11892475500146522536, PySem.W.Fast.te14364793385576792824]
theorem buildC_get : ∀ (l : List Obj) (i : Nat) (t t' : BT), buildC l i t = some t' → ∀ j, t'.get j = if i ≤ j ∧ j < i + l.length then l[j - i]? else t.get j
  | [], i, t, t', h, j => by
    cases h
    rw [if_neg (by simp only [List.length_nil]; lia)]
  | o :: l, i, t, t', h, j => by
    unfold buildC at h
    cases hi : ((t.ins i o).get i).isSome with
    | false => rw [hi] at h; cases h
    | true =>
      rw [hi] at h
      have ih := buildC_get l (i + 1) _ _ h j
      rw [ih]
      simp only [List.length_cons]
      by_cases h1 : j = i
      · subst h1
        rw [if_neg (by lia), if_pos (by lia), BT.get_ins o t j hi, if_pos rfl, Nat.sub_self]; rfl
      · by_cases h2 : i + 1 ≤ j ∧ j < i + 1 + l.length
        · rw [if_pos h2, if_pos (by lia), show j - i = (j - (i + 1)) + 1 by lia, List.getElem?_cons_succ]
        · rw [if_neg h2, if_neg (by lia), BT.get_ins o t i hi, if_neg h1]
theorem buildC_abs {h : Heap} {T : BT} (e : buildC h.objs.toList 0 .nil = some T) : absHeap T h.objs.size h.life = h := by
  have key : (absHeap T h.objs.size h.life).objs = h.objs := by
    apply Array.ext
    · exact absHeap_size ..
    · intro i h1 h2
      have := absHeap_at T h.objs.size h.life i
      rw [if_pos h2, buildC_get _ _ _ _ e i, if_pos (by simpa using h2)] at this
      rw [Array.getElem?_eq_getElem h1] at this
      have h3 := Option.some.inj this
      rw [h3]
      simp [h2]
  have kl : (absHeap T h.objs.size h.life).life = h.life := rfl
  cases h
  cases hh : absHeap T _ _
  rw [hh] at key kl
  simp only at key kl
  subst key; subst kl; rfl
noncomputable def ask0 (w : World) := ((openW w).isSome, (s0 w).heap.isNs mainGlobals && (s0 w).gens.size == 0, (s0 w).heap.objs.size, (s0 w).heap.nsMap mainGlobals "__annotations__", (buildC (s0 w).heap.objs.toList 0 .nil).isSome)
noncomputable abbrev posE : Pos := ⟨258, 0, 271, 109⟩
noncomputable def stE (w : World) : SharedT := ((segQ pw w 28 annV 1500 (st24 w (ext w)) (thrQ (bodyV.drop 24) pos24)).map (·.2.1)).getD (st24 w (ext w))
noncomputable def stF (w : World) : Option SharedT := topQ pw w 28 annV 30 (stE w) ⟨doneF .next, codeV, posE, [topFrame posV]⟩
noncomputable def askQ (w : World) := (stF w).map fun sT => ((staticsOk (importedModules pw.main.body) (s0 w).heap sT.abs.heap && namesBound pw sT.abs.heap && gensDone sT.abs && laidKept (s0 w).heap sT.abs.heap), (openSeen qv looseV (importedModules pw.main.body) (fun _ => true) true sT.abs, obsV sT.abs))
structure Run (w : World) : Prop where
  a0 : ask0 w = (true, true, 28, annV, true)
  a1 : goQ pw w 28 annV 12 (stO w) (topStub pw) = some (stA w, startQ)
  a2 : segQ pw w 28 annV 100 (stA w) (thrAt 0 2 posV) = some (.next, st2 w (ext w), codeV, pos2)
  c1 : ∃ n, n ≤ 60 ∧ goK pw w 28 annV n (st2 w (ext w)) (thrAt 2 1 pos2) = some (st1000 w (ext w), tx w (ext w) posT0)
  c2 : goK pw w 28 annV 2368 (st1000 w (ext w)) (tx w (ext w) posT0) = some (st1064 w (ext w), tx w (ext w) posT)
  c3 : goK pw w 28 annV 2368 (st1064 w (ext w)) (tx w (ext w) posT) = some (st1128 w (ext w), tx w (ext w) posT)
  c4 : goK pw w 28 annV 2368 (st1128 w (ext w)) (tx w (ext w) posT) = some (st1192 w (ext w), tx w (ext w) posT)
  c5 : segQ pw w 28 annV 2600 (st1192 w (ext w)) (tx w (ext w) posT) = some (.next, st3 w (ext w), codeV, pos3)
  a3 : segQ pw w 28 annV 4000 (st3 w (ext w)) (thrAt 3 10 pos3) = some (.next, st13 w (ext w), codeV, pos13)
  a4 : segQ pw w 28 annV 5000 (st13 w (ext w)) (thrAt 13 1 pos13) = some (.next, st14 w (ext w), codeV, pos14)
  a5 : segQ pw w 28 annV 2000 (st14 w (ext w)) (thrAt 14 9 pos14) = some (.next, st23 w (ext w), codeV, pos23)
  a6 : segQ pw w 28 annV 2000 (st23 w (ext w)) (thrAt 23 1 pos23) = some (.next, st24 w (ext w), codeV, pos24)
  a7 : segQ pw w 28 annV 1500 (st24 w (ext w)) (thrQ (bodyV.drop 24) pos24) = some (.next, stE w, codeV, posE)
  a8 : askQ w = some (true, (openGood qv looseV, obsE))
theorem block0 (w : World) (S : Shared) : segRun treeTable pw w 28 annV 1 1 S (blockOf bodyV envV codeV posV [topFrame posV]) = some (.next, S, codeV, posV) := by kernel_rfl!
section
variable {tb : String → Option Builtin} {p : Program} {w : World} {n₀ : Nat} {ann : Option Value} {env : Env} {b : List Stmt} {c : Code} {q : Pos}
theorem piece_step {i j n N : Nat} {s s' r : Shared} {pos p' : Pos} (h : segRun tb p w n₀ ann 1 n s (piecesOf ((b.drop i).take j) env c pos [topFrame q]) = some (.next, s', c, p'))
    (k : topRun tb p w n₀ ann N s' (restOf (b.drop (i + j)) env c p' [topFrame q]) = some r) : topRun tb p w n₀ ann (n + N) s (restOf (b.drop i) env c pos [topFrame q]) = some r := by
  have e := piece_app (rest := b.drop (i + j)) h k
  have e' : (b.drop i).take j ++ b.drop (i + j) = b.drop i := by
    have := List.take_append_drop j (b.drop i)
    rwa [List.drop_drop] at this
  rwa [e'] at e
theorem piece_end {i n N : Nat} {s s' r : Shared} {pos p' : Pos} (h : segRun tb p w n₀ ann 1 n s (piecesOf (b.drop i) env c pos [topFrame q]) = some (.next, s', c, p'))
    (k : topRun tb p w n₀ ann N s' ⟨doneF .next, c, p', [topFrame q]⟩ = some r) : topRun tb p w n₀ ann (n + N) s (restOf (b.drop i) env c pos [topFrame q]) = some r := by
  have e := piece_app (rest := []) h (piece_nil k)
  rwa [List.append_nil] at e
theorem piece_first {k₀ k₁ N : Nat} {so sA s' r : Shared} {t₀ : Thread} {p₀ p₁ : Pos} (hc : c = .body b env) (h₀ : topGo tb p w n₀ ann k₀ so t₀ = some (sA, ⟨denote tb c, c, p₀, [topFrame q]⟩)) (h₁ : segRun tb p w n₀ ann 1 k₁ sA (blockOf b env c p₀ [topFrame q]) = some (.next, s', c, p₁))
    (k : topRun tb p w n₀ ann N s' (restOf (b.drop 0) env c p₁ [topFrame q]) = some r) : topRun tb p w n₀ ann (k₀ + (k₁ + N)) so t₀ = some r := by
  subst hc
  rw [List.drop_zero] at k
  exact go_top h₀ (piece_block h₁ k)
theorem top_more {n N : Nat} {s r : Shared} {t : Thread} (h : topRun tb p w n₀ ann n s t = some r) (hn : n ≤ N) : topRun tb p w n₀ ann N s t = some r := by
  have := topRun_mono (N - n) _ _ _ _ h
  rwa [Nat.add_sub_cancel' hn] at this
end
theorem top_end {q : Program} {loose : List Str} {p : Program} {w : World} {N : Nat} {s₀ s₁ : Shared} {n₀ : Nat} {ann : Option Value} {Yf : Shared → ObsT} {ye : ObsT} (h0 : fencedOpening treeTable p w N = some s₀) (h1 : (s₀.heap.isNs mainGlobals && s₀.gens.size == 0) = true) (h2 : s₀.heap.objs.size = n₀) (h3 : s₀.heap.nsMap mainGlobals "__annotations__" = ann)
    (h4 : topRun treeTable p w n₀ ann N s₀ (topStub p) = some s₁) (h5 : (staticsOk (importedModules p.main.body) s₀.heap s₁.heap && namesBound p s₁.heap && gensDone s₁ && laidKept s₀.heap s₁.heap) = true)
    (h6 : (openSeen q loose (importedModules p.main.body) (fun _ => true) true s₁, Yf s₁) = (openGood q loose, ye)) : (openEnds treeTable p w N).map (fun s => (openSeen q loose (importedModules p.main.body) (fun _ => true) true s, Yf s)) = some (openGood q loose, ye) := by
  subst h2; subst h3
  unfold openEnds
  rw [h0]
  show (topFrom treeTable p w N s₀).map _ = _
  unfold topFrom
  rw [h1]
  simp only [h4]
  show ((match (staticsOk (importedModules p.main.body) s₀.heap s₁.heap && namesBound p s₁.heap && gensDone s₁ && laidKept s₀.heap s₁.heap) with
      | true => some s₁
      | false => none) : Option Shared).map _ = _
  rw [h5]
  exact congrArg some h6
theorem five {α β γ δ ε : Type} {a a' : α} {b b' : β} {c c' : γ} {d d' : δ} {e e' : ε} (h : (a, b, c, d, e) = (a', b', c', d', e')) : a = a' ∧ b = b' ∧ c = c' ∧ d = d' ∧ e = e' := by
  simpa only [Prod.mk.injEq] using h
theorem ask0_parts {w : World} (h : ask0 w = (true, true, 28, annV, true)) : (openW w).isSome = true ∧ ((s0 w).heap.isNs mainGlobals && (s0 w).gens.size == 0) = true ∧ (s0 w).heap.objs.size = 28 ∧ (s0 w).heap.nsMap mainGlobals "__annotations__" = annV ∧ (buildC (s0 w).heap.objs.toList 0 .nil).isSome = true := five h
theorem getD_of {α : Type} {x : Option α} {d : α} (h : x.isSome = true) : x = some (x.getD d) := by
  cases x with
  | none => cases h
  | some s => rfl
theorem s0_of {w : World} (h : (openW w).isSome = true) : openW w = some (s0 w) := getD_of h
theorem abs_of {s : Shared} {T : BT} (h : buildC s.heap.objs.toList 0 .nil = some T) : SharedT.abs ⟨T, s.heap.objs.size, s.heap.life, s.gens, s.drawn, s.toks, s.os⟩ = s := by
  show (⟨absHeap T s.heap.objs.size s.heap.life, s.gens, s.drawn, s.toks, s.os⟩ : Shared) = s
  rw [buildC_abs h]
theorem stO_abs {w : World} (h : (buildC (s0 w).heap.objs.toList 0 .nil).isSome = true) : (stO w).abs = s0 w := by
  have e : buildC (s0 w).heap.objs.toList 0 .nil = some (T0 w) := getD_of h
  unfold stO
  generalize T0 w = T at e
  generalize s0 w = s at e
  exact abs_of e
theorem map_some {α β : Type} {x : Option α} {f : α → β} {b : β} (h : x.map f = some b) : ∃ a, x = some a ∧ f a = b := Option.map_eq_some_iff.mp h
theorem askQ_parts {w : World} (h : askQ w = some (true, (openGood qv looseV, obsE))) : ∃ sT, stF w = some sT ∧ ((staticsOk (importedModules pw.main.body) (s0 w).heap sT.abs.heap && namesBound pw sT.abs.heap && gensDone sT.abs && laidKept (s0 w).heap sT.abs.heap), (openSeen qv looseV (importedModules pw.main.body) (fun _ => true) true sT.abs, obsV sT.abs)) = (true, (openGood qv looseV, obsE)) := map_some h
theorem pair_parts {α β : Type} {a a' : α} {b b' : β} (h : (a, b) = (a', b')) : a = a' ∧ b = b' := by
  simpa only [Prod.mk.injEq] using h
theorem comp_run {w : World} (R : Run w) : ∃ n, n ≤ 9800 ∧ segRun treeTable pw w 28 annV 1 n (st2 w (ext w)).abs (thrAt 2 1 pos2) = some (.next, (st3 w (ext w)).abs, codeV, pos3) := by
  obtain ⟨n, hn, h1⟩ := R.c1
  have t1 := goK_spec _ _ _ _ _ h1
  have t2 := goK_spec _ _ _ _ _ R.c2
  have t3 := goK_spec _ _ _ _ _ R.c3
  have t4 := goK_spec _ _ _ _ _ R.c4
  have t5 := segQ_spec _ _ _ _ _ _ _ R.c5
  exact ⟨_, Nat.le_trans (Nat.add_le_add_right hn _) (by decide), seg_go t1 (seg_go t2 (seg_go t3 (seg_go t4 t5)))⟩
theorem run_top {w : World} (R : Run w) {sT : SharedT} (h : stF w = some sT) : topRun treeTable pw w 28 annV 40000 (s0 w) (topStub pw) = some sT.abs := by
  have t8 : topRun treeTable pw w 28 annV 30 (stE w).abs ⟨doneF .next, codeV, posE, [topFrame posV]⟩ = some sT.abs := topQ_spec _ _ _ _ h
  have t7 := segQ_spec _ _ _ _ _ _ _ R.a7
  have t6 := segQ_spec _ _ _ _ _ _ _ R.a6
  have t5 := segQ_spec _ _ _ _ _ _ _ R.a5
  have t4 := segQ_spec _ _ _ _ _ _ _ R.a4
  have t3 := segQ_spec _ _ _ _ _ _ _ R.a3
  obtain ⟨n, hn, tc⟩ := comp_run R
  have t2 := segQ_spec _ _ _ _ _ _ _ R.a2
  have t1 : topGo treeTable pw w 28 annV 12 (stO w).abs (topStub pw) = some ((stA w).abs, startQ) := goQ_spec _ _ _ _ _ R.a1
  rw [startQ_eq, stO_abs (ask0_parts R.a0).2.2.2.2] at t1
  rw [thrQ_eq] at t7
  rw [thrAt_eq] at t2 tc t3 t4 t5 t6
  have k7 := piece_end (b := bodyV) t7 t8
  have k6 := piece_step (b := bodyV) t6 k7
  have k5 := piece_step (b := bodyV) t5 k6
  have k4 := piece_step (b := bodyV) t4 k5
  have k3 := piece_step (b := bodyV) t3 k4
  have kc := piece_step (b := bodyV) tc k3
  have k2 := piece_step (b := bodyV) t2 kc
  have k1 := piece_first (b := bodyV) rfl t1 (block0 w (stA w).abs) k2
  exact top_more k1 (by lia)
theorem fence_of {w : World} (h : (openW w).isSome = true) : fencedOpening treeTable pw w 40000 = some (s0 w) := (openW_eq w).symm.trans (s0_of h)
theorem left_one {w : World} (R : Run w) : (openEnds treeTable pw w 40000).map (fun s => (openSeen qv looseV (importedModules pw.main.body) (fun _ => true) true s, obsV s)) = some (openGood qv looseV, obsE) := by
  obtain ⟨o1, o2, o3, o4, o5⟩ := ask0_parts R.a0
  obtain ⟨sT, h5, h6⟩ := askQ_parts R.a8
  have h7 := pair_parts h6
  exact top_end (fence_of o1) o2 o3 o4 (run_top R h5) h7.1 h7.2
theorem left_all (h : ∀ w a b, Run (ww a b w)) : LeftO pw qv looseV (fun _ => true) obsV (fun _ => obsE) 40000 := by
  intro w
  have e1 := World.withFollow_self w "comprehension-iter-twice"
  have e2 := World.withFollow_self (w.withFollow "comprehension-iter-twice" (w.params.followText "comprehension-iter-twice")) "special-get-raises"
  have := h w (w.params.followText "comprehension-iter-twice") ((w.withFollow "comprehension-iter-twice" (w.params.followText "comprehension-iter-twice")).params.followText "special-get-raises")
  unfold ww at this
  rw [e2, e1] at this
  exact left_one this
end TIkTop2
section TIkHd4
open PySem PySem.W PyProof.Rows PySem.Calls PySem.Builtin.Re PySem.Builtin
set_option maxRecDepth 100000
theorem boot_names : bnames.map (fun p => bootBuiltins p.1) = bnames.map (fun p => some p.2) := by kernel_rfl!
theorem lookup_mem {α : Type} {l : List (Str × α)} {x : Str} {v : α} (h : l.lookup x = some v) : (x, v) ∈ l := by
  induction l with
  | nil => cases h
  | cons p l ih =>
    rw [List.lookup_cons] at h
    by_cases e : x = p.1
    · rw [e, beq_self_eq_true] at h
      cases h
      rw [e]; exact .head _
    · rw [beq_eq_false_iff_ne.mpr e] at h
      exact .tail _ (ih h)
theorem map_at {α β : Type} {f g : α → β} {l : List α} (h : l.map f = l.map g) {a : α} (ha : a ∈ l) : f a = g a := List.map_inj_left.mp h a ha
theorem fields_of {α : Type} {d : Data} {F : Array Value → Option α} {r : α} (h : (match (generalizing := false) d with | .fields vs => F vs | _ => none) = some r) : ∃ vs, d = .fields vs ∧ F vs = some r := by
  cases d with
  | fields vs => exact ⟨vs, rfl, h⟩
  | _ => cases h
theorem at_i {α : Type} {l m : List α} {x y : α} (h : l = m) (i : Nat) (hx : l[i]? = some x := by exact rfl) (hy : m[i]? = some y := by exact rfl) : x = y := by
  subst h
  exact Option.some.inj (hx.symm.trans hy)
theorem fnX_eq {d : FuncData} {qual : Str} {params : Arguments} {body : List Stmt} {scope : Scope} {dV code : Value} (h1 : d.qualname = qual) (h2 : d.params = params) (h3 : d.body = .stmts body) (h4 : d.scope = scope) (h5 : d.globals = mainGlobals) (h6 : d.closure = []) (h7 : d.defaults = dV) (h8 : d.kwdefaults = .none) (h9 : d.builtins = builtinsNs) (h10 : d.code = code) :
    d = PySem.W.fnX d.name qual params body scope [] dV .none d.doc d.pyModule d.annotations code d.closureTuple := by
  cases d
  cases h1; cases h2; cases h3; cases h4; cases h5; cases h6; cases h7; cases h8; cases h9; cases h10
  rfl
section
variable {C : Cx} {g : Addr → Option Obj} (k : ∀ b o, g b = some o → C.B.heap.get? b = some o)
include k
theorem fn_of {f code : Addr} {qual : Str} {n : Nat} {dV : Value} (h : fnL g f = fnE qual n dV code) : FnAtC C f qual (fnP (stAt n)) (fnB (stAt n)) (fnS (stAt n)) dV (.ref code) := by
  obtain ⟨o, ho, h⟩ := Option.bind_eq_some_iff.mp (show (g f).bind _ = some _ from h)
  cases hd : o.data with
  | func d =>
    rw [hd] at h
    have h := Option.some.inj h
    have h10 : d.code = .ref code := congrArg (·.2.2.2.2.2.2.2.2.2.1) h
    have h11 : codL g d.code = some (.str qual 0) := congrArg (·.2.2.2.2.2.2.2.2.2.2) h
    refine ⟨o, d.name, d.doc, d.pyModule, d.annotations, d.closureTuple, k _ _ ho, hd.trans (congrArg _ (fnX_eq (congrArg (·.1) h) (congrArg (·.2.1) h) (congrArg (·.2.2.1) h) (congrArg (·.2.2.2.1) h) (congrArg (·.2.2.2.2.1) h) (congrArg (·.2.2.2.2.2.1) h) (congrArg (·.2.2.2.2.2.2.1) h) (congrArg (·.2.2.2.2.2.2.2.1) h) (congrArg (·.2.2.2.2.2.2.2.2.1) h) h10)), ?_⟩
    rw [h10] at h11
    obtain ⟨oc, hoc, h12⟩ := Option.bind_eq_some_iff.mp (show (g code).bind _ = some _ from h11)
    obtain ⟨vs, hdc, h12⟩ := fields_of (F := fun vs => (vs[1]?).map er) h12
    obtain ⟨v, hv, he⟩ := Option.map_eq_some_iff.mp h12
    obtain ⟨t, rfl⟩ := er_str he
    exact ⟨code, oc, vs, t, rfl, k _ _ hoc, hdc, hv⟩
  | _ => rw [hd] at h; cases h
theorem lst_of_look {a : Addr} {xs : List Value} (h : seqL g a = some (.type "list", none, #[], some xs)) : At C.B.heap a (lst xs) := by
  unfold seqL at h
  obtain ⟨o, ho, h⟩ := Option.map_eq_some_iff.mp h
  obtain ⟨cls, dict, data, slots⟩ := o
  simp only [Prod.mk.injEq] at h
  obtain ⟨rfl, rfl, rfl, h⟩ := h
  cases data with
  | seq items n => exact ⟨_, k _ _ ho, items, n, rfl, by simpa using h⟩
  | _ => cases h
theorem tup_of_look {a : Addr} {xs : List Value} (h : seqL g a = some (.type "tuple", none, #[], some xs)) : At C.B.heap a (tup xs) := by
  unfold seqL at h
  obtain ⟨o, ho, h⟩ := Option.map_eq_some_iff.mp h
  obtain ⟨cls, dict, data, slots⟩ := o
  simp only [Prod.mk.injEq] at h
  obtain ⟨rfl, rfl, rfl, h⟩ := h
  cases data with
  | seq items n => exact ⟨_, k _ _ ho, items, n, rfl, by simpa using h⟩
  | _ => cases h
theorem dic_of {a : Addr} (h : dicB g a = some (.type "dict", none, #[], true)) : ∃ f, C.B.heap.MapOf (intKind C.prog C.w) a f ∧ ∀ c ∈ ([61, 67, 56, 57, 65] : List Int), f c = none := by
  unfold dicB at h
  obtain ⟨o, ho, h⟩ := Option.map_eq_some_iff.mp h
  obtain ⟨cls, dict, data, slots⟩ := o
  simp only [Prod.mk.injEq] at h
  obtain ⟨rfl, rfl, rfl, h⟩ := h
  cases data with
  | dict es ep =>
    have key : ∀ e ∈ es, ∃ i t, e.key = .int i t ∧ e.hash = hashInt i ∧ i ∉ ([61, 67, 56, 57, 65] : List Int) := by
      intro e he
      have := List.all_eq_true.mp h e (Array.mem_toList_iff.mpr he)
      cases hk : e.key with
      | int i t =>
        rw [hk] at this
        simp only [Bool.and_eq_true, decide_eq_true_eq, Bool.not_eq_true'] at this
        exact ⟨i, t, rfl, this.1, fun hm => by rw [List.contains_iff_mem.mpr hm] at this; cases this.2⟩
      | _ => rw [hk] at this; cases this
    refine ⟨fun c => findBy (intKind C.prog C.w).is es c, ⟨_, es, ep, k _ _ ho, ⟨rfl, rfl, rfl⟩, rfl, ?_, fun _ => rfl⟩, ?_⟩
    · intro e he
      obtain ⟨i, t, h1, h2, _⟩ := key e he
      exact ⟨i, by rw [h1]; simp [intKind, Value.isInt], h2⟩
    · intro c hc
      show (es.find? fun e => Value.isInt c e.key).map (·.val) = none
      rw [Option.map_eq_none_iff, Array.find?_eq_none]
      intro e he
      obtain ⟨i, t, h1, h2, h3⟩ := key e he
      rw [h1]
      simp only [Value.isInt, beq_iff_eq]
      rintro rfl
      exact h3 hc
  | _ => cases h
theorem re_of {a : Addr} (h : reL g a = some (.type "re.Pattern", none, #[], 0, 1, .ref 86)) (h2 : rawL g 86 = some reCode) : ReAt C.B.heap a := by
  obtain ⟨o, ho, h⟩ := Option.bind_eq_some_iff.mp (show (g a).bind _ = some _ from h)
  obtain ⟨vs, hd, h⟩ := fields_of (F := fun vs => some (o.cls, o.dict, o.slots, reRawNat (vs.getD 6 .none), reRawNat (vs.getD 2 .none), vs.getD 5 .none)) h
  have h := Option.some.inj h
  have h3 : reRawNat (vs.getD 6 .none) = 0 := congrArg (·.2.2.2.1) h
  have h4 : reRawNat (vs.getD 2 .none) = 1 := congrArg (·.2.2.2.2.1) h
  have h5 : vs.getD 5 .none = .ref 86 := congrArg (·.2.2.2.2.2) h
  have h1 : o = { cls := .type "re.Pattern", dict := none, data := .fields vs, slots := #[] } := by
    cases o
    cases hd
    cases (congrArg (·.1) h : _ = Value.type "re.Pattern")
    cases (congrArg (·.2.1) h : _ = (none : Option Addr))
    cases (congrArg (·.2.2.1) h : _ = (#[] : Array (Option Value)))
    rfl
  rw [h1] at ho
  obtain ⟨o', ho', h2⟩ := Option.bind_eq_some_iff.mp (show (g 86).bind _ = some _ from h2)
  cases hd : o'.data with
  | seq xs n =>
    rw [hd] at h2
    exact ⟨vs, 86, o', xs, n, k _ _ ho, h3, h4, h5, k _ _ ho', hd, Option.some.inj h2⟩
  | _ => rw [hd] at h2; cases h2
theorem code_of {a P : Addr} {i1 i2 : Int} {file : Str} {b : Bool} (h : codeL g a = some (.type "code", some (.ref P), .int i1 0, .bool b, .int i2 0, .str file 0)) (hne : a ≠ P) : CodeHd C.B.heap a P := by
  obtain ⟨o, ho, h⟩ := Option.bind_eq_some_iff.mp (show (g a).bind _ = some _ from h)
  obtain ⟨vs, hd, h⟩ := fields_of (F := fun vs => some (o.cls, vs[11]?, er (vs.getD 7 .none), er (vs.getD 9 .none), er (vs.getD 10 .none), er (vs.getD 18 .none))) h
  have h := Option.some.inj h
  have h2 : vs[11]? = some (.ref P) := congrArg (·.2.1) h
  obtain ⟨t1, e1⟩ := er_int (congrArg (·.2.2.1) h : er (vs.getD 7 .none) = .int i1 0)
  obtain ⟨t2, e3⟩ := er_int (congrArg (·.2.2.2.2.1) h : er (vs.getD 10 .none) = .int i2 0)
  obtain ⟨t3, e4⟩ := er_str (congrArg (·.2.2.2.2.2) h : er (vs.getD 18 .none) = .str file 0)
  exact ⟨o, vs, file, t3, i1, t1, b, i2, t2, k _ _ ho, congrArg (·.1) h, hd, h2, by rw [Array.getD_eq_getD_getElem?, h2]; rfl, e4, e1, er_bool (congrArg (·.2.2.2.1) h), e3, hne⟩
end
theorem gOf_some {h : Heap} {b : Addr} {o : Obj} (e : gOf h b = some o) : h.get? b = some o ∧ b ≠ 101 := by
  unfold gOf at e
  cases hb : Nat.beq b 101 with
  | true => rw [hb] at e; cases e
  | false => rw [hb] at e; exact ⟨e, Nat.ne_of_beq_eq_false hb⟩
noncomputable abbrev cxV (w : World) (s₁ : Shared) : Cx := ⟨pw, w, { s₁ with heap := hideAll s₁.heap [101] }⟩
theorem ns_same {h : Heap} {a : Addr} {m m' : Str → Option Value} (x : h.Ns a m) (y : h.Ns a m') : m = m' := by
  obtain ⟨o, es, ep, e1, e2, _, e3⟩ := x
  obtain ⟨o', es', ep', f1, f2, _, f3⟩ := y
  rw [e1] at f1
  cases f1
  rw [e2] at f2
  cases f2
  funext n
  rw [← e3, ← f3]
theorem base_of {w : World} {s₀ s₁ : Shared} {loose : List Str} {q : Program} {mean : ExcName → Option Value} {mg mb : Str → Option Value} (Y : obsV s₀ = obsE) (kp : ∀ b o, s₀.heap.get? b = some o → s₁.heap.get? b = some o) (T : Top q loose mean mg mb s₁.heap) :
    Base2 (cxV w s₁) mg layV 105 101 := by
  have k : ∀ b o, gOf s₀.heap b = some o → (cxV w s₁).B.heap.get? b = some o := fun b o e => by
    obtain ⟨e1, e2⟩ := gOf_some e
    exact hideAll_get _ (kp _ _ e1) (by simpa using e2)
  have y1 : (gNames.map fun x => (s₀.heap.nsMap mainGlobals x).map er) = (globs layV).map fun p => some p.2 := congrArg (·.1) Y
  have y2 : (bNames.map fun x => s₀.heap.nsMap mainGlobals x) = bNames.map fun _ => none := congrArg (·.2.1) Y
  have y3 : fnAll (gOf s₀.heap) = fnExp := congrArg (·.2.2.1) Y
  have y4 := congrArg (·.2.2.2.1) Y
  have y5 : dicB (gOf s₀.heap) 89 = some (.type "dict", none, #[], true) := congrArg (·.2.2.2.2.1) Y
  have y6 : reL (gOf s₀.heap) 87 = some (.type "re.Pattern", none, #[], 0, 1, .ref 86) := congrArg (·.2.2.2.2.2.1) Y
  have y7 : rawL (gOf s₀.heap) 86 = some reCode := congrArg (·.2.2.2.2.2.2.1) Y
  have y8 := congrArg (·.2.2.2.2.2.2.2.1) Y
  have y9 : s₀.heap.nsMap mainGlobals "__builtins__" = some (.ref 4) := congrArg (·.2.2.2.2.2.2.2.2.1) Y
  have y10 := congrArg (·.2.2.2.2.2.2.2.2.2.1) Y
  have y11 : s₀.heap.get? 101 = some { cls := .none, data := .fields #[] } := congrArg (·.2.2.2.2.2.2.2.2.2.2.1) Y
  have y12 := congrArg (·.2.2.2.2.2.2.2.2.2.2.2) Y
  have hm : mg = s₀.heap.nsMap mainGlobals := ns_same T.g ((Heap.Ns.of_isNs y12).keeps kp)
  have hP : s₁.heap.get? 101 = some { cls := .none, data := .fields #[] } := kp _ _ y11
  -- what is no plain table stays
  have kn : ∀ {a : Addr} {m : Str → Option Value}, s₁.heap.Ns a m → (cxV w s₁).B.heap.Ns a m := fun {a m} x => by
    obtain ⟨o, es, ep, e1, e2, e3, e4⟩ := x
    refine ⟨o, es, ep, hideAll_get _ e1 ?_, e2, e3, e4⟩
    intro hm
    rw [List.mem_singleton] at hm
    subst hm
    rw [hP] at e1
    cases e1
    cases e2
  have gl : Glob (cxV w s₁) mg := by
    refine ⟨kn T.g, ⟨mb, kn T.b, T.builtins⟩, ?_⟩
    obtain ⟨mc, h1, h2⟩ := T.nolimit
    exact ⟨mc, kn h1, h2⟩
  have hb : (cxV w s₁).B.heap.BuiltinsAt mg 101 := by
    refine ⟨4, _, by rw [hm]; exact y9, by decide, by decide, by decide, hideAll_get _ (kp _ _ y10) (by decide), rfl, rfl, rfl⟩
  refine { toBase := ⟨gl, (fn_of k (at_i y3 0)).fn, (fn_of k (at_i y3 1)).fn, (fn_of k (at_i y3 2)).fn, (fn_of k (at_i y3 3)).fn, (fn_of k (at_i y3 4)).fn, (fn_of k (at_i y3 5)).fn, (fn_of k (at_i y3 6)).fn, (fn_of k (at_i y3 7)).fn, (fn_of k (at_i y3 8)).fn, (fn_of k (at_i y3 9)).fn, (fn_of k (at_i y3 10)).fn, (fn_of k (at_i y3 11)).fn, (fn_of k (at_i y3 12)).fn, (fn_of k (at_i y3 13)).fn, (fn_of k (at_i y3 14)).fn, (fn_of k (at_i y3 15)).fn, (fn_of k (at_i y3 16)).fn, (fn_of k (at_i y3 17)).fn, ?_, ?_, lst_of_look k (at_i y4 0), lst_of_look k (at_i y4 1), dic_of k y5, by decide, tup_of_look k (at_i y4 2), tup_of_look k (at_i y4 3)⟩, fTr := fn_of k (at_i y3 5), tab := ⟨code_of k y8 (by decide), hb, gl.g⟩, re := re_of k y6 y7 }
  · intro x v hx
    have hmem := lookup_mem hx
    have e1 : gNames = (globs layV).map (·.1) := rfl
    rw [e1, List.map_map] at y1
    have := map_at y1 hmem
    simp only [Function.comp] at this
    obtain ⟨u, hu, he⟩ := Option.map_eq_some_iff.mp this
    exact ⟨u, by rw [hm]; exact hu, he⟩
  · intro x v hx
    have hmem := lookup_mem hx
    have e1 : bNames = bnames.map (·.1) := rfl
    rw [e1, List.map_map, List.map_map] at y2
    have h1 := map_at y2 hmem
    simp only [Function.comp] at h1
    have h2 := map_at boot_names hmem
    have h3 : bnames.all (fun p => p.1 != "__name__") = true := by decide +kernel
    have h4 : bnames.map (fun p => er p.2) = bnames.map (fun p => p.2) := rfl
    exact ⟨by rw [hm]; exact h1, h2, by simpa using List.all_eq_true.mp h3 _ hmem, map_at h4 hmem⟩
end TIkHd4
section TIkW2
open PySem PySem.Calls PyProof.Rows
set_option maxRecDepth 4000
noncomputable def nth (l : List Stmt) (k : Nat) : Stmt := (l[k]?).getD (.Pass ⟨0,0,0,0⟩)
noncomputable def forB : Stmt → List Stmt
  | .For _ _ b _ _ => b
  | _ => []
section
variable {C : Cx} {A : Around} {σ σ' : Asn} {Q : Value → Asn → Prop} {QF : Flow → Asn → Prop} {mg : Str → Option Value} {L : Lay}
noncomputable abbrev bodyNs (s : Nat) (line T : List Nat) (M : Nat) (ap eb : Addr) : List (Str × Value) := [("start", .int s 0), ("laststart", .int (line.length - 1 - M) 0), ("line", sv line), ("append", .ref ap), ("encoded_body", .ref eb), ("maxlinelen1", .int (M - 1) 0), ("soft_break", sv [61, 10]), ("body", sv T), ("eol", sv [10]), ("maxlinelen", .int M 0)]
theorem body_while {a D it eb ap : Addr} {cdv : Value} {i M : Nat} {line T : List Nat} {prev : List (List Nat)} {lsv : List Value} (B : Base C mg L) (hM : 4 ≤ M) (hM' : M ≤ 1000) (hlz : line.length ≤ 3000) (hch : (prev ++ encL M line).length ≤ 10000)
    (h : ∀ (s : Nat) (out : List (List Nat)), s ≤ line.length → (s < line.length ∨ line = []) → ¬ M < (line.drop s).length → out ++ encL M (line.drop s) = prev ++ encL M line →
      QF .next ((a, ns (bodyNs s line T M ap eb)) :: (it, lit D i) :: (eb, lst (out.map sv)) :: (ap, bnd eb) :: (D, lst lsv) :: σ)) :
    ES C A (fenv "body_encode" (fnS (stAt 20)) a L.aBodyEncode cdv) (nth (forB (nth (fnB (stAt 20)) 7)) 2) ((a, ns (bodyNs 0 line T M ap eb)) :: (it, lit D i) :: (eb, lst (prev.map sv)) :: (ap, bnd eb) :: (D, lst lsv) :: σ) QF := by
  have hs : sizeLine = 16777216 := by decide
  refine s_while (fun (n : Nat) (τ : Asn) => ∃ (s : Nat) (out : List (List Nat)), n = line.length - s ∧ s ≤ line.length ∧ (s < line.length ∨ line = []) ∧ out ++ encL M (line.drop s) = prev ++ encL M line ∧
      τ = (a, ns (bodyNs s line T M ap eb)) :: (it, lit D i) :: (eb, lst (out.map sv)) :: (ap, bnd eb) :: (D, lst lsv) :: σ)
      line.length .refl ⟨0, prev, by lia, by lia, ?_, by simp, rfl⟩ ?_
  · cases line with
    | nil => exact .inr rfl
    | cons => exact .inl (by simp)
  rintro n τ ⟨s, out, rfl, hs1, hs2, heq, rfl⟩
  have hout : out.length ≤ 10000 := by have := congrArg List.length heq; rw [List.length_append] at this; lia
  have hlen : (line.drop s).length = line.length - s := List.length_drop
  walk_at "WALK"
  by_cases hlong : M < (line.drop s).length
  · walk_at "ITE"
    first | refine ite_dt (by lia) ?_ | refine ite_dt (by simp; lia) ?_ | refine ite_t (by simp; lia) ?_
    have h3 : line[s + M - 3]? = (line.drop s)[M - 3]? := by rw [List.getElem?_drop]; congr 1; lia
    have h2 : line[s + M - 2]? = (line.drop s)[M - 2]? := by rw [List.getElem?_drop]; congr 1; lia
    obtain ⟨c3, hc3⟩ : ∃ c, line[s + M - 3]? = some c := ⟨_, List.getElem?_eq_getElem (by lia)⟩
    obtain ⟨c2, hc2⟩ : ∃ c, line[s + M - 2]? = some c := ⟨_, List.getElem?_eq_getElem (by lia)⟩
    have fin : ∀ k, k = cutAt M (line.drop s) → 1 ≤ k → k < M → (out ++ [(line.drop s).take k ++ [61]]) ++ encL M (line.drop (s + k)) = prev ++ encL M line := fun k hk _ _ => by
      rw [← heq, encL_long hM hlong, ← hk, List.drop_drop, List.append_assoc]; rfl
    have last : ∀ (k c : Nat), line[s + k]? = some c → c = 61 → (line.drop s).take (k + 1) = (line.drop s).take k ++ [61] := fun k c h1 h2 => by
      rw [List.take_succ, List.getElem?_drop, h1, h2]; rfl
    walk_at "WALK"
    refine g_at (a := s + M - 3) (by lia) (by lia) hc3 ?_
    walk_at "WALK"
    refine o_eqc (d := 61) ?_
    walk_at "WALK"
    by_cases hq3 : c3 = 61
    · walk_at "ITE"
      refine ite_t (by simpa using hq3) ?_
      have hcut : M - 3 = cutAt M (line.drop s) := by unfold cutAt; rw [← h3, hc3, hq3, if_pos rfl]
      walk_at "WALK"
      refine q_nn (a := s) (b := s + M - 2) (by lia) rfl (by lia) ?_
      walk_at "WALK"
      rw [show ((s : Int) + ((M : Int) - 1) - 2) = ((s + (M - 3) : Nat) : Int) by lia, show s + M - 2 - s = M - 3 + 1 by lia, last (M - 3) c3 (by rw [← hc3]; congr 1; lia) hq3]
      refine ⟨_, line.length - (s + (M - 3)), ?_, by lia, s + (M - 3), out ++ [(line.drop s).take (M - 3) ++ [61]], rfl, by lia, .inl (by lia), fin _ hcut (by lia) (by lia), rfl⟩
      walk_at "WEAK"
      simp; lia
    · walk_at "ITE"
      refine ite_n (by simpa using hq3) ?_
      walk_at "WALK"
      refine g_at (a := s + M - 2) (by lia) (by lia) hc2 ?_
      walk_at "WALK"
      refine o_eqc (d := 61) ?_
      walk_at "WALK"
      by_cases hq2 : c2 = 61
      · walk_at "ITE"
        refine ite_t (by simpa using hq2) ?_
        have hcut : M - 2 = cutAt M (line.drop s) := by unfold cutAt; rw [← h3, hc3, if_neg (by simpa using hq3), ← h2, hc2, hq2, if_pos rfl]
        walk_at "WALK"
        refine q_nn (a := s) (b := s + M - 1) (by lia) rfl (by lia) ?_
        walk_at "WALK"
        rw [show ((s : Int) + ((M : Int) - 1) - 1) = ((s + (M - 2) : Nat) : Int) by lia, show s + M - 1 - s = M - 2 + 1 by lia, last (M - 2) c2 (by rw [← hc2]; congr 1; lia) hq2]
        refine ⟨_, line.length - (s + (M - 2)), ?_, by lia, s + (M - 2), out ++ [(line.drop s).take (M - 2) ++ [61]], rfl, by lia, .inl (by lia), fin _ hcut (by lia) (by lia), rfl⟩
        walk_at "WEAK"
        simp; lia
      · walk_at "ITE"
        refine ite_n (by simpa using hq2) ?_
        have hcut : M - 1 = cutAt M (line.drop s) := by unfold cutAt; rw [← h3, hc3, if_neg (by simpa using hq3), ← h2, hc2, if_neg (by simpa using hq2)]
        walk_at "WALK"
        refine q_nn (a := s) (b := s + M - 1) (by lia) rfl (by lia) ?_
        walk_at "WALK"
        refine o_adds (m := [61]) (by simp; lia) ?_
        walk_at "WALK"
        rw [show ((s : Int) + ((M : Int) - 1)) = ((s + (M - 1) : Nat) : Int) by lia, show s + M - 1 - s = M - 1 by lia]
        refine ⟨_, line.length - (s + (M - 1)), ?_, by lia, s + (M - 1), out ++ [(line.drop s).take (M - 1) ++ [61]], rfl, by lia, .inl (by lia), fin _ hcut (by lia) (by lia), rfl⟩
        walk_at "WEAK"
        simp; lia
  · walk_at "ITE"
    first | refine ite_df (by lia) ?_ | refine ite_df (by simp; lia) ?_ | refine ite_n (by simp; lia) ?_
    exact h s out hs1 hs2 hlong heq
end
end TIkW2
section TIkW7
open PySem PySem.Calls PyProof.Rows
set_option maxRecDepth 4000
section
variable {C : Cx} {A : Around} {σ σ' ρ : Asn} {Q : Value → Asn → Prop} {QF : Flow → Asn → Prop} {mg : Str → Option Value} {L : Lay} {H : Addr} {env : Env}
inductive WhN1 (σ : Asn) (J : Asn → Prop) : Prop
  | mk (τ : Asn) (w : Wk σ τ) (hj : J τ)
noncomputable abbrev WhQ1 (J : Asn → Prop) (Q : Flow → Asn → Prop) : Flow → Asn → Prop := fun f σ => match f with
  | .next | .cont => WhN1 σ J
  | .brk => Q .next σ
  | .ret v => Q (.ret v) σ
theorem wb1 {J : Asn → Prop} (h : QF .next σ) : WhQ1 J QF .brk σ := h
theorem wr1 {J : Asn → Prop} {v : Value} (h : QF (.ret v) σ) : WhQ1 J QF (.ret v) σ := h
theorem s_while1 {test : Expr} {body : List Stmt} {pos : Pos} (J : Asn → Prop)
    (h : ∀ K : Flow → Asn → Prop, (∀ f σ', WhQ1 J QF f σ' → K f σ') → ET C A env test σ (WhT C A env body K QF))
    (h2 : ∀ τ, J τ → ET C A env test τ fun b σ' => b = false ∧ QF .next σ') : ES C A env (.While test body [] pos) σ QF := by
  refine s_while (fun n τ => (n = 1 ∧ τ = σ) ∨ (n = 0 ∧ J τ)) 1 .refl (.inl ⟨rfl, rfl⟩) ?_
  rintro n τ (⟨rfl, rfl⟩ | ⟨rfl, hj⟩) K hK
  · refine h K fun f σ'' hf => hK f σ'' ?_
    cases f with
    | next => obtain ⟨τ, w, j⟩ := hf; exact ⟨τ, 0, w, Nat.zero_lt_one, .inr ⟨rfl, j⟩⟩
    | cont => obtain ⟨τ, w, j⟩ := hf; exact ⟨τ, 0, w, Nat.zero_lt_one, .inr ⟨rfl, j⟩⟩
    | brk => exact hf
    | ret v => exact hf
  · refine EW.mono (h2 τ hj) fun b σ' ⟨hb, hq⟩ => ?_
    subst hb
    exact hq
theorem Has.up {p : Addr × Res} {a : Addr} {r : Res} (h : Has C σ a r) : Has C (p :: σ) a r := h.imp (fun h => .tail _ h) id
theorem EC.wk {f : Value} {vs : List Value} {τ : Asn} (h : EC C A f vs τ Q) (w : Wk σ τ) : EC C A f vs σ Q := fun us e => EW.wk (h us e) w
theorem set_self {xs : List Value} {p : Nat} {v : Value} (h : xs[p]? = some v) : xs.set p v = xs := by
  obtain ⟨h1, rfl⟩ := List.getElem?_eq_some_iff.mp h
  exact List.set_getElem_self h1
theorem f_siftdown {xs : List Value} {p : Nat} {a b : Addr} {x y : List Int} (B : Base C mg L) (hR : Room A 3 3) (h0 : xs[0]? = some (.ref b)) (hp : xs[p]? = some (.ref a)) (hp2 : p ≤ 2) (hz : xs.length ≤ 3)
    (ha : Has C ρ a (tup (zs x))) (hb : Has C ρ b (tup (zs y)))
    (h : Q .none ((H, lst (if p ≠ 0 ∧ tlt x y = true then (xs.set p (.ref b)).set 0 (.ref a) else xs)) :: ρ)) :
    EC C A (.ref L.aSiftdown) [.ref H, .int 0 0, .int p 0] ((H, lst xs) :: ρ) Q := by
  have hs : sizeLine = 16777216 := by decide
  have hpl : p < xs.length := by
    obtain ⟨h1, _⟩ := List.getElem?_eq_some_iff.mp hp
    exact h1
  refine c_w B.G.nolimit B.fSiftdown (by have := hR.depth; lia) (ll := [("pos", .int p 0), ("startpos", .int 0 0), ("heap", .ref H)]) (cs := fun _ => []) (binds3 (p := "heap") (q := "startpos") (r := "pos")) fun c cdv => ?_
  have hR' : Room (A.deeper (fenv "_siftdown" (fnS (stAt 32)) c L.aSiftdown cdv)) 2 0 := hR.deeper _
  have ha' : ∀ τ : Asn, Has C (τ ++ ρ) a (tup (zs x)) := fun τ => ha.imp (fun h => List.mem_append_right _ h) id
  have hb' : ∀ τ : Asn, Has C (τ ++ ρ) b (tup (zs y)) := fun τ => hb.imp (fun h => List.mem_append_right _ h) id
  have k_heap : kL (fenv "_siftdown" (fnS (stAt 32)) c L.aSiftdown cdv) "heap" = true := by kernel_rfl
  have k_startpos : kL (fenv "_siftdown" (fnS (stAt 32)) c L.aSiftdown cdv) "startpos" = true := by kernel_rfl
  have k_pos : kL (fenv "_siftdown" (fnS (stAt 32)) c L.aSiftdown cdv) "pos" = true := by kernel_rfl
  have k_newitem : kL (fenv "_siftdown" (fnS (stAt 32)) c L.aSiftdown cdv) "newitem" = true := by kernel_rfl
  have k_parentpos : kL (fenv "_siftdown" (fnS (stAt 32)) c L.aSiftdown cdv) "parentpos" = true := by kernel_rfl
  have k_parent : kL (fenv "_siftdown" (fnS (stAt 32)) c L.aSiftdown cdv) "parent" = true := by kernel_rfl
  walk_at "WALK"
  refine i_list (xs := xs) (v := .ref a) (Or.inl (by walk_at "MEM")) (by lia) (by lia) (by simpa using hp) ?_
  walk_at "WALK"
  by_cases hp0 : p = 0
  · subst hp0
    walk_at "ITE"
    rw [if_neg (by simp)] at h
    refine s_while1 (fun _ => False) ?_ (fun _ h => h.elim)
    walk_at "WALK"
    first | refine ite_n (by decide) ?_ | refine ite_n (by simp) ?_
    walk_at "WALK"
    refine set_list (j := 0) hpl (by lia) (by walk_at "UP") ?_
    walk_at "WALK"
    rw [set_self hp]
    refine ⟨_, ?_, h⟩
    walk_at "WEAK"
  · refine s_while1 (fun τ => tlt x y = true ∧ τ = (c, ns [("pos", .int (0 : Nat) 0), ("newitem", .ref a), ("startpos", .int 0 0), ("heap", .ref H)]) :: (H, lst (xs.set p (.ref b))) :: ρ) ?_ ?_
    · walk_at "WALK"
      first | refine ite_dt (by lia) ?_ | refine ite_dt (by simp; lia) ?_ | refine ite_t (by simp; lia) ?_
      walk_at "WALK"
      refine o_shr (by lia) ?_
      have e : ((p : Int) - 1).fdiv (2 ^ (1 : Int).toNat) = ((0 : Nat) : Int) := by
        have : p = 1 ∨ p = 2 := by lia
        rcases this with rfl | rfl <;> decide
      rw [e]
      walk_at "WALK"
      refine i_list (xs := xs) (v := .ref b) (Or.inl (by walk_at "MEM")) (by lia) (by lia) (by simpa using h0) ?_
      walk_at "WALK"
      refine o_lt_tup (x := x) (y := y) (by have := hR'.units; lia) ha.up.up hb.up.up ?_
      walk_at "WALK"
      cases hlt : tlt x y with
      | true =>
        walk_at "ITE"
        refine ite_t rfl ?_
        walk_at "WALK"
        refine set_list (j := p) hpl (by lia) (by walk_at "UP") ?_
        walk_at "WALK"
        refine ⟨_, ?_, hlt, rfl⟩
        walk_at "WEAK"
      | false =>
        walk_at "ITE"
        first | refine ite_n (by decide) ?_ | refine ite_n (by simp) ?_
        walk_at "ITE"
        rw [if_neg (by simp [hlt])] at h
        walk_at "WALK"
        refine set_list (j := p) hpl (by lia) (by walk_at "UP") ?_
        walk_at "WALK"
        rw [set_self hp]
        refine ⟨_, ?_, h⟩
        walk_at "WEAK"
    · rintro τ ⟨hlt, rfl⟩
      walk_at "WALK"
      refine ⟨by simp, ?_⟩
      walk_at "WALK"
      refine set_list (j := 0) (xs := xs.set p (.ref b)) (by simp; lia) (by simp; lia) (by walk_at "UP") ?_
      walk_at "WALK"
      rw [if_pos ⟨hp0, hlt⟩] at h
      walk_at "WALK"
      refine ⟨_, ?_, h⟩
      walk_at "WEAK"
noncomputable def chi (ts : List (Addr × List Int)) : Nat := match ts with
  | [_, p, q] => if tlt p.2 q.2 = true then 1 else 2
  | _ => 1
noncomputable def sup (ts : List (Addr × List Int)) : List (Addr × List Int) := match ts with
  | [a, b] => if tlt a.2 b.2 = true then [a, b] else [b, a]
  | [a, b, c] => if tlt b.2 c.2 = true then (if tlt a.2 b.2 = true then [a, b, c] else [b, a, c]) else (if tlt a.2 c.2 = true then [a, b, c] else [c, b, a])
  | l => l
theorem sup2 (a b : Addr × List Int) : sup [a, b] = if tlt a.2 b.2 = true then [a, b] else [b, a] := rfl
theorem sup3 (a b c : Addr × List Int) : sup [a, b, c] = if tlt b.2 c.2 = true then (if tlt a.2 b.2 = true then [a, b, c] else [b, a, c]) else (if tlt a.2 c.2 = true then [a, b, c] else [c, b, a]) := rfl
noncomputable def rfs (ts : List (Addr × List Int)) : List Value := ts.map fun p => .ref p.1
theorem f_siftup {ts : List (Addr × List Int)} (B : Base C mg L) (hR : Room A 4 6) (hz : ts.length ≤ 3) (h1 : 1 ≤ ts.length)
    (ht : ∀ p ∈ ts, Has C ρ p.1 (tup (zs p.2))) (h : Q .none ((H, lst (rfs (sup ts))) :: ρ)) :
    EC C A (.ref L.aSiftup) [.ref H, .int 0 0] ((H, lst (rfs ts)) :: ρ) Q := by
  have hs : sizeLine = 16777216 := by decide
  refine c_w B.G.nolimit B.fSiftup (by have := hR.depth; lia) (ll := [("pos", .int 0 0), ("heap", .ref H)]) (cs := fun _ => []) (binds2 (p := "heap") (q := "pos")) fun c cdv => ?_
  have hR' : Room (A.deeper (fenv "_siftup" (fnS (stAt 33)) c L.aSiftup cdv)) 3 3 := hR.deeper _
  have k_heap : kL (fenv "_siftup" (fnS (stAt 33)) c L.aSiftup cdv) "heap" = true := by kernel_rfl
  have k_pos : kL (fenv "_siftup" (fnS (stAt 33)) c L.aSiftup cdv) "pos" = true := by kernel_rfl
  have k_endpos : kL (fenv "_siftup" (fnS (stAt 33)) c L.aSiftup cdv) "endpos" = true := by kernel_rfl
  have k_startpos : kL (fenv "_siftup" (fnS (stAt 33)) c L.aSiftup cdv) "startpos" = true := by kernel_rfl
  have k_newitem : kL (fenv "_siftup" (fnS (stAt 33)) c L.aSiftup cdv) "newitem" = true := by kernel_rfl
  have k_childpos : kL (fenv "_siftup" (fnS (stAt 33)) c L.aSiftup cdv) "childpos" = true := by kernel_rfl
  have k_rightpos : kL (fenv "_siftup" (fnS (stAt 33)) c L.aSiftup cdv) "rightpos" = true := by kernel_rfl
  have k_len : kG (fenv "_siftup" (fnS (stAt 33)) c L.aSiftup cdv) "len" = true := by kernel_rfl
  have k__siftdown : kG (fenv "_siftup" (fnS (stAt 33)) c L.aSiftup cdv) "_siftdown" = true := by kernel_rfl
  walk_at "WALK"
  refine f_len_list (Or.inl (by walk_at "MEM")) (by simp [rfs]; lia) ?_
  walk_at "WALK"
  match ts, hz, h1, ht, h with
  | [p], _, _, ht, h =>
    refine i_list (xs := rfs [p]) (v := .ref p.1) (Or.inl (by walk_at "MEM")) (by lia) (by lia) rfl ?_
    walk_at "WALK"
    refine o_mul ?_ (.of_left (by decide))
    walk_at "WALK"
    refine s_while1 (fun _ => False) ?_ (fun _ h => h.elim)
    walk_at "WALK"
    refine ite_n (by simp [rfs]) ?_
    walk_at "WALK"
    refine set_list (j := 0) (xs := rfs [p]) (by simp [rfs]) (by simp [rfs]; lia) (by walk_at "UP") ?_
    walk_at "WALK"
    refine EC.wk (f_siftdown (p := 0) (xs := rfs [p]) (ρ := (c, ns []) :: ρ) B ⟨hR'.handled, by have := hR'.depth; lia, by have := hR'.units; lia⟩ rfl rfl (by lia) (by simp [rfs]) (ht p (by simp)).up (ht p (by simp)).up ?_) ?_
    · walk_at "WALK"
      refine ⟨_, ?_, h⟩
      rw [if_neg (by simp)]
      walk_at "WEAK"
    · walk_at "WEAK"
  | [p, q], _, _, ht, h =>
    refine i_list (xs := rfs [p, q]) (v := .ref p.1) (Or.inl (by walk_at "MEM")) (by lia) (by lia) rfl ?_
    walk_at "WALK"
    refine o_mul ?_ (.of_left (by decide))
    walk_at "WALK"
    refine s_while1 (fun τ => τ = (c, ns [("newitem", .ref p.1), ("startpos", .int 0 0), ("pos", .int (1 : Nat) 0), ("childpos", .int 3 0), ("endpos", .int 2 0), ("heap", .ref H)]) :: (H, lst [.ref q.1, .ref q.1]) :: ρ) ?_ ?_
    · walk_at "WALK"
      refine ite_t (by simp [rfs]) ?_
      walk_at "WALK"
      refine ite_n (by simp [rfs]) ?_
      walk_at "ITE"
      first | refine ite_n (by decide) ?_ | refine ite_n (by simp) ?_
      walk_at "WALK"
      refine i_list (xs := rfs [p, q]) (v := .ref q.1) (Or.inl (by walk_at "MEM")) (by lia) (by lia) rfl ?_
      walk_at "WALK"
      refine set_list (j := 0) (xs := rfs [p, q]) (by simp [rfs]) (by simp [rfs]; lia) (by walk_at "UP") ?_
      walk_at "WALK"
      refine o_mul ?_ (.of_left (by decide))
      walk_at "WALK"
      refine ⟨_, ?_, rfl⟩
      walk_at "WEAK"
    · rintro τ rfl
      walk_at "WALK"
      refine ⟨by simp, ?_⟩
      walk_at "WALK"
      refine set_list (j := 1) (xs := [.ref q.1, .ref q.1]) (by simp) (by simp; lia) (by walk_at "UP") ?_
      walk_at "WALK"
      refine EC.wk (f_siftdown (p := 1) (xs := rfs [q, p]) (ρ := (c, ns []) :: ρ) (a := p.1) (b := q.1) B ⟨hR'.handled, by have := hR'.depth; lia, by have := hR'.units; lia⟩ rfl rfl (by lia) (by simp [rfs]) (ht p (by simp)).up (ht q (by simp)).up ?_) ?_
      · walk_at "WALK"
        refine ⟨_, ?_, h⟩
        cases hlt : tlt p.2 q.2 with
        | true => 
          walk_at "ITE"
          rw [if_pos ⟨by lia, rfl⟩, show sup [p, q] = [p, q] from (sup2 p q).trans (if_pos hlt)]
          walk_at "WEAK"
        | false =>
          walk_at "ITE"
          rw [if_neg (by simp), show sup [p, q] = [q, p] from (sup2 p q).trans (if_neg (by rw [hlt]; exact Bool.false_ne_true))]
          walk_at "WEAK"
      · walk_at "WEAK"
  | [p, q, r], _, _, ht, h =>
    refine i_list (xs := rfs [p, q, r]) (v := .ref p.1) (Or.inl (by walk_at "MEM")) (by lia) (by lia) rfl ?_
    walk_at "WALK"
    refine o_mul ?_ (.of_left (by decide))
    walk_at "WALK"
    cases hqr : tlt q.2 r.2 with
    | true =>
      refine s_while1 (fun τ => τ = (c, ns [("newitem", .ref p.1), ("startpos", .int 0 0), ("pos", .int (1 : Nat) 0), ("childpos", .int 3 0), ("endpos", .int 3 0), ("heap", .ref H)]) :: (H, lst [.ref q.1, .ref q.1, .ref r.1]) :: ρ) ?_ ?_
      · walk_at "WALK"
        refine ite_t (by simp [rfs]) ?_
        walk_at "WALK"
        refine ite_t (by simp [rfs]) ?_
        walk_at "WALK"
        refine i_list (xs := rfs [p, q, r]) (v := .ref q.1) (Or.inl (by walk_at "MEM")) (by lia) (by lia) rfl ?_
        walk_at "WALK"
        refine i_list (xs := rfs [p, q, r]) (v := .ref r.1) (Or.inl (by walk_at "MEM")) (by lia) (by lia) rfl ?_
        walk_at "WALK"
        refine o_lt_tup (x := q.2) (y := r.2) (by have := hR'.units; lia) (ht q (by simp)).up.up (ht r (by simp)).up.up ?_
        walk_at "WALK"
        rw [hqr]
        walk_at "ITE"
        first | refine ite_n (by decide) ?_ | refine ite_n (by simp) ?_
        walk_at "ITE"
        first | refine ite_n (by decide) ?_ | refine ite_n (by simp) ?_
        walk_at "WALK"
        refine i_list (xs := rfs [p, q, r]) (v := .ref q.1) (Or.inl (by walk_at "MEM")) (by lia) (by lia) rfl ?_
        walk_at "WALK"
        refine set_list (j := 0) (xs := rfs [p, q, r]) (by simp [rfs]) (by simp [rfs]; lia) (by walk_at "UP") ?_
        walk_at "WALK"
        refine o_mul ?_ (.of_left (by decide))
        walk_at "WALK"
        refine ⟨_, ?_, rfl⟩
        walk_at "WEAK"
      · rintro τ rfl
        walk_at "WALK"
        refine ⟨by simp, ?_⟩
        walk_at "WALK"
        refine set_list (j := 1) (xs := [.ref q.1, .ref q.1, .ref r.1]) (by simp) (by simp; lia) (by walk_at "UP") ?_
        walk_at "WALK"
        refine EC.wk (f_siftdown (p := 1) (xs := rfs [q, p, r]) (ρ := (c, ns []) :: ρ) (a := p.1) (b := q.1) B ⟨hR'.handled, by have := hR'.depth; lia, by have := hR'.units; lia⟩ rfl rfl (by lia) (by simp [rfs]) (ht p (by simp)).up (ht q (by simp)).up ?_) ?_
        · walk_at "WALK"
          refine ⟨_, ?_, h⟩
          cases hlt : tlt p.2 q.2 with
          | true => 
            walk_at "ITE"
            rw [if_pos ⟨by lia, rfl⟩, show sup [p, q, r] = [p, q, r] by simp [sup3, hlt, hqr]]
            walk_at "WEAK"
          | false =>
            walk_at "ITE"
            rw [if_neg (by simp), show sup [p, q, r] = [q, p, r] by simp [sup3, hlt, hqr]]
            walk_at "WEAK"
        · walk_at "WEAK"
    | false =>
      refine s_while1 (fun τ => τ = (c, ns [("newitem", .ref p.1), ("startpos", .int 0 0), ("pos", .int (2 : Nat) 0), ("childpos", .int 5 0), ("endpos", .int 3 0), ("heap", .ref H)]) :: (H, lst [.ref r.1, .ref q.1, .ref r.1]) :: ρ) ?_ ?_
      · walk_at "WALK"
        refine ite_t (by simp [rfs]) ?_
        walk_at "WALK"
        refine ite_t (by simp [rfs]) ?_
        walk_at "WALK"
        refine i_list (xs := rfs [p, q, r]) (v := .ref q.1) (Or.inl (by walk_at "MEM")) (by lia) (by lia) rfl ?_
        walk_at "WALK"
        refine i_list (xs := rfs [p, q, r]) (v := .ref r.1) (Or.inl (by walk_at "MEM")) (by lia) (by lia) rfl ?_
        walk_at "WALK"
        refine o_lt_tup (x := q.2) (y := r.2) (by have := hR'.units; lia) (ht q (by simp)).up.up (ht r (by simp)).up.up ?_
        walk_at "WALK"
        rw [hqr]
        walk_at "ITE"
        first | refine ite_t (by decide) ?_ | refine ite_t (by simp) ?_
        walk_at "WALK"
        refine ite_t rfl ?_
        walk_at "WALK"
        refine i_list (xs := rfs [p, q, r]) (v := .ref r.1) (Or.inl (by walk_at "MEM")) (by lia) (by lia) rfl ?_
        walk_at "WALK"
        refine set_list (j := 0) (xs := rfs [p, q, r]) (by simp [rfs]) (by simp [rfs]; lia) (by walk_at "UP") ?_
        walk_at "WALK"
        refine o_mul ?_ (.of_left (by decide))
        walk_at "WALK"
        refine ⟨_, ?_, rfl⟩
        walk_at "WEAK"
      · rintro τ rfl
        walk_at "WALK"
        refine ⟨by simp, ?_⟩
        walk_at "WALK"
        refine set_list (j := 2) (xs := [.ref r.1, .ref q.1, .ref r.1]) (by simp) (by simp; lia) (by walk_at "UP") ?_
        walk_at "WALK"
        refine EC.wk (f_siftdown (p := 2) (xs := rfs [r, q, p]) (ρ := (c, ns []) :: ρ) (a := p.1) (b := r.1) B ⟨hR'.handled, by have := hR'.depth; lia, by have := hR'.units; lia⟩ rfl rfl (by lia) (by simp [rfs]) (ht p (by simp)).up (ht r (by simp)).up ?_) ?_
        · walk_at "WALK"
          refine ⟨_, ?_, h⟩
          cases hlt : tlt p.2 r.2 with
          | true => 
            walk_at "ITE"
            rw [if_pos ⟨by lia, rfl⟩, show sup [p, q, r] = [p, q, r] by simp [sup3, hlt, hqr]]
            walk_at "WEAK"
          | false =>
            walk_at "ITE"
            rw [if_neg (by simp), show sup [p, q, r] = [r, q, p] by simp [sup3, hlt, hqr]]
            walk_at "WEAK"
        · walk_at "WEAK"
end
end TIkW7
section TIkR7
open PySem PySem.Calls PyProof.Rows
set_option maxRecDepth 100000
theorem sub_ri_reversed : isSubtype (.type "range_iterator") (.type "reversed") = pure false := by rw [isSubtype_type]; kernel_rfl
section
variable {C : Cx} {A : Around} {env : Env} {σ σ' : Asn} {Q : Value → Asn → Prop} {r : Addr} {s : Shared} {E : Value → Shared → Prop}
theorem call_range_reversed {t u v : Tok} {Q : Value → Shared → Prop} (hr : IsRange s.heap r 0 1 1 t u v)
    (h : Q (.ref s.heap.objs.size) { s with heap := s.heap.push { cls := .type "range_iterator", data := .fields #[rawInt 0, rawInt 1, rawInt (-1)] } }) : wpAny (model C.prog C.w) A (call (.builtin "range.__reversed__") [.ref r]) Q E s := by
  have hT : s.TypeIs (.ref r) "range" := ⟨_, hr, rfl⟩
  refine wpAny_call_entry F.slot_range_reversed hT F.entry_range_reversed ?_ (F.args_range_reversed_1 _)
  unfold Builtin.«range.__reversed__»
  refine wpAny_bind (wpAny_of_eq (a := Value.ref r) rfl ?_)
  refine wpAny_bind ?_
  unfold Builtin.Range.rangeFields
  refine wpAny_bind (wpAny_field hr rfl (x := .int 0 t) rfl (wpAny_bind (m := asInt? (.int 0 t)) (wpAny_pure ?_)))
  refine wpAny_bind (wpAny_field hr rfl (x := .int 1 u) rfl (wpAny_bind (m := asInt? (.int 1 u)) (wpAny_pure ?_)))
  refine wpAny_bind (wpAny_field hr rfl (x := .int 1 v) rfl (wpAny_bind (m := asInt? (.int 1 v)) (wpAny_pure ?_)))
  refine wpAny_pure ?_
  dsimp only
  rw [if_neg (by decide), if_pos (by decide)]
  refine wpAny_bind (wpAny_newObj_type (wpAny_pure ⟨_, rfl, ?_⟩))
  exact h
theorem code_reversed_range {t u v : Tok} {Q₁ : Value → Shared → Prop} (hr : IsRange s.heap r 0 1 1 t u v)
    (h : Q₁ (.ref s.heap.objs.size) { s with heap := s.heap.push { cls := .type "range_iterator", data := .fields #[rawInt 0, rawInt 1, rawInt (-1)] } }) :
    codeAny (model C.prog C.w) A (.call (.builtin "reversed.__new__") ⟨[.type "reversed", .ref r], []⟩) (wants Q₁ E) s := by
  have hT : s.TypeIs (.ref r) "range" := ⟨_, hr, rfl⟩
  refine codeAny_of_tree ?_
  show wpAny _ A.in1 (do checkBuiltinCall "reversed.__new__" ⟨[.type "reversed", .ref r], []⟩; again (.builtin "reversed.__new__" ⟨[.type "reversed", .ref r], []⟩)) _ _ s
  refine wpAny_bind (wpAny_of_eq (F.newCall_reversed_1 _) (wpAny_pure ⟨plainId_quiet F.plain_reversed_new _, codeAny_builtin F.entry_reversed_new ?_⟩))
  rw [Around.under_plainId F.plain_reversed_new _]
  unfold Builtin.«reversed.__new__»
  refine wpAny_bind (wpAny_of_eq (newClass_reversed _) ?_)
  refine wpAny_bind (wpAny_of_eq (a := ()) (by first | rfl | kernel_rfl) ?_)
  refine wpAny_bind (wpAny_of_eq (a := ()) (by first | rfl | kernel_rfl) ?_)
  refine wpAny_bind (wpAny_specialOf hT F.slot_range_reversed.lookup ?_)
  refine wpAny_bind (wpAny_of_eq (F.slot_range_reversed.bind _) ?_)
  show wpAny _ _ (if (Value.builtin "range.__reversed__" == Value.none) = true then _ else _) _ _ _
  rw [if_neg (show ¬ ((Value.builtin "range.__reversed__" == Value.none) = true) from Bool.false_ne_true)]
  refine wpAny_bind (wpAny_rule ?_)
  refine wpAny_bind (m := runValue (.call (.builtin "range.__reversed__") ⟨[.ref r], []⟩)) (show wpAny _ _ (call (.builtin "range.__reversed__") [.ref r]) _ _ _ from call_range_reversed hr ?_)
  first
  | exact wpAny_pure h
  | exact wpAny_bind (wpAny_pure (wpAny_pure h))
theorem f_revrange (hr : Has C σ r (rng 0 1 1)) (h : ∀ it, Q (.ref it) ((it, rit 0 1 (-1)) :: σ)) : EC C A (.type "reversed") [.ref r] σ Q := fun us hus s S => by
  obtain ⟨a, rfl, ha⟩ := List.map_eq_singleton_iff.mp hus
  obtain rfl := er_ref ha
  obtain ⟨o, ho, t, u, v, rfl⟩ := S.has hr
  refine callType_other (U := "range_iterator") (Q₁ := fun obj s₁ => obj = .ref s.heap.objs.size ∧ s₁ = { s with heap := s.heap.push { cls := .type "range_iterator", data := .fields #[rawInt 0, rawInt 1, rawInt (-1)] } }) (by decide +kernel) F.create_reversed ⟨_, _, F.mro_reversed⟩ F.made_reversed sub_ri_reversed (F.typeCall_reversed_1 _) (code_reversed_range ho ⟨rfl, rfl⟩) ?_
  rintro obj s₁ ⟨rfl, rfl⟩
  exact ⟨⟨_, Heap.get?_push_size _ rfl, rfl⟩, _, S.alloc (r := rit 0 1 (-1)) (tk := s.toks) (Heap.get?_none_of_le (Nat.le_refl _)) ⟨_, Heap.get?_push_size _ rfl, rfl⟩ fun b o hb => Heap.get?_push_of_some _ hb, h _⟩
theorem pi_rit {it : Addr} {x left step : Int} (hr : (it, rit x left step) ∈ σ) (h : Q (.ref it) σ) : PI C A (.ref it) σ Q := fun u hu s S => by
  obtain rfl := er_ref hu
  obtain ⟨o, ho, rfl⟩ := S.get hr
  exact wpAny_pyIter_rangeiter ho ⟨_, S, h⟩
end
end TIkR7
section TIkW8
open PySem PySem.Calls PyProof.Rows
set_option maxRecDepth 4000
section
variable {C : Cx} {A : Around} {σ σ' ρ : Asn} {Q : Value → Asn → Prop} {QF : Flow → Asn → Prop} {mg : Str → Option Value} {L : Lay} {H : Addr} {env : Env}
theorem f_heapreplace {a b : Addr} {x y : List Int} {ts : List (Addr × List Int)} (B : Base C mg L) (hR : Room A 5 9) (hz : ts.length ≤ 2) (hb : Has C ρ b (tup (zs y)))
    (ht : ∀ p ∈ ts, Has C ρ p.1 (tup (zs p.2))) (h : Q (.ref a) ((H, lst (rfs (sup ((b, y) :: ts)))) :: ρ)) :
    EC C A (.ref L.aHeapreplace) [.ref H, .ref b] ((H, lst (rfs ((a, x) :: ts))) :: ρ) Q := by
  have hs : sizeLine = 16777216 := by decide
  refine c_w B.G.nolimit B.fHeapreplace (by have := hR.depth; lia) (ll := [("item", .ref b), ("heap", .ref H)]) (cs := fun _ => []) (binds2 (p := "heap") (q := "item")) fun c cdv => ?_
  have hR' : Room (A.deeper (fenv "heapreplace" (fnS (stAt 30)) c L.aHeapreplace cdv)) 4 6 := hR.deeper _
  walk_at "WALK"
  refine i_list (xs := rfs ((a, x) :: ts)) (v := .ref a) (Or.inl (by walk_at "MEM")) (by lia) (by lia) rfl ?_
  walk_at "WALK"
  refine set_list (j := 0) (xs := rfs ((a, x) :: ts)) (by simp [rfs]) (by simp [rfs]; lia) (by walk_at "UP") ?_
  walk_at "WALK"
  refine EC.wk (f_siftup (ts := (b, y) :: ts) (ρ := (c, ns [("returnitem", .ref a)]) :: ρ) B hR' (by simp; lia) (by simp) ?_ ?_) ?_
  · intro p hp
    rcases List.mem_cons.mp hp with rfl | hp
    · exact hb.up
    · exact (ht p hp).up
  · walk_at "WALK"
    refine ⟨_, ?_, h⟩
    walk_at "WEAK"
  · walk_at "WEAK"
theorem f_heappop {ts : List (Addr × List Int)} {b : Addr} {y : List Int} (B : Base C mg L) (hR : Room A 5 9) (hz : ts.length ≤ 2) (hb : Has C ρ b (tup (zs y)))
    (ht : ∀ p ∈ ts, Has C ρ p.1 (tup (zs p.2))) (h : match ts with
      | [] => Q (.ref b) ((H, lst []) :: ρ)
      | (a, x) :: r => Q (.ref a) ((H, lst (rfs (sup ((b, y) :: r)))) :: ρ)) :
    EC C A (.ref L.aHeappop) [.ref H] ((H, lst (rfs ts ++ [.ref b])) :: ρ) Q := by
  have hs : sizeLine = 16777216 := by decide
  refine c_w B.G.nolimit B.fHeappop (by have := hR.depth; lia) (ll := [("heap", .ref H)]) (cs := fun _ => []) (binds1 (p := "heap")) fun c cdv => ?_
  have hR' : Room (A.deeper (fenv "heappop" (fnS (stAt 29)) c L.aHeappop cdv)) 4 6 := hR.deeper _
  walk_at "WALK"
  refine f_pop (xs := rfs ts) (by walk_at "UP") (by simp [rfs]; lia) ?_
  walk_at "WALK"
  refine b_list (xs := rfs ts) (Or.inl (by walk_at "MEM")) (by simp [rfs]; lia) ?_
  match ts, hz, ht, h with
  | [], hz, ht, h =>
    walk_at "ITE"
    refine ite_n (by simp [rfs]) ?_
    walk_at "WALK"
    refine ⟨_, ?_, h⟩
    walk_at "WEAK"
  | (a, x) :: r, hz, ht, h =>
    have hz2 : r.length ≤ 1 := by rw [List.length_cons] at hz; lia
    walk_at "ITE"
    refine ite_t (by simp [rfs]) ?_
    walk_at "WALK"
    refine i_list (xs := rfs ((a, x) :: r)) (v := .ref a) (Or.inl (by walk_at "MEM")) (by lia) (by lia) rfl ?_
    walk_at "WALK"
    refine set_list (j := 0) (xs := rfs ((a, x) :: r)) (by simp [rfs]) (by simp [rfs]; lia) (by walk_at "UP") ?_
    walk_at "WALK"
    refine EC.wk (f_siftup (ts := (b, y) :: r) (ρ := (c, ns [("returnitem", .ref a)]) :: ρ) B hR' (by simp; lia) (by simp) ?_ ?_) ?_
    · intro p hp
      rcases List.mem_cons.mp hp with rfl | hp
      · exact hb.up
      · exact (ht p (.tail _ hp)).up
    · walk_at "WALK"
      refine ⟨_, ?_, h⟩
      walk_at "WEAK"
    · walk_at "WEAK"
theorem f_heapify {p q r : Addr × List Int} (B : Base C mg L) (hR : Room A 5 9)
    (ht : ∀ t ∈ [p, q, r], Has C ρ t.1 (tup (zs t.2))) (h : Q .none ((H, lst (rfs (sup [p, q, r]))) :: ρ)) :
    EC C A (.ref L.aHeapify) [.ref H] ((H, lst (rfs [p, q, r])) :: ρ) Q := by
  have hs : sizeLine = 16777216 := by decide
  refine c_w B.G.nolimit B.fHeapify (by have := hR.depth; lia) (ll := [("x", .ref H)]) (cs := fun _ => []) (binds1 (p := "x")) fun c cdv => ?_
  have hR' : Room (A.deeper (fenv "heapify" (fnS (stAt 31)) c L.aHeapify cdv)) 4 6 := hR.deeper _
  walk_at "WALK"
  refine f_len_list (Or.inl (by walk_at "MEM")) (by simp [rfs]) ?_
  walk_at "WALK"
  refine s_for hR'.handled ?_
  walk_at "WALK"
  refine o_div (by lia) (PyProof.noPylong_small (by lia)) ?_
  walk_at "WALK"
  have e : (((rfs [p, q, r]).length : Int)).fdiv 2 = 1 := by simp [rfs]
  rw [e]
  refine f_range1 fun rg => ?_
  walk_at "WALK"
  refine f_revrange (Or.inl (by walk_at "MEM")) fun it => ?_
  refine pi_rit (by walk_at "MEM") ?_
  refine ⟨_, _, _, iter_range (a := 0) (c := -1) (n := 1), fun i τ => (i = 0 ∧ τ = (c, ns [("x", .ref H)]) :: (H, lst (rfs [p, q, r])) :: ρ) ∨ (i = 1 ∧ τ = (c, ns [("x", .ref H)]) :: (H, lst (rfs (sup [p, q, r]))) :: ρ), ⟨_, ?_, .inl ⟨rfl, rfl⟩⟩, ?_, ?_, ?_⟩
  · walk_at "WEAK"
  · intro _ _ _; trivial
  · rintro i v τ hv (⟨rfl, rfl⟩ | ⟨rfl, rfl⟩)
    · obtain ⟨rfl, _⟩ := rints_get hv
      walk_at "WALK"
      rw [show ((0 : Int) + ((0 : Nat) : Int) * -1) = 0 by decide]
      refine EC.wk (f_siftup (ts := [p, q, r]) (ρ := (c, ns [("x", .ref H)]) :: (it, rit (0 + ((0 + 1 : Nat) : Int) * -1) ((1 : Nat) - ((0 + 1 : Nat) : Int)) (-1)) :: ρ) B hR' (by simp) (by simp) (fun t h => (ht t h).up.up) ?_) ?_
      · walk_at "WALK"
        refine ⟨_, ?_, .inr ⟨rfl, rfl⟩⟩
        walk_at "WEAK"
      · walk_at "WEAK"
    · obtain ⟨_, h⟩ := rints_get hv
      lia
  · rintro τ (⟨h0, rfl⟩ | ⟨_, rfl⟩)
    · simp [rints] at h0
    · walk_at "WALK"
      refine ⟨_, ?_, h⟩
      walk_at "WEAK"
end
end TIkW8
section TIkW3
open PySem PySem.Calls PyProof.Rows
set_option maxRecDepth 4000
section
variable {C : Cx} {A : Around} {σ σ' : Asn} {Q : Value → Asn → Prop} {QF : Flow → Asn → Prop} {mg : Str → Option Value} {L : Lay}
theorem ES.wk {C : Cx} {A : Around} {env : Env} {st : Stmt} {σ τ : Asn} {Q : Flow → Asn → Prop} (h : ES C A env st τ Q) (w : Wk σ τ) : ES C A env st σ Q := EW.wk h w
theorem EX.out {C : Cx} {A : Around} {env : Env} {ss : List Stmt} {σ : Asn} {Q : Flow → Asn → Prop} (h : EX C A env ss σ fun f τ => ∃ τ', Wk τ τ' ∧ Q f τ') : EX C A env ss σ Q := EW.out h
theorem f_quote {c : Nat} {t : Tok} (B : Base C mg L) (hd : A.depth < recursionLimit) (hc : c < 256) (h : Q (sv (quo c)) σ) : EC C A (.ref L.aQuote) [.str ⟨#[c]⟩ t] σ Q := by
  refine c_w B.G.nolimit B.fQuote hd (ll := [("c", .str ⟨#[c]⟩ t)]) (cs := fun _ => []) (binds1 (p := "c")) fun a cdv => ?_
  walk_at "WALK"
  refine i_list (xs := quoMap.map sv) (v := sv (quo c)) (.inr B.mQuo) (by lia) (by lia) ?_ ⟨σ, .drop .refl, h⟩
  simp [quoMap, hc]
theorem f_unquote {x : List Nat} {c : Nat} {t : Tok} (B : Base C mg L) (hd : A.depth < recursionLimit) (hc : c < 256) (hx : hexV.lookup ⟨((x.drop 1).take 2).toArray⟩ = some c) (hz : x.length ≤ sizeLine) (h : Q (sv [c]) σ) : EC C A (.ref L.aUnquote) [sv x] σ Q := by
  refine c_w B.G.nolimit B.fUnquote hd (ll := [("s", sv x)]) (cs := fun _ => []) (binds1 (p := "s")) fun a cdv => ?_
  walk_at "WALK"
  refine q_nn (a := 1) (b := 3) hz rfl rfl ?_
  walk_at "WALK"
  refine f_hex hx ?_
  walk_at "WALK"
  refine f_chr (by lia) (by lia) ⟨σ, .drop .refl, ?_⟩
  rw [Int.toNat_natCast]; exact h

theorem body_for {a D it eb ap : Addr} {cdv : Value} {i M : Nat} {line T : List Nat} {prev : List (List Nat)} {lsv : List Value} {rest : List (Str × Value)} {x₀ : Value} (B : Base C mg L) (hR : Room A 3 3) (hM : 4 ≤ M) (hM' : M ≤ 1000) (hlz : line.length ≤ 3000) (hlc : ∀ c ∈ line, c < 256) (hch : (prev ++ encL M line).length ≤ 10000)
    (h : QF .next ((a, ns [("append", .ref ap), ("encoded_body", .ref eb), ("maxlinelen1", .int (M - 1) 0), ("soft_break", sv [61, 10]), ("body", sv T), ("eol", sv [10]), ("maxlinelen", .int M 0)]) :: (it, lit D i) :: (eb, lst ((prev ++ encL M line).map sv)) :: (ap, bnd eb) :: (D, lst lsv) :: σ)) :
    EX C A (fenv "body_encode" (fnS (stAt 20)) a L.aBodyEncode cdv) (forB (nth (fnB (stAt 20)) 7)) ((a, ns (("line", sv line) :: [("append", .ref ap), ("encoded_body", .ref eb), ("maxlinelen1", .int (M - 1) 0), ("soft_break", sv [61, 10]), ("body", sv T), ("eol", sv [10]), ("maxlinelen", .int M 0)])) :: (it, lit D i) :: (eb, lst (prev.map sv)) :: (ap, bnd eb) :: (D, lst lsv) :: σ) QF := by
  have hs : sizeLine = 16777216 := by decide
  refine EX.out (Q := QF) ?_
  walk_at "WALK"
  refine f_len_str (by simp [Str.length]; lia) ?_
  walk_at "WALK"
  refine ES.wk (body_while (a := a) (D := D) (it := it) (eb := eb) (ap := ap) (i := i) (prev := prev) (lsv := lsv) (σ := σ) (T := T) (line := line) B hM hM' hlz hch fun s out hs1 hs2 hshort heq => ?_) ?_
  · walk_at "WALK"
    refine b_sv (by lia) ?_
    rw [encL_short hshort] at heq
    have hout : out.length ≤ 10000 := by have := congrArg List.length heq; rw [List.length_append] at this; lia
    have hlen : (line.drop s).length = line.length - s := List.length_drop
    by_cases he : line = []
    · subst he
      walk_at "ITE"
      simp only [List.isEmpty_nil, Bool.not_true, Bool.false_eq_true, if_false]
      walk_at "ITE"
      refine ite_n Bool.false_ne_true ?_
      walk_at "WALK"
      refine q_n (a := s) (by simp) rfl ?_
      walk_at "WALK"
      refine ⟨_, ?_, h⟩
      · rw [← heq, show tailOf M (List.drop s []) = List.drop s [] by simp [tailOf]]
        walk_at "WEAK"
      · simp; lia
    have hne : line.isEmpty = false := by cases line with
      | nil => exact absurd rfl he
      | cons => rfl
    have hs3 : s < line.length := hs2.resolve_right he
    obtain ⟨c, hc⟩ : ∃ c, line.getLast? = some c := ⟨_, List.getLast?_eq_some_getLast he⟩
    have hc' : (line.drop s).getLast? = some c := by rw [List.getLast?_drop, if_neg (by lia), hc]
    have hc256 : c < 256 := hlc c (List.mem_of_getLast? hc)
    walk_at "ITE"
    simp only [hne, Bool.not_false, if_true]
    walk_at "WALK"
    refine g_last (by lia) rfl hc ?_
    walk_at "WALK"
    refine o_inc (l := [32, 9]) ?_
    walk_at "WALK"
    by_cases hw : c = 32 ∨ c = 9
    · walk_at "ITE"
      refine ite_t (by simpa using hw) ?_
      walk_at "WALK"
      refine ite_t rfl ?_
      walk_at "WALK"
      have hroom : ((s : Int) - ((line.length : Int) - 1 - (M : Int))) = (M : Int) + 1 - (line.drop s).length := by lia
      rw [hroom]
      by_cases h3 : (line.drop s).length + 2 ≤ M
      · walk_at "ITE"
        first | refine ite_dt (by lia) ?_ | refine ite_dt (by simp; lia) ?_ | refine ite_t (by simp; lia) ?_
        walk_at "WALK"
        refine g_last (by lia) rfl hc ?_
        walk_at "WALK"
        refine f_quote B (by have := hR.depth; lia) hc256 ?_
        walk_at "WALK"
        refine q_m1 (a := s) (by lia) rfl rfl ?_
        walk_at "WALK"
        refine o_adds (m := quo c) (by simp [quo]; lia) ?_
        walk_at "WALK"
        refine ⟨_, ?_, h⟩
        · rw [← heq, show tailOf M (List.drop s line) = (line.drop s).dropLast ++ quo c by simp only [tailOf, hc', if_pos hw, if_pos h3]]
          walk_at "WEAK"
        · simp; lia
      · walk_at "ITE"
        first | refine ite_df (by lia) ?_ | refine ite_df (by simp; lia) ?_ | refine ite_n (by simp; lia) ?_
        walk_at "WALK"
        by_cases h2 : (line.drop s).length + 1 = M
        · walk_at "ITE"
          first | refine ite_dt (by lia) ?_ | refine ite_dt (by simp; lia) ?_ | refine ite_t (by simp; lia) ?_
          walk_at "WALK"
          refine g_last (by lia) rfl hc ?_
          walk_at "WALK"
          refine o_adds (l := [c]) (m := [61, 10]) (by simp; lia) ?_
          walk_at "WALK"
          refine q_m1 (a := s) (by lia) rfl rfl ?_
          walk_at "WALK"
          refine o_adds (m := [c, 61, 10]) (by simp; lia) ?_
          walk_at "WALK"
          refine ⟨_, ?_, h⟩
          · rw [← heq, show tailOf M (List.drop s line) = (line.drop s).dropLast ++ [c, 61, 10] by simp only [tailOf, hc', if_pos hw, if_neg h3, if_pos h2]]
            walk_at "WEAK"
          · simp; lia
        · walk_at "ITE"
          first | refine ite_df (by lia) ?_ | refine ite_df (by simp; lia) ?_ | refine ite_n (by simp; lia) ?_
          walk_at "WALK"
          refine g_last (by lia) rfl hc ?_
          walk_at "WALK"
          refine f_quote B (by have := hR.depth; lia) hc256 ?_
          walk_at "WALK"
          refine o_adds (l := [61, 10]) (m := quo c) (by simp [quo]; lia) ?_
          walk_at "WALK"
          refine q_m1 (a := s) (by lia) rfl rfl ?_
          walk_at "WALK"
          refine o_adds (m := [61, 10] ++ quo c) (by simp [quo]; lia) ?_
          walk_at "WALK"
          refine ⟨_, ?_, h⟩
          · rw [← heq, show tailOf M (List.drop s line) = (line.drop s).dropLast ++ ([61, 10] ++ quo c) by simp only [tailOf, hc', if_pos hw, if_neg h3, if_neg h2]]
            walk_at "WEAK"
          · simp; lia
    · walk_at "ITE"
      refine ite_n (by simpa using hw) ?_
      walk_at "ITE"
      refine ite_n Bool.false_ne_true ?_
      walk_at "WALK"
      refine q_n (a := s) (by lia) rfl ?_
      walk_at "WALK"
      refine ⟨_, ?_, h⟩
      · rw [← heq, show tailOf M (List.drop s line) = line.drop s by simp only [tailOf, hc', if_neg hw]]
        walk_at "WEAK"
      · simp; lia
  · walk_at "WEAK"
end
end TIkW3
section TIkW9
open PySem PySem.Calls PyProof.Rows
set_option maxRecDepth 4000
theorem tlt_mz (a b : Mk) : tlt (mz a) (mz b) = mlt a b := by
  obtain ⟨a1, a2, a3⟩ := a; obtain ⟨b1, b2, b3⟩ := b
  unfold mz tlt mlt
  by_cases h1 : a1 = b1
  · subst h1
    simp only [if_true]
    unfold tlt
    by_cases h2 : a2 = b2
    · subst h2
      simp only [if_true]
      unfold tlt
      by_cases h3 : a3 = b3
      · subst h3; simp [tlt]
      · rw [if_neg (by lia)]; simp
    · rw [if_neg (by lia)]
      rw [Bool.eq_iff_iff]; simp; lia
  · rw [if_neg (by lia)]
    rw [Bool.eq_iff_iff]; simp; lia
noncomputable abbrev TM (ts : List (Addr × Mk)) : List (Addr × List Int) := ts.map fun p => (p.1, mz p.2)
theorem sup_TM : ∀ (ts : List (Addr × Mk)), ∃ ts' : List (Addr × Mk), sup (TM ts) = TM ts' ∧ ts'.map (·.2) = supM (ts.map (·.2)) ∧ (∀ p ∈ ts', p ∈ ts) ∧ ts'.length = ts.length
  | [] => ⟨[], rfl, rfl, fun _ h => h, rfl⟩
  | [a] => ⟨[a], rfl, rfl, fun _ h => h, rfl⟩
  | [a, b] => by
    simp only [TM, List.map_cons, List.map_nil, sup2, sup3, supM2, supM3, tlt_mz]
    cases mlt a.2 b.2
    · exact ⟨[b, a], by simp, by simp, fun p hp => by simp only [List.mem_cons, List.not_mem_nil, or_false] at hp ⊢; exact hp.symm, rfl⟩
    · exact ⟨[a, b], by simp, by simp, by simp, rfl⟩
  | [a, b, c] => by
    simp only [TM, List.map_cons, List.map_nil, sup2, sup3, supM2, supM3, tlt_mz]
    cases mlt b.2 c.2
    · cases mlt a.2 c.2
      · exact ⟨[c, b, a], by simp, by simp, fun p hp => by simp only [List.mem_cons, List.not_mem_nil, or_false] at hp ⊢; rcases hp with h | h | h <;> simp [h], rfl⟩
      · exact ⟨[a, b, c], by simp, by simp, by simp, rfl⟩
    · cases mlt a.2 b.2
      · exact ⟨[b, a, c], by simp, by simp, fun p hp => by simp only [List.mem_cons, List.not_mem_nil, or_false] at hp ⊢; rcases hp with h | h | h <;> simp [h], rfl⟩
      · exact ⟨[a, b, c], by simp, by simp, by simp, rfl⟩
  | a :: b :: c :: d :: r => ⟨a :: b :: c :: d :: r, rfl, rfl, fun _ h => h, rfl⟩
theorem has_app {C : Cx} {τ σ : Asn} {a : Addr} {r : Res} (h : Has C σ a r) : Has C (τ ++ σ) a r := h.imp (fun h => List.mem_append_right _ h) id
section
variable {C : Cx} {A : Around} {σ σ' ρ : Asn} {Q : Value → Asn → Prop} {QF : Flow → Asn → Prop} {mg : Str → Option Value} {L : Lay} {H : Addr} {env : Env}
structure Rows (C : Cx) (σ : Asn) (R : Addr) (ra : List Addr) (rs : List (List (List Nat))) : Prop where
  top : Has C σ R (lst (ra.map .ref))
  three : ra.length = 3
  three' : rs.length = 3
  row : ∀ (i : Nat) (h : i < 3), Has C σ (ra[i]'(by rw [three]; exact h)) (lst ((rs[i]'(by rw [three']; exact h)).map sv))
  few : ∀ r ∈ rs, r.length ≤ 100 ∧ ∀ x ∈ r, x.length ≤ 100
theorem Rows.up {R : Addr} {ra : List Addr} {rs : List (List (List Nat))} (h : Rows C σ R ra rs) (τ : Asn) : Rows C (τ ++ σ) R ra rs :=
  ⟨has_app h.top, h.three, h.three', fun i hi => has_app (h.row i hi), h.few⟩
theorem Rows.up1 {R : Addr} {p : Addr × Res} {ra : List Addr} {rs : List (List (List Nat))} (h : Rows C σ R ra rs) : Rows C (p :: σ) R ra rs := h.up [p]
theorem Rows.at {R : Addr} {ra : List Addr} {rs : List (List (List Nat))} (h : Rows C σ R ra rs) {i : Nat} (hi : i < 3) : ∃ r, (ra.map Value.ref)[i]? = some (.ref r) ∧ Has C σ r (lst (((rs[i]?).getD []).map sv)) ∧ ((rs[i]?).getD []).length ≤ 100 ∧ ∀ x ∈ ((rs[i]?).getD []), x.length ≤ 100 := by
  have h3 := h.three'
  have h1 := h.three
  refine ⟨ra[i]'(by lia), by simp [h1, hi], ?_, ?_⟩
  · rw [List.getElem?_eq_getElem (by lia)]; exact h.row i hi
  · rw [List.getElem?_eq_getElem (by lia)]; exact h.few _ (List.getElem_mem _)
theorem rowAt_get {rs : List (List (List Nat))} {i k : Nat} (h : k < cnt rs i) : (((rs[i]?).getD []).map sv)[k]? = some (sv (rowAt rs i k)) := by
  unfold rowAt
  have hk : ((rs[i]?).getD [])[k]? = some (((rs[i]?).getD [])[k]) := List.getElem?_eq_getElem h
  rw [List.getElem?_map, hk]; rfl
theorem rowAt_mem {rs : List (List (List Nat))} {i k : Nat} (h : k < cnt rs i) : rowAt rs i k ∈ (rs[i]?).getD [] := by
  unfold rowAt
  have hk : ((rs[i]?).getD [])[k]? = some (((rs[i]?).getD [])[k]) := List.getElem?_eq_getElem h
  rw [hk]; exact List.getElem_mem _
noncomputable def poolA (pl : List (Addr × Mk)) : Asn := pl.map fun p => (p.1, tup (zs (mz p.2)))
theorem pool_has {pl : List (Addr × Mk)} {p : Addr × Mk} (h : p ∈ pl) : Has C (poolA pl ++ σ) p.1 (tup (zs (mz p.2))) := .inl (List.mem_append_left _ (List.mem_map.mpr ⟨p, h, rfl⟩))
noncomputable abbrev rfm (ts : List (Addr × Mk)) : List Value := ts.map fun p => .ref p.1
theorem rfs_TM (ts : List (Addr × Mk)) : rfs (TM ts) = rfm ts := by simp [rfs, TM]
theorem f_wire {R : Addr} {ra : List Addr} {rs : List (List (List Nat))} (B : Base C mg L) (hR : Room A 6 12) (hr : Rows C σ R ra rs) (hne : ∀ i < 3, 0 < cnt rs i)
    (hsz : (wireM rs (leftM rs heap0) heap0).length ≤ 1000)
    (h : ∀ D, Q (.ref D) ((D, lst (((wireM rs (leftM rs heap0) heap0).map (lineM rs)).map sv)) :: σ)) :
    EC C A (.ref L.aLawWire) [.ref R] σ Q := by
  have hs : sizeLine = 16777216 := by decide
  refine c_w B.G.nolimit B.fLawWire (by have := hR.depth; lia) (ll := [("rows", .ref R)]) (cs := fun _ => []) (binds1 (p := "rows")) fun c cdv => ?_
  have hR' : Room (A.deeper (fenv "_law_wire" (fnS (stAt 36)) c L.aLawWire cdv)) 5 9 := hR.deeper _
  have k_heap : kL (fenv "_law_wire" (fnS (stAt 36)) c L.aLawWire cdv) "heap" = true := by kernel_rfl
  have k_lines : kL (fenv "_law_wire" (fnS (stAt 36)) c L.aLawWire cdv) "lines" = true := by kernel_rfl
  have k_hour : kL (fenv "_law_wire" (fnS (stAt 36)) c L.aLawWire cdv) "hour" = true := by kernel_rfl
  have k_i : kL (fenv "_law_wire" (fnS (stAt 36)) c L.aLawWire cdv) "i" = true := by kernel_rfl
  have k_k : kL (fenv "_law_wire" (fnS (stAt 36)) c L.aLawWire cdv) "k" = true := by kernel_rfl
  have k_rows : kL (fenv "_law_wire" (fnS (stAt 36)) c L.aLawWire cdv) "rows" = true := by kernel_rfl
  have k_quote : kG (fenv "_law_wire" (fnS (stAt 36)) c L.aLawWire cdv) "quote" = true := by kernel_rfl
  have k_chr : kG (fenv "_law_wire" (fnS (stAt 36)) c L.aLawWire cdv) "chr" = true := by kernel_rfl
  have k_len : kG (fenv "_law_wire" (fnS (stAt 36)) c L.aLawWire cdv) "len" = true := by kernel_rfl
  have k_heapreplace : kG (fenv "_law_wire" (fnS (stAt 36)) c L.aLawWire cdv) "heapreplace" = true := by kernel_rfl
  have k_heappop : kG (fenv "_law_wire" (fnS (stAt 36)) c L.aLawWire cdv) "heappop" = true := by kernel_rfl
  have k_heapify : kG (fenv "_law_wire" (fnS (stAt 36)) c L.aLawWire cdv) "heapify" = true := by kernel_rfl
  have k_range : kG (fenv "_law_wire" (fnS (stAt 36)) c L.aLawWire cdv) "range" = true := by kernel_rfl
  walk_at "WALK"
  refine s_assign_comp [] hR'.handled ?_
  walk_at "WALK"
  refine f_range1 fun rg => ?_
  refine pi_range1 (n := 3) (Or.inl (by walk_at "MEM")) (by lia) fun it => ?_
  refine ⟨_, _, _, iter_range (a := 0) (c := 1) (n := 3), fun i ys τ => ∃ pl : List (Addr × Mk), pl.length = i ∧ pl.reverse.map (·.2) = (List.range i).map (fun j => (0, j, 0)) ∧ ys = rfm pl.reverse ∧ τ = (c, ns [("rows", .ref R)]) :: (poolA pl ++ σ), ⟨_, ?_, [], rfl, rfl, rfl, rfl⟩, ?_, ?_, ?_⟩
  · walk_at "WEAK"
  · rintro i ys τ p q hi ⟨pl, hpl, _, rfl, rfl⟩
    exact ⟨trivial, by rw [rints_length] at hi; simp; lia⟩
  · rintro i v ys τ D Lc hv ⟨pl, rfl, hpl, rfl, rfl⟩
    obtain ⟨rfl, hi⟩ := rints_get hv
    walk_at "WALK"
    refine ts_nil ?_
    walk_at "ITE"
    refine ite_t rfl ?_
    walk_at "WALK"
    refine v_tuple ?_
    walk_at "WALK"
    refine ⟨by simp; lia, fun T => ?_⟩
    have e : tup [Value.int 0 0, Value.int (0 + (pl.length : Int) * 1) 0, Value.int 0 0] = tup (zs (mz (0, pl.length, 0))) := by simp [zs, mz]
    rw [e]
    walk_at "WALK"
    refine ⟨_, ?_, (T, (0, pl.length, 0)) :: pl, rfl, ?_, by simp, rfl⟩
    · dsimp only [poolA, List.map_cons, List.cons_append]
      walk_at "WEAK"
    · rw [List.reverse_cons, List.map_append, hpl, List.range_succ, List.map_append]; rfl
  · rintro ys τ D Lc ⟨pl, hpl, hmk, rfl, rfl⟩
    rw [rints_length] at hpl
    match pl, hpl, hmk with
    | [p2, p1, p0], _, hmk =>
      obtain ⟨a0, m0⟩ := p0
      obtain ⟨a1, m1⟩ := p1
      obtain ⟨a2, m2⟩ := p2
      have hm : m0 = (0, 0, 0) ∧ m1 = (0, 1, 0) ∧ m2 = (0, 2, 0) := by
        have e : (List.range 3).map (fun j => ((0, j, 0) : Mk)) = [(0, 0, 0), (0, 1, 0), (0, 2, 0)] := rfl
        rw [rints_length, e] at hmk
        simpa using hmk
      obtain ⟨rfl, rfl, rfl⟩ := hm
      walk_at "WALK"
      refine ⟨_, _, _, rfl, ?_⟩
      have hpool : ∀ t ∈ TM [(a0, (0, 0, 0)), (a1, (0, 1, 0)), (a2, (0, 2, 0))], Has C (poolA [(a2, (0, 2, 0)), (a1, (0, 1, 0)), (a0, (0, 0, 0))] ++ σ) t.1 (tup (zs t.2)) := by
        intro t ht
        obtain ⟨q, hq, rfl⟩ := List.mem_map.mp ht
        exact pool_has (List.mem_reverse.mpr hq)
      walk_at "WALK"
      refine EC.wk (f_heapify (p := (a0, mz (0, 0, 0))) (q := (a1, mz (0, 1, 0))) (r := (a2, mz (0, 2, 0))) (ρ := (c, ns [("heap", .ref D), ("rows", .ref R)]) :: (poolA [(a2, (0, 2, 0)), (a1, (0, 1, 0)), (a0, (0, 0, 0))] ++ σ)) B hR' (fun t ht => (hpool t ht).up) ?_) ?_
      rotate_left
      · walk_at "WEAK"
      have hsup : rfs (sup [(a0, mz (0, 0, 0)), (a1, mz (0, 1, 0)), (a2, mz (0, 2, 0))]) = rfm [(a0, (0, 0, 0)), (a1, (0, 1, 0)), (a2, (0, 2, 0))] := by
        simp only [sup3, tlt_mz]
        walk_at "ITE"
        rw [if_pos (by decide), if_pos (by decide)]; rfl
      rw [hsup]
      have hp0 : ∀ p ∈ [(a0, ((0, 0, 0) : Mk)), (a1, (0, 1, 0)), (a2, (0, 2, 0))], p ∈ [(a2, ((0, 2, 0) : Mk)), (a1, (0, 1, 0)), (a0, (0, 0, 0))] := fun p hp => List.mem_reverse.mpr hp
      have hm0 : ([(a0, ((0, 0, 0) : Mk)), (a1, (0, 1, 0)), (a2, (0, 2, 0))]).map (·.2) = heap0 := rfl
      have hl0 : ([(a0, ((0, 0, 0) : Mk)), (a1, (0, 1, 0)), (a2, (0, 2, 0))]).length = 3 := rfl
      generalize [(a0, ((0, 0, 0) : Mk)), (a1, (0, 1, 0)), (a2, (0, 2, 0))] = ts0 at hp0 hm0 hl0 ⊢
      generalize [(a2, ((0, 2, 0) : Mk)), (a1, (0, 1, 0)), (a0, (0, 0, 0))] = pl0 at hp0 ⊢
      walk_at "WALK"
      refine v_list ?_
      walk_at "WALK"
      refine ⟨by simp, fun Ln => ?_⟩
      walk_at "WALK"
      refine s_while (fun (n : Nat) (τ : Asn) => ∃ (ts pl : List (Addr × Mk)) (out : List Mk), n = leftM rs (ts.map (·.2)) ∧ HOk rs (ts.map (·.2)) ∧ Least (ts.map (·.2)) ∧ (∀ p ∈ ts, p ∈ pl) ∧ out ++ wireM rs n (ts.map (·.2)) = wireM rs (leftM rs heap0) heap0 ∧
        τ = (c, ns [("lines", .ref Ln), ("heap", .ref D), ("rows", .ref R)]) :: (D, lst (rfm ts)) :: (Ln, lst ((out.map (lineM rs)).map sv)) :: (poolA pl ++ σ))
        (leftM rs heap0) ?_ ⟨ts0, pl0, [], by rw [hm0], ?_, ?_, hp0, by rw [hm0]; rfl, rfl⟩ ?_
      · dsimp only [List.map_nil]
        walk_at "WEAK"
      · rw [hm0]; exact heap0_ok hne
      · rw [hm0]; exact heap0_least
      rintro n τ ⟨ts, pl, out, hn, hok, hleast, hin, heq, rfl⟩
      have hout : out.length ≤ 1000 := by have := congrArg List.length heq; rw [List.length_append] at this; lia
      have hlen : ts.length ≤ 3 := by have := hok.few; simpa using this
      walk_at "WALK"
      refine b_list (xs := rfm ts) (Or.inl (by walk_at "MEM")) (by simp; lia) ?_
      match ts, hn, hok, hleast, hin, heq, hlen with
      | [], hn, _, _, _, heq, _ =>
        walk_at "ITE"
        first | refine ite_n (by decide) ?_ | refine ite_n (by simp) ?_
        walk_at "WALK"
        have hw : out = wireM rs (leftM rs heap0) heap0 := by
          rw [← heq, hn]; simp [leftM, wireM]
        rw [hw]
        refine ⟨_, ?_, h Ln⟩
        walk_at "WEAK"
      | (a, (hh, i, k)) :: rest, hn, hok, hleast, hin, heq, hlen =>
        walk_at "ITE"
        first | refine ite_t (by decide) ?_ | refine ite_t (by simp) ?_
        have hok : HOk rs ((hh, i, k) :: rest.map (·.2)) := hok
        have hleast : Least ((hh, i, k) :: rest.map (·.2)) := hleast
        have hn : n = leftM rs ((hh, i, k) :: rest.map (·.2)) := hn
        have heq : out ++ wireM rs n ((hh, i, k) :: rest.map (·.2)) = wireM rs (leftM rs heap0) heap0 := heq
        obtain ⟨_, hk, hi⟩ := hok.at_ (hh, i, k) (by simp)
        dsimp only at hk hi
        obtain ⟨r, hr1, hr2, hr3, hr4⟩ := hr.at hi
        have hpa := pool_has (C := C) (σ := σ) (hin (a, (hh, i, k)) (by simp))
        have hrowz := hr4 _ (rowAt_mem hk)
        walk_at "WALK"
        refine i_list (xs := rfm ((a, (hh, i, k)) :: rest)) (v := .ref a) (Or.inl (by walk_at "MEM")) (by lia) (by lia) rfl ?_
        walk_at "WALK"
        refine as_tuple hR'.handled (xs := zs (mz (hh, i, k))) hpa.up.up.up rfl rfl ?_
        dsimp only [zs, mz, List.map_cons, List.map_nil]
        walk_at "WALK"
        refine f_chr (by lia) (by lia) ?_
        rw [show (200 + (i : Int)).toNat = 200 + i by lia]
        walk_at "WALK"
        refine f_quote B (by have := hR'.depth; lia) (by lia) ?_
        walk_at "WALK"
        refine i_list (xs := ra.map .ref) (v := .ref r) (has_app hr.top).up.up.up (by lia) (by lia) (by simpa using hr1) ?_
        walk_at "WALK"
        refine i_list (xs := ((rs[i]?).getD []).map sv) (v := sv (rowAt rs i k)) (has_app hr2).up.up.up (by lia) (by have : k < 100 := Nat.lt_of_lt_of_le hk hr3; lia) (by simpa using rowAt_get hk) ?_
        walk_at "WALK"
        refine o_adds (m := rowAt rs i k) (by simp [quo]; lia) ?_
        walk_at "WALK"
        refine i_list (xs := ra.map .ref) (v := .ref r) (has_app hr.top).up.up.up (by lia) (by lia) (by simpa using hr1) ?_
        walk_at "WALK"
        refine f_len_list (has_app hr2).up.up.up (by simp; lia) ?_
        walk_at "WALK"
        obtain ⟨hok', hleast', hperm, _, hleft⟩ := nextH_ok hok hleast
        have hnx : out ++ [(hh, i, k)] ++ wireM rs (leftM rs (nextH rs (((hh, i, k) :: rest.map (·.2))))) (nextH rs (((hh, i, k) :: rest.map (·.2)))) = wireM rs (leftM rs heap0) heap0 := by
          rw [← heq, hn, ← hleft]
          simp [wireM]
        have hcnt : ((((rs[i]?).getD []).map sv).length : Int) = cnt rs i := by simp [cnt]
        rw [hcnt]
        have hline : lst ((List.map (lineM rs) out).map sv ++ [sv (quo (200 + i) ++ rowAt rs i k)]) = lst (((out ++ [(hh, i, k)]).map (lineM rs)).map sv) := by simp [lineM]
        rw [hline]
        by_cases hkl : k + 1 < cnt rs i
        · walk_at "ITE"
          first | refine ite_dt (by lia) ?_ | refine ite_dt (by simp; lia) ?_ | refine ite_t (by simp; lia) ?_
          walk_at "WALK"
          refine v_tuple ?_
          walk_at "WALK"
          refine i_list (xs := ra.map .ref) (v := .ref r) (has_app hr.top).up.up.up (by lia) (by lia) (by simpa using hr1) ?_
          walk_at "WALK"
          refine i_list (xs := ((rs[i]?).getD []).map sv) (v := sv (rowAt rs i k)) (has_app hr2).up.up.up (by lia) (by have : k < 100 := Nat.lt_of_lt_of_le hk hr3; lia) (by simpa using rowAt_get hk) ?_
          walk_at "WALK"
          refine f_len_str (by simp [Str.length]; lia) ?_
          walk_at "WALK"
          refine ⟨by simp; lia, fun T => ?_⟩
          have et' : tup [Value.int ((hh : Int) + ((⟨(rowAt rs i k).toArray⟩ : Str).length : Int) + 1) 0, Value.int (i : Int) 0, Value.int ((k : Int) + 1) 0] = tup (zs (mz (hh + (rowAt rs i k).length + 1, i, k + 1))) := by
            simp [zs, mz, Str.length]
          rw [et']
          walk_at "WALK"
          obtain ⟨ts', e1, e2, e3, e4⟩ := sup_TM ((T, (hh + (rowAt rs i k).length + 1, i, k + 1)) :: rest)
          have hxt : nextH rs ((hh, i, k) :: rest.map (·.2)) = ts'.map (·.2) := by
            rw [e2]; simp only [nextH]; rw [if_pos hkl]; rfl
          refine EC.wk (f_heapreplace (a := a) (b := T) (x := mz (hh, i, k)) (y := mz (hh + (rowAt rs i k).length + 1, i, k + 1)) (ts := TM rest) (ρ := (c, ns [("lines", .ref Ln), ("heap", .ref D), ("rows", .ref R)]) :: (Ln, lst (((out ++ [(hh, i, k)]).map (lineM rs)).map sv)) :: (poolA ((T, (hh + (rowAt rs i k).length + 1, i, k + 1)) :: pl) ++ σ)) B hR' (by rw [List.length_map]; have := hlen; rw [List.length_cons] at this; lia) ?_ ?_ ?_) ?_
          · exact (pool_has (p := (T, (hh + (rowAt rs i k).length + 1, i, k + 1))) (List.mem_cons_self ..)).up.up
          · intro t ht
            obtain ⟨q, hq, rfl⟩ := List.mem_map.mp ht
            exact (pool_has (p := q) (List.mem_cons_of_mem _ (hin q (List.mem_cons_of_mem _ hq)))).up.up
          · walk_at "WALK"
            refine ⟨_, leftM rs (ts'.map (·.2)), ?_, ?_, ts', (T, (hh + (rowAt rs i k).length + 1, i, k + 1)) :: pl, out ++ [(hh, i, k)], rfl, ?_, ?_, ?_, ?_, rfl⟩
            · have e5 : rfs (sup ((T, mz (hh + (rowAt rs i k).length + 1, i, k + 1)) :: TM rest)) = rfm ts' := by rw [show ((T, mz (hh + (rowAt rs i k).length + 1, i, k + 1)) :: TM rest) = TM ((T, (hh + (rowAt rs i k).length + 1, i, k + 1)) :: rest) from rfl, e1, rfs_TM]
              rw [e5]
              walk_at "WEAK"
            · rw [← hxt, hn]; lia
            · rw [← hxt]; exact hok'
            · rw [← hxt]; exact hleast'
            · intro p hp
              rcases List.mem_cons.mp (e3 p hp) with rfl | hp
              · simp
              · exact List.mem_cons_of_mem _ (hin p (List.mem_cons_of_mem _ hp))
            · rw [← hxt]; exact hnx
          · have e7 : rfs ((a, mz (hh, i, k)) :: TM rest) = Value.ref a :: List.map (fun p => Value.ref p.1) rest := by simp [rfs, TM]
            rw [e7]
            dsimp only [poolA, List.map_cons, List.cons_append]
            walk_at "WEAK"
        · walk_at "ITE"
          first | refine ite_df (by lia) ?_ | refine ite_df (by simp; lia) ?_ | refine ite_n (by simp; lia) ?_
          walk_at "WALK"
          rcases List.eq_nil_or_concat rest with rfl | ⟨r', l, rfl⟩
          · refine EC.wk (f_heappop (ts := []) (b := a) (y := mz (hh, i, k)) (ρ := (c, ns [("lines", .ref Ln), ("heap", .ref D), ("rows", .ref R)]) :: (Ln, lst (((out ++ [(hh, i, k)]).map (lineM rs)).map sv)) :: (poolA pl ++ σ)) B hR' (by simp) hpa.up.up (fun t ht => by cases ht) ?_) ?_
            · dsimp only
              walk_at "WALK"
              have hxt : nextH rs [(hh, i, k)] = [] := by simp only [nextH]; rw [if_neg hkl]; rfl
              refine ⟨_, leftM rs [], ?_, ?_, [], pl, out ++ [(hh, i, k)], rfl, ?_, ?_, (fun p hp => by cases hp), ?_, rfl⟩
              · walk_at "WEAK"
              · rw [hn]; simp only [List.map_nil] at hleft ⊢; rw [hxt] at hleft; lia
              · simp only [List.map_nil] at hok'; rw [hxt] at hok'; exact hok'
              · trivial
              · simp only [List.map_nil] at hnx; rw [hxt] at hnx; exact hnx
            · walk_at "WEAK"
          · rw [List.concat_eq_append] at *
            obtain ⟨la, lm⟩ := l
            obtain ⟨ts', e1, e2, e3, e4⟩ := sup_TM ((la, lm) :: r')
            have hxt : nextH rs ((hh, i, k) :: (r' ++ [(la, lm)]).map (·.2)) = ts'.map (·.2) := by
              rw [e2]; simp only [nextH]; rw [if_neg hkl]; simp
            refine EC.wk (f_heappop (ts := TM ((a, (hh, i, k)) :: r')) (b := la) (y := mz lm) (ρ := (c, ns [("lines", .ref Ln), ("heap", .ref D), ("rows", .ref R)]) :: (Ln, lst (((out ++ [(hh, i, k)]).map (lineM rs)).map sv)) :: (poolA pl ++ σ)) B hR' (by simp at hlen ⊢; lia) ?_ ?_ ?_) ?_
            · exact (pool_has (p := (la, lm)) (hin _ (by simp))).up.up
            · intro t ht
              obtain ⟨q, hq, rfl⟩ := List.mem_map.mp ht
              exact (pool_has (p := q) (hin _ (List.mem_append_left [(la, lm)] hq))).up.up
            · show EX _ _ _ _ _ _
              walk_at "WALK"
              refine ⟨_, leftM rs (ts'.map (·.2)), ?_, ?_, ts', pl, out ++ [(hh, i, k)], rfl, ?_, ?_, ?_, ?_, rfl⟩
              · have e5 : rfs (sup ((la, mz lm) :: List.map (fun p => (p.1, mz p.2)) r')) = rfm ts' := by rw [show ((la, mz lm) :: List.map (fun p => (p.1, mz p.2)) r') = TM ((la, lm) :: r') from rfl, e1, rfs_TM]
                rw [e5]
                walk_at "WEAK"
              · rw [← hxt, hn]; lia
              · rw [← hxt]; exact hok'
              · rw [← hxt]; exact hleast'
              · intro p hp
                refine hin p ?_
                rcases List.mem_cons.mp (e3 p hp) with rfl | h
                · exact List.mem_append_right ((a, (hh, i, k)) :: r') (List.mem_singleton.mpr rfl)
                · exact List.mem_append_left [(la, lm)] (List.mem_cons_of_mem _ h)
              · rw [← hxt]; exact hnx
            · have e6 : rfs (TM ((a, (hh, i, k)) :: r')) ++ [Value.ref la] = (Value.ref a :: List.map (fun p => Value.ref p.1) (r' ++ [(la, lm)])) := by simp [rfs, TM]
              rw [e6]
              walk_at "WEAK"
        · simp; lia
end
end TIkW9
section TIkW10
open PySem PySem.Calls PyProof.Rows
set_option maxRecDepth 4000
theorem own_snoc (rs : List (List (List Nat))) (i k : Nat) : own rs i 0 (k + 1) = own rs i 0 k ++ [(startH rs i k, i, k)] := by
  unfold own
  rw [List.range_succ, List.map_append]
  simp
noncomputable def upTo (rs : List (List (List Nat))) : Nat → List Mk
  | 0 => []
  | i + 1 => upTo rs i ++ own rs i 0 (cnt rs i)
theorem upTo3 (rs : List (List (List Nat))) : upTo rs 3 = marksM rs := by
  simp [upTo, marksM]
theorem own_len (rs : List (List (List Nat))) (i k n : Nat) : (own rs i k n).length = n := by simp [own]
theorem sum_cast (l : List (List Nat)) : (l.map fun x => (x.length : Int) + 1).sum = (((l.map fun x => x.length + 1).sum : Nat) : Int) := by
  induction l with
  | nil => rfl
  | cons a r ih => simp only [List.map_cons, List.sum_cons, ih]; lia
theorem head3 {i : Nat} (hi : i < 3) : [56, 57, 65][i]? = some (if i = 0 then 56 else if i = 1 then 57 else 65) := by
  have : i = 0 ∨ i = 1 ∨ i = 2 := by lia
  rcases this with rfl | rfl | rfl <;> rfl
theorem mem_own {rs : List (List (List Nat))} {i n : Nat} {m : Mk} (h : m ∈ own rs i 0 n) : m.2.1 = i ∧ m.2.2 < n := by
  simp only [own, List.mem_map, List.mem_range] at h
  obtain ⟨d, hd, rfl⟩ := h
  exact ⟨rfl, by simp; lia⟩
theorem mem_marks {rs : List (List (List Nat))} {m : Mk} (h : m ∈ marksM rs) : m.2.1 < 3 ∧ m.2.2 < cnt rs m.2.1 := by
  simp only [marksM, List.mem_append] at h
  rcases h with h | h | h
  · obtain ⟨a, b⟩ := mem_own h; rw [a]; exact ⟨by lia, b⟩
  · obtain ⟨a, b⟩ := mem_own h; rw [a]; exact ⟨by lia, b⟩
  · obtain ⟨a, b⟩ := mem_own h; rw [a]; exact ⟨by lia, b⟩
theorem first2 {rs : List (List (List Nat))} (h02 : 2 ≤ cnt rs 0) : mlt ((marksM rs).getD 0 (0, 0, 0)) ((marksM rs).getD 1 (0, 0, 0)) = true := by
  obtain ⟨c, hc⟩ : ∃ c, cnt rs 0 = c + 1 + 1 := ⟨cnt rs 0 - 2, by lia⟩
  have h := startH_lt (rs := rs) (i := 0) (d := 1) (k := 0) (by lia) (by lia)
  have e : marksM rs = (startH rs 0 0, 0, 0) :: (startH rs 0 (0 + 1), 0, 0 + 1) :: (own rs 0 (0 + 1 + 1) c ++ (own rs 1 0 (cnt rs 1) ++ own rs 2 0 (cnt rs 2))) := by
    unfold marksM
    rw [hc, own_succ, own_succ]; rfl
  rw [e, mlt_iff]
  exact Or.inl h
section
variable {C : Cx} {A : Around} {σ σ' ρ : Asn} {Q : Value → Asn → Prop} {QF : Flow → Asn → Prop} {mg : Str → Option Value} {L : Lay} {H : Addr} {env : Env}
theorem g_atc {l : List Nat} {i : Int} {a c : Nat} {t u : Tok} {y : Str} (hz : l.length ≤ sizeLine) (hi : i = (a : Int)) (hc : l[a]? = some c) (h : Q (sv [c]) σ) (hy : y = ⟨l.toArray⟩ := by exact rfl) : GI C A (.str y t) (.int i u) σ Q := by
  subst hy; exact g_at hz hi hc h
theorem o_addc {l m : List Nat} {t u : Tok} {x y : Str} (hz : l.length + m.length ≤ sizeLine) (h : Q (sv (l ++ m)) σ) (hx : x = ⟨l.toArray⟩ := by exact rfl) (hy : y = ⟨m.toArray⟩ := by exact rfl) : E2 C A (binaryOp .Add) (.str x t) (.str y u) σ Q := by
  subst hx; exact o_adds hz h hy
theorem f_bysums {R : Addr} {ra : List Addr} {rs : List (List (List Nat))} (B : Base C mg L) (hR : Room A 6 12) (hr : Rows C σ R ra rs) (hne : ∀ i < 3, 0 < cnt rs i) (h02 : 2 ≤ cnt rs 0)
    (hsz : (marksM rs).length < 64)
    (h : ∀ D, Q (.ref D) ((D, lst (((wireM rs (leftM rs heap0) heap0).map (lineM rs)).map sv)) :: σ)) :
    EC C A (.ref L.aLawBySums) [.ref R] σ Q := by
  have hs : sizeLine = 16777216 := by decide
  refine c_w B.G.nolimit B.fLawBySums (by have := hR.depth; lia) (ll := []) (cs := fun c => [(c + 1, cel (some (.ref R)))]) (binds1 (p := "rows")) fun c cdv => ?_
  have hR' : Room (A.deeper (fenv "_law_by_sums" (fnS (stAt 37)) c L.aLawBySums cdv)) 5 9 := hR.deeper _
  have k_marks : kL (fenv "_law_by_sums" (fnS (stAt 37)) c L.aLawBySums cdv) "marks" = true := by kernel_rfl
  have k_i : kL (fenv "_law_by_sums" (fnS (stAt 37)) c L.aLawBySums cdv) "i" = true := by kernel_rfl
  have k_k : kL (fenv "_law_by_sums" (fnS (stAt 37)) c L.aLawBySums cdv) "k" = true := by kernel_rfl
  have k_rows : kC (fenv "_law_by_sums" (fnS (stAt 37)) c L.aLawBySums cdv) "rows" = true := by kernel_rfl
  have k_range : kG (fenv "_law_by_sums" (fnS (stAt 37)) c L.aLawBySums cdv) "range" = true := by kernel_rfl
  have k_len : kG (fenv "_law_by_sums" (fnS (stAt 37)) c L.aLawBySums cdv) "len" = true := by kernel_rfl
  have k_sum : kG (fenv "_law_by_sums" (fnS (stAt 37)) c L.aLawBySums cdv) "sum" = true := by kernel_rfl
  have k_sorted : kG (fenv "_law_by_sums" (fnS (stAt 37)) c L.aLawBySums cdv) "sorted" = true := by kernel_rfl
  walk_at "WALK"
  refine v_list ?_
  walk_at "WALK"
  refine ⟨by simp, fun Mn => ?_⟩
  walk_at "WALK"
  refine s_for hR'.handled ?_
  walk_at "WALK"
  refine f_range1 fun rg => ?_
  refine pi_range1 (n := 3) (Or.inl (by walk_at "MEM")) (by lia) fun it => ?_
  refine ⟨_, _, _, iter_range (a := 0) (c := 1) (n := 3), fun i τ => ∃ pl : List (Addr × Mk), pl.reverse.map (·.2) = upTo rs i ∧ τ = (c, ns [("marks", .ref Mn)]) :: (c + 1, cel (some (.ref R))) :: (Mn, lst (rfm pl.reverse)) :: (poolA pl ++ σ), ⟨_, ?_, [], rfl, rfl⟩, fun _ _ _ => trivial, ?_, ?_⟩
  · walk_at "WEAK"
  · rintro i v τ hv ⟨pl, hpl, rfl⟩
    obtain ⟨rfl, hi⟩ := rints_get hv
    rw [show (0 : Int) + (i : Int) * 1 = (i : Int) by lia]
    obtain ⟨r, hr1, hr2, hr3, hr4⟩ := hr.at hi
    have hcnt : ((((rs[i]?).getD []).map sv).length : Int) = cnt rs i := by simp [cnt]
    have hcz : cnt rs i ≤ 100 := hr3
    have hplz : pl.length ≤ 64 := by
      have h1 : (upTo rs i).length = pl.length := by rw [← hpl]; simp
      have h2 : (upTo rs i).length ≤ (upTo rs 3).length := by
        have : i = 0 ∨ i = 1 ∨ i = 2 := by lia
        rcases this with rfl | rfl | rfl <;> simp [upTo] <;> lia
      rw [upTo3] at h2
      lia
    walk_at "WALK"
    refine s_for hR'.handled ?_
    walk_at "WALK"
    refine i_list (xs := ra.map .ref) (v := .ref r) (has_app hr.top).up.up.up.up (by lia) (by lia) (by simpa using hr1) ?_
    walk_at "WALK"
    refine f_len_list (has_app hr2).up.up.up.up (by rw [hcnt]; lia) ?_
    rw [hcnt]
    walk_at "WALK"
    refine f_range1 fun rg2 => ?_
    refine pi_range1 (n := cnt rs i) (Or.inl (by walk_at "MEM")) (by lia) fun it2 => ?_
    refine ⟨_, _, _, iter_range (a := 0) (c := 1) (n := cnt rs i), fun k τ => ∃ pl : List (Addr × Mk), pl.reverse.map (·.2) = upTo rs i ++ own rs i 0 k ∧ τ = (c, ns [("i", .int i 0), ("marks", .ref Mn)]) :: (c + 1, cel (some (.ref R))) :: (it, rit (0 + ((i + 1 : Nat) : Int) * 1) ((3 : Nat) - ((i + 1 : Nat) : Int)) 1) :: (Mn, lst (rfm pl.reverse)) :: (poolA pl ++ σ), ⟨_, ?_, pl, ?_, rfl⟩, fun _ _ _ => trivial, ?_, ?_⟩
    · walk_at "WEAK"
    · rw [hpl]; simp [own]
    · rintro k v τ hv ⟨pl, hpl, rfl⟩
      obtain ⟨rfl, hk⟩ := rints_get hv
      rw [show (0 : Int) + (k : Int) * 1 = (k : Int) by lia]
      have hplz2 : pl.length ≤ 200 := by
        have h1 := congrArg List.length hpl
        simp only [List.length_map, List.length_reverse, List.length_append, own_len] at h1
        have h2 : (upTo rs i).length ≤ (upTo rs 3).length := by
          have : i = 0 ∨ i = 1 ∨ i = 2 := by lia
          rcases this with rfl | rfl | rfl <;> simp [upTo] <;> lia
        rw [upTo3] at h2
        lia
      walk_at "WALK"
      refine v_tuple ?_
      walk_at "WALK"
      refine v_listcomp [] hR'.handled ?_
      walk_at "WALK"
      refine i_list (xs := ra.map .ref) (v := .ref r) (has_app hr.top).up.up.up.up.up (by lia) (by lia) (by simpa using hr1) ?_
      walk_at "WALK"
      refine q_lh (xs := ((rs[i]?).getD []).map sv) (b := k) (has_app hr2).up.up.up.up.up (by simp; lia) rfl fun D1 => ?_
      refine pi_list (Or.inl (by walk_at "MEM")) fun it3 => ?_
      refine ⟨_, _, _, iter_list (l := D1) (xs := (((rs[i]?).getD []).map sv).take k), fun j ys τ => ys = zs ((((rs[i]?).getD []).take j).map fun x => (x.length : Int) + 1) ∧
        τ = (D1, lst ((((rs[i]?).getD []).map sv).take k)) :: (it2, rit (0 + ((k + 1 : Nat) : Int) * 1) ((cnt rs i : Nat) - ((k + 1 : Nat) : Int)) 1) :: (c, ns [("k", .int k 0), ("i", .int i 0), ("marks", .ref Mn)]) :: (c + 1, cel (some (.ref R))) :: (it, rit (0 + ((i + 1 : Nat) : Int) * 1) ((3 : Nat) - ((i + 1 : Nat) : Int)) 1) :: (Mn, lst (rfm pl.reverse)) :: (poolA pl ++ σ), ⟨_, ?_, rfl, rfl⟩, ?_, ?_, ?_⟩
      · walk_at "WEAK"
      · rintro j ys τ p q hj ⟨rfl, rfl⟩
        exact ⟨(Or.inl (by walk_at "MEM")), by simp [zs]; simp at hj; lia⟩
      · rintro j v ys τ D Lc hv ⟨rfl, rfl⟩
        obtain ⟨x, hx, rfl, hjk⟩ : ∃ x, ((rs[i]?).getD [])[j]? = some x ∧ v = sv x ∧ j < k := by
          rw [List.getElem?_take] at hv
          split at hv
          · rename_i hjk
            rw [List.getElem?_map] at hv
            obtain ⟨x, h1, rfl⟩ := Option.map_eq_some_iff.mp hv
            exact ⟨x, h1, rfl, hjk⟩
          · cases hv
        have hxz := hr4 x (List.mem_of_getElem? hx)
        walk_at "WALK"
        refine ts_nil ?_
        walk_at "ITE"
        refine ite_t rfl ?_
        walk_at "WALK"
        refine f_len_str (by simp [Str.length]; lia) ?_
        walk_at "WALK"
        refine ⟨_, ?_, ?_, rfl⟩
        · walk_at "WEAK"
        · rw [List.take_add_one, hx]; simp [zs, Str.length]
      · rintro ys τ D _ ⟨rfl, rfl⟩
        walk_at "WALK"
        have hkl : ((((rs[i]?).getD []).map sv).take k).length = k := by
          have : k < ((rs[i]?).getD []).length := hk
          simp; lia
        rw [hkl]
        refine f_sum (ns := (((rs[i]?).getD []).take k).map fun x => (x.length : Int) + 1) hR'.handled (Or.inl (by walk_at "MEM")) ?_
        rw [sum_cast]
        walk_at "WALK"
        refine ⟨by simp; lia, fun T => ?_⟩
        have e : tup [Value.int ((((((rs[i]?).getD []).take k).map fun x => x.length + 1).sum : Nat) : Int) 0, Value.int (i : Int) 0, Value.int (k : Int) 0] = tup (zs (mz (startH rs i k, i, k))) := by simp [zs, mz, startH]
        rw [e]
        walk_at "WALK"
        refine ⟨_, ?_, (T, (startH rs i k, i, k)) :: pl, ?_, rfl⟩
        · dsimp only [poolA, List.map_cons, List.cons_append]
          walk_at "WEAK"
        · rw [List.reverse_cons, List.map_append, hpl, own_snoc, List.append_assoc]; rfl
        · simp; lia
    · rintro τ ⟨pl, hpl, rfl⟩
      rw [rints_length] at hpl
      walk_at "WALK"
      refine ⟨_, ?_, pl, ?_, rfl⟩
      · walk_at "WEAK"
      · rw [hpl]; rfl
  · rintro τ ⟨pl, hpl, rfl⟩
    rw [rints_length, upTo3] at hpl
    obtain ⟨wp, ws⟩ := wire0 hne
    have hnd : (marksM rs).Nodup := wp.nodup_iff.mp (show List.Pairwise (· ≠ ·) _ from ws.imp fun {a b} h e => by subst e; exact mlt_irrefl a h)
    have hplen : pl.reverse.length = (marksM rs).length := by rw [← hpl]; simp
    have h2 : 2 ≤ (marksM rs).length := by simp [marksM, own_len]; lia
    walk_at "WALK"
    refine v_listcomp [("rows", c + 1)] hR'.handled ?_
    walk_at "WALK"
    refine f_sorted (ts := pl.reverse) (Or.inl (by walk_at "MEM")) (fun p hp => (pool_has (List.mem_reverse.mp hp)).up.up.up) (by lia) (by lia) (by rw [hpl]; exact hnd) (by rw [hpl]; exact first2 h02) fun D ts' hperm hsorted => ?_
    have hts : ts'.map (·.2) = wireM rs (leftM rs heap0) heap0 := sorted_unique ((hperm.map _).trans ((by rw [hpl]; exact wp.symm))) hsorted ws
    refine pi_list (Or.inl (by walk_at "MEM")) fun it => ?_
    refine ⟨_, _, _, iter_list (l := D) (xs := ts'.map fun p => .ref p.1), fun j ys τ => ys = ((((ts'.take j).map (·.2)).map (lineM rs)).map sv) ∧
      τ = (D, lst (ts'.map fun p => .ref p.1)) :: (c, ns []) :: (c + 1, cel (some (.ref R))) :: (poolA pl ++ σ), ⟨_, ?_, rfl, rfl⟩, ?_, ?_, ?_⟩
    · walk_at "WEAK"
    · rintro j ys τ p q hj ⟨rfl, rfl⟩
      exact ⟨(Or.inl (by walk_at "MEM")), by have h1 := hperm.length_eq; rw [List.length_map] at hj; simp; lia⟩
    · rintro j v ys τ D2 Lc hv ⟨rfl, rfl⟩
      obtain ⟨p, hp, rfl⟩ : ∃ p, ts'[j]? = some p ∧ v = .ref p.1 := by
        rw [List.getElem?_map] at hv
        obtain ⟨p, h1, rfl⟩ := Option.map_eq_some_iff.mp hv
        exact ⟨p, h1, rfl⟩
      have hpm : p ∈ pl := List.mem_reverse.mp (hperm.mem_iff.mp (List.mem_of_getElem? hp))
      have hmm : p.2 ∈ marksM rs := by rw [← hpl]; exact List.mem_map.mpr ⟨p, List.mem_reverse.mpr hpm, rfl⟩
      obtain ⟨hi, hk⟩ := mem_marks hmm
      obtain ⟨a, hh, i, k⟩ := p
      dsimp only at hi hk
      obtain ⟨r, hr1, hr2, hr3, hr4⟩ := hr.at hi
      have hrowz := hr4 _ (rowAt_mem hk)
      have hkz : k < 100 := Nat.lt_of_lt_of_le hk hr3
      intro K K' hK hK'
      refine as_tuple hR'.handled (xs := zs (mz (hh, i, k))) (pool_has hpm).up.up.up.up.up.up rfl rfl ?_
      dsimp only [zs, mz, List.map_cons, List.map_nil]
      walk_at "WALK"
      refine ts_nil ?_
      walk_at "ITE"
      refine ite_t rfl ?_
      walk_at "WALK"
      refine g_atc (l := [56, 57, 65]) (a := i) (c := if i = 0 then 56 else if i = 1 then 57 else 65) (by simp; lia) rfl (head3 hi) ?_
      walk_at "WALK"
      refine o_addc (l := [61, 67]) (m := [if i = 0 then 56 else if i = 1 then 57 else 65]) (by simp; lia) ?_
      walk_at "WALK"
      refine i_list (xs := ra.map .ref) (v := .ref r) (has_app hr.top).up.up.up.up.up.up (by lia) (by lia) (by simpa using hr1) ?_
      walk_at "WALK"
      refine i_list (xs := ((rs[i]?).getD []).map sv) (v := sv (rowAt rs i k)) (has_app hr2).up.up.up.up.up.up (by lia) (by lia) (by simpa using rowAt_get hk) ?_
      walk_at "WALK"
      refine o_adds (m := rowAt rs i k) (by simp; lia) ?_
      walk_at "WALK"
      have e : sv ([61, 67] ++ [if i = 0 then 56 else if i = 1 then 57 else 65] ++ rowAt rs i k) = sv (lineM rs (hh, i, k)) := by
        have e1 : [61, 67] ++ [if i = 0 then 56 else if i = 1 then 57 else 65] = quo (200 + i) := by
          have : i = 0 ∨ i = 1 ∨ i = 2 := by lia
          rcases this with rfl | rfl | rfl <;> decide
        rw [e1]; rfl
      rw [e]
      refine ⟨_, ?_, ?_, rfl⟩
      · walk_at "WEAK"
      · rw [List.take_add_one, hp]; simp
    · rintro ys τ D2 _ ⟨rfl, rfl⟩
      have e : (((ts'.take (ts'.map fun p => Value.ref p.1).length).map (·.2)).map (lineM rs)).map sv = ((wireM rs (leftM rs heap0) heap0).map (lineM rs)).map sv := by
        rw [List.length_map, List.take_length, hts]
      rw [e]
      walk_at "WALK"
      refine ⟨_, ?_, h D2⟩
      walk_at "WEAK"
end
end TIkW10
section TIkW13
open PySem PySem.Calls PyProof.Rows
set_option maxRecDepth 4000
noncomputable def whB : Stmt → List Stmt
  | .While _ b _ _ => b
  | _ => []
noncomputable def ifB : Stmt → List Stmt
  | .If _ b _ _ => b
  | _ => []
noncomputable def ifO : Stmt → List Stmt
  | .If _ _ o _ => o
  | _ => []
noncomputable def brB : List Stmt := ifB (nth (ifO (nth (ifO (nth (whB (nth (fnB (stAt 27)) 3)) 2)) 0)) 0)
noncomputable def chB : List Stmt := ifO (nth (ifO (nth brB 4)) 1)
section
variable {C : Cx} {A : Around} {σ σ' ρ : Asn} {Q : Value → Asn → Prop} {QF : Flow → Asn → Prop} {mg : Str → Option Value} {L : Lay} {H : Addr} {env : Env} {cc P : Addr}
theorem s_cut {st : Stmt} (mid : Asn) (h1 : ES C A env st σ fun f τ => f = .next ∧ Wk τ mid) (h2 : QF .next mid) : ES C A env st σ QF :=
  EW.out (Q := fun f τ => QF (erF f) τ) (EW.mono h1 fun f τ ⟨e, w⟩ => ⟨mid, w, by rw [e]; exact h2⟩)
noncomputable abbrev CutK (mid : Asn) : Flow → Asn → Prop := fun f τ => f = .next ∧ Wk τ mid
theorem x_cut {st : Stmt} {rest : List Stmt} (mid : Asn) (h1 : ∀ K : Flow → Asn → Prop, (∀ f τ, CutK mid f τ → K f τ) → ES C A env st σ K) (h2 : EX C A env rest mid QF) : EX C A env (st :: rest) σ QF :=
  x_cons (EW.mono (h1 _ fun _ _ h => h) fun f τ ⟨e, w⟩ => by
    rw [e]
    exact fun s S => h2 s (S.wk w))
theorem find_f1 : firstI (Builtin.Str.occurrences ⟨([61, 67, 91, 56, 45, 65, 93, 42] : List Nat).toArray⟩ (Str.ofString "-") (fromIndex (Str.mk ([61, 67, 91, 56, 45, 65, 93, 42] : List Nat).toArray).length 4) (min (fromIndex (Str.mk ([61, 67, 91, 56, 45, 65, 93, 42] : List Nat).toArray).length 6) (Str.mk ([61, 67, 91, 56, 45, 65, 93, 42] : List Nat).toArray).length) 1) = 4 := by decide +kernel
theorem find_f2 : firstI (Builtin.Str.occurrences ⟨([61, 67, 91, 56, 45, 65, 93, 42] : List Nat).toArray⟩ (Str.ofString "-") (fromIndex (Str.mk ([61, 67, 91, 56, 45, 65, 93, 42] : List Nat).toArray).length 7) (min (fromIndex (Str.mk ([61, 67, 91, 56, 45, 65, 93, 42] : List Nat).toArray).length 6) (Str.mk ([61, 67, 91, 56, 45, 65, 93, 42] : List Nat).toArray).length) 1) = -1 := by decide +kernel
theorem chunk_f {c Rs ap : Addr} {r r' : Res} (B2 : Base2 C mg L cc P) (hR' : Room A 2 9) (hP : Up P tabR tabR σ σ)
    (h : ∀ τ, Wk τ ((c, ns [("stuff", sv [56, 45, 65]), ("j", .int 6 0), ("n", .int 8 0), ("add", .ref ap), ("res", .ref Rs), ("QUESTION_MARK", sv [46]), ("STAR", .none), ("pat", sv [61, 67, 91, 56, 45, 65, 93, 42])]) :: (Rs, r) :: (ap, r') :: σ) → QF .next τ) :
    EX C A (fenv "_translate" (fnS (stAt 27)) c L.aTranslate (.ref cc)) chB ((c, ns [("stuff", sv [56, 45, 65]), ("j", .int 6 0), ("i", .int 3 0), ("n", .int 8 0), ("add", .ref ap), ("res", .ref Rs), ("QUESTION_MARK", sv [46]), ("STAR", .none), ("pat", sv [61, 67, 91, 56, 45, 65, 93, 42])]) :: (Rs, r) :: (ap, r') :: σ) QF := by
  have hs : sizeLine = 16777216 := by decide
  have B := B2.toBase
  have k_pat : kL (fenv "_translate" (fnS (stAt 27)) c L.aTranslate (.ref cc)) "pat" = true := by kernel_rfl
  have k_STAR : kL (fenv "_translate" (fnS (stAt 27)) c L.aTranslate (.ref cc)) "STAR" = true := by kernel_rfl
  have k_QUESTION_MARK : kL (fenv "_translate" (fnS (stAt 27)) c L.aTranslate (.ref cc)) "QUESTION_MARK" = true := by kernel_rfl
  have k_res : kL (fenv "_translate" (fnS (stAt 27)) c L.aTranslate (.ref cc)) "res" = true := by kernel_rfl
  have k_add : kL (fenv "_translate" (fnS (stAt 27)) c L.aTranslate (.ref cc)) "add" = true := by kernel_rfl
  have k_i : kL (fenv "_translate" (fnS (stAt 27)) c L.aTranslate (.ref cc)) "i" = true := by kernel_rfl
  have k_n : kL (fenv "_translate" (fnS (stAt 27)) c L.aTranslate (.ref cc)) "n" = true := by kernel_rfl
  have k_c : kL (fenv "_translate" (fnS (stAt 27)) c L.aTranslate (.ref cc)) "c" = true := by kernel_rfl
  have k_j : kL (fenv "_translate" (fnS (stAt 27)) c L.aTranslate (.ref cc)) "j" = true := by kernel_rfl
  have k_stuff : kL (fenv "_translate" (fnS (stAt 27)) c L.aTranslate (.ref cc)) "stuff" = true := by kernel_rfl
  have k_chunks : kL (fenv "_translate" (fnS (stAt 27)) c L.aTranslate (.ref cc)) "chunks" = true := by kernel_rfl
  have k_k : kL (fenv "_translate" (fnS (stAt 27)) c L.aTranslate (.ref cc)) "k" = true := by kernel_rfl
  have k_chunk : kL (fenv "_translate" (fnS (stAt 27)) c L.aTranslate (.ref cc)) "chunk" = true := by kernel_rfl
  have k_len : kG (fenv "_translate" (fnS (stAt 27)) c L.aTranslate (.ref cc)) "len" = true := by kernel_rfl
  have k_escape : kG (fenv "_translate" (fnS (stAt 27)) c L.aTranslate (.ref cc)) "escape" = true := by kernel_rfl
  have k_range : kG (fenv "_translate" (fnS (stAt 27)) c L.aTranslate (.ref cc)) "range" = true := by kernel_rfl
  have k__twin_re_1 : kG (fenv "_translate" (fnS (stAt 27)) c L.aTranslate (.ref cc)) "_twin_re_1" = true := by kernel_rfl
  unfold chB
  walk_at "WALK"
  refine v_list ?_
  walk_at "WALK"
  refine ⟨by simp, fun Ck => ?_⟩
  walk_at "WALK"
  refine g_at (l := [61, 67, 91, 56, 45, 65, 93, 42]) (a := 3) (c := 56) (by simp; lia) rfl rfl ?_
  walk_at "WALK"
  refine o_eqc ?_
  walk_at "WALK"
  refine ite_n (by decide) ?_
  walk_at "WALK"
  refine s_cut ((c, ns [("chunks", .ref Ck), ("stuff", sv [56, 45, 65]), ("j", .int 6 0), ("i", .int 5 0), ("n", .int 8 0), ("add", .ref ap), ("res", .ref Rs), ("QUESTION_MARK", sv [46]), ("STAR", .none), ("pat", sv [61, 67, 91, 56, 45, 65, 93, 42])]) :: (Ck, lst [sv [56]]) :: (Rs, r) :: (ap, r') :: σ) ?_ ?_
  · refine s_while (I := fun n τ => (n = 1 ∧ τ = (c, ns [("k", .int 4 0), ("chunks", .ref Ck), ("stuff", sv [56, 45, 65]), ("j", .int 6 0), ("i", .int 3 0), ("n", .int 8 0), ("add", .ref ap), ("res", .ref Rs), ("QUESTION_MARK", sv [46]), ("STAR", .none), ("pat", sv [61, 67, 91, 56, 45, 65, 93, 42])]) :: (Ck, lst []) :: (Rs, r) :: (ap, r') :: σ) ∨
      (n = 0 ∧ τ = (c, ns [("k", .int 7 0), ("chunks", .ref Ck), ("stuff", sv [56, 45, 65]), ("j", .int 6 0), ("i", .int 5 0), ("n", .int 8 0), ("add", .ref ap), ("res", .ref Rs), ("QUESTION_MARK", sv [46]), ("STAR", .none), ("pat", sv [61, 67, 91, 56, 45, 65, 93, 42])]) :: (Ck, lst [sv [56]]) :: (Rs, r) :: (ap, r') :: σ)) 1 ?_ (.inl ⟨rfl, rfl⟩) ?_
    · walk_at "WEAK"
    rintro n τ (⟨rfl, rfl⟩ | ⟨rfl, rfl⟩)
    · intro K hK
      refine t_value ?_
      refine v_bool ?_
      refine b_bool ?_
      walk_at "ITE"
      refine ite_t rfl ?_
      walk_at "WALK"
      refine em_str PySem.F.slot_str_find PySem.F.type_str_find ?_
      walk_at "WALK"
      refine f_find4 ?_
      rw [find_f1]
      walk_at "WALK"
      refine ite_n (by decide) ?_
      walk_at "WALK"
      refine q_nn (l := [61, 67, 91, 56, 45, 65, 93, 42]) (a := 3) (b := 4) (by simp; lia) rfl rfl ?_
      walk_at "WALK"
      refine ⟨_, 0, ?_, by lia, .inr ⟨rfl, rfl⟩⟩
      walk_at "WEAK"
      decide
    · intro K hK
      refine t_value ?_
      refine v_bool ?_
      refine b_bool ?_
      walk_at "ITE"
      refine ite_t rfl ?_
      walk_at "WALK"
      refine em_str PySem.F.slot_str_find PySem.F.type_str_find ?_
      walk_at "WALK"
      refine f_find4 ?_
      rw [find_f2]
      walk_at "WALK"
      refine ite_t (by decide) ?_
      walk_at "WALK"
      refine ⟨by first | rfl | trivial, ?_⟩
      walk_at "WEAK"
  walk_at "WALK"
  refine q_nn (l := [61, 67, 91, 56, 45, 65, 93, 42]) (a := 5) (b := 6) (by simp; lia) rfl rfl ?_
  walk_at "WALK"
  refine b_sv (l := [65]) (by simp; lia) ?_
  walk_at "ITE"
  refine ite_t (by decide) ?_
  walk_at "WALK"
  refine s_for hR'.handled ?_
  walk_at "WALK"
  refine f_len_list (Or.inl (by walk_at "MEM")) (by simp) ?_
  walk_at "WALK"
  refine f_range3 (a := 1) (b := 0) (c := -1) (by decide) (by decide) fun rg => ?_
  refine pi_range (a := 1) (b := 0) (c := -1) (Or.inl (by walk_at "MEM")) (by decide) fun it => ?_
  rw [show Builtin.Range.rangeSize 1 0 (-1) = 1 by decide]
  refine ⟨_, _, _, iter_range (a := 1) (c := -1) (n := 1), fun (i : Nat) (τ : Asn) => τ = (c, ns [("chunks", .ref Ck), ("j", .int 6 0), ("n", .int 8 0), ("add", .ref ap), ("res", .ref Rs), ("QUESTION_MARK", sv [46]), ("STAR", .none), ("pat", sv [61, 67, 91, 56, 45, 65, 93, 42])]) :: (Ck, lst [sv [56], sv [65]]) :: (Rs, r) :: (ap, r') :: σ, ⟨_, ?_, rfl⟩, fun _ _ _ => trivial, ?_, ?_⟩
  · walk_at "WEAK"
  · rintro i v τ hv rfl
    obtain ⟨rfl, hi⟩ := rints_get hv
    have hi0 : i = 0 := by lia
    subst hi0
    walk_at "WALK"
    refine i_list (xs := [sv [56], sv [65]]) (v := sv [56]) (Or.inl (by walk_at "MEM")) (by decide) (by decide) rfl ?_
    walk_at "WALK"
    refine g_last (l := [56]) (c := 56) (by simp; lia) rfl rfl ?_
    walk_at "WALK"
    refine i_list (xs := [sv [56], sv [65]]) (v := sv [65]) (Or.inl (by walk_at "MEM")) (by decide) (by decide) rfl ?_
    walk_at "WALK"
    refine g_at (l := [65]) (a := 0) (c := 65) (by simp; lia) rfl rfl ?_
    walk_at "WALK"
    refine o_gt_str ?_
    walk_at "WALK"
    refine ite_n (by decide) ?_
    walk_at "WALK"
    refine ⟨_, ?_, rfl⟩
    walk_at "WEAK"
  · rintro τ rfl
    refine x_cons ?_
    refine s_assign ?_
    refine v_joingen (ys := [⟨[56].toArray⟩, ⟨#[65]⟩]) (l := Ck) B2.tab rfl (by exact .there (.there (.there (.there hP)))) hR'.handled (by have := hR'.depth; lia) B.G.nolimit ?_ (Or.inl (by walk_at "MEM")) ?_ (by decide +kernel) (by decide) ?_
    · walk_at "WALK"
      exact ⟨rfl, rfl⟩
    · intro cenv A' E' y t s m hsc hy hns hm
      have ho1 : ∀ y ∈ ([⟨[56].toArray⟩, ⟨#[65]⟩] : List Str), (Builtin.Str.occurrences y ⟨#[92]⟩ 0 y.length (y.length + 1)).isEmpty = true := by
        intro y hy
        simp only [List.mem_cons, List.not_mem_nil, or_false] at hy
        rcases hy with rfl | rfl <;> decide +kernel
      have ho2 : ∀ y ∈ ([⟨[56].toArray⟩, ⟨#[65]⟩] : List Str), (Builtin.Str.occurrences y ⟨#[45]⟩ 0 y.length (y.length + 1)).isEmpty = true := by
        intro y hy
        simp only [List.mem_cons, List.not_mem_nil, or_false] at hy
        rcases hy with rfl | rfl <;> decide +kernel
      refine wpAny_rep0 (x := y) (ho2 y hy) (wpAny_rep0 (x := y) (ho1 y hy) (wpAny_Name (wpAny_loadName_local (by rw [hsc]) (by unfold Env.kindOf; rw [hsc]; rfl) hns hm ⟨t, rfl, fun k => ⟨t, rfl, fun k => ⟨⟨t, rfl⟩, _, _, rfl, fun _ _ e => e⟩⟩⟩) (by decide)) rfl rfl) rfl rfl
    · refine ln ?_
      refine x_nil ?_
      refine h _ ?_
      have e : (Str.mk ([56, 45, 65] : List Nat).toArray) = Txt.join (Str.ofString "-") [⟨[56].toArray⟩, ⟨#[65]⟩] := by decide +kernel
      rw [← e]
      walk_at "WEAK"
  all_goals (first | decide | (simp; lia))
theorem find_t1 : firstI (Builtin.Str.occurrences ⟨([61, 67, 91, 33, 56, 45, 65, 93, 42] : List Nat).toArray⟩ (Str.ofString "-") (fromIndex (Str.mk ([61, 67, 91, 33, 56, 45, 65, 93, 42] : List Nat).toArray).length 5) (min (fromIndex (Str.mk ([61, 67, 91, 33, 56, 45, 65, 93, 42] : List Nat).toArray).length 7) (Str.mk ([61, 67, 91, 33, 56, 45, 65, 93, 42] : List Nat).toArray).length) 1) = 5 := by decide +kernel
theorem find_t2 : firstI (Builtin.Str.occurrences ⟨([61, 67, 91, 33, 56, 45, 65, 93, 42] : List Nat).toArray⟩ (Str.ofString "-") (fromIndex (Str.mk ([61, 67, 91, 33, 56, 45, 65, 93, 42] : List Nat).toArray).length 8) (min (fromIndex (Str.mk ([61, 67, 91, 33, 56, 45, 65, 93, 42] : List Nat).toArray).length 7) (Str.mk ([61, 67, 91, 33, 56, 45, 65, 93, 42] : List Nat).toArray).length) 1) = -1 := by decide +kernel
theorem chunk_t {c Rs ap : Addr} {r r' : Res} (B2 : Base2 C mg L cc P) (hR' : Room A 2 9) (hP : Up P tabR tabR σ σ)
    (h : ∀ τ, Wk τ ((c, ns [("stuff", sv [33, 56, 45, 65]), ("j", .int 7 0), ("n", .int 9 0), ("add", .ref ap), ("res", .ref Rs), ("QUESTION_MARK", sv [46]), ("STAR", .none), ("pat", sv [61, 67, 91, 33, 56, 45, 65, 93, 42])]) :: (Rs, r) :: (ap, r') :: σ) → QF .next τ) :
    EX C A (fenv "_translate" (fnS (stAt 27)) c L.aTranslate (.ref cc)) chB ((c, ns [("stuff", sv [33, 56, 45, 65]), ("j", .int 7 0), ("i", .int 3 0), ("n", .int 9 0), ("add", .ref ap), ("res", .ref Rs), ("QUESTION_MARK", sv [46]), ("STAR", .none), ("pat", sv [61, 67, 91, 33, 56, 45, 65, 93, 42])]) :: (Rs, r) :: (ap, r') :: σ) QF := by
  have hs : sizeLine = 16777216 := by decide
  have B := B2.toBase
  have k_pat : kL (fenv "_translate" (fnS (stAt 27)) c L.aTranslate (.ref cc)) "pat" = true := by kernel_rfl
  have k_STAR : kL (fenv "_translate" (fnS (stAt 27)) c L.aTranslate (.ref cc)) "STAR" = true := by kernel_rfl
  have k_QUESTION_MARK : kL (fenv "_translate" (fnS (stAt 27)) c L.aTranslate (.ref cc)) "QUESTION_MARK" = true := by kernel_rfl
  have k_res : kL (fenv "_translate" (fnS (stAt 27)) c L.aTranslate (.ref cc)) "res" = true := by kernel_rfl
  have k_add : kL (fenv "_translate" (fnS (stAt 27)) c L.aTranslate (.ref cc)) "add" = true := by kernel_rfl
  have k_i : kL (fenv "_translate" (fnS (stAt 27)) c L.aTranslate (.ref cc)) "i" = true := by kernel_rfl
  have k_n : kL (fenv "_translate" (fnS (stAt 27)) c L.aTranslate (.ref cc)) "n" = true := by kernel_rfl
  have k_c : kL (fenv "_translate" (fnS (stAt 27)) c L.aTranslate (.ref cc)) "c" = true := by kernel_rfl
  have k_j : kL (fenv "_translate" (fnS (stAt 27)) c L.aTranslate (.ref cc)) "j" = true := by kernel_rfl
  have k_stuff : kL (fenv "_translate" (fnS (stAt 27)) c L.aTranslate (.ref cc)) "stuff" = true := by kernel_rfl
  have k_chunks : kL (fenv "_translate" (fnS (stAt 27)) c L.aTranslate (.ref cc)) "chunks" = true := by kernel_rfl
  have k_k : kL (fenv "_translate" (fnS (stAt 27)) c L.aTranslate (.ref cc)) "k" = true := by kernel_rfl
  have k_chunk : kL (fenv "_translate" (fnS (stAt 27)) c L.aTranslate (.ref cc)) "chunk" = true := by kernel_rfl
  have k_len : kG (fenv "_translate" (fnS (stAt 27)) c L.aTranslate (.ref cc)) "len" = true := by kernel_rfl
  have k_escape : kG (fenv "_translate" (fnS (stAt 27)) c L.aTranslate (.ref cc)) "escape" = true := by kernel_rfl
  have k_range : kG (fenv "_translate" (fnS (stAt 27)) c L.aTranslate (.ref cc)) "range" = true := by kernel_rfl
  have k__twin_re_1 : kG (fenv "_translate" (fnS (stAt 27)) c L.aTranslate (.ref cc)) "_twin_re_1" = true := by kernel_rfl
  unfold chB
  walk_at "WALK"
  refine v_list ?_
  walk_at "WALK"
  refine ⟨by simp, fun Ck => ?_⟩
  walk_at "WALK"
  refine g_at (l := [61, 67, 91, 33, 56, 45, 65, 93, 42]) (a := 3) (c := 33) (by simp; lia) rfl rfl ?_
  walk_at "WALK"
  refine o_eqc ?_
  walk_at "WALK"
  refine ite_t (by decide) ?_
  walk_at "WALK"
  refine s_cut ((c, ns [("chunks", .ref Ck), ("stuff", sv [33, 56, 45, 65]), ("j", .int 7 0), ("i", .int 6 0), ("n", .int 9 0), ("add", .ref ap), ("res", .ref Rs), ("QUESTION_MARK", sv [46]), ("STAR", .none), ("pat", sv [61, 67, 91, 33, 56, 45, 65, 93, 42])]) :: (Ck, lst [sv [33, 56]]) :: (Rs, r) :: (ap, r') :: σ) ?_ ?_
  · refine s_while (I := fun n τ => (n = 1 ∧ τ = (c, ns [("k", .int 5 0), ("chunks", .ref Ck), ("stuff", sv [33, 56, 45, 65]), ("j", .int 7 0), ("i", .int 3 0), ("n", .int 9 0), ("add", .ref ap), ("res", .ref Rs), ("QUESTION_MARK", sv [46]), ("STAR", .none), ("pat", sv [61, 67, 91, 33, 56, 45, 65, 93, 42])]) :: (Ck, lst []) :: (Rs, r) :: (ap, r') :: σ) ∨
      (n = 0 ∧ τ = (c, ns [("k", .int 8 0), ("chunks", .ref Ck), ("stuff", sv [33, 56, 45, 65]), ("j", .int 7 0), ("i", .int 6 0), ("n", .int 9 0), ("add", .ref ap), ("res", .ref Rs), ("QUESTION_MARK", sv [46]), ("STAR", .none), ("pat", sv [61, 67, 91, 33, 56, 45, 65, 93, 42])]) :: (Ck, lst [sv [33, 56]]) :: (Rs, r) :: (ap, r') :: σ)) 1 ?_ (.inl ⟨rfl, rfl⟩) ?_
    · walk_at "WEAK"
    rintro n τ (⟨rfl, rfl⟩ | ⟨rfl, rfl⟩)
    · intro K hK
      refine t_value ?_
      refine v_bool ?_
      refine b_bool ?_
      walk_at "ITE"
      refine ite_t rfl ?_
      walk_at "WALK"
      refine em_str PySem.F.slot_str_find PySem.F.type_str_find ?_
      walk_at "WALK"
      refine f_find4 ?_
      rw [find_t1]
      walk_at "WALK"
      refine ite_n (by decide) ?_
      walk_at "WALK"
      refine q_nn (l := [61, 67, 91, 33, 56, 45, 65, 93, 42]) (a := 3) (b := 5) (by simp; lia) rfl rfl ?_
      walk_at "WALK"
      refine ⟨_, 0, ?_, by lia, .inr ⟨rfl, rfl⟩⟩
      walk_at "WEAK"
      decide
    · intro K hK
      refine t_value ?_
      refine v_bool ?_
      refine b_bool ?_
      walk_at "ITE"
      refine ite_t rfl ?_
      walk_at "WALK"
      refine em_str PySem.F.slot_str_find PySem.F.type_str_find ?_
      walk_at "WALK"
      refine f_find4 ?_
      rw [find_t2]
      walk_at "WALK"
      refine ite_t (by decide) ?_
      walk_at "WALK"
      refine ⟨by first | rfl | trivial, ?_⟩
      walk_at "WEAK"
  walk_at "WALK"
  refine q_nn (l := [61, 67, 91, 33, 56, 45, 65, 93, 42]) (a := 6) (b := 7) (by simp; lia) rfl rfl ?_
  walk_at "WALK"
  refine b_sv (l := [65]) (by simp; lia) ?_
  walk_at "ITE"
  refine ite_t (by decide) ?_
  walk_at "WALK"
  refine s_for hR'.handled ?_
  walk_at "WALK"
  refine f_len_list (Or.inl (by walk_at "MEM")) (by simp) ?_
  walk_at "WALK"
  refine f_range3 (a := 1) (b := 0) (c := -1) (by decide) (by decide) fun rg => ?_
  refine pi_range (a := 1) (b := 0) (c := -1) (Or.inl (by walk_at "MEM")) (by decide) fun it => ?_
  rw [show Builtin.Range.rangeSize 1 0 (-1) = 1 by decide]
  refine ⟨_, _, _, iter_range (a := 1) (c := -1) (n := 1), fun (i : Nat) (τ : Asn) => τ = (c, ns [("chunks", .ref Ck), ("j", .int 7 0), ("n", .int 9 0), ("add", .ref ap), ("res", .ref Rs), ("QUESTION_MARK", sv [46]), ("STAR", .none), ("pat", sv [61, 67, 91, 33, 56, 45, 65, 93, 42])]) :: (Ck, lst [sv [33, 56], sv [65]]) :: (Rs, r) :: (ap, r') :: σ, ⟨_, ?_, rfl⟩, fun _ _ _ => trivial, ?_, ?_⟩
  · walk_at "WEAK"
  · rintro i v τ hv rfl
    obtain ⟨rfl, hi⟩ := rints_get hv
    have hi0 : i = 0 := by lia
    subst hi0
    walk_at "WALK"
    refine i_list (xs := [sv [33, 56], sv [65]]) (v := sv [33, 56]) (Or.inl (by walk_at "MEM")) (by decide) (by decide) rfl ?_
    walk_at "WALK"
    refine g_last (l := [33, 56]) (c := 56) (by simp; lia) rfl rfl ?_
    walk_at "WALK"
    refine i_list (xs := [sv [33, 56], sv [65]]) (v := sv [65]) (Or.inl (by walk_at "MEM")) (by decide) (by decide) rfl ?_
    walk_at "WALK"
    refine g_at (l := [65]) (a := 0) (c := 65) (by simp; lia) rfl rfl ?_
    walk_at "WALK"
    refine o_gt_str ?_
    walk_at "WALK"
    refine ite_n (by decide) ?_
    walk_at "WALK"
    refine ⟨_, ?_, rfl⟩
    walk_at "WEAK"
  · rintro τ rfl
    refine x_cons ?_
    refine s_assign ?_
    refine v_joingen (ys := [⟨[33, 56].toArray⟩, ⟨#[65]⟩]) (l := Ck) B2.tab rfl (by exact .there (.there (.there (.there hP)))) hR'.handled (by have := hR'.depth; lia) B.G.nolimit ?_ (Or.inl (by walk_at "MEM")) ?_ (by decide +kernel) (by decide) ?_
    · walk_at "WALK"
      exact ⟨rfl, rfl⟩
    · intro cenv A' E' y t s m hsc hy hns hm
      have ho1 : ∀ y ∈ ([⟨[33, 56].toArray⟩, ⟨#[65]⟩] : List Str), (Builtin.Str.occurrences y ⟨#[92]⟩ 0 y.length (y.length + 1)).isEmpty = true := by
        intro y hy
        simp only [List.mem_cons, List.not_mem_nil, or_false] at hy
        rcases hy with rfl | rfl <;> decide +kernel
      have ho2 : ∀ y ∈ ([⟨[33, 56].toArray⟩, ⟨#[65]⟩] : List Str), (Builtin.Str.occurrences y ⟨#[45]⟩ 0 y.length (y.length + 1)).isEmpty = true := by
        intro y hy
        simp only [List.mem_cons, List.not_mem_nil, or_false] at hy
        rcases hy with rfl | rfl <;> decide +kernel
      refine wpAny_rep0 (x := y) (ho2 y hy) (wpAny_rep0 (x := y) (ho1 y hy) (wpAny_Name (wpAny_loadName_local (by rw [hsc]) (by unfold Env.kindOf; rw [hsc]; rfl) hns hm ⟨t, rfl, fun k => ⟨t, rfl, fun k => ⟨⟨t, rfl⟩, _, _, rfl, fun _ _ e => e⟩⟩⟩) (by decide)) rfl rfl) rfl rfl
    · refine ln ?_
      refine x_nil ?_
      refine h _ ?_
      have e : (Str.mk ([33, 56, 45, 65] : List Nat).toArray) = Txt.join (Str.ofString "-") [⟨[33, 56].toArray⟩, ⟨#[65]⟩] := by decide +kernel
      rw [← e]
      walk_at "WEAK"
  all_goals (first | decide | (simp; lia))
end
end TIkW13
section TIkSg
open PySem PySem.Calls PyProof.Rows
inductive Sg2
  | ch (c : Nat)
  | star
  | br (b : Bool) (k : Nat)
noncomputable def kinds : List (List Nat) := [[56], [57], [65], [56, 57], [56, 65], [57, 65], [56, 57, 65], [56, 45, 65]]
noncomputable def stuffL (b : Bool) (k : Nat) : List Nat := (if b then [33] else []) ++ kinds.getD k []
noncomputable def txtS : Sg2 → List Nat
  | .ch c => [c]
  | .star => [42]
  | .br b k => 91 :: (stuffL b k ++ [93])
noncomputable def partL (b : Bool) (k : Nat) : List Nat := 91 :: ((if b then [94] else []) ++ kinds.getD k [] ++ [93])
noncomputable def partS : Sg2 → Value
  | .ch c => sv [c]
  | .star => .none
  | .br b k => sv (partL b k)
noncomputable def okS : Sg2 → Prop
  | .ch c => c ∈ [61, 67, 56, 57, 65]
  | .star => True
  | .br b k => k < 8
noncomputable def patS (segs : List Sg2) : List Nat := segs.flatMap txtS
noncomputable def meetB (b : Bool) (k d : Nat) : Bool := (if k = 7 then decide (56 ≤ d ∧ d ≤ 65) else decide (d ∈ kinds.getD k [])) != b
noncomputable def plainS (s : Sg2) : Prop := okS s ∧ partS s ≠ .none
noncomputable def meetS : Sg2 → Nat → Bool
  | .ch c, d => c == d
  | .star, _ => false
  | .br b k, d => meetB b k d
noncomputable def keepB (ah be : List Sg2) (l : List Nat) : Bool := decide (ah.length + be.length ≤ l.length) && (ah.zip l ++ be.zip (l.drop (l.length - be.length))).all fun p => meetS p.1 p.2
noncomputable def cI (i : Nat) : Nat := if i = 0 then 56 else if i = 1 then 57 else 65
noncomputable def memK (k : Nat) : List Nat := if k = 7 then [56, 57, 65] else kinds.getD k []
noncomputable abbrev ahB (b : Bool) (k : Nat) : List Sg2 := [.ch 61, .ch 67, .br b k]
noncomputable abbrev ahC (j : Nat) : List Sg2 := [.ch 61, .ch 67, .ch (cI j)]
theorem quo_cI {i : Nat} (h : i < 3) : quo (200 + i) = [61, 67, cI i] := (show ∀ i : Fin 3, quo (200 + i.val) = [61, 67, cI i] by decide +kernel) ⟨i, h⟩
theorem line_cI {rs : List (List (List Nat))} {m : Mk} (h : m.2.1 < 3) : lineM rs m = 61 :: 67 :: cI m.2.1 :: rowAt rs m.2.1 m.2.2 := by
  unfold lineM; rw [quo_cI h]; rfl
theorem meetB_cI {b : Bool} {k i : Nat} (hk : k < 8) (hi : i < 3) : meetB b k (cI i) = (decide (cI i ∈ memK k) != b) :=
  (show ∀ k : Fin 8, ∀ i : Fin 3, ∀ b : Bool, meetB b k (cI i) = (decide (cI i ∈ memK k) != b) by decide +kernel) ⟨k, hk⟩ ⟨i, hi⟩ b
theorem keep_br {b : Bool} {k i : Nat} (hk : k < 8) (hi : i < 3) (r : List Nat) : keepB (ahB b k) [] (61 :: 67 :: cI i :: r) = (decide (cI i ∈ memK k) != b) := by
  unfold keepB
  simp only [List.length_cons, List.length_nil, List.zip_cons_cons, List.zip_nil_left, List.append_nil, List.all_cons, List.all_nil, meetS, meetB_cI hk hi]
  simp
theorem cI_inj {i j : Nat} (hi : i < 3) (hj : j < 3) : (cI j == cI i) = (i == j) := (show ∀ i : Fin 3, ∀ j : Fin 3, (cI j == cI i) = (i.val == j.val) by decide +kernel) ⟨i, hi⟩ ⟨j, hj⟩
theorem keep_own {j i : Nat} (hj : j < 3) (hi : i < 3) (r : List Nat) : keepB (ahC j) [] (61 :: 67 :: cI i :: r) = (i == j) := by
  unfold keepB
  simp only [List.length_cons, List.length_nil, List.zip_cons_cons, List.zip_nil_left, List.append_nil, List.all_cons, List.all_nil, meetS, cI_inj hi hj]
  simp
theorem keep_soft {j i : Nat} (hj : j < 3) (hi : i < 3) (r : List Nat) : keepB (ahC j) [.ch 61] (61 :: 67 :: cI i :: r) = (i == j && r.getLast? == some 61) := by
  unfold keepB
  rcases List.eq_nil_or_concat r with rfl | ⟨r', e, rfl⟩
  · simp
  · rw [List.concat_eq_append]
    have hd : (61 :: 67 :: cI i :: (r' ++ [e])).drop ((61 :: 67 :: cI i :: (r' ++ [e])).length - [Sg2.ch 61].length) = [e] := by
      have : (61 :: 67 :: cI i :: (r' ++ [e])).length - [Sg2.ch 61].length = (61 :: 67 :: cI i :: r').length := by simp
      rw [this]
      exact List.drop_left (l₁ := 61 :: 67 :: cI i :: r') (l₂ := [e])
    rw [hd]
    simp only [List.length_cons, List.length_nil, List.length_append, List.zip_cons_cons, List.zip_nil_left, List.append_nil, List.all_cons, List.all_nil, List.cons_append, List.nil_append, meetS, cI_inj hi hj]
    have h61 : ((61 : Nat) == e) = (e == 61) := by rw [Bool.eq_iff_iff]; simp; exact eq_comm
    have hl : ((r' ++ [e]).getLast? == some 61) = (e == 61) := by simp
    rw [hl, h61]
    have : (0 + 1 + 1 + 1 + (0 + 1) ≤ r'.length + (0 + 1) + 1 + 1 + 1) = True := by simp
    simp only [this]
    simp
end TIkSg
section TIkW12
open PySem PySem.Calls PyProof.Rows
set_option maxRecDepth 4000
theorem pat_at (done : List Sg2) (s : Sg2) (rest : List Sg2) (d : Nat) (hd : d < (txtS s).length) : (patS (done ++ s :: rest))[(patS done).length + d]? = (txtS s)[d]? := by
  unfold patS
  rw [List.flatMap_append, List.flatMap_cons, List.getElem?_append_right (by lia), Nat.add_sub_cancel_left, List.getElem?_append_left hd]
section
variable {C : Cx} {A : Around} {σ σ' ρ : Asn} {Q : Value → Asn → Prop} {QF : Flow → Asn → Prop} {mg : Str → Option Value} {L : Lay} {H : Addr} {env : Env} {cc P : Addr}
theorem lt8 {P : Nat → Prop} (h0 : P 0) (h1 : P 1) (h2 : P 2) (h3 : P 3) (h4 : P 4) (h5 : P 5) (h6 : P 6) (h7 : P 7) : ∀ {k : Nat}, k < 8 → P k
  | 0, _ => h0
  | 1, _ => h1
  | 2, _ => h2
  | 3, _ => h3
  | 4, _ => h4
  | 5, _ => h5
  | 6, _ => h6
  | 7, _ => h7
  | n + 8, h => absurd h (Nat.not_lt.mpr (Nat.le_add_left 8 n))
theorem frag_t {k : Nat} (hk : k < 8) : Value.str (Str.empty ++ Str.ofString "[" ++ { cps := ([94] ++ List.drop 1 (stuffL true k)).toArray } ++ Str.ofString "]") 0 = sv (partL true k) :=
  lt8 (P := fun k => Value.str (Str.empty ++ Str.ofString "[" ++ { cps := ([94] ++ List.drop 1 (stuffL true k)).toArray } ++ Str.ofString "]") 0 = sv (partL true k)) rfl rfl rfl rfl rfl rfl rfl rfl hk
theorem frag_f {k : Nat} (hk : k < 8) : Value.str (Str.empty ++ Str.ofString "[" ++ { cps := (stuffL false k).toArray } ++ Str.ofString "]") 0 = sv (partL false k) :=
  lt8 (P := fun k => Value.str (Str.empty ++ Str.ofString "[" ++ { cps := (stuffL false k).toArray } ++ Str.ofString "]") 0 = sv (partL false k)) rfl rfl rfl rfl rfl rfl rfl rfl hk
theorem j0_lt {b : Bool} {k x0 : Nat} (hx0 : (stuffL b k)[0]? = some x0) (h : 2 ≤ (stuffL true k).length) : (if b then 1 else 0) < (stuffL b k).length := by
  cases b with
  | false => exact (List.getElem?_eq_some_iff.mp hx0).1
  | true => exact h
theorem ne_head {x : Nat} (h1 : x ≠ 94) (h2 : x ≠ 91) : ([⟨#[94]⟩, ⟨#[91]⟩] : List Str).any (· == ⟨[x].toArray⟩) = false := by
  rw [List.any_eq_false]
  intro y hy
  simp only [List.mem_cons, List.not_mem_nil, or_false] at hy
  rcases hy with rfl | rfl
  · simp only [beq_iff_eq]; intro e; injection e with e; simp at e; exact h1 e.symm
  · simp only [beq_iff_eq]; intro e; injection e with e; simp at e; exact h2 e.symm
theorem stuff_facts (b : Bool) {k : Nat} (hk : k < 8) : (∀ x ∈ stuffL b k, x ≠ 93) ∧ (∃ x, (stuffL b k)[0]? = some x ∧ (x == 33) = b ∧ x ≠ 94 ∧ x ≠ 91) ∧ (decide (45 ∈ stuffL b k) = (k == 7)) ∧ (Builtin.Str.occurrences ⟨(stuffL b k).toArray⟩ ⟨#[92]⟩ 0 (stuffL b k).length ((stuffL b k).length + 1)).isEmpty = true ∧
    reMiss (stuffL b k).toArray = true ∧ stuffL b k ≠ [33] ∧ (stuffL b k).length ≤ 6 ∧ 2 ≤ (stuffL true k).length := by
  have key : ∀ b : Bool, ∀ k : Fin 8, (∀ x ∈ stuffL b k, x ≠ 93) ∧ ((stuffL b k)[0]?.any fun x => (x == 33) == b && (x != 94 && x != 91)) = true ∧ (decide (45 ∈ stuffL b k) = (k.val == 7)) ∧ (Builtin.Str.occurrences ⟨(stuffL b k).toArray⟩ ⟨#[92]⟩ 0 (stuffL b k).length ((stuffL b k).length + 1)).isEmpty = true ∧
      reMiss (stuffL b k).toArray = true ∧ stuffL b k ≠ [33] ∧ (stuffL b k).length ≤ 6 ∧ 2 ≤ (stuffL true k).length := by decide +kernel
  obtain ⟨h1, h2, h3⟩ := key b ⟨k, hk⟩
  refine ⟨h1, ?_, h3⟩
  obtain ⟨x, hx, hp⟩ : ∃ x, (stuffL b k)[0]? = some x ∧ ((x == 33) == b && (x != 94 && x != 91)) = true := by
    revert h2
    show ((stuffL b k)[0]?.any fun x => (x == 33) == b && (x != 94 && x != 91)) = true → _
    cases (stuffL b k)[0]? with
    | none => intro h; cases h
    | some x => intro h; exact ⟨x, rfl, h⟩
  simp only [Bool.and_eq_true, beq_iff_eq, bne_iff_ne] at hp
  exact ⟨x, hx, hp.1, hp.2.1, hp.2.2⟩
theorem i_lastl {l : Addr} {k : Int} {t : Tok} {xs : List Value} {v : Value} (hl : Has C σ l (lst (xs ++ [v]))) (hk : k = -1) (hz : xs.length < 1000) (h : Q v σ) : GI C A (.ref l) (.int k t) σ Q := fun u i hu hi s S => by
  subst hk
  obtain rfl := er_ref hu; obtain ⟨t', rfl⟩ := er_int hi
  obtain ⟨items, hp, e⟩ := lst_of (S.has hl)
  have hsz : items.size = xs.length + 1 := by rw [map_size e]; simp
  obtain ⟨w, hw, rfl⟩ := map_get (k := items.size - 1) e (v := v) (by rw [hsz]; simp)
  exact ⟨⟨"list", _, hp.isList.typeIs, slot_list_getitem.lookup⟩, wpAny_getItem_list_neg hp.isList (by lia) (by lia) (by lia) (by rw [show ((-1 : Int) + items.size).toNat = items.size - 1 by lia]; exact hw) ⟨σ, S, h⟩⟩
theorem f_parts {segs : List Sg2} (B2 : Base2 C mg L cc P) (hR : Room A 3 12) (hP : Up P tabR tabR σ σ) (hok : ∀ s ∈ segs, okS s) (hstar : ∀ d r, segs = d ++ .star :: r → ∃ d' s, d = d' ++ [s] ∧ partS s ≠ .none)
    (hbr : ∀ d b r, segs = d ++ .br b 7 :: r → d = [.ch 61, .ch 67] ∧ r = [.star]) (hz : (patS segs).length ≤ 100) (hz2 : segs.length ≤ 100) (h : ∀ D, Q (.ref D) ((D, lst (segs.map partS)) :: σ)) : EC C A (.ref L.aTranslate) [sv (patS segs), .none, sv [46]] σ Q := by
  have hs : sizeLine = 16777216 := by decide
  have B := B2.toBase
  refine c_wC B.G.nolimit B2.fTr (by have := hR.depth; lia) (ll := [("QUESTION_MARK", sv [46]), ("STAR", .none), ("pat", sv (patS segs))]) (cs := fun _ => []) (binds3 (p := "pat") (q := "STAR") (r := "QUESTION_MARK")) fun c => ?_
  have hR' : Room (A.deeper (fenv "_translate" (fnS (stAt 27)) c L.aTranslate (.ref cc))) 2 9 := hR.deeper _
  have k_pat : kL (fenv "_translate" (fnS (stAt 27)) c L.aTranslate (.ref cc)) "pat" = true := by kernel_rfl
  have k_STAR : kL (fenv "_translate" (fnS (stAt 27)) c L.aTranslate (.ref cc)) "STAR" = true := by kernel_rfl
  have k_QUESTION_MARK : kL (fenv "_translate" (fnS (stAt 27)) c L.aTranslate (.ref cc)) "QUESTION_MARK" = true := by kernel_rfl
  have k_res : kL (fenv "_translate" (fnS (stAt 27)) c L.aTranslate (.ref cc)) "res" = true := by kernel_rfl
  have k_add : kL (fenv "_translate" (fnS (stAt 27)) c L.aTranslate (.ref cc)) "add" = true := by kernel_rfl
  have k_i : kL (fenv "_translate" (fnS (stAt 27)) c L.aTranslate (.ref cc)) "i" = true := by kernel_rfl
  have k_n : kL (fenv "_translate" (fnS (stAt 27)) c L.aTranslate (.ref cc)) "n" = true := by kernel_rfl
  have k_c : kL (fenv "_translate" (fnS (stAt 27)) c L.aTranslate (.ref cc)) "c" = true := by kernel_rfl
  have k_j : kL (fenv "_translate" (fnS (stAt 27)) c L.aTranslate (.ref cc)) "j" = true := by kernel_rfl
  have k_stuff : kL (fenv "_translate" (fnS (stAt 27)) c L.aTranslate (.ref cc)) "stuff" = true := by kernel_rfl
  have k_chunks : kL (fenv "_translate" (fnS (stAt 27)) c L.aTranslate (.ref cc)) "chunks" = true := by kernel_rfl
  have k_k : kL (fenv "_translate" (fnS (stAt 27)) c L.aTranslate (.ref cc)) "k" = true := by kernel_rfl
  have k_chunk : kL (fenv "_translate" (fnS (stAt 27)) c L.aTranslate (.ref cc)) "chunk" = true := by kernel_rfl
  have k_len : kG (fenv "_translate" (fnS (stAt 27)) c L.aTranslate (.ref cc)) "len" = true := by kernel_rfl
  have k_escape : kG (fenv "_translate" (fnS (stAt 27)) c L.aTranslate (.ref cc)) "escape" = true := by kernel_rfl
  have k_range : kG (fenv "_translate" (fnS (stAt 27)) c L.aTranslate (.ref cc)) "range" = true := by kernel_rfl
  have k__twin_re_1 : kG (fenv "_translate" (fnS (stAt 27)) c L.aTranslate (.ref cc)) "_twin_re_1" = true := by kernel_rfl
  walk_at "WALK"
  refine v_list ?_
  walk_at "WALK"
  refine ⟨by simp, fun Rs => ?_⟩
  walk_at "WALK"
  refine v_bound ?_
  walk_at "WALK"
  refine ⟨Rs, rfl, [], (Or.inl (by walk_at "MEM")), fun ap => ?_⟩
  walk_at "WALK"
  refine s_assign_two hR'.handled ?_
  refine v_tuple ?_
  walk_at "WALK"
  refine f_len_str (by simp [Str.length]; lia) ?_
  walk_at "WALK"
  refine ⟨by simp; lia, fun T => ?_⟩
  refine ⟨T, _, _, rfl, (Or.inl (by walk_at "MEM")), ?_⟩
  walk_at "WALK"
  refine s_while (I := fun n τ => ∃ done rest, segs = done ++ rest ∧ n = rest.length ∧
    τ = (c, ns [("i", .int (patS done).length 0), ("n", .int (patS segs).length 0), ("add", .ref ap), ("res", .ref Rs), ("QUESTION_MARK", sv [46]), ("STAR", .none), ("pat", sv (patS segs))]) :: (Rs, lst (done.map partS)) :: (ap, bnd Rs) :: σ) segs.length ?_ ⟨[], segs, rfl, rfl, rfl⟩ ?_
  · walk_at "WEAK"
  rintro n τ ⟨done, rest, hsg, rfl, rfl⟩
  walk_at "WALK"
  rcases rest with _ | ⟨seg, rest⟩
  · rw [List.append_nil] at hsg
    subst hsg
    walk_at "ITE"
    first | refine ite_n (by decide) ?_ | refine ite_n (by simp) ?_
    walk_at "WALK"
    refine ⟨by simp, ?_⟩
    walk_at "WALK"
    refine ⟨_, ?_, h Rs⟩
    walk_at "WEAK"
  have hlen : (patS segs).length = (patS done).length + (txtS seg).length + (patS rest).length := by rw [hsg]; simp [patS]; lia
  have hdl : done.length + rest.length < segs.length := by rw [hsg]; simp
  have hpos : 0 < (txtS seg).length := by cases seg <;> simp [txtS]
  walk_at "ITE"
  first | refine ite_dt (by lia) ?_ | refine ite_dt (by simp; lia) ?_ | refine ite_t (by simp; lia) ?_
  walk_at "WALK"
  rcases seg with cc0 | _ | ⟨b, k⟩
  · have hcc : cc0 ∈ [61, 67, 56, 57, 65] := hok (.ch cc0) (by rw [hsg]; simp)
    have hc3 : cc0 ≠ 42 ∧ cc0 ≠ 63 ∧ cc0 ≠ 91 := by
      simp only [List.mem_cons, List.not_mem_nil, or_false] at hcc
      lia
    refine g_at (c := cc0) (by lia) rfl (by rw [hsg]; exact pat_at done (.ch cc0) rest 0 (by simp [txtS])) ?_
    walk_at "WALK"
    refine o_eqc ?_
    walk_at "WALK"
    first | refine ite_df (by lia) ?_ | refine ite_df (by simp; lia) ?_ | refine ite_n (by simp; lia) ?_
    walk_at "WALK"
    refine o_eqc ?_
    walk_at "WALK"
    first | refine ite_df (by lia) ?_ | refine ite_df (by simp; lia) ?_ | refine ite_n (by simp; lia) ?_
    walk_at "WALK"
    refine o_eqc ?_
    walk_at "WALK"
    first | refine ite_df (by lia) ?_ | refine ite_df (by simp; lia) ?_ | refine ite_n (by simp; lia) ?_
    walk_at "WALK"
    refine f_escape B (by have := hR'.depth; lia) hR'.handled hcc ?_
    walk_at "WALK"
    refine ⟨_, rest.length, ?_, by simp, done ++ [.ch cc0], rest, by rw [hsg]; simp, rfl, rfl⟩
    rw [show ((patS (done ++ [.ch cc0])).length : Int) = (patS done).length + 1 by simp [patS, txtS]]
    rw [show (done ++ [Sg2.ch cc0]).map partS = done.map partS ++ [sv [cc0]] by simp [partS]]
    walk_at "WEAK"
    simp; lia
  · obtain ⟨d', s, hd', hs'⟩ := hstar done rest hsg
    refine g_at (c := 42) (by lia) rfl (by rw [hsg]; exact pat_at done .star rest 0 (by simp [txtS])) ?_
    walk_at "WALK"
    refine o_eqc ?_
    walk_at "WALK"
    first | refine ite_t (by decide) ?_ | refine ite_t (by simp) ?_
    walk_at "WALK"
    refine b_list (xs := done.map partS) (Or.inl (by walk_at "MEM")) (by simp; lia) ?_
    have hdn : (done.map partS).isEmpty = false := by subst hd'; simp
    have hd'l : d'.length < 100 := by have := congrArg List.length hd'; simp at this; lia
    rw [hdn]
    walk_at "ITE"
    first | refine ite_n (by decide) ?_ | refine ite_n (by simp) ?_
    walk_at "WALK"
    refine i_lastl (xs := d'.map partS) (v := partS s) (by rw [hd']; simp [partS]; exact (Or.inl (by walk_at "MEM"))) (by lia) (by rw [List.length_map]; lia) ?_
    walk_at "WALK"
    refine o_isnotnone ?_ (by cases s <;> first | rfl | exact absurd rfl hs')
    walk_at "WALK"
    refine ite_t (by cases s <;> first | rfl | exact absurd rfl hs') ?_
    walk_at "ITE"
    refine ite_t rfl ?_
    walk_at "WALK"
    refine ⟨_, rest.length, ?_, by simp, done ++ [.star], rest, by rw [hsg]; simp, rfl, rfl⟩
    rw [show ((patS (done ++ [.star])).length : Int) = (patS done).length + 1 by simp [patS, txtS]]
    rw [show (done ++ [Sg2.star]).map partS = done.map partS ++ [.none] by simp [partS]]
    walk_at "WEAK"
    simp; lia
  · have hk : k < 8 := hok (.br b k) (by rw [hsg]; simp)
    have hat : ∀ d x, (txtS (.br b k))[d]? = some x → (patS segs)[(patS done).length + d]? = some x := fun d x e => by
      rw [hsg, pat_at done (.br b k) rest d (by rcases Nat.lt_or_ge d (txtS (.br b k)).length with h | h; exact h; rw [List.getElem?_eq_none h] at e; cases e)]; exact e
    have hin : ∀ d x, (stuffL b k)[d]? = some x → (patS segs)[(patS done).length + 1 + d]? = some x := fun d x e => by
      rw [Nat.add_assoc]
      refine hat (1 + d) x ?_
      have hd : d < (stuffL b k).length := (List.getElem?_eq_some_iff.mp e).1
      rw [Nat.add_comm 1 d]
      show (91 :: (stuffL b k ++ [93]))[d + 1]? = some x
      rw [List.getElem?_cons_succ, List.getElem?_append_left hd]; exact e
    have hend : (patS segs)[(patS done).length + 1 + (stuffL b k).length]? = some 93 := by
      rw [Nat.add_assoc, Nat.add_comm 1]
      refine hat _ _ ?_
      show (91 :: (stuffL b k ++ [93]))[(stuffL b k).length + 1]? = some 93
      rw [List.getElem?_cons_succ, List.getElem?_append_right (Nat.le_refl _)]; simp
    obtain ⟨F1, F2, F3, F4, F5, F6, F7⟩ := stuff_facts b hk
    have htx : (txtS (.br b k)).length = (stuffL b k).length + 2 := by simp [txtS]
    generalize hI : (patS done).length = I0 at *
    generalize hN : (patS segs).length = N at *
    refine g_at (c := 91) (by lia) rfl (by have := hat 0 91 rfl; simpa using this) ?_
    walk_at "WALK"
    refine o_eqc ?_
    walk_at "WALK"
    first | refine ite_n (by decide) ?_ | refine ite_n (by simp) ?_
    walk_at "WALK"
    refine o_eqc ?_
    walk_at "WALK"
    first | refine ite_n (by decide) ?_ | refine ite_n (by simp) ?_
    walk_at "WALK"
    refine o_eqc ?_
    walk_at "WALK"
    first | refine ite_t (by decide) ?_ | refine ite_t (by simp) ?_
    let mid : Int → Asn := fun J => (c, ns [("j", .int J 0), ("i", .int ((I0 : Int) + 1) 0), ("n", .int N 0), ("add", .ref ap), ("res", .ref Rs), ("QUESTION_MARK", sv [46]), ("STAR", .none), ("pat", sv (patS segs))]) :: (Rs, lst (done.map partS)) :: (ap, bnd Rs) :: σ
    let j0 : Nat := if b then 1 else 0
    obtain ⟨x0, hx0, hx1, hx2, hx3⟩ := F2
    have hj0 : j0 < (stuffL b k).length := j0_lt hx0 F7.2
    refine x_cut (mid ((I0 : Int) + 1)) ?_ ?_
    · walk_at "WALK"
      refine ⟨rfl, ?_⟩
      walk_at "WEAK"
    refine x_cut (mid ((I0 : Int) + 1 + j0)) ?_ ?_
    · walk_at "WALK"
      first | refine ite_dt (by lia) ?_ | refine ite_dt (by simp; lia) ?_ | refine ite_t (by simp; lia) ?_
      walk_at "WALK"
      refine g_at (a := I0 + 1) (c := x0) (by lia) (by simp) (hin 0 x0 hx0) ?_
      walk_at "WALK"
      refine o_eqc ?_
      walk_at "WALK"
      have hx1' : (x0 == (UInt8.ofNat '!'.val.toNat).toNat) = b := hx1
      rw [hx1']
      cases b with
      | false =>
        walk_at "ITE"
        first | refine ite_n (by decide) ?_ | refine ite_n (by simp) ?_
        walk_at "ITE"
        first | refine ite_n (by decide) ?_ | refine ite_n (by simp) ?_
        walk_at "WALK"
        refine ⟨by first | rfl | trivial, ?_⟩
        simp only [mid, j0, Bool.false_eq_true, if_false, Int.ofNat_zero, Int.add_zero]
        walk_at "WEAK"
      | true =>
        walk_at "ITE"
        refine ite_t rfl ?_
        walk_at "WALK"
        refine ite_t rfl ?_
        simp only [mid, j0, if_true]
        walk_at "WALK"
        refine ⟨by first | rfl | trivial, ?_⟩
        walk_at "WEAK"
    obtain ⟨x1, hxj⟩ : ∃ x1, (stuffL b k)[j0]? = some x1 := ⟨_, List.getElem?_eq_getElem hj0⟩
    have hx93 : x1 ≠ 93 := F1 x1 (List.mem_of_getElem? hxj)
    refine x_cut (mid ((I0 : Int) + 1 + j0)) ?_ ?_
    · dsimp only [mid]
      walk_at "WALK"
      first | refine ite_dt (by lia) ?_ | refine ite_dt (by simp; lia) ?_ | refine ite_t (by simp; lia) ?_
      walk_at "WALK"
      refine g_at (a := I0 + 1 + j0) (c := x1) (by lia) (by simp) (hin j0 x1 hxj) ?_
      walk_at "WALK"
      refine o_eqc ?_
      walk_at "WALK"
      refine ite_n (by simpa using hx93) ?_
      walk_at "ITE"
      first | refine ite_n (by decide) ?_ | refine ite_n (by simp) ?_
      walk_at "WALK"
      refine ⟨rfl, ?_⟩
      walk_at "WEAK"
    refine x_cut (mid ((I0 : Int) + 1 + (stuffL b k).length)) ?_ ?_
    · intro K hK
      dsimp only [mid] at hK ⊢
      refine s_while (I := fun n τ => ∃ d, n + d = (stuffL b k).length ∧ τ = mid ((I0 : Int) + 1 + d)) ((stuffL b k).length - j0) ?_ ⟨j0, by lia, rfl⟩ ?_
      · dsimp only [mid]
        walk_at "WEAK"
      rintro n τ ⟨d, hnd, rfl⟩
      dsimp only [mid]
      walk_at "WALK"
      first | refine ite_dt (by lia) ?_ | refine ite_dt (by simp; lia) ?_ | refine ite_t (by simp; lia) ?_
      walk_at "WALK"
      rcases n with _ | n
      · refine g_at (a := I0 + 1 + d) (c := 93) (by lia) (by simp) (by rw [show d = (stuffL b k).length by lia]; exact hend) ?_
        walk_at "WALK"
        refine o_nec ?_
        walk_at "WALK"
        first | refine ite_n (by decide) ?_ | refine ite_n (by simp) ?_
        walk_at "ITE"
        first | refine ite_n (by decide) ?_ | refine ite_n (by simp) ?_
        walk_at "WALK"
        refine ⟨by first | rfl | trivial, ?_⟩
        rw [show d = (stuffL b k).length by lia]
        walk_at "WEAK"
      · obtain ⟨x2, hx2d⟩ : ∃ x2, (stuffL b k)[d]? = some x2 := ⟨_, List.getElem?_eq_getElem (by lia)⟩
        refine g_at (a := I0 + 1 + d) (c := x2) (by lia) (by simp) (hin d x2 hx2d) ?_
        walk_at "WALK"
        refine o_nec ?_
        walk_at "WALK"
        have := F1 x2 (List.mem_of_getElem? hx2d)
        walk_at "ITE"
        refine ite_t (by simpa using this) ?_
        walk_at "WALK"
        refine ite_t rfl ?_
        walk_at "WALK"
        refine ⟨_, n, ?_, by lia, d + 1, by lia, rfl⟩
        dsimp only [mid]
        rw [show ((I0 : Int) + 1 + (d : Nat) + 1) = (I0 : Int) + 1 + ((d + 1 : Nat) : Int) by lia]
        walk_at "WEAK"
    dsimp only [mid]
    walk_at "WALK"
    first | refine ite_df (by lia) ?_ | refine ite_df (by simp; lia) ?_ | refine ite_n (by simp; lia) ?_
    walk_at "WALK"
    have hsl : ((patS segs).drop (I0 + 1)).take (I0 + 1 + (stuffL b k).length - (I0 + 1)) = stuffL b k := by
      have e : patS segs = (patS done ++ [91]) ++ (stuffL b k ++ (93 :: patS rest)) := by rw [hsg]; simp [patS, txtS]
      rw [e, List.drop_left' (by simp [hI]), Nat.add_sub_cancel_left, List.take_left' rfl]
    refine q_nn (a := I0 + 1) (b := I0 + 1 + (stuffL b k).length) (by lia) (by simp) (by simp) ?_
    rw [hsl]
    refine ln ?_
    refine x_cut ((c, ns [("stuff", sv (stuffL b k)), ("j", .int ((I0 : Int) + 1 + (stuffL b k).length) 0), ("n", .int N 0), ("add", .ref ap), ("res", .ref Rs), ("QUESTION_MARK", sv [46]), ("STAR", .none), ("pat", sv (patS segs))]) :: (Rs, lst (done.map partS)) :: (ap, bnd Rs) :: σ) ?_ ?_
    · intro K hK
      walk_at "WALK"
      refine o_nic (l := stuffL b k) ?_
      walk_at "WALK"
      have F3' : (!decide ((UInt8.ofNat '-'.val.toNat).toNat ∈ stuffL b k)) = !(k == 7) := congrArg _ F3
      rw [F3']
      by_cases hk7 : k = 7
      · subst hk7
        walk_at "ITE"
        first | refine ite_n (by decide) ?_ | refine ite_n (by simp) ?_
        obtain ⟨hd7, hr7⟩ := hbr done b rest hsg
        subst hd7; subst hr7
        have hI2 : I0 = 2 := hI.symm
        subst hI2
        cases b with
        | false =>
          have hp7 : patS segs = [61, 67, 91, 56, 45, 65, 93, 42] := by rw [hsg]; rfl
          have hN8 : N = 8 := by rw [← hN, hp7]; rfl
          subst hN8
          rw [hp7] at hK ⊢
          exact chunk_f B2 hR' hP fun τ w => hK _ _ ⟨rfl, w⟩
        | true =>
          have hp7 : patS segs = [61, 67, 91, 33, 56, 45, 65, 93, 42] := by rw [hsg]; rfl
          have hN8 : N = 9 := by rw [← hN, hp7]; rfl
          subst hN8
          rw [hp7] at hK ⊢
          exact chunk_t B2 hR' hP fun τ w => hK _ _ ⟨rfl, w⟩
      · walk_at "ITE"
        refine ite_t (by simp [hk7]) ?_
        walk_at "WALK"
        refine f_rep0 (x := ⟨(stuffL b k).toArray⟩) F4 ?_
        walk_at "WALK"
        refine ⟨by first | rfl | trivial, ?_⟩
        walk_at "WEAK"
    refine x_cons ?_
    refine s_assign ?_
    refine v_meth ?_
    refine gv' ?_
    refine em_sub B2.re ?_
    refine el_cons ?_
    refine v_lambda B2.tab rfl (by exact .there (.there (.there hP))) fun f => ?_
    walk_at "WALK"
    have hpos2 : 0 < (stuffL b k).length := Nat.lt_of_le_of_lt (Nat.zero_le _) hj0
    refine f_sub B2.re (fun s S => let ⟨o, e, h⟩ := S.get (.head _); ⟨o, e, h⟩) F5 (by simpa using hpos2) (by simp; lia) ?_
    walk_at "WALK"
    refine b_sv (l := stuffL b k) (by lia) ?_
    have hne : (stuffL b k).isEmpty = false := by
      cases hq : stuffL b k with
      | nil => rw [hq] at hpos2; simp at hpos2
      | cons => rfl
    rw [hne]
    walk_at "ITE"
    first | refine ite_n (by decide) ?_ | refine ite_n (by simp) ?_
    walk_at "WALK"
    refine o_eq_str ?_
    walk_at "WALK"
    have hn33 : (({ cps := (stuffL b k).toArray } : Str) == ⟨#[33]⟩) = false := by
      rw [beq_eq_false_iff_ne]
      intro e
      have := congrArg (fun q : Str => q.cps.toList) e
      exact F6 (by simpa using this)
    walk_at "ITE"
    refine ite_n (by rw [show (Str.ofString "!") = ⟨#[33]⟩ from rfl, hn33]; simp) ?_
    walk_at "WALK"
    refine g_at (l := stuffL b k) (a := 0) (c := x0) (by lia) rfl hx0 ?_
    walk_at "WALK"
    refine o_eqc ?_
    walk_at "WALK"
    have hx1' : (x0 == (UInt8.ofNat '!'.val.toNat).toNat) = b := hx1
    rw [hx1']
    have hfin : ((patS (done ++ [.br b k])).length : Int) = (I0 : Int) + 1 + (stuffL b k).length + 1 := by
      rw [← hI]; simp [patS, txtS]; lia
    have hfin2 : (done ++ [Sg2.br b k]).map partS = done.map partS ++ [sv (partL b k)] := by simp [partS]
    cases b with
    | true =>
      walk_at "ITE"
      refine ite_t rfl ?_
      walk_at "WALK"
      refine q_n (l := stuffL true k) (a := 1) (by lia) rfl ?_
      walk_at "WALK"
      refine o_addc (l := [94]) (m := (stuffL true k).drop 1) (by simp; lia) ?_
      walk_at "WALK"
      refine v_fstr (by decide) ?_
      walk_at "WALK"
      refine ⟨_, rfl, by show 1 + ([94] ++ List.drop 1 (stuffL true k)).toArray.size + 1 ≤ 1000; simp; lia, ?_⟩
      walk_at "WALK"
      refine ⟨_, rest.length, ?_, by simp, done ++ [.br true k], rest, by rw [hsg]; simp, rfl, rfl⟩
      rw [hfin, hfin2]
      rw [frag_t hk]
      walk_at "WEAK"
      simp; lia
    | false =>
      walk_at "ITE"
      first | refine ite_n (by decide) ?_ | refine ite_n (by simp) ?_
      walk_at "WALK"
      refine g_at (l := stuffL false k) (a := 0) (c := x0) (by lia) rfl hx0 ?_
      walk_at "WALK"
      refine v_tuple ?_
      walk_at "WALK"
      refine ⟨by simp; lia, fun T2 => ?_⟩
      refine o_in_tups (ys := [⟨#[94]⟩, ⟨#[91]⟩]) (Or.inl (by walk_at "MEM")) ?_
      walk_at "WALK"
      rw [ne_head hx2 hx3]
      walk_at "ITE"
      refine ite_n Bool.false_ne_true ?_
      walk_at "WALK"
      refine v_fstr (by decide) ?_
      walk_at "WALK"
      refine ⟨_, rfl, by show 1 + (stuffL false k).toArray.size + 1 ≤ 1000; simp; lia, ?_⟩
      walk_at "WALK"
      refine ⟨_, rest.length, ?_, by simp, done ++ [.br false k], rest, by rw [hsg]; simp, rfl, rfl⟩
      rw [hfin, hfin2]
      rw [frag_f hk]
      walk_at "WEAK"
      simp; lia
end
end TIkW12
section TIkW14
open PySem PySem.Calls PyProof.Rows
set_option maxRecDepth 4000
section
variable {C : Cx} {A : Around} {σ σ' ρ : Asn} {Q : Value → Asn → Prop} {QF : Flow → Asn → Prop} {mg : Str → Option Value} {L : Lay} {H : Addr} {env : Env}
theorem f_meets_ch {a d : Nat} (B : Base C mg L) (hR : A.depth < recursionLimit) (ha : a ≠ 91) (h : Q (.bool (a == d)) σ) : EC C A (.ref L.aLawMeets) [sv [a], sv [d]] σ Q := by
  have hs : sizeLine = 16777216 := by decide
  refine c_w B.G.nolimit B.fLawMeets hR (ll := [("sign", sv [d]), ("part", sv [a])]) (cs := fun _ => []) (binds2 (p := "part") (q := "sign")) fun c cdv => ?_
  have k_part : kL (fenv "_law_meets" (fnS (stAt 38)) c L.aLawMeets cdv) "part" = true := by kernel_rfl
  have k_sign : kL (fenv "_law_meets" (fnS (stAt 38)) c L.aLawMeets cdv) "sign" = true := by kernel_rfl
  have k_barred : kL (fenv "_law_meets" (fnS (stAt 38)) c L.aLawMeets cdv) "barred" = true := by kernel_rfl
  have k_inner : kL (fenv "_law_meets" (fnS (stAt 38)) c L.aLawMeets cdv) "inner" = true := by kernel_rfl
  have k_len : kG (fenv "_law_meets" (fnS (stAt 38)) c L.aLawMeets cdv) "len" = true := by kernel_rfl
  walk_at "WALK"
  refine q_h (l := [a]) (b := 1) (by simp; lia) rfl ?_
  walk_at "WALK"
  refine o_nec ?_
  walk_at "WALK"
  refine ite_t (by simpa using ha) ?_
  walk_at "WALK"
  refine o_eqc ?_
  walk_at "WALK"
  refine ⟨_, ?_, h⟩
  walk_at "WEAK"
theorem kinds_facts {k : Nat} (hk : k < 8) : ∃ x r, kinds.getD k [] = x :: r ∧ x ≠ 94 ∧ (kinds.getD k []).length ≤ 3 ∧ (((kinds.getD k []).length = 3) ↔ (k = 6 ∨ k = 7)) := by
  have key : ∀ k : Fin 8, ((kinds.getD k []).head? ≠ none ∧ (kinds.getD k []).head? ≠ some 94) ∧ (kinds.getD k []).length ≤ 3 ∧ (((kinds.getD k []).length = 3) ↔ (k.val = 6 ∨ k.val = 7)) := by decide +kernel
  have k1 := key ⟨k, hk⟩
  dsimp only at k1
  generalize kinds.getD k [] = l at k1 ⊢
  cases l with
  | nil => exact absurd rfl k1.1.1
  | cons x r => exact ⟨x, r, rfl, fun e => k1.1.2 (by rw [e]; rfl), k1.2⟩
theorem le_one (a e : Nat) : (!decide (([e] : List Nat) < [a])) = decide (a ≤ e) := by
  rw [Bool.eq_iff_iff]
  simp only [Bool.not_eq_true', decide_eq_false_iff_not, decide_eq_true_eq, List.cons_lt_cons_iff]
  simp
theorem o_lec {a e : Nat} (h : Q (.bool (decide (a ≤ e))) σ) : E2 C A (compareOp .LtE) (sv [a]) (sv [e]) σ Q := o_le_str (by
  have := le_one a e
  simp only at this ⊢
  rw [this]; exact h)
theorem f_meets_br {b : Bool} {k d : Nat} (B : Base C mg L) (hR : A.depth < recursionLimit) (hk : k < 8) (h : Q (.bool (meetB b k d)) σ) : EC C A (.ref L.aLawMeets) [sv (partL b k), sv [d]] σ Q := by
  have hs : sizeLine = 16777216 := by decide
  refine c_w B.G.nolimit B.fLawMeets hR (ll := [("sign", sv [d]), ("part", sv (partL b k))]) (cs := fun _ => []) (binds2 (p := "part") (q := "sign")) fun c cdv => ?_
  have k_part : kL (fenv "_law_meets" (fnS (stAt 38)) c L.aLawMeets cdv) "part" = true := by kernel_rfl
  have k_sign : kL (fenv "_law_meets" (fnS (stAt 38)) c L.aLawMeets cdv) "sign" = true := by kernel_rfl
  have k_barred : kL (fenv "_law_meets" (fnS (stAt 38)) c L.aLawMeets cdv) "barred" = true := by kernel_rfl
  have k_inner : kL (fenv "_law_meets" (fnS (stAt 38)) c L.aLawMeets cdv) "inner" = true := by kernel_rfl
  have k_len : kG (fenv "_law_meets" (fnS (stAt 38)) c L.aLawMeets cdv) "len" = true := by kernel_rfl
  obtain ⟨x, r, hx, hx94, hkz, hk3⟩ := kinds_facts hk
  have hpart : ∀ b, partL b k = 91 :: ((if b then [94] else []) ++ kinds.getD k [] ++ [93]) := fun _ => rfl
  generalize hK : kinds.getD k [] = K at hx hkz hk3 hpart
  have hpz : ∀ b, (partL b k).length ≤ 6 := fun b => by rw [hpart]; cases b <;> simp <;> lia
  have hpz1 := hpz true
  have hpz0 := hpz false
  have hpzb := hpz b
  have hK := hK.symm
  walk_at "WALK"
  refine q_h (l := partL b k) (b := 1) (by lia) rfl ?_
  rw [show (partL b k).take 1 = [91] from rfl]
  walk_at "WALK"
  refine o_nec ?_
  walk_at "WALK"
  first | refine ite_n (by decide) ?_ | refine ite_n (by simp) ?_
  walk_at "WALK"
  refine q_nn (l := partL b k) (a := 1) (b := 2) (by lia) rfl rfl ?_
  rw [show ((partL b k).drop 1).take (2 - 1) = [if b then 94 else x] by rw [hpart, hx]; cases b <;> simp]
  walk_at "WALK"
  refine o_eqc ?_
  walk_at "WALK"
  have hb : ((if b = true then 94 else x) == (UInt8.ofNat '^'.val.toNat).toNat) = b := by
    cases b
    · show (x == 94) = false
      simpa using hx94
    · rfl
  rw [hb]
  cases b with
  | true =>
    walk_at "ITE"
    refine ite_t rfl ?_
    walk_at "WALK"
    refine q_m1 (l := partL true k) (a := 2) (by lia) rfl (by decide) ?_
    rw [show ((partL true k).drop 2).dropLast = K by rw [hpart]; simp]
    walk_at "WALK"
    refine f_len_str (by simp [Str.length]; lia) ?_
    walk_at "WALK"
    by_cases h7 : k = 7
    · subst h7
      obtain rfl : K = [56, 45, 65] := hK
      walk_at "ITE"
      refine ite_t (by decide) ?_
      walk_at "WALK"
      refine g_at (a := 1) (c := 45) (by decide) rfl rfl ?_
      walk_at "WALK"
      refine o_eqc ?_
      walk_at "WALK"
      refine ite_t (by decide) ?_
      walk_at "WALK"
      refine ite_t rfl ?_
      walk_at "WALK"
      refine v_chain2 ?_
      walk_at "WALK"
      refine g_at (a := 0) (c := 56) (by decide) rfl rfl ?_
      walk_at "WALK"
      refine o_lec ?_
      walk_at "WALK"
      by_cases h56 : 56 ≤ d
      · walk_at "ITE"
        refine ite_t (by simpa using h56) ?_
        walk_at "WALK"
        refine g_at (a := 2) (c := 65) (by decide) rfl rfl ?_
        walk_at "WALK"
        refine o_lec ?_
        walk_at "WALK"
        refine o_ne_bool ?_
        have e : meetB true 7 d = (decide (d ≤ 65) != true) := by simp [meetB, h56]
        rw [e] at h
        walk_at "WALK"
        refine ⟨_, ?_, h⟩
        walk_at "WEAK"
      · walk_at "ITE"
        refine ite_n (by simpa using h56) ?_
        walk_at "WALK"
        refine o_ne_bool ?_
        have e : meetB true 7 d = (decide (56 ≤ d) != true) := by simp [meetB, h56]
        rw [e] at h
        walk_at "WALK"
        refine ⟨_, ?_, h⟩
        walk_at "WEAK"
    · have hin : (decide (d ∈ K) != true) = meetB true k d := by unfold meetB; rw [if_neg h7, hK]
      by_cases h6 : k = 6
      · subst h6
        obtain rfl : K = [56, 57, 65] := hK
        walk_at "ITE"
        refine ite_t (by decide) ?_
        walk_at "WALK"
        refine g_at (a := 1) (c := 57) (by decide) rfl rfl ?_
        walk_at "WALK"
        refine o_eqc ?_
        walk_at "WALK"
        refine ite_n (by decide) ?_
        walk_at "ITE"
        refine ite_n (by decide) ?_
        walk_at "WALK"
        refine o_inc (l := [56, 57, 65]) ?_
        walk_at "WALK"
        refine o_ne_bool ?_
        rw [hin]
        walk_at "WALK"
        refine ⟨_, ?_, h⟩
        walk_at "WEAK"
      · have hk3' : ¬ K.length = 3 := fun e => by have := hk3.mp e; lia
        walk_at "ITE"
        refine ite_n (by simp [Str.length]; lia) ?_
        walk_at "ITE"
        refine ite_n (by decide) ?_
        walk_at "WALK"
        refine o_inc (l := K) ?_
        walk_at "WALK"
        refine o_ne_bool ?_
        rw [hin]
        walk_at "WALK"
        refine ⟨_, ?_, h⟩
        walk_at "WEAK"
  | false =>
    walk_at "ITE"
    first | refine ite_n (by decide) ?_ | refine ite_n (by simp) ?_
    walk_at "WALK"
    refine q_m1 (l := partL false k) (a := 1) (by lia) rfl (by decide) ?_
    rw [show ((partL false k).drop 1).dropLast = K by rw [hpart]; simp]
    walk_at "WALK"
    refine f_len_str (by simp [Str.length]; lia) ?_
    walk_at "WALK"
    by_cases h7 : k = 7
    · subst h7
      obtain rfl : K = [56, 45, 65] := hK
      walk_at "ITE"
      refine ite_t (by decide) ?_
      walk_at "WALK"
      refine g_at (a := 1) (c := 45) (by decide) rfl rfl ?_
      walk_at "WALK"
      refine o_eqc ?_
      walk_at "WALK"
      refine ite_t (by decide) ?_
      walk_at "WALK"
      refine ite_t rfl ?_
      walk_at "WALK"
      refine v_chain2 ?_
      walk_at "WALK"
      refine g_at (a := 0) (c := 56) (by decide) rfl rfl ?_
      walk_at "WALK"
      refine o_lec ?_
      walk_at "WALK"
      by_cases h56 : 56 ≤ d
      · walk_at "ITE"
        refine ite_t (by simpa using h56) ?_
        walk_at "WALK"
        refine g_at (a := 2) (c := 65) (by decide) rfl rfl ?_
        walk_at "WALK"
        refine o_lec ?_
        walk_at "WALK"
        refine o_ne_bool ?_
        have e : meetB false 7 d = (decide (d ≤ 65) != false) := by simp [meetB, h56]
        rw [e] at h
        walk_at "WALK"
        refine ⟨_, ?_, h⟩
        walk_at "WEAK"
      · walk_at "ITE"
        refine ite_n (by simpa using h56) ?_
        walk_at "WALK"
        refine o_ne_bool ?_
        have e : meetB false 7 d = (decide (56 ≤ d) != false) := by simp [meetB, h56]
        rw [e] at h
        walk_at "WALK"
        refine ⟨_, ?_, h⟩
        walk_at "WEAK"
    · have hin : (decide (d ∈ K) != false) = meetB false k d := by unfold meetB; rw [if_neg h7, hK]
      by_cases h6 : k = 6
      · subst h6
        obtain rfl : K = [56, 57, 65] := hK
        walk_at "ITE"
        refine ite_t (by decide) ?_
        walk_at "WALK"
        refine g_at (a := 1) (c := 57) (by decide) rfl rfl ?_
        walk_at "WALK"
        refine o_eqc ?_
        walk_at "WALK"
        refine ite_n (by decide) ?_
        walk_at "ITE"
        refine ite_n (by decide) ?_
        walk_at "WALK"
        refine o_inc (l := [56, 57, 65]) ?_
        walk_at "WALK"
        refine o_ne_bool ?_
        rw [hin]
        walk_at "WALK"
        refine ⟨_, ?_, h⟩
        walk_at "WEAK"
      · have hk3' : ¬ K.length = 3 := fun e => by have := hk3.mp e; lia
        walk_at "ITE"
        refine ite_n (by simp [Str.length]; lia) ?_
        walk_at "ITE"
        refine ite_n (by decide) ?_
        walk_at "WALK"
        refine o_inc (l := K) ?_
        walk_at "WALK"
        refine o_ne_bool ?_
        rw [hin]
        walk_at "WALK"
        refine ⟨_, ?_, h⟩
        walk_at "WEAK"
end
end TIkW14
section TIkPl
open PySem PySem.Calls PyProof.Rows
noncomputable abbrev wireA (rs : List (List (List Nat))) : List Mk := wireM rs (leftM rs heap0) heap0
noncomputable abbrev linesA' (rs : List (List (List Nat))) : List (List Nat) := (wireA rs).map (lineM rs)
theorem own_mem {rs : List (List (List Nat))} {i k n : Nat} {m : Mk} (h : m ∈ own rs i k n) : ∃ d, d < n ∧ m = (startH rs i (k + d), i, k + d) := by
  simp only [own, List.mem_map, List.mem_range] at h
  obtain ⟨d, hd, rfl⟩ := h
  exact ⟨d, hd, rfl⟩
theorem own_sorted (rs : List (List (List Nat))) (i : Nat) : ∀ (n k : Nat), k + n ≤ cnt rs i → (own rs i k n).Pairwise fun a b => mlt a b = true
  | 0, k, _ => by simp [own]
  | n + 1, k, h => by
    rw [own_succ, List.pairwise_cons]
    refine ⟨fun m hm => ?_, own_sorted rs i n (k + 1) (by lia)⟩
    obtain ⟨d, hd, rfl⟩ := own_mem hm
    rw [mlt_iff]
    left
    have := startH_lt (rs := rs) (i := i) (d := d + 1) (k := k) (by lia) (by lia)
    rw [show k + 1 + d = k + (d + 1) by lia]
    exact this
theorem own_filter (rs : List (List (List Nat))) (i j k n : Nat) : (own rs i k n).filter (fun m => m.2.1 == j) = if i = j then own rs i k n else [] := by
  split
  · rename_i h
    rw [List.filter_eq_self]
    intro m hm
    obtain ⟨d, _, rfl⟩ := own_mem hm
    simpa using h
  · rename_i h
    rw [List.filter_eq_nil_iff]
    intro m hm
    obtain ⟨d, _, rfl⟩ := own_mem hm
    simpa using h
theorem marks_lt {rs : List (List (List Nat))} {m : Mk} (h : m ∈ marksM rs) : m.2.1 < 3 ∧ m.2.2 < cnt rs m.2.1 := by
  simp only [marksM, List.mem_append] at h
  rcases h with h | h | h <;> obtain ⟨d, hd, rfl⟩ := own_mem h <;> exact ⟨by simp, by simpa using hd⟩
theorem wire_mem {rs : List (List (List Nat))} (hne : ∀ i < 3, 0 < cnt rs i) {m : Mk} (h : m ∈ wireA rs) : m.2.1 < 3 ∧ m.2.2 < cnt rs m.2.1 := marks_lt ((wire0 hne).1.mem_iff.mp h)
theorem wire_own {rs : List (List (List Nat))} (hne : ∀ i < 3, 0 < cnt rs i) {j : Nat} (hj : j < 3) : (wireA rs).filter (fun m => m.2.1 == j) = own rs j 0 (cnt rs j) := by
  obtain ⟨p, s⟩ := wire0 hne
  refine sorted_unique ((p.filter _).trans (List.Perm.of_eq ?_)) (s.filter _) (own_sorted rs j _ 0 (by lia))
  unfold marksM
  rw [List.filter_append, List.filter_append, own_filter, own_filter, own_filter]
  have : j = 0 ∨ j = 1 ∨ j = 2 := by lia
  rcases this with rfl | rfl | rfl <;> simp
noncomputable abbrev rowsJ (rs : List (List (List Nat))) (j : Nat) : List (List Nat) := (rs[j]?).getD []
theorem own_rows (rs : List (List (List Nat))) (j : Nat) : (own rs j 0 (cnt rs j)).map (fun m => rowAt rs m.2.1 m.2.2) = rowsJ rs j := by
  unfold own rowAt cnt
  rw [List.map_map]
  refine List.ext_getElem (by simp) fun i h1 h2 => ?_
  simp only [List.getElem_map, List.getElem_range, Function.comp, Nat.zero_add]
  rw [List.getElem?_eq_getElem h2]; rfl
theorem filter_lines {rs : List (List (List Nat))} (hne : ∀ i < 3, 0 < cnt rs i) {p q : List Nat → Bool} (h : ∀ i r, i < 3 → p (61 :: 67 :: cI i :: r) = q (61 :: 67 :: cI i :: r)) : (linesA' rs).filter p = (linesA' rs).filter q := by
  refine List.filter_congr fun l hl => ?_
  obtain ⟨m, hm, rfl⟩ := List.mem_map.mp hl
  have h3 := (wire_mem hne hm).1
  rw [line_cI h3]
  exact h _ _ h3
theorem filter_pick {rs : List (List (List Nat))} (hne : ∀ i < 3, 0 < cnt rs i) {j : Nat} (hj : j < 3) (q : List Nat → Bool) {p : List Nat → Bool} (h : ∀ i r, i < 3 → p (61 :: 67 :: cI i :: r) = (i == j && q r)) :
    (linesA' rs).filter p = ((rowsJ rs j).filter q).map fun r => 61 :: 67 :: cI j :: r := by
  rw [← own_rows, ← wire_own hne hj, List.filter_map, List.filter_map, List.filter_filter, List.map_map]
  have e : (wireA rs).filter (p ∘ lineM rs) = (wireA rs).filter fun m => (q ∘ fun m => rowAt rs m.2.1 m.2.2) m && m.2.1 == j := by
    refine List.filter_congr fun m hm => ?_
    have h3 := (wire_mem hne hm).1
    simp only [Function.comp]
    rw [line_cI h3, h _ _ h3, Bool.and_comm]
  rw [e]
  refine List.map_congr_left fun m hm => ?_
  rw [List.mem_filter, Bool.and_eq_true, beq_iff_eq] at hm
  simp only [Function.comp]
  rw [line_cI (by lia), hm.2.2]
theorem mine_eq {rs : List (List (List Nat))} (hne : ∀ i < 3, 0 < cnt rs i) {j : Nat} (hj : j < 3) : (linesA' rs).filter (keepB (ahC j) []) = (rowsJ rs j).map fun r => 61 :: 67 :: cI j :: r := by
  rw [filter_pick hne hj (fun _ => true) fun i r hi => by rw [keep_own hj hi, Bool.and_true]]
  rw [List.filter_eq_self.mpr (fun _ _ => rfl)]
theorem soft_eq {rs : List (List (List Nat))} (hne : ∀ i < 3, 0 < cnt rs i) {j : Nat} (hj : j < 3) : (linesA' rs).filter (keepB (ahC j) [.ch 61]) = ((rowsJ rs j).filter fun r => r.getLast? == some 61).map fun r => 61 :: 67 :: cI j :: r :=
  filter_pick hne hj (fun r => r.getLast? == some 61) fun i r hi => keep_soft hj hi r
theorem soft_len (l : List (List Nat)) : (l.length : Int) - ((l.filter fun r => r.getLast? == some 61).length : Nat) = (l.countP (fun r => r.getLast? != some 61) : Nat) := by
  have h := List.length_eq_countP_add_countP (fun r : List Nat => r.getLast? == some 61) (l := l)
  rw [← List.countP_eq_length_filter]
  have e : l.countP (fun r => r.getLast? != some 61) = l.countP (fun r => decide ¬ (r.getLast? == some 61) = true) := List.countP_congr fun r _ => by simp
  rw [e]; lia
theorem br_eq {rs : List (List (List Nat))} (hne : ∀ i < 3, 0 < cnt rs i) {b : Bool} {k : Nat} (hk : k < 8) : (linesA' rs).filter (keepB (ahB b k) []) = (linesA' rs).filter fun l => decide (l.getD 2 0 ∈ memK k) != b :=
  filter_lines hne fun i r hi => by rw [keep_br hk hi]; rfl
theorem lines_ok {rs : List (List (List Nat))} (hne : ∀ i < 3, 0 < cnt rs i) (hr : ∀ r ∈ rs, ∀ x ∈ r, x.length ≤ 100 ∧ ∀ c ∈ x, c < 128) : ∀ l ∈ linesA' rs, 3 ≤ l.length ∧ l.length ≤ 200 ∧ ∀ c ∈ l, c < 128 := by
  intro l hl
  obtain ⟨m, hm, rfl⟩ := List.mem_map.mp hl
  obtain ⟨h3, hk⟩ := wire_mem hne hm
  have hc : cI m.2.1 < 128 := by unfold cI; split <;> (try split) <;> lia
  have hx : rowAt rs m.2.1 m.2.2 ∈ rowsJ rs m.2.1 := by
    unfold rowAt
    have hk' : ((rs[m.2.1]?).getD [])[m.2.2]? = some (((rs[m.2.1]?).getD [])[m.2.2]) := List.getElem?_eq_getElem hk
    rw [hk']; exact List.getElem_mem _
  obtain ⟨r, hrm, hxr⟩ : ∃ r ∈ rs, rowAt rs m.2.1 m.2.2 ∈ r := by
    unfold rowsJ at hx
    cases e : rs[m.2.1]? with
    | none => rw [e] at hx; cases hx
    | some r => rw [e] at hx; exact ⟨r, List.mem_of_getElem? e, hx⟩
  obtain ⟨h1, h2⟩ := hr r hrm _ hxr
  rw [line_cI h3]
  refine ⟨by simp, by simp only [List.length_cons]; lia, fun c hc' => ?_⟩
  simp only [List.mem_cons] at hc'
  rcases hc' with rfl | rfl | rfl | h
  · lia
  · lia
  · exact hc
  · exact h2 c h
theorem lines_len {rs : List (List (List Nat))} (hne : ∀ i < 3, 0 < cnt rs i) : (linesA' rs).length = (marksM rs).length := by rw [List.length_map, (wire0 hne).1.length_eq]
end TIkPl
section TIkW15
open PySem PySem.Calls PyProof.Rows
set_option maxRecDepth 4000
theorem Wk.nil {σ : Asn} : Wk σ [] := by
  induction σ with
  | nil => exact .refl
  | cons p σ ih => exact .drop ih
theorem Wk.right {σ τ : Asn} : Wk (σ ++ τ) σ := by
  induction σ with
  | nil => exact .nil
  | cons p σ ih => exact .keep (a := p.1) (r := p.2) .here (fun _ h => h) ih
theorem Wk.right2 {σ τ ρ : Asn} : Wk ((σ ++ τ) ++ ρ) σ := by
  rw [List.append_assoc]; exact .right
local macro_rules | `(tactic| walk_at "WEAKR") => `(tactic|
  (focus (repeat (first
    | exact Wk.refl
    | exact Wk.right
    | exact Wk.right2
    | refine Wk.keep (by first | ((repeat (first | exact Pick.here | apply Pick.there)); done) | fail) (by first | exact fun _ h => h | (refine ns_wk ?_; first | ((repeat (first | exact Sel.nil | refine Sel.cons (by exact rfl) ?_)); done) | fail) | (refine lst_wk ?_; simp; done)) ?_
    | refine Wk.drop ?_
    | refine Wk.left ?_)); done))
section
variable {C : Cx} {A : Around} {σ σ' ρ : Asn} {Q : Value → Asn → Prop} {QF : Flow → Asn → Prop} {mg : Str → Option Value} {L : Lay} {H : Addr} {env : Env} {cc P : Addr}
theorem EW.outp {α : Type} {t : Sem α} {Q : α → Asn → Prop} (h : EW C A t σ fun v τ => ∃ τ', τ.Perm τ' ∧ Q v τ') : EW C A t σ Q := fun s S =>
  wpAny_mono (h s S) (fun v s' ⟨τ, S', τ', w, q⟩ => ⟨τ', S'.perm w, q⟩) fun _ _ e => e
theorem f_listzip' {z TI TO i1 i2 l : Addr} {x : Str} {xs : List Value} (hh : A.handled = none) (hn : (zps xs x).length ≤ 10000) (hl : Has C ρ l (lst xs)) (h : ∀ D Ts, Ts.length = (zps xs x).length → Q (.ref D) ((D, lst (Ts.map .ref)) :: (ρ ++ pairsA Ts (zps xs x)))) :
    EC C A (.type "list") [.ref z] (zipA z TI TO i1 i2 l x 0 ++ ρ) Q := fun us hus =>
  EW.outp (f_listzip (Q := fun v τ => ∃ τ' : Asn, τ.Perm τ' ∧ Q v τ') hh hn hl (fun D Ts hT => ⟨_, (List.perm_append_comm (l₁ := pairsA Ts (zps xs x)) (l₂ := ρ)).cons _, h D Ts hT⟩) us hus)
theorem f_meets {s : Sg2} {d : Nat} (B : Base C mg L) (hR : A.depth < recursionLimit) (hs : plainS s) (h : Q (.bool (meetS s d)) σ) : EC C A (.ref L.aLawMeets) [partS s, sv [d]] σ Q := by
  rcases s with c | _ | ⟨b, k⟩
  · have : c ≠ 91 := by
      have := hs.1
      simp only [okS, List.mem_cons, List.not_mem_nil, or_false] at this
      lia
    exact f_meets_ch B hR this h
  · exact absurd rfl hs.2
  · exact f_meets_br B hR hs.1 h
theorem zps_sg (ah : List Sg2) (l : List Nat) : zps (ah.map partS) ⟨l.toArray⟩ = (ah.zip l).map fun p => [partS p.1, sv [p.2]] := by
  unfold zps
  rw [List.zip_map_left, List.map_map]
  rfl
theorem pairs_mem : ∀ {Ts : List Addr} {ps : List (List Value)} {j : Nat} {T : Addr} {p : List Value}, Ts[j]? = some T → ps[j]? = some p → (T, tup p) ∈ pairsA Ts ps
  | T :: Ts, p :: ps, 0, _, _, h, h' => by
    simp only [List.getElem?_cons_zero, Option.some.injEq] at h h'
    subst h; subst h'
    exact .head _
  | T :: Ts, p :: ps, j + 1, _, _, h, h' => by
    simp only [List.getElem?_cons_succ] at h h'
    exact .tail _ (pairs_mem h h')
  | [], _, _, _, _, h, _ => by simp at h
  | _ :: _, [], _, _, _, _, h => by simp at h
theorem pairs_at {Ts Us : List Addr} {a b : List (Sg2 × Nat)} (h1 : Ts.length = a.length) (h2 : Us.length = b.length) {j : Nat} {v : Value} (hv : (Ts.map Value.ref ++ Us.map Value.ref)[j]? = some v) :
    ∃ T q, v = .ref T ∧ (a ++ b)[j]? = some q ∧ ∀ σ : Asn, (T, tup [partS q.1, sv [q.2]]) ∈ (σ ++ pairsA Ts (a.map fun p => [partS p.1, sv [p.2]])) ++ pairsA Us (b.map fun p => [partS p.1, sv [p.2]]) := by
  rcases Nat.lt_or_ge j Ts.length with hj | hj
  · rw [List.getElem?_append_left (by simpa using hj), List.getElem?_map] at hv
    obtain ⟨T, hT, rfl⟩ := Option.map_eq_some_iff.mp hv
    have hq : a[j]? = some a[j] := List.getElem?_eq_getElem (by lia)
    refine ⟨T, a[j], rfl, by rw [List.getElem?_append_left (by lia)]; exact hq, fun σ => List.mem_append_left _ (List.mem_append_right _ (pairs_mem hT ?_))⟩
    rw [List.getElem?_map, hq]; rfl
  · rw [List.getElem?_append_right (by simpa using hj), List.getElem?_map, List.length_map] at hv
    obtain ⟨T, hT, rfl⟩ := Option.map_eq_some_iff.mp hv
    have hlt : j - Ts.length < Us.length := (List.getElem?_eq_some_iff.mp hT).1
    have hq : b[j - Ts.length]? = some (b[j - Ts.length]'(by lia)) := List.getElem?_eq_getElem (by lia)
    refine ⟨T, _, rfl, by rw [List.getElem?_append_right (by lia), ← h1]; exact hq, fun σ => List.mem_append_right _ (pairs_mem hT ?_)⟩
    rw [List.getElem?_map, hq]; rfl
theorem seg_at {ah be : List Sg2} (h3 : ah.length = 3) (hna : ∀ s ∈ ah, plainS s) (hnb : ∀ s ∈ be, plainS s) {i : Nat} {s : Sg2} (hs : (ah ++ .star :: be)[i]? = some s) : plainIs (partS s) .none = true ∧ (partS s == .none) = decide (i = 3) := by
  have pl : ∀ s, plainS s → plainIs (partS s) .none = true ∧ (partS s == .none) = false := fun s h => by
    rcases s with c | _ | ⟨b, k⟩
    · exact ⟨rfl, rfl⟩
    · exact absurd rfl h.2
    · exact ⟨rfl, rfl⟩
  rcases Nat.lt_trichotomy i 3 with h | h | h
  · rw [List.getElem?_append_left (by lia)] at hs
    obtain ⟨a, b⟩ := pl s (hna s (List.mem_of_getElem? hs))
    exact ⟨a, by rw [b]; simp; lia⟩
  · subst h
    rw [List.getElem?_append_right (by lia), h3] at hs
    cases hs
    exact ⟨rfl, rfl⟩
  · rw [List.getElem?_append_right (by lia), h3] at hs
    obtain ⟨d, hd⟩ : ∃ d, i - 3 = d + 1 := ⟨i - 4, by lia⟩
    rw [hd, List.getElem?_cons_succ] at hs
    obtain ⟨a, b⟩ := pl s (hnb s (List.mem_of_getElem? hs))
    exact ⟨a, by rw [b]; simp; lia⟩
theorem f_lines {ah be : List Sg2} {lines : List (List Nat)} {R : Addr} (B2 : Base2 C mg L cc P) (hR : Room A 5 18) (hP : Up P tabR tabR σ σ) (h3 : ah.length = 3) (hb1 : be.length ≤ 1) (hna : ∀ s ∈ ah, plainS s) (hnb : ∀ s ∈ be, plainS s)
    (hbr : ∀ d b r, ah ++ .star :: be = d ++ .br b 7 :: r → d = [.ch 61, .ch 67] ∧ r = [.star]) (hz : (patS (ah ++ .star :: be)).length ≤ 100) (hl : Has C σ R (lst (lines.map sv))) (hn : lines.length ≤ 1000)
    (hln : ∀ l ∈ lines, 3 ≤ l.length ∧ l.length ≤ 200 ∧ ∀ c ∈ l, c < 128)
    (h : ∀ D, Q (.ref D) ((D, lst ((lines.filter (keepB ah be)).map sv)) :: σ)) : EC C A (.ref L.aLawLines) [sv (patS (ah ++ .star :: be)), .ref R] σ Q := by
  have hs : sizeLine = 16777216 := by decide
  have B := B2.toBase
  refine c_w B.G.nolimit B.fLawLines (by have := hR.depth; lia) (ll := [("lines", .ref R), ("pattern", sv (patS (ah ++ .star :: be)))]) (cs := fun c => [(c + 1, cel none)]) (binds2 (p := "pattern") (q := "lines")) fun c cdv => ?_
  have hR' : Room (A.deeper (fenv "_law_lines" (fnS (stAt 39)) c L.aLawLines cdv)) 4 15 := hR.deeper _
  have k_pattern : kL (fenv "_law_lines" (fnS (stAt 39)) c L.aLawLines cdv) "pattern" = true := by kernel_rfl
  have k_lines : kL (fenv "_law_lines" (fnS (stAt 39)) c L.aLawLines cdv) "lines" = true := by kernel_rfl
  have k_cut : kL (fenv "_law_lines" (fnS (stAt 39)) c L.aLawLines cdv) "cut" = true := by kernel_rfl
  have k_ahead : kL (fenv "_law_lines" (fnS (stAt 39)) c L.aLawLines cdv) "ahead" = true := by kernel_rfl
  have k_behind : kL (fenv "_law_lines" (fnS (stAt 39)) c L.aLawLines cdv) "behind" = true := by kernel_rfl
  have k_kept : kL (fenv "_law_lines" (fnS (stAt 39)) c L.aLawLines cdv) "kept" = true := by kernel_rfl
  have k_line : kL (fenv "_law_lines" (fnS (stAt 39)) c L.aLawLines cdv) "line" = true := by kernel_rfl
  have k_pairs : kL (fenv "_law_lines" (fnS (stAt 39)) c L.aLawLines cdv) "pairs" = true := by kernel_rfl
  have k_parts : kC (fenv "_law_lines" (fnS (stAt 39)) c L.aLawLines cdv) "parts" = true := by kernel_rfl
  have k_len : kG (fenv "_law_lines" (fnS (stAt 39)) c L.aLawLines cdv) "len" = true := by kernel_rfl
  have k_range : kG (fenv "_law_lines" (fnS (stAt 39)) c L.aLawLines cdv) "range" = true := by kernel_rfl
  have k_list : kG (fenv "_law_lines" (fnS (stAt 39)) c L.aLawLines cdv) "list" = true := by kernel_rfl
  have k_zip : kG (fenv "_law_lines" (fnS (stAt 39)) c L.aLawLines cdv) "zip" = true := by kernel_rfl
  have k__translate : kG (fenv "_law_lines" (fnS (stAt 39)) c L.aLawLines cdv) "_translate" = true := by kernel_rfl
  walk_at "WALK"
  refine f_parts (segs := ah ++ .star :: be) B2 ⟨hR'.handled, by have := hR'.depth; lia, by have := hR'.units; lia⟩ (.there (.there hP)) ?_ ?_ hbr hz ?_ fun D => ?_
  · intro s hs
    rcases List.mem_append.mp hs with hs | hs
    · exact (hna s hs).1
    · rcases List.mem_cons.mp hs with rfl | hs
      · trivial
      · exact (hnb s hs).1
  · intro d r e
    have hd : d = ah := by
      rcases List.append_eq_append_iff.mp e with ⟨a', h1, h2⟩ | ⟨a', h1, h2⟩
      · cases a' with
        | nil => rw [h1, List.append_nil]
        | cons x a' =>
          rw [List.cons_append, List.cons.injEq] at h2
          exact absurd rfl (hnb .star (by rw [h2.2]; simp)).2
      · cases a' with
        | nil => rw [h1, List.append_nil]
        | cons x a' =>
          rw [List.cons_append, List.cons.injEq] at h2
          exact absurd rfl (hna .star (by rw [h1, ← h2.1]; simp)).2
    subst hd
    rcases List.eq_nil_or_concat d with rfl | ⟨d', s, rfl⟩
    · simp at h3
    · exact ⟨d', s, by simp, (hna s (by simp)).2⟩
  · simp; lia
  walk_at "WALK"
  refine v_listcomp [("parts", c + 1)] hR'.handled ?_
  walk_at "WALK"
  refine f_len_list (xs := (ah ++ .star :: be).map partS) (Or.inl (by walk_at "MEM")) (by simp; lia) ?_
  rw [List.length_map]
  walk_at "WALK"
  refine f_range1 fun rg => ?_
  have hsl : (ah ++ Sg2.star :: be).length = 4 + be.length := by simp; lia
  refine pi_range1 (n := (ah ++ .star :: be).length) (Or.inl (by walk_at "MEM")) (by lia) fun it => ?_
  refine ⟨_, _, _, iter_range (a := 0) (c := 1) (n := (ah ++ .star :: be).length), fun i ys τ => ys = (if 3 < i then [Value.int 3 0] else []) ∧
    τ = (c, ns [("lines", .ref R), ("pattern", sv (patS (ah ++ .star :: be)))]) :: (c + 1, cel (some (.ref D))) :: (D, lst ((ah ++ .star :: be).map partS)) :: σ, ⟨_, ?_, by simp, rfl⟩, ?_, ?_, ?_⟩
  · walk_at "WEAK"
  · rintro i ys τ p q hi ⟨rfl, rfl⟩
    exact ⟨trivial, by rw [hs]; split <;> simp⟩
  · rintro i v ys τ D2 Lc hv ⟨rfl, rfl⟩
    obtain ⟨rfl, hi⟩ := rints_get hv
    rw [show (0 : Int) + (i : Int) * 1 = (i : Int) by lia]
    obtain ⟨s, hsi⟩ : ∃ s, (ah ++ Sg2.star :: be)[i]? = some s := ⟨_, List.getElem?_eq_getElem hi⟩
    obtain ⟨hp1, hp2⟩ := seg_at h3 hna hnb hsi
    walk_at "WALK"
    refine ts_one ?_
    walk_at "WALK"
    refine i_list (xs := (ah ++ .star :: be).map partS) (v := partS s) (Or.inl (by walk_at "MEM")) (by lia) (by lia) (by rw [List.getElem?_map, Int.toNat_natCast, hsi]; rfl) ?_
    walk_at "WALK"
    refine o_isnone ?_ hp1
    rw [hp2]
    walk_at "WALK"
    by_cases hi3 : i = 3
    · subst hi3
      walk_at "ITE"
      first | refine ite_t (by decide) ?_ | refine ite_t (by simp) ?_
      walk_at "WALK"
      refine ⟨_, ?_, by simp, rfl⟩
      walk_at "WEAK"
    · walk_at "ITE"
      refine ite_n (by simpa using hi3) ?_
      walk_at "WALK"
      refine ⟨_, ?_, ?_, rfl⟩
      · walk_at "WEAK"
      · have : (3 < i + 1) = (3 < i) := by rw [eq_iff_iff]; lia
        simp only [this]
  · rintro ys τ D2 _ ⟨rfl, rfl⟩
    rw [rints_length, if_pos (by lia)]
    walk_at "WALK"
    refine i_list (xs := [Value.int 3 0]) (v := .int 3 0) (Or.inl (by walk_at "MEM")) (by lia) (by lia) rfl ?_
    walk_at "WALK"
    refine q_lh (xs := (ah ++ .star :: be).map partS) (b := 3) (Or.inl (by walk_at "MEM")) (by simp; lia) rfl fun Ah => ?_
    rw [show ((ah ++ Sg2.star :: be).map partS).take 3 = ah.map partS by rw [← List.map_take, List.take_left' h3]]
    walk_at "WALK"
    refine q_ln (xs := (ah ++ .star :: be).map partS) (a := 4) (Or.inl (by walk_at "MEM")) (by simp; lia) rfl fun Be => ?_
    rw [show ((ah ++ Sg2.star :: be).map partS).drop 4 = be.map partS by rw [← List.map_drop, show 4 = ah.length + 1 by lia, ← List.drop_drop, List.drop_left]; rfl]
    walk_at "WALK"
    refine v_list ?_
    walk_at "WALK"
    refine ⟨by simp, fun K => ?_⟩
    walk_at "WALK"
    refine s_for hR'.handled ?_
    walk_at "WALK"
    refine pi_list (xs := lines.map sv) (by repeat (first | exact hl | refine Has.up ?_)) fun it => ?_
    refine ⟨_, _, _, iter_list (l := R) (xs := lines.map sv), fun (i : Nat) (τ : Asn) => τ = (c, ns [("kept", .ref K), ("behind", .ref Be), ("ahead", .ref Ah), ("lines", .ref R)]) :: (K, lst (((lines.take i).filter (keepB ah be)).map sv)) :: (Ah, lst (ah.map partS)) :: (Be, lst (be.map partS)) :: σ, ⟨_, ?_, rfl⟩, ?_, ?_, ?_⟩
    · walk_at "WEAK"
    · rintro i τ rfl
      repeat (first | exact hl | refine Has.up ?_)
    · rintro i v τ hv rfl
      obtain ⟨line, hline, rfl⟩ : ∃ line, lines[i]? = some line ∧ sv line = v := by simpa [List.getElem?_map] using hv
      obtain ⟨hl3, hl200, hl128⟩ := hln line (List.mem_of_getElem? hline)
      have hin : i < lines.length := (List.getElem?_eq_some_iff.mp hline).1
      have ascii : ∀ l : List Nat, (∀ c ∈ l, c < 128) → (⟨l.toArray⟩ : Str).cps.all (· < 128) = true := fun l h => by
        simpa using h
      walk_at "WALK"
      refine f_zip (xs := ah.map partS) (Or.inl (by walk_at "MEM")) (ascii _ hl128) fun z TI TO i1 i2 => ?_
      walk_at "WALK"
      refine f_listzip' (xs := ah.map partS) hR'.handled (by rw [zps_sg]; simp; lia) (Or.inl (by walk_at "MEM")) fun D1 Ts hTs => ?_
      rw [zps_sg] at hTs ⊢
      dsimp only [List.cons_append]
      walk_at "WALK"
      refine f_len_str (by simp [Str.length]; lia) ?_
      walk_at "WALK"
      refine f_len_list (xs := be.map partS) (Or.inl (by walk_at "MEM")) (by simp; lia) ?_
      walk_at "WALK"
      refine q_n (a := line.length - be.length) (by lia) (by simp [Str.length]; lia) ?_
      walk_at "WALK"
      refine f_zip (xs := be.map partS) (Or.inl (by walk_at "MEM")) (ascii _ fun c hc => hl128 c (List.mem_of_mem_drop hc)) fun z2 TI2 TO2 i3 i4 => ?_
      walk_at "WALK"
      refine f_listzip' (xs := be.map partS) hR'.handled (by rw [zps_sg]; simp; lia) (Or.inl (by walk_at "MEM")) fun D2 Us hUs => ?_
      rw [zps_sg] at hUs ⊢
      dsimp only [List.cons_append]
      walk_at "WALK"
      refine o_addl (xs := Ts.map .ref) (ys := Us.map .ref) (Or.inl (by walk_at "MEM")) (Or.inl (by walk_at "MEM")) (by simp at hTs hUs ⊢; lia) fun D3 => ?_
      walk_at "WALK"
      refine f_len_str (by simp [Str.length]; lia) ?_
      walk_at "WALK"
      refine f_len_list (xs := ah.map partS) (Or.inl (by walk_at "MEM")) (by simp; lia) ?_
      walk_at "WALK"
      refine f_len_list (xs := be.map partS) (Or.inl (by walk_at "MEM")) (by simp; lia) ?_
      walk_at "WALK"
      have hmap : (decide (((ah.map partS).length : Int) + ((be.map partS).length : Int) ≤ (({ cps := line.toArray } : Str).length : Int))) = decide (ah.length + be.length ≤ line.length) := by
        rw [Bool.eq_iff_iff, decide_eq_true_iff, decide_eq_true_iff, List.length_map, List.length_map]
        simp only [Str.length, List.size_toArray]
        lia
      rw [hmap]
      have htake : (lines.take (i + 1)).filter (keepB ah be) = (lines.take i).filter (keepB ah be) ++ if keepB ah be line = true then [line] else [] := by
        rw [List.take_add_one, hline, List.filter_append]
        simp only [Option.toList_some, List.filter_cons, List.filter_nil]
      by_cases hlen : ah.length + be.length ≤ line.length
      · walk_at "ITE"
        refine ite_t (by simpa using hlen) ?_
        walk_at "WALK"
        refine v_listcomp [] hR'.handled ?_
        walk_at "WALK"
        refine pi_list (xs := Ts.map .ref ++ Us.map .ref) (Or.inl (by walk_at "MEM")) fun it2 => ?_
        refine ⟨_, _, _, iter_list (l := D3) (xs := Ts.map .ref ++ Us.map .ref), fun (j : Nat) (ys : List Value) (τ : Asn) => ys.length ≤ j ∧ ys.isEmpty = (((ah.zip line ++ be.zip (line.drop (line.length - be.length))).take j).all fun p => meetS p.1 p.2) ∧
          τ = (D3, lst (Ts.map .ref ++ Us.map .ref)) :: (it, lit R (i + 1)) :: (c, ns [("line", sv line), ("kept", .ref K), ("behind", .ref Be), ("ahead", .ref Ah), ("lines", .ref R)]) :: (K, lst (((lines.take i).filter (keepB ah be)).map sv)) :: (Ah, lst (ah.map partS)) :: (Be, lst (be.map partS)) ::
            (σ ++ pairsA Ts ((ah.zip line).map fun p => [partS p.1, sv [p.2]]) ++ pairsA Us ((be.zip (line.drop (line.length - be.length))).map fun p => [partS p.1, sv [p.2]])), ⟨_, ?_, by simp, by simp, rfl⟩, ?_, ?_, ?_⟩
        · walk_at "WEAK"
        · rintro j ys τ p q hj ⟨h1, h2, rfl⟩
          refine ⟨(Or.inl (by walk_at "MEM")), ?_⟩
          simp at hj hTs hUs
          lia
        · rintro j v ys τ D4 Lc hv ⟨h1, h2, rfl⟩
          obtain ⟨T, q, rfl, hq, hm⟩ := pairs_at (a := ah.zip line) (b := be.zip (line.drop (line.length - be.length))) (by simpa using hTs) (by simpa using hUs) hv
          have hpl : plainS q.1 := by
            rcases List.mem_append.mp (List.mem_of_getElem? hq) with h | h
            · exact hna _ (List.of_mem_zip h).1
            · exact hnb _ (List.of_mem_zip h).1
          intro K K' hK hK'
          refine as_tuple hR'.handled (xs := [partS q.1, sv [q.2]]) (.inl (by repeat (first | exact hm _ | refine List.Mem.tail _ ?_))) rfl rfl ?_
          walk_at "WALK"
          refine ts_one ?_
          walk_at "WALK"
          refine f_meets B (by have := hR'.depth; lia) hpl ?_
          walk_at "WALK"
          have hall : ((ah.zip line ++ be.zip (line.drop (line.length - be.length))).take (j + 1)).all (fun p => meetS p.1 p.2) = (ys.isEmpty && meetS q.1 q.2) := by
            rw [List.take_add_one, hq, List.all_append, h2]; simp
          cases hmq : meetS q.1 q.2
          · walk_at "ITE"
            first | refine ite_t (by decide) ?_ | refine ite_t (by simp) ?_
            walk_at "WALK"
            refine ⟨_, ?_, by simp; lia, by rw [hall, hmq]; simp, rfl⟩
            walk_at "WEAK"
          · walk_at "ITE"
            first | refine ite_n (by decide) ?_ | refine ite_n (by simp) ?_
            walk_at "WALK"
            refine ⟨_, ?_, by lia, by rw [hall, hmq]; simp, rfl⟩
            walk_at "WEAK"
        · rintro ys τ D4 _ ⟨h1, h2, rfl⟩
          rw [List.take_of_length_le (by simp at hTs hUs ⊢; lia)] at h2
          have hkeep : keepB ah be line = ys.isEmpty := by unfold keepB; rw [h2]; simp [hlen]
          walk_at "WALK"
          refine v_list ?_
          walk_at "WALK"
          refine ⟨by simp, fun D5 => ?_⟩
          refine o_eq0 (xs := ys) (by have := hR'.units; lia) (Or.inl (by walk_at "MEM")) (Or.inl (by walk_at "MEM")) ?_
          walk_at "WALK"
          cases hye : ys.isEmpty
          · walk_at "ITE"
            first | refine ite_n (by decide) ?_ | refine ite_n (by simp) ?_
            walk_at "ITE"
            first | refine ite_n (by decide) ?_ | refine ite_n (by simp) ?_
            walk_at "WALK"
            refine ⟨_, ?_, rfl⟩
            rw [htake, hkeep, hye, if_neg (by simp), List.append_nil]
            walk_at "WEAKR"
          · walk_at "ITE"
            refine ite_t rfl ?_
            walk_at "WALK"
            refine ite_t rfl ?_
            walk_at "WALK"
            refine ⟨_, ?_, rfl⟩
            rw [htake, hkeep, hye, if_pos rfl, List.map_append]
            walk_at "WEAKR"
            have := List.length_filter_le (keepB ah be) (lines.take i)
            simp at this ⊢
            lia
      · walk_at "ITE"
        refine ite_n (by simpa using hlen) ?_
        have hkeep : keepB ah be line = false := by unfold keepB; simp [hlen]
        walk_at "ITE"
        first | refine ite_n (by decide) ?_ | refine ite_n (by simp) ?_
        walk_at "WALK"
        refine ⟨_, ?_, rfl⟩
        rw [htake, hkeep, if_neg (by simp), List.append_nil]
        walk_at "WEAKR"
    · rintro τ rfl
      rw [List.length_map, List.take_length]
      walk_at "WALK"
      refine ⟨_, ?_, h K⟩
      walk_at "WEAK"
end
end TIkW15
section TIkW4
open PySem PySem.Calls PyProof.Rows
set_option maxRecDepth 4000
section
variable {C : Cx} {A : Around} {σ σ' : Asn} {Q : Value → Asn → Prop} {QF : Flow → Asn → Prop} {mg : Str → Option Value} {L : Lay}
theorem EX.wk {C : Cx} {A : Around} {env : Env} {st : List Stmt} {σ τ : Asn} {Q : Flow → Asn → Prop} (h : EX C A env st τ Q) (w : Wk σ τ) : EX C A env st σ Q := EW.wk h w
theorem f_body {x : List Nat} {M : Nat} {t : Tok} {ls : List (List Nat)} (hls : Txt.lines ⟨(x.flatMap enc).toArray⟩ = ls.map fun l => ⟨l.toArray⟩) (hlc : (lineCuts ⟨(x.flatMap enc).toArray⟩).length ≤ sizeLine) (hll : ∀ l ∈ ls, l.length ≤ 3000 ∧ ∀ c ∈ l, c < 256) (hch : (ls.flatMap (encL M)).length ≤ 10000)
    (hpre : ∀ i line, ls[i]? = some line → ((ls.take i).flatMap (encL M) ++ encL M line).length ≤ 10000) (hj : ((chunks M ls (x.flatMap enc)).map (·.length)).sum + (chunks M ls (x.flatMap enc)).length ≤ 16777216)
    (B : Base C mg L) (hR : Room A 5 8) (hM : 4 ≤ M) (hM' : M ≤ 1000) (hx : x ≠ []) (hcr : (x.flatMap enc).getLast? ≠ some 13) (hx2 : ∀ c ∈ x, c < 256) (hz : x.length ≤ 1000) (htz : (x.flatMap enc).length ≤ 3000)
    (h : Q (.str (Txt.join ⟨#[10]⟩ ((chunks M ls (x.flatMap enc)).map fun l => ⟨l.toArray⟩)) 0) σ) : EC C A (.ref L.aBodyEncode) [sv x, .int M 0] σ Q := by
  have hs : sizeLine = 16777216 := by decide
  have hxe : x.isEmpty = false := by cases x with
    | nil => exact absurd rfl hx
    | cons => rfl
  refine c_w B.G.nolimit B.fBodyEncode (by have := hR.depth; lia) (ll := [("eol", sv [10]), ("maxlinelen", .int M 0), ("body", sv x)]) (cs := fun _ => []) (binds2d (T := L.dBody) (p := "body") (q := "maxlinelen") (r := "eol") (x := sv [10]) B.mBody rfl rfl) fun a cdv => ?_
  have hR' : Room (A.deeper (fenv "body_encode" (fnS (stAt 20)) a L.aBodyEncode cdv)) 4 5 := hR.deeper _
  walk_at "WALK"
  first | refine ite_df (by lia) ?_ | refine ite_df (by simp; lia) ?_ | refine ite_n (by simp; lia) ?_
  walk_at "WALK"
  refine b_sv (by lia) ?_
  walk_at "ITE"
  simp only [hxe, Bool.not_false, Bool.not_true, Bool.false_eq_true, if_false]
  walk_at "WALK"
  refine f_translate (r := fun c => some ⟨(enc c).toArray⟩) hR'.handled (tl_list (ts := encMap.map fun l => ⟨l.toArray⟩) (.inr (by simpa [txs, Function.comp_def] using B.mEnc)) fun c hc => ?_) ?_ ?_
  · have := hx2 c (by simpa using hc)
    exact ⟨by lia, ⟨(enc c).toArray⟩, by simp [encMap, this], rfl⟩
  · have := htz
    rw [List.length_flatMap] at this
    simp only [outOf, Option.getD_some, Str.length, List.size_toArray]
    lia
  walk_at "ITE"
  rw [if_neg (by simpa [Str.length] using hx), show tr (fun c => some ⟨(enc c).toArray⟩) ⟨x.toArray⟩ = ⟨(x.flatMap enc).toArray⟩ by simp [tr, outOf]]
  have hTe : x.flatMap enc ≠ [] := by
    cases x with
    | nil => exact absurd rfl hx
    | cons c r => rw [List.flatMap_cons]; unfold enc; split <;> simp [quo]
  generalize ht : x.flatMap enc = T at htz hls hlc hj hTe hcr h ⊢
  walk_at "WALK"
  refine o_adds (l := [61]) (m := [10]) (by simp; lia) ?_
  walk_at "WALK"
  refine v_list ?_
  walk_at "WALK"
  refine ⟨by simp, fun eb => ?_⟩
  walk_at "WALK"
  refine v_bound ?_
  walk_at "WALK"
  refine ⟨eb, rfl, [], (Or.inl (by walk_at "MEM")), fun ap => ?_⟩
  walk_at "WALK"
  refine s_for hR'.handled ?_
  walk_at "WALK"
  refine f_splitlines (by simpa [Str.length] using by lia) hlc fun D => ?_
  have hls' : txs (Txt.lines ⟨T.toArray⟩) = ls.map sv := by rw [hls]; simp [txs, Function.comp_def]
  rw [hls']
  refine pi_list (Or.inl (by walk_at "MEM")) fun it => ?_
  refine ⟨_, _, _, iter_list (l := D) (xs := ls.map sv), fun (i : Nat) (τ : Asn) => τ = (a, ns [("append", .ref ap), ("encoded_body", .ref eb), ("maxlinelen1", .int (M - 1) 0), ("soft_break", sv [61, 10]), ("body", sv T), ("eol", sv [10]), ("maxlinelen", .int M 0)]) :: (eb, lst (((ls.take i).flatMap (encL M)).map sv)) :: (ap, bnd eb) :: (D, lst (ls.map sv)) :: σ, ⟨_, ?_, rfl⟩, ?_, ?_, ?_⟩
  · walk_at "WEAK"
  · rintro i τ rfl; exact (Or.inl (by walk_at "MEM"))
  · rintro i v τ hv rfl
    obtain ⟨line, hline, rfl⟩ : ∃ line, ls[i]? = some line ∧ sv line = v := by simpa [List.getElem?_map] using hv
    obtain ⟨hlz, hlc⟩ := hll line (List.mem_of_getElem? hline)
    intro K hK
    refine as_name ?_
    refine ln ?_
    refine EX.wk (body_for (a := a) (D := D) (it := it) (eb := eb) (ap := ap) (i := i + 1) (prev := (ls.take i).flatMap (encL M)) (lsv := ls.map sv) (T := T) (σ := σ) (rest := []) (x₀ := .none) B ⟨hR'.handled, by have := hR'.depth; lia, by have := hR'.units; lia⟩ hM hM' hlz hlc (hpre i line hline) ?_) ?_
    · walk_at "WALK"
      refine ⟨_, ?_, rfl⟩
      have ht1 : (ls.take (i + 1)).flatMap (encL M) = (ls.take i).flatMap (encL M) ++ encL M line := by rw [List.take_add_one, hline]; simp
      rw [ht1]
      walk_at "WEAK"
    · walk_at "WEAK"
  · rintro τ rfl
    obtain ⟨c, hc⟩ : ∃ c, T.getLast? = some c := ⟨_, List.getLast?_eq_some_getLast hTe⟩
    walk_at "WALK"
    refine g_last (by lia) rfl hc ?_
    walk_at "WALK"
    refine o_inc (l := [13, 10]) ?_
    walk_at "WALK"
    have hc13 : c ≠ 13 := fun e => hcr (by rw [hc, e])
    have emp : ∀ X : List (List Nat), List.map sv X ++ [Value.str (Str.ofString "") 0] = List.map sv (X ++ [[]]) := fun X => by rw [List.map_append]; rfl
    have tx : ∀ X : List (List Nat), List.map sv X = txs (X.map fun l => ⟨l.toArray⟩) := fun X => by simp [txs, Function.comp_def]
    have ln' : ∀ X : List (List Nat), ((X.map fun l => (⟨l.toArray⟩ : Str)).map (·.length)).sum = (X.map (·.length)).sum := fun X => by simp [Str.length, Function.comp_def]
    rw [List.length_map, List.take_length]
    by_cases h10 : c = 10
    · have hck : chunks M ls T = ls.flatMap (encL M) ++ [[]] := by unfold chunks; rw [hc, h10, if_pos rfl]
      rw [hck] at h hj
      walk_at "ITE"
      refine ite_t (by simp [h10]) ?_
      walk_at "WALK"
      rw [emp, tx]
      walk_at "WALK"
      refine f_join (Or.inl (by walk_at "MEM")) (by rw [ln']; simp [Str.length] at hj ⊢; lia) ⟨σ, ?_, h⟩
      · walk_at "WEAK"
      · rw [List.length_map]; lia
    · have hck : chunks M ls T = ls.flatMap (encL M) := by unfold chunks; rw [hc, if_neg (by simpa using h10), List.append_nil]
      rw [hck] at h hj
      walk_at "ITE"
      refine ite_n (by simp [h10, hc13]) ?_
      rw [tx]
      walk_at "WALK"
      refine f_join (Or.inl (by walk_at "MEM")) (by rw [ln']; simp [Str.length] at hj ⊢; lia) ⟨σ, ?_, h⟩
      walk_at "WEAK"
end
end TIkW4
section TIkW5
open PySem PySem.Calls PyProof.Rows
set_option maxRecDepth 4000
inductive Dec : List Nat → List Nat → Prop
  | ch {c : Nat} {r o : List Nat} : c ≠ 61 → r ≠ [] → Dec r o → Dec (c :: r) (c :: o)
  | last {c : Nat} : c ≠ 61 → Dec [c] [c, 10]
  | soft : Dec [61] []
  | hex {a b v : Nat} {r o : List Nat} : a ∈ hexDigits → b ∈ hexDigits → hexV.lookup ⟨[a, b].toArray⟩ = some v → v < 256 → r ≠ [] → Dec r o → Dec (61 :: a :: b :: r) (v :: o)
  | hexlast {a b v : Nat} : a ∈ hexDigits → b ∈ hexDigits → hexV.lookup ⟨[a, b].toArray⟩ = some v → v < 256 → Dec [61, a, b] [v, 10]
theorem Dec.ne {r o : List Nat} (h : Dec r o) : r ≠ [] := by cases h <;> simp
theorem drop_at {line r : List Nat} {s c : Nat} (h : line.drop s = c :: r) : line[s]? = some c ∧ line.drop (s + 1) = r ∧ line.length = s + 1 + r.length := by
  have h1 : s < line.length := by
    rcases Nat.lt_or_ge s line.length with h' | h'
    · exact h'
    · rw [List.drop_of_length_le h'] at h; cases h
  rw [List.drop_eq_getElem_cons h1] at h
  injection h with h2 h3
  refine ⟨by rw [List.getElem?_eq_getElem h1, h2], h3, ?_⟩
  have := congrArg List.length h3
  rw [List.length_drop] at this; lia
section
variable {C : Cx} {A : Around} {σ σ' : Asn} {Q : Value → Asn → Prop} {QF : Flow → Asn → Prop} {mg : Str → Option Value} {L : Lay}
noncomputable abbrev decNs (s : Nat) (line acc enc0 : List Nat) : List (Str × Value) := [("i", .int s 0), ("n", .int line.length 0), ("line", sv line), ("decoded", sv acc), ("encoded", sv enc0), ("eol", sv [10])]
theorem dec_while {a D it : Addr} {cdv : Value} {i : Nat} {line acc0 enc0 total : List Nat} {lsv : List Value} (B : Base C mg L) (hR : Room A 3 3) (hlz : line.length ≤ 3000) (htot : total.length ≤ 100000) (hd : Dec line total)
    (hacc : acc0.length ≤ 100000)
    (h : QF .next ((a, ns (decNs line.length line (acc0 ++ total) enc0)) :: (it, lit D i) :: (D, lst lsv) :: σ)) :
    ES C A (fenv "decode" (fnS (stAt 21)) a L.aDecode cdv) (nth (forB (nth (fnB (stAt 21)) 2)) 4) ((a, ns (decNs 0 line acc0 enc0)) :: (it, lit D i) :: (D, lst lsv) :: σ) QF := by
  have hs : sizeLine = 16777216 := by decide
  have k_i : kL (fenv "decode" (fnS (stAt 21)) a L.aDecode cdv) "i" = true := by kernel_rfl
  have k_n : kL (fenv "decode" (fnS (stAt 21)) a L.aDecode cdv) "n" = true := by kernel_rfl
  have k_c : kL (fenv "decode" (fnS (stAt 21)) a L.aDecode cdv) "c" = true := by kernel_rfl
  have k_line : kL (fenv "decode" (fnS (stAt 21)) a L.aDecode cdv) "line" = true := by kernel_rfl
  have k_decoded : kL (fenv "decode" (fnS (stAt 21)) a L.aDecode cdv) "decoded" = true := by kernel_rfl
  have k_eol : kL (fenv "decode" (fnS (stAt 21)) a L.aDecode cdv) "eol" = true := by kernel_rfl
  have k_encoded : kL (fenv "decode" (fnS (stAt 21)) a L.aDecode cdv) "encoded" = true := by kernel_rfl
  have k_hexdigits : kG (fenv "decode" (fnS (stAt 21)) a L.aDecode cdv) "hexdigits" = true := by kernel_rfl
  have k_unquote : kG (fenv "decode" (fnS (stAt 21)) a L.aDecode cdv) "unquote" = true := by kernel_rfl
  refine s_while (fun (n : Nat) (τ : Asn) => ∃ (s : Nat) (acc out : List Nat), n = line.length - s ∧ s ≤ line.length ∧ (Dec (line.drop s) out ∨ (s = line.length ∧ out = [])) ∧ acc ++ out = acc0 ++ total ∧
      τ = (a, ns (decNs s line acc enc0)) :: (it, lit D i) :: (D, lst lsv) :: σ)
      line.length .refl ⟨0, acc0, total, by lia, by lia, .inl (by simpa using hd), rfl, rfl⟩ ?_
  rintro n τ ⟨s, acc, out, rfl, hs1, hdec, heq, rfl⟩
  have hal : acc.length ≤ 200000 := by have := congrArg List.length heq; simp only [List.length_append] at this; lia
  walk_at "WALK"
  rcases hdec with hdec | ⟨rfl, rfl⟩
  · generalize hr : line.drop s = r at hdec
    have step : ∀ (c : Nat) (rr : List Nat), r = c :: rr → line[s]? = some c ∧ line.drop (s + 1) = rr ∧ line.length = s + 1 + rr.length := fun c rr e => drop_at (hr.trans e)
    cases hdec with
    | @ch c rr o hc hne hd =>
      obtain ⟨h0, h1, h2⟩ := step c rr rfl
      have hrr : 0 < rr.length := List.length_pos_iff.mpr hne
      walk_at "ITE"
      first | refine ite_dt (by lia) ?_ | refine ite_dt (by simp; lia) ?_ | refine ite_t (by simp; lia) ?_
      walk_at "WALK"
      refine g_at (a := s) (by lia) rfl h0 ?_
      walk_at "WALK"
      refine o_nec (d := 61) ?_
      walk_at "WALK"
      refine ite_t (by simpa using hc) ?_
      walk_at "WALK"
      refine o_iadds (m := [c]) (by simp; lia) ?_
      walk_at "WALK"
      first | refine ite_df (by lia) ?_ | refine ite_df (by simp; lia) ?_ | refine ite_n (by simp; lia) ?_
      walk_at "WALK"
      refine ⟨_, line.length - (s + 1), ?_, by lia, s + 1, acc ++ [c], o, rfl, by lia, .inl (h1 ▸ hd), by rw [← heq]; simp, rfl⟩
      walk_at "WEAK"
    | @last c hc =>
      obtain ⟨h0, h1, h2⟩ := step c [] rfl
      simp only [List.length_nil] at h2
      walk_at "ITE"
      first | refine ite_dt (by lia) ?_ | refine ite_dt (by simp; lia) ?_ | refine ite_t (by simp; lia) ?_
      walk_at "WALK"
      refine g_at (a := s) (by lia) rfl h0 ?_
      walk_at "WALK"
      refine o_nec (d := 61) ?_
      walk_at "WALK"
      refine ite_t (by simpa using hc) ?_
      walk_at "WALK"
      refine o_iadds (m := [c]) (by simp; lia) ?_
      walk_at "WALK"
      first | refine ite_dt (by lia) ?_ | refine ite_dt (by simp; lia) ?_ | refine ite_t (by simp; lia) ?_
      walk_at "WALK"
      refine o_iadds (m := [10]) (by simp; lia) ?_
      walk_at "WALK"
      refine ⟨_, line.length - (s + 1), ?_, by lia, s + 1, acc ++ [c] ++ [10], [], rfl, by lia, .inr ⟨by lia, rfl⟩, by rw [← heq]; simp, rfl⟩
      walk_at "WEAK"
    | soft =>
      obtain ⟨h0, h1, h2⟩ := step 61 [] rfl
      simp only [List.length_nil] at h2
      walk_at "ITE"
      first | refine ite_dt (by lia) ?_ | refine ite_dt (by simp; lia) ?_ | refine ite_t (by simp; lia) ?_
      walk_at "WALK"
      refine g_at (a := s) (by lia) rfl h0 ?_
      walk_at "WALK"
      refine o_nec (d := 61) ?_
      walk_at "WALK"
      first | refine ite_n (by decide) ?_ | refine ite_n (by simp) ?_
      walk_at "WALK"
      first | refine ite_dt (by lia) ?_ | refine ite_dt (by simp; lia) ?_ | refine ite_t (by simp; lia) ?_
      walk_at "WALK"
      refine ⟨_, line.length - (s + 1), ?_, by lia, s + 1, acc, [], rfl, by lia, .inr ⟨by lia, rfl⟩, by rw [← heq], rfl⟩
      walk_at "WEAK"
    | @hex x y v rr o hx hy hv hv2 hne hd =>
      obtain ⟨h0, h1, h2⟩ := step 61 (x :: y :: rr) rfl
      obtain ⟨h3, h4, h5⟩ := drop_at h1
      obtain ⟨h6, h7, h8⟩ := drop_at h4
      have hrr : 0 < rr.length := List.length_pos_iff.mpr hne
      simp only [List.length_cons] at h2
      walk_at "ITE"
      first | refine ite_dt (by lia) ?_ | refine ite_dt (by simp; lia) ?_ | refine ite_t (by simp; lia) ?_
      walk_at "WALK"
      refine g_at (a := s) (by lia) rfl h0 ?_
      walk_at "WALK"
      refine o_nec (d := 61) ?_
      walk_at "WALK"
      first | refine ite_n (by decide) ?_ | refine ite_n (by simp) ?_
      walk_at "WALK"
      first | refine ite_df (by lia) ?_ | refine ite_df (by simp; lia) ?_ | refine ite_n (by simp; lia) ?_
      walk_at "WALK"
      first | refine ite_dt (by lia) ?_ | refine ite_dt (by simp; lia) ?_ | refine ite_t (by simp; lia) ?_
      walk_at "WALK"
      refine g_at (a := s + 1) (by lia) (by lia) h3 ?_
      walk_at "WALK"
      refine o_inc (l := hexDigits) ?_
      walk_at "WALK"
      refine ite_t (by simpa using hx) ?_
      walk_at "WALK"
      refine g_at (a := s + 2) (by lia) (by lia) h6 ?_
      walk_at "WALK"
      refine o_inc (l := hexDigits) ?_
      walk_at "WALK"
      refine ite_t (by simpa using hy) ?_
      walk_at "WALK"
      refine ite_t rfl ?_
      walk_at "WALK"
      refine q_nn (a := s) (b := s + 3) (by lia) rfl (by lia) ?_
      walk_at "WALK"
      have ht : (line.drop s).take (s + 3 - s) = [61, x, y] := by rw [show s + 3 - s = 3 by lia, hr]; rfl
      rw [ht]
      refine f_unquote (t := 0) B (by have := hR.depth; lia) hv2 (by simpa using hv) (by simp; lia) ?_
      walk_at "WALK"
      refine o_iadds (m := [v]) (by simp; lia) ?_
      walk_at "WALK"
      first | refine ite_df (by lia) ?_ | refine ite_df (by simp; lia) ?_ | refine ite_n (by simp; lia) ?_
      walk_at "WALK"
      refine ⟨_, line.length - (s + 3), ?_, by lia, s + 3, acc ++ [v], o, rfl, by lia, .inl (h7 ▸ hd), by rw [← heq]; simp, rfl⟩
      walk_at "WEAK"
    | @hexlast x y v hx hy hv hv2 =>
      obtain ⟨h0, h1, h2⟩ := step 61 [x, y] rfl
      obtain ⟨h3, h4, h5⟩ := drop_at h1
      obtain ⟨h6, h7, h8⟩ := drop_at h4
      simp only [List.length_cons, List.length_nil] at h2
      walk_at "ITE"
      first | refine ite_dt (by lia) ?_ | refine ite_dt (by simp; lia) ?_ | refine ite_t (by simp; lia) ?_
      walk_at "WALK"
      refine g_at (a := s) (by lia) rfl h0 ?_
      walk_at "WALK"
      refine o_nec (d := 61) ?_
      walk_at "WALK"
      first | refine ite_n (by decide) ?_ | refine ite_n (by simp) ?_
      walk_at "WALK"
      first | refine ite_df (by lia) ?_ | refine ite_df (by simp; lia) ?_ | refine ite_n (by simp; lia) ?_
      walk_at "WALK"
      first | refine ite_dt (by lia) ?_ | refine ite_dt (by simp; lia) ?_ | refine ite_t (by simp; lia) ?_
      walk_at "WALK"
      refine g_at (a := s + 1) (by lia) (by lia) h3 ?_
      walk_at "WALK"
      refine o_inc (l := hexDigits) ?_
      walk_at "WALK"
      refine ite_t (by simpa using hx) ?_
      walk_at "WALK"
      refine g_at (a := s + 2) (by lia) (by lia) h6 ?_
      walk_at "WALK"
      refine o_inc (l := hexDigits) ?_
      walk_at "WALK"
      refine ite_t (by simpa using hy) ?_
      walk_at "WALK"
      refine ite_t rfl ?_
      walk_at "WALK"
      refine q_nn (a := s) (b := s + 3) (by lia) rfl (by lia) ?_
      walk_at "WALK"
      have ht : (line.drop s).take (s + 3 - s) = [61, x, y] := by rw [show s + 3 - s = 3 by lia, hr]; rfl
      rw [ht]
      refine f_unquote (t := 0) B (by have := hR.depth; lia) hv2 (by simpa using hv) (by simp; lia) ?_
      walk_at "WALK"
      refine o_iadds (m := [v]) (by simp; lia) ?_
      walk_at "WALK"
      first | refine ite_dt (by lia) ?_ | refine ite_dt (by simp; lia) ?_ | refine ite_t (by simp; lia) ?_
      walk_at "WALK"
      refine o_iadds (m := [10]) (by simp; lia) ?_
      walk_at "WALK"
      refine ⟨_, line.length - (s + 3), ?_, by lia, s + 3, acc ++ [v] ++ [10], [], rfl, by lia, .inr ⟨by lia, rfl⟩, by rw [← heq]; simp, rfl⟩
      walk_at "WEAK"
  · walk_at "ITE"
    first | refine ite_n (by decide) ?_ | refine ite_n (by simp) ?_
    rw [List.append_nil] at heq
    rw [← heq] at h
    exact h
end
end TIkW5
section TIkText
open PySem PySem.StrLaws PyProof.Rows
set_option maxRecDepth 4000
noncomputable abbrev mk (l : List Nat) : Str := ⟨l.toArray⟩
theorem joinL_nil : joinL [] = [] := rfl
theorem joinL_one (a : List Nat) : joinL [a] = a := by simp [joinL, List.intercalate]
theorem joinL_cons (a b : List Nat) (r : List (List Nat)) : joinL (a :: b :: r) = a ++ 10 :: joinL (b :: r) := by
  simp [joinL, List.intercalate]
noncomputable def free (l : List Nat) : Prop := 10 ∉ l
noncomputable def splitL : List Nat → List (List Nat)
  | [] => [[]]
  | c :: r => if c = 10 then [] :: splitL r else match splitL r with
    | [] => [[c]]
    | p :: ps => (c :: p) :: ps
theorem splitL_ne (l : List Nat) : splitL l ≠ [] := by
  cases l with
  | nil => simp [splitL]
  | cons c r => unfold splitL; split <;> (try split) <;> simp
theorem splitL_free : ∀ (l : List Nat), ∀ p ∈ splitL l, free p
  | [], p, h => by simp [splitL] at h; subst h; simp [free]
  | c :: r, p, h => by
    have ih := splitL_free r
    unfold splitL at h
    split at h
    · rcases List.mem_cons.mp h with rfl | h
      · simp [free]
      · exact ih p h
    · rename_i hc
      split at h
      · rename_i e; exact absurd e (splitL_ne r)
      · rename_i q ps e
        rcases List.mem_cons.mp h with rfl | h
        · have := ih q (by rw [e]; simp)
          unfold free at this ⊢
          simp only [List.mem_cons, not_or]
          exact ⟨fun e => hc e.symm, this⟩
        · exact ih p (by rw [e]; simp [h])
theorem joinL_splitL : ∀ (l : List Nat), joinL (splitL l) = l
  | [] => rfl
  | c :: r => by
    have ih := joinL_splitL r
    unfold splitL
    split
    · rename_i hc
      cases e : splitL r with
      | nil => exact absurd e (splitL_ne r)
      | cons p ps => rw [joinL_cons, ← e, ih, hc]; rfl
    · split
      · rename_i e; exact absurd e (splitL_ne r)
      · rename_i p ps e
        rw [e] at ih
        cases ps with
        | nil => rw [joinL_one] at ih ⊢; rw [ih]
        | cons q qs => rw [joinL_cons] at ih ⊢; rw [List.cons_append, ih]
theorem free_split {a b u v : List Nat} (ha : free a) (hb : free b) (h : a ++ 10 :: u = b ++ 10 :: v) : a = b ∧ u = v := by
  induction a generalizing b with
  | nil => cases b with
    | nil => simpa using h
    | cons c r => simp at h; exact absurd (by rw [h.1]; simp : (10 : Nat) ∈ c :: r) hb
  | cons c r ih => cases b with
    | nil => simp at h; exact absurd (by rw [← h.1]; simp : (10 : Nat) ∈ c :: r) ha
    | cons d s =>
      simp only [List.cons_append, List.cons.injEq] at h
      have := ih (b := s) (fun m => ha (by simp [m])) (fun m => hb (by simp [m])) h.2
      exact ⟨by rw [h.1, this.1], this.2⟩
theorem joinL_inj : ∀ {l m : List (List Nat)}, l ≠ [] → m ≠ [] → (∀ p ∈ l, free p) → (∀ p ∈ m, free p) → joinL l = joinL m → l = m
  | [], _, h, _, _, _, _ => absurd rfl h
  | _, [], _, h, _, _, _ => absurd rfl h
  | [a], [b], _, _, _, _, h => by rw [joinL_one, joinL_one] at h; rw [h]
  | [a], b :: c :: r, _, _, ha, _, h => by
    rw [joinL_one, joinL_cons] at h
    exact absurd (by rw [h]; simp) (ha a (by simp))
  | a :: c :: r, [b], _, _, _, hb, h => by
    rw [joinL_one, joinL_cons] at h
    exact absurd (by rw [← h]; simp) (hb b (by simp))
  | a :: c :: r, b :: d :: s, _, _, ha, hb, h => by
    rw [joinL_cons, joinL_cons] at h
    obtain ⟨h1, h2⟩ := free_split (ha a (by simp)) (hb b (by simp)) h
    have := joinL_inj (l := c :: r) (m := d :: s) (by simp) (by simp) (fun p hp => ha p (List.mem_cons_of_mem _ hp)) (fun p hp => hb p (List.mem_cons_of_mem _ hp)) h2
    rw [h1, this]
theorem splitL_joinL {l : List (List Nat)} (h : l ≠ []) (hf : ∀ p ∈ l, free p) : splitL (joinL l) = l :=
  joinL_inj (splitL_ne _) h (splitL_free _) hf (joinL_splitL _)
theorem join_mk : ∀ (l : List (List Nat)), Str.join ⟨#[10]⟩ (l.map mk) = mk (joinL l)
  | [] => rfl
  | [a] => by rw [joinL_one]; rfl
  | a :: b :: r => by
    have ih := join_mk (b :: r)
    rw [joinL_cons]
    show mk a ++ ⟨#[10]⟩ ++ Str.join ⟨#[10]⟩ ((b :: r).map mk) = _
    rw [ih]
    apply Str.ext'
    apply Array.toList_inj.mp
    simp [Str.cps_append, mk]
theorem Txt_join (l : List (List Nat)) : Txt.join ⟨#[10]⟩ (l.map mk) = mk (joinL l) := by
  show Builtin.Str.glued _ _ = _
  rw [glued_eq_join]; exact join_mk l
theorem Txt_split {x : List Nat} {l : List (List Nat)} (h : l ≠ []) (hf : ∀ p ∈ l, free p) (hx : joinL l = x) : Txt.split (mk x) ⟨#[10]⟩ = l.map mk := by
  have h1 := join_split (mk x) ⟨#[10]⟩
  have h2 := split_free (mk x) 10
  have hps : Txt.split (mk x) ⟨#[10]⟩ ≠ [] := by
    unfold Txt.split
    split
    · simp
    · split
      · simp
      · rw [partsBetween_eq]
        obtain ⟨p, r, e⟩ := partsFrom_ne (mk x) (⟨#[10]⟩ : Str).length 0 (Builtin.Str.occurrences (mk x) ⟨#[10]⟩ 0 (mk x).length ((mk x).length + 1))
        rw [e]; simp
  generalize Txt.split (mk x) ⟨#[10]⟩ = ps at h1 h2 hps
  have e : ps = (ps.map fun p => p.cps.toList).map mk := by
    rw [List.map_map]
    have : (mk ∘ fun p : Str => p.cps.toList) = id := by funext p; simp [mk]
    rw [this, List.map_id]
  rw [e, join_mk] at h1
  have h3 : joinL (ps.map fun p => p.cps.toList) = x := by have := congrArg (fun s : Str => s.cps.toList) h1; simpa using this
  have hne : ps ≠ [] := by
    exact hps
  rw [e]
  congr 1
  refine joinL_inj (by simpa using hne) h (fun p hp => ?_) hf (h3.trans hx.symm)
  obtain ⟨q, hq, rfl⟩ := List.mem_map.mp hp
  exact h2 q hq
noncomputable def linesA : List Nat → List Nat → List (List Nat)
  | w, [] => if w = [] then [] else [w]
  | w, c :: r => if c = 10 then w :: linesA [] r else linesA (w ++ [c]) r
noncomputable def Tame (l : List Nat) : Prop := ∀ c ∈ l, (Unicode.isLineBreak c = true ↔ c = 10)
noncomputable def spansF : Nat → Nat → List Nat → List (Nat × Nat × Nat)
  | a, cur, [] => if a < cur then [(a, cur, cur)] else []
  | a, cur, c :: r => if c = 10 then (a, cur, cur + 1) :: spansF (cur + 1) (cur + 1) r else spansF a (cur + 1) r
theorem ls_go (x : Str) (pre : List Nat) : ∀ (rest : List Nat) (st : LsSt) (cur : Nat), x.cps.toList = pre ++ rest → pre.length = cur → Tame rest → st.2 ≤ cur →
    lsEnd x (Id.run (forIn (m := Id) (List.range' cur rest.length) st (lsBody x))) = st.1.toList ++ spansF st.2 cur rest := by
  intro rest
  induction rest generalizing pre with
  | nil =>
    intro st cur hx hp ht hs
    have hl : x.length = cur := by rw [← hp]; simpa [Str.length] using congrArg List.length hx
    show lsEnd x st = _
    unfold lsEnd spansF
    rw [hl]
    split <;> simp
  | cons c r ih =>
    intro st cur hx hp ht hs
    have hc : x.cps.getD cur 0 = c := by
      have : x.cps.toList[cur]? = some c := by rw [hx, ← hp]; simp
      rw [Array.getElem?_toList] at this
      rw [Array.getD_eq_getD_getElem?, this]; rfl
    have hx' : x.cps.toList = (pre ++ [c]) ++ r := by rw [hx]; simp
    have hp' : (pre ++ [c]).length = cur + 1 := by simp [hp]
    have ht' : Tame r := fun d hd => ht d (List.mem_cons_of_mem _ hd)
    rw [List.length_cons, List.range'_succ, List.forIn_cons]
    unfold spansF
    by_cases h10 : c = 10
    · have hb : Unicode.isLineBreak c = true := (ht c (by simp)).mpr h10
      have hn : lsNext x cur = cur + 1 := by
        unfold lsNext
        rw [hc, h10]; rfl
      have e : lsBody x cur st = pure (ForInStep.yield (st.fst.push (st.snd, cur, cur + 1), cur + 1)) := by
        unfold lsBody
        rw [hc, hb, hn, if_pos (by simp; lia)]
      rw [e, if_pos h10]
      refine (ih (pre ++ [c]) (st.fst.push (st.snd, cur, cur + 1), cur + 1) (cur + 1) hx' hp' ht' (Nat.le_refl _)).trans ?_
      simp
    · have hb : Unicode.isLineBreak c = false := by
        cases hb : Unicode.isLineBreak c with
        | false => rfl
        | true => exact absurd ((ht c (by simp)).mp hb) h10
      have e : lsBody x cur st = pure (ForInStep.yield (st.fst, st.snd)) := by
        unfold lsBody
        rw [hc, hb, if_neg (by simp)]
      rw [e, if_neg h10]
      exact ih (pre ++ [c]) (st.fst, st.snd) (cur + 1) hx' hp' ht' (by show st.2 ≤ _; lia)
theorem spans_lines (x : Str) : ∀ (rest pre : List Nat) (a cur : Nat), x.cps.toList = pre ++ rest → pre.length = cur → a ≤ cur →
    (spansF a cur rest).map (fun p => Builtin.Str.strSub x p.1 p.2.1) = (linesA (pre.drop a) rest).map mk
  | [], pre, a, cur, hx, hp, ha => by
    unfold spansF linesA
    by_cases h : a < cur
    · rw [if_pos h, if_neg (by intro e; have := congrArg List.length e; simp at this; lia)]
      simp only [List.map_cons, List.map_nil]
      congr 1
      apply Str.ext'
      apply Array.toList_inj.mp
      rw [strSub_toList, hx]
      simp [mk]
      rw [List.take_of_length_le (by simp; lia)]
    · rw [if_neg h, if_pos (by rw [List.drop_eq_nil_iff]; lia)]
      rfl
  | c :: r, pre, a, cur, hx, hp, ha => by
    have hx' : x.cps.toList = (pre ++ [c]) ++ r := by rw [hx]; simp
    have hp' : (pre ++ [c]).length = cur + 1 := by simp [hp]
    unfold spansF linesA
    by_cases h10 : c = 10
    · rw [if_pos h10, if_pos h10]
      simp only [List.map_cons]
      have ih := spans_lines x r (pre ++ [c]) (cur + 1) (cur + 1) hx' hp' (Nat.le_refl _)
      rw [List.drop_of_length_le (by lia)] at ih
      rw [ih]
      congr 1
      apply Str.ext'
      apply Array.toList_inj.mp
      rw [strSub_toList, hx, List.drop_append_of_le_length (by lia), List.take_append_of_le_length (by simp; lia), List.take_of_length_le (by simp; lia)]
    · rw [if_neg h10, if_neg h10]
      have ih := spans_lines x r (pre ++ [c]) a (cur + 1) hx' hp' (by lia)
      rw [ih, List.drop_append_of_le_length (by lia)]
theorem Txt_linesA (l : List Nat) (h : Tame l) : Txt.lines (mk l) = (linesA [] l).map mk := by
  have h1 := ls_go (mk l) [] l (#[], 0) 0 (by simp [mk]) rfl h (Nat.le_refl _)
  have hl : (mk l).length = l.length := by simp [Str.length]
  have h2 : Builtin.Str.lineSpans (mk l) = spansF 0 0 l := by rw [ls_eq, hl, h1]; rfl
  have h3 : linesOf (mk l) = (linesA [] l).map mk := by
    unfold linesOf lineCuts
    rw [h2, List.map_map]
    have := spans_lines (mk l) l [] 0 0 (by simp [mk]) rfl (Nat.le_refl _)
    rw [List.drop_nil] at this
    rw [← this]; rfl
  unfold Txt.lines
  split
  · rename_i hc
    rw [← h3]
    unfold linesOf
    rw [eq_of_beq hc]
    simp [sub_whole]
  · exact h3
noncomputable def dropTail (l : List (List Nat)) : List (List Nat) := if l.getLast? = some [] then l.dropLast else l
theorem linesA_app : ∀ (w a r : List Nat), free a → linesA w (a ++ 10 :: r) = (w ++ a) :: linesA [] r
  | w, [], r, _ => by simp [linesA]
  | w, c :: a, r, h => by
    have hc : c ≠ 10 := fun e => h (by simp [e])
    rw [List.cons_append, linesA, if_neg hc, linesA_app (w ++ [c]) a r (fun m => h (by simp [m]))]
    simp
theorem linesA_end : ∀ (w a : List Nat), free a → linesA w a = if w ++ a = [] then [] else [w ++ a]
  | w, [], _ => by simp [linesA]
  | w, c :: a, h => by
    have hc : c ≠ 10 := fun e => h (by simp [e])
    rw [linesA, if_neg hc, linesA_end (w ++ [c]) a (fun m => h (by simp [m]))]
    simp
theorem linesA_joinL : ∀ (l : List (List Nat)), (∀ p ∈ l, free p) → linesA [] (joinL l) = dropTail l
  | [], _ => rfl
  | [a], h => by
    rw [joinL_one, linesA_end [] a (h a (by simp))]
    simp only [List.nil_append, dropTail, List.getLast?_singleton, Option.some.injEq]
    split <;> simp
  | a :: b :: r, h => by
    rw [joinL_cons, linesA_app [] a _ (h a (by simp)), linesA_joinL (b :: r) fun p hp => h p (List.mem_cons_of_mem _ hp)]
    simp only [List.nil_append, dropTail, List.getLast?_cons_cons]
    split <;> rfl
theorem Txt_lines {x : List Nat} {l : List (List Nat)} (ht : Tame x) (hf : ∀ p ∈ l, free p) (hx : joinL l = x) : Txt.lines (mk x) = (dropTail l).map mk := by
  rw [Txt_linesA x ht, ← hx, linesA_joinL l hf]
end TIkText
section TIkEnc
open PySem PySem.StrLaws PyProof.Rows
set_option maxRecDepth 4000
noncomputable def signs : List Nat := [97, 32, 9, 10, 61, 233, 46, 42, 91, 63, 93, 33]
noncomputable abbrev Sg (c : Nat) : Prop := c ∈ signs
structure Hx (c a b : Nat) : Prop where
  ha : a ∈ hexDigits
  hb : b ∈ hexDigits
  na : a ≠ 61
  nb : b ≠ 61
  tb : b ≠ 32 ∧ b ≠ 9 ∧ b ≠ 10
  ta : a ≠ 10
  hv : hexV.lookup ⟨[a, b].toArray⟩ = some c
  lt : c < 256
theorem hx61 : Hx 61 51 68 := ⟨by decide, by decide, by decide, by decide, by decide, by decide, by decide +kernel, by decide⟩
theorem hx233 : Hx 233 69 57 := ⟨by decide, by decide, by decide, by decide, by decide, by decide, by decide +kernel, by decide⟩
theorem hx32 : Hx 32 50 48 := ⟨by decide, by decide, by decide, by decide, by decide, by decide, by decide +kernel, by decide⟩
theorem hx9 : Hx 9 48 57 := ⟨by decide, by decide, by decide, by decide, by decide, by decide, by decide +kernel, by decide⟩
theorem enc_cases {c : Nat} (h : Sg c) : (enc c = [c] ∧ c ≠ 61) ∨ (∃ a b, enc c = [61, a, b] ∧ Hx c a b ∧ c ≠ 10 ∧ c ≠ 32 ∧ c ≠ 9) := by
  unfold Sg signs at h
  simp only [List.mem_cons, List.not_mem_nil, or_false] at h
  rcases h with rfl | rfl | rfl | rfl | rfl | rfl | rfl | rfl | rfl | rfl | rfl | rfl
  · exact .inl (by decide)
  · exact .inl (by decide)
  · exact .inl (by decide)
  · exact .inl (by decide)
  · exact .inr ⟨51, 68, by decide, hx61, by decide⟩
  · exact .inr ⟨69, 57, by decide, hx233, by decide⟩
  · exact .inl (by decide)
  · exact .inl (by decide)
  · exact .inl (by decide)
  · exact .inl (by decide)
  · exact .inl (by decide)
  · exact .inl (by decide)
theorem quo_ws {c : Nat} (h : c = 32 ∨ c = 9) : ∃ a b, quo c = [61, a, b] ∧ Hx c a b := by
  rcases h with rfl | rfl
  · exact ⟨50, 48, by decide, hx32⟩
  · exact ⟨48, 57, by decide, hx9⟩
noncomputable def Sl (y : List Nat) : Prop := ∀ c ∈ y, Sg c ∧ c ≠ 10
noncomputable abbrev et (y : List Nat) : List Nat := y.flatMap enc
theorem et_cons (c : Nat) (y : List Nat) : et (c :: y) = enc c ++ et y := by simp [et]
theorem et_append (y z : List Nat) : et (y ++ z) = et y ++ et z := by simp [et]
theorem enc_len {c : Nat} (h : Sg c) : 1 ≤ (enc c).length ∧ (enc c).length ≤ 3 := by
  rcases enc_cases h with ⟨e, _⟩ | ⟨a, b, e, _⟩ <;> rw [e] <;> simp
theorem et_len {y : List Nat} (h : ∀ c ∈ y, Sg c) : y.length ≤ (et y).length ∧ (et y).length ≤ 3 * y.length := by
  induction y with
  | nil => simp [et]
  | cons c r ih =>
    have := ih fun d hd => h d (List.mem_cons_of_mem _ hd)
    have h1 := enc_len (h c (by simp))
    rw [et_cons, List.length_append, List.length_cons]; lia
theorem Sl.cons {c : Nat} {y : List Nat} (h : Sl (c :: y)) : Sg c ∧ c ≠ 10 ∧ Sl y := ⟨(h c (by simp)).1, (h c (by simp)).2, fun d hd => h d (List.mem_cons_of_mem _ hd)⟩
theorem Sl.app {y z : List Nat} (h : Sl (y ++ z)) : Sl y ∧ Sl z := ⟨fun c hc => h c (by simp [hc]), fun c hc => h c (by simp [hc])⟩
theorem et_nil {y : List Nat} (h : Sl y) (e : et y = []) : y = [] := by
  cases y with
  | nil => rfl
  | cons c r =>
    rw [et_cons] at e
    have := (enc_len h.cons.1).1
    simp at e
    rw [e.1] at this; simp at this
theorem et_sep {y : List Nat} (h : Sl y) : ∀ j, (et y)[j]? = some 61 → (et y)[j + 1]? ≠ some 61 ∧ (et y)[j + 2]? ≠ some 61 := by
  induction y with
  | nil => intro j hj; simp [et] at hj
  | cons c r ih =>
    obtain ⟨hc, _, hr⟩ := h.cons
    have ih := ih hr
    intro j hj
    rw [et_cons] at hj ⊢
    rcases enc_cases hc with ⟨e, h61⟩ | ⟨a, b, e, hx, _⟩
    · rw [e] at hj ⊢
      cases j with
      | zero => simp at hj; exact absurd hj h61
      | succ j => simpa using ih j (by simpa using hj)
    · rw [e] at hj ⊢
      match j with
      | 0 => simp [hx.na, hx.nb]
      | 1 => simp [hx.na] at hj
      | 2 => simp [hx.nb] at hj
      | j + 3 => simpa using ih j (by simpa using hj)
theorem et_cut {y : List Nat} (h : Sl y) : ∀ p, p ≤ (et y).length → (∀ j, j + 1 = p ∨ j + 2 = p → (et y)[j]? ≠ some 61) → ∃ y₁ y₂, y = y₁ ++ y₂ ∧ (et y).take p = et y₁ ∧ (et y).drop p = et y₂ := by
  induction y with
  | nil => intro p hp _; exact ⟨[], [], rfl, by simp [et], by simp [et]⟩
  | cons c r ih =>
    obtain ⟨hc, _, hr⟩ := h.cons
    intro p hp hj
    cases p with
    | zero => exact ⟨[], c :: r, rfl, by simp [et], by simp⟩
    | succ p =>
      rw [et_cons] at hp hj ⊢
      rcases enc_cases hc with ⟨e, h61⟩ | ⟨a, b, e, hx, _⟩
      · rw [e] at hp hj ⊢
        obtain ⟨y₁, y₂, e1, e2, e3⟩ := ih hr p (by simpa using hp) fun j hjp => by
          have := hj (j + 1) (by lia)
          simpa using this
        refine ⟨c :: y₁, y₂, by rw [e1]; rfl, ?_, ?_⟩
        · rw [et_cons, e]; simp [e2]
        · simpa using e3
      · rw [e] at hp hj ⊢
        match p with
        | 0 => exact absurd (by simp) (hj 0 (.inl rfl))
        | 1 => exact absurd (by simp) (hj 0 (.inr rfl))
        | p + 2 =>
          obtain ⟨y₁, y₂, e1, e2, e3⟩ := ih hr p (by simpa using hp) fun j hjp => by
            have := hj (j + 3) (by lia)
            simpa using this
          refine ⟨c :: y₁, y₂, by rw [e1]; rfl, ?_, ?_⟩
          · rw [et_cons, e]; simp [e2]
          · simpa using e3
theorem cut_ok {M : Nat} (hM : 4 ≤ M) {y : List Nat} (h : Sl y) (hl : M < (et y).length) : ∃ y₁ y₂, y = y₁ ++ y₂ ∧ (et y).take (cutAt M (et y)) = et y₁ ∧ (et y).drop (cutAt M (et y)) = et y₂ ∧ y₁ ≠ [] := by
  have hc := cutAt_pos hM (et y)
  have sep := et_sep h
  obtain ⟨y₁, y₂, e1, e2, e3⟩ := et_cut h (cutAt M (et y)) (by lia) (by
    intro j hj e
    have s1 := sep j e
    unfold cutAt at hj
    split at hj
    · rename_i h3
      rcases hj with hj | hj
      · exact s1.1 (by rw [hj]; exact h3)
      · exact s1.2 (by rw [hj]; exact h3)
    · rename_i h3
      split at hj
      · rename_i h2
        rcases hj with hj | hj
        · exact s1.1 (by rw [hj]; exact h2)
        · exact s1.2 (by rw [hj]; exact h2)
      · rename_i h2
        rcases hj with hj | hj
        · exact h2 (by rw [← e]; congr 1; lia)
        · exact h3 (by rw [← e]; congr 1; lia))
  refine ⟨y₁, y₂, e1, e2, e3, ?_⟩
  rintro rfl
  have : min (cutAt M (et y)) (et y).length = 0 := by rw [← List.length_take, e2]; rfl
  lia
theorem dec_tok {c : Nat} {r o : List Nat} (h : Sg c) (hr : r ≠ []) (hd : Dec r o) : Dec (enc c ++ r) (c :: o) := by
  rcases enc_cases h with ⟨e, h61⟩ | ⟨a, b, e, hx, _⟩
  · rw [e]; exact .ch h61 hr hd
  · rw [e]; exact .hex hx.ha hx.hb hx.hv hx.lt hr hd
theorem dec_soft : ∀ {y r o : List Nat}, Sl y → r ≠ [] → Dec r o → Dec (et y ++ r) (y ++ o)
  | [], r, o, _, _, h => by simpa [et] using h
  | c :: y, r, o, hy, hr, h => by
    obtain ⟨hc, _, hy'⟩ := hy.cons
    rw [et_cons, List.append_assoc]
    exact dec_tok hc (by simp [hr]) (dec_soft hy' hr h)
theorem dec_last {c : Nat} (h : Sg c) : Dec (enc c) [c, 10] := by
  rcases enc_cases h with ⟨e, h61⟩ | ⟨a, b, e, hx, _⟩
  · rw [e]; exact .last h61
  · rw [e]; exact .hexlast hx.ha hx.hb hx.hv hx.lt
noncomputable def okc : List Nat := [97, 32, 9, 61, 46, 42, 91, 63, 93, 33, 51, 68, 69, 57, 50, 48]
noncomputable def Ok (r : List Nat) : Prop := ∀ c ∈ r, c ∈ okc
theorem enc_ok {c : Nat} (h : Sg c) (h10 : c ≠ 10) : Ok (enc c) := by
  unfold Sg signs at h
  simp only [List.mem_cons, List.not_mem_nil, or_false] at h
  rcases h with rfl | rfl | rfl | rfl | rfl | rfl | rfl | rfl | rfl | rfl | rfl | rfl
  all_goals first | exact absurd rfl h10 | (unfold Ok; decide)
theorem quo_ok {c : Nat} (h : c = 32 ∨ c = 9) : Ok (quo c) := by
  rcases h with rfl | rfl <;> (unfold Ok; decide)
theorem Ok.app {a b : List Nat} (h : Ok a) (h' : Ok b) : Ok (a ++ b) := fun c hc => (List.mem_append.mp hc).elim (h c) (h' c)
theorem et_ok {y : List Nat} (h : Sl y) : Ok (et y) := fun c hc => by
  obtain ⟨d, hd, hcd⟩ := List.mem_flatMap.mp hc
  exact enc_ok (h d hd).1 (h d hd).2 c hcd
theorem Ok.free {r : List Nat} (h : Ok r) : free r := fun m => absurd (h 10 m) (by decide)
theorem Ok.lt {r : List Nat} (h : Ok r) : ∀ c ∈ r, c < 128 := fun c hc => by
  have := h c hc
  revert this; revert c
  suffices ∀ c ∈ okc, c < 128 from fun c _ hc => this c hc
  decide
noncomputable def lastOk (r : List Nat) : Prop := ∃ c, r.getLast? = some c ∧ c ≠ 32 ∧ c ≠ 9 ∧ c ≠ 10
inductive LOk (M : Nat) : List Nat → List (List Nat) → List (List Nat) → Prop
  | last {r y : List Nat} : (r = [] ∧ y = []) ∨ (Dec r (y ++ [10]) ∧ lastOk r) → r.getLast? ≠ some 61 → r.length ≤ M → Ok r → LOk M y [r] [y ++ [10]]
  | soft {r y₁ y₂ : List Nat} {rows outs : List (List Nat)} : Dec r y₁ → r.getLast? = some 61 → r.length ≤ M → Ok r → y₁ ≠ [] → LOk M y₂ rows outs → LOk M (y₁ ++ y₂) (r :: rows) (y₁ :: outs)
theorem enc_last {c : Nat} (h : Sg c) (h10 : c ≠ 10) (hw : ¬ (c = 32 ∨ c = 9)) : lastOk (enc c) ∧ (enc c).getLast? ≠ some 61 := by
  rcases enc_cases h with ⟨e, h61⟩ | ⟨a, b, e, hx, _⟩
  · rw [e]; exact ⟨⟨c, rfl, fun e => hw (.inl e), fun e => hw (.inr e), h10⟩, by simpa using h61⟩
  · rw [e]; exact ⟨⟨b, rfl, hx.tb⟩, by simpa using hx.nb⟩
theorem getLast_app {a b : List Nat} (h : b ≠ []) : (a ++ b).getLast? = b.getLast? := by
  rw [List.getLast?_append]
  cases e : b.getLast? with
  | none => exact absurd (List.getLast?_eq_none_iff.mp e) h
  | some c => rfl
theorem splitL_free1 {r : List Nat} (h : free r) : splitL r = [r] := by
  have := splitL_joinL (l := [r]) (by simp) (by simpa using h)
  rwa [joinL_one] at this
theorem splitL_two {a b : List Nat} (ha : free a) (hb : free b) : splitL (a ++ 10 :: b) = [a, b] := by
  have := splitL_joinL (l := [a, b]) (by simp) (by intro p hp; simp at hp; rcases hp with rfl | rfl <;> assumption)
  rwa [joinL_cons, joinL_one] at this
theorem tail_ok {M : Nat} (hM : 4 ≤ M) {y : List Nat} (h : Sl y) (hl : ¬ M < (et y).length) : ∃ outs, LOk M y (splitL (tailOf M (et y))) outs := by
  rcases List.eq_nil_or_concat y with rfl | ⟨y', c, rfl⟩
  · refine ⟨[[] ++ [10]], ?_⟩
    show LOk M [] (splitL (tailOf M [])) _
    rw [show tailOf M [] = [] by simp [tailOf], show splitL [] = [[]] from rfl]
    exact .last (.inl ⟨rfl, rfl⟩) (by simp) (by simp) (fun c hc => by cases hc)
  · rw [List.concat_eq_append] at h hl ⊢
    obtain ⟨hy', hcs⟩ := h.app
    have hc := (hcs c (by simp)).1
    have h10 := (hcs c (by simp)).2
    have ee : et (y' ++ [c]) = et y' ++ enc c := by rw [et_append]; simp [et]
    have hne : enc c ≠ [] := by intro e; have := (enc_len hc).1; rw [e] at this; simp at this
    have oky := et_ok hy'
    have okc' := enc_ok hc h10
    rw [ee] at hl ⊢
    by_cases hw : c = 32 ∨ c = 9
    · have e1 : enc c = [c] := by rcases hw with rfl | rfl <;> decide
      rw [e1] at hl ⊢
      have hlen : (et y' ++ [c]).length = (et y').length + 1 := by simp
      have hlast : (et y' ++ [c]).getLast? = some c := by simp
      obtain ⟨a, b, eq, hx⟩ := quo_ws hw
      have hdl : (et y' ++ [c]).dropLast = et y' := List.dropLast_concat
      have hc61 : c ≠ 61 := by rcases hw with rfl | rfl <;> decide
      by_cases h1 : (et y' ++ [c]).length + 2 ≤ M
      · have e2 : tailOf M (et y' ++ [c]) = et y' ++ quo c := by simp only [tailOf, hlast, if_pos hw, if_pos h1, hdl]
        have ok : Ok (et y' ++ quo c) := oky.app (quo_ok hw)
        rw [e2, splitL_free1 ok.free]
        have hq : lastOk (et y' ++ quo c) ∧ (et y' ++ quo c).getLast? ≠ some 61 := by
          rw [lastOk, getLast_app (by rw [eq]; simp), eq]
          exact ⟨⟨b, rfl, hx.tb⟩, by simpa using hx.nb⟩
        refine ⟨_, .last (.inr ⟨?_, hq.1⟩) hq.2 (by rw [eq]; simp at h1 ⊢; lia) ok⟩
        rw [List.append_assoc]
        refine dec_soft hy' (by rw [eq]; simp) ?_
        rw [eq]; exact .hexlast hx.ha hx.hb hx.hv hx.lt
      · by_cases h2 : (et y' ++ [c]).length + 1 = M
        · have e2 : tailOf M (et y' ++ [c]) = (et y' ++ [c, 61]) ++ 10 :: [] := by simp only [tailOf, hlast, if_pos hw, if_neg h1, if_pos h2, hdl]; simp
          have ok : Ok (et y' ++ [c, 61]) := oky.app (by rcases hw with rfl | rfl <;> (unfold Ok; decide))
          rw [e2, splitL_two ok.free (by simp [free])]
          refine ⟨[y' ++ [c], [] ++ [10]], ?_⟩
          have := LOk.soft (M := M) (r := et y' ++ [c, 61]) (y₁ := y' ++ [c]) (y₂ := []) (rows := [[]]) (outs := [[] ++ [10]]) ?_ (by simp) (by simp at h2 ⊢; lia) ok (by simp) (.last (.inl ⟨rfl, rfl⟩) (by simp) (by simp) (fun c hc => by cases hc))
          · rw [List.append_nil] at this; exact this
          · exact dec_soft hy' (by simp) (.ch hc61 (by simp) .soft)
        · have e2 : tailOf M (et y' ++ [c]) = (et y' ++ [61]) ++ 10 :: quo c := by simp only [tailOf, hlast, if_pos hw, if_neg h1, if_neg h2, hdl]; simp
          have ok : Ok (et y' ++ [61]) := oky.app (by unfold Ok; decide)
          have ok2 := quo_ok hw
          rw [e2, splitL_two ok.free ok2.free]
          have hy0 : y' ≠ [] := by
            rintro rfl
            simp [et] at hlen h1 h2 hl
            lia
          refine ⟨_, .soft (y₁ := y') ?_ (by simp) (by simp at hl h1 h2 ⊢; lia) ok hy0 (.last (.inr ⟨?_, ?_⟩) ?_ (by rw [eq]; simp; lia) ok2)⟩
          · have := dec_soft hy' (r := [61]) (o := []) (by simp) .soft
            rw [List.append_nil] at this; exact this
          · rw [eq]; exact .hexlast hx.ha hx.hb hx.hv hx.lt
          · rw [eq]; exact ⟨b, rfl, hx.tb⟩
          · rw [eq]; simpa using hx.nb
    · have hlast : ∃ d, (et y' ++ enc c).getLast? = some d ∧ ¬ (d = 32 ∨ d = 9) := by
        obtain ⟨⟨d, h1, h2, h3, _⟩, _⟩ := enc_last hc h10 hw
        exact ⟨d, by rw [getLast_app hne, h1], by rintro (h | h) <;> simp_all⟩
      obtain ⟨d, hd, hdw⟩ := hlast
      have e2 : tailOf M (et y' ++ enc c) = et y' ++ enc c := by simp only [tailOf, hd, if_neg hdw]
      have ok : Ok (et y' ++ enc c) := oky.app okc'
      rw [e2, splitL_free1 ok.free]
      have hq := enc_last hc h10 hw
      refine ⟨_, .last (.inr ⟨?_, ?_⟩) ?_ (by lia) ok⟩
      · rw [List.append_assoc]
        exact dec_soft hy' hne (dec_last hc)
      · unfold lastOk; rw [getLast_app hne]; exact hq.1
      · rw [getLast_app hne]; exact hq.2
theorem line_ok {M : Nat} (hM : 4 ≤ M) : ∀ (n : Nat) (y : List Nat), y.length ≤ n → Sl y → ∃ outs, LOk M y ((encL M (et y)).flatMap splitL) outs := by
  intro n
  induction n with
  | zero =>
    intro y hn h
    obtain rfl : y = [] := List.length_eq_zero_iff.mp (by lia)
    rw [encL_short (by simp [et])]
    simpa using tail_ok hM h (by simp [et])
  | succ n ih =>
    intro y hn h
    by_cases hl : M < (et y).length
    · obtain ⟨y₁, y₂, rfl, e2, e3, hne⟩ := cut_ok hM h hl
      obtain ⟨h1, h2⟩ := h.app
      have hl1 : 0 < y₁.length := List.length_pos_iff.mpr hne
      obtain ⟨outs, ho⟩ := ih y₂ (by rw [List.length_append] at hn; lia) h2
      rw [encL_long hM hl, e2, e3]
      have ok : Ok (et y₁ ++ [61]) := (et_ok h1).app (by unfold Ok; decide)
      rw [List.flatMap_cons, splitL_free1 ok.free]
      refine ⟨y₁ :: outs, .soft ?_ (by simp) ?_ ok hne ho⟩
      · have := dec_soft h1 (r := [61]) (o := []) (by simp) .soft
        rw [List.append_nil] at this; exact this
      · rw [← e2, List.length_append, List.length_take]
        have := cutAt_pos hM (et (y₁ ++ y₂))
        rw [List.length_singleton]; lia
    · rw [encL_short hl]
      simpa using tail_ok hM h hl
end TIkEnc
section TIkLetter
open PySem PySem.StrLaws PyProof.Rows
set_option maxRecDepth 4000
theorem rstrip_ok {r : List Nat} (h : Ok r) (hl : lastOk r) : Txt.rstrip (mk r) = mk r := by
  obtain ⟨c, hc, h1, h2, _⟩ := hl
  have hs : Unicode.isSpace c = false := by
    have hm := h c (List.mem_of_getLast? hc)
    have key : ∀ c ∈ okc, c ≠ 32 → c ≠ 9 → Unicode.isSpace c = false := by decide +kernel
    exact key c hm h1 h2
  have e : r.reverse.takeWhile Unicode.isSpace = [] := by
    have : r.reverse.head? = some c := by rw [List.head?_reverse, hc]
    cases hr : r.reverse with
    | nil => rfl
    | cons d t =>
      rw [hr] at this
      simp at this
      subst this
      rw [List.takeWhile_cons, hs]; rfl
  unfold Txt.rstrip Txt.stripBy
  rw [if_pos]
  unfold stripSame stripLo stripHi
  simp [e, mk]
theorem getLast_app' {α : Type} {a b : List α} (h : b ≠ []) : (a ++ b).getLast? = b.getLast? := by
  rw [List.getLast?_append]
  cases e : b.getLast? with
  | none => exact absurd (List.getLast?_eq_none_iff.mp e) h
  | some c => rfl
structure RG (M : Nat) (rows outs : List (List Nat)) (n : Nat) : Prop where
  len : outs.length = rows.length
  dec : ∀ (i : Nat) (r o : List Nat), rows[i]? = some r → outs[i]? = some o → (r = [] ∧ o = [10]) ∨ (Dec r o ∧ lastOk r)
  wid : ∀ r ∈ rows, r.length ≤ M ∧ Ok r
  one : ∀ o ∈ outs, o ≠ []
  cnt : rows.countP (fun r => r.getLast? != some 61) = n
theorem RG.nil {M : Nat} : RG M [] [] 0 := ⟨rfl, (fun i r o h => by simp at h), (fun r h => by cases h), (fun o h => by cases h), rfl⟩
theorem RG.app {M : Nat} {rows outs rows' outs' : List (List Nat)} {n m : Nat} (h : RG M rows outs n) (h' : RG M rows' outs' m) : RG M (rows ++ rows') (outs ++ outs') (n + m) := by
  refine ⟨by simp [h.len, h'.len], fun i r o hr ho => ?_, fun r hr => (List.mem_append.mp hr).elim (h.wid r) (h'.wid r), fun o ho => (List.mem_append.mp ho).elim (h.one o) (h'.one o), by rw [List.countP_append, h.cnt, h'.cnt]⟩
  have hl := h.len
  by_cases hi : i < rows.length
  · rw [List.getElem?_append_left hi] at hr
    rw [List.getElem?_append_left (by lia)] at ho
    exact h.dec i r o hr ho
  · rw [List.getElem?_append_right (by lia)] at hr
    rw [List.getElem?_append_right (by lia), hl] at ho
    exact h'.dec _ r o hr ho
theorem LOk.rg {M : Nat} {y : List Nat} {rows outs : List (List Nat)} (h : LOk M y rows outs) : RG M rows outs 1 ∧ outs.flatten = y ++ [10] ∧ (rows.getLast? = some [] → outs.getLast? = some [10]) ∧ rows ≠ [] ∧ outs ≠ [] := by
  induction h with
  | @last r y hd h61 hw hok =>
    refine ⟨⟨rfl, fun i r' o hr ho => ?_, fun r' hr => ?_, fun o ho => ?_, ?_⟩, by simp, fun hl => ?_, by simp, by simp⟩
    · cases i with
      | zero =>
        simp at hr ho
        subst hr ho
        rcases hd with ⟨rfl, rfl⟩ | hd
        · exact .inl ⟨rfl, rfl⟩
        · exact .inr hd
      | succ i => simp at hr
    · simp at hr; subst hr; exact ⟨hw, hok⟩
    · simp at ho; subst ho; simp
    · rw [List.countP_singleton, if_pos (by simpa using h61)]
    · simp at hl
      subst hl
      rcases hd with ⟨_, rfl⟩ | ⟨hd, _⟩
      · rfl
      · exact absurd rfl hd.ne
  | @soft r y₁ y₂ rows outs hd h61 hw hok hne hL ih =>
    obtain ⟨g, hf, hlast, hrne, hone⟩ := ih
    refine ⟨⟨by simp [g.len], fun i r' o hr ho => ?_, fun r' hr => ?_, fun o ho => ?_, ?_⟩, by simp [hf], fun hl => ?_, by simp, by simp⟩
    · cases i with
      | zero =>
        simp at hr ho
        subst hr ho
        exact .inr ⟨hd, 61, h61, by decide, by decide, by decide⟩
      | succ i => exact g.dec i r' o (by simpa using hr) (by simpa using ho)
    · rcases List.mem_cons.mp hr with rfl | hr
      · exact ⟨hw, hok⟩
      · exact g.wid r' hr
    · rcases List.mem_cons.mp ho with rfl | ho
      · exact hne
      · exact g.one o ho
    · rw [List.countP_cons, g.cnt, if_neg (by simpa using h61)]
    · have e1 : (r :: rows).getLast? = rows.getLast? := by cases rows with
        | nil => exact absurd rfl hrne
        | cons a b => simp
      have e2 : (y₁ :: outs).getLast? = outs.getLast? := by cases outs with
        | nil => exact absurd rfl hone
        | cons a b => simp
      rw [e1] at hl; rw [e2]; exact hlast hl
noncomputable def rowsL (M : Nat) (ls : List (List Nat)) : List (List Nat) := ls.flatMap fun y => (encL M (et y)).flatMap splitL
theorem rowsL_ok {M : Nat} (hM : 4 ≤ M) : ∀ (ls : List (List Nat)), (∀ y ∈ ls, Sl y) → ∃ outs, RG M (rowsL M ls) outs ls.length ∧ outs.flatten = (ls.map (· ++ [10])).flatten ∧ ((rowsL M ls).getLast? = some [] → outs.getLast? = some [10])
  | [], _ => ⟨[], .nil, rfl, fun h => by simp [rowsL] at h⟩
  | y :: ls, h => by
    obtain ⟨o1, h1⟩ := line_ok hM _ y (Nat.le_refl _) (h y (by simp))
    obtain ⟨g1, f1, l1, n1, m1⟩ := h1.rg
    obtain ⟨o2, g2, f2, l2⟩ := rowsL_ok hM ls fun z hz => h z (List.mem_cons_of_mem _ hz)
    have e : rowsL M (y :: ls) = (encL M (et y)).flatMap splitL ++ rowsL M ls := by simp [rowsL]
    refine ⟨o1 ++ o2, ?_, by simp [f1, f2], fun hl => ?_⟩
    · rw [e, List.length_cons, Nat.add_comm]; exact g1.app g2
    · rw [e] at hl
      rcases List.eq_nil_or_concat (rowsL M ls) with h0 | ⟨l', a, h0⟩
      · rw [h0, List.append_nil] at hl
        have : o2 = [] := List.length_eq_zero_iff.mp (by rw [g2.len, h0]; rfl)
        rw [this, List.append_nil]; exact l1 hl
      · have hne : rowsL M ls ≠ [] := by rw [h0]; simp
        have hne2 : o2 ≠ [] := by rintro rfl; have := g2.len; rw [h0] at this; simp at this
        rw [getLast_app' hne] at hl
        rw [getLast_app' hne2]; exact l2 hl
theorem joinL_app : ∀ {a b : List (List Nat)}, a ≠ [] → b ≠ [] → joinL (a ++ b) = joinL a ++ 10 :: joinL b
  | [], _, h, _ => absurd rfl h
  | _, [], _, h => absurd rfl h
  | [x], y :: ys, _, _ => by rw [joinL_one]; exact joinL_cons x y ys
  | x :: x' :: xs, y :: ys, _, _ => by
    have := joinL_app (a := x' :: xs) (b := y :: ys) (by simp) (by simp)
    rw [List.cons_append, List.cons_append, joinL_cons, joinL_cons, ← List.cons_append, this]
    simp
theorem flatMap_split_ne : ∀ {l : List (List Nat)}, l ≠ [] → l.flatMap splitL ≠ []
  | [], h => absurd rfl h
  | a :: r, _ => by
    rw [List.flatMap_cons]
    intro e
    exact splitL_ne a (List.append_eq_nil_iff.mp e).1
theorem joinL_split : ∀ (l : List (List Nat)), joinL (l.flatMap splitL) = joinL l
  | [] => rfl
  | [a] => by simp [joinL_splitL, joinL_one]
  | a :: b :: r => by
    have ih := joinL_split (b :: r)
    rw [List.flatMap_cons, joinL_app (splitL_ne a) (flatMap_split_ne (by simp)), ih, joinL_splitL, joinL_cons]
theorem et_joinL : ∀ (l : List (List Nat)), et (joinL l) = joinL (l.map et)
  | [] => rfl
  | [a] => by simp [joinL_one]
  | a :: b :: r => by
    have ih := et_joinL (b :: r)
    rw [joinL_cons, et_append, et_cons, ih]
    exact (joinL_cons (et a) (et b) (r.map et)).symm
theorem sl_of_split {x : List Nat} (h : ∀ c ∈ x, Sg c) : ∀ y ∈ splitL x, Sl y := by
  have key : ∀ (x : List Nat), ∀ y ∈ splitL x, ∀ c ∈ y, c ∈ x := by
    intro x
    induction x with
    | nil => intro y hy c hc; simp [splitL] at hy; subst hy; cases hc
    | cons d r ih =>
      intro y hy c hc
      unfold splitL at hy
      split at hy
      · rcases List.mem_cons.mp hy with rfl | hy
        · cases hc
        · exact List.mem_cons_of_mem _ (ih y hy c hc)
      · split at hy
        · simp at hy; subst hy; simp at hc; subst hc; simp
        · rename_i p ps e
          rcases List.mem_cons.mp hy with rfl | hy
          · rcases List.mem_cons.mp hc with rfl | hc
            · simp
            · exact List.mem_cons_of_mem _ (ih p (by rw [e]; simp) c hc)
          · exact List.mem_cons_of_mem _ (ih y (by rw [e]; simp [hy]) c hc)
  intro y hy c hc
  exact ⟨h c (key x y hy c hc), fun e => splitL_free x y hy (e ▸ hc)⟩
theorem et_tame {x : List Nat} (h : ∀ c ∈ x, Sg c) : Tame (et x) := by
  have key : ∀ c ∈ signs, ∀ d ∈ enc c, (Unicode.isLineBreak d = true ↔ d = 10) := by decide +kernel
  intro d hd
  obtain ⟨c, hc, hcd⟩ := List.mem_flatMap.mp hd
  exact key c (h c hc) d hcd
theorem et_last {x : List Nat} (h : ∀ c ∈ x, Sg c) : (et x).getLast? = some 10 ↔ x.getLast? = some 10 := by
  rcases List.eq_nil_or_concat x with rfl | ⟨x', c, rfl⟩
  · simp [et]
  · rw [List.concat_eq_append] at h ⊢
    have hc : Sg c := h c (by simp)
    have hne : enc c ≠ [] := by intro e; have := (enc_len hc).1; rw [e] at this; simp at this
    have ee : et (x' ++ [c]) = et x' ++ enc c := by rw [et_append]; simp [et]
    rw [ee, getLast_app hne]
    simp only [List.getLast?_append, List.getLast?_singleton, Option.some_or, Option.some.injEq]
    constructor
    · intro e
      by_cases h10 : c = 10
      · exact h10
      · exact absurd (List.mem_of_getLast? e) (enc_ok hc h10).free
    · rintro rfl; decide
theorem et_last13 {x : List Nat} (h : ∀ c ∈ x, Sg c) : (et x).getLast? ≠ some 13 := by
  have key : ∀ c ∈ signs, ∀ d ∈ enc c, d ≠ 13 := by decide +kernel
  intro e
  obtain ⟨c, hc, hcd⟩ := List.mem_flatMap.mp (List.mem_of_getLast? e)
  exact key c (h c hc) 13 hcd rfl
theorem flat_lines : ∀ {l : List (List Nat)}, l ≠ [] → (l.map (· ++ [10])).flatten = joinL l ++ [10]
  | [], h => absurd rfl h
  | [a], _ => by simp [joinL_one]
  | a :: b :: r, _ => by
    have := flat_lines (l := b :: r) (by simp)
    rw [List.map_cons, List.flatten_cons, this, joinL_cons]
    simp
theorem split_count : ∀ (x : List Nat), (splitL x).length = x.count 10 + 1
  | [] => rfl
  | c :: r => by
    have ih := split_count r
    unfold splitL
    split
    · rename_i h; subst h; simp [ih]
    · rename_i h
      split
      · rename_i e; exact absurd e (splitL_ne r)
      · rename_i p ps e
        rw [e] at ih
        rw [List.count_cons_of_ne (fun e => h e), ← ih]; rfl
theorem joinL_last {l' : List (List Nat)} {p : List Nat} (h : p ≠ []) : (joinL (l' ++ [p])).getLast? = p.getLast? := by
  cases l' with
  | nil => rw [List.nil_append, joinL_one]
  | cons a r => rw [joinL_app (by simp) (by simp), joinL_one, getLast_app (by simp)]; cases p with
    | nil => exact absurd rfl h
    | cons => simp
theorem joinL_snil {l : List (List Nat)} (h : l ≠ []) : joinL (l ++ [[]]) = joinL l ++ [10] := by
  rw [joinL_app h (by simp), joinL_one]
theorem dropTail_map' (l : List (List Nat)) (hl : ∀ y ∈ l, Sl y) : dropTail (l.map et) = (dropTail l).map et := by
  unfold dropTail
  rw [List.getLast?_map]
  cases e : l.getLast? with
  | none => simp
  | some p =>
    have hp := hl p (List.mem_of_getLast? e)
    have : et p = [] ↔ p = [] := ⟨et_nil hp, fun e => by subst e; rfl⟩
    simp only [Option.map_some, Option.some.injEq, this]
    split
    · rw [List.map_dropLast]
    · rfl
noncomputable def lsOf (x : List Nat) : List (List Nat) := dropTail (splitL x)
noncomputable def rowsOf (M : Nat) (x : List Nat) : List (List Nat) := rowsL M (lsOf x) ++ if (et x).getLast? = some 10 then [[]] else []
theorem lsOf_sl {x : List Nat} (h : ∀ c ∈ x, Sg c) : ∀ y ∈ lsOf x, Sl y := fun y hy => sl_of_split h y (by
  unfold lsOf dropTail at hy
  split at hy
  · exact List.dropLast_subset _ hy
  · exact hy)
theorem lines_et {x : List Nat} (h : ∀ c ∈ x, Sg c) : Txt.lines (mk (et x)) = ((lsOf x).map et).map mk := by
  rw [Txt_lines (l := (splitL x).map et) (et_tame h) ?_ ?_, dropTail_map' _ (sl_of_split h)]
  · rfl
  · intro p hp
    obtain ⟨y, hy, rfl⟩ := List.mem_map.mp hp
    exact (et_ok (sl_of_split h y hy)).free
  · rw [← et_joinL, joinL_splitL]
theorem rowsOf_chunks {M : Nat} (x : List Nat) : rowsOf M x = (chunks M ((lsOf x).map et) (et x)).flatMap splitL := by
  unfold rowsOf chunks rowsL
  rw [List.flatMap_append, List.flatMap_map, List.flatMap_assoc]
  congr 1
  split
  · rfl
  · rfl
theorem rowsOf_join {M : Nat} (x : List Nat) : joinL (rowsOf M x) = joinL (chunks M ((lsOf x).map et) (et x)) := by
  rw [rowsOf_chunks, joinL_split]
theorem ends {x : List Nat} (hx : x ≠ []) (h : ∀ c ∈ x, Sg c) : (x.getLast? = some 10 ∧ lsOf x ≠ [] ∧ ((lsOf x).map (· ++ [10])).flatten = x ∧ (lsOf x).length = x.count 10) ∨
    (x.getLast? ≠ some 10 ∧ lsOf x ≠ [] ∧ ((lsOf x).map (· ++ [10])).flatten = x ++ [10] ∧ (lsOf x).length = x.count 10 + 1) := by
  have hc := split_count x
  have hj := joinL_splitL x
  have hne := splitL_ne x
  have hf := splitL_free x
  unfold lsOf dropTail
  generalize splitL x = xs at hc hj hne hf
  rcases List.eq_nil_or_concat xs with rfl | ⟨xs', p, rfl⟩
  · exact absurd rfl hne
  rw [List.concat_eq_append] at *
  by_cases hp : p = []
  · subst hp
    have h0 : xs' ≠ [] := by
      rintro rfl
      rw [List.nil_append, joinL_one] at hj
      exact hx hj.symm
    rw [joinL_snil h0] at hj
    left
    rw [if_pos (by simp), List.dropLast_concat]
    refine ⟨by rw [← hj]; simp, h0, by rw [flat_lines h0, hj], ?_⟩
    rw [List.length_append] at hc
    simpa using hc
  · right
    rw [if_neg (by simpa using hp)]
    have hl : x.getLast? = p.getLast? := by rw [← hj, joinL_last hp]
    refine ⟨fun e => ?_, by simp, by rw [flat_lines (by simp), hj], hc⟩
    rw [hl] at e
    exact hf p (by simp) (List.mem_of_getLast? e)
structure Back (M : Nat) (x : List Nat) (outs : List (List Nat)) (total : List Nat) (c : Nat) : Prop where
  hls : Txt.lines (mk (joinL (rowsOf M x))) = (dropTail (rowsOf M x)).map mk
  len : outs.length = (dropTail (rowsOf M x)).length
  dec : ∀ (i : Nat) (r o : List Nat), (dropTail (rowsOf M x))[i]? = some r → outs[i]? = some o → (r = [] ∧ o = [10]) ∨ (Dec r o ∧ Txt.rstrip (mk r) = mk r)
  tot : outs.flatten = total
  last : (joinL (rowsOf M x)).getLast? = some c
  res : (c = 10 ∧ x = total) ∨ (c ≠ 13 ∧ c ≠ 10 ∧ total = x ++ [10])
theorem letter_ok {M : Nat} (hM : 4 ≤ M) {x : List Nat} (hx : x ≠ []) (h : ∀ c ∈ x, Sg c) :
    rowsOf M x ≠ [] ∧ (∀ r ∈ rowsOf M x, r.length ≤ M ∧ Ok r) ∧ (rowsOf M x).length ≤ x.length + 1 ∧ (rowsOf M x).countP (fun r => r.getLast? != some 61) = x.count 10 + 1 ∧ ∃ outs total c, Back M x outs total c := by
  obtain ⟨outs, g, hf, hlast⟩ := rowsL_ok hM (lsOf x) (lsOf_sl h)
  have okk : ∀ r ∈ rowsL M (lsOf x), Ok r := fun r hr => (g.wid r hr).2
  have tame : ∀ l : List (List Nat), (∀ r ∈ l, Ok r) → Tame (joinL l) := by
    have key : ∀ c ∈ okc, Unicode.isLineBreak c = false := by decide +kernel
    have k10 : Unicode.isLineBreak 10 = true := by decide +kernel
    intro l hl c hc
    have : c = 10 ∨ c ∈ okc := by
      clear hf hlast
      induction l with
      | nil => cases hc
      | cons a r ih => cases r with
        | nil => rw [joinL_one] at hc; exact .inr (hl a (by simp) c hc)
        | cons b r =>
          rw [joinL_cons] at hc
          rcases List.mem_append.mp hc with hc | hc
          · exact .inr (hl a (by simp) c hc)
          · rcases List.mem_cons.mp hc with rfl | hc
            · exact .inl rfl
            · exact ih (fun r hr => hl r (List.mem_cons_of_mem _ hr)) hc
    rcases this with rfl | h
    · simp [k10]
    · rw [key c h]
      constructor
      · intro e; cases e
      · rintro rfl; exact absurd h (by decide)
  have lenle : (rowsL M (lsOf x)).length ≤ outs.flatten.length := by
    rw [← g.len]
    have : ∀ o : List (List Nat), (∀ a ∈ o, a ≠ []) → o.length ≤ o.flatten.length := by
      intro o
      induction o with
      | nil => intro _; simp
      | cons a r ih =>
        intro ho
        have h1 := ih fun b hb => ho b (List.mem_cons_of_mem _ hb)
        have h2 := List.length_pos_iff.mpr (ho a (by simp))
        rw [List.flatten_cons, List.length_append, List.length_cons]; lia
    exact this outs g.one
  rcases ends hx h with ⟨h10, hne, hfl, hlen⟩ | ⟨h10, hne, hfl, hlen⟩
  · have hr : rowsOf M x = rowsL M (lsOf x) ++ [[]] := by unfold rowsOf; rw [if_pos ((et_last h).mpr h10)]
    have hd : dropTail (rowsOf M x) = rowsL M (lsOf x) := by rw [hr]; unfold dropTail; rw [if_pos (by simp), List.dropLast_concat]
    have hrne : rowsL M (lsOf x) ≠ [] := by
      intro e
      have : outs = [] := List.length_eq_zero_iff.mp (by rw [g.len, e]; rfl)
      rw [this, hfl] at hf
      exact hx hf.symm
    have hok : ∀ r ∈ rowsOf M x, r.length ≤ M ∧ Ok r := fun r hm => by
      rw [hr] at hm
      rcases List.mem_append.mp hm with hm | hm
      · exact g.wid r hm
      · simp at hm; subst hm; exact ⟨by simp, fun c hc => by cases hc⟩
    refine ⟨by rw [hr]; simp, hok, ?_, ?_, outs, x, 10, ?_⟩
    · rw [hr, List.length_append]
      rw [hf, hfl] at lenle
      simpa using lenle
    · rw [hr, List.countP_append, g.cnt, hlen]; rfl
    · refine ⟨Txt_lines (tame _ fun r hr => (hok r hr).2) (fun r hr => (hok r hr).2.free) rfl, by rw [hd, g.len], fun i r o hr' ho => ?_, by rw [hf, hfl], ?_, .inl ⟨rfl, rfl⟩⟩
      · rw [hd] at hr'
        exact (g.dec i r o hr' ho).imp id fun ⟨a, b⟩ => ⟨a, rstrip_ok (okk r (List.mem_of_getElem? hr')) b⟩
      · rw [hr, joinL_snil hrne]; simp
  · have hr : rowsOf M x = rowsL M (lsOf x) := by unfold rowsOf; rw [if_neg (fun e => h10 ((et_last h).mp e)), List.append_nil]
    have hrne : rowsL M (lsOf x) ≠ [] := by
      intro e
      have : outs = [] := List.length_eq_zero_iff.mp (by rw [g.len, e]; rfl)
      rw [this, hfl] at hf
      simp at hf
    refine ⟨by rw [hr]; exact hrne, by rw [hr]; exact g.wid, ?_, by rw [hr, g.cnt, hlen], ?_⟩
    · rw [hr]
      rw [hf, hfl] at lenle
      simpa using lenle
    rcases List.eq_nil_or_concat (rowsL M (lsOf x)) with e | ⟨R, p, e⟩
    · exact absurd e hrne
    rw [List.concat_eq_append] at e
    have hls := Txt_lines (x := joinL (rowsOf M x)) (l := rowsOf M x) (tame _ fun r hm => okk r (hr ▸ hm)) (fun r hm => (okk r (hr ▸ hm)).free) rfl
    by_cases hp : p = []
    · subst hp
      have ho := hlast (by rw [e]; simp)
      rcases List.eq_nil_or_concat outs with e' | ⟨O, q, e'⟩
      · rw [e'] at ho; cases ho
      rw [List.concat_eq_append] at e'
      have hq : q = [10] := by rw [e'] at ho; simpa using ho
      subst hq
      have hd : dropTail (rowsOf M x) = R := by rw [hr, e]; unfold dropTail; rw [if_pos (by simp), List.dropLast_concat]
      have hO : O.length = R.length := by have := g.len; rw [e, e'] at this; simpa using this
      have hfx : O.flatten = x := by
        rw [e', hfl] at hf
        simpa using hf
      have hRne : R ≠ [] := by
        rintro rfl
        have : O = [] := List.length_eq_zero_iff.mp (by rw [hO]; rfl)
        rw [this] at hfx
        exact hx hfx.symm
      refine ⟨O, x, 10, hls, by rw [hd, hO], fun i r o hr' ho' => ?_, hfx, ?_, .inl ⟨rfl, rfl⟩⟩
      · rw [hd] at hr'
        have hi : i < R.length := by
          rcases Nat.lt_or_ge i R.length with h | h
          · exact h
          · rw [List.getElem?_eq_none h] at hr'; cases hr'
        have hr2 : (rowsL M (lsOf x))[i]? = some r := by rw [e, List.getElem?_append_left hi, hr']
        refine (g.dec i r o hr2 (by rw [e', List.getElem?_append_left (by lia), ho'])).imp id fun ⟨a, b⟩ => ⟨a, rstrip_ok (okk r (List.mem_of_getElem? hr2)) b⟩
      · rw [hr, e, joinL_snil hRne]; simp
    · have hd : dropTail (rowsOf M x) = rowsL M (lsOf x) := by rw [hr, e]; unfold dropTail; rw [if_neg (by simpa using hp)]
      obtain ⟨c, hc⟩ : ∃ c, p.getLast? = some c := ⟨_, List.getLast?_eq_some_getLast hp⟩
      have hcok : c ∈ okc := okk p (by rw [e]; simp) c (List.mem_of_getLast? hc)
      refine ⟨outs, x ++ [10], c, hls, by rw [hd, g.len], fun i r o hr' ho' => ?_, by rw [hf, hfl], by rw [hr, e, joinL_last hp, hc], .inr ⟨?_, ?_, rfl⟩⟩
      · rw [hd] at hr'
        exact (g.dec i r o hr' ho').imp id fun ⟨a, b⟩ => ⟨a, rstrip_ok (okk r (List.mem_of_getElem? hr')) b⟩
      · rintro rfl; exact absurd hcok (by decide)
      · rintro rfl; exact absurd hcok (by decide)
end TIkLetter
section TIkW16
open PySem PySem.StrLaws PySem.Calls PyProof.Rows
set_option maxRecDepth 4000
noncomputable def headL (i : Nat) : List Nat := if i = 0 then [10] else if i = 1 then [61] else [97, 32]
theorem join0_mk : ∀ (w : List Nat), Str.join ⟨#[]⟩ (w.map fun c => mk [c]) = mk w
  | [] => rfl
  | [a] => by simp [Str.join, mk]
  | a :: b :: r => by
    have ih := join0_mk (b :: r)
    show mk [a] ++ ⟨#[]⟩ ++ Str.join ⟨#[]⟩ ((b :: r).map fun c => mk [c]) = _
    rw [ih]
    apply Str.ext'
    apply Array.toList_inj.mp
    simp [Str.cps_append, mk]
theorem len_ones : ∀ u : List Nat, ((u.map fun c => mk [c]).map (·.length)).sum = u.length
  | [] => rfl
  | a :: r => by
    rw [List.map_cons, List.map_cons, List.sum_cons, len_ones r, List.length_cons]
    show 1 + r.length = _
    lia
theorem Txt_join0 (w : List Nat) : Txt.join ⟨#[]⟩ (w.map fun c => mk [c]) = mk w := by
  show Builtin.Str.glued _ _ = _
  rw [glued_eq_join]; exact join0_mk w
section
variable {C : Cx} {A : Around} {σ σ' ρ : Asn} {Q : Value → Asn → Prop} {QF : Flow → Asn → Prop} {mg : Str → Option Value} {L : Lay} {H : Addr} {env : Env} {cc P : Addr}
theorem f_letters {R : Addr} {xs : List Int} (B : Base C mg L) (hR : Room A 3 6) (hl : Has C σ R (lst (zs xs))) (hn : xs.length ≤ 63)
    (h : ∀ D (w : Nat → List Nat), (∀ i, (w i).length ≤ 6 ∧ ∀ c ∈ w i, Sg c) → Q (.ref D) ((D, lst (((List.range 3).map fun i => headL i ++ w i).map sv)) :: σ)) : EC C A (.ref L.aLawLetters) [.ref R] σ Q := by
  have hs : sizeLine = 16777216 := by decide
  refine c_w B.G.nolimit B.fLawLetters (by have := hR.depth; lia) (ll := []) (cs := fun c => [(c + 3, cel none), (c + 2, cel none), (c + 1, cel (some (.ref R)))]) (binds1 (p := "script")) fun c cdv => ?_
  have hR' : Room (A.deeper (fenv "_law_letters" (fnS (stAt 35)) c L.aLawLetters cdv)) 2 3 := hR.deeper _
  have k_script : kC (fenv "_law_letters" (fnS (stAt 35)) c L.aLawLetters cdv) "script" = true := by kernel_rfl
  have k_signs : kC (fenv "_law_letters" (fnS (stAt 35)) c L.aLawLetters cdv) "signs" = true := by kernel_rfl
  have k_heads : kC (fenv "_law_letters" (fnS (stAt 35)) c L.aLawLetters cdv) "heads" = true := by kernel_rfl
  have k_range : kG (fenv "_law_letters" (fnS (stAt 35)) c L.aLawLetters cdv) "range" = true := by kernel_rfl
  walk_at "WALK"
  refine v_list ?_
  walk_at "WALK"
  refine ⟨by simp [hs], fun Hd => ?_⟩
  walk_at "WALK"
  refine v_listcomp [("signs", c + 2), ("script", c + 1), ("heads", c + 3)] hR'.handled ?_
  walk_at "WALK"
  refine f_range1 fun rg => ?_
  refine pi_range1 (n := 3) (Or.inl (by walk_at "MEM")) (by lia) fun it => ?_
  refine ⟨_, _, _, iter_range (a := 0) (c := 1) (n := 3), fun i ys τ => ∃ w : Nat → List Nat, (∀ i, (w i).length ≤ 6 ∧ ∀ c ∈ w i, Sg c) ∧ ys = ((List.range i).map fun i => headL i ++ w i).map sv ∧
    τ = (c, ns []) :: (c + 1, cel (some (.ref R))) :: (c + 2, cel (some (sv signs))) :: (c + 3, cel (some (.ref Hd))) :: (Hd, lst [sv [10], sv [61], sv [97, 32]]) :: σ, ⟨_, ?_, fun _ => [], by simp, rfl, rfl⟩, ?_, ?_, ?_⟩
  · walk_at "WEAK"
  · rintro i ys τ p q hi ⟨w, hw, rfl, rfl⟩
    refine ⟨trivial, ?_⟩
    rw [rints_length] at hi
    simp
    lia
  · rintro i v ys τ D2 Lc hv ⟨w, hw, rfl, rfl⟩
    obtain ⟨rfl, hi⟩ := rints_get hv
    rw [show (0 : Int) + (i : Int) * 1 = (i : Int) by lia]
    walk_at "WALK"
    refine ts_nil ?_
    walk_at "ITE"
    refine ite_t rfl ?_
    walk_at "WALK"
    refine i_list (xs := [sv [10], sv [61], sv [97, 32]]) (v := sv (headL i)) (Or.inl (by walk_at "MEM")) (by lia) (by lia) (by
      have : i = 0 ∨ i = 1 ∨ i = 2 := by lia
      rcases this with rfl | rfl | rfl <;> rfl) ?_
    walk_at "WALK"
    refine v_listcomp [("signs", c + 2)] hR'.handled ?_
    walk_at "WALK"
    refine q_lh (xs := zs xs) (b := 18) (by repeat (first | exact hl | refine Has.up ?_)) (by simp [zs]; lia) rfl fun D1 => ?_
    walk_at "WALK"
    refine q_any (xs := (zs xs).take 18) (a := i) (k := 3) (Or.inl (by walk_at "MEM")) (by simp [zs]; lia) rfl (by lia) fun D3 vs hvs hvl => ?_
    have hvl6 : vs.length ≤ 6 := by
      have : ((zs xs).take 18).length ≤ 18 := by simp; lia
      lia
    refine pi_list (xs := vs) (Or.inl (by walk_at "MEM")) fun it2 => ?_
    refine ⟨_, _, _, iter_list (l := D3) (xs := vs), fun (j : Nat) (zs' : List Value) (τ : Asn) => ∃ u : List Nat, u.length = j ∧ (∀ c ∈ u, Sg c) ∧ zs' = u.map (fun c => sv [c]) ∧
      τ = (D3, lst vs) :: (it, rit (0 + ((i + 1 : Nat) : Int) * 1) ((3 : Nat) - ((i + 1 : Nat) : Int)) 1) :: (Lc, ns [("i", .int i 0)]) :: (D2, lst (((List.range i).map fun i => headL i ++ w i).map sv)) :: (c, ns []) :: (c + 1, cel (some (.ref R))) :: (c + 2, cel (some (sv signs))) :: (c + 3, cel (some (.ref Hd))) :: (Hd, lst [sv [10], sv [61], sv [97, 32]]) :: σ, ⟨_, ?_, [], rfl, by simp, rfl, rfl⟩, ?_, ?_, ?_⟩
    · walk_at "WEAK"
    · rintro j ys τ p q hj ⟨u, hu1, hu2, rfl, rfl⟩
      refine ⟨(Or.inl (by walk_at "MEM")), ?_⟩
      rw [List.length_map]
      lia
    · rintro j v ys τ D4 Lc2 hv2 ⟨u, hu1, hu2, rfl, rfl⟩
      obtain ⟨x, rfl⟩ : ∃ x : Int, v = .int x 0 := by
        have := List.mem_of_mem_take (hvs v (List.mem_of_getElem? hv2))
        simp only [zs, List.mem_map] at this
        obtain ⟨x, _, rfl⟩ := this
        exact ⟨x, rfl⟩
      walk_at "WALK"
      refine ts_nil ?_
      walk_at "ITE"
      refine ite_t rfl ?_
      walk_at "WALK"
      refine o_mod (by decide) ?_
      walk_at "WALK"
      have hm0 : 0 ≤ x.fmod 12 := PySem.W.fmod_lo x (by decide)
      have hm1 : x.fmod 12 < 12 := PySem.W.fmod_hi x (by decide)
      have hlt : (x.fmod 12).toNat < signs.length := by show _ < 12; lia
      refine g_atc (l := signs) (a := (x.fmod 12).toNat) (c := signs[(x.fmod 12).toNat]) (by decide) (by lia) (List.getElem?_eq_getElem hlt) ?_
      walk_at "WALK"
      refine ⟨_, ?_, u ++ [signs[(x.fmod 12).toNat]], by simp [hu1], ?_, by simp, rfl⟩
      · walk_at "WEAK"
      · intro c hc
        rcases List.mem_append.mp hc with h | h
        · exact hu2 c h
        · rw [List.mem_singleton] at h
          rw [h]; exact List.getElem_mem _
    · rintro ys τ D4 _ ⟨u, hu1, hu2, rfl, rfl⟩
      have htx : u.map (fun c => sv [c]) = txs (u.map fun c => mk [c]) := by simp [txs, Function.comp_def]
      rw [htx]
      walk_at "WALK"
      refine f_join (ys := u.map fun c => mk [c]) (Or.inl (by walk_at "MEM")) ?_ ?_
      · rw [len_ones, List.length_map]
        have : (Str.ofString "").length = 0 := rfl
        rw [this]; lia
      rw [show (Str.ofString "") = ⟨#[]⟩ from rfl, Txt_join0]
      walk_at "WALK"
      have hu6 : u.length ≤ 6 := by lia
      have hhl : (headL i).length ≤ 2 := by unfold headL; split <;> (try split) <;> simp
      refine o_adds (l := headL i) (m := u) (by lia) ?_
      walk_at "WALK"
      refine ⟨_, ?_, fun k => if k = i then u else w k, ?_, ?_, rfl⟩
      · walk_at "WEAK"
      · intro k
        dsimp only
        split
        · exact ⟨hu6, hu2⟩
        · exact hw k
      · rw [List.range_succ, List.map_append, List.map_append]
        congr 1
        · congr 1
          refine List.map_congr_left fun k hk => ?_
          have hki : k ≠ i := by have := List.mem_range.mp hk; lia
          show headL k ++ w k = headL k ++ (if k = i then u else w k)
          rw [if_neg hki]
        · simp
  · rintro ys τ D2 _ ⟨w, hw, rfl, rfl⟩
    rw [rints_length]
    walk_at "WALK"
    refine ⟨_, ?_, h D2 w hw⟩
    walk_at "WEAK"
end
end TIkW16
section TIkW6
open PySem PySem.Calls PyProof.Rows
set_option maxRecDepth 4000
theorem endswith_nl (l : List Nat) : Txt.endswith ⟨(l ++ [10]).toArray⟩ ⟨#[10]⟩ = true := by
  have e : ({ cps := (l ++ [10]).toArray } : Str) = { cps := l.toArray } ++ { cps := #[10] } := (append_mk l [10]).symm
  exact (congrArg (fun z => Txt.endswith z ⟨#[10]⟩) e).trans (PySem.W.KT.ends_app _ _)
section
variable {C : Cx} {A : Around} {σ σ' : Asn} {Q : Value → Asn → Prop} {QF : Flow → Asn → Prop} {mg : Str → Option Value} {L : Lay}
theorem f_decode {enc0 : List Nat} {ls outs : List (List Nat)} {total res : List Nat} {c : Nat} (hls : Txt.lines ⟨enc0.toArray⟩ = ls.map fun l => ⟨l.toArray⟩) (hlc : (lineCuts ⟨enc0.toArray⟩).length ≤ sizeLine)
    (hz : enc0.length ≤ 10000) (hlen : outs.length = ls.length) (hd : ∀ (i : Nat) (line o : List Nat), ls[i]? = some line → outs[i]? = some o → line.length ≤ 3000 ∧ ((line = [] ∧ o = [10]) ∨ (Dec line o ∧ Txt.rstrip ⟨line.toArray⟩ = ⟨line.toArray⟩)))
    (htot : outs.flatten = total) (htz : total.length ≤ 10000) (hlast : enc0.getLast? = some c) (hres : (c = 10 ∧ res = total) ∨ (c ≠ 13 ∧ c ≠ 10 ∧ total = res ++ [10]))
    (B : Base C mg L) (hR : Room A 5 8) (h : Q (sv res) σ) : EC C A (.ref L.aDecode) [sv enc0] σ Q := by
  have hs : sizeLine = 16777216 := by decide
  have hne : enc0.isEmpty = false := by cases enc0 with
    | nil => cases hlast
    | cons => rfl
  refine c_w B.G.nolimit B.fDecode (by have := hR.depth; lia) (ll := [("eol", sv [10]), ("encoded", sv enc0)]) (cs := fun _ => []) (binds1d (T := L.dDecode) (p := "encoded") (r := "eol") (x := sv [10]) B.mDecode) fun a cdv => ?_
  have hR' : Room (A.deeper (fenv "decode" (fnS (stAt 21)) a L.aDecode cdv)) 4 5 := hR.deeper _
  have k_i : kL (fenv "decode" (fnS (stAt 21)) a L.aDecode cdv) "i" = true := by kernel_rfl
  have k_n : kL (fenv "decode" (fnS (stAt 21)) a L.aDecode cdv) "n" = true := by kernel_rfl
  have k_line : kL (fenv "decode" (fnS (stAt 21)) a L.aDecode cdv) "line" = true := by kernel_rfl
  have k_decoded : kL (fenv "decode" (fnS (stAt 21)) a L.aDecode cdv) "decoded" = true := by kernel_rfl
  have k_eol : kL (fenv "decode" (fnS (stAt 21)) a L.aDecode cdv) "eol" = true := by kernel_rfl
  have k_encoded : kL (fenv "decode" (fnS (stAt 21)) a L.aDecode cdv) "encoded" = true := by kernel_rfl
  have k_len : kG (fenv "decode" (fnS (stAt 21)) a L.aDecode cdv) "len" = true := by kernel_rfl
  walk_at "WALK"
  refine b_sv (by lia) ?_
  walk_at "ITE"
  simp only [hne, Bool.not_false, Bool.not_true, Bool.false_eq_true, if_false]
  walk_at "WALK"
  refine s_for hR'.handled ?_
  walk_at "WALK"
  refine f_splitlines (by simpa [Str.length] using by lia) hlc fun D => ?_
  have hls' : txs (Txt.lines ⟨enc0.toArray⟩) = ls.map sv := by rw [hls]; simp [txs, Function.comp_def]
  rw [hls']
  refine pi_list (Or.inl (by walk_at "MEM")) fun it => ?_
  refine ⟨_, _, _, iter_list (l := D) (xs := ls.map sv), fun (i : Nat) (τ : Asn) => τ = (a, ns [("decoded", sv (outs.take i).flatten), ("encoded", sv enc0), ("eol", sv [10])]) :: (D, lst (ls.map sv)) :: σ, ⟨_, ?_, rfl⟩, ?_, ?_, ?_⟩
  · walk_at "WEAK"
  · rintro i τ rfl; exact (Or.inl (by walk_at "MEM"))
  · rintro i v τ hv rfl
    obtain ⟨line, hline, rfl⟩ : ∃ line, ls[i]? = some line ∧ sv line = v := by simpa [List.getElem?_map] using hv
    have hi : i < outs.length := by
      have := (List.getElem?_eq_some_iff.mp hline).1
      lia
    obtain ⟨hlz, hdl⟩ := hd i line outs[i] hline (List.getElem?_eq_getElem hi)
    have hacc : ((outs.take i).flatten ++ outs[i]) = (outs.take (i + 1)).flatten := by rw [List.take_add_one, List.getElem?_eq_getElem hi, List.flatten_append]; simp
    have haz : ((outs.take (i + 1)).flatten).length ≤ 10000 := by
      rw [← htot, ← List.take_append_drop (i + 1) outs, List.flatten_append, List.length_append] at htz
      lia
    have haz2 : ((outs.take i).flatten).length + outs[i].length ≤ 10000 := by rw [← hacc, List.length_append] at haz; exact haz
    walk_at "WALK"
    refine f_rstrip (by simpa [Str.length] using by lia) ?_
    walk_at "WALK"
    rcases hdl with ⟨rfl, ho⟩ | ⟨hdec, hrs⟩
    · rw [show Txt.rstrip ⟨([] : List Nat).toArray⟩ = ⟨([] : List Nat).toArray⟩ by decide +kernel]
      refine b_sv (by simp) ?_
      walk_at "ITE"
      simp only [List.isEmpty_nil, Bool.not_true, Bool.not_false, if_true]
      walk_at "WALK"
      rw [ho] at hacc haz2
      refine o_iadds (m := [10]) (by rw [List.length_singleton] at *; lia) ?_
      walk_at "WALK"
      rw [hacc]
      refine ⟨_, ?_, rfl⟩
      walk_at "WEAK"
    · rw [hrs]
      refine b_sv (by lia) ?_
      have hle : line.isEmpty = false := by cases line with
        | nil => exact absurd rfl hdec.ne
        | cons => rfl
      walk_at "ITE"
      simp only [hle, Bool.not_false, Bool.not_true, Bool.false_eq_true, if_false]
      walk_at "WALK"
      refine f_len_str (by simp [Str.length]; lia) ?_
      walk_at "WALK"
      refine ES.wk (dec_while (a := a) (D := D) (it := it) (i := i + 1) (lsv := ls.map sv) (σ := σ) (acc0 := (outs.take i).flatten) (enc0 := enc0) (line := line) (total := outs[i]) B ⟨hR'.handled, by have := hR'.depth; lia, by have := hR'.units; lia⟩ hlz (by lia) hdec (by lia) ?_) ?_
      · walk_at "WALK"
        rw [hacc]
        refine ⟨_, ?_, rfl⟩
        walk_at "WEAK"
      · walk_at "WEAK"
  · rintro τ rfl
    rw [List.length_map, ← hlen, List.take_length, htot]
    walk_at "WALK"
    refine g_last (by lia) rfl hlast ?_
    walk_at "WALK"
    refine o_nic (l := [13, 10]) ?_
    walk_at "WALK"
    rcases hres with ⟨rfl, rfl⟩ | ⟨h13, h10, rfl⟩
    · walk_at "ITE"
      first | refine ite_n (by decide) ?_ | refine ite_n (by simp) ?_
      walk_at "ITE"
      first | refine ite_n (by decide) ?_ | refine ite_n (by simp) ?_
      walk_at "WALK"
      refine ⟨_, ?_, h⟩
      walk_at "WEAK"
    · walk_at "ITE"
      refine ite_t (by simp [h13, h10]) ?_
      walk_at "WALK"
      refine f_endswith ?_
      rw [endswith_nl]
      walk_at "WALK"
      refine ite_t rfl ?_
      walk_at "WALK"
      refine ite_t rfl ?_
      walk_at "WALK"
      refine f_len_str (by simp [Str.length]) ?_
      walk_at "WALK"
      refine q_hm1 (by lia) rfl ?_
      rw [List.dropLast_concat]
      walk_at "WALK"
      refine ⟨_, ?_, h⟩
      walk_at "WEAK"
end
end TIkW6
section TIkW17
open PySem PySem.StrLaws PySem.Calls PyProof.Rows
set_option maxRecDepth 4000
theorem joinL_len {M : Nat} : ∀ {l : List (List Nat)}, (∀ r ∈ l, r.length ≤ M) → (joinL l).length ≤ l.length * (M + 1)
  | [], _ => by simp [joinL_nil]
  | [a], h => by rw [joinL_one]; have := h a (by simp); simp; lia
  | a :: b :: r, h => by
    have ih := joinL_len (l := b :: r) fun q hq => h q (List.mem_cons_of_mem _ hq)
    have ha := h a (by simp)
    rw [joinL_cons, List.length_append, List.length_cons, List.length_cons (a := a), Nat.add_mul]
    lia
theorem cnt_count (c : Nat) (x : List Nat) : Txt.count (mk x) ⟨#[c]⟩ = ((x.count c : Nat) : Int) := by
  rw [count_cnt]
  show PyProof.Rows.cnt c x = _
  induction x with
  | nil => rfl
  | cons a r ih =>
    rw [cnt_cons, ih, List.count_cons]
    by_cases h : a = c
    · walk_at "ITE"
      rw [if_pos h, if_pos (by simpa using h)]; lia
    · walk_at "ITE"
      rw [if_neg h, if_neg (by simpa using h)]; lia
structure LetOk (rs : List (List (List Nat))) (M j : Nat) (x : List Nat) : Prop where
  hM : 4 ≤ M
  hM' : M ≤ 8
  hx : x ≠ []
  sg : ∀ c ∈ x, Sg c
  few : x.length ≤ 8
  rows : rowsJ rs j = rowsOf M x
section
variable {C : Cx} {A : Around} {σ σ' ρ : Asn} {Q : Value → Asn → Prop} {QF : Flow → Asn → Prop} {mg : Str → Option Value} {L : Lay} {H : Addr} {env : Env} {cc P : Addr}
theorem f_back {rs : List (List (List Nat))} {M j : Nat} {x : List Nat} {R : Addr} (B2 : Base2 C mg L cc P) (hR : Room A 7 24) (hP : Up P tabR tabR σ σ) (hj : j < 3) (ho : LetOk rs M j x) (hne : ∀ i < 3, 0 < cnt rs i)
    (hfew : (linesA' rs).length ≤ 1000) (hln : ∀ l ∈ linesA' rs, 3 ≤ l.length ∧ l.length ≤ 200 ∧ ∀ c ∈ l, c < 128) (hl : Has C σ R (lst ((linesA' rs).map sv)))
    (h : Q (.bool true) σ) : EC C A (.ref L.aLawComesBack) [sv x, sv (quo (200 + j)), .int M 0, .ref R] σ Q := by
  have hs : sizeLine = 16777216 := by decide
  have B := B2.toBase
  obtain ⟨hM, hM', hx, hsg, hxf, hrows⟩ := ho
  obtain ⟨l1, l2, l3, l4, outs, total, ch, hback⟩ := letter_ok hM hx hsg
  rw [quo_cI hj]
  refine c_w B.G.nolimit B.fLawComesBack (by have := hR.depth; lia) (ll := [("lines", .ref R), ("name", sv [61, 67, cI j]), ("letter", sv x)]) (cs := fun c => [(c + 1, cel (some (.int M 0)))]) (binds4 (p := "letter") (q := "name") (r := "length") (o := "lines")) fun c cdv => ?_
  have hR' : Room (A.deeper (fenv "_law_comes_back" (fnS (stAt 40)) c L.aLawComesBack cdv)) 6 21 := hR.deeper _
  have k_letter : kL (fenv "_law_comes_back" (fnS (stAt 40)) c L.aLawComesBack cdv) "letter" = true := by kernel_rfl
  have k_name : kL (fenv "_law_comes_back" (fnS (stAt 40)) c L.aLawComesBack cdv) "name" = true := by kernel_rfl
  have k_lines : kL (fenv "_law_comes_back" (fnS (stAt 40)) c L.aLawComesBack cdv) "lines" = true := by kernel_rfl
  have k_mine : kL (fenv "_law_comes_back" (fnS (stAt 40)) c L.aLawComesBack cdv) "mine" = true := by kernel_rfl
  have k_soft : kL (fenv "_law_comes_back" (fnS (stAt 40)) c L.aLawComesBack cdv) "soft" = true := by kernel_rfl
  have k_bare : kL (fenv "_law_comes_back" (fnS (stAt 40)) c L.aLawComesBack cdv) "bare" = true := by kernel_rfl
  have k_length : kC (fenv "_law_comes_back" (fnS (stAt 40)) c L.aLawComesBack cdv) "length" = true := by kernel_rfl
  have k__law_lines : kG (fenv "_law_comes_back" (fnS (stAt 40)) c L.aLawComesBack cdv) "_law_lines" = true := by kernel_rfl
  have k_decode : kG (fenv "_law_comes_back" (fnS (stAt 40)) c L.aLawComesBack cdv) "decode" = true := by kernel_rfl
  have k_len : kG (fenv "_law_comes_back" (fnS (stAt 40)) c L.aLawComesBack cdv) "len" = true := by kernel_rfl
  have pj : ∀ s ∈ ahC j, plainS s := by
    have : j = 0 ∨ j = 1 ∨ j = 2 := by lia
    intro s hs
    simp only [ahC, List.mem_cons, List.not_mem_nil, or_false] at hs
    rcases hs with rfl | rfl | rfl
    · exact ⟨by simp [okS], by simp [partS]⟩
    · exact ⟨by simp [okS], by simp [partS]⟩
    · refine ⟨?_, by simp [partS]⟩
      show cI j ∈ [61, 67, 56, 57, 65]
      rcases this with rfl | rfl | rfl <;> decide
  have nobr : ∀ (be : List Sg2) (d : List Sg2) (b : Bool) (r : List Sg2), (be = [] ∨ be = [.ch 61]) → ahC j ++ .star :: be = d ++ .br b 7 :: r → d = [.ch 61, .ch 67] ∧ r = [.star] := by
    intro be d b r hbe e
    have hm : Sg2.br b 7 ∈ ahC j ++ .star :: be := by rw [e]; simp
    rcases hbe with rfl | rfl <;> simp at hm
  walk_at "WALK"
  refine o_adds (l := [61, 67, cI j]) (m := [42]) (by simp [hs]) ?_
  walk_at "WALK"
  rw [show sv ([61, 67, cI j] ++ [42]) = sv (patS (ahC j ++ .star :: [])) from rfl]
  refine f_lines (ah := ahC j) (be := []) B2 ⟨hR'.handled, by have := hR'.depth; lia, by have := hR'.units; lia⟩ (.there (.there hP)) rfl (by simp) pj (by simp) (fun d b r e => nobr [] d b r (.inl rfl) e) (by simp [patS, txtS]) (by repeat (first | exact hl | refine Has.up ?_)) hfew hln fun D1 => ?_
  rw [mine_eq hne hj, hrows]
  walk_at "WALK"
  refine o_adds (l := [61, 67, cI j]) (m := [42, 61]) (by simp [hs]) ?_
  walk_at "WALK"
  rw [show sv ([61, 67, cI j] ++ [42, 61]) = sv (patS (ahC j ++ .star :: [.ch 61])) from rfl]
  refine f_lines (ah := ahC j) (be := [.ch 61]) B2 ⟨hR'.handled, by have := hR'.depth; lia, by have := hR'.units; lia⟩ (.there (.there (.there hP))) rfl (by simp) pj ?_ (fun d b r e => nobr [.ch 61] d b r (.inr rfl) e) (by simp [patS, txtS]) (by repeat (first | exact hl | refine Has.up ?_)) hfew hln fun D2 => ?_
  · intro s hs
    simp only [List.mem_singleton] at hs
    subst hs
    exact ⟨by simp [okS], by simp [partS]⟩
  rw [soft_eq hne hj, hrows]
  walk_at "WALK"
  refine s_assign_comp [] hR'.handled ?_
  walk_at "WALK"
  have hmz : ((rowsOf M x).map fun r => 61 :: 67 :: cI j :: r).length ≤ 10 := by rw [List.length_map]; lia
  refine pi_list (xs := ((rowsOf M x).map fun r => 61 :: 67 :: cI j :: r).map sv) (Or.inl (by walk_at "MEM")) fun it => ?_
  refine ⟨_, _, _, iter_list (l := D1) (xs := ((rowsOf M x).map fun r => 61 :: 67 :: cI j :: r).map sv), fun (i : Nat) (ys : List Value) (τ : Asn) => ys = ((rowsOf M x).take i).map sv ∧
    τ = (D1, lst (((rowsOf M x).map fun r => 61 :: 67 :: cI j :: r).map sv)) :: (D2, lst ((((rowsOf M x).filter fun r => r.getLast? == some 61).map fun r => 61 :: 67 :: cI j :: r).map sv)) :: (c, ns [("soft", .ref D2), ("mine", .ref D1), ("lines", .ref R), ("name", sv [61, 67, cI j]), ("letter", sv x)]) :: (c + 1, cel (some (.int M 0))) :: σ, ⟨_, ?_, by simp, rfl⟩, ?_, ?_, ?_⟩
  · walk_at "WEAK"
  · rintro i ys τ p q hi ⟨rfl, rfl⟩
    refine ⟨(Or.inl (by walk_at "MEM")), ?_⟩
    rw [List.length_map, List.length_take]
    lia
  · rintro i v ys τ D3 Lc hv ⟨rfl, rfl⟩
    obtain ⟨r, hr, rfl⟩ : ∃ r, (rowsOf M x)[i]? = some r ∧ sv (61 :: 67 :: cI j :: r) = v := by simpa [List.getElem?_map] using hv
    have hrz := (l2 r (List.mem_of_getElem? hr)).1
    walk_at "WALK"
    refine ts_nil ?_
    walk_at "ITE"
    refine ite_t rfl ?_
    walk_at "WALK"
    refine q_n (l := 61 :: 67 :: cI j :: r) (a := 3) (by simp only [List.length_cons]; lia) rfl ?_
    walk_at "WALK"
    refine ⟨_, ?_, ?_, rfl⟩
    · walk_at "WEAK"
    · rw [List.take_add_one, hr]; simp
  · rintro ys τ D3 Lc ⟨rfl, rfl⟩
    rw [List.length_map, List.length_map, List.take_length]
    walk_at "WALK"
    refine ⟨_, _, _, rfl, ?_⟩
    walk_at "WALK"
    have hrl : (rowsOf M x).length ≤ 10 := by lia
    refine v_listcomp [("length", c + 1)] hR'.handled ?_
    walk_at "WALK"
    refine pi_list (xs := (rowsOf M x).map sv) (Or.inl (by walk_at "MEM")) fun it2 => ?_
    refine ⟨_, _, _, iter_list (l := D3) (xs := (rowsOf M x).map sv), fun (i : Nat) (ys : List Value) (τ : Asn) => ys = [] ∧
      τ = (D3, lst ((rowsOf M x).map sv)) :: (D1, lst (((rowsOf M x).map fun r => 61 :: 67 :: cI j :: r).map sv)) :: (D2, lst ((((rowsOf M x).filter fun r => r.getLast? == some 61).map fun r => 61 :: 67 :: cI j :: r).map sv)) :: (c, ns [("bare", .ref D3), ("soft", .ref D2), ("mine", .ref D1), ("letter", sv x)]) :: (c + 1, cel (some (.int M 0))) :: σ, ⟨_, ?_, rfl, rfl⟩, ?_, ?_, ?_⟩
    · walk_at "WEAK"
    · rintro i ys τ p q hi ⟨rfl, rfl⟩
      exact ⟨(Or.inl (by walk_at "MEM")), by simp⟩
    · rintro i v ys τ D4 Lc hv ⟨rfl, rfl⟩
      obtain ⟨r, hr, rfl⟩ : ∃ r, (rowsOf M x)[i]? = some r ∧ sv r = v := by simpa [List.getElem?_map] using hv
      have hrz := (l2 r (List.mem_of_getElem? hr)).1
      walk_at "WALK"
      refine ts_one ?_
      walk_at "WALK"
      refine f_len_str (by simp [Str.length]; lia) ?_
      walk_at "WALK"
      refine ite_n (by simp [Str.length]; lia) ?_
      walk_at "WALK"
      refine ⟨_, ?_, rfl, rfl⟩
      walk_at "WEAK"
    · rintro ys τ D4 _ ⟨rfl, rfl⟩
      walk_at "WALK"
      refine v_list ?_
      walk_at "WALK"
      refine ⟨by simp, fun D5 => ?_⟩
      refine o_ne0 (xs := []) (by have := hR'.units; lia) (Or.inl (by walk_at "MEM")) (Or.inl (by walk_at "MEM")) ?_
      walk_at "WALK"
      first | refine ite_n (by decide) ?_ | refine ite_n (by simp) ?_
      walk_at "WALK"
      refine v_and ?_
      walk_at "WALK"
      have htx : (rowsOf M x).map sv = txs ((rowsOf M x).map mk) := by simp [txs, Function.comp_def]
      rw [htx]
      have hsum : (((rowsOf M x).map mk).map (·.length)).sum ≤ (rowsOf M x).length * 8 := by
        have : ∀ l : List (List Nat), (∀ r ∈ l, r.length ≤ 8) → ((l.map mk).map (·.length)).sum ≤ l.length * 8 := by
          intro l
          induction l with
          | nil => intro _; simp
          | cons a t ih =>
            intro hl
            have h1 := ih fun r hr => hl r (List.mem_cons_of_mem _ hr)
            have h2 := hl a (by simp)
            rw [List.map_cons, List.map_cons, List.sum_cons, List.length_cons, Nat.add_mul]
            have : (mk a).length = a.length := by simp [Str.length]
            lia
        exact this _ fun r hr => Nat.le_trans (l2 r hr).1 hM'
      refine f_join (ys := (rowsOf M x).map mk) (Or.inl (by walk_at "MEM")) (by rw [List.length_map]; have : (Str.ofString "\n").length = 1 := rfl; rw [this]; lia) ?_
      rw [show (Str.ofString "\n") = ⟨#[10]⟩ from rfl, Txt_join]
      walk_at "WALK"
      have hjl : (joinL (rowsOf M x)).length ≤ 100 := by
        have h1 := joinL_len (M := M) (l := rowsOf M x) fun r hr => (l2 r hr).1
        have h2 : (rowsOf M x).length * (M + 1) ≤ 10 * 9 := Nat.mul_le_mul hrl (by lia)
        lia
      have htot : total.length ≤ 10 := by
        rcases hback.res with ⟨_, e⟩ | ⟨_, _, e⟩
        · rw [← e]; lia
        · rw [e]; simp; lia
      have hcuts : (lineCuts ⟨(joinL (rowsOf M x)).toArray⟩).length ≤ sizeLine := by
        have h1 := lineCuts_le (⟨(joinL (rowsOf M x)).toArray⟩ : Str)
        have h2 : (⟨(joinL (rowsOf M x)).toArray⟩ : Str).length = (joinL (rowsOf M x)).length := by simp [Str.length]
        lia
      refine f_decode (ls := dropTail (rowsOf M x)) (outs := outs) (total := total) (res := x) (c := ch) hback.hls hcuts (by lia) hback.len ?_ hback.tot (by lia) hback.last hback.res B ⟨hR'.handled, by have := hR'.depth; lia, by have := hR'.units; lia⟩ ?_
      · intro i line o hi ho
        refine ⟨?_, hback.dec i line o hi ho⟩
        have hm : line ∈ rowsOf M x := by
          have := List.mem_of_getElem? hi
          unfold dropTail at this
          split at this
          · exact List.dropLast_subset _ this
          · exact this
        have := (l2 line hm).1
        lia
      walk_at "WALK"
      refine o_eq_str ?_
      rw [show (({ cps := x.toArray } : Str) == { cps := x.toArray }) = true by simp]
      walk_at "WALK"
      refine ite_t rfl ?_
      refine v_bone ?_
      walk_at "WALK"
      refine f_len_list (xs := ((rowsOf M x).map fun r => 61 :: 67 :: cI j :: r).map sv) (Or.inl (by walk_at "MEM")) (by rw [List.length_map]; lia) ?_
      walk_at "WALK"
      have hsz2 : ((((rowsOf M x).filter fun r => r.getLast? == some 61).map fun r => 61 :: 67 :: cI j :: r).map sv).length ≤ 10 := by
        rw [List.length_map, List.length_map]
        have := List.length_filter_le (fun r : List Nat => r.getLast? == some 61) (rowsOf M x)
        lia
      refine f_len_list (xs := (((rowsOf M x).filter fun r => r.getLast? == some 61).map fun r => 61 :: 67 :: cI j :: r).map sv) (Or.inl (by walk_at "MEM")) (by lia) ?_
      walk_at "WALK"
      refine f_count ?_
      walk_at "WALK"
      have hfin : ((((((rowsOf M x).map fun r => 61 :: 67 :: cI j :: r).map sv).length : Nat) : Int) - (((((rowsOf M x).filter fun r => r.getLast? == some 61).map fun r => 61 :: 67 :: cI j :: r).map sv).length : Nat) == ((Txt.count ⟨x.toArray⟩ ⟨#[10]⟩ : Int) + 1)) = true := by
        rw [List.length_map, List.length_map, List.length_map, List.length_map, soft_len, l4, cnt_count]
        simp
      rw [hfin]
      walk_at "WALK"
      refine ⟨_, ?_, h⟩
      walk_at "WEAK"
end
end TIkW17
section TIkW18
open PySem PySem.StrLaws PySem.Calls PyProof.Rows
set_option maxRecDepth 4000
theorem joinL_ge : ∀ (l : List (List Nat)), (l.map (·.length)).sum ≤ (joinL l).length
  | [] => by simp [joinL_nil]
  | [a] => by rw [joinL_one]; simp
  | a :: b :: r => by
    have ih := joinL_ge (b :: r)
    rw [joinL_cons, List.length_append, List.length_cons (a := 10), List.map_cons, List.sum_cons]
    lia
theorem le_sum_mem : ∀ {l : List Nat} {a : Nat}, a ∈ l → a ≤ l.sum
  | b :: l, a, h => by
    rw [List.sum_cons]
    rcases List.mem_cons.mp h with rfl | h
    · lia
    · have := le_sum_mem h
      lia
theorem joinL_mem {l : List (List Nat)} {y : List Nat} (h : y ∈ l) : y.length ≤ (joinL l).length := by
  refine Nat.le_trans ?_ (joinL_ge l)
  exact le_sum_mem (List.mem_map.mpr ⟨y, h, rfl⟩)
theorem splits_len : ∀ (l : List (List Nat)), l.length ≤ (l.flatMap splitL).length
  | [] => Nat.le_refl _
  | a :: r => by
    have ih := splits_len r
    have h1 : 0 < (splitL a).length := List.length_pos_iff.mpr (splitL_ne a)
    rw [List.flatMap_cons, List.length_append, List.length_cons]
    lia
section
variable {C : Cx} {A : Around} {σ σ' ρ : Asn} {Q : Value → Asn → Prop} {QF : Flow → Asn → Prop} {mg : Str → Option Value} {L : Lay} {H : Addr} {env : Env} {cc P : Addr}
theorem f_enc {x : List Nat} {M : Nat} (hM : 4 ≤ M) (hM' : M ≤ 8) (hx : x ≠ []) (hsg : ∀ c ∈ x, Sg c) (hxf : x.length ≤ 8) (B : Base C mg L) (hR : Room A 5 8) (h : Q (sv (joinL (rowsOf M x))) σ) : EC C A (.ref L.aBodyEncode) [sv x, .int M 0] σ Q := by
  have hs : sizeLine = 16777216 := by decide
  obtain ⟨l1, l2, l3, _, _⟩ := letter_ok hM hx hsg
  have hetz : (et x).length ≤ 24 := by have := (et_len hsg).2; lia
  have hch : (chunks M ((lsOf x).map et) (et x)).length ≤ 9 := by
    have h1 := splits_len (chunks M ((lsOf x).map et) (et x))
    rw [← rowsOf_chunks] at h1
    lia
  have hjl : (joinL (chunks M ((lsOf x).map et) (et x))).length ≤ 100 := by
    rw [← rowsOf_join]
    have h1 := joinL_len (M := M) (l := rowsOf M x) fun r hr => (l2 r hr).1
    have h2 : (rowsOf M x).length * (M + 1) ≤ 9 * 9 := Nat.mul_le_mul (by lia) (by lia)
    lia
  have hcl : ((((lsOf x).map et).flatMap (encL M))).length ≤ 9 := by
    unfold chunks at hch
    rw [List.length_append] at hch
    lia
  have hcuts : (lineCuts ⟨(x.flatMap enc).toArray⟩).length ≤ sizeLine := by
    have h1 := lineCuts_le (⟨(x.flatMap enc).toArray⟩ : Str)
    have h2 : (⟨(x.flatMap enc).toArray⟩ : Str).length = (et x).length := by simp [Str.length]
    lia
  have hsub : ∀ y ∈ lsOf x, y ∈ splitL x := fun y hy => by
    unfold lsOf dropTail at hy
    split at hy
    · exact List.dropLast_subset _ hy
    · exact hy
  refine f_body (t := 0) (ls := (lsOf x).map et) (lines_et hsg) hcuts ?_ (by lia) ?_ ?_ B hR hM (by lia) hx (et_last13 hsg) ?_ (by lia) (Nat.le_trans hetz (by lia)) ?_
  · intro l hl
    obtain ⟨y, hy, rfl⟩ := List.mem_map.mp hl
    have hsl := lsOf_sl hsg y hy
    have hyl : y.length ≤ 8 := by
      have := joinL_mem (hsub y hy)
      rw [joinL_splitL] at this
      lia
    have h3 := (et_len fun c hc => (hsl c hc).1).2
    exact ⟨by lia, fun c hc => by have := (et_ok hsl).lt c hc; lia⟩
  · intro i line hi
    have e : (((lsOf x).map et).take i).flatMap (encL M) ++ encL M line = (((lsOf x).map et).take (i + 1)).flatMap (encL M) := by
      rw [List.take_add_one, hi]; simp
    rw [e]
    have h1 : ((((lsOf x).map et).take (i + 1)).flatMap (encL M)).length ≤ ((((lsOf x).map et)).flatMap (encL M)).length := by
      conv => rhs; rw [← List.take_append_drop (i + 1) ((lsOf x).map et)]
      rw [List.flatMap_append, List.length_append]
      lia
    lia
  · have := joinL_ge (chunks M ((lsOf x).map et) (et x))
    show ((chunks M ((lsOf x).map et) (et x)).map (·.length)).sum + (chunks M ((lsOf x).map et) (et x)).length ≤ 16777216
    lia
  · intro c hc
    have := hsg c hc
    unfold Sg signs at this
    simp only [List.mem_cons, List.not_mem_nil, or_false] at this
    omega
  · have : Txt.join ⟨#[10]⟩ ((chunks M ((lsOf x).map et) (x.flatMap enc)).map fun l => ⟨l.toArray⟩) = mk (joinL (rowsOf M x)) := by
      rw [rowsOf_join]
      exact Txt_join _
    rw [this]; exact h
theorem f_rows {x : List Nat} {M : Nat} (hM : 4 ≤ M) (hx : x ≠ []) (hsg : ∀ c ∈ x, Sg c) (hxf : x.length ≤ 8) (hM' : M ≤ 8) (h : ∀ D, Q (.ref D) ((D, lst ((rowsOf M x).map sv)) :: σ)) : EC C A (.builtin "str.split") [sv (joinL (rowsOf M x)), sv [10]] σ Q := by
  have hs : sizeLine = 16777216 := by decide
  obtain ⟨l1, l2, l3, _, _⟩ := letter_ok hM hx hsg
  have hjl : (joinL (rowsOf M x)).length ≤ 100 := by
    have h1 := joinL_len (M := M) (l := rowsOf M x) fun r hr => (l2 r hr).1
    have h2 : (rowsOf M x).length * (M + 1) ≤ 9 * 9 := Nat.mul_le_mul (by lia) (by lia)
    lia
  refine f_split (by simp [Str.length]) (by simp only [Str.length, List.size_toArray]; lia) fun D => ?_
  have e : Txt.split ⟨(joinL (rowsOf M x)).toArray⟩ ⟨[10].toArray⟩ = (rowsOf M x).map mk := Txt_split l1 (fun p hp => ((l2 p hp).2).free) rfl
  rw [e]
  have htx : txs ((rowsOf M x).map mk) = (rowsOf M x).map sv := by simp [txs, Function.comp_def]
  rw [htx]
  exact h D
end
end TIkW18
section TIkLawP
open PySem PySem.StrLaws PySem.Calls PyProof.Rows
set_option maxRecDepth 4000
noncomputable abbrev letX (w : Nat → List Nat) (k : Nat) : List Nat := headL k ++ w k
noncomputable abbrev rowsX (M : Nat) (w : Nat → List Nat) : List (List (List Nat)) := (List.range 3).map fun k => rowsOf M (letX w k)
noncomputable abbrev WOk (w : Nat → List Nat) : Prop := ∀ i, (w i).length ≤ 6 ∧ ∀ c ∈ w i, Sg c
theorem head_sg (k : Nat) : ∀ c ∈ headL k, Sg c := by
  unfold headL
  split
  · decide
  · split <;> decide
theorem head_len (k : Nat) : 1 ≤ (headL k).length ∧ (headL k).length ≤ 2 := by
  unfold headL
  split
  · simp
  · split <;> simp
theorem let_ok {w : Nat → List Nat} (hw : WOk w) (k : Nat) : letX w k ≠ [] ∧ (∀ c ∈ letX w k, Sg c) ∧ (letX w k).length ≤ 8 := by
  have h1 := head_len k
  refine ⟨fun e => ?_, fun c hc => ?_, ?_⟩
  · have := congrArg List.length e
    rw [List.length_append, List.length_nil] at this
    lia
  · rcases List.mem_append.mp hc with h | h
    · exact head_sg k c h
    · exact (hw k).2 c h
  · have := (hw k).1
    rw [List.length_append]
    lia
theorem rowsX_at {M : Nat} {w : Nat → List Nat} {j : Nat} (hj : j < 3) : rowsJ (rowsX M w) j = rowsOf M (letX w j) := by
  unfold rowsJ rowsX
  rw [List.getElem?_map, List.getElem?_range hj]; rfl
section
variable {M : Nat} {w : Nat → List Nat}
theorem letOk (hM : 4 ≤ M) (hM' : M ≤ 8) (hw : WOk w) {j : Nat} (hj : j < 3) : LetOk (rowsX M w) M j (letX w j) :=
  ⟨hM, hM', (let_ok hw j).1, (let_ok hw j).2.1, (let_ok hw j).2.2, rowsX_at hj⟩
theorem rowsX_cnt (hM : 4 ≤ M) (hw : WOk w) {j : Nat} (hj : j < 3) : 0 < cnt (rowsX M w) j ∧ cnt (rowsX M w) j ≤ 9 := by
  obtain ⟨l1, l2, l3, _, _⟩ := letter_ok hM (let_ok hw j).1 (let_ok hw j).2.1
  have h8 := (let_ok hw j).2.2
  have e : cnt (rowsX M w) j = (rowsOf M (letX w j)).length := by
    show (rowsJ (rowsX M w) j).length = _
    rw [rowsX_at hj]
  rw [e]
  have := List.length_pos_iff.mpr l1
  lia
theorem rowsX_first (hM : 4 ≤ M) (hw : WOk w) : 2 ≤ cnt (rowsX M w) 0 := by
  obtain ⟨l1, l2, l3, l4, _⟩ := letter_ok hM (let_ok hw 0).1 (let_ok hw 0).2.1
  have e : cnt (rowsX M w) 0 = (rowsOf M (letX w 0)).length := by
    show (rowsJ (rowsX M w) 0).length = _
    rw [rowsX_at (by lia)]
  rw [e]
  have h1 := List.countP_le_length (p := fun r : List Nat => r.getLast? != some 61) (l := rowsOf M (letX w 0))
  have h2 : 1 ≤ (letX w 0).count 10 := List.count_pos_iff.mpr (by simp [letX, headL])
  lia
theorem marksX_len (hM : 4 ≤ M) (hw : WOk w) : (marksM (rowsX M w)).length < 64 := by
  have h0 := rowsX_cnt hM hw (j := 0) (by lia)
  have h1 := rowsX_cnt hM hw (j := 1) (by lia)
  have h2 := rowsX_cnt hM hw (j := 2) (by lia)
  simp only [marksM, List.length_append, own, List.length_map, List.length_range]
  lia
theorem rowsX_few (hM : 4 ≤ M) (hM' : M ≤ 8) (hw : WOk w) : ∀ r ∈ rowsX M w, r.length ≤ 100 ∧ ∀ x ∈ r, x.length ≤ 100 ∧ ∀ c ∈ x, c < 128 := by
  intro r hr
  obtain ⟨k, _, rfl⟩ := List.mem_map.mp hr
  obtain ⟨l1, l2, l3, _, _⟩ := letter_ok hM (let_ok hw k).1 (let_ok hw k).2.1
  have h8 := (let_ok hw k).2.2
  refine ⟨by lia, fun x hx => ?_⟩
  have := l2 x hx
  exact ⟨by lia, this.2.lt⟩
end
theorem pat_br (b : Bool) (k : Nat) : patS (ahB b k ++ .star :: []) = [61, 67, 91] ++ stuffL b k ++ [93, 42] := by
  simp [patS, txtS]
theorem plain_ahB {b : Bool} {k : Nat} (hk : k < 8) : ∀ s ∈ ahB b k, plainS s := by
  intro s hs
  simp only [ahB, List.mem_cons, List.not_mem_nil, or_false] at hs
  rcases hs with rfl | rfl | rfl
  · exact ⟨by simp [okS], by simp [partS]⟩
  · exact ⟨by simp [okS], by simp [partS]⟩
  · exact ⟨hk, by simp [partS]⟩
theorem br_only {b : Bool} {k : Nat} : ∀ (d : List Sg2) (b' : Bool) (r : List Sg2), ahB b k ++ .star :: [] = d ++ .br b' 7 :: r → d = [.ch 61, .ch 67] ∧ r = [.star] := by
  intro d b' r e
  match d, e with
  | [], e => simp at e
  | [_], e => simp at e
  | [_, _], e =>
    simp at e
    exact ⟨by rw [← e.1, ← e.2.1], e.2.2.2.symm⟩
  | [_, _, _], e => simp at e
  | _ :: _ :: _ :: _ :: d', e =>
    have := congrArg List.length e
    simp at this
theorem kinds_len {k : Nat} (hk : k < 8) : (kinds.getD k []).length ≤ 3 :=
  (show ∀ k : Fin 8, (kinds.getD k []).length ≤ 3 by decide +kernel) ⟨k, hk⟩
theorem kinds_dash {k : Nat} (hk : k < 8) : ((⟨(kinds.getD k []).toArray⟩ : Str) == (⟨#[56, 45, 65]⟩ : Str)) = decide (k = 7) :=
  (show ∀ k : Fin 8, ((⟨(kinds.getD k []).toArray⟩ : Str) == (⟨#[56, 45, 65]⟩ : Str)) = decide (k.val = 7) by decide +kernel) ⟨k, hk⟩
section
variable {C : Cx} {A : Around} {σ : Asn} {Q : Value → Asn → Prop}
theorem o_nesv {l m : Addr} {X Y : List (List Nat)} (hu : A.units < cLine) (h1 : Has C σ l (lst (X.map sv))) (h2 : Has C σ m (lst (Y.map sv))) (h : Q (.bool (X != Y)) σ) : E2 C A (compareOp .NotEq) (.ref l) (.ref m) σ Q := by
  have htx : ∀ Z : List (List Nat), Z.map sv = txs (Z.map mk) := fun Z => by simp [txs, Function.comp_def]
  rw [htx] at h1 h2
  refine o_nels hu h1 h2 ?_
  have hinj : ∀ a b : List Nat, mk a = mk b → a = b := fun a b e => by
    have := congrArg (fun s : Str => s.cps.toList) e
    simpa [mk] using this
  have e : (X.map mk != Y.map mk) = (X != Y) := by
    rw [bne, bne]; congr 1
    rw [Bool.eq_iff_iff, beq_iff_eq, beq_iff_eq]
    exact ⟨fun h => (List.map_inj_right (fun a b => hinj a b)).mp h, fun h => by rw [h]⟩
  rw [e]; exact h
theorem if_ev {env : Env} {b : Bool} {e₁ e₂ : Expr} {v₁ v₂ v : Value} (hv : (if b = true then v₁ else v₂) = v) (h₁ : ∀ Q : Value → Asn → Prop, Q v₁ σ → EV C A env e₁ σ Q) (h₂ : ∀ Q : Value → Asn → Prop, Q v₂ σ → EV C A env e₂ σ Q) (h : Q v σ) : if b = true then EV C A env e₁ σ Q else EV C A env e₂ σ Q := by
  subst hv
  cases b
  · exact h₂ Q h
  · exact h₁ Q h
end
theorem sv_get {X : List (List Nat)} {i : Nat} {v : Value} (h : (X.map sv)[i]? = some v) : ∃ l, X[i]? = some l ∧ sv l = v := by
  rw [List.getElem?_map] at h
  exact Option.map_eq_some_iff.mp h
theorem line_shape {rs : List (List (List Nat))} (hne : ∀ i < 3, 0 < cnt rs i) {l : List Nat} (h : l ∈ linesA' rs) : ∃ i r, i < 3 ∧ l = 61 :: 67 :: cI i :: r := by
  obtain ⟨m, hm, rfl⟩ := List.mem_map.mp h
  have h3 := (wire_mem hne hm).1
  exact ⟨m.2.1, rowAt rs m.2.1 m.2.2, h3, line_cI h3⟩
end TIkLawP
section TIkW19
open PySem PySem.StrLaws PySem.Calls PyProof.Rows
set_option maxRecDepth 4000
noncomputable def rowsA (pl : List (Addr × List (List Nat))) : Asn := pl.map fun p => (p.1, lst (p.2.map sv))
section
variable {C : Cx} {A : Around} {σ σ' ρ : Asn} {Q : Value → Asn → Prop} {QF : Flow → Asn → Prop} {mg : Str → Option Value} {L : Lay} {H : Addr} {env : Env} {cc P : Addr}
theorem f_law {R : Addr} {xs : List Int} (B2 : Base2 C mg L cc P) (hR : Room A 9 30) (hP : Up P tabR tabR σ σ) (hl : Has C σ R (lst (zs xs))) (hn : xs.length ≤ 63) (h : Q (.bool true) σ) : EC C A (.ref L.aLaw) [.ref R] σ Q := by
  have hs : sizeLine = 16777216 := by decide
  have B := B2.toBase
  refine c_w B.G.nolimit B.fLaw (by have := hR.depth; lia) (ll := [("script", .ref R)]) (cs := fun c => [(c + 4, cel none), (c + 3, cel none), (c + 2, cel none), (c + 1, cel none)]) (binds1 (p := "script")) fun c cdv => ?_
  have hR' : Room (A.deeper (fenv "law" (fnS (stAt 41)) c L.aLaw cdv)) 8 27 := hR.deeper _
  have k_script : kL (fenv "law" (fnS (stAt 41)) c L.aLaw cdv) "script" = true := by kernel_rfl
  have k_rows : kL (fenv "law" (fnS (stAt 41)) c L.aLaw cdv) "rows" = true := by kernel_rfl
  have k_kind : kL (fenv "law" (fnS (stAt 41)) c L.aLaw cdv) "kind" = true := by kernel_rfl
  have k_letters : kC (fenv "law" (fnS (stAt 41)) c L.aLaw cdv) "letters" = true := by kernel_rfl
  have k_length : kC (fenv "law" (fnS (stAt 41)) c L.aLaw cdv) "length" = true := by kernel_rfl
  have k_lines : kC (fenv "law" (fnS (stAt 41)) c L.aLaw cdv) "lines" = true := by kernel_rfl
  have k_members : kC (fenv "law" (fnS (stAt 41)) c L.aLaw cdv) "members" = true := by kernel_rfl
  have k_sum : kG (fenv "law" (fnS (stAt 41)) c L.aLaw cdv) "sum" = true := by kernel_rfl
  have k_range : kG (fenv "law" (fnS (stAt 41)) c L.aLaw cdv) "range" = true := by kernel_rfl
  have k__law_letters : kG (fenv "law" (fnS (stAt 41)) c L.aLaw cdv) "_law_letters" = true := by kernel_rfl
  have k__law_wire : kG (fenv "law" (fnS (stAt 41)) c L.aLaw cdv) "_law_wire" = true := by kernel_rfl
  have k__law_by_sums : kG (fenv "law" (fnS (stAt 41)) c L.aLaw cdv) "_law_by_sums" = true := by kernel_rfl
  have k__law_lines : kG (fenv "law" (fnS (stAt 41)) c L.aLaw cdv) "_law_lines" = true := by kernel_rfl
  walk_at "WALK"
  refine f_letters (xs := xs) B ⟨hR'.handled, by have := hR'.depth; lia, by have := hR'.units; lia⟩ (by repeat (first | exact hl | refine Has.up ?_)) hn fun D1 w hw => ?_
  walk_at "WALK"
  refine v_listcomp [] hR'.handled ?_
  walk_at "WALK"
  refine q_lh (xs := zs xs) (b := 18) (by repeat (first | exact hl | refine Has.up ?_)) (by simp [zs]; lia) rfl fun D2 => ?_
  refine pi_list (xs := (zs xs).take 18) (Or.inl (by walk_at "MEM")) fun it => ?_
  refine ⟨_, _, _, iter_list (l := D2) (xs := (zs xs).take 18), fun (i : Nat) (ys : List Value) (τ : Asn) => ∃ ns' : List Int, ns'.length = i ∧ ys = zs ns' ∧
    τ = (D2, lst ((zs xs).take 18)) :: (c, ns [("script", .ref R)]) :: (c + 4, cel none) :: (c + 3, cel none) :: (c + 2, cel none) :: (c + 1, cel (some (.ref D1))) :: (D1, lst (((List.range 3).map fun i => headL i ++ w i).map sv)) :: σ, ⟨_, ?_, [], rfl, rfl, rfl⟩, ?_, ?_, ?_⟩
  · walk_at "WEAK"
  · rintro i ys τ p q hi ⟨ns', hns, rfl, rfl⟩
    refine ⟨(Or.inl (by walk_at "MEM")), ?_⟩
    simp [zs] at hi ⊢
    lia
  · rintro i v ys τ D4 Lc hv ⟨ns', hns, rfl, rfl⟩
    obtain ⟨x, rfl⟩ : ∃ x : Int, v = .int x 0 := by
      have := List.mem_of_mem_take (List.mem_of_getElem? hv)
      simp only [zs, List.mem_map] at this
      obtain ⟨x, _, rfl⟩ := this
      exact ⟨x, rfl⟩
    walk_at "WALK"
    refine ts_nil ?_
    walk_at "ITE"
    refine ite_t rfl ?_
    walk_at "WALK"
    refine o_mod (by decide) ?_
    walk_at "WALK"
    refine ⟨_, ?_, ns' ++ [x.fmod 12], by simp [hns], by simp [zs], rfl⟩
    walk_at "WEAK"
  · rintro ys τ D4 _ ⟨ns', hns, rfl, rfl⟩
    walk_at "WALK"
    refine f_sum (ns := ns') hR'.handled (Or.inl (by walk_at "MEM")) ?_
    walk_at "WALK"
    refine o_mod (by decide) ?_
    walk_at "WALK"
    have hm0 : 0 ≤ ns'.sum.fmod 5 := PySem.W.fmod_lo _ (by decide)
    have hm1 : ns'.sum.fmod 5 < 5 := PySem.W.fmod_hi _ (by decide)
    obtain ⟨M, hMe⟩ : ∃ M : Nat, 4 + ns'.sum.fmod 5 = (M : Int) := ⟨(4 + ns'.sum.fmod 5).toNat, by lia⟩
    have hM : 4 ≤ M := by lia
    have hM' : M ≤ 8 := by lia
    rw [hMe]
    walk_at "WALK"
    have hX := fun k => let_ok hw k
    refine s_assign_comp [("length", c + 2)] hR'.handled ?_
    walk_at "WALK"
    refine pi_list (xs := ((List.range 3).map fun i => headL i ++ w i).map sv) (Or.inl (by walk_at "MEM")) fun it2 => ?_
    refine ⟨_, _, _, iter_list (l := D1) (xs := ((List.range 3).map fun i => headL i ++ w i).map sv), fun (i : Nat) (ys : List Value) (τ : Asn) => ∃ pl : List (Addr × List (List Nat)), pl.length = i ∧ ys = pl.reverse.map (fun p => Value.ref p.1) ∧ pl.reverse.map (·.2) = (List.range i).map (fun k => rowsOf M (letX w k)) ∧
      τ = (D1, lst (((List.range 3).map fun i => headL i ++ w i).map sv)) :: (c, ns [("script", .ref R)]) :: (c + 4, cel none) :: (c + 3, cel none) :: (c + 2, cel (some (.int M 0))) :: (c + 1, cel (some (.ref D1))) :: (rowsA pl ++ σ), ⟨_, ?_, [], rfl, rfl, rfl, rfl⟩, ?_, ?_, ?_⟩
    · walk_at "WEAK"
    · rintro i ys τ p q hi ⟨pl, hpl, rfl, hmk, rfl⟩
      refine ⟨(Or.inl (by walk_at "MEM")), ?_⟩
      simp at hi ⊢
      lia
    · rintro i v ys τ D5 Lc hv ⟨pl, hpl, rfl, hmk, rfl⟩
      obtain ⟨hi, rfl⟩ : i < 3 ∧ sv (letX w i) = v := by
        rw [List.getElem?_map, List.getElem?_map] at hv
        rcases Nat.lt_or_ge i 3 with h | h
        · rw [List.getElem?_range h] at hv
          exact ⟨h, by simpa using hv⟩
        · rw [List.getElem?_eq_none (by simpa using h)] at hv
          cases hv
      walk_at "WALK"
      refine ts_nil ?_
      walk_at "ITE"
      refine ite_t rfl ?_
      walk_at "WALK"
      refine f_enc hM hM' (hX i).1 (hX i).2.1 (hX i).2.2 B ⟨hR'.handled, by have := hR'.depth; lia, by have := hR'.units; lia⟩ ?_
      walk_at "WALK"
      refine f_rows hM (hX i).1 (hX i).2.1 (hX i).2.2 hM' fun D6 => ?_
      walk_at "WALK"
      refine ⟨_, ?_, (D6, rowsOf M (letX w i)) :: pl, by simp [hpl], by simp, ?_, rfl⟩
      · dsimp only [rowsA, List.map_cons, List.cons_append]
        walk_at "WEAK"
      · rw [List.reverse_cons, List.map_append, hmk, List.range_succ, List.map_append]; rfl
    · rintro ys τ D5 Lc ⟨pl, hpl, rfl, hmk, rfl⟩
      walk_at "WALK"
      refine ⟨_, _, _, rfl, ?_⟩
      have hlen3 : (((List.range 3).map fun i => headL i ++ w i).map sv).length = 3 := by simp
      rw [hlen3] at hpl hmk
      have hrows : ∀ ρ : Asn, Rows C ((D5, lst (pl.reverse.map fun p => Value.ref p.1)) :: (ρ ++ (rowsA pl ++ σ))) D5 (pl.reverse.map (·.1)) (rowsX M w) := fun ρ => by
        refine ⟨.inl (by rw [List.map_map]; exact .head _), by simp [hpl], by simp [rowsX], ?_, ?_⟩
        · intro i hi
          have hil : i < pl.reverse.length := by simp; lia
          have e2 : (rowsX M w)[i]'(by simp [rowsX]; lia) = (pl.reverse[i]).2 := by
            have : (pl.reverse.map (·.2))[i]'(by simp; lia) = (rowsX M w)[i]'(by simp [rowsX]; lia) := by congr 1
            rw [← this]; simp
          rw [e2]
          refine .inl (.tail _ (List.mem_append_right _ (List.mem_append_left _ ?_)))
          refine List.mem_map.mpr ⟨pl.reverse[i], List.mem_reverse.mp (List.getElem_mem _), ?_⟩
          simp
        · intro r hr
          have := rowsX_few hM hM' hw r hr
          exact ⟨this.1, fun x hx => (this.2 x hx).1⟩
      walk_at "WALK"
      have hne : ∀ i < 3, 0 < cnt (rowsX M w) i := fun i hi => (rowsX_cnt hM hw hi).1
      have hmx := marksX_len hM hw
      have hfew : (linesA' (rowsX M w)).length ≤ 1000 := by rw [lines_len hne]; lia
      have hln := lines_ok hne fun r hr => (rowsX_few hM hM' hw r hr).2
      refine f_wire (rs := rowsX M w) B ⟨hR'.handled, by have := hR'.depth; lia, by have := hR'.units; lia⟩ (hrows [_, _, _, _, _, _]) hne (by rw [List.length_map] at hfew; exact hfew) fun D6 => ?_
      walk_at "WALK"
      refine f_bysums (rs := rowsX M w) B ⟨hR'.handled, by have := hR'.depth; lia, by have := hR'.units; lia⟩ ((hrows [_, _, _, _, _, _]).up1) hne (rowsX_first hM hw) hmx fun D7 => ?_
      walk_at "WALK"
      refine o_nesv (X := linesA' (rowsX M w)) (Y := linesA' (rowsX M w)) (by have := hR'.units; lia) (Or.inl (by walk_at "MEM")) (Or.inl (by walk_at "MEM")) ?_
      rw [show (linesA' (rowsX M w) != linesA' (rowsX M w)) = false by simp]
      walk_at "WALK"
      first | refine ite_n (by decide) ?_ | refine ite_n (by simp) ?_
      walk_at "WALK"
      refine v_list ?_
      walk_at "WALK"
      refine ⟨by simp [hs], fun D8 => ?_⟩
      walk_at "WALK"
      refine v_listcomp [] hR'.handled ?_
      walk_at "WALK"
      refine q_lh (xs := zs xs) (b := 18) (by repeat (first | exact hl | exact has_app hl | refine Has.up ?_)) (by simp [zs]; lia) rfl fun D9 => ?_
      refine pi_list (xs := (zs xs).take 18) (Or.inl (by walk_at "MEM")) fun it3 => ?_
      refine ⟨_, _, _, iter_list (l := D9) (xs := (zs xs).take 18), fun (i : Nat) (ys : List Value) (τ : Asn) => ∃ ns2 : List Int, ns2.length = i ∧ ys = zs ns2 ∧
        τ = (D9, lst ((zs xs).take 18)) :: (D8, lst (kinds.map sv)) :: (c, ns [("script", .ref R)]) :: (c + 4, cel (none)) :: (c + 3, cel (some (.ref D6))) :: (c + 2, cel (some (.int M 0))) :: (c + 1, cel (some (.ref D1))) :: (D6, lst ((linesA' (rowsX M w)).map sv)) :: (D1, lst (((List.range 3).map fun i => headL i ++ w i).map sv)) :: σ, ⟨_, ?_, [], rfl, rfl, rfl⟩, ?_, ?_, ?_⟩
      · walk_at "WEAK"
      · rintro i ys τ p q hi ⟨ns2, hns2, rfl, rfl⟩
        refine ⟨(Or.inl (by walk_at "MEM")), ?_⟩
        simp [zs] at hi ⊢
        lia
      · rintro i v ys τ D4 Lc hv ⟨ns2, hns2, rfl, rfl⟩
        obtain ⟨x, rfl⟩ : ∃ x : Int, v = .int x 0 := by
          have := List.mem_of_mem_take (List.mem_of_getElem? hv)
          simp only [zs, List.mem_map] at this
          obtain ⟨x, _, rfl⟩ := this
          exact ⟨x, rfl⟩
        walk_at "WALK"
        refine ts_nil ?_
        walk_at "ITE"
        refine ite_t rfl ?_
        walk_at "WALK"
        refine o_mod (by decide) ?_
        walk_at "WALK"
        refine ⟨_, ?_, ns2 ++ [x.fmod 8], by simp [hns2], by simp [zs], rfl⟩
        walk_at "WEAK"
      · rintro ys τ D4 _ ⟨ns2, hns2, rfl, rfl⟩
        walk_at "WALK"
        refine f_sum (ns := ns2) hR'.handled (Or.inl (by walk_at "MEM")) ?_
        walk_at "WALK"
        refine o_mod (by decide) ?_
        walk_at "WALK"
        have hk0 : 0 ≤ (3 + ns2.sum).fmod 8 := PySem.W.fmod_lo _ (by decide)
        have hk1 : (3 + ns2.sum).fmod 8 < 8 := PySem.W.fmod_hi _ (by decide)
        obtain ⟨k, hke⟩ : ∃ k : Nat, (3 + ns2.sum).fmod 8 = (k : Int) := ⟨((3 + ns2.sum).fmod 8).toNat, by lia⟩
        have hk : k < 8 := by lia
        have hkl := kinds_len hk
        rw [hke]
        refine i_list (xs := kinds.map sv) (v := sv (kinds.getD k [])) (Or.inl (by walk_at "MEM")) (by lia) (by lia) (by
          have hkk : k < kinds.length := hk
          rw [List.getElem?_map, Int.toNat_natCast, List.getD_eq_getElem?_getD, List.getElem?_eq_getElem hkk]; rfl) ?_
        walk_at "WALK"
        refine o_eq_str ?_
        rw [show (Str.ofString "8-A") = ⟨#[56, 45, 65]⟩ from rfl, kinds_dash hk]
        walk_at "WALK"
        refine if_ev (v₁ := sv [56, 57, 65]) (v₂ := sv (kinds.getD k [])) (v := sv (memK k)) (by unfold memK; by_cases h7 : k = 7 <;> simp [h7]) (fun Q h => v_str h) (fun Q h => lv h) ?_
        walk_at "WALK"
        refine o_addc (l := [61, 67, 91]) (m := kinds.getD k []) (by simp only [List.length_cons, List.length_nil]; lia) ?_
        walk_at "WALK"
        refine o_adds (m := [93, 42]) (by simp only [List.length_append, List.length_cons, List.length_nil]; lia) ?_
        walk_at "WALK"
        rw [show sv ([61, 67, 91] ++ kinds.getD k [] ++ [93, 42]) = sv (patS (ahB false k ++ .star :: [])) by rw [pat_br]; rfl]
        refine f_lines (ah := ahB false k) (be := []) B2 ⟨hR'.handled, by have := hR'.depth; lia, by have := hR'.units; lia⟩ (by repeat (first | exact hP | exact Up.app _ hP | refine Up.there ?_)) rfl (by simp) (plain_ahB hk) (by simp) br_only (by rw [pat_br]; simp only [stuffL, List.length_append, List.length_cons, List.length_nil]; have := hkl; split <;> simp only [List.length_cons, List.length_nil] <;> lia) (Or.inl (by walk_at "MEM")) hfew hln fun DB0 => ?_
        rw [br_eq hne hk]
        walk_at "WALK"
        refine v_listcomp [("members", c + 4)] hR'.handled ?_
        walk_at "WALK"
        refine pi_list (xs := (linesA' (rowsX M w)).map sv) (Or.inl (by walk_at "MEM")) fun itB0 => ?_
        refine ⟨_, _, _, iter_list (l := D6) (xs := (linesA' (rowsX M w)).map sv), fun (i : Nat) (ys : List Value) (τ : Asn) => ys = (((linesA' (rowsX M w)).take i).filter (fun l : List Nat => decide (l.getD 2 0 ∈ memK k) != false)).map sv ∧
          τ = (DB0, lst (((linesA' (rowsX M w)).filter (fun l : List Nat => decide (l.getD 2 0 ∈ memK k) != false)).map sv)) :: (c, ns [("kind", sv (kinds.getD k [])), ("script", .ref R)]) :: (c + 4, cel (some (sv (memK k)))) :: (c + 3, cel (some (.ref D6))) :: (c + 2, cel (some (.int M 0))) :: (c + 1, cel (some (.ref D1))) :: (D6, lst ((linesA' (rowsX M w)).map sv)) :: (D1, lst (((List.range 3).map fun i => headL i ++ w i).map sv)) :: σ, ⟨_, ?_, by simp, rfl⟩, ?_, ?_, ?_⟩
        · walk_at "WEAK"
        · rintro i ys τ p q hi ⟨rfl, rfl⟩
          refine ⟨(Or.inl (by walk_at "MEM")), ?_⟩
          rw [List.length_map]
          have h1 := List.length_filter_le (fun l : List Nat => decide (l.getD 2 0 ∈ memK k) != false) ((linesA' (rowsX M w)).take i)
          have h2 := List.length_take_le' i (linesA' (rowsX M w))
          lia
        · rintro i v ys τ D10 Lc hv ⟨rfl, rfl⟩
          obtain ⟨line, hline, rfl⟩ := sv_get hv
          have hlm := List.mem_of_getElem? hline
          obtain ⟨il, rl, hil, hshape⟩ := line_shape hne hlm
          have hlz := hln line hlm
          walk_at "WALK"
          refine ts_one ?_
          walk_at "WALK"
          refine g_at (l := line) (a := 2) (c := cI il) (by lia) rfl (by rw [hshape]; rfl) ?_
          walk_at "WALK"
          refine o_inc (l := memK k) ?_
          walk_at "WALK"
          have htk : ((linesA' (rowsX M w)).take (i + 1)).filter (fun l : List Nat => decide (l.getD 2 0 ∈ memK k) != false) = ((linesA' (rowsX M w)).take i).filter (fun l : List Nat => decide (l.getD 2 0 ∈ memK k) != false) ++ if (decide (cI il ∈ memK k) != false) = true then [line] else [] := by
            rw [List.take_add_one, hline, List.filter_append]
            simp only [Option.toList_some, List.filter_cons, List.filter_nil]
            rw [show line.getD 2 0 = cI il by rw [hshape]; rfl]
          by_cases hin : cI il ∈ memK k
          · walk_at "ITE"
            refine ite_t (by simpa using hin) ?_
            walk_at "WALK"
            refine ⟨_, ?_, ?_, rfl⟩
            · walk_at "WEAK"
            · rw [htk, if_pos (by simpa using hin), List.map_append]; rfl
          · walk_at "ITE"
            refine ite_n (by simpa using hin) ?_
            walk_at "WALK"
            refine ⟨_, ?_, ?_, rfl⟩
            · walk_at "WEAK"
            · rw [htk, if_neg (by simpa using hin), List.append_nil]
        · rintro ys τ D10 _ ⟨rfl, rfl⟩
          rw [List.length_map, List.take_length]
          walk_at "WALK"
          refine o_nesv (X := (linesA' (rowsX M w)).filter (fun l : List Nat => decide (l.getD 2 0 ∈ memK k) != false)) (Y := (linesA' (rowsX M w)).filter (fun l : List Nat => decide (l.getD 2 0 ∈ memK k) != false)) (by have := hR'.units; lia) (Or.inl (by walk_at "MEM")) (Or.inl (by walk_at "MEM")) ?_
          rw [show ((linesA' (rowsX M w)).filter (fun l : List Nat => decide (l.getD 2 0 ∈ memK k) != false) != (linesA' (rowsX M w)).filter (fun l : List Nat => decide (l.getD 2 0 ∈ memK k) != false)) = false by simp]
          walk_at "WALK"
          first | refine ite_n (by decide) ?_ | refine ite_n (by simp) ?_
          walk_at "WALK"
          refine o_addc (l := [61, 67, 91, 33]) (m := kinds.getD k []) (by simp only [List.length_cons, List.length_nil]; lia) ?_
          walk_at "WALK"
          refine o_adds (m := [93, 42]) (by simp only [List.length_append, List.length_cons, List.length_nil]; lia) ?_
          walk_at "WALK"
          rw [show sv ([61, 67, 91, 33] ++ kinds.getD k [] ++ [93, 42]) = sv (patS (ahB true k ++ .star :: [])) by rw [pat_br]; rfl]
          refine f_lines (ah := ahB true k) (be := []) B2 ⟨hR'.handled, by have := hR'.depth; lia, by have := hR'.units; lia⟩ (by repeat (first | exact hP | exact Up.app _ hP | refine Up.there ?_)) rfl (by simp) (plain_ahB hk) (by simp) br_only (by rw [pat_br]; simp only [stuffL, List.length_append, List.length_cons, List.length_nil]; have := hkl; split <;> simp only [List.length_cons, List.length_nil] <;> lia) (Or.inl (by walk_at "MEM")) hfew hln fun DB1 => ?_
          rw [br_eq hne hk]
          walk_at "WALK"
          refine v_listcomp [("members", c + 4)] hR'.handled ?_
          walk_at "WALK"
          refine pi_list (xs := (linesA' (rowsX M w)).map sv) (Or.inl (by walk_at "MEM")) fun itB1 => ?_
          refine ⟨_, _, _, iter_list (l := D6) (xs := (linesA' (rowsX M w)).map sv), fun (i : Nat) (ys : List Value) (τ : Asn) => ys = (((linesA' (rowsX M w)).take i).filter (fun l : List Nat => decide (l.getD 2 0 ∈ memK k) != true)).map sv ∧
            τ = (DB1, lst (((linesA' (rowsX M w)).filter (fun l : List Nat => decide (l.getD 2 0 ∈ memK k) != true)).map sv)) :: (c, ns [("kind", sv (kinds.getD k [])), ("script", .ref R)]) :: (c + 4, cel (some (sv (memK k)))) :: (c + 3, cel (some (.ref D6))) :: (c + 2, cel (some (.int M 0))) :: (c + 1, cel (some (.ref D1))) :: (D6, lst ((linesA' (rowsX M w)).map sv)) :: (D1, lst (((List.range 3).map fun i => headL i ++ w i).map sv)) :: σ, ⟨_, ?_, by simp, rfl⟩, ?_, ?_, ?_⟩
          · walk_at "WEAK"
          · rintro i ys τ p q hi ⟨rfl, rfl⟩
            refine ⟨(Or.inl (by walk_at "MEM")), ?_⟩
            rw [List.length_map]
            have h1 := List.length_filter_le (fun l : List Nat => decide (l.getD 2 0 ∈ memK k) != true) ((linesA' (rowsX M w)).take i)
            have h2 := List.length_take_le' i (linesA' (rowsX M w))
            lia
          · rintro i v ys τ D10 Lc hv ⟨rfl, rfl⟩
            obtain ⟨line, hline, rfl⟩ := sv_get hv
            have hlm := List.mem_of_getElem? hline
            obtain ⟨il, rl, hil, hshape⟩ := line_shape hne hlm
            have hlz := hln line hlm
            walk_at "WALK"
            refine ts_one ?_
            walk_at "WALK"
            refine g_at (l := line) (a := 2) (c := cI il) (by lia) rfl (by rw [hshape]; rfl) ?_
            walk_at "WALK"
            refine o_nic (l := memK k) ?_
            walk_at "WALK"
            have htk : ((linesA' (rowsX M w)).take (i + 1)).filter (fun l : List Nat => decide (l.getD 2 0 ∈ memK k) != true) = ((linesA' (rowsX M w)).take i).filter (fun l : List Nat => decide (l.getD 2 0 ∈ memK k) != true) ++ if (decide (cI il ∈ memK k) != true) = true then [line] else [] := by
              rw [List.take_add_one, hline, List.filter_append]
              simp only [Option.toList_some, List.filter_cons, List.filter_nil]
              rw [show line.getD 2 0 = cI il by rw [hshape]; rfl]
            by_cases hin : cI il ∈ memK k
            · walk_at "ITE"
              refine ite_n (by simpa using hin) ?_
              walk_at "WALK"
              refine ⟨_, ?_, ?_, rfl⟩
              · walk_at "WEAK"
              · rw [htk, if_neg (by simpa using hin), List.append_nil]
            · walk_at "ITE"
              refine ite_t (by simpa using hin) ?_
              walk_at "WALK"
              refine ⟨_, ?_, ?_, rfl⟩
              · walk_at "WEAK"
              · rw [htk, if_pos (by simpa using hin), List.map_append]; rfl
          · rintro ys τ D10 _ ⟨rfl, rfl⟩
            rw [List.length_map, List.take_length]
            walk_at "WALK"
            refine o_nesv (X := (linesA' (rowsX M w)).filter (fun l : List Nat => decide (l.getD 2 0 ∈ memK k) != true)) (Y := (linesA' (rowsX M w)).filter (fun l : List Nat => decide (l.getD 2 0 ∈ memK k) != true)) (by have := hR'.units; lia) (Or.inl (by walk_at "MEM")) (Or.inl (by walk_at "MEM")) ?_
            rw [show ((linesA' (rowsX M w)).filter (fun l : List Nat => decide (l.getD 2 0 ∈ memK k) != true) != (linesA' (rowsX M w)).filter (fun l : List Nat => decide (l.getD 2 0 ∈ memK k) != true)) = false by simp]
            walk_at "WALK"
            first | refine ite_n (by decide) ?_ | refine ite_n (by simp) ?_
            walk_at "WALK"
            refine v_listcomp [("lines", c + 3), ("letters", c + 1), ("length", c + 2)] hR'.handled ?_
            walk_at "WALK"
            refine f_range1 fun rg => ?_
            refine pi_range1 (n := 3) (Or.inl (by walk_at "MEM")) (by lia) fun it4 => ?_
            refine ⟨_, _, _, iter_range (a := 0) (c := 1) (n := 3), fun (i : Nat) (ys : List Value) (τ : Asn) => ys = [] ∧
              τ = (c, ns [("kind", sv (kinds.getD k [])), ("script", .ref R)]) :: (c + 4, cel (some (sv (memK k)))) :: (c + 3, cel (some (.ref D6))) :: (c + 2, cel (some (.int M 0))) :: (c + 1, cel (some (.ref D1))) :: (D6, lst ((linesA' (rowsX M w)).map sv)) :: (D1, lst (((List.range 3).map fun i => headL i ++ w i).map sv)) :: σ, ⟨_, ?_, rfl, rfl⟩, ?_, ?_, ?_⟩
            · walk_at "WEAK"
            · rintro i ys τ p q hi ⟨rfl, rfl⟩
              exact ⟨trivial, by simp⟩
            · rintro i v ys τ D12 Lc hv ⟨rfl, rfl⟩
              obtain ⟨rfl, hi⟩ := rints_get hv
              rw [show (0 : Int) + (i : Int) * 1 = (i : Int) by lia]
              walk_at "WALK"
              refine ts_one ?_
              walk_at "WALK"
              refine i_list (xs := ((List.range 3).map fun i => headL i ++ w i).map sv) (v := sv (letX w i)) (Or.inl (by walk_at "MEM")) (by lia) (by lia) (by
                rw [List.getElem?_map, List.getElem?_map, Int.toNat_natCast, List.getElem?_range hi]; rfl) ?_
              walk_at "WALK"
              refine f_chr (by lia) (by lia) ?_
              rw [show ((200 : Int) + (i : Int)).toNat = 200 + i by lia]
              walk_at "WALK"
              refine f_quote B (by have := hR'.depth; lia) (by lia) ?_
              walk_at "WALK"
              refine f_back (rs := rowsX M w) B2 ⟨hR'.handled, by have := hR'.depth; lia, by have := hR'.units; lia⟩ (by repeat (first | exact hP | exact Up.app _ hP | refine Up.there ?_)) hi (letOk hM hM' hw hi) hne hfew hln (Or.inl (by walk_at "MEM")) ?_
              walk_at "WALK"
              first | refine ite_n (by decide) ?_ | refine ite_n (by simp) ?_
              walk_at "WALK"
              refine ⟨_, ?_, rfl, rfl⟩
              walk_at "WEAK"
            · rintro ys τ D12 _ ⟨rfl, rfl⟩
              walk_at "WALK"
              refine v_list ?_
              walk_at "WALK"
              refine ⟨by simp, fun D13 => ?_⟩
              refine o_eq0 (xs := []) (by have := hR'.units; lia) (Or.inl (by walk_at "MEM")) (Or.inl (by walk_at "MEM")) ?_
              walk_at "WALK"
              refine ⟨_, ?_, h⟩
              walk_at "WEAK"
end
end TIkW19
section TIkHd6
open PySem PySem.W PyProof.Rows PySem.Calls
set_option maxRecDepth 100000
theorem ints_er {vs : List Value} {ns : List Int} (h : IntsAre vs ns) : vs.map er = zs ns := by
  induction h with
  | nil => rfl
  | cons t i _ ih =>
    rw [List.map_cons, ih]; rfl
theorem run_law {w : World} {s₀ s₁ : Shared} {loose : List Str} {q : Program} {mean : ExcName → Option Value} {mg mb : Str → Option Value} {R : Addr} {vs : List Value} {ns : List Int} (Y : obsV s₀ = obsE) (kp : ∀ b o, s₀.heap.get? b = some o → s₁.heap.get? b = some o) (T : Top q loose mean mg mb s₁.heap)
    (hg : s₁.gens = #[]) (hR : s₁.heap.get? R = some { cls := .type "list", data := .seq vs.toArray }) (hRn : s₀.heap.get? R = none) (hi : IntsAre vs ns) (hn : ns.length ≤ 63) {Q : Value → Shared → Prop} {E : Value → Shared → Prop}
    (h : ∀ s', OldK s₁.heap s'.heap → s'.os = s₁.os → AllBare s'.gens → Q (.bool true) s') : wpAny (model pw w) callerA (call (.ref layV.aLaw) [.ref R]) Q E s₁ := by
  have B2 := base_of (w := w) Y kp T
  have y11 : s₀.heap.get? 101 = some { cls := .none, data := .fields #[] } := by
    unfold obsV obsE at Y
    simp only [Prod.mk.injEq] at Y
    exact Y.2.2.2.2.2.2.2.2.2.2.1
  have hP := kp _ _ y11
  have hR101 : R ≠ 101 := fun e => by rw [e, y11] at hRn; cases hRn
  have S : St (cxV w s₁) [(101, tabR)] s₁ := by
    refine ⟨rfl, rfl, by rw [hg]; exact AllBare.empty, fun b o e => of_hideAll _ e, by simp, ?_, ?_⟩
    · intro p hp
      rw [List.mem_singleton] at hp
      subst hp
      exact ⟨_, hP, #[], rfl, trivial⟩
    · intro p hp
      rw [List.mem_singleton] at hp
      subst hp
      exact hideAll_none _ (by simp)
  have hl : Has (cxV w s₁) [(101, tabR)] R (lst (zs ns)) := .inr ⟨_, hideAll_get _ hR (by simpa using hR101), vs.toArray, _, rfl, by rw [← ints_er hi]⟩
  have key := f_law (A := callerA) (Q := fun v τ => v = .bool true ∧ τ = [(101, tabR)]) B2 ⟨rfl, by decide, by decide⟩ .here hl hn ⟨rfl, rfl⟩ [.ref R] rfl s₁ S
  refine wpAny_mono key (fun v s' hz => ?_) fun _ _ e => e.elim
  obtain ⟨τ, S', hv, hτ⟩ := hz
  subst hτ
  obtain rfl := er_bool hv
  refine h s' ⟨fun b o e => ?_, fun b o e => ?_⟩ S'.os S'.gens
  · by_cases hb : b = 101
    · subst hb
      rw [hP] at e
      cases e
      obtain ⟨o', ho', ps, rfl, ht⟩ := S'.get (a := 101) (r := tabR) (.head _)
      refine .inr (.inl ⟨?_, rfl, #[], ps, rfl, by rw [ho']; simp⟩)
      have hd := B2.tab.hd
      have hd' : CodeHd s₁.heap 105 101 := hd.keeps fun b o e => of_hideAll _ e
      exact (hd'.tab hP).isCodeTable
    · exact .inl (S'.keep b o (hideAll_get _ e (by simpa using hb)))
  · by_cases hb : b = 101
    · subst hb
      obtain ⟨o', ho', _⟩ := S'.get (a := 101) (r := tabR) (.head _)
      exact ⟨o', ho'⟩
    · exact ⟨o, S'.keep b o (hideAll_get _ e (by simpa using hb))⟩
theorem ws : PySem.Challenge.rw_ik0165_01.wellSaid = true := by kernel_rfl
theorem hd_holds (H : ∀ w a b, Run (ww a b w)) : PySem.Challenge.rw_ik0165_01.Holds := by
  w_on
  refine holds_law ws fun said => ?_
  refine holds_openX (r := PySem.Challenge.rw_ik0165_01.row) (q := qv) (loose := looseV) (Xt := fun _ => true) (XP := fun _ _ => True) (Yf := obsV) (Ya := fun _ => obsE) (N := 40000) (left_all H) (fun _ _ => trivial) (fun _ _ _ _ _ => trivial) (by rfl) (by rfl) (by rfl) (fun s _ => recFacts_of (by rfl)) (by rfl) (by first | assumption | decide +kernel) (by decide +kernel) ⟨rfl, rfl, rfl, rfl, rfl, by decide +kernel⟩ ?hw ?hc
  case hw => w_witness2
  case hc =>
    intro w s₀ s₁ mg mb G Y fa o pm cd doc dV kV ho hd hcd hD hmg hg args vals as L hpre hlay hrd hwl hlo
    refine Ground.open G ?_
    intro T B D TE TW
    wrow_args hpre hlay hrd hwl hlo
    rename_i ns hs0 hlay0 hL1 hr1 hl2 a1 a2 R vs a3 hIs ra w1 r0 hI hr2 hlen htr
    obtain ⟨u, hu, he⟩ := (base_of (w := w) Y L.keeps T).g "law" (.ref 178) rfl
    have hu' : mg (Str.ofString "law") = some (.ref fa) := hmg
    rw [hu'] at hu
    cases hu
    cases he
    have hR := PySem.W.X.script_obj L hIs
    have hRn : s₀.heap.get? R = none := by
      rw [(PySem.W.X.script_at L).1]
      exact Heap.get?_none_of_le (Nat.le_refl _)
    refine run_law Y L.keeps T hg hR hRn hI (by lia) fun s' h1 h2 h3 => ?_
    refine ⟨.inl ⟨_, _, [], rfl, fun _ => rfl, ReadsW.bool true, ?_, fun _ => ⟨List.nodup_nil, fun _ hm => (nomatch hm)⟩⟩, h1, h2, h3⟩
    first | rfl | wrow_post
end TIkHd6
section TIkRun
open PySem PySem.W PyProof.Rows PySem.Calls
set_option maxRecDepth 100000
noncomputable abbrev wf (w : World) : World := w.withFollow "special-get-raises" false
noncomputable abbrev wt (w : World) : World := w.withFollow "special-get-raises" true
theorem r0 (w : World) : ask0 w = (true, true, 28, annV, true) := by kernel_rfl
theorem r1 (w : World) : goQ pw w 28 annV 12 (stO w) (topStub pw) = some (stA w, startQ) := by kernel_rfl
theorem r2 (w : World) : segQ pw w 28 annV 100 (stA w) (thrAt 0 2 posV) = some (.next, st2 w (ext w), codeV, pos2) := by kernel_rfl
theorem rc1ff (w : World) (x : Ext) : goK pw (ww false false w) 28 annV 52 (st2 (ww false false w) x) (thrAt 2 1 pos2) = some (st1000 (ww false false w) x, tx (ww false false w) x posT0) := by kernel_rfl
theorem rc1ft (w : World) (x : Ext) : goK pw (ww false true w) 28 annV 52 (st2 (ww false true w) x) (thrAt 2 1 pos2) = some (st1000 (ww false true w) x, tx (ww false true w) x posT0) := by kernel_rfl
theorem rc1tf (w : World) (x : Ext) : goK pw (ww true false w) 28 annV 42 (st2 (ww true false w) x) (thrAt 2 1 pos2) = some (st1000 (ww true false w) x, tx (ww true false w) x posT0) := by kernel_rfl
theorem rc1tt (w : World) (x : Ext) : goK pw (ww true true w) 28 annV 42 (st2 (ww true true w) x) (thrAt 2 1 pos2) = some (st1000 (ww true true w) x, tx (ww true true w) x posT0) := by kernel_rfl
theorem rc2f (w : World) (x : Ext) : goK pw (wf w) 28 annV 2368 (st1000 (wf w) x) (tx (wf w) x posT0) = some (st1064 (wf w) x, tx (wf w) x posT) := by kernel_rfl
theorem rc3f (w : World) (x : Ext) : goK pw (wf w) 28 annV 2368 (st1064 (wf w) x) (tx (wf w) x posT) = some (st1128 (wf w) x, tx (wf w) x posT) := by kernel_rfl
theorem rc4f (w : World) (x : Ext) : goK pw (wf w) 28 annV 2368 (st1128 (wf w) x) (tx (wf w) x posT) = some (st1192 (wf w) x, tx (wf w) x posT) := by kernel_rfl
theorem rc5f (w : World) (x : Ext) : segQ pw (wf w) 28 annV 2600 (st1192 (wf w) x) (tx (wf w) x posT) = some (.next, st3 (wf w) x, codeV, pos3) := by kernel_rfl
theorem ra3f (w : World) (x : Ext) : segQ pw (wf w) 28 annV 4000 (st3 (wf w) x) (thrAt 3 10 pos3) = some (.next, st13 (wf w) x, codeV, pos13) := by kernel_rfl
theorem ra4f (w : World) (x : Ext) : segQ pw (wf w) 28 annV 5000 (st13 (wf w) x) (thrAt 13 1 pos13) = some (.next, st14 (wf w) x, codeV, pos14) := by kernel_rfl
theorem ra5f (w : World) (x : Ext) : segQ pw (wf w) 28 annV 2000 (st14 (wf w) x) (thrAt 14 9 pos14) = some (.next, st23 (wf w) x, codeV, pos23) := by kernel_rfl
theorem rc2t (w : World) (x : Ext) : goK pw (wt w) 28 annV 2368 (st1000 (wt w) x) (tx (wt w) x posT0) = some (st1064 (wt w) x, tx (wt w) x posT) := by kernel_rfl
theorem rc3t (w : World) (x : Ext) : goK pw (wt w) 28 annV 2368 (st1064 (wt w) x) (tx (wt w) x posT) = some (st1128 (wt w) x, tx (wt w) x posT) := by kernel_rfl
theorem rc4t (w : World) (x : Ext) : goK pw (wt w) 28 annV 2368 (st1128 (wt w) x) (tx (wt w) x posT) = some (st1192 (wt w) x, tx (wt w) x posT) := by kernel_rfl
theorem rc5t (w : World) (x : Ext) : segQ pw (wt w) 28 annV 2600 (st1192 (wt w) x) (tx (wt w) x posT) = some (.next, st3 (wt w) x, codeV, pos3) := by kernel_rfl
theorem ra3t (w : World) (x : Ext) : segQ pw (wt w) 28 annV 4000 (st3 (wt w) x) (thrAt 3 10 pos3) = some (.next, st13 (wt w) x, codeV, pos13) := by kernel_rfl
theorem ra4t (w : World) (x : Ext) : segQ pw (wt w) 28 annV 5000 (st13 (wt w) x) (thrAt 13 1 pos13) = some (.next, st14 (wt w) x, codeV, pos14) := by kernel_rfl
theorem ra5t (w : World) (x : Ext) : segQ pw (wt w) 28 annV 2000 (st14 (wt w) x) (thrAt 14 9 pos14) = some (.next, st23 (wt w) x, codeV, pos23) := by kernel_rfl
theorem ra6ff (w : World) (x : Ext) : segQ pw (ww false false w) 28 annV 2000 (st23 (ww false false w) x) (thrAt 23 1 pos23) = some (.next, st24 (ww false false w) x, codeV, pos24) := by kernel_rfl
theorem ra6ft (w : World) (x : Ext) : segQ pw (ww false true w) 28 annV 2000 (st23 (ww false true w) x) (thrAt 23 1 pos23) = some (.next, st24 (ww false true w) x, codeV, pos24) := by kernel_rfl
theorem ra6tf (w : World) (x : Ext) : segQ pw (ww true false w) 28 annV 2000 (st23 (ww true false w) x) (thrAt 23 1 pos23) = some (.next, st24 (ww true false w) x, codeV, pos24) := by kernel_rfl
theorem ra6tt (w : World) (x : Ext) : segQ pw (ww true true w) 28 annV 2000 (st23 (ww true true w) x) (thrAt 23 1 pos23) = some (.next, st24 (ww true true w) x, codeV, pos24) := by kernel_rfl
theorem r78 (w : World) : (segQ pw w 28 annV 1500 (st24 w (ext w)) (thrQ (bodyV.drop 24) pos24), askQ w) = (some (.next, stE w, codeV, posE), some (true, (openGood qv looseV, obsE))) := by kernel_rfl
theorem runs (w : World) (a b : Bool) : Run (ww a b w) := by
  cases a <;> cases b
  · exact ⟨r0 _, r1 _, r2 _, ⟨52, by decide, rc1ff w _⟩, rc2f (w.withFollow "comprehension-iter-twice" false) _, rc3f (w.withFollow "comprehension-iter-twice" false) _, rc4f (w.withFollow "comprehension-iter-twice" false) _, rc5f (w.withFollow "comprehension-iter-twice" false) _, ra3f (w.withFollow "comprehension-iter-twice" false) _, ra4f (w.withFollow "comprehension-iter-twice" false) _, ra5f (w.withFollow "comprehension-iter-twice" false) _, ra6ff w _, (pair_parts (r78 _)).1, (pair_parts (r78 _)).2⟩
  · exact ⟨r0 _, r1 _, r2 _, ⟨52, by decide, rc1ft w _⟩, rc2t (w.withFollow "comprehension-iter-twice" false) _, rc3t (w.withFollow "comprehension-iter-twice" false) _, rc4t (w.withFollow "comprehension-iter-twice" false) _, rc5t (w.withFollow "comprehension-iter-twice" false) _, ra3t (w.withFollow "comprehension-iter-twice" false) _, ra4t (w.withFollow "comprehension-iter-twice" false) _, ra5t (w.withFollow "comprehension-iter-twice" false) _, ra6ft w _, (pair_parts (r78 _)).1, (pair_parts (r78 _)).2⟩
  · exact ⟨r0 _, r1 _, r2 _, ⟨42, by decide, rc1tf w _⟩, rc2f (w.withFollow "comprehension-iter-twice" true) _, rc3f (w.withFollow "comprehension-iter-twice" true) _, rc4f (w.withFollow "comprehension-iter-twice" true) _, rc5f (w.withFollow "comprehension-iter-twice" true) _, ra3f (w.withFollow "comprehension-iter-twice" true) _, ra4f (w.withFollow "comprehension-iter-twice" true) _, ra5f (w.withFollow "comprehension-iter-twice" true) _, ra6tf w _, (pair_parts (r78 _)).1, (pair_parts (r78 _)).2⟩
  · exact ⟨r0 _, r1 _, r2 _, ⟨42, by decide, rc1tt w _⟩, rc2t (w.withFollow "comprehension-iter-twice" true) _, rc3t (w.withFollow "comprehension-iter-twice" true) _, rc4t (w.withFollow "comprehension-iter-twice" true) _, rc5t (w.withFollow "comprehension-iter-twice" true) _, ra3t (w.withFollow "comprehension-iter-twice" true) _, ra4t (w.withFollow "comprehension-iter-twice" true) _, ra5t (w.withFollow "comprehension-iter-twice" true) _, ra6tt w _, (pair_parts (r78 _)).1, (pair_parts (r78 _)).2⟩
end TIkRun
end Ik
theorem PySem.Challenge.cw_ik0165_01_holds : PySem.Challenge.rw_ik0165_01.Holds :=
  Ik.hd_holds fun w a b => Ik.runs w a b
