import PyProof.Rows.All
import Wide.All
import OpenK.AllK
import Wide.FinOn
import KE.KRevSl
import KE.KStar
import PySem.Challenge.RW_mq0055_01
set_option Elab.async false
set_option maxRecDepth 100000
set_option linter.unusedVariables false
set_option linter.unusedSimpArgs false
open PySem PySem.W PyProof.Rows PySem.Calls
namespace Mine
open PySem PySem.W PyProof.Rows
abbrev pw : Program := PySem.Challenge.pw_mq0055_01

/-! ## heaps that grow -/
def Sub (h h' : Heap) : Prop := ∀ b o, h.get? b = some o → h'.get? b = some o
theorem Sub.refl (h : Heap) : Sub h h := fun _ _ e => e
theorem Sub.trans {a b c : Heap} (x : Sub a b) (y : Sub b c) : Sub a c := fun q o e => y q o (x q o e)

theorem kp_refl (s : Shared) : Keeps s s := ⟨s.heap, s.toks, rfl, fun _ _ e => e⟩
theorem kp_trans {a b c : Shared} (x : Keeps a b) (y : Keeps b c) : Keeps a c := by
  obtain ⟨h, t, rfl, k⟩ := x
  obtain ⟨h', t', rfl, k'⟩ := y
  exact ⟨h', t', rfl, fun q o e => k' q o (k q o e)⟩
theorem kp_sub {a b : Shared} (x : Keeps a b) : Sub a.heap b.heap := by
  obtain ⟨h, t, rfl, k⟩ := x
  exact k
theorem kp_tok (s : Shared) (n : Nat) : Keeps s { s with toks := n } := ⟨s.heap, n, rfl, fun _ _ e => e⟩
theorem kp_ht {s : Shared} {h : Heap} {n : Nat} (k : Sub s.heap h) : Keeps s { s with heap := h, toks := n } := ⟨h, n, rfl, k⟩
theorem kp_h {s : Shared} {h : Heap} (k : Sub s.heap h) : Keeps s { s with heap := h } := ⟨h, s.toks, rfl, k⟩
theorem kp_gens {a b : Shared} (x : Keeps a b) : b.gens = a.gens := by obtain ⟨h, t, rfl, _⟩ := x; rfl
theorem kp_os {a b : Shared} (x : Keeps a b) : b.os = a.os := by obtain ⟨h, t, rfl, _⟩ := x; rfl

/-! ## values -/
def IsI (i : Int) (v : Value) : Prop := ∃ t, v = .int i t
def IsS (x : Str) (v : Value) : Prop := ∃ t, v = .str x t
def IsB (b : Bool) (v : Value) : Prop := v = .bool b
def IsV (x : Value) (v : Value) : Prop := v = x
theorem isI (i : Int) (t : Tok) : IsI i (.int i t) := ⟨t, rfl⟩
theorem isS (x : Str) (t : Tok) : IsS x (.str x t) := ⟨t, rfl⟩

section
variable {w : World} {A : Around} {env : Env} {h : Heap}

/-- an expression's value, nothing changed -/
structure Ev (w : World) (A : Around) (env : Env) (h : Heap) (e : Expr) (P : Value → Prop) : Prop where
  run : ∀ (s : Shared) (Q : Value → Shared → Prop) (E : Value → Shared → Prop), Sub h s.heap → (∀ v s', P v → Keeps s s' → Q v s') → wpAny (model pw w) A (eval e env) Q E s
structure Tr (w : World) (A : Around) (env : Env) (h : Heap) (e : Expr) (b : Bool) : Prop where
  run : ∀ (s : Shared) (Q : Bool → Shared → Prop) (E : Value → Shared → Prop), Sub h s.heap → (∀ s', Keeps s s' → Q b s') → wpAny (model pw w) A (isTrue e env (eval e env)) Q E s
structure Cl (w : World) (A : Around) (h : Heap) (f : Value) (args : List Value) (P : Value → Prop) : Prop where
  run : ∀ (s : Shared) (Q : Value → Shared → Prop) (E : Value → Shared → Prop), Sub h s.heap → (∀ v s', P v → Keeps s s' → Q v s') → wpAny (model pw w) A (call f args) Q E s
structure Bop (w : World) (A : Around) (op : Operator) (P₁ P₂ P : Value → Prop) : Prop where
  run : ∀ (s : Shared) (Q : Value → Shared → Prop) (E : Value → Shared → Prop) (a b : Value), P₁ a → P₂ b → (∀ v s', P v → Keeps s s' → Q v s') → wpAny (model pw w) A (binaryOp op a b) Q E s
structure Cop (w : World) (A : Around) (h : Heap) (op : CmpOp) (P₁ P₂ : Value → Prop) (r : Bool) : Prop where
  run : ∀ (s : Shared) (Q : Value → Shared → Prop) (E : Value → Shared → Prop) (a b : Value), Sub h s.heap → P₁ a → P₂ b → (∀ s', Keeps s s' → Q (.bool r) s') → wpAny (model pw w) A (compareOp op a b) Q E s

theorem Ev.mono {e : Expr} {P P' : Value → Prop} (x : Ev w A env h e P) (hp : ∀ v, P v → P' v) : Ev w A env h e P' := .mk fun s Q E hs k => x.run s Q E hs fun v s' p kp => k v s' (hp v p) kp
theorem Ev.sub {e : Expr} {P : Value → Prop} {h' : Heap} (x : Ev w A env h e P) (hh : Sub h h') : Ev w A env h' e P := .mk fun s Q E hs k => x.run s Q E (hh.trans hs) k
theorem Ev.eqI {e : Expr} {i j : Int} (x : Ev w A env h e (IsI i)) (q : i = j) : Ev w A env h e (IsI j) := q ▸ x
theorem Ev.eqS {e : Expr} {i j : Str} (x : Ev w A env h e (IsS i)) (q : i = j) : Ev w A env h e (IsS j) := q ▸ x
theorem Tr.eq {e : Expr} {i j : Bool} (x : Tr w A env h e i) (q : i = j) : Tr w A env h e j := q ▸ x
theorem Tr.sub {e : Expr} {b : Bool} {h' : Heap} (x : Tr w A env h e b) (hh : Sub h h') : Tr w A env h' e b := .mk fun s Q E hs k => x.run s Q E (hh.trans hs) k

theorem Ev.int {i : Int} {k : Nat} {pos : Pos} : Ev w A env h (.Constant (.int i) k pos) (IsI i) := .mk fun _ _ _ _ k => wpAny_Constant_int (k _ _ ⟨_, rfl⟩ (kp_tok _ _))
theorem Ev.str {x : Str} {k : Nat} {pos : Pos} : Ev w A env h (.Constant (.str x) k pos) (IsS x) := .mk fun _ _ _ _ k => wpAny_Constant_str (k _ _ ⟨_, rfl⟩ (kp_tok _ _))
theorem Ev.bool {b : Bool} {k : Nat} {pos : Pos} : Ev w A env h (.Constant (.bool b) k pos) (IsB b) := .mk fun _ _ _ _ k => wpAny_Constant_bool (k _ _ rfl (kp_refl _))

theorem Ev.bin {l r : Expr} {op : Operator} {pos : Pos} {P₁ P₂ P : Value → Prop} (hb : Bop w A op P₁ P₂ P) (x : Ev w A env h l P₁) (y : Ev w A env h r P₂) : Ev w A env h (.BinOp l op r pos) P :=
  .mk fun s Q E hs k => wpAny_BinOp (x.run s _ E hs fun v s₁ p k₁ => y.run s₁ _ E (hs.trans (kp_sub k₁)) fun v₂ s₂ p₂ k₂ => hb.run s₂ Q E v v₂ p p₂ fun v₃ s₃ p₃ k₃ => k v₃ s₃ p₃ (kp_trans k₁ (kp_trans k₂ k₃)))
theorem Bop.add {a b : Int} : Bop w A .Add (IsI a) (IsI b) (IsI (a + b)) := by
  refine ⟨?_⟩
  rintro s Q E _ _ ⟨t, rfl⟩ ⟨u, rfl⟩ k
  exact PyProof.Rows.add_int (k _ _ (isI _ _) (kp_tok _ _))
theorem Bop.sub {a b : Int} : Bop w A .Sub (IsI a) (IsI b) (IsI (a - b)) := by
  refine ⟨?_⟩
  rintro s Q E _ _ ⟨t, rfl⟩ ⟨u, rfl⟩ k
  exact PyProof.Rows.sub_int (k _ _ (isI _ _) (kp_tok _ _))
theorem Bop.mod {a b : Int} (hb : 0 < b) : Bop w A .Mod (IsI a) (IsI b) (IsI (a % b)) := by
  refine ⟨?_⟩
  rintro s Q E _ _ ⟨t, rfl⟩ ⟨u, rfl⟩ k
  refine PyProof.Rows.mod_int' (by omega) (k _ _ ?_ (kp_tok _ _))
  rw [Int.fmod_eq_emod_of_nonneg _ (Int.le_of_lt hb)]
  exact isI _ _
theorem Bop.adds {x y : Str} (hsz : x.length + y.length ≤ sizeLine) : Bop w A .Add (IsS x) (IsS y) (IsS (x ++ y)) := by
  refine ⟨?_⟩
  rintro s Q E _ _ ⟨t, rfl⟩ ⟨u, rfl⟩ k
  exact PyProof.Rows.add_str (fun t' tk => k _ _ (isS _ _) (kp_tok _ _)) hsz

theorem Ev.cmp {l r : Expr} {op : CmpOp} {pos : Pos} {P₁ P₂ : Value → Prop} {c : Bool} (hc : Cop w A h op P₁ P₂ c) (x : Ev w A env h l P₁) (y : Ev w A env h r P₂)
    (hm : behindInMarks op r = false := by with_unfolding_all rfl) : Ev w A env h (.Compare l [op] [r] pos) (IsB c) :=
  .mk fun s Q E hs k => wpAny_Compare1 (x.run s _ E hs fun v s₁ p k₁ => y.run s₁ _ E (hs.trans (kp_sub k₁)) fun v₂ s₂ p₂ k₂ => hc.run s₂ Q E v v₂ (hs.trans (kp_sub (kp_trans k₁ k₂))) p p₂ fun s₃ k₃ => k _ s₃ rfl (kp_trans k₁ (kp_trans k₂ k₃))) hm
theorem Tr.cmp {l r : Expr} {op : CmpOp} {pos : Pos} {P₁ P₂ : Value → Prop} {c : Bool} (hc : Cop w A h op P₁ P₂ c) (x : Ev w A env h l P₁) (y : Ev w A env h r P₂)
    (hm : behindInMarks op r = false := by with_unfolding_all rfl) : Tr w A env h (.Compare l [op] [r] pos) c :=
  .mk fun s Q E hs k => wpAny_isTrue_Compare1 (x.run s _ E hs fun v s₁ p k₁ => y.run s₁ _ E (hs.trans (kp_sub k₁)) fun v₂ s₂ p₂ k₂ => hc.run s₂ _ E v v₂ (hs.trans (kp_sub (kp_trans k₁ k₂))) p p₂ fun s₃ k₃ => wpAny_truthy_bool (k s₃ (kp_trans k₁ (kp_trans k₂ k₃)))) hm
theorem Cop.lt {a b : Int} : Cop w A h .Lt (IsI a) (IsI b) (decide (a < b)) := by
  refine ⟨?_⟩
  rintro s Q E _ _ _ ⟨t, rfl⟩ ⟨u, rfl⟩ k
  exact PyProof.Rows.lt_int (k s (kp_refl _))
theorem Cop.le {a b : Int} : Cop w A h .LtE (IsI a) (IsI b) (decide (a ≤ b)) := by
  refine ⟨?_⟩
  rintro s Q E _ _ _ ⟨t, rfl⟩ ⟨u, rfl⟩ k
  exact PyProof.Rows.le_int (k s (kp_refl _))
theorem Cop.ge {a b : Int} : Cop w A h .GtE (IsI a) (IsI b) (decide (b ≤ a)) := by
  refine ⟨?_⟩
  rintro s Q E _ _ _ ⟨t, rfl⟩ ⟨u, rfl⟩ k
  exact PyProof.Rows.ge_int (k s (kp_refl _))
theorem Cop.eq {a b : Int} : Cop w A h .Eq (IsI a) (IsI b) (a == b) := by
  refine ⟨?_⟩
  rintro s Q E _ _ _ ⟨t, rfl⟩ ⟨u, rfl⟩ k
  exact PyProof.Rows.eq_int (k s (kp_refl _))
theorem Cop.eqs {a b : Str} : Cop w A h .Eq (IsS a) (IsS b) (a == b) := by
  refine ⟨?_⟩
  rintro s Q E _ _ _ ⟨t, rfl⟩ ⟨u, rfl⟩ k
  exact PyProof.Rows.eq_str (k s (kp_refl _))
theorem Cop.nes {a b : Str} : Cop w A h .NotEq (IsS a) (IsS b) (a != b) := by
  refine ⟨?_⟩
  rintro s Q E _ _ _ ⟨t, rfl⟩ ⟨u, rfl⟩ k
  exact PyProof.Rows.ne_str (k s (kp_refl _))

/-! ### names -/
theorem Ev.nameL {n : Str} {pos : Pos} {m : Str → Option Value} {v : Value} (hn : h.Ns env.locals m) (hv : m n = some v)
    (hk : env.scope.kind = .function := by rfl) (hl : env.kindOf n = some .local := by rfl) (hd : (n == ("__debug__" : Str)) = false := by decide) : Ev w A env h (.Name n pos) (IsV v) :=
  .mk fun s _ _ hs k => wpAny_Name (wpAny_loadName_local hk hl (hn.keeps hs) hv (k v s rfl (kp_refl _))) hd
theorem Ev.nameC {n : Str} {pos : Pos} {c : Addr} {v : Value} (hc : h.IsCell c (some v)) (hlk : env.cells.lookup n = some c)
    (hk : env.scope.kind = .function := by rfl) (hl : env.kindOf n = some .cell := by rfl) (hd : (n == ("__debug__" : Str)) = false := by decide) : Ev w A env h (.Name n pos) (IsV v) :=
  .mk fun s _ _ hs k => wpAny_Name (wpAny_loadName_cell hk hl hlk (hc.keeps hs) (k v s rfl (kp_refl _))) hd

/-! ### calls -/
theorem Ev.callB {func a : Expr} {pos : Pos} {id : String} {P₁ P : Value → Prop} (hf : Ev w A env h func (IsV (.builtin id))) (x : Ev w A env h a P₁) (hc : ∀ v, P₁ v → Cl w A h (.builtin id) [v] P)
    (he : eval (.Call func [a] [] pos) env = (do callWith pos (← eval func env) [] (backTo pos (starEach [a] env)) (backToKw pos (keywordEach [] env))) := by rfl)
    (hst : starEach [a] env = (false, eval a env) :: starEach [] env := by rfl) : Ev w A env h (.Call func [a] [] pos) P := .mk fun s Q E hs k => by
  rw [he]
  refine wpAny_bind (hf.run s _ E hs fun f s₁ p k₁ => ?_)
  obtain rfl : f = _ := p
  show wpAny _ _ (callWith pos (.builtin id) [] (backTo pos (starEach [a] env)) []) Q E s₁
  refine callWith_builtin1 (args_cons (x.run s₁ _ E (hs.trans (kp_sub k₁)) fun v s₂ p₂ k₂ => args_nil ?_) hst) hst rfl
  exact (hc v p₂).run s₂ Q E (hs.trans (kp_sub (kp_trans k₁ k₂))) fun v₃ s₃ p₃ k₃ => k v₃ s₃ p₃ (kp_trans k₁ (kp_trans k₂ k₃))
theorem Cl.ord {c : Nat} {t : Tok} : Cl w A h (.builtin "ord") [.str ⟨#[c]⟩ t] (IsI c) := .mk fun _ _ _ _ k => PySem.P.ord_of_char (k _ _ (isI _ _) (kp_tok _ _))
end
end Mine

namespace Mine
open PySem PySem.W PyProof.Rows

/-! ## statements -/
structure Ex (w : World) (A : Around) (env : Env) (c : Stmt) (Q : Flow → Shared → Prop) (E : Value → Shared → Prop) (s : Shared) : Prop where
  run : wpAny (model pw w) A (exec c env) Q E s
structure Exs (w : World) (A : Around) (env : Env) (l : List Stmt) (Q : Flow → Shared → Prop) (E : Value → Shared → Prop) (s : Shared) : Prop where
  run : wpAny (model pw w) A (execs l env) Q E s
/-- behind a statement: the rest, or out -/
def Then (w : World) (A : Around) (env : Env) (rest : List Stmt) (Q : Flow → Shared → Prop) (E : Value → Shared → Prop) (f : Flow) (s : Shared) : Prop := match f with
  | .next => Exs w A env rest Q E s
  | f => Q f s
theorem Exs.cons {w : World} {A : Around} {env : Env} {c : Stmt} {rest : List Stmt} {Q : Flow → Shared → Prop} {E : Value → Shared → Prop} {s : Shared} (x : Ex w A env c (Then w A env rest Q E) E s) : Exs w A env (c :: rest) Q E s :=
  ⟨wpAny_execs_cons (wpAny_mono x.run (fun f s' q => by cases f <;> first | exact q | exact q.run) fun _ _ q => q)⟩
theorem Exs.nil {w : World} {A : Around} {env : Env} {Q : Flow → Shared → Prop} {E : Value → Shared → Prop} {s : Shared} (x : Q .next s) : Exs w A env [] Q E s := ⟨wpAny_execs_nil x⟩

/-! ## a call's own frame -/
structure In (s₀ : Shared) (env : Env) (m cm : Str → Option Value) (l : List (Addr × Obj)) (s : Shared) : Prop where
  same : Keeps s₀ s
  ns : s.heap.Ns env.locals m
  cell : ∀ n c, env.cells.lookup n = some c → s.heap.IsCell c (cm n)
  apart : env.cells.Pairwise fun x y => x.2 ≠ y.2
  above : ∀ n c, (n, c) ∈ env.cells → env.locals < c
  fresh : s₀.heap.objs.size ≤ env.locals
  led : ∀ p ∈ l, s.heap.get? p.1 = some p.2 ∧ s₀.heap.get? p.1 = none ∧ p.1 ≠ env.locals ∧ ∀ n c, env.cells.lookup n = some c → p.1 ≠ c

def upd (m : Str → Option Value) (n : Str) (v : Value) : Str → Option Value := fun y => if y = n then some v else m y
theorem upd_same {m : Str → Option Value} {n : Str} {v : Value} : upd m n v n = some v := if_pos rfl
theorem upd_ne {m : Str → Option Value} {n x : Str} {v : Value} (hx : x ≠ n) : upd m n v x = m x := if_neg hx

section
variable {s₀ s s' : Shared} {env : Env} {m cm : Str → Option Value} {l l' : List (Addr × Obj)}
theorem In.of (x : InCallC s₀ env.locals m env.cells cm s) : In s₀ env m cm [] s :=
  ⟨by obtain ⟨h, t, e, k⟩ := x.done; exact ⟨h, t, e, k⟩, x.toInCall.ns, x.cell, x.apart, x.above, x.toInCall.fresh, fun _ hp => nomatch hp⟩
theorem In.keeps (x : In s₀ env m cm l s) (k : Keeps s s') : In s₀ env m cm l s' :=
  ⟨kp_trans x.same k, x.ns.keeps (kp_sub k), fun n c e => (x.cell n c e).keeps (kp_sub k), x.apart, x.above, x.fresh, fun p hp => ⟨kp_sub k _ _ (x.led p hp).1, (x.led p hp).2⟩⟩
theorem In.add (x : In s₀ env m cm l s) (k : Keeps s s') (hn : ∀ p ∈ l', s.heap.get? p.1 = none ∧ s'.heap.get? p.1 = some p.2) : In s₀ env m cm (l' ++ l) s' := by
  have y := x.keeps k
  refine ⟨y.same, y.ns, y.cell, y.apart, y.above, y.fresh, fun p hp => ?_⟩
  rcases List.mem_append.mp hp with q | q
  · obtain ⟨h1, h2⟩ := hn p q
    refine ⟨h2, ?_, fun e => ?_, fun n c hc e => ?_⟩
    · cases e : s₀.heap.get? p.1 with
      | none => rfl
      | some o => rw [kp_sub x.same _ _ e] at h1; cases h1
    · obtain ⟨o, _, _, ho, _⟩ := x.ns
      rw [e, ho] at h1; cases h1
    · obtain ⟨o, ho, _⟩ := x.cell n c hc
      rw [e, ho] at h1; cases h1
  · exact y.led p q
theorem In.weak (x : In s₀ env m cm l s) (hl : ∀ p ∈ l', p ∈ l) : In s₀ env m cm l' s := ⟨x.same, x.ns, x.cell, x.apart, x.above, x.fresh, fun p hp => x.led p (hl p hp)⟩
theorem In.get (x : In s₀ env m cm l s) {a : Addr} {o : Obj} (hp : (a, o) ∈ l) : s.heap.get? a = some o := (x.led _ hp).1
theorem In.neu (x : In s₀ env m cm l s) : ∀ p ∈ l, s₀.heap.get? p.1 = none ∧ s.heap.get? p.1 = some p.2 := fun p hp => ⟨(x.led p hp).2.1, (x.led p hp).1⟩
theorem In.old (x : In s₀ env m cm l s) : Sub s₀.heap s.heap := kp_sub x.same

theorem In.stL {M : Model} {A : Around} {E : Value → Shared → Prop} {n : Str} {v : Value} {Q : Unit → Shared → Prop} (x : In s₀ env m cm l s)
    (k : ∀ s', In s₀ env (upd m n v) cm l s' → Q () s') (hk : env.scope.kind = .function := by rfl) (hl : env.kindOf n = some .local := by rfl) : wpAny M A (storeName env n v) Q E s := by
  refine wpAny_storeName_local hl x.ns (fun h' hn hs => k _ ⟨?_, hn, fun y c hc => ?_, x.apart, x.above, x.fresh, fun p hp => ?_⟩) (by rw [hk]; rfl)
  · obtain ⟨h, t, rfl, ks⟩ := x.same
    exact ⟨h', _, rfl, fun b o e => (hs.2 b (Nat.ne_of_lt (Nat.lt_of_lt_of_le (Heap.lt_size e) x.fresh))).trans (ks b o e)⟩
  · exact (x.cell y c hc).sameBut hs (Nat.ne_of_gt (x.above y c (mem_of_lookup hc)))
  · exact ⟨(hs.2 _ (x.led p hp).2.2.1).trans (x.led p hp).1, (x.led p hp).2⟩
theorem In.stC {M : Model} {A : Around} {E : Value → Shared → Prop} {n : Str} {c : Addr} {v : Value} {Q : Unit → Shared → Prop} (x : In s₀ env m cm l s) (hc : env.cells.lookup n = some c)
    (k : ∀ s', In s₀ env m (upd cm n v) l s' → Q () s') (hk : env.scope.kind = .function := by rfl) (hl : env.kindOf n = some .cell := by rfl) : wpAny M A (storeName env n v) Q E s := by
  have hLc := x.above n c (mem_of_lookup hc)
  refine wpAny_storeName_cell hk hl hc (x.cell n c hc) fun h' hn hs => k _ ⟨?_, x.ns.sameBut hs (Nat.ne_of_lt hLc), fun y c' hy => ?_, x.apart, x.above, x.fresh, fun p hp => ?_⟩
  · obtain ⟨h, t, rfl, ks⟩ := x.same
    exact ⟨h', _, rfl, fun b o e => (hs.2 b (Nat.ne_of_lt (Nat.lt_trans (Nat.lt_of_lt_of_le (Heap.lt_size e) x.fresh) hLc))).trans (ks b o e)⟩
  · by_cases e : y = n
    · subst e
      rw [hc] at hy; cases hy
      rw [upd_same]; exact hn
    · rw [upd_ne e]
      exact (x.cell y c' hy).sameBut hs fun q => e (name_of_addr x.apart (mem_of_lookup hy) (q ▸ mem_of_lookup hc))
  · exact ⟨(hs.2 _ ((x.led p hp).2.2.2 n c hc)).trans (x.led p hp).1, (x.led p hp).2⟩

/-! ### names -/
theorem In.vL {w : World} {A : Around} {n : Str} {pos : Pos} {v : Value} (x : In s₀ env m cm l s) (hv : m n = some v)
    (hk : env.scope.kind = .function := by rfl) (hl : env.kindOf n = some .local := by rfl) (hd : (n == ("__debug__" : Str)) = false := by decide) : Ev w A env s.heap (.Name n pos) (IsV v) := Ev.nameL x.ns hv hk hl hd
theorem In.vC {w : World} {A : Around} {n : Str} {pos : Pos} {c : Addr} {v : Value} (x : In s₀ env m cm l s) (hlk : env.cells.lookup n = some c) (hv : cm n = some v)
    (hk : env.scope.kind = .function := by rfl) (hl : env.kindOf n = some .cell := by rfl) (hd : (n == ("__debug__" : Str)) = false := by decide) : Ev w A env s.heap (.Name n pos) (IsV v) :=
  Ev.nameC (hv ▸ x.cell n c hlk) hlk hk hl hd

theorem In.vI {w : World} {A : Around} {n : Str} {pos : Pos} {i : Int} {t : Tok} (x : In s₀ env m cm l s) (hv : m n = some (.int i t))
    (hk : env.scope.kind = .function := by rfl) (hl : env.kindOf n = some .local := by rfl) (hd : (n == ("__debug__" : Str)) = false := by decide) : Ev w A env s.heap (.Name n pos) (IsI i) := (Ev.nameL x.ns hv hk hl hd).mono fun v e => ⟨t, e⟩
theorem In.vS {w : World} {A : Around} {n : Str} {pos : Pos} {i : Str} {t : Tok} (x : In s₀ env m cm l s) (hv : m n = some (.str i t))
    (hk : env.scope.kind = .function := by rfl) (hl : env.kindOf n = some .local := by rfl) (hd : (n == ("__debug__" : Str)) = false := by decide) : Ev w A env s.heap (.Name n pos) (IsS i) := (Ev.nameL x.ns hv hk hl hd).mono fun v e => ⟨t, e⟩
theorem In.cS {w : World} {A : Around} {n : Str} {pos : Pos} {c : Addr} {i : Str} {t : Tok} (x : In s₀ env m cm l s) (hlk : env.cells.lookup n = some c) (hv : cm n = some (.str i t))
    (hk : env.scope.kind = .function := by rfl) (hl : env.kindOf n = some .cell := by rfl) (hd : (n == ("__debug__" : Str)) = false := by decide) : Ev w A env s.heap (.Name n pos) (IsS i) :=
  (Ev.nameC (hv ▸ x.cell n c hlk) hlk hk hl hd).mono fun v e => ⟨t, e⟩
theorem In.cI {w : World} {A : Around} {n : Str} {pos : Pos} {c : Addr} {i : Int} {t : Tok} (x : In s₀ env m cm l s) (hlk : env.cells.lookup n = some c) (hv : cm n = some (.int i t))
    (hk : env.scope.kind = .function := by rfl) (hl : env.kindOf n = some .cell := by rfl) (hd : (n == ("__debug__" : Str)) = false := by decide) : Ev w A env s.heap (.Name n pos) (IsI i) :=
  (Ev.nameC (hv ▸ x.cell n c hlk) hlk hk hl hd).mono fun v e => ⟨t, e⟩

/-! ### statements -/
theorem In.assignL {w : World} {A : Around} {E : Value → Shared → Prop} {n : Str} {pos pos' : Pos} {value : Expr} {P : Value → Prop} {Q : Flow → Shared → Prop} (x : In s₀ env m cm l s)
    (he : Ev w A env s.heap value P) (k : ∀ v s', P v → In s₀ env (upd m n v) cm l s' → Q .next s')
    (hs : swapsWith value (some (.Name n pos')) pos.line env = pure false := by rfl) (hk : env.scope.kind = .function := by rfl) (hl : env.kindOf n = some .local := by rfl) :
    Ex w A env (.Assign [.Name n pos'] value pos) Q E s := .mk <|
  wpAny_Assign_Name (he.run s _ E (Sub.refl _) fun v s₁ p k₁ => (x.keeps k₁).stL (fun s₂ y => k v s₂ p y) hk hl) hs
theorem In.assignC {w : World} {A : Around} {E : Value → Shared → Prop} {n : Str} {c : Addr} {pos pos' : Pos} {value : Expr} {P : Value → Prop} {Q : Flow → Shared → Prop} (x : In s₀ env m cm l s)
    (hc : env.cells.lookup n = some c) (he : Ev w A env s.heap value P) (k : ∀ v s', P v → In s₀ env m (upd cm n v) l s' → Q .next s')
    (hs : swapsWith value (some (.Name n pos')) pos.line env = pure false := by rfl) (hk : env.scope.kind = .function := by rfl) (hl : env.kindOf n = some .cell := by rfl) :
    Ex w A env (.Assign [.Name n pos'] value pos) Q E s := .mk <|
  wpAny_Assign_Name (he.run s _ E (Sub.refl _) fun v s₁ p k₁ => (x.keeps k₁).stC hc (fun s₂ y => k v s₂ p y) hk hl) hs
theorem In.ret {w : World} {A : Around} {E : Value → Shared → Prop} {pos : Pos} {value : Expr} {P : Value → Prop} {Q : Flow → Shared → Prop} (x : In s₀ env m cm l s)
    (he : Ev w A env s.heap value P) (k : ∀ v s', P v → In s₀ env m cm l s' → Q (.ret v) s') : Ex w A env (.Return (some value) pos) Q E s := .mk <|
  wpAny_Return_some (he.run s _ E (Sub.refl _) fun v s₁ p k₁ => k v s₁ p (x.keeps k₁))
theorem In.ite {w : World} {A : Around} {E : Value → Shared → Prop} {pos : Pos} {test : Expr} {body orelse : List Stmt} {b : Bool} {Q : Flow → Shared → Prop} (x : In s₀ env m cm l s)
    (he : Tr w A env s.heap test b) (kt : b = true → ∀ s', In s₀ env m cm l s' → Exs w A env body Q E s')
    (kf : b = false → ∀ s', In s₀ env m cm l s' → Exs w A env orelse Q E s') : Ex w A env (.If test body orelse pos) Q E s := .mk <|
  wpAny_If (he.run s _ E (Sub.refl _) fun s₁ k₁ => by
    cases b with
    | true => exact (kt rfl s₁ (x.keeps k₁)).run
    | false => exact (kf rfl s₁ (x.keeps k₁)).run)
end
end Mine

namespace Mine
open PySem PySem.W PyProof.Rows PySem.Calls

def itemOf : Stmt → Option DefItem
  | .FunctionDef n a b _ _ _ sc _ _ p => some ⟨n, a, b, sc, p⟩
  | _ => none
def itemAt (i : Nat) : Option DefItem := pw.main.body[i]?.bind itemOf

def FnAt (h : Heap) (d : DefItem) (f : Addr) : Prop :=
  ∃ c' o pm doc, h.get? f = some o ∧ o.data = .func (docDef d.name d.params d.body d.scope pm (.ref c') doc) ∧ h.CodeRec (.ref c') d.name
theorem FnAt.keeps {h h' : Heap} {d : DefItem} {f : Addr} (x : FnAt h d f) (k : Sub h h') : FnAt h' d f :=
  let ⟨c', o, pm, doc, a, b, c⟩ := x; ⟨c', o, pm, doc, k _ _ a, b, c.keeps k⟩

def freeNames : List Str := ["ord", "chr", "str", "len", "range"]
def iFrom (a : Int) (n : Nat) : List Int := (List.range n).map fun i : Nat => a + (i : Int)
def b1L : List Int := [173, 847, 6150, 6155, 6156, 6157, 8203, 8204, 8205, 8288, 65279] ++ iFrom 65024 16
def c6L : List Int := iFrom 65529 5
def c7L : List Int := iFrom 12272 12
def c8L : List Int := [832, 833, 8206, 8207] ++ iFrom 8234 5 ++ iFrom 8298 6
def c9L : List Int := [917505] ++ iFrom 917536 96
def setNames : List (Str × List Int) := [("b1_set", b1L), ("c6_set", c6L), ("c7_set", c7L), ("c8_set", c8L), ("c9_set", c9L)]

/-- what the top has left -/
structure Gl (w : World) (mg mb : Str → Option Value) (h : Heap) : Prop where
  g : h.Ns mainGlobals mg
  b : h.Ns builtinsNs mb
  bi : ∀ x : Str, x ≠ "__name__" → mb x = bootBuiltins x
  lim : h.NoLimit
  fn : ∀ i d, itemAt i = some d → ∃ f, mg d.name = some (.ref f) ∧ FnAt h d f
  free : ∀ x ∈ freeNames, mg x = none
  set : ∀ p ∈ setNames, ∃ a n, mg p.1 = some (.ref a) ∧ h.SetOf (intKind pw w) a (fun k => decide (k ∈ p.2)) n

section
variable {w : World} {A : Around} {mg mb : Str → Option Value} {h h' : Heap}
theorem setOf_keeps {a : Addr} {S : Int → Bool} {n : Nat} (x : h.SetOf (intKind pw w) a S n) (k : Sub h h') : h'.SetOf (intKind pw w) a S n := by
  obtain ⟨o, es, ep, t, ho, r⟩ := x
  exact ⟨o, es, ep, t, k _ _ ho, r⟩
theorem Gl.keeps (G : Gl w mg mb h) (k : Sub h h') : Gl w mg mb h' :=
  ⟨G.g.keeps k, G.b.keeps k, G.bi, G.lim.keeps k, fun i d e => let ⟨f, a, b⟩ := G.fn i d e; ⟨f, a, b.keeps k⟩, G.free, fun p hp => let ⟨a, n, e, x⟩ := G.set p hp; ⟨a, n, e, setOf_keeps x k⟩⟩

theorem Ev.glob {env : Env} {x : Str} {pos : Pos} {v : Value} (G : Gl w mg mb h) (hv : mg x = some v) (hg : env.globals = mainGlobals := by rfl)
    (hk : env.scope.kind = .function := by rfl) (hx : env.kindOf x = some .globalImplicit := by rfl) (hd : (x == ("__debug__" : Str)) = false := by decide) : Ev w A env h (.Name x pos) (IsV v) :=
  .mk fun s Q E hs k => Name_function_global hk hx (loadGlobal_global (hg ▸ (G.keeps hs).g) hv (k v s rfl (kp_refl _))) hd
theorem Ev.blt {env : Env} {x : Str} {pos : Pos} {v : Value} (G : Gl w mg mb h) (hf : x ∈ freeNames) (hv : bootBuiltins x = some v) (hn : x ≠ "__name__" := by decide) (hg : env.globals = mainGlobals := by rfl) (hb : env.builtins = builtinsNs := by rfl)
    (hk : env.scope.kind = .function := by rfl) (hx : env.kindOf x = some .globalImplicit := by rfl) (hd : (x == ("__debug__" : Str)) = false := by decide) : Ev w A env h (.Name x pos) (IsV v) :=
  .mk fun s Q E hs k => Name_function_global hk hx (loadGlobal_builtin (hg ▸ (G.keeps hs).g) (G.free x hf) (hb ▸ (G.keeps hs).b) ((G.bi x hn).trans hv) (k v s rfl (kp_refl _))) hd

theorem kinds_of {scope : Scope} {names : List Str} (vals : List Value) (e : (names.all fun n => scope.names.lookup n == some .local || scope.names.lookup n == some .cell) = true) :
    ∀ n, ∀ x ∈ names.zip vals, scope.names.lookup x.1 = some .local ∨ (scope.names.lookup x.1 = some .cell ∧ ((cellsFrom n scope.names []).lookup x.1).isSome = true) :=
  kindsX (List.all_eq_true.mpr fun x hx => List.all_eq_true.mp e x.1 (List.of_mem_zip hx).1)
def Back (Q : Value → Shared → Prop) (f : Flow) (s : Shared) : Prop := match f with
  | .ret v => Q v s
  | _ => Q .none s
theorem callAt {s : Shared} {E : Value → Shared → Prop} {name : Str} {params : Arguments} {body : List Stmt} {scope : Scope} {pos : Pos} {f : Addr} {vals : List Value} {Q : Value → Shared → Prop}
    (hf : FnAt s.heap ⟨name, params, body, scope, pos⟩ f) (lim : s.heap.NoLimit) (hroom : A.depth < recursionLimit)
    (hbind : ∀ pm cd doc, bindArgs (docDef name params body scope pm cd doc) ⟨vals, []⟩ = pure ((params.args.map (·.arg)).zip vals))
    (hkind : ((params.args.map (·.arg)).all fun n => scope.names.lookup n == some .local || scope.names.lookup n == some .cell) = true)
    (k : ∀ pm cd doc s₁, In s (callEnvC (docDef name params body scope pm cd doc) s.heap.objs.size f) (bindL (fun n => scope.names.lookup n) ((params.args.map (·.arg)).zip vals) fun _ => none)
        (bindC (fun n => scope.names.lookup n) ((params.args.map (·.arg)).zip vals) fun _ => none) [] s₁ →
      Exs w (A.deeper (callEnvC (docDef name params body scope pm cd doc) s.heap.objs.size f)) (callEnvC (docDef name params body scope pm cd doc) s.heap.objs.size f) body (Back Q) (fun _ _ => False) s₁)
    (hco : scope.isCoroutine = false := by rfl) (hgen : scope.isGenerator = false := by rfl) (hk : scope.kind = .function := by rfl) :
    wpAny (model pw w) A (call (.ref f) vals) Q E s := by
  obtain ⟨c', o, pm, doc, ho, hd, hcd⟩ := hf
  refine wpAny_call (codeAny_call_cells hroom ho hd lim hcd rfl (hbind _ _ _) rfl (kinds_of _ hkind _) (fun s₁ x => ?_) hco hgen hk)
  exact wpAny_mono (k pm (.ref c') doc s₁ (.of x)).run (fun f _ q => by cases f <;> exact q) fun _ _ q => q.elim
end
end Mine

namespace Mine
open PySem PySem.W PyProof.Rows PySem.Calls
section
variable {w : World} {A : Around} {mg mb : Str → Option Value} {h h' : Heap} {env : Env}

theorem Ev.in2 {l : Expr} {a b k : Int} {i j n : Nat} {p q r pos : Pos} (x : Ev w A env h l (IsI k)) :
    Ev w A env h (.Compare l [.In] [.Tuple [.Constant (.int a) i p, .Constant (.int b) j q] n r] pos) (IsB ([a, b].any (· == k))) := .mk fun s Q E hs K => by
  refine wpAny_Compare1 (x.run s _ E hs fun v s₁ p₁ k₁ => ?_)
  obtain ⟨t, rfl⟩ := p₁
  refine wpAny_Tuple (wpAny_items_cons (wpAny_Constant_int (wpAny_items_cons (wpAny_Constant_int (wpAny_items_nil ⟨(by show 2 ≤ sizeLine; decide), ?_⟩)))))
  refine in_tuple_ints (ns := [a, b]) ⟨_, Heap.get?_push_size _ rfl, rfl, _, rfl⟩ (.cons _ _ (.cons _ _ .nil)) (K _ _ rfl ?_)
  exact kp_trans k₁ (kp_ht fun b o e => Heap.get?_push_of_some _ e)

theorem Bop.land {n m : Nat} : Bop w A .BitAnd (IsI (n : Int)) (IsI (m : Int)) (IsI ((n &&& m : Nat) : Int)) := by
  refine ⟨?_⟩
  rintro s Q E _ _ ⟨t, rfl⟩ ⟨u, rfl⟩ k
  refine PyProof.Rows.and_int (k _ _ ?_ (kp_tok _ _))
  rw [bitAnd_pp (by omega) (by omega)]
  exact isI _ _
theorem Cop.inSet {k : Int} {a : Addr} {L : List Int} {n : Nat} (x : h.SetOf (intKind pw w) a (fun k => decide (k ∈ L)) n) : Cop w A h .In (IsI k) (IsV (.ref a)) (decide (k ∈ L)) := by
  refine ⟨?_⟩
  rintro s Q E _ _ hs ⟨t, rfl⟩ e K
  obtain rfl : _ = Value.ref a := e
  exact wpAny_inSet_of (knd := intKind pw w) (k := k) (by simp [intKind, Value.isInt]) rfl (setOf_keeps x hs) (K _ (kp_tok _ _))

/-- the sign of one number -/
abbrev sg (n : Nat) : Str := ⟨#[n]⟩
def inC4 (n : Nat) : Bool := if n < 64976 then false else if n < 65008 then true else (n % 65536 == 65534 || n % 65536 == 65535)
theorem land_mod (n : Nat) : n &&& 65535 = n % 65536 := Nat.and_two_pow_sub_one_eq_mod n 16
theorem inC4_eq (n : Nat) (h : 65008 ≤ n) : ([65534, 65535] : List Int).any (· == ((n &&& 65535 : Nat) : Int)) = inC4 n := by
  rw [land_mod]
  unfold inC4
  rw [if_neg (by omega), if_neg (by omega)]
  simp only [List.any_cons, List.any_nil, Bool.or_false]
  rw [Bool.eq_iff_iff]
  simp only [Bool.or_eq_true, beq_iff_eq]
  omega

theorem evOrd {env : Env} {a : Expr} {pos p : Pos} {n : Nat} (G : Gl w mg mb h) (x : Ev w A env h a (IsS (sg n))) (hg : env.globals = mainGlobals := by rfl) (hb : env.builtins = builtinsNs := by rfl)
    (hk : env.scope.kind = .function := by rfl) (hx : env.kindOf "ord" = some .globalImplicit := by rfl) (hst : starEach [a] env = (false, eval a env) :: starEach [] env := by rfl) :
    Ev w A env h (.Call (.Name "ord" p) [a] [] pos) (IsI (n : Int)) :=
  Ev.callB (Ev.blt G (by decide) (v := .builtin "ord") (by decide +kernel) (by decide) hg hb hk hx) x (fun v ⟨t, e⟩ => e ▸ Cl.ord) rfl hst

set_option maxHeartbeats 1000000
theorem c11 (G : Gl w mg mb h) (hroom : A.depth < recursionLimit) {f : Addr} {n : Nat} {t : Tok} (hf : mg "in_table_c11" = some (.ref f)) :
    Cl w A h (.ref f) [.str (sg n) t] (IsB (n == 32)) := .mk fun s Q E hs k => by
  have G := G.keeps hs
  obtain ⟨f', e, F⟩ := G.fn 5 ⟨_, _, _, _, _⟩ rfl
  obtain rfl : f' = f := by simpa using e.symm.trans hf
  refine callAt F G.lim hroom (fun _ _ _ => rfl) (by rfl) fun pm cd doc s₁ x => ?_
  refine Exs.cons (x.ret (Ev.cmp Cop.eqs ((x.vL rfl).mono fun v e => e ▸ isS _ _) Ev.str) ?_)
  rintro v s' hv x'
  refine k v s' ?_ x'.same
  have : ((sg n : Str) == Str.ofString " ") = (n == 32) := by
    rw [show Str.ofString " " = sg 32 by decide +kernel, Bool.eq_iff_iff]
    simp [sg]
  exact this ▸ hv
theorem c4 (G : Gl w mg mb h) (hroom : A.depth < recursionLimit) {f : Addr} {n : Nat} {t : Tok} (hf : mg "in_table_c4" = some (.ref f)) :
    Cl w A h (.ref f) [.str (sg n) t] (IsB (inC4 n)) := .mk fun s Q E hs k => by
  have G := G.keeps hs
  obtain ⟨f', e, F⟩ := G.fn 6 ⟨_, _, _, _, _⟩ rfl
  obtain rfl : f' = f := by simpa using e.symm.trans hf
  refine callAt F G.lim hroom (fun _ _ _ => rfl) (by rfl) fun pm cd doc s₁ x => ?_
  refine Exs.cons (x.assignL (evOrd (n := n) (G.keeps x.old) ((x.vL rfl).mono fun v e => e ▸ isS _ _)) ?_)
  rintro v s₂ ⟨u, rfl⟩ x
  refine Exs.cons (x.ite (Tr.cmp Cop.lt ((x.vL rfl).mono fun v e => e ▸ isI _ _) Ev.int) (fun hb s₃ x => ?_) fun hb s₃ x => ?_)
  · refine Exs.cons (x.ret Ev.bool fun v s₄ hv x => k v s₄ ?_ x.same)
    have : inC4 n = false := by unfold inC4; rw [if_pos (by simp at hb; omega)]
    exact this ▸ hv
  refine Exs.nil ?_
  refine Exs.cons (x.ite (Tr.cmp Cop.lt ((x.vL rfl).mono fun v e => e ▸ isI _ _) Ev.int) (fun hb' s₃ x => ?_) fun hb' s₃ x => ?_)
  · refine Exs.cons (x.ret Ev.bool fun v s₄ hv x => k v s₄ ?_ x.same)
    have : inC4 n = true := by unfold inC4; rw [if_neg (by simp at hb; omega), if_pos (by simp at hb'; omega)]
    exact this ▸ hv
  refine Exs.nil ?_
  refine Exs.cons (x.ret (Ev.in2 (Ev.bin (Bop.land (n := n) (m := 65535)) (evOrd (n := n) (G.keeps x.old) ((x.vL rfl).mono fun v e => e ▸ isS _ _)) Ev.int)) fun v s₄ hv x => k v s₄ ?_ x.same)
  rw [inC4_eq n (by simp at hb'; omega)] at hv
  exact hv
theorem b1 (G : Gl w mg mb h) (hroom : A.depth < recursionLimit) {f : Addr} {n : Nat} {t : Tok} (hf : mg "in_table_b1" = some (.ref f)) :
    Cl w A h (.ref f) [.str (sg n) t] (IsB (decide ((n : Int) ∈ b1L))) := .mk fun s Q E hs k => by
  have G := G.keeps hs
  obtain ⟨f', e, F⟩ := G.fn 4 ⟨_, _, _, _, _⟩ rfl
  obtain rfl : f' = f := by simpa using e.symm.trans hf
  obtain ⟨a, N, ea, S⟩ := G.set ("b1_set", b1L) (by simp [setNames])
  refine callAt F G.lim hroom (fun _ _ _ => rfl) (by rfl) fun pm cd doc s₁ x => ?_
  refine Exs.cons (x.ret (Ev.cmp (Cop.inSet (setOf_keeps S x.old)) (evOrd (n := n) (G.keeps x.old) ((x.vL rfl).mono fun v e => e ▸ isS _ _)) (Ev.glob (G.keeps x.old) ea)) fun v s₄ hv x => k v s₄ hv x.same)
theorem c6 (G : Gl w mg mb h) (hroom : A.depth < recursionLimit) {f : Addr} {n : Nat} {t : Tok} (hf : mg "in_table_c6" = some (.ref f)) :
    Cl w A h (.ref f) [.str (sg n) t] (IsB (decide ((n : Int) ∈ c6L))) := .mk fun s Q E hs k => by
  have G := G.keeps hs
  obtain ⟨f', e, F⟩ := G.fn 8 ⟨_, _, _, _, _⟩ rfl
  obtain rfl : f' = f := by simpa using e.symm.trans hf
  obtain ⟨a, N, ea, S⟩ := G.set ("c6_set", c6L) (by simp [setNames])
  refine callAt F G.lim hroom (fun _ _ _ => rfl) (by rfl) fun pm cd doc s₁ x => ?_
  refine Exs.cons (x.ret (Ev.cmp (Cop.inSet (setOf_keeps S x.old)) (evOrd (n := n) (G.keeps x.old) ((x.vL rfl).mono fun v e => e ▸ isS _ _)) (Ev.glob (G.keeps x.old) ea)) fun v s₄ hv x => k v s₄ hv x.same)
theorem c7 (G : Gl w mg mb h) (hroom : A.depth < recursionLimit) {f : Addr} {n : Nat} {t : Tok} (hf : mg "in_table_c7" = some (.ref f)) :
    Cl w A h (.ref f) [.str (sg n) t] (IsB (decide ((n : Int) ∈ c7L))) := .mk fun s Q E hs k => by
  have G := G.keeps hs
  obtain ⟨f', e, F⟩ := G.fn 10 ⟨_, _, _, _, _⟩ rfl
  obtain rfl : f' = f := by simpa using e.symm.trans hf
  obtain ⟨a, N, ea, S⟩ := G.set ("c7_set", c7L) (by simp [setNames])
  refine callAt F G.lim hroom (fun _ _ _ => rfl) (by rfl) fun pm cd doc s₁ x => ?_
  refine Exs.cons (x.ret (Ev.cmp (Cop.inSet (setOf_keeps S x.old)) (evOrd (n := n) (G.keeps x.old) ((x.vL rfl).mono fun v e => e ▸ isS _ _)) (Ev.glob (G.keeps x.old) ea)) fun v s₄ hv x => k v s₄ hv x.same)
theorem c8 (G : Gl w mg mb h) (hroom : A.depth < recursionLimit) {f : Addr} {n : Nat} {t : Tok} (hf : mg "in_table_c8" = some (.ref f)) :
    Cl w A h (.ref f) [.str (sg n) t] (IsB (decide ((n : Int) ∈ c8L))) := .mk fun s Q E hs k => by
  have G := G.keeps hs
  obtain ⟨f', e, F⟩ := G.fn 12 ⟨_, _, _, _, _⟩ rfl
  obtain rfl : f' = f := by simpa using e.symm.trans hf
  obtain ⟨a, N, ea, S⟩ := G.set ("c8_set", c8L) (by simp [setNames])
  refine callAt F G.lim hroom (fun _ _ _ => rfl) (by rfl) fun pm cd doc s₁ x => ?_
  refine Exs.cons (x.ret (Ev.cmp (Cop.inSet (setOf_keeps S x.old)) (evOrd (n := n) (G.keeps x.old) ((x.vL rfl).mono fun v e => e ▸ isS _ _)) (Ev.glob (G.keeps x.old) ea)) fun v s₄ hv x => k v s₄ hv x.same)
theorem c9 (G : Gl w mg mb h) (hroom : A.depth < recursionLimit) {f : Addr} {n : Nat} {t : Tok} (hf : mg "in_table_c9" = some (.ref f)) :
    Cl w A h (.ref f) [.str (sg n) t] (IsB (decide ((n : Int) ∈ c9L))) := .mk fun s Q E hs k => by
  have G := G.keeps hs
  obtain ⟨f', e, F⟩ := G.fn 14 ⟨_, _, _, _, _⟩ rfl
  obtain rfl : f' = f := by simpa using e.symm.trans hf
  obtain ⟨a, N, ea, S⟩ := G.set ("c9_set", c9L) (by simp [setNames])
  refine callAt F G.lim hroom (fun _ _ _ => rfl) (by rfl) fun pm cd doc s₁ x => ?_
  refine Exs.cons (x.ret (Ev.cmp (Cop.inSet (setOf_keeps S x.old)) (evOrd (n := n) (G.keeps x.old) ((x.vL rfl).mono fun v e => e ▸ isS _ _)) (Ev.glob (G.keeps x.old) ea)) fun v s₄ hv x => k v s₄ hv x.same)
end
end Mine

namespace Mine
open PySem PySem.W PyProof.Rows PySem.Calls
section
variable {w : World} {A : Around} {mg mb : Str → Option Value} {h h' : Heap} {env : Env}

/-- an expression that makes a new list -/
structure EvL (w : World) (A : Around) (env : Env) (h : Heap) (e : Expr) (P : List Value → Prop) : Prop where
  run : ∀ (s : Shared) (Q : Value → Shared → Prop) (E : Value → Shared → Prop), Sub h s.heap → (∀ a vs s', s.heap.get? a = none → s'.heap.PlainList a vs.toArray → P vs → Keeps s s' → Q (.ref a) s') → wpAny (model pw w) A (eval e env) Q E s
theorem EvL.mono {e : Expr} {P P' : List Value → Prop} (x : EvL w A env h e P) (hp : ∀ v, P v → P' v) : EvL w A env h e P' := .mk fun s Q E hs k => x.run s Q E hs fun a v s' f l p kp => k a v s' f l (hp v p) kp

/-- an expression that is gone through -/
structure Src (w : World) (A : Around) (env : Env) (h : Heap) (e : Expr) (n : Nat) (P : Nat → Value → Prop) : Prop where
  run : ∀ (s : Shared) (Q : Value → Shared → Prop) (E : Value → Shared → Prop), Sub h s.heap →
    (∀ I fp wr St s₂, Walks pw w A I fp wr n P St → St 0 s₂.heap → (∀ b ∈ fp, b < s₂.heap.objs.size) → (∀ b ∈ wr, s.heap.get? b = none) → Keeps s s₂ → Q (.ref I) s₂) →
    wpAny (model pw w) A (eval e env) (fun xv s₁ => wpAny (model pw w) A (pyIter xv) Q E s₁) E s

theorem none_of_ge {h : Heap} {b : Addr} (q : h.objs.size ≤ b) : h.get? b = none := by
  cases e : h.get? b with
  | none => rfl
  | some o => exact absurd (Heap.lt_size e) (Nat.not_lt.mpr q)
theorem none_of_sub {h h' : Heap} {b : Addr} (x : Sub h h') (q : h'.get? b = none) : h.get? b = none := by
  cases e : h.get? b with
  | none => rfl
  | some o => rw [x b o e] at q; cases q

theorem isList_keeps {h h' : Heap} {a : Addr} {items : Array Value} (x : h.IsList a items) (k : Sub h h') : h'.IsList a items := let ⟨o, ho, r⟩ := x; ⟨o, k _ _ ho, r⟩
theorem plain_keeps {h h' : Heap} {a : Addr} {items : Array Value} (x : h.PlainList a items) (k : Sub h h') : h'.PlainList a items := let ⟨n, ho⟩ := x; ⟨n, k _ _ ho⟩
theorem Src.list {e : Expr} {R : Addr} {items : Array Value} (hh : A.handled = none) (x : Ev w A env h e (IsV (.ref R))) (hl : h.IsList R items) :
    Src w A env h e items.size (fun i v => items[i]? = some v) := .mk fun s Q E hs k => by
  refine x.run s _ E hs fun v s₁ p k₁ => ?_
  obtain rfl : v = _ := p
  have hl₁ := isList_keeps hl (hs.trans (kp_sub k₁))
  have hlt : R < s₁.heap.objs.size := by obtain ⟨o, ho, _⟩ := hl₁; exact Heap.lt_size ho
  refine wpAny_pyIter_list hl₁ (k s₁.heap.objs.size _ _ _ _ (Walks.list hh s₁.heap.objs.size R (Nat.ne_of_lt hlt) items) ⟨⟨_, Heap.get?_push_size _ rfl, rfl, rfl⟩, isList_keeps hl₁ fun b o e => Heap.get?_push_of_some _ e⟩ ?_ ?_ ?_)
  · intro b hb
    rw [Heap.size_push]
    simp at hb
    rcases hb with rfl | rfl
    · exact Nat.lt_succ_self _
    · exact Nat.lt_succ_of_lt hlt
  · intro b hb
    simp at hb
    subst hb
    exact none_of_sub (kp_sub k₁) (none_of_ge (Nat.le_refl _))
  · exact kp_trans k₁ (kp_h fun b o e => Heap.get?_push_of_some _ e)
theorem Src.str {e : Expr} {x : Str} (hh : A.handled = none) (q : Ev w A env h e (IsS x)) : Src w A env h e x.cps.size (SignAt x) := .mk fun s Q E hs k => by
  refine q.run s _ E hs fun v s₁ p k₁ => ?_
  obtain ⟨t, rfl⟩ := p
  refine wpAny_pyIter_str fun o St W st => k _ _ _ _ _ (W A hh) st ?_ ?_ ?_
  · intro b hb
    rw [Heap.size_push]
    simp at hb
    subst hb
    exact Nat.lt_succ_self _
  · intro b hb
    simp at hb
    subst hb
    exact none_of_sub (kp_sub k₁) (none_of_ge (Nat.le_refl _))
  · exact kp_trans k₁ (kp_h fun b o e => Heap.get?_push_of_some _ e)

theorem EvL.comp {elt iter : Expr} {x : Str} {px pos : Pos} {ifs : List Expr} {scope : Scope} {cl : List (Str × Addr)} {n : Nat} {P : Nat → Value → Prop} (p : Value → Bool) (F : Value → Value → Prop)
    (src : Src w A env h iter n P) (hn : n ≤ sizeLine) (hclos : closureFor scope env = pure cl)
    (hcell : (scope.names.all fun y => y.2 != .cell) = true) (hnames : (scope.names.all fun y => y.2 != .local || scope.names.lookup y.1 == some .local) = true) (hx : scope.names.lookup x = some .local)
    (ht : ∀ C s₃ m₃ i v, s₃.heap.Ns C m₃ → m₃ x = some v → P i v → Sub h s₃.heap → ∀ E' : Value → Shared → Prop,
      wpAny (model pw w) A (forIn ifs true fun c r => if r = true then do let ok ← isTrue c (compEnvC scope cl C env) (eval c (compEnvC scope cl C env)); pure (ForInStep.yield ok) else pure (ForInStep.yield r)) (fun ok s₄ => ok = p v ∧ Keeps s₃ s₄) E' s₃)
    (he : ∀ C h₃ m₃ i v, h₃.Ns C m₃ → m₃ x = some v → P i v → p v = true → Sub h h₃ → Ev w A (compEnvC scope cl C env) h₃ elt (F v))
    (hkind : scope.kind = .function := by rfl) (hfold : ∀ x, foldedSetIterable iter env x = pure x := by intro _; rfl) :
    EvL w A env h (.ListComp elt [⟨.Name x px, iter, ifs, 0⟩] scope pos) (fun ys => ∃ vs : List Value, vs.length = n ∧ (∀ j v, vs[j]? = some v → P j v) ∧ Paired F (vs.filter p) ys) := .mk fun s Q E hs k => by
  refine wpAny_ListComp_free p F hclos (fun y hy => by simpa using List.all_eq_true.mp hcell y hy) hkind
    (fun y hy e => by have := List.all_eq_true.mp hnames y hy; rw [e] at this; simpa using this) hx (src.run s _ E hs fun I fp wr St s₂ W st hfp hwr k₂ => ?_) hfold
  have up : ∀ {s₃ : Shared}, (∀ b o, b ∉ wr → s₂.heap.get? b = some o → s₃.heap.get? b = some o) → Sub s.heap s₃.heap := fun q b o e => q b o (fun hb => by rw [hwr b hb] at e; cases e) (kp_sub k₂ b o e)
  refine ⟨I, fp, wr, n, P, St, rfl, W, hn, st, hfp, ⟨fun C i v s₃ m₃ E' _ hP hns hm hk _ => ht C s₃ m₃ i v hns hm hP (hs.trans (up hk)) E', fun C i v s₃ m₃ E' _ hP hp hns hm hk _ => ?_⟩, fun D h₄ tk ys vs hD hl hpl hlen hP hF hk => ?_⟩
  · exact (he C s₃.heap m₃ i v hns hm hP hp (hs.trans (up hk))).run s₃ _ E' (Sub.refl _) fun v s₄ q k₄ => ⟨q, k₄⟩
  · refine k D ys.toList _ (none_of_sub (kp_sub k₂) hD) (by simpa using hpl) ⟨vs, hlen, hP, hF⟩ ?_
    obtain ⟨g, t, rfl, _⟩ := k₂
    exact ⟨h₄, tk, rfl, fun b o e => up (s₃ := { s with heap := h₄ }) hk b o e⟩

theorem tests0 {env' : Env} {s₃ : Shared} {E' : Value → Shared → Prop} :
    wpAny (model pw w) A (forIn ([] : List Expr) true fun c r => if r = true then do let ok ← isTrue c env' (eval c env'); pure (ForInStep.yield ok) else pure (ForInStep.yield r)) (fun ok s₄ => ok = true ∧ Keeps s₃ s₄) E' s₃ := by
  rw [List.forIn_nil]; exact wpAny_pure ⟨rfl, kp_refl _⟩
theorem tests1 {env' : Env} {s₃ : Shared} {E' : Value → Shared → Prop} {c : Expr} {b : Bool} (x : Tr w A env' s₃.heap c b) :
    wpAny (model pw w) A (forIn [c] true fun c r => if r = true then do let ok ← isTrue c env' (eval c env'); pure (ForInStep.yield ok) else pure (ForInStep.yield r)) (fun ok s₄ => ok = b ∧ Keeps s₃ s₄) E' s₃ := by
  rw [List.forIn_cons]
  refine wpAny_bind ?_
  rw [if_pos rfl]
  refine wpAny_bind (x.run s₃ _ E' (Sub.refl _) fun s₄ k₄ => wpAny_pure ?_)
  show wpAny _ _ (forIn ([] : List Expr) b _) _ _ _
  rw [List.forIn_nil]; exact wpAny_pure ⟨rfl, k₄⟩

theorem Ev.join {sep : Str} {k : Nat} {p q pos : Pos} {e : Expr} {ys : List Str} (x : EvL w A env h e fun vs => StrsAre vs ys) (hok : (ys.map (·.length)).sum + ys.length * sep.length ≤ 16777216)
    {pl : Sem Bool} (he : eval (.Call (.Attribute (.Constant (.str sep) k p) "join" q) [e] [] pos) env = (do
      let ov ← eval (.Constant (.str sep) k p) env
      standAt q.atName
      let (f, first) ← holding [ov] (getMethod ov "join" pl)
      callWith pos f first (backTo pos (starEach [e] env)) []) := by rfl)
    (hst : starEach [e] env = (false, eval e env) :: starEach [] env := by rfl) :
    Ev w A env h (.Call (.Attribute (.Constant (.str sep) k p) "join" q) [e] [] pos) (IsS (Txt.join sep ys)) := .mk fun s Q E hs K => by
  refine MethodCall_ (wpAny_Constant_str (GM.join ?_)) he
  refine callWith_builtin (by rw [hst]; rfl) ?_
  rw [hst]
  refine evalArgs_plain (spliced_cons (x.run _ _ E hs fun a vs s' hf hl hv k₁ => spliced_nil ?_))
  refine PyProof.Rows.join_list hl.isList (by simpa using hv) hok fun t' tk => K _ _ (isS _ _) ?_
  exact kp_trans (kp_tok _ _) (kp_trans k₁ (kp_tok _ _))
end
end Mine

namespace Mine
open PySem PySem.W PyProof.Rows PySem.Calls
section
variable {w : World} {A : Around} {mg mb : Str → Option Value} {h h' : Heap} {env : Env}

theorem Tr.chain2 {l m r : Expr} {o₁ o₂ : CmpOp} {pos : Pos} {P₁ P₂ P₃ : Value → Prop} {b₁ b₂ : Bool} (c₁ : Cop w A h o₁ P₁ P₂ b₁) (c₂ : Cop w A h o₂ P₂ P₃ b₂) (x : Ev w A env h l P₁) (y : Ev w A env h m P₂) (z : Ev w A env h r P₃)
    (hm : lastMarks [o₁, o₂] [m, r] = false := by with_unfolding_all rfl) : Tr w A env h (.Compare l [o₁, o₂] [m, r] pos) (b₁ && b₂) := .mk fun s Q E hs K => by
  refine isTrue_chain (x.run s _ E hs fun v₁ s₁ p₁ k₁ => test_link (y.run s₁ _ E (hs.trans (kp_sub k₁)) fun v₂ s₂ p₂ k₂ => c₁.run s₂ _ E v₁ v₂ (hs.trans (kp_sub (kp_trans k₁ k₂))) p₁ p₂ fun s₃ k₃ => wpAny_truthy_bool ?_)) hm
  have k' := kp_trans k₁ (kp_trans k₂ k₃)
  cases b₁ with
  | false => exact K s₃ k'
  | true => exact test_last (z.run s₃ _ E (hs.trans (kp_sub k')) fun v₄ s₄ p₄ k₄ => c₂.run s₄ _ E v₂ v₄ (hs.trans (kp_sub (kp_trans k' k₄))) p₂ p₄ fun s₅ k₅ => wpAny_truthy_bool (K s₅ (kp_trans k' (kp_trans k₄ k₅))))

theorem Ev.item {value slice : Expr} {pos : Pos} {a : Addr} {items : Array Value} {k : Int} {v : Value} (hl : h.IsList a items) (h0 : 0 ≤ k) (h1 : k < 2 ^ 63) (hv : items[k.toNat]? = some v)
    (x : Ev w A env h value (IsV (.ref a))) (y : Ev w A env h slice (IsI k))
    (hs' : ∀ u, subscripted slice false (.ref a) (.int k u) = operate [.ref a, .int k u] (getItem (.ref a) (.int k u)) := by intro u; with_unfolding_all rfl) :
    Ev w A env h (.Subscript value slice pos) (IsV v) := .mk fun s Q E hs K => by
  refine Subscript_ (x.run s _ E hs fun v₁ s₁ p₁ k₁ => y.run s₁ _ E (hs.trans (kp_sub k₁)) fun v₂ s₂ p₂ k₂ => ?_)
  obtain rfl : v₁ = _ := p₁
  obtain ⟨u, rfl⟩ := p₂
  have hl' := isList_keeps hl (hs.trans (kp_sub (kp_trans k₁ k₂)))
  exact tail_any hl'.typeIs PySem.slot_list_getitem.lookup (wpAny_getItem_list hl' h0 h1 hv (K _ _ rfl (kp_trans k₁ k₂))) (hs' u)

/-! ## the runs -/
abbrev Row := Nat × Nat × Nat
def RowAt (h : Heap) (v : Value) (r : Row) : Prop := ∃ a t₁ t₂ t₃, v = .ref a ∧ h.IsList a #[.str (sg r.1) t₁, .int r.2.1 t₂, .int r.2.2 t₃]
def RunsAt (h : Heap) (R : Addr) (rs : List Row) : Prop := ∃ items : List Value, h.IsList R items.toArray ∧ Paired (RowAt h) items rs
theorem RowAt.keeps {v : Value} {r : Row} (x : RowAt h v r) (k : Sub h h') : RowAt h' v r := let ⟨a, t₁, t₂, t₃, e, l⟩ := x; ⟨a, t₁, t₂, t₃, e, isList_keeps l k⟩
theorem paired_mono {α β : Type} {F G : α → β → Prop} (hg : ∀ a b, F a b → G a b) : ∀ {l₁ : List α} {l₂ : List β}, Paired F l₁ l₂ → Paired G l₁ l₂
  | _, _, .nil => .nil
  | _, _, .cons a t => .cons (hg _ _ a) (paired_mono hg t)
theorem RunsAt.keeps {R : Addr} {rs : List Row} (x : RunsAt h R rs) (k : Sub h h') : RunsAt h' R rs := let ⟨i, l, p⟩ := x; ⟨i, isList_keeps l k, paired_mono (fun _ _ q => q.keeps k) p⟩
theorem isList_inj {a : Addr} {x y : Array Value} (p : h.IsList a x) (q : h.IsList a y) : x = y := by
  obtain ⟨o, ho, _, n, hd⟩ := p
  obtain ⟨o', ho', _, n', hd'⟩ := q
  rw [ho] at ho'; cases ho'
  rw [hd] at hd'; cases hd'; rfl
theorem RowAt.inj {v : Value} {r r' : Row} (x : RowAt h v r) (y : RowAt h v r') : r = r' := by
  obtain ⟨a, t₁, t₂, t₃, rfl, l⟩ := x
  obtain ⟨a', u₁, u₂, u₃, e, l'⟩ := y
  cases e
  have := isList_inj l l'
  obtain ⟨p, q, z⟩ := r
  obtain ⟨p', q', z'⟩ := r'
  simp only [Array.mk.injEq, List.cons.injEq, Value.str.injEq, Value.int.injEq, Str.mk.injEq, and_true] at this
  obtain ⟨⟨a1, _⟩, ⟨a2, _⟩, a3, _⟩ := this
  simp only [Prod.mk.injEq]
  exact ⟨a1, by exact Int.ofNat.inj a2, by exact Int.ofNat.inj a3⟩

def hit (n : Nat) (r : Row) : Bool := decide (r.2.1 ≤ n) && decide (n ≤ r.2.2)
def markOf (rs : List Row) (n : Nat) : List Nat := (rs.filter (hit n)).map (·.1)
abbrev st (l : List Nat) : Str := ⟨l.toArray⟩

open Classical in
noncomputable def hitV (h : Heap) (n : Nat) (v : Value) : Bool := decide (∃ r, RowAt h v r ∧ hit n r = true)
open Classical in
theorem hitV_of {n : Nat} {v : Value} {r : Row} (x : RowAt h v r) : hitV h n v = hit n r := by
  unfold hitV
  cases e : hit n r with
  | true => exact decide_eq_true ⟨r, x, e⟩
  | false => exact decide_eq_false fun ⟨r', x', e'⟩ => by rw [← x.inj x', e] at e'; cases e'
theorem strs_of_rows {n : Nat} : ∀ {items : List Value} {rs : List Row} {ys : List Value}, Paired (RowAt h) items rs → Paired (fun v y => ∃ r, RowAt h v r ∧ IsS (sg r.1) y) (items.filter (hitV h n)) ys →
    StrsAre ys ((rs.filter (hit n)).map fun r => sg r.1)
  | _, _, ys, .nil, q => by cases q; exact .nil
  | _, _, ys, .cons (a := v) (b := r) x t, q => by
    rw [List.filter_cons, hitV_of x] at q
    rw [List.filter_cons]
    cases e : hit n r with
    | false => rw [e] at q; exact strs_of_rows t q
    | true =>
      rw [e] at q
      simp only [if_true] at q ⊢
      cases q with
      | cons z q =>
        obtain ⟨r', x', u, rfl⟩ := z
        rw [← x.inj x']
        exact .cons _ _ (strs_of_rows t q)
theorem vs_eq {items : Array Value} {vs : List Value} (hn : vs.length = items.size) (hp : ∀ (j : Nat) (v : Value), vs[j]? = some v → items[j]? = some v) : vs = items.toList := by
  apply List.ext_getElem?
  intro j
  cases e : vs[j]? with
  | some v => rw [Array.getElem?_toList]; exact (hp j v e).symm
  | none =>
    rw [Array.getElem?_toList]
    have : vs.length ≤ j := List.getElem?_eq_none_iff.mp e
    exact (Array.getElem?_eq_none (by omega)).symm
theorem ofEmpty : Str.ofString "" = ⟨#[]⟩ := by decide +kernel
theorem foldl_cps : ∀ (ys : List Str) (a : Array Nat), (ys.foldl (fun acc p => acc ++ (#[] : Array Nat) ++ p.cps) a).toList = a.toList ++ ys.flatMap (·.cps.toList)
  | [], a => by simp
  | y :: ys, a => by rw [List.foldl_cons, foldl_cps ys]; simp
theorem join_empty (ys : List Str) : Txt.join (Str.ofString "") ys = st (ys.flatMap (·.cps.toList)) := by
  rw [ofEmpty]
  unfold Txt.join Builtin.Str.glued st
  congr 1
  apply Array.toList_inj.mp
  rw [foldl_cps]
  cases ys with
  | nil => rfl
  | cons y ys => simp
theorem flat_sg (l : List Nat) : (l.map sg).flatMap (·.cps.toList) = l := by
  induction l with
  | nil => rfl
  | cons a l ih => rw [List.map_cons, List.flatMap_cons, ih]; rfl
theorem glued_empty (l : List Nat) : Txt.join (Str.ofString "") (l.map sg) = st l := by rw [join_empty, flat_sg]
theorem sum_sg (l : List Nat) : ((l.map sg).map (·.length)).sum = l.length := by
  induction l with
  | nil => rfl
  | cons a l ih => simp only [List.map_cons, List.sum_cons, ih, List.length_cons]; show 1 + _ = _; omega
theorem paired_mem {α β : Type} {F : α → β → Prop} : ∀ {l₁ : List α} {l₂ : List β}, Paired F l₁ l₂ → ∀ a ∈ l₁, ∃ b ∈ l₂, F a b
  | _, _, .cons x t, a, ha => by
    rcases List.mem_cons.mp ha with rfl | q
    · exact ⟨_, .head _, x⟩
    · obtain ⟨b, hb, z⟩ := paired_mem t a q; exact ⟨b, .tail _ hb, z⟩

set_option maxHeartbeats 1000000 in
theorem mark (G : Gl w mg mb h) (hroom : A.depth < recursionLimit) (hh : A.handled = none) {f R : Addr} {n : Nat} {t : Tok} {rs : List Row} (hr : RunsAt h R rs) (hlen : rs.length ≤ 1000) (hf : mg "_law_mark" = some (.ref f)) :
    Cl w A h (.ref f) [.str (sg n) t, .ref R] (IsS (st (markOf rs n))) := .mk fun s Q E hs k => by
  have G := G.keeps hs
  have hr := hr.keeps hs
  obtain ⟨f', e, F⟩ := G.fn 17 ⟨_, _, _, _, _⟩ rfl
  obtain rfl : f' = f := by simpa using e.symm.trans hf
  refine callAt F G.lim hroom (fun _ _ _ => rfl) (by rfl) fun pm cd doc s₁ x => ?_
  have hr := hr.keeps x.old
  have G := G.keeps x.old
  obtain ⟨items, hl, hp⟩ := id hr
  refine Exs.cons (x.ret (P := IsS (st (markOf rs n))) ?_ fun v s' hv x' => k v s' hv x'.same)
  have hlen' : items.length = rs.length := hp.length
  refine Ev.eqS (Ev.join (ys := (markOf rs n).map sg) (EvL.mono (EvL.comp (hitV s₁.heap n) (fun v y => ∃ r, RowAt s₁.heap v r ∧ IsS (sg r.1) y) (Src.list (items := items.toArray) hh (x.vL rfl) hl) (by simp [sizeLine]; omega) rfl (by rfl) (by rfl) (by rfl) ?_ ?_) ?_) ?_) (glued_empty _)
  · intro C s₃ m₃ i v hns hm hi hk E'
    obtain ⟨r, _, hv⟩ := paired_mem hp v (by simp at hi; exact List.mem_of_getElem? hi)
    obtain ⟨a, t₁, t₂, t₃, rfl, hla⟩ := id hv
    rw [hitV_of hv]
    refine tests1 (Tr.eq (Tr.chain2 Cop.le Cop.le (Ev.item (k := 1) (v := .int (r.2.1 : Nat) t₂) (isList_keeps hla hk) (by decide) (by decide) rfl (Ev.nameL hns hm) Ev.int |>.mono fun v e => e ▸ isI _ _)
      (evOrd (n := n) (G.keeps hk) ((Ev.nameC (c := s.heap.objs.size + 1) ((x.cell "c" _ rfl).keeps hk) rfl).mono fun v e => e ▸ isS _ _)) (Ev.item (k := 2) (v := .int (r.2.2 : Nat) t₃) (isList_keeps hla hk) (by decide) (by decide) rfl (Ev.nameL hns hm) Ev.int |>.mono fun v e => e ▸ isI _ _)) ?_)
    simp [hit]
  · intro C h₃ m₃ i v hns hm hi hpv hk
    obtain ⟨r, _, hv⟩ := paired_mem hp v (by simp at hi; exact List.mem_of_getElem? hi)
    obtain ⟨a, t₁, t₂, t₃, rfl, hla⟩ := id hv
    exact (Ev.item (k := 0) (v := .str (sg r.1) t₁) (isList_keeps hla hk) (by decide) (by decide) rfl (Ev.nameL hns hm) Ev.int).mono fun y e => ⟨r, hv, e ▸ isS _ _⟩
  · rintro ys ⟨vs, hv1, hv2, hv3⟩
    rw [vs_eq hv1 hv2] at hv3
    have := strs_of_rows hp (by simpa using hv3)
    unfold markOf; rw [List.map_map]; exact this
  · rw [sum_sg, ofEmpty]
    have h1 : (markOf rs n).length ≤ rs.length := by unfold markOf; rw [List.length_map]; exact List.length_filter_le _ _
    show _ + _ * 0 ≤ _
    omega
end
end Mine

namespace Mine
open PySem PySem.W PyProof.Rows PySem.Calls
section
variable {w : World} {A : Around} {mg mb : Str → Option Value} {h h' : Heap} {env : Env}

theorem Bop.modN {n m : Nat} (hm : 0 < m) : Bop w A .Mod (IsI (n : Int)) (IsI (m : Int)) (IsI ((n % m : Nat) : Int)) := by
  have := @Bop.mod w A (n : Int) (m : Int) (by omega)
  rw [show ((n % m : Nat) : Int) = (n : Int) % (m : Int) by omega]
  exact this
theorem Bop.divN {n m : Nat} (hm : 0 < m) (hs : m < 1073741824) : Bop w A .FloorDiv (IsI (n : Int)) (IsI (m : Int)) (IsI ((n / m : Nat) : Int)) := by
  refine ⟨?_⟩
  rintro s Q E _ _ ⟨t, rfl⟩ ⟨u, rfl⟩ k
  refine PyProof.Rows.floordiv_int (by omega) (k _ _ ?_ (kp_tok _ _)) (.inl (PyProof.noPylong_small (by omega)))
  rw [Int.fdiv_eq_ediv_of_nonneg _ (by omega), show ((n : Int) / (m : Int)) = ((n / m : Nat) : Int) by omega]
  exact isI _ _
theorem Bop.addN {n m : Nat} : Bop w A .Add (IsI (n : Int)) (IsI (m : Int)) (IsI ((n + m : Nat) : Int)) := by
  have := @Bop.add w A (n : Int) (m : Int)
  rw [show ((n + m : Nat) : Int) = (n : Int) + (m : Int) by omega]
  exact this
theorem Ev.ifexp {t a b : Expr} {pos : Pos} {c : Bool} {P : Value → Prop} (x : Tr w A env h t c) (y : c = true → Ev w A env h a P) (z : c = false → Ev w A env h b P) : Ev w A env h (.IfExp t a b pos) P := .mk fun s Q E hs K =>
  wpAny_IfExp (x.run s _ E hs fun s₁ k₁ => by
    cases c with
    | true => exact (y rfl).run s₁ Q E (hs.trans (kp_sub k₁)) fun v s₂ p k₂ => K v s₂ p (kp_trans k₁ k₂)
    | false => exact (z rfl).run s₁ Q E (hs.trans (kp_sub k₁)) fun v s₂ p k₂ => K v s₂ p (kp_trans k₁ k₂))
theorem Cl.chr {i : Int} {t : Tok} (h0 : 0 ≤ i) (h1 : i ≤ 1114111) : Cl w A h (.builtin "chr") [.int i t] (IsS (sg i.toNat)) := .mk fun _ _ _ _ k => chr_of_range h0 h1 (k _ _ (isS _ _) (kp_tok _ _))
theorem evChr {a : Expr} {pos p : Pos} {i : Int} (G : Gl w mg mb h) (h0 : 0 ≤ i) (h1 : i ≤ 1114111) (x : Ev w A env h a (IsI i)) (hg : env.globals = mainGlobals := by rfl) (hb : env.builtins = builtinsNs := by rfl)
    (hk : env.scope.kind = .function := by rfl) (hx : env.kindOf "chr" = some .globalImplicit := by rfl) (hst : starEach [a] env = (false, eval a env) :: starEach [] env := by rfl) :
    Ev w A env h (.Call (.Name "chr" p) [a] [] pos) (IsS (sg i.toNat)) :=
  Ev.callB (Ev.blt G (by decide) (v := .builtin "chr") (by decide +kernel) (by decide) hg hb hk hx) x (fun v ⟨t, e⟩ => e ▸ Cl.chr h0 h1) rfl hst

def runsA : List Row := [(98, 173, 173), (98, 847, 847), (98, 6150, 6150), (98, 6155, 6157), (98, 8203, 8205), (98, 8288, 8288), (98, 65024, 65039), (98, 65279, 65279), (115, 32, 32), (110, 64976, 65007), (112, 65529, 65533),
  (105, 12272, 12283), (100, 832, 833), (100, 8206, 8207), (100, 8234, 8238), (100, 8298, 8303), (116, 917505, 917505), (116, 917536, 917631)]
def runsB : List Row := (List.range 17).map fun k => (110, 65534 + 65536 * k, 65535 + 65536 * k)
def runsD : List Row := runsA ++ runsB
theorem runsD_len : runsD.length = 35 := by decide
theorem runsD_small : ∀ r ∈ runsD, r.2.1 < 1114112 ∧ r.2.2 < 1114112 := by decide

/-- the sign that a number draws -/
def signOf (v : Nat) : Nat :=
  if v % 2 = 1 then (if 55296 ≤ v / 2 % 1112064 then v / 2 % 1112064 + 2048 else v / 2 % 1112064)
  else ((if v / 2 / 3 % 2 = 0 then (runsD.getD (v / 2 / 6 % 35) (0, 0, 0)).2.1 else (runsD.getD (v / 2 / 6 % 35) (0, 0, 0)).2.2) + v / 2 % 3 + 1114111) % 1114112

theorem paired_get {α β : Type} {F : α → β → Prop} : ∀ {l₁ : List α} {l₂ : List β}, Paired F l₁ l₂ → ∀ (i : Nat) (b : β), l₂[i]? = some b → ∃ a, l₁[i]? = some a ∧ F a b
  | _, _, .cons x t, 0, b, hb => by
    simp at hb; subst hb; exact ⟨_, rfl, x⟩
  | _, _, .cons x t, i + 1, b, hb => by
    simp at hb
    obtain ⟨a, ha, z⟩ := paired_get t i b hb
    exact ⟨a, by simpa using ha, z⟩

theorem signOf_lt (n : Nat) : signOf n < 1114112 := by
  unfold signOf
  split
  · split <;> omega
  · omega
set_option maxHeartbeats 1000000 in
theorem sign (G : Gl w mg mb h) (hroom : A.depth < recursionLimit) {f R : Addr} {n : Nat} {t : Tok} (hr : RunsAt h R runsD) (hf : mg "_law_sign" = some (.ref f)) :
    Cl w A h (.ref f) [.int n t, .ref R] (IsS (sg (signOf n))) := .mk fun s Q E hs k => by
  have G := G.keeps hs
  have hr := hr.keeps hs
  obtain ⟨f', e, F⟩ := G.fn 18 ⟨_, _, _, _, _⟩ rfl
  obtain rfl : f' = f := by simpa using e.symm.trans hf
  have hlt := signOf_lt n
  refine callAt F G.lim hroom (fun _ _ _ => rfl) (by rfl) fun pm cd doc s₁ x => ?_
  refine Exs.cons (x.assignL (Ev.bin (Bop.divN (n := n) (m := 2) (by decide) (by decide)) (x.vI rfl) Ev.int) ?_)
  rintro v s₂ ⟨u, rfl⟩ x
  refine Exs.cons (x.ite (Tr.cmp Cop.eq (Ev.bin (Bop.modN (n := n) (m := 2) (by decide)) (x.vI rfl) Ev.int) Ev.int) (fun hb s₃ x => ?_) fun hb s₃ x => ?_)
  · have hb : n % 2 = 1 := by simp at hb; omega
    refine Exs.cons (x.assignL (Ev.bin (Bop.modN (n := n / 2) (m := 1112064) (by decide)) (x.vI rfl) Ev.int) ?_)
    rintro v s₄ ⟨u', rfl⟩ x
    refine Exs.cons (x.ret (P := IsS (sg (signOf n))) ?_ fun v s₄ hv x => k v s₄ hv x.same)
    refine Ev.eqS (evChr (i := (signOf n : Int)) (G.keeps x.old) (by omega) (by omega)
      (Ev.ifexp (Tr.cmp Cop.ge (x.vI rfl) Ev.int) (fun hc => Ev.eqI (Ev.bin (Bop.addN (n := n / 2 % 1112064) (m := 2048)) (x.vI rfl) Ev.int) ?_) (fun hc => Ev.eqI (x.vI rfl) ?_))) (by simp)
    · unfold signOf
      rw [if_pos hb, if_pos (by simp at hc; omega)]
    · unfold signOf
      rw [if_pos hb, if_neg (by simp at hc; omega)]
  refine Exs.nil ?_
  have hb : ¬ n % 2 = 1 := by simp at hb; omega
  obtain ⟨items, hl, hp⟩ := id hr
  obtain ⟨r, er⟩ : ∃ r, runsD[n / 2 / 6 % 35]? = some r := ⟨_, List.getElem?_eq_getElem (by rw [runsD_len]; omega)⟩
  obtain ⟨v, ev, a, t₁, t₂, t₃, rfl, hla⟩ := paired_get hp _ _ er
  refine Exs.cons (x.assignL (Ev.item (k := ((n / 2 / 6 % 35 : Nat) : Int)) (v := .ref a) (isList_keeps hl x.old) (by omega) (by omega) (by rw [Int.toNat_natCast]; simpa using ev) (x.vL rfl)
    (Ev.bin (Bop.modN (n := n / 2 / 6) (m := 35) (by decide)) (Ev.bin (Bop.divN (n := n / 2) (m := 6) (by decide) (by decide)) (x.vI rfl) Ev.int) Ev.int)) ?_)
  rintro v s₄ e₄ x
  obtain rfl : v = _ := e₄
  have hla := isList_keeps hla x.old
  refine Exs.cons (x.ret (P := IsS (sg (signOf n))) ?_ fun v s₄ hv x => k v s₄ hv x.same)
  have hrs := runsD_small r (List.mem_of_getElem? er)
  have hd : runsD.getD (n / 2 / 6 % 35) (0, 0, 0) = r := by rw [List.getD_eq_getElem?_getD, er]; rfl
  have hi : ∃ e t, (#[Value.str (sg r.1) t₁, .int (r.2.1 : Nat) t₂, .int (r.2.2 : Nat) t₃] : Array Value)[((n / 2 / 3 % 2 + 1 : Nat) : Int).toNat]? = some (.int ((e : Nat) : Int) t) ∧ e = if n / 2 / 3 % 2 = 0 then r.2.1 else r.2.2 := by
    rw [Int.toNat_natCast]
    rcases Nat.mod_two_eq_zero_or_one (n / 2 / 3) with q | q
    · rw [q]; exact ⟨_, _, rfl, rfl⟩
    · rw [q]; exact ⟨_, _, rfl, rfl⟩
  obtain ⟨e, te, hi, he⟩ := hi
  have hsm : e < 1114112 := by rw [he]; split <;> omega
  refine Ev.eqS (evChr (i := ((e : Int) + ((n / 2 % 3 : Nat) : Int) - 1) % 1114112) (G.keeps x.old) (by omega) (by omega)
    (Ev.bin (Bop.mod (by decide)) (Ev.bin Bop.sub (Ev.bin Bop.add ((Ev.item (k := ((n / 2 / 3 % 2 + 1 : Nat) : Int)) hla (by omega) (by omega) hi (x.vL rfl)
      (Ev.bin Bop.addN (Ev.bin (Bop.modN (n := n / 2 / 3) (m := 2) (by decide)) (Ev.bin (Bop.divN (n := n / 2) (m := 3) (by decide) (by decide)) (x.vI rfl) Ev.int) Ev.int) Ev.int)).mono fun v e => e ▸ isI _ _)
      (Ev.bin (Bop.modN (n := n / 2) (m := 3) (by decide)) (x.vI rfl) Ev.int)) Ev.int) Ev.int)) ?_
  have key : (((e : Int) + ((n / 2 % 3 : Nat) : Int) - 1) % 1114112).toNat = (e + n / 2 % 3 + 1114111) % 1114112 := by omega
  rw [key]
  unfold signOf
  rw [if_neg hb, hd, ← he]
end
end Mine

namespace Mine
open PySem PySem.W PyProof.Rows PySem.Calls
section
variable {w : World} {A : Around} {mg mb : Str → Option Value} {h h' : Heap} {env : Env}

abbrev All2 : List (Value → Prop) → List Value → Prop := Paired fun P v => P v
/-- the items of a display, or of a call -/
structure EvS (w : World) (A : Around) (env : Env) (h : Heap) (pos : Pos) (es : List Expr) (Ps : List (Value → Prop)) : Prop where
  run : ∀ (s : Shared) (Q : List Value → Shared → Prop) (E : Value → Shared → Prop), Sub h s.heap → (∀ vs s', All2 Ps vs → Keeps s s' → Q vs s') → wpAny (model pw w) A (spliced (backTo pos (starEach es env))) Q E s
theorem EvS.nil {pos : Pos} : EvS w A env h pos [] [] := .mk fun s Q E hs k => args_nil (k [] s .nil (kp_refl _))
theorem EvS.cons {pos : Pos} {e : Expr} {es : List Expr} {P : Value → Prop} {Ps : List (Value → Prop)} (x : Ev w A env h e P) (y : EvS w A env h pos es Ps)
    (hst : starEach (e :: es) env = (false, eval e env) :: starEach es env := by rfl) : EvS w A env h pos (e :: es) (P :: Ps) := .mk fun s Q E hs k =>
  args_cons (x.run s _ E hs fun v s₁ p k₁ => y.run s₁ _ E (hs.trans (kp_sub k₁)) fun vs s₂ q k₂ => k (v :: vs) s₂ (.cons p q) (kp_trans k₁ k₂)) hst
theorem EvL.list {pos : Pos} {es : List Expr} {Ps : List (Value → Prop)} (x : EvS w A env h pos es Ps) (hn : Ps.length ≤ sizeLine) : EvL w A env h (.List es pos) (All2 Ps) := .mk fun s Q E hs k =>
  wpAny_List (x.run s _ E hs fun vs s₁ p k₁ => ⟨by rw [← Paired.length p]; exact hn, k _ vs _ (none_of_sub (kp_sub k₁) (none_of_ge (Nat.le_refl _))) ⟨_, Heap.get?_push_size _ rfl⟩ p (kp_trans k₁ (kp_h fun b o e => Heap.get?_push_of_some _ e))⟩)

theorem Ev.callF {func e : Expr} {es : List Expr} {pos : Pos} {f : Addr} {d : DefItem} {Ps : List (Value → Prop)} {P : Value → Prop} (hd : FnAt h d f) (hf : Ev w A env h func (IsV (.ref f)))
    (x : EvS w A env h pos (e :: es) Ps) (hc : ∀ vs, All2 Ps vs → Cl w A h (.ref f) vs P)
    (he : eval (.Call func (e :: es) [] pos) env = (do callWith pos (← eval func env) [] (backTo pos (starEach (e :: es) env)) (backToKw pos (keywordEach [] env))) := by rfl)
    (hst : starEach (e :: es) env = (false, eval e env) :: starEach es env := by rfl) : Ev w A env h (.Call func (e :: es) [] pos) P := .mk fun s Q E hs k => by
  rw [he]
  refine wpAny_bind (hf.run s _ E hs fun v s₁ p k₁ => ?_)
  obtain rfl : v = _ := p
  obtain ⟨c', o, pm, doc, ho, hda, _⟩ := hd
  refine callWith_def (o := o) hda (x.run s₁ _ E (hs.trans (kp_sub k₁)) fun vs s₂ q k₂ => ⟨kp_sub k₂ _ _ (kp_sub k₁ _ _ (hs _ _ ho)), ?_⟩) hst
  exact (hc vs q).run s₂ Q E (hs.trans (kp_sub (kp_trans k₁ k₂))) fun v₃ s₃ p₃ k₃ => k v₃ s₃ p₃ (kp_trans k₁ (kp_trans k₂ k₃))
/-- a def of the text, called by its name -/
theorem Ev.callN {n : Str} {e : Expr} {es : List Expr} {p pos : Pos} {f : Addr} {d : DefItem} {Ps : List (Value → Prop)} {P : Value → Prop} (G : Gl w mg mb h) (hd : FnAt h d f) (hf : mg n = some (.ref f))
    (x : EvS w A env h pos (e :: es) Ps) (hc : ∀ vs, All2 Ps vs → Cl w A h (.ref f) vs P)
    (hst : starEach (e :: es) env = (false, eval e env) :: starEach es env := by rfl) (hg : env.globals = mainGlobals := by rfl)
    (hk : env.scope.kind = .function := by rfl) (hx : env.kindOf n = some .globalImplicit := by rfl) (hdb : (n == ("__debug__" : Str)) = false := by decide) : Ev w A env h (.Call (.Name n p) (e :: es) [] pos) P :=
  Ev.callF hd (Ev.glob G hf hg hk hx hdb) x hc rfl hst
theorem Ev.callT {func a : Expr} {pos : Pos} {T : String} {P₁ P : Value → Prop} (hf : Ev w A env h func (IsV (.type T))) (x : Ev w A env h a P₁) (hc : ∀ v, P₁ v → Cl w A h (.type T) [v] P)
    (he : eval (.Call func [a] [] pos) env = (do callWith pos (← eval func env) [] (backTo pos (starEach [a] env)) (backToKw pos (keywordEach [] env))) := by rfl)
    (hst : starEach [a] env = (false, eval a env) :: starEach [] env := by rfl) : Ev w A env h (.Call func [a] [] pos) P := .mk fun s Q E hs k => by
  rw [he]
  refine wpAny_bind (hf.run s _ E hs fun f s₁ p k₁ => ?_)
  obtain rfl : f = _ := p
  refine PyProof.Rows.callWith_type (by rw [hst]; rfl) ?_
  rw [hst]
  refine evalArgs_plain (spliced_cons (x.run s₁ _ E (hs.trans (kp_sub k₁)) fun v s₂ p₂ k₂ => spliced_nil ?_))
  exact (hc v p₂).run s₂ Q E (hs.trans (kp_sub (kp_trans k₁ k₂))) fun v₃ s₃ p₃ k₃ => k v₃ s₃ p₃ (kp_trans k₁ (kp_trans k₂ k₃))

/-- an int's own digits -/
def dig (n : Nat) : List Nat := (Str.ofString (toString (n : Int))).cps.toList
theorem dig_str (n : Nat) : Str.ofString (toString (n : Int)) = st (dig n) := by simp [dig, st]
theorem evStr {a : Expr} {pos p : Pos} {n : Nat} (G : Gl w mg mb h) (hn : n < 1114112) (x : Ev w A env h a (IsI (n : Int))) (hg : env.globals = mainGlobals := by rfl) (hb : env.builtins = builtinsNs := by rfl)
    (hk : env.scope.kind = .function := by rfl) (hx : env.kindOf "str" = some .globalImplicit := by rfl) (hst : starEach [a] env = (false, eval a env) :: starEach [] env := by rfl) :
    Ev w A env h (.Call (.Name "str" p) [a] [] pos) (IsS (st (dig n))) :=
  Ev.callT (Ev.blt G (by decide) (v := .type "str") (by decide +kernel) (by decide) hg hb hk hx) x (fun v ⟨t, e⟩ => .mk fun s Q E hs k => by
    subst e
    refine PySem.P.str_of_int ?_ (k _ _ (dig_str n ▸ isS _ _) (kp_tok _ _))
    show (n : Int).natAbs.log2 < 1920
    rw [Int.natAbs_natCast]
    by_cases h0 : n = 0
    · subst h0; decide
    · exact Nat.lt_of_lt_of_le ((Nat.log2_lt h0).mpr (show n < 2 ^ 21 by omega)) (by decide)) rfl hst
theorem dig_len {n : Nat} (hn : n < 1114112) : (dig n).length ≤ 7 := by
  have := toString_length_le (v := (n : Int)) (by omega) (k := 7) (by decide) (by omega)
  rw [dig_str] at this
  simpa [st, Str.length] using this

structure SrcO (w : World) (A : Around) (env : Env) (h : Heap) (e : Expr) (n : Nat) (P : Nat → Value → Prop) : Prop where
  run : ∀ (s : Shared) (Q : Value → Shared → Prop) (E : Value → Shared → Prop), Sub h s.heap →
    (∀ I fp wr St s₂, Walks pw w A I fp wr n P St → St 0 s₂.heap → (∀ b ∈ fp, b < s₂.heap.objs.size) → (∀ b ∈ wr, s.heap.get? b = none) → Keeps s s₂ → (∀ (i : Nat) (g : Heap), St i g → ∀ b ∈ wr, ∃ o, g.get? b = some o) → Q (.ref I) s₂) →
    wpAny (model pw w) A (eval e env) (fun xv s₁ => wpAny (model pw w) A (pyIter xv) Q E s₁) E s
theorem SrcO.src {e : Expr} {n : Nat} {P : Nat → Value → Prop} (x : SrcO w A env h e n P) : Src w A env h e n P := .mk fun s Q E hs k => x.run s Q E hs fun I fp wr St s₂ a b c d e _ => k I fp wr St s₂ a b c d e
theorem SrcO.range {a : Expr} {pos p : Pos} {n : Nat} (G : Gl w mg mb h) (hh : A.handled = none) (hn : n < 1000) (x : Ev w A env h a (IsI (n : Int))) (hg : env.globals = mainGlobals := by rfl) (hb : env.builtins = builtinsNs := by rfl)
    (hk : env.scope.kind = .function := by rfl) (hx : env.kindOf "range" = some .globalImplicit := by rfl) (hst : starEach [a] env = (false, eval a env) :: starEach [] env := by rfl) :
    SrcO w A env h (.Call (.Name "range" p) [a] [] pos) n (fun i v => i < n ∧ ∃ t, v = .int ((i : Nat) : Int) t) := .mk fun s Q E hs k => by
  show wpAny _ _ (do callWith pos (← eval (.Name "range" p) env) [] (backTo pos (starEach [a] env)) []) _ _ _
  refine wpAny_bind ((Ev.blt G (by decide) (v := .type "range") (by decide +kernel) (by decide) hg hb hk hx).run s _ E hs fun v s₁ e k₁ => ?_)
  obtain rfl : v = _ := e
  refine PyProof.Rows.callWith_type (by rw [hst]; rfl) ?_
  rw [hst]
  refine evalArgs_plain (spliced_cons (x.run s₁ _ E (hs.trans (kp_sub k₁)) fun v s₂ p₂ k₂ => spliced_nil ?_))
  obtain ⟨t, rfl⟩ := p₂
  refine PySem.call_range_1 ?_
  have hsz : Builtin.Range.rangeSize 0 (n : Int) 1 = n := by rw [rangeSize_nat]; omega
  have k' := kp_trans k₁ k₂
  refine wpAny_pyIter_range (a := 0) (b := n) (c := 1) (Heap.get?_push_size _ rfl) ?_ ?_
  · exact small_one (by omega) (by omega) (by omega) (by omega)
  have W := Walks.range (prog := pw) (w := w) (A := A) hh (s₂.heap.objs.size + 1) 0 1 n
  simp only [Int.zero_add, Int.mul_one] at W
  have hz : ({ s₂ with heap := s₂.heap.push { cls := .type "range", data := .fields #[.int 0 s₂.toks, .int (n : Int) t, .int 1 (s₂.toks + 1)] }, toks := s₂.toks + 1 + 1 } : Shared).heap.objs.size = s₂.heap.objs.size + 1 := Heap.size_push ..
  rw [hz]
  refine k _ _ _ _ _ W.bound ?_ ?_ ?_ ?_ ?_
  · have := Heap.get?_push_size ({ s₂ with heap := s₂.heap.push { cls := .type "range", data := .fields #[.int 0 s₂.toks, .int (n : Int) t, .int 1 (s₂.toks + 1)] }, toks := s₂.toks + 1 + 1 } : Shared).heap (o := { cls := .type "range_iterator", data := .fields #[rawInt 0, rawInt (Builtin.Range.rangeSize 0 n 1), rawInt 1] }) rfl
    rw [hz] at this
    rw [hsz] at this ⊢
    simpa using this
  · intro b hb
    simp at hb
    subst hb
    rw [Heap.size_push, hz]
    exact Nat.lt_succ_self _
  · intro b hb
    simp at hb
    subst hb
    exact none_of_sub (kp_sub k') (none_of_ge (Nat.le_succ _))
  · exact kp_trans k' (kp_ht fun b o e => Heap.get?_push_of_some _ (Heap.get?_push_of_some _ e))
  · intro i g hg b hb
    simp at hb
    subst hb
    exact ⟨_, hg⟩
end
end Mine

namespace Mine
open PySem PySem.W PyProof.Rows PySem.Calls
abbrev lobj (vs : List Value) (N : Nat) : Obj := { cls := .type "list", data := .seq vs.toArray N }
section
variable {w : World} {A : Around} {mg mb : Str → Option Value} {h h' : Heap} {env : Env}

theorem isList_lobj {a : Addr} {vs : List Value} {N : Nat} (e : h.get? a = some (lobj vs N)) : h.IsList a vs.toArray := ⟨_, e, rfl, _, rfl⟩
theorem In.newC {s₀ s : Shared} {m cm : Str → Option Value} {l : List (Addr × Obj)} {E : Value → Shared → Prop} {n : Str} {c : Addr} {pos pos' : Pos} {value : Expr} {P : List Value → Prop} {Q : Flow → Shared → Prop} (x : In s₀ env m cm l s)
    (hc : env.cells.lookup n = some c) (he : EvL w A env s.heap value P) (k : ∀ a vs N s', P vs → In s₀ env m (upd cm n (.ref a)) ((a, lobj vs N) :: l) s' → Q .next s')
    (hs : swapsWith value (some (.Name n pos')) pos.line env = pure false := by rfl) (hk : env.scope.kind = .function := by rfl) (hl : env.kindOf n = some .cell := by rfl) :
    Ex w A env (.Assign [.Name n pos'] value pos) Q E s := .mk <|
  wpAny_Assign_Name (he.run s _ E (Sub.refl _) fun a vs s₁ hf ⟨N, ho⟩ p k₁ => (x.add (l' := [(a, lobj vs N)]) k₁ fun q hq => by rw [List.mem_singleton.mp hq]; exact ⟨hf, ho⟩).stC hc (fun s₂ y => k a vs N s₂ p y) hk hl) hs
theorem In.newL {s₀ s : Shared} {m cm : Str → Option Value} {l : List (Addr × Obj)} {E : Value → Shared → Prop} {n : Str} {pos pos' : Pos} {value : Expr} {P : List Value → Prop} {Q : Flow → Shared → Prop} (x : In s₀ env m cm l s)
    (he : EvL w A env s.heap value P) (k : ∀ a vs N s', P vs → In s₀ env (upd m n (.ref a)) cm ((a, lobj vs N) :: l) s' → Q .next s')
    (hs : swapsWith value (some (.Name n pos')) pos.line env = pure false := by rfl) (hk : env.scope.kind = .function := by rfl) (hl : env.kindOf n = some .local := by rfl) :
    Ex w A env (.Assign [.Name n pos'] value pos) Q E s := .mk <|
  wpAny_Assign_Name (he.run s _ E (Sub.refl _) fun a vs s₁ hf ⟨N, ho⟩ p k₁ => (x.add (l' := [(a, lobj vs N)]) k₁ fun q hq => by rw [List.mem_singleton.mp hq]; exact ⟨hf, ho⟩).stL (fun s₂ y => k a vs N s₂ p y) hk hl) hs

theorem sl : sizeLine = 16777216 := by decide
theorem st_append (a b : List Nat) : st a ++ st b = st (a ++ b) := Str.ext' (by simp [st, Str.cps_append])
theorem st_len (a : List Nat) : (st a).length = a.length := by simp [Str.length]
theorem Bop.cat {a b : List Nat} (hn : a.length + b.length ≤ sizeLine) : Bop w A .Add (IsS (st a)) (IsS (st b)) (IsS (st (a ++ b))) := by
  have := @Bop.adds w A (st a) (st b) (by rw [st_len, st_len]; exact hn)
  rw [st_append] at this
  exact this
theorem Ev.lit {x : Str} {k : Nat} {pos : Pos} {l : List Nat} (e : x = st l) : Ev w A env h (.Constant (.str x) k pos) (IsS (st l)) := e ▸ Ev.str
theorem Bop.mulN {n m : Nat} (hm : n < 2 ^ 60) (hm' : m < 2 ^ 60) : Bop w A .Mult (IsI (n : Int)) (IsI (m : Int)) (IsI ((n * m : Nat) : Int)) := by
  refine ⟨?_⟩
  rintro s Q E _ _ ⟨t, rfl⟩ ⟨u, rfl⟩ k
  refine PyProof.Rows.mul_int (k _ _ ?_ (kp_tok _ _)) ?_
  · rw [show (n : Int) * (m : Int) = ((n * m : Nat) : Int) by simp]; exact isI _ _
  · exact .of_left (intBits_le_64 (by omega) (by omega))
theorem Bop.powN {n m : Nat} (hn : n < 100) (hm : m < 100) : Bop w A .Pow (IsI (n : Int)) (IsI (m : Int)) (IsI ((n ^ m : Nat) : Int)) := by
  refine ⟨?_⟩
  rintro s Q E _ _ ⟨t, rfl⟩ ⟨u, rfl⟩ k
  refine PyProof.Rows.pow_int (by omega) ?_ (k _ _ ?_ (kp_tok _ _))
  · have h1 := intBits_le_64 (k := (n : Int)) (by omega) (by omega)
    exact Int.le_trans (Int.mul_le_mul (c := (64 : Int)) (d := (100 : Int)) (by omega) (by omega) (by omega) (by omega)) (by decide)
  · rw [Int.toNat_natCast, show (n : Int) ^ m = ((n ^ m : Nat) : Int) by simp]; exact isI _ _

/-! ## pieces -/
def nameOf (c : Nat) : List Nat := markOf runsD c ++ dig c ++ [59]
def itemL (c : Nat) : List (List Nat) := [[c], [38] ++ nameOf c, [38], nameOf c, [97, 109, 112, 59], [38, 97, 109, 112, 59], [32], [120] ++ [c] ++ [c]]
def pieceOf (v : Nat) : List Nat := (List.range (v / 2224128 % 3 + 1)).flatMap fun k => (itemL (signOf (v % 2224128))).getD (v / 2224128 / (3 * 8 ^ k) % 8) []
theorem mark_len (c : Nat) : (markOf runsD c).length ≤ 35 := by
  unfold markOf; rw [List.length_map, ← runsD_len]; exact List.length_filter_le _ _
theorem name_len {c : Nat} (hc : c < 1114112) : (nameOf c).length ≤ 43 := by
  have h1 := mark_len c
  have h2 := dig_len hc
  simp only [nameOf, List.length_append, List.length_singleton]
  omega
theorem item_len {c : Nat} (hc : c < 1114112) : ∀ l ∈ itemL c, l.length ≤ 44 := by
  have h1 := name_len hc
  intro l hl
  simp only [itemL, List.mem_cons, List.not_mem_nil, or_false] at hl
  rcases hl with rfl | rfl | rfl | rfl | rfl | rfl | rfl | rfl <;> (try simp only [List.length_append, List.length_cons, List.length_nil]) <;> omega
theorem all2_get {F : Nat → Value → Prop} : ∀ {Ps : List (Value → Prop)} {vs : List Value}, All2 Ps vs → ∀ (i : Nat) (P : Value → Prop), Ps[i]? = some P → ∃ v, vs[i]? = some v ∧ P v
  | _, _, .cons x t, 0, P, hb => by simp at hb; subst hb; exact ⟨_, rfl, x⟩
  | _, _, .cons x t, i + 1, P, hb => by
    simp at hb
    obtain ⟨a, ha, z⟩ := all2_get (F := F) t i P hb
    exact ⟨a, by simpa using ha, z⟩
theorem paired_at {α β : Type} {F : α → β → Prop} : ∀ {l₁ : List α} {l₂ : List β}, Paired F l₁ l₂ → ∀ (i : Nat) (a : α) (b : β), l₁[i]? = some a → l₂[i]? = some b → F a b
  | _, _, .cons x t, 0, a, b, ha, hb => by simp at ha hb; subst ha hb; exact x
  | _, _, .cons x t, i + 1, a, b, ha, hb => by simp at ha hb; exact paired_at t i a b ha hb
theorem strsAre_of : ∀ {ys : List Value} {zs : List Str}, ys.length = zs.length → (∀ (j : Nat) y z, ys[j]? = some y → zs[j]? = some z → IsS z y) → StrsAre ys zs
  | [], [], _, _ => .nil
  | y :: ys, z :: zs, hl, hp => by
    obtain ⟨t, rfl⟩ := hp 0 y z rfl rfl
    exact .cons _ _ (strsAre_of (by simpa using hl) fun j y' z' a b => hp (j + 1) y' z' (by simpa using a) (by simpa using b))
theorem strs_of_range {n : Nat} {g : Nat → Str} {vs ys : List Value} (h1 : vs.length = n) (h2 : ∀ (j : Nat) (v : Value), vs[j]? = some v → j < n ∧ ∃ t, v = .int (j : Int) t)
    (h3 : Paired (fun v y => ∃ (k : Nat) (t : Tok), v = .int (k : Int) t ∧ IsS (g k) y) vs ys) : StrsAre ys ((List.range n).map g) := by
  have hl := h3.length
  refine strsAre_of (by simp; omega) fun j y z a b => ?_
  have hj : j < n := by
    have := (List.getElem?_eq_some_iff.mp a).1
    omega
  obtain ⟨v, hv⟩ : ∃ v, vs[j]? = some v := ⟨_, List.getElem?_eq_getElem (by omega)⟩
  obtain ⟨_, t, rfl⟩ := h2 j v hv
  obtain ⟨k, t', e, q⟩ := paired_at h3 j _ _ hv a
  rw [List.getElem?_map, List.getElem?_range hj] at b
  simp at b
  have : k = j := by simp at e; omega
  subst this
  exact b ▸ q
theorem deeper_room {env : Env} (hroom : A.depth + 20 < recursionLimit) : (A.deeper env).depth + 19 < recursionLimit := by
  show A.depth + 1 + 19 < _; omega

set_option maxHeartbeats 2000000 in
theorem piece (G : Gl w mg mb h) (hroom : A.depth + 20 < recursionLimit) (hh : A.handled = none) {f R : Addr} {n : Nat} {t : Tok} (hr : RunsAt h R runsD) (hf : mg "_law_piece" = some (.ref f)) :
    Cl w A h (.ref f) [.int n t, .ref R] (IsS (st (pieceOf n))) := .mk fun s Q E hs k => by
  have G := G.keeps hs
  have hr := hr.keeps hs
  obtain ⟨f', e, F⟩ := G.fn 19 ⟨_, _, _, _, _⟩ rfl
  obtain rfl : f' = f := by simpa using e.symm.trans hf
  obtain ⟨fs, es, Fs⟩ := G.fn 18 ⟨_, _, _, _, _⟩ rfl
  obtain ⟨fm, em, Fm⟩ := G.fn 17 ⟨_, _, _, _, _⟩ rfl
  refine callAt F G.lim (by omega) (fun _ _ _ => rfl) (by rfl) fun pm cd doc s₁ x => ?_
  have hh' : ∀ env, (A.deeper env).handled = none := fun _ => hh
  have hd' : ∀ env, (A.deeper env).depth < recursionLimit := fun _ => by show A.depth + 1 < _; omega
  refine Exs.cons (x.assignL (P := IsS (sg (signOf (n % 2224128)))) (Ev.callN (G.keeps x.old) (Fs.keeps x.old) es (EvS.cons (Ev.bin (Bop.modN (n := n) (m := 2224128) (by decide)) (x.vI rfl) Ev.int) (EvS.cons (x.vL rfl) EvS.nil)) fun vs hv => ?_) ?_)
  · cases hv with
    | cons a hv => cases hv with
      | cons b hv => cases hv with
        | nil =>
          obtain ⟨u, rfl⟩ := a
          obtain rfl : _ = _ := b
          exact sign (G.keeps x.old) (hd' _) (hr.keeps x.old) es
  rintro v s₂ ⟨u, rfl⟩ x
  generalize hc : signOf (n % 2224128) = c at x
  have hc1 : c < 1114112 := hc ▸ signOf_lt _
  have hn1 := name_len hc1
  have hm1 := mark_len c
  have hdl := dig_len hc1
  refine Exs.cons (x.assignL (P := IsS (st (nameOf c))) (Ev.bin (Bop.cat (by (try simp only [List.length_append, List.length_cons, List.length_nil]); rw [sl]; omega)) (Ev.bin (Bop.cat (by (try simp only [List.length_append, List.length_cons, List.length_nil]); rw [sl]; omega)) (Ev.callN (P := IsS (st (markOf runsD c))) (G.keeps x.old) (Fm.keeps x.old) em (EvS.cons (x.vS rfl) (EvS.cons (x.vL rfl) EvS.nil)) fun vs hv => ?_)
    (evStr (n := c) (G.keeps x.old) hc1 (evOrd (n := c) (G.keeps x.old) (x.vS rfl)))) (Ev.lit (l := [59]) (by decide +kernel))) ?_)
  · cases hv with
    | cons a hv => cases hv with
      | cons b hv => cases hv with
        | nil =>
          obtain ⟨u, rfl⟩ := a
          obtain rfl : _ = _ := b
          exact mark (G.keeps x.old) (hd' _) (hh' _) (hr.keeps x.old) (by rw [runsD_len]; decide) em
  rintro v s₃ ⟨u', rfl⟩ x
  refine Exs.cons (x.newC rfl (P := All2 ((itemL c).map fun l => IsS (st l))) (EvL.list (EvS.cons (x.vS rfl) (EvS.cons (Ev.bin (Bop.cat (by (try simp only [List.length_append, List.length_cons, List.length_nil]); rw [sl]; omega)) (Ev.lit (l := [38]) (by decide +kernel)) (x.vS rfl))
    (EvS.cons (Ev.lit (l := [38]) (by decide +kernel)) (EvS.cons (x.vS rfl) (EvS.cons (Ev.lit (l := [97, 109, 112, 59]) (by decide +kernel)) (EvS.cons (Ev.lit (l := [38, 97, 109, 112, 59]) (by decide +kernel)) (EvS.cons (Ev.lit (l := [32]) (by decide +kernel))
    (EvS.cons (Ev.bin (Bop.cat (by (try simp only [List.length_append, List.length_cons, List.length_nil]); rw [sl]; omega)) (Ev.bin (Bop.cat (a := [120]) (b := [c]) (by (try simp only [List.length_append, List.length_cons, List.length_nil]); rw [sl]; omega)) (Ev.lit (l := [120]) (by decide +kernel)) (x.vS rfl)) (x.vS rfl)) EvS.nil)))))))) (by rw [sl]; show 8 ≤ 16777216; decide)) ?_)
  intro a vs N s₄ hvs x
  refine Exs.cons (x.assignC rfl (Ev.bin (Bop.divN (n := n) (m := 2224128) (by decide) (by decide)) (x.vI rfl) Ev.int) ?_)
  rintro v s₅ ⟨u'', rfl⟩ x
  refine Exs.cons (x.ret (P := IsS (st (pieceOf n))) ?_ fun v s' hv x' => k v s' hv x'.same)
  have hT : (pieceOf n) = (List.range (n / 2224128 % 3 + 1)).flatMap fun k => (itemL c).getD (n / 2224128 / (3 * 8 ^ k) % 8) [] := by unfold pieceOf; rw [hc]
  generalize n / 2224128 = T at x hT
  have hla := isList_lobj (x.get (.head _))
  refine Ev.eqS (Ev.join (ys := (List.range (T % 3 + 1)).map fun k => st ((itemL c).getD (T / (3 * 8 ^ k) % 8) [])) (EvL.mono (EvL.comp (fun _ => true) (fun v y => ∃ k t, v = .int ((k : Nat) : Int) t ∧ IsS (st ((itemL c).getD (T / (3 * 8 ^ k) % 8) [])) y)
    (SrcO.range (n := T % 3 + 1) (G.keeps x.old) (hh' _) (by omega) (Ev.bin (Bop.addN (m := 1)) (Ev.bin (Bop.modN (n := T) (m := 3) (by decide)) (x.cI rfl rfl) Ev.int) Ev.int)).src (by rw [sl]; omega) rfl (by rfl) (by rfl) (by rfl)
    (fun C s₃ m₃ i v hns hm hi hk E' => tests0) ?_) ?_) ?_) ?_
  · intro C h₃ m₃ i v hns hm hi hpv hk
    obtain ⟨hi, t', rfl⟩ := hi
    have h8 : 8 ^ i < 1000 := by
      rcases (by omega : i = 0 ∨ i = 1 ∨ i = 2) with rfl | rfl | rfl <;> decide
    have h80 : 0 < 8 ^ i := Nat.pow_pos (by decide)
    generalize hj : T / (3 * 8 ^ i) % 8 = j
    have hj8 : j < 8 := by omega
    obtain ⟨v, ev, hv⟩ := all2_get (F := fun _ _ => True) hvs j (IsS (st ((itemL c).getD j []))) (by
      rw [List.getElem?_map, List.getD_eq_getElem?_getD, List.getElem?_eq_getElem (show j < (itemL c).length from hj8)]; rfl)
    refine (Ev.item (k := (j : Int)) (v := v) (isList_keeps hla hk) (by omega) (by omega) (by rw [Int.toNat_natCast]; simpa using ev) (Ev.nameC ((x.cell "items" _ rfl).keeps hk) rfl)
      (Ev.eqI (Ev.bin (Bop.modN (m := 8) (by decide)) (Ev.bin (Bop.divN (n := T) (m := 3 * 8 ^ i) (by omega) (by omega)) ((Ev.nameC ((x.cell "t" _ rfl).keeps hk) rfl).mono fun v e => e ▸ isI _ _)
        (Ev.bin (Bop.mulN (n := 3) (m := 8 ^ i) (by decide) (by omega)) Ev.int (Ev.bin (Bop.powN (n := 8) (m := i) (by decide) (by omega)) Ev.int ((Ev.nameL hns hm).mono fun v e => e ▸ isI _ _)))) Ev.int) (by rw [hj]))).mono fun y e => ?_
    obtain rfl : y = v := e
    exact ⟨i, t', rfl, hj ▸ hv⟩
  · rintro ys ⟨vs', h1, h2, h3⟩
    rw [List.filter_eq_self.mpr fun _ _ => rfl] at h3
    exact strs_of_range h1 h2 h3
  · have hb : ∀ y ∈ (List.range (T % 3 + 1)).map fun k => st ((itemL c).getD (T / (3 * 8 ^ k) % 8) []), y.length ≤ 44 := by
      intro y hy
      obtain ⟨k, hk, rfl⟩ := List.mem_map.mp hy
      rw [st_len, List.getD_eq_getElem?_getD, List.getElem?_eq_getElem (show T / (3 * 8 ^ k) % 8 < (itemL c).length by show _ < 8; omega)]
      exact item_len hc1 _ (List.getElem_mem _)
    have := PySem.StrLaws.sumLen_le _ hb
    rw [ofEmpty]
    show _ + _ * 0 ≤ _
    rw [List.length_map, List.length_range] at this
    omega
  · rw [hT, join_empty]
    simp [st, List.flatMap_map]
end
end Mine

namespace Mine
open PySem PySem.W PyProof.Rows PySem.Calls
section
variable {w : World} {A : Around} {mg mb : Str → Option Value} {h h' : Heap} {env : Env}

def RowObj (o : Obj) (r : Row) : Prop := ∃ t₁ t₂ t₃, o.cls = .type "list" ∧ ∃ n, o.data = .seq #[.str (sg r.1) t₁, .int r.2.1 t₂, .int r.2.2 t₃] n
def RowNew (s s' : Shared) (v : Value) (r : Row) : Prop := ∃ a o, v = .ref a ∧ s.heap.get? a = none ∧ s'.heap.get? a = some o ∧ RowObj o r
def RowIn (l : List (Addr × Obj)) (v : Value) (r : Row) : Prop := ∃ a o, v = .ref a ∧ (a, o) ∈ l ∧ RowObj o r
def RunsIn (l : List (Addr × Obj)) (R : Addr) (rs : List Row) : Prop := ∃ items N, (R, lobj items N) ∈ l ∧ Paired (RowIn l) items rs
theorem RowNew.keeps {s₀ s s' s₁ : Shared} {v : Value} {r : Row} (x : RowNew s s' v r) (k : Keeps s₀ s) (k' : Keeps s' s₁) : RowNew s₀ s₁ v r :=
  let ⟨a, o, e, f, g, q⟩ := x; ⟨a, o, e, none_of_sub (kp_sub k) f, kp_sub k' _ _ g, q⟩
theorem RowIn.mono {l l' : List (Addr × Obj)} {v : Value} {r : Row} (x : RowIn l v r) (hl : ∀ p ∈ l, p ∈ l') : RowIn l' v r := let ⟨a, o, e, f, q⟩ := x; ⟨a, o, e, hl _ f, q⟩
theorem RunsIn.mono {l l' : List (Addr × Obj)} {R : Addr} {rs : List Row} (x : RunsIn l R rs) (hl : ∀ p ∈ l, p ∈ l') : RunsIn l' R rs := let ⟨i, N, a, p⟩ := x; ⟨i, N, hl _ a, paired_mono (fun _ _ q => q.mono hl) p⟩
theorem RunsIn.at {l : List (Addr × Obj)} {R : Addr} {rs : List Row} (x : RunsIn l R rs) (hl : ∀ p ∈ l, h.get? p.1 = some p.2) : RunsAt h R rs := by
  obtain ⟨items, N, a, p⟩ := x
  refine ⟨items, isList_lobj (hl _ a), paired_mono (fun v r q => ?_) p⟩
  obtain ⟨b, o, rfl, m, t₁, t₂, t₃, hc, n, hd⟩ := q
  exact ⟨b, t₁, t₂, t₃, rfl, o, hl _ m, hc, n, hd⟩
theorem rows_ledger {s s' : Shared} : ∀ {vs : List Value} {rs : List Row}, Paired (RowNew s s') vs rs → ∃ l : List (Addr × Obj), (∀ p ∈ l, s.heap.get? p.1 = none ∧ s'.heap.get? p.1 = some p.2) ∧ Paired (RowIn l) vs rs
  | _, _, .nil => ⟨[], (fun _ h => nomatch h), .nil⟩
  | _, _, .cons (a := v) (b := r) x t => by
    obtain ⟨l, h1, h2⟩ := rows_ledger t
    obtain ⟨a, o, rfl, f, g, q⟩ := x
    refine ⟨(a, o) :: l, fun p hp => ?_, .cons ⟨a, o, rfl, .head _, q⟩ (paired_mono (fun _ _ z => z.mono fun _ hp => .tail _ hp) h2)⟩
    rcases List.mem_cons.mp hp with rfl | hp
    · exact ⟨f, g⟩
    · exact h1 p hp

structure EvR (w : World) (A : Around) (env : Env) (h : Heap) (e : Expr) (r : Row) : Prop where
  run : ∀ (s : Shared) (Q : Value → Shared → Prop) (E : Value → Shared → Prop), Sub h s.heap → (∀ v s', RowNew s s' v r → Keeps s s' → Q v s') → wpAny (model pw w) A (eval e env) Q E s
structure EvRs (w : World) (A : Around) (env : Env) (h : Heap) (pos : Pos) (es : List Expr) (rs : List Row) : Prop where
  run : ∀ (s : Shared) (Q : List Value → Shared → Prop) (E : Value → Shared → Prop), Sub h s.heap → (∀ vs s', Paired (RowNew s s') vs rs → Keeps s s' → Q vs s') → wpAny (model pw w) A (spliced (backTo pos (starEach es env))) Q E s
theorem EvRs.nil {pos : Pos} : EvRs w A env h pos [] [] := .mk fun s Q E hs k => args_nil (k [] s .nil (kp_refl _))
theorem EvRs.cons {pos : Pos} {e : Expr} {es : List Expr} {r : Row} {rs : List Row} (x : EvR w A env h e r) (y : EvRs w A env h pos es rs)
    (hst : starEach (e :: es) env = (false, eval e env) :: starEach es env := by rfl) : EvRs w A env h pos (e :: es) (r :: rs) := .mk fun s Q E hs k =>
  args_cons (x.run s _ E hs fun v s₁ p k₁ => y.run s₁ _ E (hs.trans (kp_sub k₁)) fun vs s₂ q k₂ => k (v :: vs) s₂ (.cons (p.keeps (kp_refl _) k₂) (paired_mono (fun _ _ z => z.keeps k₁ (kp_refl _)) q)) (kp_trans k₁ k₂)) hst
theorem EvR.of {e : Expr} {r : Row} (x : EvL w A env h e (All2 [IsS (sg r.1), IsI r.2.1, IsI r.2.2])) : EvR w A env h e r := .mk fun s Q E hs k => x.run s Q E hs fun a vs s' hf ⟨N, ho⟩ p k₁ => k _ s' (by
    cases p with
    | cons p1 p => cases p with
      | cons p2 p => cases p with
        | cons p3 p => cases p with
          | nil =>
            obtain ⟨t₁, rfl⟩ := p1
            obtain ⟨t₂, rfl⟩ := p2
            obtain ⟨t₃, rfl⟩ := p3
            exact ⟨a, _, rfl, hf, ho, t₁, t₂, t₃, rfl, N, rfl⟩) k₁
theorem EvR.lit {c : Str} {i j k : Nat} {p q p' pos : Pos} {a b : Int} {n lo hi : Nat} (h1 : c = sg n) (h2 : a = lo) (h3 : b = hi) : EvR w A env h (.List [.Constant (.str c) i p, .Constant (.int a) j q, .Constant (.int b) k p'] pos) (n, lo, hi) :=
  EvR.of (EvL.list (EvS.cons (Ev.eqS Ev.str h1) (EvS.cons (Ev.eqI Ev.int h2) (EvS.cons (Ev.eqI Ev.int h3) EvS.nil))) (by rw [sl]; show 3 ≤ 16777216; decide))
theorem In.newRows {s₀ s : Shared} {m cm : Str → Option Value} {l : List (Addr × Obj)} {E : Value → Shared → Prop} {n : Str} {pos pos' pos'' : Pos} {es : List Expr} {rs : List Row} {Q : Flow → Shared → Prop} (x : In s₀ env m cm l s)
    (he : EvRs w A env s.heap pos'' es rs) (hn : rs.length ≤ sizeLine) (k : ∀ a l' s', RunsIn l' a rs → In s₀ env (upd m n (.ref a)) cm (l' ++ l) s' → Q .next s')
    (hs : swapsWith (.List es pos'') (some (.Name n pos')) pos.line env = pure false := by rfl) (hk : env.scope.kind = .function := by rfl) (hl : env.kindOf n = some .local := by rfl) :
    Ex w A env (.Assign [.Name n pos'] (.List es pos'') pos) Q E s := by
  refine ⟨wpAny_Assign_Name (wpAny_List (he.run s _ E (Sub.refl _) fun vs s₁ p k₁ => ⟨by rw [Paired.length p]; exact hn, ?_⟩)) hs⟩
  obtain ⟨l', h1, h2⟩ := rows_ledger p
  have k₂ : Keeps s { s₁ with heap := s₁.heap.push { cls := .type "list", data := .seq vs.toArray } } := kp_trans k₁ (kp_h fun b o e => Heap.get?_push_of_some _ e)
  refine (x.add (l' := (s₁.heap.objs.size, lobj vs 0) :: l') k₂ fun q hq => ?_).stL (fun s₂ y => k _ ((s₁.heap.objs.size, lobj vs 0) :: l') s₂ ⟨vs, 0, .head _, paired_mono (fun _ _ z => z.mono fun _ hp => .tail _ hp) h2⟩ y) hk hl
  rcases List.mem_cons.mp hq with rfl | hq
  · exact ⟨none_of_sub (kp_sub k₁) (none_of_ge (Nat.le_refl _)), Heap.get?_push_size _ rfl⟩
  · exact ⟨(h1 q hq).1, Heap.get?_push_of_some _ (h1 q hq).2⟩

def New (s s' : Shared) (l : List (Addr × Obj)) : Prop := ∀ p ∈ l, s.heap.get? p.1 = none ∧ s'.heap.get? p.1 = some p.2
/-- a call that makes things -/
structure CN (w : World) (A : Around) (h : Heap) (f : Value) (args : List Value) (P : Value → List (Addr × Obj) → Prop) : Prop where
  run : ∀ (s : Shared) (Q : Value → Shared → Prop) (E : Value → Shared → Prop), Sub h s.heap → (∀ v l s', P v l → New s s' l → Keeps s s' → Q v s') → wpAny (model pw w) A (call f args) Q E s

theorem rows_of_comp {s₂ : Shared} {h' : Heap} {n : Nat} {vs ys : List Value} {g : Nat → Row} {tk : Nat} (h1 : vs.length = n) (h2 : ∀ (j : Nat) (v : Value), vs[j]? = some v → j < n ∧ ∃ t, v = .int (j : Int) t)
    (h3 : Paired (LstIs s₂.heap (fun v its => ∃ (k : Nat) (t : Tok) (t₁ t₂ t₃ : Tok), v = .int (k : Int) t ∧ its = #[.str (sg (g k).1) t₁, .int (g k).2.1 t₂, .int (g k).2.2 t₃]) h') vs ys) :
    Paired (RowNew s₂ { s₂ with heap := h', toks := tk }) ys ((List.range n).map g) := by
  have hl := h3.length
  have key : ∀ {ys : List Value} {rs : List Row}, ys.length = rs.length → (∀ (j : Nat) y r, ys[j]? = some y → rs[j]? = some r → RowNew s₂ { s₂ with heap := h', toks := tk } y r) → Paired (RowNew s₂ { s₂ with heap := h', toks := tk }) ys rs := by
    intro ys
    induction ys with
    | nil => intro rs e _; cases rs with
      | nil => exact .nil
      | cons _ _ => simp at e
    | cons y ys ih => intro rs e hp; cases rs with
      | nil => simp at e
      | cons r rs => exact .cons (hp 0 y r rfl rfl) (ih (by simpa using e) fun j y' r' a b => hp (j + 1) y' r' (by simpa using a) (by simpa using b))
  refine key (by simp; omega) fun j y r a b => ?_
  have hj : j < n := by
    have := (List.getElem?_eq_some_iff.mp a).1
    omega
  obtain ⟨v, hv⟩ : ∃ v, vs[j]? = some v := ⟨_, List.getElem?_eq_getElem (by omega)⟩
  obtain ⟨_, t, rfl⟩ := h2 j v hv
  obtain ⟨T, its, rfl, hn, ⟨o, ho, hc, N, hd⟩, k, t', t₁, t₂, t₃, e, rfl⟩ := paired_at h3 j _ _ hv a
  rw [List.getElem?_map, List.getElem?_range hj] at b
  simp at b
  have : k = j := by simp at e; omega
  subst this
  subst b
  exact ⟨T, o, rfl, hn, ho, t₁, t₂, t₃, hc, N, hd⟩
theorem paired_append {α β : Type} {F : α → β → Prop} : ∀ {l₁ m₁ : List α} {l₂ m₂ : List β}, Paired F l₁ l₂ → Paired F m₁ m₂ → Paired F (l₁ ++ m₁) (l₂ ++ m₂)
  | _, _, _, _, .nil, h => h
  | _, _, _, _, .cons x t, h => .cons x (paired_append t h)

set_option maxHeartbeats 2000000 in
theorem runs (G : Gl w mg mb h) (hroom : A.depth + 20 < recursionLimit) (hh : A.handled = none) {f : Addr} (hf : mg "_law_runs" = some (.ref f)) :
    CN w A h (.ref f) [] fun v l => ∃ R, v = .ref R ∧ RunsIn l R runsD := .mk fun s Q E hs k => by
  have G := G.keeps hs
  obtain ⟨f', e, F⟩ := G.fn 16 ⟨_, _, _, _, _⟩ rfl
  obtain rfl : f' = f := by simpa using e.symm.trans hf
  refine callAt F G.lim (by omega) (fun _ _ _ => rfl) (by rfl) fun pm cd doc s₁ x => ?_
  have hh' : ∀ env, (A.deeper env).handled = none := fun _ => hh
  refine Exs.cons (x.newRows (rs := runsA) ?_ (by rw [sl]; show 18 ≤ 16777216; decide) ?_)
  · repeat (refine EvRs.cons (EvR.lit (by decide +kernel) rfl rfl) ?_)
    exact EvRs.nil
  intro a l' s₂ hl x
  refine Exs.cons ⟨wpAny_Return_some (wpAny_BinOp ((x.vL rfl).run s₂ _ _ (Sub.refl _) fun v s₃ p k₃ => ?_))⟩
  obtain rfl : v = _ := p
  have x := x.keeps k₃
  have x3 := x.old
  refine wpAny_ListComp_freeO (fun _ => true) (fun v its => ∃ (k : Nat) (t : Tok) (t₁ t₂ t₃ : Tok), v = .int (k : Int) t ∧ its = #[.str (sg 110) t₁, .int ((65534 + 65536 * k : Nat) : Int) t₂, .int ((65535 + 65536 * k : Nat) : Int) t₃]) rfl
    (by decide) rfl (by decide) (by rfl) ((SrcO.range (n := 17) (G.keeps x.old) (hh' _) (by decide) Ev.int).run s₃ _ _ (Sub.refl _) fun I fp wr St s₄ W st hfp hwr k₄ live => ?_)
  have up : ∀ {s₅ : Shared}, (∀ b o, b ∉ wr → s₄.heap.get? b = some o → s₅.heap.get? b = some o) → Sub s₃.heap s₅.heap := fun q b o e => q b o (fun hb => by rw [hwr b hb] at e; cases e) (kp_sub k₄ b o e)
  refine ⟨I, fp, wr, 17, _, St, rfl, W, by rw [sl]; decide, live, st, hfp, ⟨fun C i v s₅ m₅ E' _ hP hns hm hk _ => tests0, fun C i v s₅ m₅ E' _ hP hp hns hm hk _ => ?_⟩, fun D h' tk ys vs hD hl' hpl hlen hP hF hnd hne hk => ?_⟩
  · obtain ⟨hi, t, rfl⟩ := hP
    refine (EvL.list (EvS.cons (Ev.eqS Ev.str (show Str.ofString "n" = sg 110 by decide +kernel)) (EvS.cons (Ev.bin (Bop.addN (n := 65534)) Ev.int (Ev.bin (Bop.mulN (n := 65536) (m := i) (by decide) (by omega)) Ev.int ((Ev.nameL hns hm).mono fun v e => e ▸ isI _ _)))
      (EvS.cons (Ev.bin (Bop.addN (n := 65535)) Ev.int (Ev.bin (Bop.mulN (n := 65536) (m := i) (by decide) (by omega)) Ev.int ((Ev.nameL hns hm).mono fun v e => e ▸ isI _ _))) EvS.nil))) (by rw [sl]; show 3 ≤ 16777216; decide)).run s₅ _ E' (Sub.refl _) fun a vs s₆ hf hpl p k₆ => ⟨⟨a, _, rfl, hf, hpl.isList, ?_⟩, k₆⟩
    cases p with
    | cons p1 p => cases p with
      | cons p2 p => cases p with
        | cons p3 p => cases p with
          | nil =>
            obtain ⟨t₁, rfl⟩ := p1
            obtain ⟨t₂, rfl⟩ := p2
            obtain ⟨t₃, rfl⟩ := p3
            exact ⟨i, t, t₁, t₂, t₃, rfl, rfl⟩
  · obtain ⟨items, N, ha, hp⟩ := id hl
    have k₅ : Keeps s₃ { s₄ with heap := h', toks := tk } := by
      obtain ⟨g, t, rfl, _⟩ := k₄
      exact ⟨h', tk, rfl, fun b o e => up (s₅ := { s₃ with heap := h' }) hk b o e⟩
    have x := x.keeps k₅
    obtain ⟨N', hD'⟩ := hpl
    rw [List.filter_eq_self.mpr fun _ _ => rfl] at hF
    have hrows := rows_of_comp (g := fun k => (110, 65534 + 65536 * k, 65535 + 65536 * k)) (tk := tk) hlen hP hF
    obtain ⟨lc, hc1, hc2⟩ := rows_ledger hrows
    have hi := hp.length
    have hy := hrows.length
    refine PySem.P.add_list (x.get (List.mem_append_left _ ha)) hD' ?_ ?_
    · have k₆ : Keeps { s₄ with heap := h', toks := tk } { s₄ with heap := h'.push { cls := .type "list", data := .seq (items.toArray ++ ys) }, toks := tk } := kp_h fun b o e => Heap.get?_push_of_some _ e
      have x := x.keeps k₆
      refine k _ ((h'.objs.size, lobj (items ++ ys.toList) 0) :: (l' ++ lc)) _ ⟨_, rfl, items ++ ys.toList, 0, .head _, paired_append (paired_mono (fun _ _ q => q.mono fun _ hp => .tail _ (List.mem_append_left _ hp)) hp) (paired_mono (fun _ _ q => q.mono fun _ hp => .tail _ (List.mem_append_right _ hp)) hc2)⟩ (fun p hp => ?_) x.same
      have hs4 : Sub s.heap s₄.heap := x3.trans (kp_sub k₄)
      rcases List.mem_cons.mp hp with rfl | hp
      · refine ⟨none_of_sub (h' := h') (x3.trans (kp_sub k₅)) (none_of_ge (Nat.le_refl _)), ?_⟩
        have : (h'.push { cls := .type "list", data := .seq (items.toArray ++ ys) }).get? h'.objs.size = some { cls := .type "list", data := .seq (items.toArray ++ ys) } := Heap.get?_push_size _ rfl
        have e : (items ++ ys.toList).toArray = items.toArray ++ ys := by apply Array.toList_inj.mp; simp
        show _ = some (lobj (items ++ ys.toList) 0)
        unfold lobj
        rw [e]
        exact this
      · rcases List.mem_append.mp hp with hp | hp
        · exact x.neu p (List.mem_append_left _ hp)
        · exact ⟨none_of_sub hs4 (hc1 p hp).1, Heap.get?_push_of_some _ (hc1 p hp).2⟩
    · rw [List.size_toArray, sl]
      have h18 : runsA.length = 18 := by decide
      rw [h18] at hi
      rw [List.length_map, List.length_range, Array.length_toList] at hy
      omega
end
end Mine

namespace Mine
open PySem PySem.W PyProof.Rows PySem.Calls
section
variable {w : World} {A : Around} {mg mb : Str → Option Value} {h h' : Heap} {env : Env}

/-- what a for goes through -/
structure SrcF (w : World) (A : Around) (env : Env) (h : Heap) (e : Expr) (n : Nat) (P : Nat → Value → Prop) (ex : List Addr) : Prop where
  run : ∀ (s : Shared) (Q : Value → Shared → Prop) (E : Value → Shared → Prop), Sub h s.heap →
    (∀ I St s₂, Walks pw w A I (I :: ex) [I] n P St → St 0 s₂.heap → s.heap.get? I = none → Keeps s s₂ → (∀ (i : Nat) (g : Heap), St i g → ∃ o, g.get? I = some o) → Q (.ref I) s₂) →
    wpAny (model pw w) A (eval e env) (fun xv s₁ => wpAny (model pw w) A (pyIter xv) Q E s₁) E s
theorem SrcF.str {e : Expr} {x : Str} (hh : A.handled = none) (q : Ev w A env h e (IsS x)) : SrcF w A env h e x.cps.size (SignAt x) [] := .mk fun s Q E hs k => by
  refine q.run s _ E hs fun v s₁ p k₁ => ?_
  obtain ⟨t, rfl⟩ := p
  have hn := none_of_sub (kp_sub k₁) (none_of_ge (Nat.le_refl _))
  have k₂ : ∀ o, Keeps s { s₁ with heap := s₁.heap.push o } := fun o => kp_trans k₁ (kp_h fun b o e => Heap.get?_push_of_some _ e)
  cases ha : x.cps.all (· < 128)
  · exact wpAny_pyIter_wide ha (k _ _ _ (Walks.strWide hh _ x t) ⟨_, Heap.get?_push_size _ rfl, rfl, rfl⟩ hn (k₂ _) fun i g ⟨o, ho, _⟩ => ⟨o, ho⟩)
  · exact wpAny_pyIter_ascii ha (k _ _ _ (Walks.strAscii hh _ x t) ⟨_, Heap.get?_push_size _ rfl, rfl, rfl⟩ hn (k₂ _) fun i g ⟨o, ho, _⟩ => ⟨o, ho⟩)
theorem SrcF.list {e : Expr} {R : Addr} {items : Array Value} (hh : A.handled = none) (x : Ev w A env h e (IsV (.ref R))) (hl : h.IsList R items) : SrcF w A env h e items.size (fun i v => items[i]? = some v) [R] := .mk fun s Q E hs k => by
  refine x.run s _ E hs fun v s₁ p k₁ => ?_
  obtain rfl : v = _ := p
  have hl₁ := isList_keeps hl (hs.trans (kp_sub k₁))
  have hlt : R < s₁.heap.objs.size := by obtain ⟨o, ho, _⟩ := hl₁; exact Heap.lt_size ho
  exact wpAny_pyIter_list hl₁ (k _ _ _ (Walks.list hh s₁.heap.objs.size R (Nat.ne_of_lt hlt) items) ⟨⟨_, Heap.get?_push_size _ rfl, rfl, rfl⟩, isList_keeps hl₁ fun b o e => Heap.get?_push_of_some _ e⟩
    (none_of_sub (kp_sub k₁) (none_of_ge (Nat.le_refl _))) (kp_trans k₁ (kp_h fun b o e => Heap.get?_push_of_some _ e)) fun i g ⟨⟨o, ho, _⟩, _⟩ => ⟨o, ho⟩)

section
variable {s₀ s : Shared} {m cm : Str → Option Value} {l : List (Addr × Obj)}
theorem In.but (x : In s₀ env m cm l s) {I : Addr} {h₁ : Heap} {tk : Nat} (hk : ∀ b o, b ≠ I → s.heap.get? b = some o → h₁.get? b = some o) (h0 : s₀.heap.get? I = none) (h1 : I ≠ env.locals) (h2 : ∀ n c, env.cells.lookup n = some c → I ≠ c) (h3 : ∀ p ∈ l, p.1 ≠ I) :
    In s₀ env m cm l { s with heap := h₁, toks := tk } := by
  obtain ⟨h, t, rfl, ks⟩ := id x.same
  refine ⟨⟨h₁, tk, rfl, fun b o e => hk b o (fun q => by rw [q, h0] at e; cases e) (ks b o e)⟩, ?_, fun n c e => ?_, x.apart, x.above, x.fresh, fun p hp => ⟨hk _ _ (h3 p hp) (x.led p hp).1, (x.led p hp).2⟩⟩
  · obtain ⟨o, es, ep, ho, r⟩ := x.ns
    exact ⟨o, es, ep, hk _ _ (Ne.symm h1) ho, r⟩
  · obtain ⟨o, ho, r⟩ := x.cell n c e
    exact ⟨o, hk _ _ (Ne.symm (h2 n c e)) ho, r⟩

theorem In.forW {E : Value → Shared → Prop} {v : Str} {px pos : Pos} {iter : Expr} {body : List Stmt} {n : Nat} {P : Nat → Value → Prop} {ex : List Addr} {Q : Flow → Shared → Prop} (x : In s₀ env m cm l s) (src : SrcF w A env s.heap iter n P ex)
    (hex : ∀ b ∈ ex, ∃ o, s₀.heap.get? b = some o) (J : List Value → (Str → Option Value) → (Str → Option Value) → List (Addr × Obj) → Prop) (j0 : J [] m cm l)
    (turn : ∀ vs u m' cm' l' I o s' E', J vs m' cm' l' → vs.length < n → P vs.length u → (∀ p ∈ l', p.1 ≠ I) → In s₀ env (upd m' v u) cm' ((I, o) :: l') s' →
      Exs w A env body (fun f s'' => f = .next ∧ ∃ m'' cm'' l'', J (vs ++ [u]) m'' cm'' l'' ∧ (∀ p ∈ l'', p.1 ≠ I) ∧ In s₀ env m'' cm'' ((I, o) :: l'') s'') E' s')
    (done : ∀ vs m' cm' l' s', J vs m' cm' l' → vs.length = n → (∀ (j : Nat) u, vs[j]? = some u → P j u) → In s₀ env m' cm' l' s' → Q .next s')
    (hs : ∀ x, foldedSetIterable iter env x = pure x := by intro _; rfl) (hk : env.scope.kind = .function := by rfl) (hl : env.kindOf v = some .local := by rfl) :
    Ex w A env (.For (.Name v px) iter body [] pos) Q E s := by
  refine ⟨wpAny_For (src.run s _ E (Sub.refl _) fun I St s₂ W st hf k₂ live => ?_) hs⟩
  have hI0 : s₀.heap.get? I = none := none_of_sub x.old hf
  have hI1 : I ≠ env.locals := fun e => by obtain ⟨o, _, _, ho, _⟩ := x.ns; rw [e, ho] at hf; cases hf
  have hI2 : ∀ n c, env.cells.lookup n = some c → I ≠ c := fun n c hc e => by obtain ⟨o, ho, _⟩ := x.cell n c hc; rw [e, ho] at hf; cases hf
  refine codeAny_forLoop (fun k s' => ∃ vs m' cm' l', J vs m' cm' l' ∧ In s₀ env m' cm' l' s' ∧ St vs.length s'.heap ∧ (∀ p ∈ l', p.1 ≠ I) ∧ vs.length ≤ n ∧ k = n - vs.length ∧ ∀ (j : Nat) u, vs[j]? = some u → P j u) ?_ n
    ⟨[], m, cm, l, j0, x.keeps k₂, st, (fun p hp e => by have := (x.led p hp).1; rw [e, hf] at this; cases this), Nat.zero_le _, rfl, by simp⟩
  rintro k s' ⟨vs, m', cm', l', hj, y, hst, hne, hle, rfl, hP⟩
  by_cases hlt : vs.length < n
  · refine W.item vs.length s' _ _ hlt hst fun u h₁ tk₁ hu st₁ hk₁ => ?_
    have y₁ : In s₀ env m' cm' l' { s' with heap := h₁, toks := tk₁ } := y.but (fun b o hb e => hk₁ b o (by simpa using hb) e) hI0 hI1 hI2 hne
    obtain ⟨o, ho⟩ := live _ _ st₁
    have y₂ : In s₀ env m' cm' ((I, o) :: l') { s' with heap := h₁, toks := tk₁ } := ⟨y₁.same, y₁.ns, y₁.cell, y₁.apart, y₁.above, y₁.fresh, fun p hp => by
      rcases List.mem_cons.mp hp with rfl | hp
      · exact ⟨ho, hI0, hI1, hI2⟩
      · exact y₁.led p hp⟩
    refine wpAny_assign_Name (y₂.stL (fun s₃ y₃ => wpAny_mono (turn vs u m' cm' l' I o s₃ _ hj hlt hu hne y₃).run (fun f s₄ hq => ?_) fun _ _ e => e) hk hl)
    obtain ⟨rfl, m'', cm'', l'', hj', hne', y₄⟩ := hq
    refine ⟨n - (vs.length + 1), by omega, vs ++ [u], m'', cm'', l'', hj', y₄.weak fun p hp => .tail _ hp, ?_, hne', by simp; omega, by simp, fun j z hz => ?_⟩
    · have : St (vs.length + 1) s₄.heap := W.frame _ _ _ st₁ fun b hb o' e => by
        rcases List.mem_cons.mp hb with rfl | hb
        · rw [ho] at e; cases e; exact y₄.get (.head _)
        · obtain ⟨o₀, e₀⟩ := hex b hb
          have := y₁.old _ _ e₀
          dsimp only at this
          rw [e] at this; cases this
          exact y₄.old _ _ e₀
      simpa using this
    · rcases Nat.lt_trichotomy j vs.length with q | q | q
      · exact hP j z (by rwa [List.getElem?_append_left q] at hz)
      · subst q; simp at hz; subst hz; exact hu
      · rw [List.getElem?_eq_none (by rw [List.length_append, List.length_singleton]; omega)] at hz; cases hz
  · have e : vs.length = n := by omega
    refine W.done s' _ _ (e ▸ hst) fun h₁ tk₁ hk₁ => wpAny_execs_nil ?_
    exact done vs m' cm' l' _ hj e hP (y.but (fun b o hb e => hk₁ b o (by simpa using hb) e) hI0 hI1 hI2 hne)
end
end
end Mine

namespace Mine
open PySem PySem.W PyProof.Rows PySem.Calls
section
variable {w : World} {A : Around} {mg mb : Str → Option Value} {h h' : Heap} {env : Env}

def dstep (acc : List Nat) (c : Nat) : List Nat := if c ∈ acc then acc else acc ++ [c]
def distinctOf (l : List Nat) : List Nat := l.foldl dstep []

theorem Cop.notIn {a : Addr} {vs : List Value} {ys : List Str} {k : Str} (hl : h.IsList a vs.toArray) (hi : StrsAre vs ys) : Cop w A h .NotIn (IsS k) (IsV (.ref a)) (!(ys.any (· == k))) := by
  refine ⟨?_⟩
  rintro s Q E _ _ hs ⟨t, rfl⟩ e K
  obtain rfl : _ = Value.ref a := e
  exact notin_list_strs (isList_keeps hl hs) hi (K _ (kp_refl _))
theorem any_sg (acc : List Nat) (c : Nat) : (acc.map sg).any (· == sg c) = decide (c ∈ acc) := by
  rw [Bool.eq_iff_iff]
  simp [List.any_eq_true, sg]
theorem strsAre_snoc : ∀ {vs : List Value} {ys : List Str} {v : Value} {y : Str}, StrsAre vs ys → IsS y v → StrsAre (vs ++ [v]) (ys ++ [y])
  | _, _, _, _, .nil, ⟨t, e⟩ => e ▸ .cons _ _ .nil
  | _, _, _, _, .cons a t r, q => .cons a t (strsAre_snoc r q)
theorem strsAre_len : ∀ {vs : List Value} {ys : List Str}, StrsAre vs ys → vs.length = ys.length
  | _, _, .nil => rfl
  | _, _, .cons a t r => by simp [strsAre_len r]

theorem distinct_len (l : List Nat) : (distinctOf l).length ≤ l.length := by
  have key : ∀ (l acc : List Nat), (l.foldl dstep acc).length ≤ acc.length + l.length := by
    intro l
    induction l with
    | nil => intro acc; simp
    | cons c l ih =>
      intro acc
      rw [List.foldl_cons, List.length_cons]
      refine Nat.le_trans (ih _) ?_
      unfold dstep
      split <;> simp <;> omega
  simpa [distinctOf] using key l []
theorem In.append {s₀ s : Shared} {m cm : Str → Option Value} {l : List (Addr × Obj)} {E : Value → Shared → Prop} {a : Addr} {vs : List Value} {N : Nat} {o arg : Expr} {p q pos : Pos} {P : Value → Prop} {Q : Flow → Shared → Prop}
    (x : In s₀ env m cm ((a, lobj vs N) :: l) s) (hne : ∀ p ∈ l, p.1 ≠ a) (hsz : vs.length ≤ sizeLine) (ho : Ev w A env s.heap o (IsV (.ref a))) (ha : Ev w A env s.heap arg P)
    (k : ∀ v N' s', P v → In s₀ env m cm ((a, lobj (vs ++ [v]) N') :: l) s' → Q .next s')
    {pl : Sem Bool} (he : eval (.Call (.Attribute o "append" p) [arg] [] q) env = (do
      let ov ← eval o env
      standAt p.atName
      let (f, first) ← holding [ov] (getMethod ov "append" pl)
      callWith q f first (backTo q (starEach [arg] env)) []) := by rfl)
    (hst : starEach [arg] env = (false, eval arg env) :: starEach [] env := by rfl)
    (hi : interactive env = false := by rfl) (hsw : swapsWith (.Call (.Attribute o "append" p) [arg] [] q) none pos.line env = pure false := by rfl) :
    Ex w A env (.Expr (.Call (.Attribute o "append" p) [arg] [] q) pos) Q E s := by
  refine ⟨wpAny_Expr (MethodCall_ (ho.run s _ E (Sub.refl _) fun v s₁ e k₁ => ?_) he) hi hsw⟩
  obtain rfl : v = _ := e
  have x₁ := x.keeps k₁
  refine getMethod_list_append (x₁.get (.head _)) rfl rfl (callWith_builtin (by rw [hst]; rfl) ?_)
  rw [hst]
  refine evalArgs_plain (spliced_cons (ha.run s₁ _ E (kp_sub k₁) fun v s₂ p₂ k₂ => spliced_nil ?_))
  have x₂ := x₁.keeps k₂
  refine wpAny_list_append_plain (items := vs.toArray) ⟨N, x₂.get (.head _)⟩ (fun h₃ hl₃ hs₃ => ?_) (by simpa using hsz)
  obtain ⟨N', hN⟩ := hl₃
  have hN : h₃.get? a = some (lobj (vs ++ [v]) N') := by simpa [lobj] using hN
  have x₃ : In s₀ env m cm l { s₂ with heap := h₃, toks := s₂.toks } := (x₂.weak fun p hp => .tail _ hp).but (fun b o hb e => (hs₃.2 b hb).trans e) (x₂.led _ (.head _)).2.1 (x₂.led _ (.head _)).2.2.1 (x₂.led _ (.head _)).2.2.2 hne
  refine k v N' _ p₂ ⟨x₃.same, x₃.ns, x₃.cell, x₃.apart, x₃.above, x₃.fresh, fun p hp => ?_⟩
  rcases List.mem_cons.mp hp with rfl | hp
  · exact ⟨hN, (x₂.led _ (.head _)).2⟩
  · exact x₃.led p hp

set_option maxHeartbeats 1000000 in
theorem distinct (G : Gl w mg mb h) (hroom : A.depth + 20 < recursionLimit) (hh : A.handled = none) {f : Addr} {l : List Nat} {t : Tok} (hlen : l.length ≤ 100000) (hf : mg "_law_distinct" = some (.ref f)) :
    CN w A h (.ref f) [.str (st l) t] fun v led => ∃ a N vs, v = .ref a ∧ led = [(a, lobj vs N)] ∧ StrsAre vs ((distinctOf l).map sg) := .mk fun s Q E hs k => by
  have G := G.keeps hs
  obtain ⟨f', e, F⟩ := G.fn 20 ⟨_, _, _, _, _⟩ rfl
  obtain rfl : f' = f := by simpa using e.symm.trans hf
  refine callAt F G.lim (by omega) (fun _ _ _ => rfl) (by rfl) fun pm cd doc s₁ x => ?_
  have hh' : ∀ env, (A.deeper env).handled = none := fun _ => hh
  refine Exs.cons (x.newL (EvL.list EvS.nil (by rw [sl]; decide)) fun a vs N s₂ hv x => ?_)
  cases hv
  refine Exs.cons (x.forW (n := l.length) (P := SignAt (st l)) (SrcF.str (x := st l) (hh' _) (x.vS rfl)) (by simp) (fun vs m' cm' l' => ∃ ws N', m' "signs" = some (.ref a) ∧ l' = [(a, lobj ws N')] ∧ StrsAre ws ((distinctOf (l.take vs.length)).map sg)) ⟨[], N, rfl, rfl, .nil⟩ ?_ ?_)
  · rintro vs u m' cm' l' I o s₃ E' ⟨ws, N', hm, rfl, hws⟩ hlt ⟨c, tc, hc, rfl⟩ hne x
    have hws' := strsAre_len hws
    have hdl := distinct_len (l.take vs.length)
    rw [List.length_map] at hws'
    rw [List.length_take] at hdl
    have hc : l[vs.length]? = some c := by simpa using hc
    have hd : distinctOf (l.take (vs.length + 1)) = dstep (distinctOf (l.take vs.length)) c := by
      unfold distinctOf
      rw [List.take_add_one, hc, List.foldl_append]; rfl
    have hIa : I ≠ a := fun e => hne _ (.head _) e.symm
    refine Exs.cons (x.ite (Tr.cmp (Cop.notIn (isList_lobj (x.get (.tail _ (.head _)))) hws) (x.vS (t := tc) (i := sg c) rfl) (x.vL ((upd_ne (by decide)).trans hm))) (fun hb s₄ x => ?_) fun hb s₄ x => ?_)
    · have x : In _ _ _ _ [(a, lobj ws N'), (I, o)] s₄ := x.weak (by intro p hp; simp at hp ⊢; exact hp.symm)
      refine Exs.cons (x.append (fun p hp => by rw [List.mem_singleton.mp hp]; exact hIa) (by rw [sl]; omega) (x.vL ((upd_ne (by decide)).trans hm)) (x.vS rfl) fun v N'' s₅ hv x => Exs.nil (Exs.nil ?_))
      have x : In _ _ _ _ ((I, o) :: [(a, lobj (ws ++ [v]) N'')]) s₅ := x.weak (by intro p hp; simp at hp ⊢; exact hp.symm)
      refine ⟨rfl, _, _, _, ⟨_, N'', (upd_ne (by decide)).trans hm, rfl, ?_⟩, fun p hp => by rw [List.mem_singleton.mp hp]; exact hIa.symm, x⟩
      rw [List.length_append, List.length_singleton, hd]
      unfold dstep
      rw [if_neg (by rw [any_sg] at hb; simpa using hb), List.map_append]
      exact strsAre_snoc hws hv
    · refine Exs.nil (Exs.nil ⟨rfl, _, _, _, ⟨_, N', (upd_ne (by decide)).trans hm, rfl, ?_⟩, hne, x⟩)
      rw [List.length_append, List.length_singleton, hd]
      unfold dstep
      rw [if_pos (by rw [any_sg] at hb; simpa using hb)]
      exact hws
  · rintro vs m' cm' l' s₃ ⟨ws, N', hm, rfl, hws⟩ hl hP x
    refine Exs.cons (x.ret (x.vL hm) fun v s' hv x' => ?_)
    obtain rfl : v = _ := hv
    rw [hl, List.take_length] at hws
    exact k _ _ s' ⟨a, N', ws, rfl, rfl, hws⟩ x'.neu x'.same
end
end Mine

namespace Mine
open PySem PySem.W PyProof.Rows PySem.Calls
section
variable {w : World} {A : Around} {mg mb : Str → Option Value} {h h' : Heap} {env : Env}

theorem Tr.val {e : Expr} {b : Bool} (x : Ev w A env h e (IsB b)) (he : isTrue e env (eval e env) = (do let v ← eval e env; standAt e.pos; holding [v] (truthy v)) := by rfl) : Tr w A env h e b := .mk fun s Q E hs k =>
  wpAny_isTrue_value (x.run s _ E hs fun v s₁ p k₁ => by obtain rfl : v = _ := p; exact wpAny_truthy_bool (k s₁ k₁)) he

/-- a letter, a def, what it says of the sign at hand -/
abbrev TRow := Nat × Addr × Bool
def TObj (o : Obj) (r : TRow) : Prop := ∃ t₁, o.cls = .type "list" ∧ ∃ n, o.data = .seq #[.str (sg r.1) t₁, .ref r.2.1] n
def TNew (s s' : Shared) (v : Value) (r : TRow) : Prop := ∃ a o, v = .ref a ∧ s.heap.get? a = none ∧ s'.heap.get? a = some o ∧ TObj o r
def TIn (l : List (Addr × Obj)) (v : Value) (r : TRow) : Prop := ∃ a o, v = .ref a ∧ (a, o) ∈ l ∧ TObj o r
def TAt (h : Heap) (v : Value) (r : TRow) : Prop := ∃ a t₁, v = .ref a ∧ h.IsList a #[.str (sg r.1) t₁, .ref r.2.1]
theorem TNew.keeps {s₀ s s' s₁ : Shared} {v : Value} {r : TRow} (x : TNew s s' v r) (k : Keeps s₀ s) (k' : Keeps s' s₁) : TNew s₀ s₁ v r :=
  let ⟨a, o, e, f, g, q⟩ := x; ⟨a, o, e, none_of_sub (kp_sub k) f, kp_sub k' _ _ g, q⟩
theorem TIn.mono {l l' : List (Addr × Obj)} {v : Value} {r : TRow} (x : TIn l v r) (hl : ∀ p ∈ l, p ∈ l') : TIn l' v r := let ⟨a, o, e, f, q⟩ := x; ⟨a, o, e, hl _ f, q⟩
theorem TIn.at {l : List (Addr × Obj)} {v : Value} {r : TRow} (x : TIn l v r) (hl : ∀ p ∈ l, h.get? p.1 = some p.2) : TAt h v r :=
  let ⟨a, o, e, f, t₁, hc, n, hd⟩ := x; ⟨a, t₁, e, o, hl _ f, hc, n, hd⟩
theorem tab_ledger {s s' : Shared} : ∀ {vs : List Value} {rs : List TRow}, Paired (TNew s s') vs rs → ∃ l : List (Addr × Obj), (∀ p ∈ l, s.heap.get? p.1 = none ∧ s'.heap.get? p.1 = some p.2) ∧ Paired (TIn l) vs rs
  | _, _, .nil => ⟨[], (fun _ h => nomatch h), .nil⟩
  | _, _, .cons (a := v) (b := r) x t => by
    obtain ⟨l, h1, h2⟩ := tab_ledger t
    obtain ⟨a, o, rfl, f, g, q⟩ := x
    refine ⟨(a, o) :: l, fun p hp => ?_, .cons ⟨a, o, rfl, .head _, q⟩ (paired_mono (fun _ _ z => z.mono fun _ hp => .tail _ hp) h2)⟩
    rcases List.mem_cons.mp hp with rfl | hp
    · exact ⟨f, g⟩
    · exact h1 p hp
structure EvT (w : World) (A : Around) (env : Env) (h : Heap) (e : Expr) (r : TRow) : Prop where
  run : ∀ (s : Shared) (Q : Value → Shared → Prop) (E : Value → Shared → Prop), Sub h s.heap → (∀ v s', TNew s s' v r → Keeps s s' → Q v s') → wpAny (model pw w) A (eval e env) Q E s
structure EvTs (w : World) (A : Around) (env : Env) (h : Heap) (pos : Pos) (es : List Expr) (rs : List TRow) : Prop where
  run : ∀ (s : Shared) (Q : List Value → Shared → Prop) (E : Value → Shared → Prop), Sub h s.heap → (∀ vs s', Paired (TNew s s') vs rs → Keeps s s' → Q vs s') → wpAny (model pw w) A (spliced (backTo pos (starEach es env))) Q E s
theorem EvTs.nil {pos : Pos} : EvTs w A env h pos [] [] := .mk fun s Q E hs k => args_nil (k [] s .nil (kp_refl _))
theorem EvTs.cons {pos : Pos} {e : Expr} {es : List Expr} {r : TRow} {rs : List TRow} (x : EvT w A env h e r) (y : EvTs w A env h pos es rs)
    (hst : starEach (e :: es) env = (false, eval e env) :: starEach es env := by rfl) : EvTs w A env h pos (e :: es) (r :: rs) := .mk fun s Q E hs k =>
  args_cons (x.run s _ E hs fun v s₁ p k₁ => y.run s₁ _ E (hs.trans (kp_sub k₁)) fun vs s₂ q k₂ => k (v :: vs) s₂ (.cons (p.keeps (kp_refl _) k₂) (paired_mono (fun _ _ z => z.keeps k₁ (kp_refl _)) q)) (kp_trans k₁ k₂)) hst
theorem EvT.lit {c n : Str} {i : Nat} {p q pos : Pos} {k : Nat} {f : Addr} {b : Bool} (G : Gl w mg mb h) (hf : mg n = some (.ref f)) (h1 : c = sg k) (hg : env.globals = mainGlobals := by rfl)
    (hk : env.scope.kind = .function := by rfl) (hx : env.kindOf n = some .globalImplicit := by rfl) (hd : (n == ("__debug__" : Str)) = false := by decide)
    (hst : starEach [.Constant (.str c) i p, .Name n q] env = (false, eval (.Constant (.str c) i p) env) :: starEach [.Name n q] env := by rfl) (hst' : starEach [.Name n q] env = (false, eval (.Name n q) env) :: starEach [] env := by rfl) :
    EvT w A env h (.List [.Constant (.str c) i p, .Name n q] pos) (k, f, b) := .mk fun s Q E hs K =>
  (EvL.list (EvS.cons (Ev.eqS Ev.str h1) (EvS.cons (Ev.glob G hf hg hk hx hd) EvS.nil hst') hst) (by rw [sl]; show 2 ≤ 16777216; decide)).run s Q E hs fun a vs s' hf ⟨N, ho⟩ p k₁ => K _ s' (by
    cases p with
    | cons p1 p => cases p with
      | cons p2 p => cases p with
        | nil =>
          obtain ⟨t₁, rfl⟩ := p1
          obtain rfl : _ = _ := p2
          exact ⟨a, _, rfl, hf, ho, t₁, rfl, N, rfl⟩) k₁
theorem In.newTab {s₀ s : Shared} {m cm : Str → Option Value} {l : List (Addr × Obj)} {E : Value → Shared → Prop} {n : Str} {pos pos' pos'' : Pos} {es : List Expr} {rs : List TRow} {Q : Flow → Shared → Prop} (x : In s₀ env m cm l s)
    (he : EvTs w A env s.heap pos'' es rs) (hn : rs.length ≤ sizeLine) (k : ∀ a vs l' s', Paired (TIn l') vs rs → In s₀ env (upd m n (.ref a)) cm ((a, lobj vs 0) :: (l' ++ l)) s' → Q .next s')
    (hs : swapsWith (.List es pos'') (some (.Name n pos')) pos.line env = pure false := by rfl) (hk : env.scope.kind = .function := by rfl) (hl : env.kindOf n = some .local := by rfl) :
    Ex w A env (.Assign [.Name n pos'] (.List es pos'') pos) Q E s := by
  refine ⟨wpAny_Assign_Name (wpAny_List (he.run s _ E (Sub.refl _) fun vs s₁ p k₁ => ⟨by rw [Paired.length p]; exact hn, ?_⟩)) hs⟩
  obtain ⟨l', h1, h2⟩ := tab_ledger p
  have k₂ : Keeps s { s₁ with heap := s₁.heap.push { cls := .type "list", data := .seq vs.toArray } } := kp_trans k₁ (kp_h fun b o e => Heap.get?_push_of_some _ e)
  refine (x.add (l' := (s₁.heap.objs.size, lobj vs 0) :: l') k₂ fun q hq => ?_).stL (fun s₂ y => k _ vs l' s₂ h2 y) hk hl
  rcases List.mem_cons.mp hq with rfl | hq
  · exact ⟨none_of_sub (kp_sub k₁) (none_of_ge (Nat.le_refl _)), Heap.get?_push_size _ rfl⟩
  · exact ⟨(h1 q hq).1, Heap.get?_push_of_some _ (h1 q hq).2⟩
theorem TAt.inj {v : Value} {r r' : TRow} (x : TAt h v r) (y : TAt h v r') : r.1 = r'.1 ∧ r.2.1 = r'.2.1 := by
  obtain ⟨a, t₁, rfl, l⟩ := x
  obtain ⟨a', u₁, e, l'⟩ := y
  cases e
  have := isList_inj l l'
  simp only [Array.mk.injEq, List.cons.injEq, Value.str.injEq, Value.ref.injEq, Str.mk.injEq, and_true] at this
  exact ⟨this.1.1, this.2⟩
open Classical in
noncomputable def tabV (h : Heap) (g : Nat → Bool) (v : Value) : Bool := decide (∃ r, TAt h v r ∧ g r.1 = true)
open Classical in
theorem tabV_of {g : Nat → Bool} {v : Value} {r : TRow} (x : TAt h v r) : tabV h g v = g r.1 := by
  unfold tabV
  cases e : g r.1 with
  | true => exact decide_eq_true ⟨r, x, e⟩
  | false => exact decide_eq_false fun ⟨r', x', e'⟩ => by rw [← (x.inj x').1, e] at e'; cases e'
theorem strs_of_tab {g : Nat → Bool} : ∀ {items : List Value} {rs : List TRow} {ys : List Value}, Paired (TAt h) items rs → (∀ r ∈ rs, g r.1 = r.2.2) → Paired (fun v y => ∃ r, TAt h v r ∧ IsS (sg r.1) y) (items.filter (tabV h g)) ys →
    StrsAre ys (((rs.filter (·.2.2)).map (·.1)).map sg)
  | _, _, ys, .nil, _, q => by cases q; exact .nil
  | _, _, ys, .cons (a := v) (b := r) x t, hg, q => by
    rw [List.filter_cons, tabV_of x, hg _ (.head _)] at q
    rw [List.filter_cons]
    cases e : r.2.2 with
    | false => rw [e] at q; exact strs_of_tab t (fun r hr => hg r (.tail _ hr)) q
    | true =>
      rw [e] at q
      simp only [if_true, List.map_cons] at q ⊢
      cases q with
      | cons z q =>
        obtain ⟨r', x', u, rfl⟩ := z
        rw [← (x.inj x').1]
        exact .cons _ _ (strs_of_tab t (fun r hr => hg r (.tail _ hr)) q)

theorem filter_rows {g : Nat → Bool} : ∀ {rs : List TRow}, (∀ r ∈ rs, g r.1 = r.2.2) → (rs.filter (·.2.2)).map (·.1) = (rs.map (·.1)).filter g
  | [], _ => rfl
  | r :: rs, hg => by
    have ih := filter_rows (rs := rs) fun q hq => hg q (.tail _ hq)
    rw [List.filter_cons, List.map_cons, List.filter_cons, hg r (.head _)]
    cases r.2.2 <;> simp [ih]
def seenB (n k : Nat) : Bool := if k = 98 then decide ((n : Int) ∈ b1L) else if k = 115 then n == 32 else if k = 110 then inC4 n else if k = 112 then decide ((n : Int) ∈ c6L) else if k = 105 then decide ((n : Int) ∈ c7L)
  else if k = 100 then decide ((n : Int) ∈ c8L) else decide ((n : Int) ∈ c9L)
def letters : List Nat := [98, 115, 110, 112, 105, 100, 116]
def seenOf (n : Nat) : List Nat := letters.filter (seenB n)

set_option maxHeartbeats 2000000 in
theorem seen (G : Gl w mg mb h) (hroom : A.depth + 20 < recursionLimit) (hh : A.handled = none) {f : Addr} {n : Nat} {t : Tok} (hf : mg "_law_seen" = some (.ref f)) :
    Cl w A h (.ref f) [.str (sg n) t] (IsS (st (seenOf n))) := .mk fun s Q E hs k => by
  have G := G.keeps hs
  obtain ⟨f', e, F⟩ := G.fn 21 ⟨_, _, _, _, _⟩ rfl
  obtain rfl : f' = f := by simpa using e.symm.trans hf
  obtain ⟨f1, e1, F1⟩ := G.fn 4 ⟨_, _, _, _, _⟩ rfl
  obtain ⟨f2, e2, F2⟩ := G.fn 5 ⟨_, _, _, _, _⟩ rfl
  obtain ⟨f3, e3, F3⟩ := G.fn 6 ⟨_, _, _, _, _⟩ rfl
  obtain ⟨f4, e4, F4⟩ := G.fn 8 ⟨_, _, _, _, _⟩ rfl
  obtain ⟨f5, e5, F5⟩ := G.fn 10 ⟨_, _, _, _, _⟩ rfl
  obtain ⟨f6, e6, F6⟩ := G.fn 12 ⟨_, _, _, _, _⟩ rfl
  obtain ⟨f7, e7, F7⟩ := G.fn 14 ⟨_, _, _, _, _⟩ rfl
  have hd' : ∀ env, (A.deeper env).depth < recursionLimit := fun _ => by show A.depth + 1 < _; omega
  -- each row's def answers
  have ans : ∀ r ∈ ([(98, f1, seenB n 98), (115, f2, seenB n 115), (110, f3, seenB n 110), (112, f4, seenB n 112), (105, f5, seenB n 105), (100, f6, seenB n 100), (116, f7, seenB n 116)] : List TRow),
      seenB n r.1 = r.2.2 ∧ ∀ (A' : Around) (g : Heap), A'.depth < recursionLimit → Sub s.heap g → (∃ d, FnAt g d r.2.1) ∧ ∀ t, Cl w A' g (.ref r.2.1) [.str (sg n) t] (IsB r.2.2) := by
    intro r hr
    simp only [List.mem_cons, List.not_mem_nil, or_false] at hr
    rcases hr with rfl | rfl | rfl | rfl | rfl | rfl | rfl
    · exact ⟨rfl, fun A' g ha hg => ⟨⟨_, F1.keeps hg⟩, fun t => b1 (G.keeps hg) ha e1⟩⟩
    · exact ⟨rfl, fun A' g ha hg => ⟨⟨_, F2.keeps hg⟩, fun t => c11 (G.keeps hg) ha e2⟩⟩
    · exact ⟨rfl, fun A' g ha hg => ⟨⟨_, F3.keeps hg⟩, fun t => c4 (G.keeps hg) ha e3⟩⟩
    · exact ⟨rfl, fun A' g ha hg => ⟨⟨_, F4.keeps hg⟩, fun t => c6 (G.keeps hg) ha e4⟩⟩
    · exact ⟨rfl, fun A' g ha hg => ⟨⟨_, F5.keeps hg⟩, fun t => c7 (G.keeps hg) ha e5⟩⟩
    · exact ⟨rfl, fun A' g ha hg => ⟨⟨_, F6.keeps hg⟩, fun t => c8 (G.keeps hg) ha e6⟩⟩
    · exact ⟨rfl, fun A' g ha hg => ⟨⟨_, F7.keeps hg⟩, fun t => c9 (G.keeps hg) ha e7⟩⟩
  clear F1 F2 F3 F4 F5 F6 F7
  refine callAt F G.lim (by omega) (fun _ _ _ => rfl) (by rfl) fun pm cd doc s₁ x => ?_
  have hh' : ∀ env, (A.deeper env).handled = none := fun _ => hh
  refine Exs.cons (x.newTab (rs := [(98, f1, seenB n 98), (115, f2, seenB n 115), (110, f3, seenB n 110), (112, f4, seenB n 112), (105, f5, seenB n 105), (100, f6, seenB n 100), (116, f7, seenB n 116)])
    (EvTs.cons (EvT.lit (G.keeps x.old) e1 (by decide +kernel)) (EvTs.cons (EvT.lit (G.keeps x.old) e2 (by decide +kernel)) (EvTs.cons (EvT.lit (G.keeps x.old) e3 (by decide +kernel)) (EvTs.cons (EvT.lit (G.keeps x.old) e4 (by decide +kernel))
      (EvTs.cons (EvT.lit (G.keeps x.old) e5 (by decide +kernel)) (EvTs.cons (EvT.lit (G.keeps x.old) e6 (by decide +kernel)) (EvTs.cons (EvT.lit (G.keeps x.old) e7 (by decide +kernel)) EvTs.nil))))))) (by rw [sl]; show 7 ≤ 16777216; decide) ?_)
  intro a vs l' s₂ hv x
  generalize hrs : ([(98, f1, seenB n 98), (115, f2, seenB n 115), (110, f3, seenB n 110), (112, f4, seenB n 112), (105, f5, seenB n 105), (100, f6, seenB n 100), (116, f7, seenB n 116)] : List TRow) = rs at ans hv
  have hp : Paired (TAt s₂.heap) vs rs := paired_mono (fun _ _ q => q.at fun p hp => x.get (.tail _ (List.mem_append_left _ hp))) hv
  have hla := isList_lobj (x.get (.head _))
  have hlen : vs.length = rs.length := hp.length
  have hl7 : rs.length = 7 := by rw [← hrs]; rfl
  refine Exs.cons (x.ret (P := IsS (st (seenOf n))) ?_ fun v s' hv x' => k v s' hv x'.same)
  refine Ev.eqS (Ev.join (ys := (seenOf n).map sg) (EvL.mono (EvL.comp (tabV s₂.heap (seenB n)) (fun v y => ∃ r, TAt s₂.heap v r ∧ IsS (sg r.1) y) (Src.list (items := vs.toArray) (hh' _) (x.vL rfl) hla) (by rw [List.size_toArray, sl]; omega) rfl (by rfl) (by rfl) (by rfl) ?_ ?_) ?_) ?_) (glued_empty _)
  · intro C s₃ m₃ i v hns hm hi hk E'
    obtain ⟨r, hr, hv⟩ := paired_mem hp v (by simp at hi; exact List.mem_of_getElem? hi)
    obtain ⟨b, t₁, rfl, hlb⟩ := id hv
    obtain ⟨hg, hcl⟩ := ans r hr
    obtain ⟨⟨d, hd⟩, hc⟩ := hcl _ s₃.heap (hd' _) (x.old.trans hk)
    rw [tabV_of hv, hg]
    refine tests1 (Tr.val (Ev.callF hd (Ev.item (k := 1) (v := .ref r.2.1) (isList_keeps hlb hk) (by decide) (by decide) rfl (Ev.nameL hns hm) Ev.int) (EvS.cons ((Ev.nameC (c := s.heap.objs.size + 1) ((x.cell "c" _ rfl).keeps hk) rfl).mono fun v e => (e ▸ isS _ _ : IsS (sg n) v)) EvS.nil) fun ws hws => ?_))
    cases hws with
    | cons p1 p => cases p with
      | nil =>
        obtain ⟨u, rfl⟩ := p1
        exact hc u
  · intro C h₃ m₃ i v hns hm hi hpv hk
    obtain ⟨r, hr, hv⟩ := paired_mem hp v (by simp at hi; exact List.mem_of_getElem? hi)
    obtain ⟨b, t₁, rfl, hlb⟩ := id hv
    exact (Ev.item (k := 0) (v := .str (sg r.1) t₁) (isList_keeps hlb hk) (by decide) (by decide) rfl (Ev.nameL hns hm) Ev.int).mono fun y e => ⟨r, hv, e ▸ isS _ _⟩
  · rintro ys ⟨ws, hv1, hv2, hv3⟩
    rw [vs_eq hv1 hv2] at hv3
    have := strs_of_tab hp (fun r hr => (ans r hr).1) (by simpa using hv3)
    rw [show seenOf n = (rs.filter (·.2.2)).map (·.1) from ?_]
    · exact this
    · rw [filter_rows fun r hr => (ans r hr).1, ← hrs]; rfl
  · rw [sum_sg, ofEmpty]
    have h1 : (seenOf n).length ≤ 7 := List.length_filter_le _ _
    show _ + _ * 0 ≤ _
    omega
end
end Mine

namespace Mine
open PySem PySem.W PyProof.Rows PySem.Calls PySem.Builtin.Str PySem.StrLaws

/-! ## texts: every a of a text by b, from the left -/
def subK (a b : List Nat) : Nat → List Nat → List Nat
  | _, [] => []
  | k + 1, _ :: t => subK a b k t
  | 0, c :: t => if a.isPrefixOf (c :: t) then b ++ subK a b (a.length - 1) t else c :: subK a b 0 t

def cutsOf (x y : Str) : Nat → Nat → Nat → List Nat
  | 0, _, _ => []
  | n + 1, i, free => if (free ≤ i ∧ i + y.length ≤ x.length) ∧ subAt x y i = true then i :: cutsOf x y n (i + 1) (i + y.length) else cutsOf x y n (i + 1) free
theorem occ_cuts (x y : Str) (limit : Nat) : ∀ (n i : Nat) (st : Array Nat × Nat), st.1.size + n ≤ limit →
    (forIn (List.range' i n) st (occBody x y x.length limit)).run.fst.toList = st.1.toList ++ cutsOf x y n i st.2
  | 0, i, st, _ => by simp [cutsOf]
  | n + 1, i, st, h => by
    rw [List.range'_succ, List.forIn_cons]
    unfold occBody
    rw [cutsOf]
    by_cases c : (st.2 ≤ i ∧ i + y.length ≤ x.length) ∧ subAt x y i = true
    · rw [if_pos ⟨⟨⟨by omega, c.1.1⟩, c.1.2⟩, c.2⟩, if_pos c]
      have := occ_cuts x y limit n (i + 1) (st.1.push i, i + y.length) (by simp; omega)
      simp only [Array.toList_push] at this
      rw [List.append_cons]
      exact this
    · rw [if_neg (fun q => c ⟨⟨q.1.1.2, q.1.2⟩, q.2⟩), if_neg c]
      exact occ_cuts x y limit n (i + 1) st (by omega)
theorem subAt_prefix (x a : List Nat) (i : Nat) (ha : a ≠ []) : ((i + (st a).length ≤ (st x).length) ∧ subAt (st x) (st a) i = true) ↔ a.isPrefixOf (x.drop i) = true := by
  rw [subAt_eq]
  simp only [Str.length, List.size_toArray, beq_iff_eq]
  rw [List.isPrefixOf_iff_prefix, List.prefix_iff_eq_take]
  constructor
  · intro h; exact h.2.symm
  · intro h
    refine ⟨?_, h.symm⟩
    have := congrArg List.length h
    rw [List.length_take, List.length_drop] at this
    have : 0 < a.length := List.length_pos_iff.mpr ha
    omega
theorem join_cuts (x a b : List Nat) (ha : a ≠ []) : ∀ (n i free : Nat), i + n = x.length + 1 → free ≤ x.length →
    (Str.join (st b) (partsFrom (st x) a.length free (cutsOf (st x) (st a) n i free))).cps.toList = (x.drop free).take (i - free) ++ subK a b (free - i) (x.drop i)
  | 0, i, free, h, hf => by
    show ((strSub (st x) free (st x).length).cps.toList) = _
    rw [strSub_toList]
    have : x.drop i = [] := List.drop_eq_nil_of_le (by omega)
    rw [this]
    simp only [subK, List.append_nil, Str.length, List.size_toArray]
    rw [List.take_of_length_le (by simp), List.take_of_length_le (by simp; omega)]
  | n + 1, i, free, h, hf => by
    rw [cutsOf]
    have hal : 0 < a.length := List.length_pos_iff.mpr ha
    by_cases c : (free ≤ i ∧ i + (st a).length ≤ (st x).length) ∧ subAt (st x) (st a) i = true
    · rw [if_pos c, partsFrom]
      have hp := (subAt_prefix x a i ha).mp ⟨c.1.2, c.2⟩
      have hle : i + a.length ≤ x.length := by simpa [Str.length] using c.1.2
      obtain ⟨p, r, hpr⟩ := partsFrom_ne (st x) a.length (i + a.length) (cutsOf (st x) (st a) n (i + 1) (i + a.length))
      have ih := join_cuts x a b ha n (i + 1) (i + a.length) (by omega) hle
      have e : (st a).length = a.length := st_len a
      rw [e, hpr] at *
      show (strSub (st x) free i ++ st b ++ Str.join (st b) (p :: r)).cps.toList = _
      rw [Str.cps_append, Str.cps_append, Array.toList_append, Array.toList_append, ih, strSub_toList]
      have h0 : free - i = 0 := by omega
      have h1 : i + 1 - (i + a.length) = 0 := by omega
      have h2 : i + a.length - (i + 1) = a.length - 1 := by omega
      rw [h0, h1, h2]
      have hx : ∃ c t, x.drop i = c :: t ∧ x.drop (i + 1) = t := by
        refine ⟨x[i], x.drop (i + 1), ?_, rfl⟩
        exact List.drop_eq_getElem_cons (by omega)
      obtain ⟨c, t, e1, e2⟩ := hx
      rw [e1] at hp
      rw [e1, e2, subK, if_pos hp]
      simp
    · rw [if_neg c]
      have ih := join_cuts x a b ha n (i + 1) free (by omega) hf
      rw [ih]
      rcases Nat.lt_or_ge i x.length with hi | hi
      · have e1 : x.drop i = x[i] :: x.drop (i + 1) := List.drop_eq_getElem_cons hi
        rcases Nat.lt_or_ge i free with hif | hif
        · have h0 : free - i = (free - (i + 1)) + 1 := by omega
          have h1 : i - free = 0 := by omega
          have h2 : i + 1 - free = 0 := by omega
          rw [h0, h1, h2, e1, subK]
        · have h0 : free - i = 0 := by omega
          have h1 : free - (i + 1) = 0 := by omega
          have h2 : i + 1 - free = (i - free) + 1 := by omega
          have hn : ¬ a.isPrefixOf (x.drop i) = true := fun q => c ⟨⟨hif, ((subAt_prefix x a i ha).mpr q).1⟩, ((subAt_prefix x a i ha).mpr q).2⟩
          rw [e1] at hn
          rw [h0, h1, h2, e1, subK, if_neg hn]
          have : ((x.drop free).take (i - free + 1)) = (x.drop free).take (i - free) ++ [x[i]] := by
            rw [List.take_add_one, List.getElem?_drop]
            have : free + (i - free) = i := by omega
            rw [this, List.getElem?_eq_getElem hi]
            rfl
          rw [this]
          simp
      · have e1 : x.drop i = [] := List.drop_eq_nil_of_le hi
        have e2 : x.drop (i + 1) = [] := List.drop_eq_nil_of_le (by omega)
        rw [e1, e2]
        simp only [subK, List.append_nil]
        rw [List.take_of_length_le (by simp; omega), List.take_of_length_le (by simp; omega)]
theorem subK_none (a b : List Nat) : ∀ (t : List Nat), (∀ i, a.isPrefixOf (t.drop i) = false ∨ t.drop i = []) → subK a b 0 t = t
  | [], _ => rfl
  | c :: t, h => by
    rw [subK, if_neg (by rcases h 0 with q | q <;> simp_all)]
    rw [subK_none a b t fun i => by simpa using h (i + 1)]
theorem join_split_sub (x a b : List Nat) (ha : a ≠ []) : Txt.join (st b) (Txt.split (st x) (st a)) = st (subK a b 0 x) := by
  have hal : 0 < a.length := List.length_pos_iff.mpr ha
  show glued _ _ = _
  rw [glued_eq_join]
  have whole : ∀ {l : List Nat}, l = subK a b 0 x → Str.join (st b) [st l] = st (subK a b 0 x) := fun e => e ▸ rfl
  unfold Txt.split
  split
  · rename_i hc
    refine whole (subK_none a b x fun i => ?_).symm
    by_cases hd : x.drop i = []
    · exact .inr hd
    left
    rw [Bool.eq_false_iff]
    intro q
    have hp := List.isPrefixOf_iff_prefix.mp q
    rw [Bool.or_eq_true, decide_eq_true_iff, decide_eq_true_iff] at hc
    rcases hc with hc | hc
    · have := hp.length_le
      simp [Str.length] at hc this
      omega
    · have hm : ∀ c ∈ a, c ∈ x := fun c hc => List.mem_of_mem_drop (hp.subset hc)
      unfold Builtin.Str.strKind at hc
      have key : ∀ B, ((st x).cps.all (· < B)) = true → ((st a).cps.all (· < B)) = true := fun B hB => by
        simp only [List.all_toArray, List.all_eq_true] at hB ⊢
        exact fun c hc => hB c (hm c hc)
      have k1 := key 256
      have k2 := key 65536
      revert k1 k2 hc
      cases (st x).cps.all (· < 256) <;> cases (st x).cps.all (· < 65536) <;> cases (st a).cps.all (· < 256) <;> cases (st a).cps.all (· < 65536) <;> simp
  · have hcut : occurrences (st x) (st a) 0 (st x).length ((st x).length + 1) = cutsOf (st x) (st a) (x.length + 1) 0 0 := by
      rw [occ_eq]
      have := occ_cuts (st x) (st a) ((st x).length + 1) (x.length + 1) 0 (#[], 0) (by simp [Str.length])
      simpa [Str.length] using this
    have hj := join_cuts x a b ha (x.length + 1) 0 0 (by omega) (by omega)
    simp only [Nat.sub_zero, List.take_zero, List.nil_append, List.drop_zero] at hj
    split
    · rename_i hc
      rw [hcut, List.isEmpty_iff] at hc
      rw [hc] at hj
      have : (strSub (st x) 0 (st x).length).cps.toList = subK a b 0 x := hj
      rw [sub_whole] at this
      exact whole (by simpa using this)
    · rw [hcut, partsBetween_eq, st_len]
      refine Str.ext' ?_
      apply Array.toList_inj.mp
      rw [hj]
end Mine

namespace Mine
open PySem PySem.W PyProof.Rows PySem.Calls
abbrev tobj (vs : List Value) : Obj := { cls := .type "tuple", data := .seq vs.toArray }
section
variable {w : World} {A : Around} {mg mb : Str → Option Value} {h h' : Heap} {env : Env}

theorem In.rebase {s₀ s₁ s : Shared} {m cm : Str → Option Value} {l l' : List (Addr × Obj)} (k : Keeps s₀ s₁) (hle : s₀.heap.objs.size ≤ s₁.heap.objs.size) (x : In s₁ env m cm l s) (hn : ∀ p ∈ l', s₀.heap.get? p.1 = none ∧ s₁.heap.get? p.1 = some p.2) : In s₀ env m cm (l' ++ l) s := by
  refine ⟨kp_trans k x.same, x.ns, x.cell, x.apart, x.above, Nat.le_trans hle x.fresh, fun p hp => ?_⟩
  rcases List.mem_append.mp hp with q | q
  · obtain ⟨h1, h2⟩ := hn p q
    have hlt : p.1 < env.locals := Nat.lt_of_lt_of_le (Heap.lt_size h2) x.fresh
    exact ⟨x.old _ _ h2, h1, Nat.ne_of_lt hlt, fun n c hc => Nat.ne_of_lt (Nat.lt_trans hlt (x.above n c (mem_of_lookup hc)))⟩
  · exact ⟨(x.led p q).1, none_of_sub (kp_sub k) (x.led p q).2.1, (x.led p q).2.2⟩

theorem isTup_tobj {a : Addr} {vs : List Value} (e : h.get? a = some (tobj vs)) : IsTup h a vs.toArray := ⟨_, e, rfl, _, rfl⟩
theorem isTup_keeps {a : Addr} {items : Array Value} (x : IsTup h a items) (k : Sub h h') : IsTup h' a items := let ⟨o, ho, r⟩ := x; ⟨o, k _ _ ho, r⟩

theorem In.whileW {s₀ s : Shared} {m cm : Str → Option Value} {l : List (Addr × Obj)} {E : Value → Shared → Prop} {test : Expr} {body : List Stmt} {pos : Pos} {Q : Flow → Shared → Prop} (x : In s₀ env m cm l s)
    (J : Nat → (Str → Option Value) → (Str → Option Value) → List (Addr × Obj) → Prop) (n : Nat) (j0 : J n m cm l)
    (turn : ∀ n m cm l s', J n m cm l → In s₀ env m cm l s' → ∃ b, Tr w A env s'.heap test b ∧
      (b = true → ∀ s'' E', In s₀ env m cm l s'' → Exs w A env body (fun f s₃ => f = .next ∧ ∃ n' m' cm' l', n' < n ∧ J n' m' cm' l' ∧ In s₀ env m' cm' l' s₃) E' s'') ∧
      (b = false → ∀ s'', In s₀ env m cm l s'' → Q .next s'')) : Ex w A env (.While test body [] pos) Q E s := by
  refine ⟨wpAny_While (codeAny_whileLoop (fun k s' => ∃ m cm l, J k m cm l ∧ In s₀ env m cm l s') ?_ n ⟨m, cm, l, j0, x⟩)⟩
  rintro k s' ⟨m, cm, l, hj, y⟩
  obtain ⟨b, ht, kt, kf⟩ := turn k m cm l s' hj y
  refine ht.run s' _ _ (Sub.refl _) fun s₂ k₂ => ?_
  cases b with
  | true =>
    refine wpAny_mono (kt rfl s₂ _ (y.keeps k₂)).run (fun f s₃ hq => ?_) fun _ _ e => e
    obtain ⟨rfl, n', m', cm', l', hlt, hj', y'⟩ := hq
    exact ⟨n', hlt, m', cm', l', hj', y'⟩
  | false => exact wpAny_execs_nil (kf rfl s₂ (y.keeps k₂))

theorem Tr.tup {e : Expr} {a : Addr} {vs : List Value} (hl : IsTup h a vs.toArray) (hn : vs.length ≤ sizeLine) (x : Ev w A env h e (IsV (.ref a))) (he : isTrue e env (eval e env) = (do let v ← eval e env; standAt e.pos; holding [v] (truthy v)) := by rfl) : Tr w A env h e (!vs.isEmpty) := .mk fun s Q E hs k =>
  wpAny_isTrue_value (x.run s _ E hs fun v s₁ p k₁ => by
    obtain rfl : v = _ := p
    refine truthy_tuple (isTup_keeps hl (hs.trans (kp_sub k₁))) (by rw [sl] at hn; rw [List.size_toArray]; omega) ?_
    have : (!vs.toArray.isEmpty) = !vs.isEmpty := by simp
    rw [this]
    exact k _ (kp_trans k₁ (kp_tok _ _))) he
theorem Ev.itemT {value slice : Expr} {pos : Pos} {a : Addr} {vs : List Value} {k : Nat} {v : Value} (hl : IsTup h a vs.toArray) (h1 : (k : Int) < 2 ^ 63) (hv : vs[k]? = some v)
    (x : Ev w A env h value (IsV (.ref a))) (y : Ev w A env h slice (IsI k))
    (hs' : ∀ u, subscripted slice false (.ref a) (.int k u) = operate [.ref a, .int k u] (getItem (.ref a) (.int k u)) := by intro u; with_unfolding_all rfl) :
    Ev w A env h (.Subscript value slice pos) (IsV v) := .mk fun s Q E hs K => by
  refine Subscript_ (x.run s _ E hs fun v₁ s₁ p₁ k₁ => y.run s₁ _ E (hs.trans (kp_sub k₁)) fun v₂ s₂ p₂ k₂ => ?_)
  obtain rfl : v₁ = _ := p₁
  obtain ⟨u, rfl⟩ := p₂
  have hl' := isTup_keeps hl (hs.trans (kp_sub (kp_trans k₁ k₂)))
  have hk : k < vs.length := (List.getElem?_eq_some_iff.mp hv).1
  exact item_tupleT hl' (by omega) h1 (j := k) (by rw [StrLaws.seqIndex_nonneg (by omega) (by omega)]; rfl) hv (K _ _ rfl (kp_trans k₁ k₂)) (hs' u)

theorem Ev.joinSplit {o o2 e : Expr} {p q p' q' : Pos} {a b t : List Nat} (x : Ev w A env h o (IsS (st b))) (y : Ev w A env h o2 (IsS (st t))) (z : Ev w A env h e (IsS (st a))) (ha : a ≠ []) (hb : b.length ≤ 50) (ht : t.length ≤ 100000)
    {pl pl' : Sem Bool} (he : eval (.Call (.Attribute o "join" p) [.Call (.Attribute o2 "split" p') [e] [] q'] [] q) env = (do
      let ov ← eval o env
      standAt p.atName
      let (f, first) ← holding [ov] (getMethod ov "join" pl)
      callWith q f first (backTo q (starEach [.Call (.Attribute o2 "split" p') [e] [] q'] env)) []) := by rfl)
    (hst : starEach [.Call (.Attribute o2 "split" p') [e] [] q'] env = (false, eval (.Call (.Attribute o2 "split" p') [e] [] q') env) :: starEach [] env := by rfl)
    (he' : eval (.Call (.Attribute o2 "split" p') [e] [] q') env = (do
      let ov ← eval o2 env
      standAt p'.atName
      let (f, first) ← holding [ov] (getMethod ov "split" pl')
      callWith q' f first (backTo q' (starEach [e] env)) []) := by rfl)
    (hst' : starEach [e] env = (false, eval e env) :: starEach [] env := by rfl) :
    Ev w A env h (.Call (.Attribute o "join" p) [.Call (.Attribute o2 "split" p') [e] [] q'] [] q) (IsS (st (subK a b 0 t))) := .mk fun s Q E hs K => by
  have hal : 0 < a.length := List.length_pos_iff.mpr ha
  refine MethodCall_ (x.run s _ E hs fun v₁ s₁ p₁ k₁ => ?_) he
  obtain ⟨t₁, rfl⟩ := p₁
  refine GM.join (callWith_builtin (by rw [hst]; rfl) ?_)
  rw [hst]
  refine evalArgs_plain (spliced_cons ?_)
  refine MethodCall_ (y.run s₁ _ E (hs.trans (kp_sub k₁)) fun v₂ s₂ p₂ k₂ => ?_) he'
  obtain ⟨t₂, rfl⟩ := p₂
  refine GM.split (callWith_builtin (by rw [hst']; rfl) ?_)
  rw [hst']
  refine evalArgs_plain (spliced_cons (z.run s₂ _ E (hs.trans (kp_sub (kp_trans k₁ k₂))) fun v₃ s₃ p₃ k₃ => spliced_nil ?_))
  obtain ⟨t₃, rfl⟩ := p₃
  have hy1 : 1 ≤ (st a).length := by rw [st_len]; omega
  refine SCH.split1 (P := Sub s₃.heap) (fun g ob hg b o e => Heap.get?_push_of_some _ (hg b o e)) (Sub.refl _) (by rw [st_len, beq_eq_false_iff_ne]; omega) (fun D l g tk hl hg hD => spliced_nil ?_) (by rw [st_len, sl]; omega) ?_
  · have hw := split_weight (st t) (st a) hy1
    refine PyProof.Rows.join_list hD (ys := l.map (·.1)) ?_ ?_ fun t' tk' => ?_
    · simpa using strsAre_of_values l
    · rw [hl]
      rw [st_len] at hw ⊢
      have : (Txt.split (st t) (st a)).length * b.length ≤ 100001 * 50 := Nat.mul_le_mul (by omega) hb
      omega
    · rw [hl, join_split_sub t a b ha]
      refine K _ _ (isS _ _) (kp_trans (kp_trans k₁ (kp_trans k₂ k₃)) ?_)
      exact kp_ht hg
  · have e1 := StrLaws.occ_length_le (st t) (st a) 0 (st t).length ((st t).length + 1)
    rw [len_partsBetween, sl]
    rw [st_len] at e1 ⊢
    omega

/-! ## replace -/
def repl : List (List Nat × List Nat) → List Nat → List Nat
  | [], t => t
  | p :: ps, t => repl ps (subK p.1 p.2 0 t)
def ReplOk : List (List Nat × List Nat) → List Nat → Prop
  | [], t => True
  | p :: ps, t => p.1 ≠ [] ∧ p.2.length ≤ 50 ∧ t.length ≤ 100000 ∧ ReplOk ps (subK p.1 p.2 0 t)
def flat (ps : List (List Nat × List Nat)) : List Str := ps.flatMap fun p => [st p.1, st p.2]

theorem bindArgs_star {s : Shared} {E : Value → Shared → Prop} {name : Str} {params : Arguments} {body : List Stmt} {scope : Scope} {pos : Pos} {pm cd doc v : Value} {vs : List Value} {Q : List (Str × Value) → Shared → Prop} (hi : itemAt 1 = some ⟨name, params, body, scope, pos⟩) (hn : vs.length ≤ sizeLine)
    (k : Q [(Str.ofString "text", v), (Str.ofString "pairs", .ref s.heap.objs.size)] { s with heap := s.heap.push (tobj vs) }) : wpAny (model pw w) A (bindArgs (docDef name params body scope pm cd doc) ⟨v :: vs, []⟩) Q E s := by
  cases hi
  cases vs with
  | nil =>
    show wpAny _ _ (newTuple [] >>= fun t => pure [(Str.ofString "text", v), (Str.ofString "pairs", t)]) _ _ _
    exact wpAny_bind (wpAny_newTuple (wpAny_pure k) hn)
  | cons u us =>
    show wpAny _ _ (newTuple (u :: us) >>= fun t => pure [(Str.ofString "text", v), (Str.ofString "pairs", t)]) _ _ _
    exact wpAny_bind (wpAny_newTuple (wpAny_pure k) hn)

theorem flat_inv {p : List Nat × List Nat} {ps : List (List Nat × List Nat)} {vs : List Value} (x : StrsAre vs (flat (p :: ps))) : ∃ t₁ t₂ us, vs = .str (st p.1) t₁ :: .str (st p.2) t₂ :: us ∧ StrsAre us (flat ps) := by
  have x : StrsAre vs (st p.1 :: st p.2 :: flat ps) := x
  cases x with
  | cons a t₁ r => cases r with
    | cons b t₂ r => exact ⟨t₁, t₂, _, rfl, r⟩

/-- pairs[2:] -/
theorem In.slice2 {s₀ s : Shared} {m cm : Str → Option Value} {l : List (Addr × Obj)} {E : Value → Shared → Prop} {n : Str} {pos pos' p p' q : Pos} {k : Nat} {value : Expr} {a : Addr} {vs : List Value} {Q : Flow → Shared → Prop} (x : In s₀ env m cm l s)
    (he : Ev w A env s.heap value (IsV (.ref a))) (hl : IsTup s.heap a vs.toArray) (h2 : 2 ≤ vs.length) (hn : vs.length ≤ sizeLine) (K : ∀ a' s', In s₀ env (upd m n (.ref a')) cm ((a', tobj (vs.drop 2)) :: l) s' → Q .next s')
    (hs : swapsWith (.Subscript value (.Slice (some (.Constant (.int 2) k q)) none none p) p') (some (.Name n pos')) pos.line env = pure false := by rfl) (hk : env.scope.kind = .function := by rfl) (hl' : env.kindOf n = some .local := by rfl)
    (ht : ∀ o r, letTemporaryGo value o r = pure () := by intro _ _; rfl) :
    Ex w A env (.Assign [.Name n pos'] (.Subscript value (.Slice (some (.Constant (.int 2) k q)) none none p) p') pos) Q E s := by
  refine ⟨wpAny_Assign_Name (wpAny_Subscript_Slice (T := "tuple") PyProof.Rows.slot_tuple_getitem.lookup (he.run s _ E (Sub.refl _) fun v s₁ e k₁ => ?_) ht) hs⟩
  obtain rfl : v = _ := e
  have hl₁ := isTup_keeps hl (kp_sub k₁)
  refine wpAny_Slice ?_
  rw [evalPart_some, evalPart_none]
  refine wpAny_Constant_int (wpAny_pure (wpAny_pure ?_))
  have kS : Keeps s { s₁ with heap := s₁.heap.push { cls := .type "slice", data := .fields #[.int 2 s₁.toks, .none, .none] }, toks := s₁.toks + 1 } := kp_trans k₁ (kp_ht fun b o e => Heap.get?_push_of_some _ e)
  have hl₂ : IsTup (s₁.heap.push { cls := .type "slice", data := .fields #[.int 2 s₁.toks, .none, .none] }) a vs.toArray := isTup_keeps hl₁ fun b o e => Heap.get?_push_of_some _ e
  refine ⟨hl₂.typeIs, getItem_tuple_from (a := 2) hl₂ (Heap.IsSliceOf.new ..) (by decide) (by simpa using h2) ?_ (by simpa using hn)⟩
  have kT := kp_trans kS (kp_h (s := { s₁ with heap := s₁.heap.push { cls := .type "slice", data := .fields #[.int 2 s₁.toks, .none, .none] }, toks := s₁.toks + 1 })
    (h := (s₁.heap.push { cls := .type "slice", data := .fields #[.int 2 s₁.toks, .none, .none] }).push (tobj (vs.drop 2))) fun b o e => Heap.get?_push_of_some _ e)
  exact (x.add (l' := [((s₁.heap.push { cls := .type "slice", data := .fields #[.int 2 s₁.toks, .none, .none] }).objs.size, tobj (vs.drop 2))]) kT fun q hq => by
    rw [List.mem_singleton.mp hq]
    exact ⟨none_of_sub (kp_sub kS) (none_of_ge (Nat.le_refl _)), Heap.get?_push_size _ rfl⟩).stL (fun s₂ y => K _ s₂ y) hk hl'

set_option maxHeartbeats 2000000 in
theorem replace (G : Gl w mg mb h) (hroom : A.depth + 20 < recursionLimit) (hh : A.handled = none) {f : Addr} {ps : List (List Nat × List Nat)} {l : List Nat} {t : Tok} {vs : List Value} (hvs : StrsAre vs (flat ps)) (hn : vs.length ≤ 100000) (ok : ReplOk ps l)
    (hf : mg "replace" = some (.ref f)) : Cl w A h (.ref f) (.str (st l) t :: vs) (IsS (st (repl ps l))) := .mk fun s Q E hs k => by
  have G := G.keeps hs
  obtain ⟨f', e, F⟩ := G.fn 1 ⟨_, _, _, _, _⟩ rfl
  obtain rfl : f' = f := by simpa using e.symm.trans hf
  obtain ⟨c', o, pm, doc, ho, hd, hcd⟩ := F
  have kp : Keeps s { s with heap := s.heap.push (tobj vs) } := kp_h fun b o e => Heap.get?_push_of_some _ e
  refine wpAny_call (codeAny_call_function (by omega) ho hd rfl rfl rfl hcd (bindArgs_star (pos := _) rfl (by rw [sl]; omega) (wpAny_newFunctionEnv_cells rfl ?_ fun env he s' x => ?_)))
  · intro y hy
    rcases List.mem_cons.mp hy with rfl | hy
    · exact .inl rfl
    · rw [List.mem_singleton.mp hy]; exact .inl rfl
  subst he
  refine ⟨(G.lim.keeps (kp_sub kp)).keeps x.toInCall.keep, codeAny_func ?_⟩
  have x := In.rebase (l' := [(s.heap.objs.size, tobj vs)]) kp (by show _ ≤ (s.heap.push _).objs.size; rw [Heap.size_push]; omega) (In.of x) fun p hp => by
    rw [List.mem_singleton.mp hp]; exact ⟨none_of_ge (Nat.le_refl _), Heap.get?_push_size _ rfl⟩
  refine wpAny_mono (Exs.run (Q := Back Q) (E := fun _ _ => False) ?_) (fun f _ q => by cases f <;> exact q) fun _ _ q => q.elim
  refine Exs.cons (x.whileW (fun n m cm led => ∃ a us qs l' t', m "text" = some (.str (st l') t') ∧ m "pairs" = some (.ref a) ∧ (a, tobj us) ∈ led ∧ StrsAre us (flat qs) ∧ us.length ≤ 100000 ∧ ReplOk qs l' ∧ repl qs l' = repl ps l ∧ n = us.length) vs.length
    ⟨s.heap.objs.size, vs, ps, l, t, rfl, rfl, .head _, hvs, hn, ok, rfl, rfl⟩ ?_)
  rintro n m cm led s₁ ⟨a, us, qs, l', t', h1, h2, hm, hus, hul, hok, hr, rfl⟩ x
  refine ⟨!us.isEmpty, Tr.tup (isTup_tobj (x.get hm)) (by rw [sl]; omega) (x.vL h2), fun hb s₂ E' x => ?_, fun hb s₂ x => ?_⟩
  · cases qs with
    | nil => cases hus; cases hb
    | cons p qs =>
      obtain ⟨t₁, t₂, us', rfl, hus'⟩ := flat_inv hus
      obtain ⟨o1, o2, o3, o4⟩ := hok
      have hl := isTup_tobj (x.get hm)
      refine Exs.cons (x.assignL (Ev.joinSplit (a := p.1) (b := p.2) (t := l') ((Ev.itemT (k := 1) hl (by decide) rfl (x.vL h2) Ev.int).mono fun v e => e ▸ isS _ _) (x.vS h1) ((Ev.itemT (k := 0) hl (by decide) rfl (x.vL h2) Ev.int).mono fun v e => e ▸ isS _ _) o1 o2 o3) ?_)
      rintro v s₃ ⟨t₃, rfl⟩ x
      refine Exs.cons (x.slice2 (x.vL ((upd_ne (by decide)).trans h2)) (isTup_tobj (x.get hm)) (by simp) (by rw [sl]; omega) fun a' s₄ x => Exs.nil ?_)
      exact ⟨rfl, us'.length, _, _, _, by simp; omega, ⟨a', us', qs, _, t₃, (upd_ne (by decide)).trans upd_same, upd_same, .head _, hus', by simp at hul; omega, o4, hr, rfl⟩, x⟩
  · have : us = [] := by simpa using hb
    subst this
    cases qs with
    | cons p qs => obtain ⟨t₁, t₂, us', e, _⟩ := flat_inv hus; cases e
    | nil =>
      have hr : l' = repl ps l := hr
      subst hr
      exact Exs.cons (x.ret (x.vS h1) fun v s' hv x' => k v s' hv x'.same)
end
end Mine

namespace Mine
open PySem PySem.W PyProof.Rows PySem.Calls
section
variable {w : World} {A : Around} {mg mb : Str → Option Value} {h h' : Heap} {env : Env}

/-- a plain list, new or old -/
structure EvP (w : World) (A : Around) (env : Env) (h : Heap) (e : Expr) (P : List Value → Prop) : Prop where
  run : ∀ (s : Shared) (Q : Value → Shared → Prop) (E : Value → Shared → Prop), Sub h s.heap → (∀ a vs s', s'.heap.PlainList a vs.toArray → P vs → Keeps s s' → Q (.ref a) s') → wpAny (model pw w) A (eval e env) Q E s
theorem EvL.p {e : Expr} {P : List Value → Prop} (x : EvL w A env h e P) : EvP w A env h e P := .mk fun s Q E hs k => x.run s Q E hs fun a vs s' _ l p kp => k a vs s' l p kp
theorem Ev.p {e : Expr} {a : Addr} {vs : List Value} (x : Ev w A env h e (IsV (.ref a))) (hl : h.PlainList a vs.toArray) : EvP w A env h e (fun us => us = vs) := .mk fun s Q E hs k =>
  x.run s Q E hs fun v s' e kp => by obtain rfl : v = _ := e; exact k a vs s' (plain_keeps hl (hs.trans (kp_sub kp))) rfl kp
theorem plain_lobj {a : Addr} {vs : List Value} {N : Nat} (e : h.get? a = some (lobj vs N)) : h.PlainList a vs.toArray := ⟨N, e⟩
theorem EvP.mono {e : Expr} {P P' : List Value → Prop} (x : EvP w A env h e P) (hp : ∀ v, P v → P' v) : EvP w A env h e P' := .mk fun s Q E hs k => x.run s Q E hs fun a v s' l p kp => k a v s' l (hp v p) kp

theorem EvL.add {l r : Expr} {pos : Pos} {P P' : List Value → Prop} (x : EvP w A env h l P) (y : EvP w A env h r P') (hn : ∀ u v, P u → P' v → u.length + v.length ≤ sizeLine) :
    EvL w A env h (.BinOp l .Add r pos) (fun ws => ∃ u v, P u ∧ P' v ∧ ws = u ++ v) := .mk fun s Q E hs k => by
  refine wpAny_BinOp (x.run s _ E hs fun a us s₁ ha p k₁ => y.run s₁ _ E (hs.trans (kp_sub k₁)) fun b vs s₂ hb q k₂ => ?_)
  obtain ⟨N, ha⟩ := plain_keeps ha (kp_sub k₂)
  obtain ⟨N', hb⟩ := hb
  refine PySem.P.add_list ha hb ?_ (by simpa using hn us vs p q)
  have k₃ : Keeps s₂ { s₂ with heap := s₂.heap.push { cls := .type "list", data := .seq (us.toArray ++ vs.toArray) } } := kp_h fun b o e => Heap.get?_push_of_some _ e
  refine k _ (us ++ vs) _ (none_of_sub (kp_sub (kp_trans k₁ k₂)) (none_of_ge (Nat.le_refl _))) ⟨0, ?_⟩ ⟨us, vs, p, q, rfl⟩ (kp_trans k₁ (kp_trans k₂ k₃))
  have : (us ++ vs).toArray = us.toArray ++ vs.toArray := by simp
  rw [this]
  exact Heap.get?_push_size _ rfl

/-- f(a, *l) -/
theorem Ev.callStar {n : Str} {e e2 : Expr} {p p' pos : Pos} {f : Addr} {d : DefItem} {P₁ P : Value → Prop} {P₂ : List Value → Prop} (G : Gl w mg mb h) (hd : FnAt h d f) (hf : mg n = some (.ref f)) (x : Ev w A env h e P₁) (y : EvP w A env h e2 P₂)
    (hn : ∀ vs, P₂ vs → vs.length ≤ sizeLine) (hc : ∀ v vs, P₁ v → P₂ vs → Cl w A h (.ref f) (v :: vs) P)
    (he : eval (.Call (.Name n p) [e, .Starred e2 p'] [] pos) env = (do callWith pos (← eval (.Name n p) env) [] (backTo pos (starEach [e, .Starred e2 p'] env)) (backToKw pos (keywordEach [] env))) := by rfl)
    (hst : starEach [e, .Starred e2 p'] env = (false, eval e env) :: starEach [.Starred e2 p'] env := by rfl) (hst2 : starEach [.Starred e2 p'] env = (true, eval e2 env) :: starEach [] env := by rfl) (hg : env.globals = mainGlobals := by rfl)
    (hk : env.scope.kind = .function := by rfl) (hx : env.kindOf n = some .globalImplicit := by rfl) (hdb : (n == ("__debug__" : Str)) = false := by decide) : Ev w A env h (.Call (.Name n p) [e, .Starred e2 p'] [] pos) P := .mk fun s Q E hs k => by
  rw [he]
  refine wpAny_bind ((Ev.glob G hf hg hk hx hdb).run s _ E hs fun v s₁ e₁ k₁ => ?_)
  obtain rfl : v = _ := e₁
  obtain ⟨c', o, pm, doc, ho, hda, _⟩ := hd
  refine callWith_def (o := o) hda (args_cons (x.run s₁ _ E (hs.trans (kp_sub k₁)) fun v s₂ p₂ k₂ => ?_) hst) hst
  refine items_star (y.run s₂ _ E (hs.trans (kp_sub (kp_trans k₁ k₂))) fun a vs s₃ ha p₃ k₃ => ?_) hst2
  obtain ⟨N, ha⟩ := ha
  have hT : s₃.TypeIs (.ref a) "list" := ⟨_, ha, rfl⟩
  unfold StarOf notIterableAtAll
  refine wpAny_bind (wpAny_specialOf hT PySem.F.slot_list_iter.lookup (wpAny_pure ⟨rfl, wpAny_collect_seq a (.inl rfl) ha rfl rfl (fun h₄ hk₄ => args_nil ?_) (by simpa using hn vs p₃)⟩))
  have k₄ : Keeps s { s₃ with heap := h₄ } := kp_trans k₁ (kp_trans k₂ (kp_trans k₃ (kp_h hk₄)))
  refine ⟨kp_sub k₄ _ _ (hs _ _ ho), ?_⟩
  have := (hc v vs p₂ p₃).run { s₃ with heap := h₄ } Q E (hs.trans (kp_sub k₄)) fun v₅ s₅ p₅ k₅ => k v₅ s₅ p₅ (kp_trans k₄ k₅)
  simpa using this

/-- l[::-1] -/
theorem EvL.rev {value : Expr} {k : Nat} {pos p p₁ p₂ : Pos} {a : Addr} {vs : List Value} (x : Ev w A env h value (IsV (.ref a))) (hl : h.IsList a vs.toArray) (hn : vs.length ≤ sizeLine) (ht : ∀ o r, letTemporaryGo value o r = pure () := by intro _ _; rfl) :
    EvL w A env h (.Subscript value (.Slice none none (some (.UnaryOp .USub (.Constant (.int 1) k p₁) p₂)) p) pos) (fun us => us = vs.reverse) := .mk fun s Q E hs K => by
  refine wpAny_Subscript_Slice_step (T := "list") list_getitem_lookup (x.run s _ E hs fun v s₁ e k₁ => ?_) ht
  obtain rfl : v = _ := e
  refine wpAny_Slice ?_
  rw [evalPart_some, evalPart_none]
  refine wpAny_pure (wpAny_pure (wpAny_UnaryOp (wpAny_Constant_int (PyProof.Rows.neg_int ?_))))
  have hl₁ := isList_keeps hl (hs.trans (kp_sub k₁))
  have kS : Keeps s { s₁ with heap := s₁.heap.push { cls := .type "slice", data := .fields #[.none, .none, .int (-1) (s₁.toks + 1)] }, toks := s₁.toks + 1 + 1 } := kp_trans k₁ (kp_ht fun b o e => Heap.get?_push_of_some _ e)
  have hl₂ : (s₁.heap.push { cls := .type "slice", data := .fields #[.none, .none, .int (-1) (s₁.toks + 1)] }).IsList a vs.toArray := isList_keeps hl₁ fun b o e => Heap.get?_push_of_some _ e
  refine ⟨hl₂.typeIs, wpAny_getItem_list_slice hl₂ (Heap.IsSliceOf.new ..) .none .none (IsPart.int _ _) (by decide) ?_ (by simpa using hn)⟩
  rw [krv_pick]
  refine K _ vs.reverse _ (none_of_sub (kp_sub kS) (none_of_ge (Nat.le_refl _))) ⟨0, ?_⟩ rfl (kp_trans kS (kp_h fun b o e => Heap.get?_push_of_some _ e))
  exact Heap.get?_push_size _ rfl

theorem In.newF {s₀ s : Shared} {m cm : Str → Option Value} {l : List (Addr × Obj)} {E : Value → Shared → Prop} {n : Str} {pos pos' : Pos} {value : Expr} {P : List Value → Prop} {Q : Flow → Shared → Prop} (x : In s₀ env m cm l s)
    (he : EvL w A env s.heap value P) (k : ∀ a vs N s', P vs → (∀ p ∈ l, p.1 ≠ a) → In s₀ env (upd m n (.ref a)) cm ((a, lobj vs N) :: l) s' → Q .next s')
    (hs : swapsWith value (some (.Name n pos')) pos.line env = pure false := by rfl) (hk : env.scope.kind = .function := by rfl) (hl : env.kindOf n = some .local := by rfl) :
    Ex w A env (.Assign [.Name n pos'] value pos) Q E s := .mk <|
  wpAny_Assign_Name (he.run s _ E (Sub.refl _) fun a vs s₁ hf ⟨N, ho⟩ p k₁ => (x.add (l' := [(a, lobj vs N)]) k₁ fun q hq => by rw [List.mem_singleton.mp hq]; exact ⟨hf, ho⟩).stL (fun s₂ y => k a vs N s₂ p (fun q hq e => by
    have := (x.led q hq).1
    rw [e, hf] at this
    cases this) y) hk hl) hs
theorem In.retL {s₀ s : Shared} {m cm : Str → Option Value} {l : List (Addr × Obj)} {E : Value → Shared → Prop} {pos : Pos} {value : Expr} {P : List Value → Prop} {Q : Flow → Shared → Prop} (x : In s₀ env m cm l s)
    (he : EvL w A env s.heap value P) (k : ∀ a vs N s', P vs → In s₀ env m cm ((a, lobj vs N) :: l) s' → Q (.ret (.ref a)) s') : Ex w A env (.Return (some value) pos) Q E s := .mk <|
  wpAny_Return_some (he.run s _ E (Sub.refl _) fun a vs s₁ hf ⟨N, ho⟩ p k₁ => k a vs N s₁ p (x.add (l' := [(a, lobj vs N)]) k₁ fun q hq => by rw [List.mem_singleton.mp hq]; exact ⟨hf, ho⟩))
end
end Mine

namespace Mine
open PySem PySem.W PyProof.Rows PySem.Calls

def ampP : List Nat × List Nat := ([38], [38, 97, 109, 112, 59])
def pairOf (c : Nat) : List Nat × List Nat := ([c], [38] ++ seenOf c ++ dig c ++ [59])
def pairsOf (signs : List Nat) : List (List Nat × List Nat) := (signs.filter fun c => seenOf c != []).map pairOf
def earlyOf (signs : List Nat) : List (List Nat × List Nat) := ampP :: pairsOf signs
def lateOf (signs : List Nat) : List (List Nat × List Nat) := pairsOf signs ++ [ampP]
def revP (ps : List (List Nat × List Nat)) : List (List Nat × List Nat) := (ps.map fun p => (p.2, p.1)).reverse
def oneOf (l signs : List Nat) : List Nat := repl (earlyOf signs) l
def twoOf (l signs : List Nat) : List Nat := repl (lateOf signs) l
def doneOf (l signs : List Nat) : List (List Nat) := [oneOf l signs, repl (revP (earlyOf signs)) (oneOf l signs), repl (revP (lateOf signs)) (oneOf l signs), twoOf l signs, repl (revP (earlyOf signs)) (twoOf l signs), repl (revP (lateOf signs)) (twoOf l signs)]
structure DoneOk (l signs : List Nat) : Prop where
  e0 : ReplOk (earlyOf signs) l
  l0 : ReplOk (lateOf signs) l
  e1 : ReplOk (revP (earlyOf signs)) (oneOf l signs)
  l1 : ReplOk (revP (lateOf signs)) (oneOf l signs)
  e2 : ReplOk (revP (earlyOf signs)) (twoOf l signs)
  l2 : ReplOk (revP (lateOf signs)) (twoOf l signs)

theorem flat_append (a b : List (List Nat × List Nat)) : flat (a ++ b) = flat a ++ flat b := by simp [flat]
theorem flat_rev : ∀ (ps : List (List Nat × List Nat)), flat (revP ps) = (flat ps).reverse
  | [] => rfl
  | p :: ps => by
    have : revP (p :: ps) = revP ps ++ [(p.2, p.1)] := by simp [revP]
    rw [this, flat_append, flat_rev ps]
    simp [flat]
theorem flat_len (ps : List (List Nat × List Nat)) : (flat ps).length = 2 * ps.length := by
  induction ps with
  | nil => rfl
  | cons p ps ih => rw [show flat (p :: ps) = st p.1 :: st p.2 :: flat ps from rfl]; simp [ih]; omega
theorem strsAre_append : ∀ {a b : List Value} {x y : List Str}, StrsAre a x → StrsAre b y → StrsAre (a ++ b) (x ++ y)
  | _, _, _, _, .nil, h => h
  | _, _, _, _, .cons a t r, h => .cons a t (strsAre_append r h)
theorem strsAre_reverse : ∀ {a : List Value} {x : List Str}, StrsAre a x → StrsAre a.reverse x.reverse
  | _, _, .nil => .nil
  | _, _, .cons a t r => by
    rw [List.reverse_cons, List.reverse_cons]
    exact strsAre_snoc (strsAre_reverse r) (isS _ _)
theorem strsAre_get : ∀ {vs : List Value} {ys : List Str}, StrsAre vs ys → ∀ {i : Nat} {v : Value}, vs[i]? = some v → ∃ y, ys[i]? = some y ∧ IsS y v
  | _, _, .cons a t r, 0, v, e => by simp at e; subst e; exact ⟨a, rfl, isS _ _⟩
  | _, _, .cons a t r, i + 1, v, e => by
    obtain ⟨y, h1, h2⟩ := strsAre_get r (i := i) (v := v) (by simpa using e)
    exact ⟨y, by simpa using h1, h2⟩
theorem pairsOf_len (signs : List Nat) : (pairsOf signs).length ≤ signs.length := by
  unfold pairsOf; rw [List.length_map]; exact List.length_filter_le _ _
theorem pairsOf_snoc (l : List Nat) (c : Nat) : pairsOf (l ++ [c]) = if seenOf c != [] then pairsOf l ++ [pairOf c] else pairsOf l := by
  unfold pairsOf
  rw [List.filter_append, List.map_append]
  cases h : (seenOf c != []) <;> simp [h]
theorem st_ne_empty (l : List Nat) : (st l != Str.ofString "") = (l != []) := by
  rw [ofEmpty, bne, bne]
  congr 1
  rw [Bool.eq_iff_iff, beq_iff_eq, beq_iff_eq]
  constructor
  · intro h
    have : l.toArray = #[] := congrArg Str.cps h
    simpa using this
  · rintro rfl; rfl
theorem seen_len (c : Nat) : (seenOf c).length ≤ 7 := List.length_filter_le _ _

theorem strs_of_all2 : ∀ {ys : List (List Nat)} {vs : List Value}, All2 (ys.map fun y => IsS (st y)) vs → StrsAre vs (ys.map st)
  | [], _, .nil => .nil
  | y :: ys, _, .cons ⟨t, e⟩ r => e ▸ .cons _ _ (strs_of_all2 r)
section
variable {w : World} {A : Around} {mg mb : Str → Option Value} {h h' : Heap} {env : Env}
set_option maxHeartbeats 4000000 in
theorem done (G : Gl w mg mb h) (hroom : A.depth + 40 < recursionLimit) (hh : A.handled = none) {f S : Addr} {l signs : List Nat} {t : Tok} {vs : List Value} (hS : h.IsList S vs.toArray) (hvs : StrsAre vs (signs.map sg)) (hn : signs.length ≤ 10000) (hlt : ∀ c ∈ signs, c < 1114112)
    (ok : DoneOk l signs) (hf : mg "_law_done" = some (.ref f)) :
    CN w A h (.ref f) [.str (st l) t, .ref S] fun v led => ∃ a N us, v = .ref a ∧ led = [(a, lobj us N)] ∧ StrsAre us ((doneOf l signs).map st) := .mk fun s Q E hs k => by
  have G := G.keeps hs
  have hS := isList_keeps hS hs
  have hvl := strsAre_len hvs
  rw [List.length_map] at hvl
  obtain ⟨f', e, F⟩ := G.fn 22 ⟨_, _, _, _, _⟩ rfl
  obtain rfl : f' = f := by simpa using e.symm.trans hf
  obtain ⟨f1, e1, F1⟩ := G.fn 21 ⟨_, _, _, _, _⟩ rfl
  obtain ⟨f2, e2, F2⟩ := G.fn 1 ⟨_, _, _, _, _⟩ rfl
  have hh' : ∀ env, (A.deeper env).handled = none := fun _ => hh
  have hd' : ∀ env, (A.deeper env).depth + 20 < recursionLimit := fun _ => by show A.depth + 1 + 20 < _; omega
  refine callAt F G.lim (by omega) (fun _ _ _ => rfl) (by rfl) fun pm cd doc s₁ x => ?_
  refine Exs.cons (x.newL (EvL.list EvS.nil (by rw [sl]; decide)) fun a vs0 N s₂ hv x => ?_)
  cases hv
  refine Exs.cons (x.forW (n := vs.length) (P := fun i v => vs.toArray[i]? = some v) (SrcF.list (items := vs.toArray) (hh' _) (x.vL rfl) (isList_keeps hS x.old)) (fun b hb => by
      rw [List.mem_singleton.mp hb]
      obtain ⟨o, ho, _⟩ := hS
      exact ⟨o, ho⟩) (fun us m' cm' l' => ∃ a ws N', m' "text" = some (.str (st l) t) ∧ m' "pairs" = some (.ref a) ∧ l' = [(a, lobj ws N')] ∧ StrsAre ws (flat (pairsOf (signs.take us.length)))) ⟨a, [], N, rfl, rfl, rfl, .nil⟩ ?_ ?_)
  · rintro us u m' cm' l' I o s₃ E' ⟨a, ws, N', hm1, hm, rfl, hws⟩ hlt' hu hne x
    have hu : vs[us.length]? = some u := by simpa using hu
    obtain ⟨y, hy, tu, rfl⟩ := strsAre_get hvs hu
    rw [List.getElem?_map] at hy
    obtain ⟨c, hc, rfl⟩ := Option.map_eq_some_iff.mp hy
    have hc1 : c < 1114112 := hlt c (List.mem_of_getElem? hc)
    have hdl := dig_len hc1
    have hsl := seen_len c
    have htk : signs.take (us.length + 1) = signs.take us.length ++ [c] := by rw [List.take_add_one, hc]; rfl
    have hwl := strsAre_len hws
    rw [flat_len] at hwl
    have hpl := pairsOf_len (signs.take us.length)
    rw [List.length_take] at hpl
    refine Exs.cons (x.assignL (P := IsS (st (seenOf c))) (Ev.callN (G.keeps x.old) (F1.keeps x.old) e1 (EvS.cons (x.vS upd_same) EvS.nil) fun vs' hv' => ?_) ?_)
    · cases hv' with
      | cons q hv' => cases hv' with
        | nil =>
          obtain ⟨u', rfl⟩ := q
          exact seen (G.keeps x.old) (hd' _) (hh' _) e1
    rintro v s₄ ⟨u', rfl⟩ x
    refine Exs.cons (x.ite (Tr.cmp Cop.nes (x.vS upd_same) Ev.str) (fun hb s₅ x => ?_) fun hb s₅ x => Exs.nil (Exs.nil ?_))
    · rw [st_ne_empty] at hb
      refine Exs.cons (x.newF (P := fun ws' => ∃ u v, u = ws ∧ All2 [IsS (sg c), IsS (st ([38] ++ seenOf c ++ dig c ++ [59]))] v ∧ ws' = u ++ v) (EvL.add (Ev.p (x.vL ((upd_ne (by decide)).trans ((upd_ne (by decide)).trans hm))) (plain_lobj (x.get (.tail _ (.head _)))))
        (EvL.list (EvS.cons (x.vS ((upd_ne (by decide)).trans upd_same)) (EvS.cons (Ev.bin (Bop.cat (by (try simp only [List.length_append, List.length_cons, List.length_nil]); rw [sl]; omega)) (Ev.bin (Bop.cat (by (try simp only [List.length_append, List.length_cons, List.length_nil]); rw [sl]; omega))
          (Ev.bin (Bop.cat (a := [38]) (by (try simp only [List.length_append, List.length_cons, List.length_nil]); rw [sl]; omega)) (Ev.lit (by decide +kernel)) (x.vS upd_same))
          (evStr (n := c) (G.keeps x.old) hc1 (evOrd (n := c) (G.keeps x.old) (x.vS ((upd_ne (by decide)).trans upd_same))))) (Ev.lit (l := [59]) (by decide +kernel))) EvS.nil)) (by rw [sl]; show 2 ≤ 16777216; decide)).p ?_) ?_)
      · rintro u v rfl hv
        have := hv.length
        rw [sl]
        simp at this
        omega
      · rintro a' ws' N'' s₆ ⟨u, v, rfl, hv, rfl⟩ hfr x
        have x : In _ _ _ _ ((I, o) :: [(a', lobj (u ++ v) N'')]) s₆ := x.weak (by intro p hp; simp at hp ⊢; rcases hp with rfl | rfl <;> simp)
        have hIa : I ≠ a' := hfr (I, o) (.head _)
        refine Exs.nil (Exs.nil ⟨rfl, _, _, _, ⟨a', _, N'', (upd_ne (by decide)).trans ((upd_ne (by decide)).trans ((upd_ne (by decide)).trans hm1)), upd_same, rfl, ?_⟩, fun p hp => by rw [List.mem_singleton.mp hp]; exact hIa.symm, x⟩)
        rw [List.length_append, List.length_singleton, htk, pairsOf_snoc, if_pos hb, flat_append]
        refine strsAre_append hws ?_
        cases hv with
        | cons q1 hv => cases hv with
          | cons q2 hv => cases hv with
            | nil =>
              obtain ⟨t₁, rfl⟩ := q1
              obtain ⟨t₂, rfl⟩ := q2
              exact .cons _ _ (.cons _ _ .nil)
    · rw [st_ne_empty] at hb
      refine ⟨rfl, _, _, _, ⟨a, ws, N', (upd_ne (by decide)).trans ((upd_ne (by decide)).trans hm1), (upd_ne (by decide)).trans ((upd_ne (by decide)).trans hm), rfl, ?_⟩, hne, x⟩
      rw [List.length_append, List.length_singleton, htk, pairsOf_snoc, if_neg (by rw [hb]; decide)]
      exact hws
  · rintro us m' cm' l' s₃ ⟨a, ws, N', hm1, hm, rfl, hws⟩ hul hP x
    rw [hul, List.take_of_length_le (by omega)] at hws
    have hwl := strsAre_len hws
    rw [flat_len] at hwl
    have hpl := pairsOf_len signs
    have amp2 : ∀ v, All2 [IsS (st [38]), IsS (st [38, 97, 109, 112, 59])] v → StrsAre v (flat [ampP]) := by
      intro v hv
      cases hv with
      | cons q1 hv => cases hv with
        | cons q2 hv => cases hv with
          | nil =>
            obtain ⟨t₁, rfl⟩ := q1
            obtain ⟨t₂, rfl⟩ := q2
            exact .cons _ _ (.cons _ _ .nil)
    have evAmp : ∀ {env : Env} {g : Heap} {A' : Around} {p p₁ p₂ : Pos}, EvP w A' env g (.List [.Constant (.str "&") 0 p₁, .Constant (.str "&amp;") 0 p₂] p) (fun v => StrsAre v (flat [ampP])) := fun {env g A' p p₁ p₂} =>
      ((EvL.list (EvS.cons (Ev.lit (l := [38]) (by decide +kernel)) (EvS.cons (Ev.lit (l := [38, 97, 109, 112, 59]) (by decide +kernel)) EvS.nil)) (by rw [sl]; show 2 ≤ 16777216; decide)).mono amp2).p
    refine Exs.cons (x.newL (P := fun ws' => StrsAre ws' (flat (earlyOf signs))) (EvL.mono (EvL.add evAmp (Ev.p (x.vL hm) (plain_lobj (x.get (.head _)))) ?_) ?_) ?_)
    · rintro u v hu rfl
      have := strsAre_len hu
      rw [flat_len] at this
      rw [sl]
      simp at this
      omega
    · rintro ws' ⟨u, v, hu, rfl, rfl⟩
      exact strsAre_append hu hws
    intro ae we Ne s₄ hwe x
    refine Exs.cons (x.newL (P := fun ws' => StrsAre ws' (flat (lateOf signs))) (EvL.mono (EvL.add (Ev.p (x.vL ((upd_ne (by decide)).trans hm)) (plain_lobj (x.get (.tail _ (.head _))))) evAmp ?_) ?_) ?_)
    · rintro u v rfl hu
      have := strsAre_len hu
      rw [flat_len] at this
      rw [sl]
      simp at this
      omega
    · rintro ws' ⟨u, v, rfl, hu, rfl⟩
      unfold lateOf
      rw [flat_append]
      exact strsAre_append hws hu
    intro al wl Nl s₅ hwl' x
    have hwe1 := strsAre_len hwe
    rw [flat_len] at hwe1
    have hwl1 := strsAre_len hwl'
    rw [flat_len] at hwl1
    have hel : (earlyOf signs).length ≤ 10001 := by unfold earlyOf; rw [List.length_cons]; omega
    have hll : (lateOf signs).length ≤ 10001 := by unfold lateOf; rw [List.length_append, List.length_singleton]; omega
    have hwe2 : StrsAre we.reverse (flat (revP (earlyOf signs))) := by rw [flat_rev]; exact strsAre_reverse hwe
    have hwl2 : StrsAre wl.reverse (flat (revP (lateOf signs))) := by rw [flat_rev]; exact strsAre_reverse hwl'
    refine Exs.cons (x.assignL (P := IsS (st (oneOf l signs))) (Ev.callStar (P₁ := IsS (st l)) (P₂ := fun us => us = we) (G.keeps x.old) (F2.keeps x.old) e2 (x.vS hm1) (Ev.p (x.vL rfl) (plain_lobj (x.get (.tail _ (.head _))))) (fun vs hv => by rw [hv, sl]; omega) ?_) ?_)
    · rintro v vs ⟨u, rfl⟩ rfl
      exact replace (G.keeps x.old) (hd' _) (hh' _) hwe (by omega) ok.e0 e2
    rintro v s₆ ⟨u1, rfl⟩ x
    refine Exs.cons (x.assignL (P := IsS (st (twoOf l signs))) (Ev.callStar (P₁ := IsS (st l)) (P₂ := fun us => us = wl) (G.keeps x.old) (F2.keeps x.old) e2 (x.vS hm1) (Ev.p (x.vL rfl) (plain_lobj (x.get (.head _)))) (fun vs hv => by rw [hv, sl]; omega) ?_) ?_)
    · rintro v vs ⟨u, rfl⟩ rfl
      exact replace (G.keeps x.old) (hd' _) (hh' _) hwl' (by omega) ok.l0 e2
    rintro v s₇ ⟨u2, rfl⟩ x
    have hie := isList_lobj (x.get (.tail _ (.head _)))
    have hil := isList_lobj (x.get (.head _))
    have hnl : ∀ (us : List Value), us = wl.reverse → us.length ≤ sizeLine := fun us e => by rw [e, List.length_reverse, sl]; omega
    have hne : ∀ (us : List Value), us = we.reverse → us.length ≤ sizeLine := fun us e => by rw [e, List.length_reverse, sl]; omega
    have hzl : wl.length ≤ sizeLine := by rw [sl]; omega
    have hze : we.length ≤ sizeLine := by rw [sl]; omega
    refine Exs.cons (x.retL (P := All2 ((doneOf l signs).map fun y => IsS (st y))) (EvL.list (EvS.cons (x.vS rfl) (EvS.cons (Ev.callStar (P₁ := IsS (st (oneOf l signs))) (P₂ := fun us => us = we.reverse) (G.keeps x.old) (F2.keeps x.old) e2 (x.vS rfl) (EvL.rev (x.vL rfl) hie hze).p hne ?_)
      (EvS.cons (Ev.callStar (P₁ := IsS (st (oneOf l signs))) (P₂ := fun us => us = wl.reverse) (G.keeps x.old) (F2.keeps x.old) e2 (x.vS rfl) (EvL.rev (x.vL rfl) hil hzl).p hnl ?_)
      (EvS.cons (x.vS rfl) (EvS.cons (Ev.callStar (P₁ := IsS (st (twoOf l signs))) (P₂ := fun us => us = we.reverse) (G.keeps x.old) (F2.keeps x.old) e2 (x.vS rfl) (EvL.rev (x.vL rfl) hie hze).p hne ?_)
      (EvS.cons (Ev.callStar (P₁ := IsS (st (twoOf l signs))) (P₂ := fun us => us = wl.reverse) (G.keeps x.old) (F2.keeps x.old) e2 (x.vS rfl) (EvL.rev (x.vL rfl) hil hzl).p hnl ?_) EvS.nil)))))) (by rw [sl]; show 6 ≤ 16777216; decide)) ?_)
    · rintro v vs ⟨u, rfl⟩ rfl
      exact replace (G.keeps x.old) (hd' _) (hh' _) hwe2 (by rw [List.length_reverse]; omega) ok.e1 e2
    · rintro v vs ⟨u, rfl⟩ rfl
      exact replace (G.keeps x.old) (hd' _) (hh' _) hwl2 (by rw [List.length_reverse]; omega) ok.l1 e2
    · rintro v vs ⟨u, rfl⟩ rfl
      exact replace (G.keeps x.old) (hd' _) (hh' _) hwe2 (by rw [List.length_reverse]; omega) ok.e2 e2
    · rintro v vs ⟨u, rfl⟩ rfl
      exact replace (G.keeps x.old) (hd' _) (hh' _) hwl2 (by rw [List.length_reverse]; omega) ok.l2 e2
    intro a' us' N' s' hus x'
    refine k _ _ s' ⟨a', N', us', rfl, rfl, strs_of_all2 hus⟩ (fun p hp => x'.neu p (by rw [List.mem_singleton.mp hp]; exact .head _)) x'.same
end
end Mine

namespace Mine
open PySem PySem.W PyProof.Rows PySem.Calls
section
variable {w : World} {A : Around} {mg mb : Str → Option Value} {h h' : Heap} {env : Env}

/-! ## names by signs -/
def NV (kv : Str × Value) (c : Nat) : Prop := kv.1 = sg c ∧ IsS (st (nameOf c)) kv.2
def NamesObj (w : World) (o : Obj) (N : List Nat) : Prop := ∃ kvs, o.IsDictOf (PySem.strKind pw w) kvs ∧ Paired NV kvs N
structure NamesAt (w : World) (h : Heap) (D : Addr) (N : List Nat) : Prop where
  ne : (D == sysModules) = false
  at' : ∃ o, h.get? D = some o ∧ NamesObj w o N
theorem NamesAt.keeps {D : Addr} {N : List Nat} (x : NamesAt w h D N) (k : Sub h h') : NamesAt w h' D N := ⟨x.ne, let ⟨o, a, b⟩ := x.at'; ⟨o, k _ _ a, b⟩⟩
theorem NamesAt.get {D : Addr} {N : List Nat} (x : NamesAt w h D N) : ∃ kvs, h.DictOf (PySem.strKind pw w) D kvs ∧ Paired NV kvs N := by
  obtain ⟨o, a, kvs, b, c⟩ := x.at'
  exact ⟨kvs, Heap.dictOf_iff.mpr ⟨o, a, b⟩, c⟩
theorem sg_inj {a b : Nat} (e : sg a = sg b) : a = b := by
  have := congrArg Str.cps e
  simpa [sg] using this
theorem names_value : ∀ {kvs : List (Str × Value)} {N : List Nat}, Paired NV kvs N → ∀ c, (c ∈ N → ∃ v, valueAt kvs (sg c) = some v ∧ IsS (st (nameOf c)) v) ∧ (c ∉ N → valueAt kvs (sg c) = none)
  | _, _, .nil, c => ⟨(fun h => by cases h), fun _ => rfl⟩
  | _, _, .cons (a := kv) (b := b) q r, c => by
    have ih := names_value r c
    by_cases e : c = b
    · subst e
      refine ⟨fun _ => ⟨kv.2, ?_, q.2⟩, fun hn => absurd (.head _) hn⟩
      simp [valueAt, q.1]
    · have hne : ¬ (kv.1 = sg c) := fun e' => e (sg_inj (e'.symm.trans q.1))
      have : ∀ kvs, valueAt (kv :: kvs) (sg c) = valueAt kvs (sg c) := fun kvs => by simp [valueAt, hne]
      rw [this]
      exact ⟨fun hm => ih.1 ((List.mem_cons.mp hm).resolve_left e), fun hm => ih.2 fun q => hm (.tail _ q)⟩
theorem isStr_kind {x : Str} {t : Tok} : (PySem.strKind pw w).is x (.str x t) = true := strKind_is pw w x t

theorem Cop.inD {D : Addr} {N : List Nat} {c : Nat} (hD : NamesAt w h D N) : Cop w A h .In (IsS (sg c)) (IsV (.ref D)) (decide (c ∈ N)) := by
  refine ⟨?_⟩
  rintro s Q E _ _ hs ⟨t, rfl⟩ e K
  obtain rfl : _ = Value.ref D := e
  obtain ⟨kvs, hd, hp⟩ := (hD.keeps hs).get
  refine wpAny_in_of isStr_kind hD.ne hd.mapOf ?_
  have hv := names_value hp c
  by_cases hc : c ∈ N
  · obtain ⟨v, e, _⟩ := hv.1 hc
    rw [e, decide_eq_true hc] at *
    exact K _ (kp_tok _ _)
  · rw [hv.2 hc, decide_eq_false hc] at *
    exact K _ (kp_tok _ _)
theorem Ev.itemD {value slice : Expr} {pos : Pos} {D : Addr} {N : List Nat} {c : Nat} (hD : NamesAt w h D N) (hc : c ∈ N) (x : Ev w A env h value (IsV (.ref D))) (y : Ev w A env h slice (IsS (sg c)))
    (hs' : ∀ u, subscripted slice false (.ref D) (.str (sg c) u) = operate [.ref D, .str (sg c) u] (getItem (.ref D) (.str (sg c) u)) := by intro u; with_unfolding_all rfl) :
    Ev w A env h (.Subscript value slice pos) (IsS (st (nameOf c))) := .mk fun s Q E hs K => by
  refine Subscript_ (x.run s _ E hs fun v₁ s₁ p₁ k₁ => y.run s₁ _ E (hs.trans (kp_sub k₁)) fun v₂ s₂ p₂ k₂ => ?_)
  obtain rfl : v₁ = _ := p₁
  obtain ⟨u, rfl⟩ := p₂
  obtain ⟨kvs, hd, hp⟩ := (hD.keeps (hs.trans (kp_sub (kp_trans k₁ k₂)))).get
  obtain ⟨v, e, hv⟩ := (names_value hp c).1 hc
  exact tail_any hd.typeIs PySem.slot_dict_getitem.lookup (wpAny_getItem_of isStr_kind hd.mapOf e (K _ _ hv (kp_trans (kp_trans k₁ k₂) (kp_tok _ _)))) (hs' u)
theorem walks_mono {I : Addr} {fp wr : List Addr} {n : Nat} {P P' : Nat → Value → Prop} {St : Nat → Heap → Prop} (W : Walks pw w A I fp wr n P St) (hp : ∀ i v, P i v → P' i v) : Walks pw w A I fp wr n P' St where
  sub := W.sub
  frame := W.frame
  item := fun i s Q E hi st hQ => W.item i s Q E hi st fun v h' tk p => hQ v h' tk (hp i v p)
  done := W.done
  self := W.self
theorem Src.dict {e : Expr} {D : Addr} {N : List Nat} (hh : A.handled = none) (hD : NamesAt w h D N) (x : Ev w A env h e (IsV (.ref D))) : Src w A env h e N.length (fun i v => ∃ c, N[i]? = some c ∧ IsS (sg c) v) := .mk fun s Q E hs k => by
  refine x.run s _ E hs fun v s₁ p k₁ => ?_
  obtain rfl : v = _ := p
  obtain ⟨kvs, hd, hp⟩ := (hD.keeps (hs.trans (kp_sub k₁))).get
  obtain ⟨ep, hd⟩ := hd.dictAt
  have hlt := hd.lt_size
  have hl := hp.length
  refine wpAny_pyIter_dict hD.ne hd ?_
  have W := Walks.dictKeys (prog := pw) (w := w) (A := A) (knd := PySem.strKind pw w) hh s₁.heap.objs.size D (Nat.ne_of_lt hlt) kvs ep
  rw [hl] at W ⊢
  refine k s₁.heap.objs.size [s₁.heap.objs.size, D] [s₁.heap.objs.size] _ _ (walks_mono W ?_) ⟨⟨_, Heap.get?_push_size _ rfl, rfl, rfl⟩, hd.push _⟩ ?_ ?_ ?_
  · rintro i v ⟨kk, xx, e, hk⟩
    obtain ⟨t, rfl⟩ := Value.isStrOf_shape hk
    have hi : i < N.length := by rw [← hl]; exact (List.getElem?_eq_some_iff.mp e).1
    refine ⟨N[i], List.getElem?_eq_getElem hi, ?_⟩
    have := paired_at hp i _ _ e (List.getElem?_eq_getElem hi)
    rw [← this.1]
    exact isS _ _
  · intro b hb
    rw [Heap.size_push]
    simp at hb
    rcases hb with rfl | rfl
    · exact Nat.lt_succ_self _
    · exact Nat.lt_succ_of_lt hlt
  · intro b hb
    simp at hb
    subst hb
    exact none_of_sub (kp_sub k₁) (none_of_ge (Nat.le_refl _))
  · exact kp_trans k₁ (kp_h fun b o e => Heap.get?_push_of_some _ e)
end
end Mine

namespace Mine
open PySem PySem.W PyProof.Rows PySem.Calls

def wrOf (N : List Nat) (amp lead : List Nat) (c : Nat) : List Nat := if c = 38 then amp else if c ∈ N then lead ++ nameOf c else [c]
theorem strs_of_signs {l : List Nat} {g : Nat → Str} {vs ys : List Value} (h1 : vs.length = l.length) (h2 : ∀ (j : Nat) (v : Value), vs[j]? = some v → SignAt (st l) j v)
    (h3 : Paired (fun v y => ∃ (c : Nat) (t : Tok), v = .str (sg c) t ∧ IsS (g c) y) vs ys) : StrsAre ys (l.map g) := by
  have hl := h3.length
  refine strsAre_of (by simp; omega) fun j y z a b => ?_
  have hj : j < l.length := by
    have := (List.getElem?_eq_some_iff.mp a).1
    omega
  obtain ⟨v, hv⟩ : ∃ v, vs[j]? = some v := ⟨_, List.getElem?_eq_getElem (by omega)⟩
  obtain ⟨c, t, hc, rfl⟩ := h2 j v hv
  obtain ⟨c', t', e, q⟩ := paired_at h3 j _ _ hv a
  have hc : l[j]? = some c := by simpa using hc
  rw [List.getElem?_map, hc] at b
  have : c = c' := by
    have := congrArg (fun v => match v with | .str x _ => x | _ => sg 0) e
    exact sg_inj this
  subst this
  simp at b
  exact b ▸ q
theorem sum_le {B : Nat} (l : List Nat) (g : Nat → List Nat) (hb : ∀ c ∈ l, (g c).length ≤ B) : ((l.map fun c => st (g c)).map (·.length)).sum ≤ l.length * B := by
  have := PySem.StrLaws.sumLen_le (B := B) (l.map fun c => st (g c)) fun y hy => by
    obtain ⟨c, hc, rfl⟩ := List.mem_map.mp hy
    rw [st_len]
    exact hb c hc
  simpa using this
theorem wr_len {N : List Nat} {amp lead : List Nat} (ha : amp.length ≤ 5) (hl : lead.length ≤ 5) (hN : ∀ c ∈ N, c < 1114112) (c : Nat) : (wrOf N amp lead c).length ≤ 48 := by
  unfold wrOf
  split
  · omega
  · split
    · rename_i hc
      have := name_len (hN c hc)
      rw [List.length_append]; omega
    · simp
section
variable {w : World} {A : Around} {mg mb : Str → Option Value} {h h' : Heap} {env : Env}
theorem Cop.eqc {c n : Nat} {x : Str} (e : x = sg n := by decide +kernel) : Cop w A h .Eq (IsS (sg c)) (IsS x) (decide (c = n)) := by
  have := @Cop.eqs w A h (sg c) x
  subst e
  have q : (sg c == sg n) = decide (c = n) := by
    rw [Bool.eq_iff_iff, beq_iff_eq, decide_eq_true_iff]
    exact ⟨sg_inj, fun e => e ▸ rfl⟩
  rw [q] at this
  exact this
set_option maxHeartbeats 2000000 in
theorem written (G : Gl w mg mb h) (hroom : A.depth + 20 < recursionLimit) (hh : A.handled = none) {f D : Addr} {l N amp lead : List Nat} {t t₁ t₂ : Tok} (hlen : l.length ≤ 100000) (hD : NamesAt w h D N) (hN : ∀ c ∈ N, c < 1114112)
    (ha : amp.length ≤ 5) (hl : lead.length ≤ 5) (hf : mg "_law_written" = some (.ref f)) :
    Cl w A h (.ref f) [.str (st l) t, .ref D, .str (st amp) t₁, .str (st lead) t₂] (IsS (st (l.flatMap (wrOf N amp lead)))) := .mk fun s Q E hs k => by
  have G := G.keeps hs
  have hD := hD.keeps hs
  obtain ⟨f', e, F⟩ := G.fn 24 ⟨_, _, _, _, _⟩ rfl
  obtain rfl : f' = f := by simpa using e.symm.trans hf
  refine callAt F G.lim (by omega) (fun _ _ _ => rfl) (by rfl) fun pm cd doc s₁ x => ?_
  have hh' : ∀ env, (A.deeper env).handled = none := fun _ => hh
  have hD := hD.keeps x.old
  refine Exs.cons (x.ret (P := IsS (st (l.flatMap (wrOf N amp lead)))) ?_ fun v s' hv x' => k v s' hv x'.same)
  refine Ev.eqS (Ev.join (ys := l.map fun c => st (wrOf N amp lead c)) (EvL.mono (EvL.comp (fun _ => true) (fun v y => ∃ (c : Nat) (t : Tok), v = .str (sg c) t ∧ IsS (st (wrOf N amp lead c)) y)
    (Src.str (x := st l) (hh' _) (x.vS rfl)) (by rw [sl]; show l.toArray.size ≤ _; rw [List.size_toArray]; omega) rfl (by rfl) (by rfl) (by rfl) (fun C s₃ m₃ i v hns hm hi hk E' => tests0) ?_) ?_) ?_) ?_
  · intro C h₃ m₃ i v hns hm hi hpv hk
    obtain ⟨c, u, hc, rfl⟩ := hi
    refine Ev.mono (P := IsS (st (wrOf N amp lead c))) (Ev.ifexp (Tr.cmp (c := decide (c = 38)) Cop.eqc ((Ev.nameL hns hm).mono fun v e => e ▸ isS _ _) Ev.str) (fun hb => ?_)
      fun hb => Ev.ifexp (Tr.cmp (Cop.inD (N := N) (c := c) (hD.keeps hk)) ((Ev.nameL hns hm).mono fun v e => e ▸ isS _ _) (Ev.nameC ((x.cell "names" _ rfl).keeps hk) rfl)) (fun hb' => ?_) fun hb' => ?_) fun y q => ⟨c, u, rfl, q⟩
    · have : c = 38 := by simpa using hb
      exact (Ev.nameC ((x.cell "amp" _ rfl).keeps hk) rfl).mono fun v e => by rw [wrOf, if_pos this]; exact e ▸ isS _ _
    · have h1 : ¬ c = 38 := by simpa using hb
      have h2 : c ∈ N := by simpa using hb'
      have := name_len (hN c h2)
      rw [wrOf, if_neg h1, if_pos h2]
      exact Ev.bin (Bop.cat (by rw [sl]; omega)) ((Ev.nameC ((x.cell "lead" _ rfl).keeps hk) rfl).mono fun v e => e ▸ isS _ _) (Ev.itemD (hD.keeps hk) h2 (Ev.nameC ((x.cell "names" _ rfl).keeps hk) rfl) ((Ev.nameL hns hm).mono fun v e => e ▸ isS _ _))
    · have h1 : ¬ c = 38 := by simpa using hb
      have h2 : ¬ c ∈ N := by simpa using hb'
      rw [wrOf, if_neg h1, if_neg h2]
      exact (Ev.nameL hns hm).mono fun v e => e ▸ isS _ _
  · rintro ys ⟨vs', h1, h2, h3⟩
    rw [List.filter_eq_self.mpr fun _ _ => rfl] at h3
    exact strs_of_signs (by simpa using h1) h2 h3
  · have := sum_le (B := 48) l (wrOf N amp lead) fun c _ => wr_len ha hl hN c
    rw [ofEmpty]
    show _ + _ * 0 ≤ _
    omega
  · rw [join_empty]
    simp [st, List.flatMap_map]
end
end Mine

namespace Mine
open PySem PySem.W PyProof.Rows PySem.Calls
theorem slice_nat (t : List Nat) (a b : Nat) (hab : a ≤ b) : Txt.slice (st t) (some (a : Int)) (some (b : Int)) = st ((t.drop a).take (b - a)) := by
  have e : Txt.slice (st t) (some (a : Int)) (some (b : Int)) = StrLaws.sliceText (st t) (some ((min a t.length : Nat) : Int)) (some ((min b t.length : Nat) : Int)) := by
    unfold Txt.slice StrLaws.sliceText
    have : Builtin.Str.strSliceIndices (some (a : Int)) (some (b : Int)) 1 (st t).length = Builtin.Str.strSliceIndices (some ((min a t.length : Nat) : Int)) (some ((min b t.length : Nat) : Int)) 1 (st t).length := by
      unfold Builtin.Str.strSliceIndices
      rw [st_len]
      have h1 : ¬ ((a : Int) < 0) := by omega
      have h2 : ¬ ((b : Int) < 0) := by omega
      have h3 : ¬ (((min a t.length : Nat) : Int) < 0) := by omega
      have h4 : ¬ (((min b t.length : Nat) : Int) < 0) := by omega
      have e1 : max 0 (min (a : Int) (t.length : Int)) = max 0 (min ((min a t.length : Nat) : Int) (t.length : Int)) := by omega
      have e2 : max 0 (min (b : Int) (t.length : Int)) = max 0 (min ((min b t.length : Nat) : Int) (t.length : Int)) := by omega
      simp only [h1, h2, h3, h4, if_false, show (1 : Int) > 0 by decide, if_true, e1, e2]
    rw [this]
  rw [e, StrLaws.sliceText_nat (st t) (by omega) (by rw [st_len]; omega)]
  show (⟨((t.drop (min a t.length)).take _).toArray⟩ : Str) = _
  congr 2
  rcases Nat.lt_or_ge t.length a with h | h
  · rw [List.drop_eq_nil_of_le (by omega), List.drop_eq_nil_of_le (by omega)]; simp
  · have : min a t.length = a := by omega
    rw [this]
    rcases Nat.lt_or_ge t.length b with h' | h'
    · rw [List.take_of_length_le (by simp; omega), List.take_of_length_le (by simp; omega)]
    · have : min b t.length = b := by omega
      rw [this]
section
variable {w : World} {A : Around} {mg mb : Str → Option Value} {h h' : Heap} {env : Env}
theorem Cl.len {l : List Nat} {t : Tok} (hn : l.length ≤ 1000000) : Cl w A h (.builtin "len") [.str (st l) t] (IsI (l.length : Int)) := .mk fun _ _ _ _ k => PyProof.Rows.len_str (by rw [st_len]; omega) (k _ _ (by rw [st_len]; exact isI _ _) (kp_tok _ _))
theorem evLen {a : Expr} {pos p : Pos} {l : List Nat} (G : Gl w mg mb h) (hn : l.length ≤ 1000000) (x : Ev w A env h a (IsS (st l))) (hg : env.globals = mainGlobals := by rfl) (hb : env.builtins = builtinsNs := by rfl)
    (hk : env.scope.kind = .function := by rfl) (hx : env.kindOf "len" = some .globalImplicit := by rfl) (hst : starEach [a] env = (false, eval a env) :: starEach [] env := by rfl) :
    Ev w A env h (.Call (.Name "len" p) [a] [] pos) (IsI (l.length : Int)) :=
  Ev.callB (Ev.blt G (by decide) (v := .builtin "len") (by decide +kernel) (by decide) hg hb hk hx) x (fun v ⟨t, e⟩ => e ▸ Cl.len hn) rfl hst
theorem Ev.itemS {value slice : Expr} {pos : Pos} {l : List Nat} {k c : Nat} (h1 : (k : Int) < 2 ^ 63) (hv : l[k]? = some c) (x : Ev w A env h value (IsS (st l))) (y : Ev w A env h slice (IsI (k : Int)))
    (hs' : ∀ t u, subscripted slice false (.str (st l) t) (.int k u) = operate [.str (st l) t, .int k u] (getItem (.str (st l) t) (.int k u)) := by intro t u; with_unfolding_all rfl) :
    Ev w A env h (.Subscript value slice pos) (IsS (sg c)) := .mk fun s Q E hs K => by
  refine Subscript_ (x.run s _ E hs fun v₁ s₁ p₁ k₁ => y.run s₁ _ E (hs.trans (kp_sub k₁)) fun v₂ s₂ p₂ k₂ => ?_)
  obtain ⟨t, rfl⟩ := p₁
  obtain ⟨u, rfl⟩ := p₂
  refine tail_any (typeIs_str _ _ _) F.slot_str_getitem.lookup (PyProof.Rows.getItem_str (c := c) ?_ ?_ (K _ _ (isS _ _) (kp_trans (kp_trans k₁ k₂) (kp_tok _ _)))) (hs' t u)
  · rw [Bool.or_eq_false_iff, decide_eq_false_iff_not, decide_eq_false_iff_not]; omega
  · exact StrLaws.at_nonneg (by omega) (by simpa using hv)
theorem Ev.sliceS {value lo hi : Expr} {p pos : Pos} {l : List Nat} {a b : Nat} (hab : a ≤ b) (hn : l.length ≤ 1000000) (x : Ev w A env h value (IsS (st l))) (y : Ev w A env h lo (IsI (a : Int))) (z : Ev w A env h hi (IsI (b : Int)))
    (ht : ∀ o r, letTemporaryGo value o r = pure () := by intro _ _; rfl) :
    Ev w A env h (.Subscript value (.Slice (some lo) (some hi) none p) pos) (IsS (st ((l.drop a).take (b - a)))) := .mk fun s Q E hs K => by
  refine wpAny_Subscript_Slice (T := "str") F.slot_str_getitem.lookup (x.run s _ E hs fun v₁ s₁ p₁ k₁ => wpAny_Slice ?_) ht
  rw [evalPart_some, evalPart_some, evalPart_none]
  refine y.run s₁ _ E (hs.trans (kp_sub k₁)) fun v₂ s₂ p₂ k₂ => z.run s₂ _ E (hs.trans (kp_sub (kp_trans k₁ k₂))) fun v₃ s₃ p₃ k₃ => wpAny_pure ?_
  obtain ⟨t, rfl⟩ := p₁
  obtain ⟨u, rfl⟩ := p₂
  obtain ⟨u', rfl⟩ := p₃
  obtain ⟨T, id, _, _, q⟩ := SBH.sliceItem_ss (prog := pw) (w := w) (A := A) (E := E) (P := Sub s₃.heap) (s := s₃) (x := st l) (t := t) (Q := Q) (i := a) (j := b) (ui := u) (uj := u') (fun g ob hg b o e => Heap.get?_push_of_some _ (hg b o e)) (Sub.refl _)
    (fun g t' tk hg => by rw [slice_nat l a b hab]; exact K _ _ (isS _ _) (kp_trans k₁ (kp_trans k₂ (kp_trans k₃ (kp_ht hg))))) (by rw [st_len, sl]; omega)
  exact ⟨typeIs_str _ _ _, q⟩

theorem Tr.emptyL {e : Expr} {pos p : Pos} {a : Addr} {vs : List Value} {N : Nat} (hu : A.units < cLine) (hl : h.get? a = some (lobj vs N)) (x : Ev w A env h e (IsV (.ref a)))
    (hm : behindInMarks .Eq (.List [] p) = false := by with_unfolding_all rfl) : Tr w A env h (.Compare e [.Eq] [.List [] p] pos) vs.isEmpty := .mk fun s Q E hs k => by
  refine wpAny_isTrue_Compare1 (x.run s _ E hs fun v s₁ p₁ k₁ => (EvL.list (EvS.nil (w := w) (A := A) (env := env) (h := s₁.heap)) (by rw [sl]; decide)).run s₁ _ E (Sub.refl _) fun b us s₂ hf ⟨N', hb⟩ hus k₂ => ?_) hm
  cases hus
  obtain rfl : v = _ := p₁
  have ha := hs.trans (kp_sub (kp_trans k₁ k₂)) _ _ hl
  cases vs with
  | nil => exact PySem.P.eq_list (e := fun _ => true) ha hb rfl (fun j h1 h2 => absurd h1 (by simp)) hu (wpAny_truthy_bool (k s₂ (kp_trans k₁ k₂)))
  | cons v vs => exact PySem.P.eq_list_lengths ha hb (by simp) hu (wpAny_truthy_bool (k s₂ (kp_trans k₁ k₂)))

section
variable {s₀ s : Shared} {m cm : Str → Option Value} {l : List (Addr × Obj)}
theorem In.augS {E : Value → Shared → Prop} {n : Str} {pos pos' : Pos} {value : Expr} {a b : List Nat} {t : Tok} {Q : Flow → Shared → Prop} (x : In s₀ env m cm l s) (hv : m n = some (.str (st a) t)) (he : Ev w A env s.heap value (IsS (st b))) (hn : a.length + b.length ≤ sizeLine)
    (k : ∀ t' s', In s₀ env (upd m n (.str (st (a ++ b)) t')) cm l s' → Q .next s') (hk : env.scope.kind = .function := by rfl) (hl : env.kindOf n = some .local := by rfl) : Ex w A env (.AugAssign (.Name n pos') .Add value pos) Q E s := .mk <|
  wpAny_AugAssign_Name (wpAny_loadName_local hk hl x.ns hv (he.run s _ E (Sub.refl _) fun v s₁ ⟨u, e⟩ k₁ => by
    subst e
    refine PyProof.Rows.iadd_str (fun t' tk => ?_) (by rw [st_len, st_len]; exact hn)
    rw [st_append]
    exact (x.keeps (kp_trans k₁ (kp_tok _ _))).stL (fun s₂ y => k t' s₂ y) hk hl))
theorem In.augI {E : Value → Shared → Prop} {n : Str} {c : Addr} {pos pos' : Pos} {value : Expr} {a b : Nat} {t : Tok} {Q : Flow → Shared → Prop} (x : In s₀ env m cm l s) (hc : env.cells.lookup n = some c) (hv : cm n = some (.int (a : Int) t)) (he : Ev w A env s.heap value (IsI (b : Int)))
    (k : ∀ t' s', In s₀ env m (upd cm n (.int ((a + b : Nat) : Int) t')) l s' → Q .next s') (hk : env.scope.kind = .function := by rfl) (hl : env.kindOf n = some .cell := by rfl) : Ex w A env (.AugAssign (.Name n pos') .Add value pos) Q E s := .mk <|
  wpAny_AugAssign_Name (wpAny_loadName_cell hk hl hc (hv ▸ x.cell n c hc) (he.run s _ E (Sub.refl _) fun v s₁ ⟨u, e⟩ k₁ => by
    subst e
    refine PyProof.Rows.iadd_int ?_
    rw [show (a : Int) + (b : Int) = ((a + b : Nat) : Int) by omega]
    exact (x.keeps (kp_trans k₁ (kp_tok _ _))).stC hc (fun s₂ y => k _ s₂ y) hk hl))

theorem In.assignComp {E : Value → Shared → Prop} {elt iter : Expr} {x y : Str} {px py pos spos : Pos} {ifs : List Expr} {scope : Scope} {cl : List (Str × Addr)} {n : Nat} {P : Nat → Value → Prop} {Q : Flow → Shared → Prop} (X : In s₀ env m cm l s) (p : Value → Bool) (F : Value → Value → Prop)
    (src : Src w A env s.heap iter n P) (hn : n ≤ sizeLine) (hclos : closureFor scope env = pure cl)
    (hcell : (scope.names.all fun y => y.2 != .cell) = true) (hnames : (scope.names.all fun y => y.2 != .local || scope.names.lookup y.1 == some .local) = true) (hx : scope.names.lookup x = some .local)
    (ht : ∀ C s₃ m₃ i v, s₃.heap.Ns C m₃ → m₃ x = some v → P i v → Sub s.heap s₃.heap → ∀ E' : Value → Shared → Prop,
      wpAny (model pw w) A (forIn ifs true fun c r => if r = true then do let ok ← isTrue c (compEnvC scope cl C env) (eval c (compEnvC scope cl C env)); pure (ForInStep.yield ok) else pure (ForInStep.yield r)) (fun ok s₄ => ok = p v ∧ Keeps s₃ s₄) E' s₃)
    (he : ∀ C h₃ m₃ i v, h₃.Ns C m₃ → m₃ x = some v → P i v → p v = true → Sub s.heap h₃ → Ev w A (compEnvC scope cl C env) h₃ elt (F v))
    (K : ∀ a ys N s' (vs : List Value), vs.length = n → (∀ (j : Nat) v, vs[j]? = some v → P j v) → Paired F (vs.filter p) ys → In s₀ env (upd m y (.ref a)) cm ((a, lobj ys N) :: l) s' → Q .next s')
    (hsw : swapsWith (.ListComp elt [⟨.Name x px, iter, ifs, 0⟩] scope pos) (some (.Name y py)) spos.line env = pure true := by rfl)
    (hkind : scope.kind = .function := by rfl) (hk : env.scope.kind = .function := by rfl) (hl : env.kindOf y = some .local := by rfl) (hfold : ∀ x, foldedSetIterable iter env x = pure x := by intro _; rfl) :
    Ex w A env (.Assign [.Name y py] (.ListComp elt [⟨.Name x px, iter, ifs, 0⟩] scope pos) spos) Q E s := by
  refine ⟨wpAny_Assign_ListComp_free p F hsw hclos (fun y hy => by simpa using List.all_eq_true.mp hcell y hy) hkind
    (fun y hy e => by have := List.all_eq_true.mp hnames y hy; rw [e] at this; simpa using this) hx hl (by rw [hk]; rfl) (src.run s _ E (Sub.refl _) fun I fp wr St s₂ W stt hfp hwr k₂ => ?_) hfold⟩
  have up : ∀ {s₃ : Shared}, (∀ b o, b ∉ wr → s₂.heap.get? b = some o → s₃.heap.get? b = some o) → Sub s.heap s₃.heap := fun q b o e => q b o (fun hb => by rw [hwr b hb] at e; cases e) (kp_sub k₂ b o e)
  have X₂ := X.keeps k₂
  have hLw : env.locals ∉ wr := fun hb => by
    obtain ⟨o, _, _, ho, _⟩ := X.ns
    rw [hwr _ hb] at ho; cases ho
  refine ⟨I, fp, wr, n, P, St, m, rfl, W, hn, stt, hfp, hLw, X₂.ns, ⟨fun C i v s₃ m₃ E' _ hP hns hm hk _ => ht C s₃ m₃ i v hns hm hP (up hk) E', fun C i v s₃ m₃ E' _ hP hp hns hm hk _ => ?_⟩, fun D h₄ tk ys vs hD hl' hpl hlen hP hF hns hkk => ?_⟩
  · exact (he C s₃.heap m₃ i v hns hm hP hp (up hk)).run s₃ _ E' (Sub.refl _) fun v s₄ q k₄ => ⟨q, k₄⟩
  · obtain ⟨N, ho⟩ := hpl
    have hD0 := none_of_sub (kp_sub k₂) hD
    have live : ∀ b o, b ≠ env.locals → s.heap.get? b = some o → h₄.get? b = some o := fun b o hb e => hkk b o hb (fun hw => by rw [hwr b hw] at e; cases e) (kp_sub k₂ b o e)
    refine K D ys.toList N _ vs hlen hP hF ⟨?_, hns, fun z c hc => ?_, X.apart, X.above, X.fresh, fun q hq => ?_⟩
    · obtain ⟨g, t, e, ks⟩ := X₂.same
      refine ⟨h₄, tk, by rw [e], fun b o e => ?_⟩
      exact live b o (Nat.ne_of_lt (Nat.lt_of_lt_of_le (Heap.lt_size e) X.fresh)) (X.old b o e)
    · obtain ⟨o, ho', r⟩ := X.cell z c hc
      exact ⟨o, live c o (Nat.ne_of_gt (X.above z c (mem_of_lookup hc))) ho', r⟩
    · rcases List.mem_cons.mp hq with rfl | hq
      · refine ⟨by simpa [lobj] using ho, none_of_sub X.old hD0, fun e => ?_, fun z c hc e => ?_⟩
        · obtain ⟨o, _, _, ho', _⟩ := X.ns
          dsimp only at e
          rw [e, ho'] at hD0; cases hD0
        · obtain ⟨o, ho', _⟩ := X.cell z c hc
          dsimp only at e
          rw [e, ho'] at hD0; cases hD0
      · exact ⟨live _ _ (X.led q hq).2.2.1 (X.led q hq).1, (X.led q hq).2⟩
end
end
end Mine

namespace Mine
open PySem PySem.W PyProof.Rows PySem.Calls

/-! ## reading -/
def hitOf (N : List Nat) (t : List Nat) : Option Nat := N.find? fun c => (nameOf c).isPrefixOf t
def rdK (N : List Nat) : Nat → List Nat → List Nat
  | _, [] => []
  | k + 1, _ :: t => rdK N k t
  | 0, c :: t => if c = 38 then (match hitOf N t with | some d => d :: rdK N (nameOf d).length t | none => 38 :: rdK N 0 t) else c :: rdK N 0 t
theorem rdK_drop (N : List Nat) : ∀ (k : Nat) (t : List Nat), rdK N k t = rdK N 0 (t.drop k)
  | 0, t => rfl
  | k + 1, [] => rfl
  | k + 1, c :: t => by rw [rdK, rdK_drop N k t]; rfl
theorem take_eq_prefix (n t : List Nat) : (st (t.take n.length) == st n) = n.isPrefixOf t := by
  rw [Bool.eq_iff_iff, beq_iff_eq, List.isPrefixOf_iff_prefix, List.prefix_iff_eq_take]
  constructor
  · intro e
    have : (t.take n.length).toArray = n.toArray := congrArg Str.cps e
    have := congrArg Array.toList this
    simpa using this.symm
  · intro e
    show (⟨(t.take n.length).toArray⟩ : Str) = ⟨n.toArray⟩
    rw [← e]
/-- the signs behind a list of one-sign texts -/
def codeOf (v : Value) : Nat := match v with | .str x _ => x.cps.getD 0 0 | _ => 0
theorem codeOf_sg {v : Value} {c : Nat} (e : IsS (sg c) v) : codeOf v = c := by obtain ⟨t, rfl⟩ := e; rfl
theorem codes {N : List Nat} {vs : List Value} (h1 : vs.length = N.length) (h2 : ∀ (j : Nat) v, vs[j]? = some v → ∃ c, N[j]? = some c ∧ IsS (sg c) v) : vs.map codeOf = N := by
  apply List.ext_getElem?
  intro j
  rw [List.getElem?_map]
  cases e : vs[j]? with
  | none =>
    have := List.getElem?_eq_none_iff.mp e
    exact (List.getElem?_eq_none (by omega)).symm
  | some v =>
    obtain ⟨c, hc, hv⟩ := h2 j v e
    rw [hc, Option.map_some, codeOf_sg hv]
theorem hits_of {N : List Nat} {q : Nat → Bool} {vs ys : List Value} (h1 : vs.map codeOf = N) (h3 : Paired (fun v y => y = v) (vs.filter fun v => q (codeOf v)) ys) : ys.map codeOf = N.filter q := by
  have : ∀ {a b : List Value}, Paired (fun v y => y = v) a b → b = a := by
    intro a b h
    induction h with
    | nil => rfl
    | cons x _ ih => rw [x, ih]
  rw [this h3, ← h1, List.filter_map]
  rfl

section
variable {w : World} {A : Around} {mg mb : Str → Option Value} {h h' : Heap} {env : Env}
theorem In.consM {s₀ s : Shared} {m cm : Str → Option Value} {l : List (Addr × Obj)} {E : Value → Shared → Prop} {c : Stmt} {rest : List Stmt} {Q : Flow → Shared → Prop} (x : In s₀ env m cm l s) (M : (Str → Option Value) → (Str → Option Value) → List (Addr × Obj) → Prop)
    (hx : Ex w A env c (fun f s' => f = .next ∧ ∃ m' cm' l', M m' cm' l' ∧ In s₀ env m' cm' l' s') E s) (hy : ∀ m' cm' l' s', M m' cm' l' → In s₀ env m' cm' l' s' → Exs w A env rest Q E s') : Exs w A env (c :: rest) Q E s :=
  Exs.cons ⟨wpAny_mono hx.run (fun f s' ⟨e, m', cm', l', a, b⟩ => by subst e; exact hy m' cm' l' s' a b) fun _ _ e => e⟩
set_option maxHeartbeats 4000000 in
theorem read (G : Gl w mg mb h) (hroom : A.depth + 20 < recursionLimit) (hh : A.handled = none) (hu : A.units + 100 < cLine) {f D : Addr} {l N : List Nat} {t : Tok} (hlen : l.length ≤ 100000) (hNl : N.length ≤ 100000) (hD : NamesAt w h D N) (hN : ∀ c ∈ N, c < 1114112)
    (hf : mg "_law_read" = some (.ref f)) : Cl w A h (.ref f) [.str (st l) t, .ref D] (IsS (st (rdK N 0 l))) := .mk fun s Q E hs K => by
  have G := G.keeps hs
  have hD := hD.keeps hs
  obtain ⟨f', e, F⟩ := G.fn 23 ⟨_, _, _, _, _⟩ rfl
  obtain rfl : f' = f := by simpa using e.symm.trans hf
  refine callAt F G.lim (by omega) (fun _ _ _ => rfl) (by rfl) fun pm cd doc s₁ x => ?_
  have hh' : ∀ env, (A.deeper env).handled = none := fun _ => hh
  have hu' : ∀ env, (A.deeper env).units < cLine := fun _ => by show A.units + 3 < _; omega
  refine Exs.cons (x.assignL (P := IsS (st [])) (Ev.lit (by decide +kernel)) ?_)
  rintro v s₂ ⟨t₁, rfl⟩ x
  refine Exs.cons (x.assignC rfl Ev.int ?_)
  rintro v s₃ ⟨t₂, rfl⟩ x
  refine Exs.cons (x.whileW (fun n m cm led => ∃ k tl tt tk, m "told" = some (.str (st tl) tt) ∧ cm "k" = some (.int ((k : Nat) : Int) tk) ∧ cm "text" = some (.str (st l) t) ∧ cm "names" = some (.ref D) ∧ k ≤ l.length ∧ tl ++ rdK N 0 (l.drop k) = rdK N 0 l ∧ tl.length ≤ k ∧ n = l.length - k ∧ led = []) l.length
    ⟨0, [], t₁, t₂, rfl, rfl, rfl, rfl, Nat.zero_le _, rfl, Nat.le_refl _, rfl, rfl⟩ ?_)
  rintro n m cm led s₄ ⟨k, tl, tt, tk, m1, c1, c2, c3, hk, hr, hkl, rfl, rfl⟩ x
  refine ⟨decide ((k : Int) < (l.length : Int)), Tr.cmp Cop.lt (x.cI rfl c1) (evLen (G.keeps x.old) (by omega) (x.cS rfl c2)), fun hb s₅ E' x => ?_, fun hb s₅ x => ?_⟩
  · have hkl' : k < l.length := by simpa using hb
    obtain ⟨c, hc⟩ : ∃ c, l[k]? = some c := ⟨_, List.getElem?_eq_getElem hkl'⟩
    have hdrop : l.drop k = c :: l.drop (k + 1) := by
      rw [List.drop_eq_getElem_cons hkl']
      congr 1
      have := List.getElem?_eq_getElem hkl'
      rw [hc] at this
      exact (Option.some.inj this).symm
    refine Exs.cons (x.newL (EvL.list EvS.nil (by rw [sl]; decide)) fun a vs0 N0 s₆ hv x => ?_)
    cases hv
    refine x.consM (fun m' cm' l' => ∃ a ws N1, m' "told" = some (.str (st tl) tt) ∧ m' "hits" = some (.ref a) ∧ cm' = cm ∧ l' = [(a, lobj ws N1)] ∧ ws.map codeOf = (if c = 38 then N.filter (fun d => (nameOf d).isPrefixOf (l.drop (k + 1))) else []) ∧ ∀ v ∈ ws, IsS (sg (codeOf v)) v) ?_ ?_
    · refine x.ite (Tr.cmp (c := decide (c = 38)) Cop.eqc (Ev.itemS (k := k) (by omega) hc (x.cS rfl c2) (x.cI rfl c1)) Ev.str) (fun hb' s₇ x => ?_) fun hb' s₇ x => Exs.nil ?_
      · have h38 : c = 38 := by simpa using hb'
        have hD' := hD.keeps x.old
        refine Exs.cons (x.assignComp (fun v => (nameOf (codeOf v)).isPrefixOf (l.drop (k + 1))) (fun v y => y = v ∧ IsS (sg (codeOf v)) v) (Src.dict (N := N) (hh' _) hD' (x.vC rfl c3)) (by rw [sl]; omega) rfl (by rfl) (by rfl) (by rfl) ?_ ?_ ?_)
        · rintro C s₈ m₈ i v hns hm ⟨d, hd, hv⟩ hsub E₈
          have hdN := List.mem_of_getElem? hd
          have hnl := name_len (hN d hdN)
          refine tests1 (Tr.eq (Tr.cmp (Cop.eqs) (Ev.sliceS (l := l) (a := k + 1) (b := k + 1 + (nameOf d).length) (by omega) (by omega) ((Ev.nameC (c2 ▸ (x.cell "text" _ rfl).keeps hsub) rfl).mono fun v e => e ▸ isS _ _)
            (Ev.bin (Bop.addN (n := k) (m := 1)) ((Ev.nameC (c1 ▸ (x.cell "k" _ rfl).keeps hsub) rfl).mono fun v e => e ▸ isI _ _) Ev.int)
            (Ev.bin (Bop.addN (n := k + 1) (m := (nameOf d).length)) (Ev.bin (Bop.addN (n := k) (m := 1)) ((Ev.nameC (c1 ▸ (x.cell "k" _ rfl).keeps hsub) rfl).mono fun v e => e ▸ isI _ _) Ev.int)
              (evLen (G.keeps (x.old.trans hsub)) (by omega) (Ev.itemD (hD'.keeps hsub) hdN (Ev.nameC (c3 ▸ (x.cell "names" _ rfl).keeps hsub) rfl) ((Ev.nameL hns hm).mono fun v' e => e ▸ hv)))))
            (Ev.itemD (hD'.keeps hsub) hdN (Ev.nameC (c3 ▸ (x.cell "names" _ rfl).keeps hsub) rfl) ((Ev.nameL hns hm).mono fun v' e => e ▸ hv))) ?_)
          rw [codeOf_sg hv, show k + 1 + (nameOf d).length - (k + 1) = (nameOf d).length by omega, take_eq_prefix]
        · rintro C h₃ m₃ i v hns hm ⟨d, hd, hv⟩ hp hsub
          exact (Ev.nameL hns hm).mono fun y e => ⟨e, by rw [codeOf_sg hv]; exact hv⟩
        · intro a' ys N' s₈ vs hl1 hP hF x
          have hcod := codes hl1 hP
          refine Exs.nil ⟨rfl, _, _, _, ⟨a', ys, N', (upd_ne (by decide)).trans ((upd_ne (by decide)).trans m1), upd_same, rfl, rfl, ?_, ?_⟩, x.weak (by intro p hp; rw [List.mem_singleton.mp hp]; exact .head _)⟩
          · rw [if_pos h38]; exact hits_of hcod (paired_mono (fun _ _ q => q.1) hF)
          · intro v hv
            obtain ⟨i, hi⟩ := List.getElem?_of_mem hv
            obtain ⟨u, hu1, rfl, hu3⟩ := paired_get hF i v hi
            exact hu3
      · have h38 : ¬ c = 38 := by simpa using hb'
        exact ⟨rfl, _, _, _, ⟨a, [], N0, (upd_ne (by decide)).trans m1, upd_same, rfl, rfl, by rw [if_neg h38]; rfl, fun v hv => nomatch hv⟩, x⟩
    rintro m' cm' l' s₇ ⟨a', ws, N1, m1, m2, rfl, rfl, hws, hws'⟩ x
    have hD' := hD.keeps x.old
    have hstep : rdK N 0 (c :: l.drop (k + 1)) = match ws with | [] => c :: rdK N 0 (l.drop (k + 1)) | v :: _ => codeOf v :: rdK N 0 (l.drop (k + 1 + (nameOf (codeOf v)).length)) := by
      rw [rdK]
      by_cases h38 : c = 38
      · subst h38
        rw [if_pos rfl] at hws
        rw [if_pos rfl]
        cases ws with
        | nil =>
          have : hitOf N (l.drop (k + 1)) = none := by
            unfold hitOf
            rw [List.find?_eq_none]
            intro d hd hp
            have : d ∈ N.filter (fun d => (nameOf d).isPrefixOf (l.drop (k + 1))) := List.mem_filter.mpr ⟨hd, hp⟩
            rw [← hws] at this
            cases this
          rw [this]
        | cons v ws =>
          have : hitOf N (l.drop (k + 1)) = some (codeOf v) := by
            unfold hitOf
            rw [← List.head?_filter, ← hws]
            rfl
          rw [this]
          dsimp only
          rw [rdK_drop, List.drop_drop]
      · rw [if_neg h38] at hws
        rw [if_neg h38]
        have : ws = [] := by simpa using hws
        subst this
        rfl
    refine Exs.cons (x.ite (Tr.emptyL (hu' _) (x.get (.head _)) (x.vL m2)) (fun hb' s₈ x => ?_) fun hb' s₈ x => ?_)
    · have : ws = [] := by simpa using hb'
      subst this
      refine Exs.cons (x.augS (b := [c]) m1 (Ev.itemS (k := k) (by omega) hc (x.cS rfl c2) (x.cI rfl c1)) (by rw [sl]; simp; omega) fun t' s₉ x => ?_)
      refine Exs.cons (x.augI rfl c1 (b := 1) Ev.int fun t'' s₉ x => Exs.nil (Exs.nil ⟨rfl, _, _, _, [], ?_, ⟨k + 1, _, _, _, upd_same, upd_same, (upd_ne (by decide)).trans c2, (upd_ne (by decide)).trans c3, hkl', ?_, by simp; omega, rfl, rfl⟩, x.weak fun p hp => nomatch hp⟩))
      · omega
      · rw [← hr, hdrop, hstep, List.append_assoc]; rfl
    · cases ws with
      | nil => cases hb'
      | cons v ws =>
        have hv := hws' v (.head _)
        have h38 : c = 38 := by
          by_cases h : c = 38
          · exact h
          · rw [if_neg h] at hws; cases hws
        rw [if_pos h38] at hws
        have hmem : codeOf v ∈ N.filter (fun d => (nameOf d).isPrefixOf (l.drop (k + 1))) := hws ▸ .head _
        obtain ⟨hdN, hpre⟩ := List.mem_filter.mp hmem
        have hpl := (List.isPrefixOf_iff_prefix.mp hpre).length_le
        rw [List.length_drop] at hpl
        have hnl := name_len (hN _ hdN)
        have hla := isList_lobj (x.get (.head _))
        refine Exs.cons (x.augS (b := [codeOf v]) m1 ((Ev.item (k := 0) (v := v) hla (by decide) (by decide) rfl (x.vL m2) Ev.int).mono fun v' e => e ▸ hv) (by rw [sl]; simp; omega) fun t' s₉ x => ?_)
        have hD'' := hD.keeps x.old
        have hla := isList_lobj (x.get (.head _))
        refine Exs.cons (x.augI rfl c1 (b := (nameOf (codeOf v)).length + 1) (Ev.bin (Bop.addN (m := 1)) (evLen (G.keeps x.old) (by omega) (Ev.itemD hD'' hdN (x.vC rfl c3) ((Ev.item (k := 0) (v := v) hla (by decide) (by decide) rfl (x.vL ((upd_ne (by decide)).trans m2)) Ev.int).mono fun v' e => e ▸ hv))) Ev.int)
          fun t'' s₉ x => Exs.nil (Exs.nil ⟨rfl, _, _, _, [], ?_, ⟨k + ((nameOf (codeOf v)).length + 1), _, _, _, upd_same, upd_same, (upd_ne (by decide)).trans c2, (upd_ne (by decide)).trans c3, by omega, ?_, by simp; omega, rfl, rfl⟩, x.weak fun p hp => nomatch hp⟩))
        · omega
        · rw [← hr, hdrop, hstep, List.append_assoc]
          have : k + ((nameOf (codeOf v)).length + 1) = k + 1 + (nameOf (codeOf v)).length := by omega
          rw [this]
          rfl
  · have hk' : k = l.length := by
      have : ¬ ((k : Int) < (l.length : Int)) := by simpa using hb
      omega
    subst hk'
    rw [List.drop_length] at hr
    have hr : tl = rdK N 0 l := by simpa [rdK] using hr
    subst hr
    exact Exs.cons (x.ret (x.vS m1) fun v s' hv x' => K v s' hv x'.same)
end
end Mine

namespace Mine
open PySem PySem.W PyProof.Rows PySem.Calls

def heldOf (signs : List Nat) : List Nat := signs.filter fun c => markOf runsD c != []
theorem heldOf_snoc (l : List Nat) (c : Nat) : heldOf (l ++ [c]) = if markOf runsD c != [] then heldOf l ++ [c] else heldOf l := by
  unfold heldOf
  rw [List.filter_append]
  cases h : (markOf runsD c != []) <;> simp [h]
theorem heldOf_sub {l : List Nat} {c : Nat} (h : c ∈ heldOf l) : c ∈ l := (List.mem_filter.mp h).1
def toldOf (l signs : List Nat) : List (List Nat) :=
  [l.flatMap (wrOf (heldOf signs) [38, 97, 109, 112, 59] [38]), l, rdK (heldOf signs) 0 l, l.flatMap (wrOf (heldOf signs) [38, 97, 109, 112, 59] [38, 97, 109, 112, 59]), l.flatMap (wrOf (heldOf signs) [38] [38]), rdK (heldOf signs) 0 l]
theorem stored_new {kvs : List (Str × Value)} {N : List Nat} (h : Paired NV kvs N) {c : Nat} (hc : c ∉ N) (v : Value) : stored kvs (sg c) v = kvs ++ [(sg c, v)] := by
  unfold stored
  rw [if_neg]
  rw [List.any_eq_true]
  rintro ⟨kv, hm, e⟩
  obtain ⟨d, hd, q⟩ := paired_mem h kv hm
  have : sg d = sg c := q.1.symm.trans (by simpa using e)
  exact hc (sg_inj this ▸ hd)

theorem all2_2 {P₁ P₂ : Value → Prop} {vs : List Value} (h : All2 [P₁, P₂] vs) : ∃ a b, vs = [a, b] ∧ P₁ a ∧ P₂ b := by
  cases h with
  | cons a h => cases h with
    | cons b h => cases h with
      | nil => exact ⟨_, _, rfl, a, b⟩
theorem all2_3 {P₁ P₂ P₃ : Value → Prop} {vs : List Value} (h : All2 [P₁, P₂, P₃] vs) : ∃ a b c, vs = [a, b, c] ∧ P₁ a ∧ P₂ b ∧ P₃ c := by
  cases h with
  | cons a h =>
    obtain ⟨b, c, rfl, q⟩ := all2_2 h
    exact ⟨_, _, _, rfl, a, q⟩
theorem all2_4 {P₁ P₂ P₃ P₄ : Value → Prop} {vs : List Value} (h : All2 [P₁, P₂, P₃, P₄] vs) : ∃ a b c d, vs = [a, b, c, d] ∧ P₁ a ∧ P₂ b ∧ P₃ c ∧ P₄ d := by
  cases h with
  | cons a h =>
    obtain ⟨b, c, d, rfl, q⟩ := all2_3 h
    exact ⟨_, _, _, _, rfl, a, q⟩
section
variable {w : World} {A : Around} {mg mb : Str → Option Value} {h h' : Heap} {env : Env}
theorem names_new {h : Heap} (G : Gl w mg mb h) : ((h.objs.size : Addr) == sysModules) = false := by
  obtain ⟨o, _, _, ho, _⟩ := G.g
  have := Heap.lt_size ho
  have h3 : mainGlobals = 3 := by decide
  have h1 : sysModules = 1 := by decide
  rw [h1, beq_eq_false_iff_ne]
  rw [h3] at this
  exact Nat.ne_of_gt (Nat.lt_trans (by decide) this)
theorem In.newD {s₀ s : Shared} {m cm : Str → Option Value} {l : List (Addr × Obj)} {E : Value → Shared → Prop} {n : Str} {pos pos' pos'' : Pos} {Q : Flow → Shared → Prop} (x : In s₀ env m cm l s) (G : Gl w mg mb s.heap)
    (k : ∀ a o s', (a == sysModules) = false → NamesObj w o [] → In s₀ env (upd m n (.ref a)) cm ((a, o) :: l) s' → Q .next s')
    (hs : swapsWith (.Dict [] [] pos'') (some (.Name n pos')) pos.line env = pure false := by rfl) (hk : env.scope.kind = .function := by rfl) (hl : env.kindOf n = some .local := by rfl) :
    Ex w A env (.Assign [.Name n pos'] (.Dict [] [] pos'') pos) Q E s := by
  refine ⟨wpAny_Assign_Name (wpAny_Dict_empty ?_) hs⟩
  have k₁ : Keeps s { s with heap := s.heap.push { cls := .type "dict", data := .dict #[] } } := kp_h fun b o e => Heap.get?_push_of_some _ e
  obtain ⟨o, ho, hd⟩ := Heap.dictOf_iff.mp (Heap.DictOf.new (knd := PySem.strKind pw w) s.heap)
  refine (x.add (l' := [(s.heap.objs.size, o)]) k₁ fun q hq => by rw [List.mem_singleton.mp hq]; exact ⟨none_of_ge (Nat.le_refl _), ho⟩).stL (fun s₂ y => k _ o s₂ (names_new G) ⟨[], hd, .nil⟩ y) hk hl
theorem In.setD {s₀ s : Shared} {m cm : Str → Option Value} {l : List (Addr × Obj)} {E : Value → Shared → Prop} {a : Addr} {o : Obj} {N : List Nat} {oe ie value : Expr} {c : Nat} {pos pos' : Pos} {Q : Flow → Shared → Prop}
    (x : In s₀ env m cm ((a, o) :: l) s) (hne : ∀ p ∈ l, p.1 ≠ a) (hN : NamesObj w o N) (hc : c ∉ N) (hsz : N.length ≤ sizeLine) (hv : Ev w A env s.heap value (IsS (st (nameOf c)))) (ho : Ev w A env s.heap oe (IsV (.ref a))) (hi : Ev w A env s.heap ie (IsS (sg c)))
    (k : ∀ o' s', NamesObj w o' (N ++ [c]) → In s₀ env m cm ((a, o') :: l) s' → Q .next s')
    (hs : swapsWith value (some (.Subscript oe ie pos')) pos.line env = pure false := by rfl) : Ex w A env (.Assign [.Subscript oe ie pos'] value pos) Q E s := by
  refine ⟨wpAny_Assign_Subscript (hv.run s _ E (Sub.refl _) fun v s₁ p₁ k₁ => ho.run s₁ _ E (kp_sub k₁) fun v₂ s₂ p₂ k₂ => hi.run s₂ _ E (kp_sub (kp_trans k₁ k₂)) fun v₃ s₃ p₃ k₃ => ?_) hs⟩
  obtain rfl : v₂ = _ := p₂
  obtain ⟨u, rfl⟩ := p₃
  have x := x.keeps (kp_trans k₁ (kp_trans k₂ k₃))
  obtain ⟨kvs, hd, hp⟩ := hN
  have hdo : s₃.heap.DictOf (PySem.strKind pw w) a kvs := Heap.dictOf_iff.mpr ⟨o, x.get (.head _), hd⟩
  refine wpAny_setItem_pairs isStr_kind hdo (fun h₄ hd₄ hs₄ => ?_) (by rw [hp.length]; exact hsz)
  rw [stored_new hp hc] at hd₄
  obtain ⟨o', ho', hd'⟩ := Heap.dictOf_iff.mp hd₄
  have x₃ : In s₀ env m cm l { s₃ with heap := h₄, toks := s₃.toks + 1 } := (x.weak fun p hp => .tail _ hp).but (fun b o hb e => (hs₄.2 b hb).trans e) (x.led _ (.head _)).2.1 (x.led _ (.head _)).2.2.1 (x.led _ (.head _)).2.2.2 hne
  refine k o' _ ⟨_, hd', paired_append hp (.cons ⟨rfl, p₁⟩ .nil)⟩ ⟨x₃.same, x₃.ns, x₃.cell, x₃.apart, x₃.above, x₃.fresh, fun p hp => ?_⟩
  rcases List.mem_cons.mp hp with rfl | hp
  · exact ⟨ho', (x.led _ (.head _)).2⟩
  · exact x₃.led p hp

set_option maxHeartbeats 4000000 in
theorem told (G : Gl w mg mb h) (hroom : A.depth + 40 < recursionLimit) (hh : A.handled = none) (hu : A.units + 200 < cLine) {f S R : Addr} {l signs : List Nat} {t : Tok} {vs : List Value} (hlen : l.length ≤ 100000) (hS : h.IsList S vs.toArray) (hvs : StrsAre vs (signs.map sg)) (hn : signs.length ≤ 10000) (hlt : ∀ c ∈ signs, c < 1114112)
    (hnd : signs.Nodup) (hr : RunsAt h R runsD) (hf : mg "_law_told" = some (.ref f)) :
    CN w A h (.ref f) [.str (st l) t, .ref S, .ref R] fun v led => ∃ a N us, v = .ref a ∧ led = [(a, lobj us N)] ∧ StrsAre us ((toldOf l signs).map st) := .mk fun s Q E hs k => by
  have G := G.keeps hs
  have hS := isList_keeps hS hs
  have hr := hr.keeps hs
  have hvl := strsAre_len hvs
  rw [List.length_map] at hvl
  obtain ⟨f', e, F⟩ := G.fn 25 ⟨_, _, _, _, _⟩ rfl
  obtain rfl : f' = f := by simpa using e.symm.trans hf
  obtain ⟨fm, em, Fm⟩ := G.fn 17 ⟨_, _, _, _, _⟩ rfl
  obtain ⟨fw, ew, Fw⟩ := G.fn 24 ⟨_, _, _, _, _⟩ rfl
  obtain ⟨fr, er, Fr⟩ := G.fn 23 ⟨_, _, _, _, _⟩ rfl
  have hh' : ∀ env, (A.deeper env).handled = none := fun _ => hh
  have hd' : ∀ env, (A.deeper env).depth + 20 < recursionLimit := fun _ => by show A.depth + 1 + 20 < _; omega
  have hd'' : ∀ env, (A.deeper env).depth < recursionLimit := fun _ => by show A.depth + 1 < _; omega
  have hu' : ∀ env, (A.deeper env).units + 100 < cLine := fun _ => by show A.units + 3 + 100 < _; omega
  refine callAt F G.lim (by omega) (fun _ _ _ => rfl) (by rfl) fun pm cd doc s₁ x => ?_
  refine Exs.cons (x.newD (G.keeps x.old) fun D o0 s₂ hD0 hN0 x => ?_)
  refine Exs.cons (x.forW (n := vs.length) (P := fun i v => vs.toArray[i]? = some v) (SrcF.list (items := vs.toArray) (hh' _) (x.vL rfl) (isList_keeps hS x.old)) (fun b hb => by
      rw [List.mem_singleton.mp hb]
      obtain ⟨o, ho, _⟩ := hS
      exact ⟨o, ho⟩) (fun us m' cm' l' => ∃ o, m' "text" = some (.str (st l) t) ∧ m' "runs" = some (.ref R) ∧ m' "names" = some (.ref D) ∧ l' = [(D, o)] ∧ NamesObj w o (heldOf (signs.take us.length))) ⟨o0, rfl, rfl, rfl, rfl, hN0⟩ ?_ ?_)
  · rintro us u m' cm' l' I o s₃ E' ⟨od, hm1, hm2, hm3, rfl, hN⟩ hlt' hui hne x
    have hui : vs[us.length]? = some u := by simpa using hui
    obtain ⟨y, hy, tu, rfl⟩ := strsAre_get hvs hui
    rw [List.getElem?_map] at hy
    obtain ⟨c, hc, rfl⟩ := Option.map_eq_some_iff.mp hy
    have hc1 : c < 1114112 := hlt c (List.mem_of_getElem? hc)
    have hdl := dig_len hc1
    have hml := mark_len c
    have htk : signs.take (us.length + 1) = signs.take us.length ++ [c] := by rw [List.take_add_one, hc]; rfl
    have hcn : c ∉ signs.take us.length := by
      have := List.take_append_drop (us.length + 1) signs
      rw [htk] at this
      rw [← this, List.nodup_append, List.nodup_append] at hnd
      exact fun hm => hnd.1.2.2 c hm c (.head _) rfl
    refine Exs.cons (x.assignL (P := IsS (st (markOf runsD c))) (Ev.callN (G.keeps x.old) (Fm.keeps x.old) em (EvS.cons (x.vS upd_same) (EvS.cons (x.vL ((upd_ne (by decide)).trans hm2)) EvS.nil)) fun vs' hv' => ?_) ?_)
    · cases hv' with
      | cons q hv' => cases hv' with
        | cons q2 hv' => cases hv' with
          | nil =>
            obtain ⟨u', rfl⟩ := q
            obtain rfl : _ = _ := q2
            exact mark (G.keeps x.old) (hd'' _) (hh' _) (hr.keeps x.old) (by rw [runsD_len]; decide) em
    rintro v s₄ ⟨u', rfl⟩ x
    refine Exs.cons (x.ite (Tr.cmp Cop.nes (x.vS upd_same) Ev.str) (fun hb s₅ x => ?_) fun hb s₅ x => Exs.nil (Exs.nil ?_))
    · rw [st_ne_empty] at hb
      have x : In _ _ _ _ ((D, od) :: [(I, o)]) s₅ := x.weak (by intro p hp; simp at hp ⊢; exact hp.symm)
      have hID : I ≠ D := fun e => hne (D, od) (.head _) e.symm
      refine Exs.cons (x.setD (fun p hp => by rw [List.mem_singleton.mp hp]; exact hID) hN (fun hm => hcn (heldOf_sub hm)) (by
          have : (heldOf (signs.take us.length)).length ≤ (signs.take us.length).length := List.length_filter_le _ _
          rw [List.length_take] at this
          rw [sl]; omega)
        (Ev.bin (Bop.cat (by (try simp only [List.length_append, List.length_cons, List.length_nil]); rw [sl]; omega)) (Ev.bin (Bop.cat (by (try simp only [List.length_append, List.length_cons, List.length_nil]); rw [sl]; omega)) (x.vS upd_same)
          (evStr (n := c) (G.keeps x.old) hc1 (evOrd (n := c) (G.keeps x.old) (x.vS ((upd_ne (by decide)).trans upd_same))))) (Ev.lit (l := [59]) (by decide +kernel))) (x.vL ((upd_ne (by decide)).trans ((upd_ne (by decide)).trans hm3))) (x.vS ((upd_ne (by decide)).trans upd_same)) ?_)
      intro o' s₆ hN' x
      have x : In _ _ _ _ ((I, o) :: [(D, o')]) s₆ := x.weak (by intro p hp; simp at hp ⊢; exact hp.symm)
      refine Exs.nil (Exs.nil ⟨rfl, _, _, _, ⟨o', (upd_ne (by decide)).trans ((upd_ne (by decide)).trans hm1), (upd_ne (by decide)).trans ((upd_ne (by decide)).trans hm2), (upd_ne (by decide)).trans ((upd_ne (by decide)).trans hm3), rfl, ?_⟩, fun p hp => by rw [List.mem_singleton.mp hp]; exact hID.symm, x⟩)
      rw [List.length_append, List.length_singleton, htk, heldOf_snoc, if_pos hb]
      exact hN'
    · rw [st_ne_empty] at hb
      refine ⟨rfl, _, _, _, ⟨od, (upd_ne (by decide)).trans ((upd_ne (by decide)).trans hm1), (upd_ne (by decide)).trans ((upd_ne (by decide)).trans hm2), (upd_ne (by decide)).trans ((upd_ne (by decide)).trans hm3), rfl, ?_⟩, hne, x⟩
      rw [List.length_append, List.length_singleton, htk, heldOf_snoc, if_neg (by rw [hb]; decide)]
      exact hN
  · rintro us m' cm' l' s₃ ⟨o, hm1, hm2, hm3, rfl, hN⟩ hul hP x
    rw [hul, List.take_of_length_le (by omega)] at hN
    have hNl : (heldOf signs).length ≤ 100000 := by
      have : (heldOf signs).length ≤ signs.length := List.length_filter_le _ _
      omega
    have hNs : ∀ c ∈ heldOf signs, c < 1114112 := fun c hc => hlt c (heldOf_sub hc)
    have nat : ∀ {env m cm s'}, In s env m cm [(D, o)] s' → NamesAt w s'.heap D (heldOf signs) := fun x => ⟨hD0, o, x.get (.head _), hN⟩
    refine Exs.cons (x.assignL (P := IsS (st (l.flatMap (wrOf (heldOf signs) [38, 97, 109, 112, 59] [38])))) (Ev.callN (G.keeps x.old) (Fw.keeps x.old) ew (EvS.cons (x.vS hm1) (EvS.cons (x.vL hm3) (EvS.cons (Ev.lit (l := [38, 97, 109, 112, 59]) (by decide +kernel)) (EvS.cons (Ev.lit (l := [38]) (by decide +kernel)) EvS.nil)))) fun vs' hv' => ?_) ?_)
    · obtain ⟨a, b, c, d, rfl, ⟨u1, rfl⟩, q, ⟨u2, rfl⟩, ⟨u3, rfl⟩⟩ := all2_4 hv'
      obtain rfl : b = _ := q
      exact written (G.keeps x.old) (hd' _) (hh' _) hlen (nat x) hNs (by decide) (by decide) ew
    rintro v s₄ ⟨u1, rfl⟩ x
    refine Exs.cons (x.assignL (P := IsS (st (l.flatMap (wrOf (heldOf signs) [38, 97, 109, 112, 59] [38, 97, 109, 112, 59])))) (Ev.callN (G.keeps x.old) (Fw.keeps x.old) ew (EvS.cons (x.vS ((upd_ne (by decide)).trans hm1)) (EvS.cons (x.vL ((upd_ne (by decide)).trans hm3)) (EvS.cons (Ev.lit (l := [38, 97, 109, 112, 59]) (by decide +kernel)) (EvS.cons (Ev.lit (l := [38, 97, 109, 112, 59]) (by decide +kernel)) EvS.nil)))) fun vs' hv' => ?_) ?_)
    · obtain ⟨a, b, c, d, rfl, ⟨u1, rfl⟩, q, ⟨u2, rfl⟩, ⟨u3, rfl⟩⟩ := all2_4 hv'
      obtain rfl : b = _ := q
      exact written (G.keeps x.old) (hd' _) (hh' _) hlen (nat x) hNs (by decide) (by decide) ew
    rintro v s₅ ⟨u2, rfl⟩ x
    refine Exs.cons (x.assignL (P := IsS (st (rdK (heldOf signs) 0 l))) (Ev.callN (G.keeps x.old) (Fr.keeps x.old) er (EvS.cons (x.vS ((upd_ne (by decide)).trans ((upd_ne (by decide)).trans hm1))) (EvS.cons (x.vL ((upd_ne (by decide)).trans ((upd_ne (by decide)).trans hm3))) EvS.nil)) fun vs' hv' => ?_) ?_)
    · obtain ⟨a, b, rfl, ⟨u1, rfl⟩, q⟩ := all2_2 hv'
      obtain rfl : b = _ := q
      exact read (G.keeps x.old) (hd' _) (hh' _) (hu' _) hlen hNl (nat x) hNs er
    rintro v s₆ ⟨u3, rfl⟩ x
    have m1 := (upd_ne (n := "read") (v := .str (st (rdK (heldOf signs) 0 l)) u3) (x := "text") (by decide)).trans ((upd_ne (n := "two") (v := .str (st (l.flatMap (wrOf (heldOf signs) [38, 97, 109, 112, 59] [38, 97, 109, 112, 59]))) u2) (by decide)).trans ((upd_ne (n := "one") (v := .str (st (l.flatMap (wrOf (heldOf signs) [38, 97, 109, 112, 59] [38]))) u1) (by decide)).trans hm1))
    have m3 := (upd_ne (n := "read") (v := .str (st (rdK (heldOf signs) 0 l)) u3) (x := "names") (by decide)).trans ((upd_ne (n := "two") (v := .str (st (l.flatMap (wrOf (heldOf signs) [38, 97, 109, 112, 59] [38, 97, 109, 112, 59]))) u2) (by decide)).trans ((upd_ne (n := "one") (v := .str (st (l.flatMap (wrOf (heldOf signs) [38, 97, 109, 112, 59] [38]))) u1) (by decide)).trans hm3))
    refine Exs.cons (x.retL (P := All2 ((toldOf l signs).map fun y => IsS (st y))) (EvL.list (EvS.cons (x.vS rfl) (EvS.cons (x.vS m1) (EvS.cons (x.vS rfl) (EvS.cons (x.vS rfl) (EvS.cons (Ev.callN (G.keeps x.old) (Fw.keeps x.old) ew (EvS.cons (x.vS m1) (EvS.cons (x.vL m3)
      (EvS.cons (Ev.lit (l := [38]) (by decide +kernel)) (EvS.cons (Ev.lit (l := [38]) (by decide +kernel)) EvS.nil)))) fun vs' hv' => ?_) (EvS.cons (x.vS rfl) EvS.nil)))))) (by rw [sl]; show 6 ≤ 16777216; decide)) ?_)
    · obtain ⟨a, b, c, d, rfl, ⟨u1, rfl⟩, q, ⟨u2, rfl⟩, ⟨u3, rfl⟩⟩ := all2_4 hv'
      obtain rfl : b = _ := q
      exact written (G.keeps x.old) (hd' _) (hh' _) hlen (nat x) hNs (by decide) (by decide) ew
    intro a' us' N' s' hus x'
    refine k _ _ s' ⟨a', N', us', rfl, rfl, strs_of_all2 hus⟩ (fun p hp => x'.neu p (by rw [List.mem_singleton.mp hp]; exact .head _)) x'.same
end
end Mine

namespace Mine
open PySem PySem.W PyProof.Rows PySem.Calls

def drawsOf (xs : List Int) : List Int := [55603250, 2793504768] ++ xs.take 6 ++ [3167158430]
def drawnOf (xs : List Int) : List Nat := (drawsOf xs).flatMap fun x => pieceOf (x % 3416260608).toNat
structure Plain (l signs : List Nat) : Prop where
  ok : DoneOk l signs
  same : doneOf l signs = toldOf l (distinctOf l)
abbrev Ints (vs : List Value) (is : List Int) : Prop := Paired (fun v i => IsI i v) vs is

theorem piece_len (n : Nat) : (pieceOf n).length ≤ 132 := by
  unfold pieceOf
  have hc := signOf_lt (n % 2224128)
  have hb : ∀ y ∈ (List.range (n / 2224128 % 3 + 1)).map (fun k => st ((itemL (signOf (n % 2224128))).getD (n / 2224128 / (3 * 8 ^ k) % 8) [])), y.length ≤ 44 := by
    intro y hy
    obtain ⟨k, hk, rfl⟩ := List.mem_map.mp hy
    rw [st_len, List.getD_eq_getElem?_getD, List.getElem?_eq_getElem (show n / 2224128 / (3 * 8 ^ k) % 8 < (itemL (signOf (n % 2224128))).length by show _ < 8; omega)]
    exact item_len hc _ (List.getElem_mem _)
  have := PySem.StrLaws.sumLen_le _ hb
  rw [List.length_map, List.length_range] at this
  rw [List.length_flatMap]
  have e : (List.map (fun a => ((itemL (signOf (n % 2224128))).getD (n / 2224128 / (3 * 8 ^ a) % 8) []).length) (List.range (n / 2224128 % 3 + 1))).sum
      = (List.map (fun x => x.length) (List.map (fun k => st ((itemL (signOf (n % 2224128))).getD (n / 2224128 / (3 * 8 ^ k) % 8) [])) (List.range (n / 2224128 % 3 + 1)))).sum := by
    rw [List.map_map]
    congr 1
  rw [e]
  omega
theorem draws_len (xs : List Int) : (drawsOf xs).length ≤ 9 := by
  unfold drawsOf
  simp
  omega
theorem flat_len_le {α : Type} {B : Nat} (g : α → List Nat) : ∀ (l : List α), (∀ a ∈ l, (g a).length ≤ B) → (l.flatMap g).length ≤ l.length * B
  | [], _ => by simp
  | a :: l, h => by
    have := flat_len_le g l fun b hb => h b (.tail _ hb)
    have := h a (.head _)
    rw [List.flatMap_cons, List.length_append, List.length_cons, Nat.succ_mul]
    omega
theorem drawn_len (xs : List Int) : (drawnOf xs).length ≤ 1188 := by
  have := flat_len_le (B := 132) (fun x : Int => pieceOf (x % 3416260608).toNat) (drawsOf xs) fun a _ => piece_len _
  have := draws_len xs
  unfold drawnOf
  omega

theorem paired_take {α β : Type} {F : α → β → Prop} : ∀ {l₁ : List α} {l₂ : List β}, Paired F l₁ l₂ → ∀ n, Paired F (l₁.take n) (l₂.take n)
  | _, _, _, 0 => by simp only [List.take_zero]; exact .nil
  | _, _, .nil, n + 1 => .nil
  | _, _, .cons x t, n + 1 => .cons x (paired_take t n)
theorem strs_of_ints {g : Int → Str} : ∀ {vs : List Value} {is : List Int} {ys : List Value}, Ints vs is → Paired (fun v y => ∃ i : Int, IsI i v ∧ IsS (g i) y) vs ys → StrsAre ys (is.map g)
  | _, _, _, .nil, .nil => .nil
  | _, _, _, .cons ⟨t, e⟩ r, .cons ⟨i, ⟨t', e'⟩, ⟨u, q⟩⟩ r' => by
    subst e
    cases e'
    subst q
    exact .cons _ _ (strs_of_ints r r')
section
variable {w : World} {A : Around} {mg mb : Str → Option Value} {h h' : Heap} {env : Env}
/-- an expression that makes things -/
structure EvN (w : World) (A : Around) (env : Env) (h : Heap) (e : Expr) (P : Value → List (Addr × Obj) → Prop) : Prop where
  run : ∀ (s : Shared) (Q : Value → Shared → Prop) (E : Value → Shared → Prop), Sub h s.heap → (∀ v l s', P v l → New s s' l → Keeps s s' → Q v s') → wpAny (model pw w) A (eval e env) Q E s
theorem New.mono {s s₁ s₂ : Shared} {l : List (Addr × Obj)} (x : New s₁ s₂ l) (k : Keeps s s₁) : New s s₂ l := fun p hp => ⟨none_of_sub (kp_sub k) (x p hp).1, (x p hp).2⟩
theorem EvN.call0 {n : Str} {p pos : Pos} {f : Addr} {d : DefItem} {P : Value → List (Addr × Obj) → Prop} (G : Gl w mg mb h) (hd : FnAt h d f) (hf : mg n = some (.ref f)) (hc : CN w A h (.ref f) [] P)
    (he : eval (.Call (.Name n p) [] [] pos) env = (do callWith pos (← eval (.Name n p) env) [] (backTo pos (starEach [] env)) (backToKw pos (keywordEach [] env))) := by rfl) (hg : env.globals = mainGlobals := by rfl)
    (hk : env.scope.kind = .function := by rfl) (hx : env.kindOf n = some .globalImplicit := by rfl) (hdb : (n == ("__debug__" : Str)) = false := by decide) : EvN w A env h (.Call (.Name n p) [] [] pos) P := .mk fun s Q E hs k => by
  rw [he]
  refine wpAny_bind ((Ev.glob G hf hg hk hx hdb).run s _ E hs fun v s₁ e₁ k₁ => ?_)
  obtain rfl : v = _ := e₁
  obtain ⟨c', o, pm, doc, ho, hda, _⟩ := hd
  exact callWith_meth0 hda (kp_sub k₁ _ _ (hs _ _ ho)) (hc.run s₁ Q E (hs.trans (kp_sub k₁)) fun v l s₂ p₂ n₂ k₂ => k v l s₂ p₂ (n₂.mono k₁) (kp_trans k₁ k₂))
theorem EvN.callN {n : Str} {e : Expr} {es : List Expr} {p pos : Pos} {f : Addr} {d : DefItem} {Ps : List (Value → Prop)} {P : Value → List (Addr × Obj) → Prop} (G : Gl w mg mb h) (hd : FnAt h d f) (hf : mg n = some (.ref f))
    (x : EvS w A env h pos (e :: es) Ps) (hc : ∀ vs, All2 Ps vs → CN w A h (.ref f) vs P)
    (he : eval (.Call (.Name n p) (e :: es) [] pos) env = (do callWith pos (← eval (.Name n p) env) [] (backTo pos (starEach (e :: es) env)) (backToKw pos (keywordEach [] env))) := by rfl)
    (hst : starEach (e :: es) env = (false, eval e env) :: starEach es env := by rfl) (hg : env.globals = mainGlobals := by rfl)
    (hk : env.scope.kind = .function := by rfl) (hx : env.kindOf n = some .globalImplicit := by rfl) (hdb : (n == ("__debug__" : Str)) = false := by decide) : EvN w A env h (.Call (.Name n p) (e :: es) [] pos) P := .mk fun s Q E hs k => by
  rw [he]
  refine wpAny_bind ((Ev.glob G hf hg hk hx hdb).run s _ E hs fun v s₁ e₁ k₁ => ?_)
  obtain rfl : v = _ := e₁
  obtain ⟨c', o, pm, doc, ho, hda, _⟩ := hd
  refine callWith_def (o := o) hda (x.run s₁ _ E (hs.trans (kp_sub k₁)) fun vs s₂ q k₂ => ⟨kp_sub k₂ _ _ (kp_sub k₁ _ _ (hs _ _ ho)), ?_⟩) hst
  exact (hc vs q).run s₂ Q E (hs.trans (kp_sub (kp_trans k₁ k₂))) fun v₃ l s₃ p₃ n₃ k₃ => k v₃ l s₃ p₃ (n₃.mono (kp_trans k₁ k₂)) (kp_trans k₁ (kp_trans k₂ k₃))
theorem EvN.callL {n : Str} {e e2 : Expr} {p pos : Pos} {f : Addr} {d : DefItem} {P₁ : Value → Prop} {P₂ : List Value → Prop} {P : Value → List (Addr × Obj) → Prop} (G : Gl w mg mb h) (hd : FnAt h d f) (hf : mg n = some (.ref f))
    (x : Ev w A env h e P₁) (y : EvL w A env h e2 P₂) (hc : ∀ v a vs g, P₁ v → P₂ vs → Sub h g → g.IsList a vs.toArray → CN w A g (.ref f) [v, .ref a] P)
    (he : eval (.Call (.Name n p) [e, e2] [] pos) env = (do callWith pos (← eval (.Name n p) env) [] (backTo pos (starEach [e, e2] env)) (backToKw pos (keywordEach [] env))) := by rfl)
    (hst : starEach [e, e2] env = (false, eval e env) :: starEach [e2] env := by rfl) (hst2 : starEach [e2] env = (false, eval e2 env) :: starEach [] env := by rfl) (hg : env.globals = mainGlobals := by rfl)
    (hk : env.scope.kind = .function := by rfl) (hx : env.kindOf n = some .globalImplicit := by rfl) (hdb : (n == ("__debug__" : Str)) = false := by decide) : EvN w A env h (.Call (.Name n p) [e, e2] [] pos) P := .mk fun s Q E hs k => by
  rw [he]
  refine wpAny_bind ((Ev.glob G hf hg hk hx hdb).run s _ E hs fun v s₁ e₁ k₁ => ?_)
  obtain rfl : v = _ := e₁
  obtain ⟨c', o, pm, doc, ho, hda, _⟩ := hd
  refine callWith_def (o := o) hda (args_cons (x.run s₁ _ E (hs.trans (kp_sub k₁)) fun v s₂ p₂ k₂ => args_cons (y.run s₂ _ E (hs.trans (kp_sub (kp_trans k₁ k₂))) fun a vs s₃ hfr hpl p₃ k₃ => args_nil ?_) hst2) hst) hst
  have k' := kp_trans k₁ (kp_trans k₂ k₃)
  refine ⟨kp_sub k' _ _ (hs _ _ ho), ?_⟩
  exact (hc v a vs s₃.heap p₂ p₃ (hs.trans (kp_sub k')) hpl.isList).run s₃ Q E (Sub.refl _) fun v₃ l s₃ p₃ n₃ k₃ => k v₃ l s₃ p₃ (n₃.mono k') (kp_trans k' k₃)
section
variable {s₀ s : Shared} {m cm : Str → Option Value} {l : List (Addr × Obj)}
theorem In.newNL {E : Value → Shared → Prop} {n : Str} {pos pos' : Pos} {value : Expr} {P : Value → List (Addr × Obj) → Prop} {Q : Flow → Shared → Prop} (x : In s₀ env m cm l s)
    (he : EvN w A env s.heap value P) (k : ∀ v l' s', P v l' → In s₀ env (upd m n v) cm (l' ++ l) s' → Q .next s')
    (hs : swapsWith value (some (.Name n pos')) pos.line env = pure false := by rfl) (hk : env.scope.kind = .function := by rfl) (hl : env.kindOf n = some .local := by rfl) :
    Ex w A env (.Assign [.Name n pos'] value pos) Q E s := .mk <|
  wpAny_Assign_Name (he.run s _ E (Sub.refl _) fun v l' s₁ p n₁ k₁ => (x.add k₁ n₁).stL (fun s₂ y => k v l' s₂ p y) hk hl) hs
theorem In.newNC {E : Value → Shared → Prop} {n : Str} {c : Addr} {pos pos' : Pos} {value : Expr} {P : Value → List (Addr × Obj) → Prop} {Q : Flow → Shared → Prop} (x : In s₀ env m cm l s) (hc : env.cells.lookup n = some c)
    (he : EvN w A env s.heap value P) (k : ∀ v l' s', P v l' → In s₀ env m (upd cm n v) (l' ++ l) s' → Q .next s')
    (hs : swapsWith value (some (.Name n pos')) pos.line env = pure false := by rfl) (hk : env.scope.kind = .function := by rfl) (hl : env.kindOf n = some .cell := by rfl) :
    Ex w A env (.Assign [.Name n pos'] value pos) Q E s := .mk <|
  wpAny_Assign_Name (he.run s _ E (Sub.refl _) fun v l' s₁ p n₁ k₁ => (x.add k₁ n₁).stC hc (fun s₂ y => k v l' s₂ p y) hk hl) hs
end
/-- l[:6] -/
theorem EvL.upto {value : Expr} {k : Nat} {b : Nat} {pos p p₁ : Pos} {a : Addr} {vs : List Value} (x : Ev w A env h value (IsV (.ref a))) (hl : h.IsList a vs.toArray) (hn : vs.length ≤ sizeLine) (ht : ∀ o r, letTemporaryGo value o r = pure () := by intro _ _; rfl) :
    EvL w A env h (.Subscript value (.Slice none (some (.Constant (.int b) k p₁)) none p) pos) (fun us => us = vs.take b) := .mk fun s Q E hs K => by
  refine wpAny_Subscript_list_slice (x.run s _ E hs fun v s₁ e k₁ => ?_) ht
  obtain rfl : v = _ := e
  rw [evalPart_some, evalPart_none]
  refine wpAny_pure (wpAny_Constant_int ?_)
  have hl₁ := isList_keeps hl (hs.trans (kp_sub k₁))
  refine ⟨a, vs.toArray, none, some (b : Int), rfl, hl₁, by simpa using hn, .none, .int _ _, ?_⟩
  rw [slicePick_upto']
  have kS : Keeps s { s₁ with heap := (s₁.heap.push { cls := .type "slice", data := .fields #[.none, .int b s₁.toks, .none] }), toks := s₁.toks + 1 } := kp_trans k₁ (kp_ht fun b o e => Heap.get?_push_of_some _ e)
  refine K _ (vs.take b) _ (none_of_sub (kp_sub k₁) (none_of_ge (Nat.le_succ _))) ⟨0, ?_⟩ rfl (kp_trans k₁ (kp_ht fun b o e => Heap.get?_push_of_some _ (Heap.get?_push_of_some _ e)))
  have := Heap.get?_push_size (s₁.heap.push { cls := .type "slice", data := .fields #[.none, .int b s₁.toks, .none] }) (o := { cls := .type "list", data := .seq (vs.take b).toArray }) rfl
  rw [Heap.size_push] at this
  exact this

theorem strs_eq {s : Shared} {a b : Addr} {us vs : List Value} {ys : List Str} (hab : a ≠ b) (ha : s.heap.IsList a us.toArray) (hb : s.heap.IsList b vs.toArray) (hu : A.units < cLine) (h1 : StrsAre us ys) (h2 : StrsAre vs ys) : SeqAt.EqAt A s (.ref a) (.ref b) true := by
  have l1 := strsAre_len h1
  have l2 := strsAre_len h2
  have := SeqAt.RcAt.lists (e := fun _ => true) ha hb (by simp; omega) hu fun j q1 q2 => by
    have g1 : us[j]? = some us.toArray[j] := by simp at q1 ⊢
    have g2 : vs[j]? = some vs.toArray[j] := by simp at q2 ⊢
    obtain ⟨y, e1, t₁, p1⟩ := strsAre_get h1 g1
    obtain ⟨z, e2, t₂, p2⟩ := strsAre_get h2 g2
    rw [e1] at e2
    cases e2
    rw [p1, p2]
    intro prog w E Q hq
    exact wpAny_eqBool_str (by simpa using hq)
  rw [show ((List.range us.toArray.size).all fun _ => true) = true by simp] at this
  exact SeqAt.EqAt.of_refs hab this

set_option maxHeartbeats 4000000 in
theorem law (G : Gl w mg mb h) (hroom : A.depth + 100 < recursionLimit) (hh : A.handled = none) (hu : A.units + 300 < cLine) {f S : Addr} {xs : List Int} {vs : List Value} (hS : h.IsList S vs.toArray) (hvs : Ints vs xs) (hlen : vs.length ≤ 10000000)
    (hlt : ∀ c ∈ drawnOf xs, c < 1114112) (hnd : (distinctOf (drawnOf xs)).Nodup) (hmem : ∀ c ∈ distinctOf (drawnOf xs), c ∈ drawnOf xs) (p1 : Plain (drawnOf xs) (distinctOf (drawnOf xs))) (p2 : Plain (drawnOf xs) (distinctOf (drawnOf xs)).reverse) (hf : mg "law" = some (.ref f)) :
    Cl w A h (.ref f) [.ref S] (IsB true) := .mk fun s Q E hs k => by
  have G := G.keeps hs
  have hS := isList_keeps hS hs
  obtain ⟨f', e, F⟩ := G.fn 26 ⟨_, _, _, _, _⟩ rfl
  obtain rfl : f' = f := by simpa using e.symm.trans hf
  obtain ⟨f1, e1, F1⟩ := G.fn 16 ⟨_, _, _, _, _⟩ rfl
  obtain ⟨f2, e2, F2⟩ := G.fn 19 ⟨_, _, _, _, _⟩ rfl
  obtain ⟨f3, e3, F3⟩ := G.fn 20 ⟨_, _, _, _, _⟩ rfl
  obtain ⟨f4, e4, F4⟩ := G.fn 25 ⟨_, _, _, _, _⟩ rfl
  obtain ⟨f5, e5, F5⟩ := G.fn 22 ⟨_, _, _, _, _⟩ rfl
  have hh' : ∀ env, (A.deeper env).handled = none := fun _ => hh
  have hd' : ∀ env, (A.deeper env).depth + 20 < recursionLimit := fun _ => by show A.depth + 1 + 20 < _; omega
  have hd2 : ∀ env, (A.deeper env).depth + 40 < recursionLimit := fun _ => by show A.depth + 1 + 40 < _; omega
  have hu' : ∀ env, (A.deeper env).units + 200 < cLine := fun _ => by show A.units + 3 + 200 < _; omega
  refine callAt F G.lim (by omega) (fun _ _ _ => rfl) (by rfl) fun pm cd doc s₁ x => ?_
  refine Exs.cons (x.newNC rfl (EvN.call0 (G.keeps x.old) (F1.keeps x.old) e1 (runs (G.keeps x.old) (hd' _) (hh' _) e1)) ?_)
  rintro v lr s₂ ⟨R, rfl, hR⟩ x
  have x : In _ _ _ _ lr s₂ := x.weak fun p hp => List.mem_append_left _ hp
  refine Exs.cons (x.newL (P := fun ds => Ints ds (drawsOf xs)) (EvL.mono (EvL.add (EvL.add (EvL.list (EvS.cons Ev.int (EvS.cons Ev.int EvS.nil)) (by rw [sl]; show 2 ≤ 16777216; decide)).p (EvL.upto (b := 6) (x.vL rfl) (isList_keeps hS x.old) (by rw [sl]; omega)).p ?_).p
    (EvL.list (EvS.cons Ev.int EvS.nil) (by rw [sl]; show 1 ≤ 16777216; decide)).p ?_) ?_) ?_)
  · rintro u v hu rfl
    have := hu.length
    rw [sl, List.length_take]
    simp at this
    omega
  · rintro u v ⟨u1, u2, hu1, rfl, rfl⟩ hv
    have := hu1.length
    have h2 := hv.length
    rw [sl, List.length_append, List.length_take]
    simp at this h2
    omega
  · rintro ws ⟨u, v, ⟨u1, u2, hu1, rfl, rfl⟩, hv, rfl⟩
    obtain ⟨a, b, rfl, qa, qb⟩ := all2_2 hu1
    cases hv with
    | cons qc hv => cases hv with
      | nil => exact paired_append (paired_append (.cons qa (.cons qb .nil)) (paired_take hvs 6)) (.cons qc .nil)
  intro ad ds Nd s₃ hds x
  have hdl := hds.length
  have hdl9 := draws_len xs
  have dl := drawn_len xs
  have hla := isList_lobj (x.get (.head _))
  have hRa : RunsAt s₃.heap R runsD := hR.at fun p hp => x.get (.tail _ hp)
  refine Exs.cons (x.assignL (P := IsS (st (drawnOf xs))) (Ev.eqS (Ev.join (ys := (drawsOf xs).map fun i => st (pieceOf (i % 3416260608).toNat)) (EvL.mono (EvL.comp (fun _ => true) (fun v y => ∃ i : Int, IsI i v ∧ IsS (st (pieceOf (i % 3416260608).toNat)) y)
    (Src.list (items := ds.toArray) (hh' _) (x.vL rfl) hla) (by rw [List.size_toArray, sl]; omega) rfl (by rfl) (by rfl) (by rfl) (fun C s₃ m₃ i v hns hm hi hk E' => tests0) ?_) ?_) ?_) ?_) ?_)
  · intro C h₄ m₄ i v hns hm hi hpv hk
    have hi : ds[i]? = some v := by simpa using hi
    obtain ⟨j, hj⟩ : ∃ j, (drawsOf xs)[i]? = some j := ⟨_, List.getElem?_eq_getElem (by have := (List.getElem?_eq_some_iff.mp hi).1; omega)⟩
    obtain ⟨tj, rfl⟩ := paired_at hds i _ _ hi hj
    refine Ev.mono (P := IsS (st (pieceOf (j % 3416260608).toNat))) (Ev.callN (G.keeps (x.old.trans hk)) (F2.keeps (x.old.trans hk)) e2 (EvS.cons (P := IsI (((j % 3416260608).toNat : Nat) : Int)) (Ev.eqI (Ev.bin (Bop.mod (a := j) (b := 3416260608) (by decide)) ((Ev.nameL hns hm).mono fun v e => e ▸ isI _ _) Ev.int) ?_) (EvS.cons (Ev.nameC ((x.cell "runs" _ rfl).keeps hk) rfl) EvS.nil)) fun vs' hv' => ?_)
      fun y q => ⟨j, ⟨tj, rfl⟩, q⟩
    · omega
    · obtain ⟨a, b, rfl, ⟨u1, rfl⟩, q⟩ := all2_2 hv'
      obtain rfl : b = _ := q
      exact piece (G.keeps (x.old.trans hk)) (hd' _) (hh' _) (hRa.keeps hk) e2
  · rintro ys ⟨vs', h1, h2, h3⟩
    rw [List.filter_eq_self.mpr fun _ _ => rfl] at h3
    rw [vs_eq h1 h2] at h3
    exact strs_of_ints (by simpa using hds) h3
  · have hb : ∀ y ∈ (drawsOf xs).map fun i => st (pieceOf (i % 3416260608).toNat), y.length ≤ 132 := by
      intro y hy
      obtain ⟨i, hi, rfl⟩ := List.mem_map.mp hy
      rw [st_len]
      exact piece_len _
    have := PySem.StrLaws.sumLen_le _ hb
    rw [ofEmpty]
    show _ + _ * 0 ≤ _
    rw [List.length_map] at this
    omega
  · rw [join_empty]
    simp [st, List.flatMap_map, drawnOf]
  rintro v s₄ ⟨td, rfl⟩ x
  refine Exs.cons (x.newNL (EvN.callN (G.keeps x.old) (F3.keeps x.old) e3 (EvS.cons (x.vS rfl) EvS.nil) (P := fun v led => ∃ a N vs, v = .ref a ∧ led = [(a, lobj vs N)] ∧ StrsAre vs ((distinctOf (drawnOf xs)).map sg)) fun vs' hv' => ?_) ?_)
  · cases hv' with
    | cons q hv' => cases hv' with
      | nil =>
        obtain ⟨u, rfl⟩ := q
        exact distinct (G.keeps x.old) (hd' _) (hh' _) (by omega) e3
  rintro v ls s₅ ⟨as, Ns, ss, rfl, rfl, hss⟩ x
  have hsl := strsAre_len hss
  have hsl2 := distinct_len (drawnOf xs)
  rw [List.length_map] at hsl
  have hlt' : ∀ c ∈ distinctOf (drawnOf xs), c < 1114112 := fun c hc => hlt c (hmem c hc)
  refine Exs.cons (x.newNL (EvN.callN (G.keeps x.old) (F4.keeps x.old) e4 (EvS.cons (x.vS rfl) (EvS.cons (x.vL rfl) (EvS.cons (x.vC rfl rfl) EvS.nil))) (P := fun v led => ∃ a N us, v = .ref a ∧ led = [(a, lobj us N)] ∧ StrsAre us ((toldOf (drawnOf xs) (distinctOf (drawnOf xs))).map st)) fun vs' hv' => ?_) ?_)
  · obtain ⟨a, b, c, rfl, ⟨u1, rfl⟩, q, q'⟩ := all2_3 hv'
    obtain rfl : b = _ := q
    obtain rfl : c = _ := q'
    exact told (G.keeps x.old) (hd2 _) (hh' _) (hu' _) (by omega) (isList_lobj (x.get (.head _))) hss (by omega) hlt' hnd (hR.at fun p hp => x.get (.tail _ (.tail _ hp))) e4
  rintro v lt s₆ ⟨at', Nt, tt, rfl, rfl, htt⟩ x
  have hsi : s₆.heap.IsList as ss.toArray := isList_lobj (x.get (.tail _ (.head _)))
  have tell : ∀ {us : List Value} {l signs : List Nat}, doneOf l signs = toldOf (drawnOf xs) (distinctOf (drawnOf xs)) → StrsAre us ((doneOf l signs).map st) → StrsAre us ((toldOf (drawnOf xs) (distinctOf (drawnOf xs))).map st) := fun e q => e ▸ q
  refine Exs.cons ⟨wpAny_Return_some (wpAny_Compare1 (wpAny_List (args_cons (EvN.run (P := fun v led => ∃ a N us, v = .ref a ∧ led = [(a, lobj us N)] ∧ StrsAre us ((doneOf (drawnOf xs) (distinctOf (drawnOf xs))).map st))
    (EvN.callN (G.keeps x.old) (F5.keeps x.old) e5 (EvS.cons (x.vS rfl) (EvS.cons (x.vL rfl) EvS.nil)) fun vs' hv' => ?_) s₆ _ _ (Sub.refl _) fun v l₁ s₇ q₁ n₁ k₁ => ?_))))⟩
  · obtain ⟨a, b, rfl, ⟨u1, rfl⟩, q⟩ := all2_2 hv'
    obtain rfl : b = _ := q
    exact done (G.keeps x.old) (hd2 _) (hh' _) hsi hss (by omega) hlt' p1.ok e5
  obtain ⟨a₁, N₁, us₁, rfl, rfl, hus₁⟩ := q₁
  have ne1 : a₁ ≠ at' := fun e => by
    have h1 := (n₁ _ (.head _)).1
    have h2 := x.get (.head _)
    dsimp only at h1
    rw [e, h2] at h1
    cases h1
  have x := x.add k₁ n₁
  have hsi := isList_keeps hsi (kp_sub k₁)
  refine args_cons (EvN.run (P := fun v led => ∃ a N us, v = .ref a ∧ led = [(a, lobj us N)] ∧ StrsAre us ((doneOf (drawnOf xs) (distinctOf (drawnOf xs)).reverse).map st))
    (EvN.callL (G.keeps x.old) (F5.keeps x.old) e5 (x.vS rfl) (EvL.rev (x.vL rfl) hsi (by rw [sl]; omega)) ?_) s₇ _ _ (Sub.refl _) fun v l₂ s₈ q₂ n₂ k₂ => args_nil ?_)
  · rintro v a vs' g ⟨u1, rfl⟩ rfl hg hla
    refine done ((G.keeps x.old).keeps hg) (hd2 _) (hh' _) hla (by rw [List.map_reverse]; exact strsAre_reverse hss) (by rw [List.length_reverse]; omega) (fun c hc => hlt' c (List.mem_reverse.mp hc)) p2.ok e5
  obtain ⟨a₂, N₂, us₂, rfl, rfl, hus₂⟩ := q₂
  have ne2 : a₂ ≠ at' := fun e => by
    have h1 := (n₂ _ (.head _)).1
    have h2 := x.get (.tail _ (.head _))
    dsimp only at h1
    rw [e, h2] at h1
    cases h1
  have x := x.add k₂ n₂
  refine ⟨by rw [sl]; show 2 ≤ 16777216; decide, ?_⟩
  have k₃ : Keeps s₈ { s₈ with heap := s₈.heap.push (lobj [.ref a₁, .ref a₂] 0) } := kp_h fun b o e => Heap.get?_push_of_some _ e
  have x := x.add (l' := [(s₈.heap.objs.size, lobj [.ref a₁, .ref a₂] 0)]) k₃ fun q hq => by rw [List.mem_singleton.mp hq]; exact ⟨none_of_ge (Nat.le_refl _), Heap.get?_push_size _ rfl⟩
  refine (EvL.list (EvS.cons (x.vL rfl) (EvS.cons (x.vL rfl) EvS.nil)) (by rw [sl]; show 2 ≤ 16777216; decide)).run _ _ _ (Sub.refl _) fun a₄ vs₄ s₉ hf₄ hpl₄ q₄ k₄ => ?_
  obtain ⟨_, _, rfl, r₁, r₂⟩ := all2_2 q₄
  obtain rfl : _ = _ := r₁
  obtain rfl : _ = _ := r₂
  have x := x.keeps k₄
  have g0 := isList_lobj (x.get (.head _))
  have g1 := isList_lobj (x.get (.tail _ (.tail _ (.head _))))
  have g2 := isList_lobj (x.get (.tail _ (.head _)))
  have g3 := isList_lobj (x.get (.tail _ (.tail _ (.tail _ (.head _)))))
  refine SeqAt.eq_listAt (e := fun _ => true) g0 hpl₄.isList rfl (by show A.units + 3 < _; omega) ?_ (k _ _ rfl x.same)
  intro j h1 h2
  have : j = 0 ∨ j = 1 := by
    have h1 : j < 2 := h1
    omega
  rcases this with rfl | rfl
  · exact strs_eq ne1 g1 g3 (by show A.units + 3 + 1 < _; omega) (tell p1.same hus₁) htt
  · exact strs_eq ne2 g2 g3 (by show A.units + 3 + 1 < _; omega) (tell p2.same hus₂) htt
end
end Mine

namespace Mine
open PySem PySem.W PyProof.Rows PySem.Calls

/-! ## the tables and the runs say the same -/
theorem mem_iFrom (a : Int) (n : Nat) (x : Int) : x ∈ iFrom a n ↔ a ≤ x ∧ x < a + n := by
  unfold iFrom
  rw [List.mem_map]
  constructor
  · rintro ⟨i, hi, rfl⟩
    rw [List.mem_range] at hi
    omega
  · intro h
    exact ⟨(x - a).toNat, List.mem_range.mpr (by omega), by omega⟩
theorem runs_apart : runsD.Pairwise fun r r' => r.2.2 < r'.2.1 ∨ r'.2.2 < r.2.1 := by decide +kernel
theorem filter_one {n : Nat} : ∀ {rs : List Row}, (rs.Pairwise fun r r' => r.2.2 < r'.2.1 ∨ r'.2.2 < r.2.1) → rs.filter (hit n) = [] ∨ ∃ r, rs.filter (hit n) = [r]
  | [], _ => .inl rfl
  | r :: rs, h => by
    cases h with
    | cons h1 h2 =>
      rw [List.filter_cons]
      cases e : hit n r with
      | false => exact filter_one h2
      | true =>
        right
        refine ⟨r, ?_⟩
        have : rs.filter (hit n) = [] := by
          rw [List.filter_eq_nil_iff]
          intro r' hr' hh
          have := h1 r' hr'
          simp only [hit, Bool.and_eq_true, decide_eq_true_eq] at e hh
          omega
        rw [this]; rfl
theorem row_of {n k lo hi : Nat} (hm : (k, lo, hi) ∈ runsD) (h1 : lo ≤ n) (h2 : n ≤ hi) : ∃ r ∈ runsD, r.1 = k ∧ hit n r = true :=
  ⟨_, hm, rfl, by simp [hit, h1, h2]⟩
theorem rows_cases {n k : Nat} {rows : List Row} (e : runsD.filter (fun r => r.1 == k) = rows) (h : ∃ r ∈ runsD, r.1 = k ∧ hit n r = true) : ∃ r ∈ rows, hit n r = true := by
  obtain ⟨r, h1, h2, h3⟩ := h
  exact ⟨r, e ▸ List.mem_filter.mpr ⟨h1, by simp [h2]⟩, h3⟩
theorem seen98 (n : Nat) : seenB n 98 = true ↔ ∃ r ∈ runsD, r.1 = 98 ∧ hit n r = true := by
  have e : seenB n 98 = decide ((n : Int) ∈ b1L) := rfl
  rw [e, decide_eq_true_iff]
  unfold b1L
  rw [List.mem_append, mem_iFrom]
  constructor
  · intro h
    simp only [List.mem_cons, List.not_mem_nil, or_false] at h
    have : n = 173 ∨ n = 847 ∨ n = 6150 ∨ (6155 ≤ n ∧ n ≤ 6157) ∨ (8203 ≤ n ∧ n ≤ 8205) ∨ n = 8288 ∨ (65024 ≤ n ∧ n ≤ 65039) ∨ n = 65279 := by omega
    rcases this with h | h | h | h | h | h | h | h
    · exact row_of (lo := 173) (hi := 173) (by decide) (by omega) (by omega)
    · exact row_of (lo := 847) (hi := 847) (by decide) (by omega) (by omega)
    · exact row_of (lo := 6150) (hi := 6150) (by decide) (by omega) (by omega)
    · exact row_of (lo := 6155) (hi := 6157) (by decide) (by omega) (by omega)
    · exact row_of (lo := 8203) (hi := 8205) (by decide) (by omega) (by omega)
    · exact row_of (lo := 8288) (hi := 8288) (by decide) (by omega) (by omega)
    · exact row_of (lo := 65024) (hi := 65039) (by decide) (by omega) (by omega)
    · exact row_of (lo := 65279) (hi := 65279) (by decide) (by omega) (by omega)
  · intro h
    obtain ⟨r, hr, hh⟩ := rows_cases (rows := [(98, 173, 173), (98, 847, 847), (98, 6150, 6150), (98, 6155, 6157), (98, 8203, 8205), (98, 8288, 8288), (98, 65024, 65039), (98, 65279, 65279)]) (by decide) h
    simp only [List.mem_cons, List.not_mem_nil, or_false] at hr ⊢
    rcases hr with rfl | rfl | rfl | rfl | rfl | rfl | rfl | rfl <;> simp only [hit, Bool.and_eq_true, decide_eq_true_eq] at hh <;> omega
theorem seen115 (n : Nat) : seenB n 115 = true ↔ ∃ r ∈ runsD, r.1 = 115 ∧ hit n r = true := by
  have e : seenB n 115 = (n == 32) := rfl
  rw [e, beq_iff_eq]
  constructor
  · intro h
    exact row_of (lo := 32) (hi := 32) (by decide) (by omega) (by omega)
  · intro h
    obtain ⟨r, hr, hh⟩ := rows_cases (rows := [(115, 32, 32)]) (by decide) h
    simp only [List.mem_cons, List.not_mem_nil, or_false] at hr
    subst hr
    simp only [hit, Bool.and_eq_true, decide_eq_true_eq] at hh
    omega
theorem seen112 (n : Nat) : seenB n 112 = true ↔ ∃ r ∈ runsD, r.1 = 112 ∧ hit n r = true := by
  have e : seenB n 112 = decide ((n : Int) ∈ c6L) := rfl
  rw [e, decide_eq_true_iff]
  unfold c6L
  rw [mem_iFrom]
  constructor
  · intro h
    exact row_of (lo := 65529) (hi := 65533) (by decide) (by omega) (by omega)
  · intro h
    obtain ⟨r, hr, hh⟩ := rows_cases (rows := [(112, 65529, 65533)]) (by decide) h
    simp only [List.mem_cons, List.not_mem_nil, or_false] at hr
    subst hr
    simp only [hit, Bool.and_eq_true, decide_eq_true_eq] at hh
    omega
theorem seen105 (n : Nat) : seenB n 105 = true ↔ ∃ r ∈ runsD, r.1 = 105 ∧ hit n r = true := by
  have e : seenB n 105 = decide ((n : Int) ∈ c7L) := rfl
  rw [e, decide_eq_true_iff]
  unfold c7L
  rw [mem_iFrom]
  constructor
  · intro h
    exact row_of (lo := 12272) (hi := 12283) (by decide) (by omega) (by omega)
  · intro h
    obtain ⟨r, hr, hh⟩ := rows_cases (rows := [(105, 12272, 12283)]) (by decide) h
    simp only [List.mem_cons, List.not_mem_nil, or_false] at hr
    subst hr
    simp only [hit, Bool.and_eq_true, decide_eq_true_eq] at hh
    omega
theorem seen100 (n : Nat) : seenB n 100 = true ↔ ∃ r ∈ runsD, r.1 = 100 ∧ hit n r = true := by
  have e : seenB n 100 = decide ((n : Int) ∈ c8L) := rfl
  rw [e, decide_eq_true_iff]
  unfold c8L
  rw [List.mem_append, List.mem_append, mem_iFrom, mem_iFrom]
  constructor
  · intro h
    simp only [List.mem_cons, List.not_mem_nil, or_false] at h
    have : (832 ≤ n ∧ n ≤ 833) ∨ (8206 ≤ n ∧ n ≤ 8207) ∨ (8234 ≤ n ∧ n ≤ 8238) ∨ (8298 ≤ n ∧ n ≤ 8303) := by omega
    rcases this with h | h | h | h
    · exact row_of (lo := 832) (hi := 833) (by decide) (by omega) (by omega)
    · exact row_of (lo := 8206) (hi := 8207) (by decide) (by omega) (by omega)
    · exact row_of (lo := 8234) (hi := 8238) (by decide) (by omega) (by omega)
    · exact row_of (lo := 8298) (hi := 8303) (by decide) (by omega) (by omega)
  · intro h
    obtain ⟨r, hr, hh⟩ := rows_cases (rows := [(100, 832, 833), (100, 8206, 8207), (100, 8234, 8238), (100, 8298, 8303)]) (by decide) h
    simp only [List.mem_cons, List.not_mem_nil, or_false] at hr ⊢
    rcases hr with rfl | rfl | rfl | rfl <;> simp only [hit, Bool.and_eq_true, decide_eq_true_eq] at hh <;> omega
theorem seen116 (n : Nat) : seenB n 116 = true ↔ ∃ r ∈ runsD, r.1 = 116 ∧ hit n r = true := by
  have e : seenB n 116 = decide ((n : Int) ∈ c9L) := rfl
  rw [e, decide_eq_true_iff]
  unfold c9L
  rw [List.mem_append, mem_iFrom]
  constructor
  · intro h
    simp only [List.mem_cons, List.not_mem_nil, or_false] at h
    have : n = 917505 ∨ (917536 ≤ n ∧ n ≤ 917631) := by omega
    rcases this with h | h
    · exact row_of (lo := 917505) (hi := 917505) (by decide) (by omega) (by omega)
    · exact row_of (lo := 917536) (hi := 917631) (by decide) (by omega) (by omega)
  · intro h
    obtain ⟨r, hr, hh⟩ := rows_cases (rows := [(116, 917505, 917505), (116, 917536, 917631)]) (by decide) h
    simp only [List.mem_cons, List.not_mem_nil, or_false] at hr ⊢
    rcases hr with rfl | rfl <;> simp only [hit, Bool.and_eq_true, decide_eq_true_eq] at hh <;> omega
theorem seen110 (n : Nat) (hn : n < 1114112) : seenB n 110 = true ↔ ∃ r ∈ runsD, r.1 = 110 ∧ hit n r = true := by
  have e : seenB n 110 = inC4 n := rfl
  rw [e]
  constructor
  · intro h
    unfold inC4 at h
    by_cases h1 : n < 64976
    · rw [if_pos h1] at h; cases h
    rw [if_neg h1] at h
    by_cases h2 : n < 65008
    · exact row_of (lo := 64976) (hi := 65007) (by decide) (by omega) (by omega)
    rw [if_neg h2, Bool.or_eq_true, beq_iff_eq, beq_iff_eq] at h
    refine ⟨(110, 65534 + 65536 * (n / 65536), 65535 + 65536 * (n / 65536)), List.mem_append_right _ (List.mem_map.mpr ⟨n / 65536, List.mem_range.mpr (by omega), rfl⟩), rfl, ?_⟩
    simp only [hit, Bool.and_eq_true, decide_eq_true_eq]
    omega
  · rintro ⟨r, hr, h1, hh⟩
    unfold inC4
    rcases List.mem_append.mp hr with hr | hr
    · have : r ∈ runsA.filter (fun r => r.1 == 110) := List.mem_filter.mpr ⟨hr, by simp [h1]⟩
      rw [show runsA.filter (fun r => r.1 == 110) = [(110, 64976, 65007)] by decide] at this
      rw [List.mem_singleton] at this
      subst this
      simp only [hit, Bool.and_eq_true, decide_eq_true_eq] at hh
      rw [if_neg (by omega), if_pos (by omega)]
    · obtain ⟨k, hk, rfl⟩ := List.mem_map.mp hr
      simp only [hit, Bool.and_eq_true, decide_eq_true_eq] at hh
      rw [if_neg (by omega), if_neg (by omega), Bool.or_eq_true, beq_iff_eq, beq_iff_eq]
      omega
theorem seen_iff (n : Nat) (hn : n < 1114112) : ∀ k ∈ letters, (seenB n k = true ↔ ∃ r ∈ runsD, r.1 = k ∧ hit n r = true) := by
  intro k hk
  simp only [letters, List.mem_cons, List.not_mem_nil, or_false] at hk
  rcases hk with rfl | rfl | rfl | rfl | rfl | rfl | rfl
  · exact seen98 n
  · exact seen115 n
  · exact seen110 n hn
  · exact seen112 n
  · exact seen105 n
  · exact seen100 n
  · exact seen116 n
theorem filter_eq_one {k : Nat} : ∀ {l : List Nat}, l.Nodup → k ∈ l → l.filter (fun x => decide (x = k)) = [k]
  | a :: l, hn, hm => by
    rw [List.nodup_cons] at hn
    by_cases e : a = k
    · subst e
      rw [List.filter_cons, if_pos (by simp)]
      rw [List.filter_eq_nil_iff.mpr]
      intro b hb hbe
      have : b = a := by simpa using hbe
      exact hn.1 (this ▸ hb)
    · rw [List.filter_cons, if_neg (by simpa using e)]
      exact filter_eq_one hn.2 ((List.mem_cons.mp hm).resolve_left fun q => e q.symm)
theorem mark_seen (n : Nat) (hn : n < 1114112) : markOf runsD n = seenOf n := by
  unfold markOf seenOf
  rcases filter_one (n := n) runs_apart with h | ⟨r, h⟩
  · rw [h]
    symm
    rw [List.map_nil, List.filter_eq_nil_iff]
    intro k hk hs
    obtain ⟨r, hr, _, hh⟩ := (seen_iff n hn k hk).mp hs
    have : r ∈ runsD.filter (hit n) := List.mem_filter.mpr ⟨hr, hh⟩
    rw [h] at this
    cases this
  · have hr : r ∈ runsD ∧ hit n r = true := List.mem_filter.mp (h ▸ .head _)
    have hl : r.1 ∈ letters := (show ∀ r ∈ runsD, r.1 ∈ letters by decide) r hr.1
    rw [h, List.map_singleton]
    rw [show letters.filter (seenB n) = letters.filter (fun x => decide (x = r.1)) from ?_, filter_eq_one (by decide) hl]
    apply List.filter_congr
    intro k hk
    rw [Bool.eq_iff_iff, decide_eq_true_iff, seen_iff n hn k hk]
    constructor
    · rintro ⟨r', hr', e, hh⟩
      have : r' ∈ runsD.filter (hit n) := List.mem_filter.mpr ⟨hr', hh⟩
      rw [h, List.mem_singleton] at this
      rw [← e, this]
    · rintro rfl
      exact ⟨r, hr.1, rfl, hr.2⟩
end Mine

namespace Mine
open PySem PySem.W PyProof.Rows PySem.Calls

/-! ## names -/
theorem dig_eq (n : Nat) : dig n = (Nat.toDigits 10 n).map Char.toNat := KIN.signs_num n
theorem dig_range {n x : Nat} (h : x ∈ dig n) : 48 ≤ x ∧ x ≤ 57 := by
  rw [dig_eq] at h
  obtain ⟨ch, hch, rfl⟩ := List.mem_map.mp h
  exact digit_range (Nat.isDigit_of_mem_toDigits (by decide) (by decide) hch)
theorem dig_inj {m n : Nat} (h : dig m = dig n) : m = n := by
  rw [dig_eq, dig_eq] at h
  rw [← KIN.val_back m, h, KIN.val_back n]
theorem seen_letters {c x : Nat} (h : x ∈ seenOf c) : x ∈ letters := (List.mem_filter.mp h).1
/-- a sign of a name: no ampersand, held by no table -/
def Good (x : Nat) : Prop := x ≠ 38 ∧ seenOf x = []
theorem good_letter : ∀ x ∈ letters, Good x := by unfold Good; decide
theorem good_digit {x : Nat} (h : 48 ≤ x ∧ x ≤ 57) : Good x := by
  have : ∀ k < 10, Good (48 + k) := by unfold Good; decide
  have := this (x - 48) (by omega)
  rwa [show 48 + (x - 48) = x by omega] at this
theorem good_small : ∀ x ∈ ([97, 109, 112, 59] : List Nat), Good x := by unfold Good; decide
theorem amp_free : seenOf 38 = [] := by decide
theorem name_seen {c : Nat} (hc : c < 1114112) : nameOf c = seenOf c ++ dig c ++ [59] := by unfold nameOf; rw [mark_seen c hc]
theorem name_good {c : Nat} (hc : c < 1114112) : ∀ x ∈ nameOf c, Good x := by
  rw [name_seen hc]
  intro x hx
  rcases List.mem_append.mp hx with hx | hx
  · rcases List.mem_append.mp hx with hx | hx
    · exact good_letter x (seen_letters hx)
    · exact good_digit (dig_range hx)
  · exact good_small x (by rw [List.mem_singleton.mp hx]; decide)
theorem body_no59 {c x : Nat} (h : x ∈ seenOf c ++ dig c) : x ≠ 59 := by
  rcases List.mem_append.mp h with h | h
  · exact (show ∀ x ∈ letters, x ≠ 59 by decide) x (seen_letters h)
  · have := dig_range h; omega
theorem takeWhile_body {b t : List Nat} (hb : ∀ x ∈ b, x ≠ 59) (h : b ++ [59] <+: t) : t.takeWhile (· != 59) = b := by
  obtain ⟨r, rfl⟩ := h
  rw [List.append_assoc, List.takeWhile_append_of_pos fun x hx => by simpa using hb x hx]
  simp
theorem name_unique {c d : Nat} {t : List Nat} (hc : c < 1114112) (hd : d < 1114112) (h1 : nameOf c <+: t) (h2 : nameOf d <+: t) : c = d := by
  rw [name_seen hc] at h1
  rw [name_seen hd] at h2
  have e := (takeWhile_body (fun x => body_no59) h1).symm.trans (takeWhile_body (fun x => body_no59) h2)
  have key : ∀ n, (seenOf n ++ dig n).filter (fun x => decide (x ≤ 57)) = dig n := by
    intro n
    rw [List.filter_append]
    have h1 : (seenOf n).filter (fun x => decide (x ≤ 57)) = [] := by
      rw [List.filter_eq_nil_iff]
      intro x hx
      have := (show ∀ x ∈ letters, ¬ x ≤ 57 by decide) x (seen_letters hx)
      simpa using this
    have h2 : (dig n).filter (fun x => decide (x ≤ 57)) = dig n := by
      rw [List.filter_eq_self]
      intro x hx
      simpa using (dig_range hx).2
    rw [h1, h2]; rfl
  have := congrArg (fun l => l.filter (fun x => decide (x ≤ 57))) e
  simp only [key] at this
  exact dig_inj this
def Held (c : Nat) : Prop := c < 1114112 ∧ seenOf c ≠ []
theorem Held.ne38 {c : Nat} (h : Held c) : c ≠ 38 := fun e => h.2 (e ▸ amp_free)
theorem Held.notGood {c x : Nat} (h : Held c) (g : Good x) : x ≠ c := fun e => h.2 (e ▸ g.2)
theorem name_head {c : Nat} (h : Held c) : ∃ x t, nameOf c = x :: t ∧ x ≠ 97 ∧ x ≠ 38 := by
  rw [name_seen h.1]
  cases e : seenOf c with
  | nil => exact absurd e h.2
  | cons x t =>
    have hx : x ∈ letters := seen_letters (c := c) (by rw [e]; exact .head _)
    have := (show ∀ x ∈ letters, x ≠ 97 ∧ x ≠ 38 by decide) x hx
    exact ⟨x, _, rfl, this.1, this.2⟩

/-! ## replacing -/
theorem subK_drop (a b : List Nat) : ∀ (k : Nat) (t : List Nat), subK a b k t = subK a b 0 (t.drop k)
  | 0, t => rfl
  | k + 1, [] => by rw [List.drop_nil]; cases k <;> rfl
  | k + 1, c :: t => by rw [subK, subK_drop a b k t]; rfl
theorem subK_one (x : Nat) (b : List Nat) : ∀ (t : List Nat), subK [x] b 0 t = t.flatMap fun c => if c = x then b else [c]
  | [] => rfl
  | c :: t => by
    rw [subK, List.flatMap_cons]
    have ih := subK_one x b t
    by_cases e : c = x
    · subst e
      rw [if_pos (by simp), if_pos rfl]
      show b ++ subK [c] b 0 t = _
      rw [ih]
    · rw [if_neg (by simpa using fun q : x = c => e q.symm), if_neg e, ih]
      rfl
theorem subK_ne {n b : List Nat} {c : Nat} (t : List Nat) (hc : c ≠ 38) : subK (38 :: n) b 0 (c :: t) = c :: subK (38 :: n) b 0 t := by
  rw [subK, if_neg]
  intro h
  rw [List.isPrefixOf_iff_prefix] at h
  obtain ⟨r, e⟩ := h
  injection e with e _
  exact hc e.symm
theorem subK_amp {n b : List Nat} (t : List Nat) : subK (38 :: n) b 0 (38 :: t) = if n.isPrefixOf t then b ++ subK (38 :: n) b 0 (t.drop n.length) else 38 :: subK (38 :: n) b 0 t := by
  rw [subK]
  have : (38 :: n).isPrefixOf (38 :: t) = n.isPrefixOf t := by simp [List.isPrefixOf]
  rw [this]
  by_cases h : n.isPrefixOf t = true
  · rw [if_pos h, if_pos h]
    show b ++ subK (38 :: n) b n.length t = _
    rw [subK_drop]
  · rw [if_neg h, if_neg h]
theorem subK_pre {n b : List Nat} : ∀ (u t : List Nat), (∀ x ∈ u, x ≠ 38) → subK (38 :: n) b 0 (u ++ t) = u ++ subK (38 :: n) b 0 t
  | [], t, _ => rfl
  | c :: u, t, h => by
    rw [List.cons_append, subK_ne _ (h c (.head _)), subK_pre u t fun x hx => h x (.tail _ hx)]
    rfl
theorem subK_len {a b : List Nat} (ha : a ≠ []) (hb : b.length ≤ a.length) : ∀ (k : Nat) (t : List Nat), (subK a b k t).length ≤ t.length - k
  | k, [] => by cases k <;> simp [subK]
  | k + 1, c :: t => by
    rw [subK]
    have := subK_len ha hb k t
    simp only [List.length_cons]
    omega
  | 0, c :: t => by
    rw [subK]
    have hal : 0 < a.length := List.length_pos_iff.mpr ha
    split
    · rename_i h
      have hp := (List.isPrefixOf_iff_prefix.mp h).length_le
      have := subK_len ha hb (a.length - 1) t
      rw [List.length_append]
      simp only [List.length_cons] at hp ⊢
      omega
    · have := subK_len ha hb 0 t
      simp only [List.length_cons]
      omega
theorem repl_append : ∀ (a b : List (List Nat × List Nat)) (t : List Nat), repl (a ++ b) t = repl b (repl a t)
  | [], b, t => rfl
  | p :: a, b, t => repl_append a b _
theorem replOk_of : ∀ {ps : List (List Nat × List Nat)} {t : List Nat}, (∀ p ∈ ps, p.1 ≠ [] ∧ p.2.length ≤ 50) → (∀ k, (repl (ps.take k) t).length ≤ 100000) → ReplOk ps t
  | [], _, _, _ => trivial
  | p :: ps, t, h1, h2 => ⟨(h1 p (.head _)).1, (h1 p (.head _)).2, h2 0, replOk_of (fun q hq => h1 q (.tail _ hq)) fun k => h2 (k + 1)⟩
theorem replOk_less : ∀ {ps : List (List Nat × List Nat)} {t : List Nat}, (∀ p ∈ ps, p.1 ≠ [] ∧ p.2.length ≤ 50 ∧ p.2.length ≤ p.1.length) → t.length ≤ 100000 → ReplOk ps t
  | [], _, _, _ => trivial
  | p :: ps, t, h1, h2 => ⟨(h1 p (.head _)).1, (h1 p (.head _)).2.1, h2, replOk_less (fun q hq => h1 q (.tail _ hq)) (by
      have := subK_len (h1 p (.head _)).1 (h1 p (.head _)).2.2 0 t
      omega)⟩

/-! ## writing -/
def gOf (S : List Nat) (x : Nat) : List Nat := if x ∈ S then 38 :: nameOf x else [x]
theorem flatMap_id {f : Nat → List Nat} {u : List Nat} (h : ∀ x ∈ u, f x = [x]) : u.flatMap f = u := by
  induction u with
  | nil => rfl
  | cons a u ih => rw [List.flatMap_cons, h a (.head _), ih fun x hx => h x (.tail _ hx)]; rfl
theorem flatMap_congr {f g : Nat → List Nat} {u : List Nat} (h : ∀ x ∈ u, f x = g x) : u.flatMap f = u.flatMap g := by
  induction u with
  | nil => rfl
  | cons a u ih => rw [List.flatMap_cons, List.flatMap_cons, h a (.head _), ih fun x hx => h x (.tail _ hx)]
theorem gOf_good {S : List Nat} (hS : ∀ c ∈ S, Held c) {x : Nat} (g : Good x) : gOf S x = [x] := if_neg fun hm => (hS x hm).2 g.2
theorem gOf_amp {S : List Nat} (hS : ∀ c ∈ S, Held c) : gOf S 38 = [38] := if_neg fun hm => (hS 38 hm).2 amp_free
theorem write_pairs : ∀ {S : List Nat}, (∀ c ∈ S, Held c) → ∀ (t : List Nat), repl (S.map fun c => ([c], 38 :: nameOf c)) t = t.flatMap (gOf S)
  | [], _, t => by
    show t = _
    exact (flatMap_id fun x _ => rfl).symm
  | c :: S, hS, t => by
    have hS' : ∀ d ∈ S, Held d := fun d hd => hS d (.tail _ hd)
    show repl (S.map _) (subK [c] (38 :: nameOf c) 0 t) = _
    rw [write_pairs hS', subK_one, List.flatMap_assoc]
    apply flatMap_congr
    intro x _
    by_cases e : x = c
    · subst e
      rw [if_pos rfl, show gOf (x :: S) x = 38 :: nameOf x from if_pos (.head _)]
      apply flatMap_id
      intro y hy
      rcases List.mem_cons.mp hy with rfl | hy
      · exact gOf_amp hS'
      · exact gOf_good hS' (name_good (hS x (.head _)).1 y hy)
    · rw [if_neg e, List.flatMap_singleton]
      unfold gOf
      by_cases hm : x ∈ S
      · rw [if_pos hm, if_pos (.tail _ hm)]
      · rw [if_neg hm, if_neg fun q => (List.mem_cons.mp q).elim e hm]
abbrev amp5 : List Nat := [38, 97, 109, 112, 59]
theorem write_early {S : List Nat} (hS : ∀ c ∈ S, Held c) (t : List Nat) : repl (ampP :: S.map fun c => ([c], 38 :: nameOf c)) t = t.flatMap (wrOf S amp5 [38]) := by
  show repl _ (subK [38] amp5 0 t) = _
  rw [write_pairs hS, subK_one, List.flatMap_assoc]
  apply flatMap_congr
  intro x _
  unfold wrOf
  by_cases e : x = 38
  · subst e
    rw [if_pos rfl, if_pos rfl]
    apply flatMap_id
    intro y hy
    rcases List.mem_cons.mp hy with rfl | hy
    · exact gOf_amp hS
    · exact gOf_good hS (good_small y hy)
  · rw [if_neg e, if_neg e, List.flatMap_singleton]
    rfl
theorem write_late {S : List Nat} (hS : ∀ c ∈ S, Held c) (t : List Nat) : repl ((S.map fun c => ([c], 38 :: nameOf c)) ++ [ampP]) t = t.flatMap (wrOf S amp5 amp5) := by
  rw [repl_append, write_pairs hS]
  show subK [38] amp5 0 _ = _
  rw [subK_one, List.flatMap_assoc]
  apply flatMap_congr
  intro x _
  unfold wrOf gOf
  by_cases hm : x ∈ S
  · rw [if_pos hm, if_neg (hS x hm).ne38, if_pos hm, List.flatMap_cons, if_pos rfl]
    congr 1
    apply flatMap_id
    intro y hy
    exact if_neg (name_good (hS x hm).1 y hy).1
  · rw [if_neg hm, List.flatMap_singleton, if_neg hm]
end Mine

namespace Mine
open PySem PySem.W PyProof.Rows PySem.Calls

/-! ## reading -/
theorem rd_ne {N : List Nat} {c : Nat} (t : List Nat) (h : c ≠ 38) : rdK N 0 (c :: t) = c :: rdK N 0 t := by rw [rdK, if_neg h]
theorem rd_some {N : List Nat} {d : Nat} {t : List Nat} (h : hitOf N t = some d) : rdK N 0 (38 :: t) = d :: rdK N 0 (t.drop (nameOf d).length) := by
  rw [rdK, if_pos rfl, h]; dsimp only; rw [rdK_drop]
theorem rd_none {N : List Nat} {t : List Nat} (h : hitOf N t = none) : rdK N 0 (38 :: t) = 38 :: rdK N 0 t := by
  rw [rdK, if_pos rfl, h]
theorem hit_mem {N : List Nat} {d : Nat} {t : List Nat} (h : hitOf N t = some d) : d ∈ N ∧ nameOf d <+: t :=
  ⟨List.mem_of_find?_eq_some h, List.isPrefixOf_iff_prefix.mp (by have := List.find?_some (p := fun c => (nameOf c).isPrefixOf t) h; exact this)⟩
theorem hit_none {N : List Nat} {d : Nat} {t : List Nat} (h : hitOf N t = none) (hd : d ∈ N) : ¬ nameOf d <+: t := fun q => by
  have := List.find?_eq_none.mp h d hd
  exact this (List.isPrefixOf_iff_prefix.mpr q)
theorem hit_of {N : List Nat} (hN : ∀ c ∈ N, Held c) {d : Nat} {t : List Nat} (hd : d ∈ N) (h : nameOf d <+: t) : hitOf N t = some d := by
  cases e : hitOf N t with
  | none => exact absurd h (hit_none e hd)
  | some d' =>
    obtain ⟨h1, h2⟩ := hit_mem e
    rw [name_unique (hN d' h1).1 (hN d hd).1 h2 h]
theorem hit_same {N N' : List Nat} (hN : ∀ c ∈ N, Held c) (hs : ∀ c, c ∈ N ↔ c ∈ N') (t : List Nat) : hitOf N t = hitOf N' t := by
  have hN' : ∀ c ∈ N', Held c := fun c hc => hN c ((hs c).mpr hc)
  cases e : hitOf N t with
  | some d =>
    obtain ⟨h1, h2⟩ := hit_mem e
    exact (hit_of hN' ((hs d).mp h1) h2).symm
  | none =>
    cases e' : hitOf N' t with
    | none => rfl
    | some d =>
      obtain ⟨h1, h2⟩ := hit_mem e'
      exact absurd h2 (hit_none e ((hs d).mpr h1))
theorem rd_same {N N' : List Nat} (hN : ∀ c ∈ N, Held c) (hs : ∀ c, c ∈ N ↔ c ∈ N') : ∀ (k : Nat) (t : List Nat), rdK N k t = rdK N' k t
  | k, [] => by cases k <;> rfl
  | k + 1, c :: t => by rw [rdK, rdK, rd_same hN hs k t]
  | 0, c :: t => by
    rw [rdK, rdK, hit_same hN hs t, rd_same hN hs 0 t]
    by_cases e : c = 38
    · rw [if_pos e, if_pos e]
      cases hitOf N' t with
      | none => rfl
      | some d => dsimp only; rw [rd_same hN hs _ t]
    · rw [if_neg e, if_neg e]
theorem rd_prefix {N : List Nat} (hN : ∀ c ∈ N, Held c) : ∀ (n t : List Nat), (∀ x ∈ n, Good x) → (n <+: rdK N 0 t ↔ n <+: t)
  | [], t, _ => by simp
  | y :: n, [], _ => by simp [rdK]
  | y :: n, x :: t, hn => by
    have hy := hn y (.head _)
    by_cases e : x = 38
    · subst e
      have h1 : ¬ (y :: n <+: 38 :: t) := fun ⟨r, q⟩ => hy.1 (by injection q)
      have h2 : ¬ (y :: n <+: rdK N 0 (38 :: t)) := by
        cases h : hitOf N t with
        | none =>
          rw [rd_none h]
          exact fun ⟨r, q⟩ => hy.1 (by injection q)
        | some d =>
          rw [rd_some h]
          rintro ⟨r, q⟩
          injection q with q _
          exact (hN d (hit_mem h).1).notGood hy q
      exact ⟨fun q => absurd q h2, fun q => absurd q h1⟩
    · rw [rd_ne t e, List.cons_prefix_cons, List.cons_prefix_cons, rd_prefix hN n t fun x hx => hn x (.tail _ hx)]
theorem rd_pre {N : List Nat} : ∀ (u t : List Nat), (∀ x ∈ u, x ≠ 38) → rdK N 0 (u ++ t) = u ++ rdK N 0 t
  | [], t, _ => rfl
  | c :: u, t, h => by
    rw [List.cons_append, rd_ne _ (h c (.head _)), rd_pre u t fun x hx => h x (.tail _ hx)]
    rfl
theorem drop_of_prefix {n t : List Nat} (h : n <+: t) : t = n ++ t.drop n.length := by
  obtain ⟨r, rfl⟩ := h
  simp
/-- one name more -/
theorem rd_step {N : List Nat} {c : Nat} (hN : ∀ d ∈ N, Held d) (hc : Held c) : ∀ (m : Nat) (t : List Nat), t.length ≤ m → subK (38 :: nameOf c) [c] 0 (rdK N 0 t) = rdK (N ++ [c]) 0 t
  | 0, [], _ => rfl
  | 0, _ :: _, h => by simp at h
  | m + 1, [], _ => rfl
  | m + 1, x :: t, hm => by
    simp only [List.length_cons] at hm
    have hg := name_good hc.1
    by_cases e : x = 38
    · subst e
      cases h : hitOf N t with
      | some d =>
        have hd := hit_mem h
        have h' : hitOf (N ++ [c]) t = some d := by
          unfold hitOf at h ⊢
          rw [List.find?_append, h]; rfl
        rw [rd_some h, rd_some h', subK_ne _ (hN d hd.1).ne38, rd_step hN hc m _ (by rw [List.length_drop]; omega)]
      | none =>
        rw [rd_none h, subK_amp]
        by_cases hp : nameOf c <+: t
        · have h' : hitOf (N ++ [c]) t = some c := by
            unfold hitOf at h ⊢
            rw [List.find?_append, h]
            simp [List.isPrefixOf_iff_prefix.mpr hp]
          have hp' := (rd_prefix hN (nameOf c) t hg).mpr hp
          rw [if_pos (List.isPrefixOf_iff_prefix.mpr hp'), rd_some h']
          have e1 : rdK N 0 t = nameOf c ++ rdK N 0 (t.drop (nameOf c).length) := by
            have := rd_pre (N := N) (nameOf c) (t.drop (nameOf c).length) fun x hx => (hg x hx).1
            rw [← drop_of_prefix hp] at this
            exact this
          rw [e1, List.drop_left, rd_step hN hc m _ (by rw [List.length_drop]; omega)]
          rfl
        · have h' : hitOf (N ++ [c]) t = none := by
            unfold hitOf at h ⊢
            rw [List.find?_append, h]
            have : (nameOf c).isPrefixOf t = false := by
              rw [Bool.eq_false_iff]
              exact fun q => hp (List.isPrefixOf_iff_prefix.mp q)
            simp [this]
          rw [if_neg (fun q => hp ((rd_prefix hN (nameOf c) t hg).mp (List.isPrefixOf_iff_prefix.mp q))), rd_none h', rd_step hN hc m t (by omega)]
    · rw [rd_ne t e, rd_ne t e, subK_ne _ e, rd_step hN hc m t (by omega)]
theorem rd_nil : ∀ (t : List Nat), rdK [] 0 t = t
  | [] => rfl
  | c :: t => by
    by_cases e : c = 38
    · subst e; rw [rd_none rfl, rd_nil t]
    · rw [rd_ne t e, rd_nil t]
theorem names_pass : ∀ (T N : List Nat) (t : List Nat), (∀ d ∈ N, Held d) → (∀ d ∈ T, Held d) → repl (T.map fun c => (38 :: nameOf c, [c])) (rdK N 0 t) = rdK (N ++ T) 0 t
  | [], N, t, _, _ => by rw [List.append_nil]; rfl
  | c :: T, N, t, hN, hT => by
    show repl (T.map _) (subK (38 :: nameOf c) [c] 0 (rdK N 0 t)) = _
    have hN' : ∀ d ∈ N ++ [c], Held d := fun d hd => (List.mem_append.mp hd).elim (hN d) fun q => by rw [List.mem_singleton.mp q]; exact hT c (.head _)
    rw [rd_step hN (hT c (.head _)) _ t (Nat.le_refl _), names_pass T (N ++ [c]) t hN' fun d hd => hT d (.tail _ hd), List.append_assoc]
    rfl
theorem names_read {T : List Nat} (hT : ∀ d ∈ T, Held d) (t : List Nat) : repl (T.map fun c => (38 :: nameOf c, [c])) t = rdK T 0 t := by
  have := names_pass T [] t (fun d hd => nomatch hd) hT
  rw [rd_nil] at this
  exact this

/-! ### what is read -/
def aOf (x : Nat) : List Nat := if x = 38 then amp5 else [x]
theorem hit_cons_none {N : List Nat} (hN : ∀ c ∈ N, Held c) {x : Nat} {t : List Nat} (hx : x = 97 ∨ x = 38) : hitOf N (x :: t) = none := by
  cases h : hitOf N (x :: t) with
  | none => rfl
  | some d =>
    obtain ⟨h1, h2⟩ := hit_mem h
    obtain ⟨y, r, e, h97, h38⟩ := name_head (hN d h1)
    rw [e] at h2
    obtain ⟨q, e'⟩ := h2
    injection e' with e' _
    rcases hx with hx | hx
    · exact absurd (e'.trans hx) h97
    · exact absurd (e'.trans hx) h38
theorem rd_amp5 {N : List Nat} (hN : ∀ c ∈ N, Held c) (t : List Nat) : rdK N 0 (amp5 ++ t) = amp5 ++ rdK N 0 t := by
  simp only [amp5, List.cons_append, List.nil_append]
  rw [rd_none (hit_cons_none hN (.inl rfl)), rd_ne _ (by decide), rd_ne _ (by decide), rd_ne _ (by decide), rd_ne _ (by decide)]
theorem rd_name {N : List Nat} (hN : ∀ c ∈ N, Held c) {c : Nat} (hc : c ∈ N) (t : List Nat) : rdK N 0 (38 :: nameOf c ++ t) = c :: rdK N 0 t := by
  have hp : nameOf c <+: nameOf c ++ t := ⟨t, rfl⟩
  rw [List.cons_append, rd_some (hit_of hN hc hp), List.drop_left]
theorem rd_one {N : List Nat} (hN : ∀ c ∈ N, Held c) : ∀ (l : List Nat), rdK N 0 (l.flatMap (wrOf N amp5 [38])) = l.flatMap aOf
  | [] => rfl
  | x :: l => by
    rw [List.flatMap_cons, List.flatMap_cons]
    unfold wrOf aOf
    by_cases e : x = 38
    · rw [if_pos e, if_pos e, rd_amp5 hN]
      exact congrArg _ (rd_one hN l)
    · rw [if_neg e, if_neg e]
      by_cases hm : x ∈ N
      · rw [if_pos hm]
        show rdK N 0 (38 :: nameOf x ++ _) = _
        rw [rd_name hN hm]
        exact congrArg (x :: ·) (rd_one hN l)
      · rw [if_neg hm]
        show rdK N 0 (x :: _) = _
        rw [rd_ne _ e]
        exact congrArg (x :: ·) (rd_one hN l)
theorem rd_two {N : List Nat} (hN : ∀ c ∈ N, Held c) : ∀ (l : List Nat), rdK N 0 (l.flatMap (wrOf N amp5 amp5)) = l.flatMap (wrOf N amp5 amp5)
  | [] => rfl
  | x :: l => by
    rw [List.flatMap_cons]
    have ih := rd_two hN l
    generalize hr : l.flatMap (wrOf N amp5 amp5) = r at ih
    unfold wrOf
    by_cases e : x = 38
    · rw [if_pos e, rd_amp5 hN, ih]
    · rw [if_neg e]
      by_cases hm : x ∈ N
      · rw [if_pos hm, List.append_assoc, rd_amp5 hN, rd_pre _ _ fun y hy => (name_good (hN x hm).1 y hy).1, ih]
      · rw [if_neg hm]
        show rdK N 0 (x :: r) = x :: r
        rw [rd_ne _ e, ih]
theorem wr_prefix {N : List Nat} (hN : ∀ c ∈ N, Held c) : ∀ (n t : List Nat), (∀ x ∈ n, Good x) → (n <+: t.flatMap (wrOf N [38] [38]) ↔ n <+: t)
  | [], t, _ => by simp
  | y :: n, [], _ => by simp
  | y :: n, x :: t, hn => by
    have hy := hn y (.head _)
    have ih := wr_prefix hN n t fun x hx => hn x (.tail _ hx)
    rw [List.flatMap_cons]
    generalize t.flatMap (wrOf N [38] [38]) = r at ih
    unfold wrOf
    by_cases e : x = 38
    · rw [if_pos e]
      have h1 : ¬ (y :: n <+: x :: t) := fun ⟨r, q⟩ => hy.1 (by injection q with q _; exact q.trans e)
      have h2 : ¬ (y :: n <+: [38] ++ r) := fun ⟨r, q⟩ => hy.1 (by injection q)
      exact ⟨fun q => absurd q h2, fun q => absurd q h1⟩
    · rw [if_neg e]
      by_cases hm : x ∈ N
      · rw [if_pos hm]
        have h1 : ¬ (y :: n <+: x :: t) := fun ⟨r, q⟩ => (hN x hm).notGood hy (by injection q)
        have h2 : ¬ (y :: n <+: [38] ++ nameOf x ++ r) := fun ⟨r, q⟩ => hy.1 (by injection q)
        exact ⟨fun q => absurd q h2, fun q => absurd q h1⟩
      · rw [if_neg hm]
        show (y :: n <+: x :: r) ↔ _
        rw [List.cons_prefix_cons, List.cons_prefix_cons, ih]
theorem wr_pre {N : List Nat} {n : List Nat} (hN : ∀ c ∈ N, Held c) (hn : ∀ x ∈ n, Good x) : n.flatMap (wrOf N [38] [38]) = n := flatMap_id fun x hx => by
  unfold wrOf
  rw [if_neg (hn x hx).1, if_neg fun hm => (hN x hm).2 (hn x hx).2]
theorem rd_three {N : List Nat} (hN : ∀ c ∈ N, Held c) : ∀ (m : Nat) (l : List Nat), l.length ≤ m → rdK N 0 (l.flatMap (wrOf N [38] [38])) = rdK N 0 l
  | 0, [], _ => rfl
  | 0, _ :: _, h => by simp at h
  | m + 1, [], _ => rfl
  | m + 1, x :: l, hm' => by
    simp only [List.length_cons] at hm'
    rw [List.flatMap_cons]
    by_cases e : x = 38
    · subst e
      show rdK N 0 (38 :: l.flatMap (wrOf N [38] [38])) = _
      have hh : hitOf N (l.flatMap (wrOf N [38] [38])) = hitOf N l := by
        cases h : hitOf N l with
        | some d => exact hit_of hN (hit_mem h).1 ((wr_prefix hN (nameOf d) l (name_good (hN d (hit_mem h).1).1)).mpr (hit_mem h).2)
        | none =>
          cases h' : hitOf N (l.flatMap (wrOf N [38] [38])) with
          | none => rfl
          | some d => exact absurd ((wr_prefix hN (nameOf d) l (name_good (hN d (hit_mem h').1).1)).mp (hit_mem h').2) (hit_none h (hit_mem h').1)
      cases h : hitOf N l with
      | none => rw [rd_none h, rd_none (hh.trans h), rd_three hN m l (by omega)]
      | some d =>
        have hd := hit_mem h
        rw [rd_some h, rd_some (hh.trans h)]
        have e1 : l.flatMap (wrOf N [38] [38]) = nameOf d ++ (l.drop (nameOf d).length).flatMap (wrOf N [38] [38]) := by
          have := congrArg (List.flatMap (wrOf N [38] [38])) (drop_of_prefix hd.2)
          rw [List.flatMap_append, wr_pre hN (name_good (hN d hd.1).1)] at this
          exact this
        rw [e1, List.drop_left, rd_three hN m _ (by rw [List.length_drop]; omega)]
    · rw [rd_ne l e]
      by_cases hm : x ∈ N
      · rw [show wrOf N [38] [38] x = 38 :: nameOf x by unfold wrOf; rw [if_neg e, if_pos hm]; rfl, rd_name hN hm, rd_three hN m l (by omega)]
      · rw [show wrOf N [38] [38] x = [x] by unfold wrOf; rw [if_neg e, if_neg hm]]
        show rdK N 0 (x :: l.flatMap (wrOf N [38] [38])) = _
        rw [rd_ne _ e, rd_three hN m l (by omega)]

/-! ### the ampersand's own writing -/
theorem sub_amp5 (t : List Nat) : subK amp5 [38] 0 (amp5 ++ t) = 38 :: subK amp5 [38] 0 t := by
  show subK (38 :: [97, 109, 112, 59]) [38] 0 (38 :: ([97, 109, 112, 59] ++ t)) = _
  rw [subK_amp, if_pos (List.isPrefixOf_iff_prefix.mpr ⟨t, rfl⟩)]
  rfl
theorem sub_name {c : Nat} (hc : Held c) (t : List Nat) : subK amp5 [38] 0 (38 :: nameOf c ++ t) = 38 :: nameOf c ++ subK amp5 [38] 0 t := by
  show subK (38 :: [97, 109, 112, 59]) [38] 0 (38 :: (nameOf c ++ t)) = _
  rw [subK_amp, if_neg, subK_pre _ _ fun y hy => (name_good hc.1 y hy).1]
  · rfl
  · intro q
    have q := List.isPrefixOf_iff_prefix.mp q
    obtain ⟨y, r, e, h97, _⟩ := name_head hc
    rw [e] at q
    obtain ⟨z, q⟩ := q
    injection q with q _
    exact h97 q.symm
theorem sub_a : ∀ (l : List Nat), subK amp5 [38] 0 (l.flatMap aOf) = l
  | [] => rfl
  | x :: l => by
    rw [List.flatMap_cons]
    unfold aOf
    by_cases e : x = 38
    · rw [if_pos e, sub_amp5]
      show 38 :: subK amp5 [38] 0 (l.flatMap aOf) = _
      rw [sub_a l, e]
    · rw [if_neg e]
      show subK (38 :: _) [38] 0 (x :: l.flatMap aOf) = _
      rw [subK_ne _ e]
      exact congrArg _ (sub_a l)
theorem sub_one {N : List Nat} (hN : ∀ c ∈ N, Held c) : ∀ (l : List Nat), subK amp5 [38] 0 (l.flatMap (wrOf N amp5 [38])) = l.flatMap (wrOf N [38] [38])
  | [] => rfl
  | x :: l => by
    have ih := sub_one hN l
    rw [List.flatMap_cons, List.flatMap_cons]
    generalize l.flatMap (wrOf N amp5 [38]) = r at ih
    generalize l.flatMap (wrOf N [38] [38]) = r' at ih
    unfold wrOf
    by_cases e : x = 38
    · rw [if_pos e, if_pos e, sub_amp5, ih]
      rfl
    · rw [if_neg e, if_neg e]
      by_cases hm : x ∈ N
      · simp only [if_pos hm]
        show subK amp5 [38] 0 (38 :: nameOf x ++ r) = _
        rw [sub_name (hN x hm), ih]
        rfl
      · simp only [if_neg hm]
        show subK (38 :: _) [38] 0 (x :: r) = _
        rw [subK_ne _ e]
        exact congrArg _ ih
theorem sub_two {N : List Nat} (hN : ∀ c ∈ N, Held c) : ∀ (l : List Nat), subK amp5 [38] 0 (l.flatMap (wrOf N amp5 amp5)) = l.flatMap (wrOf N [38] [38])
  | [] => rfl
  | x :: l => by
    have ih := sub_two hN l
    rw [List.flatMap_cons, List.flatMap_cons]
    generalize l.flatMap (wrOf N amp5 amp5) = r at ih
    generalize l.flatMap (wrOf N [38] [38]) = r' at ih
    unfold wrOf
    by_cases e : x = 38
    · rw [if_pos e, if_pos e, sub_amp5, ih]
      rfl
    · rw [if_neg e, if_neg e]
      by_cases hm : x ∈ N
      · simp only [if_pos hm]
        rw [List.append_assoc, sub_amp5]
        show 38 :: subK (38 :: _) [38] 0 (nameOf x ++ r) = _
        rw [subK_pre _ _ fun y hy => (name_good (hN x hm).1 y hy).1]
        show 38 :: (nameOf x ++ subK amp5 [38] 0 r) = _
        rw [ih]
        rfl
      · simp only [if_neg hm]
        show subK (38 :: _) [38] 0 (x :: r) = _
        rw [subK_ne _ e]
        exact congrArg _ ih
end Mine

namespace Mine
open PySem PySem.W PyProof.Rows PySem.Calls

/-! ## the plain law -/
theorem distinct_key : ∀ (l acc : List Nat), acc.Nodup → (l.foldl dstep acc).Nodup ∧ ∀ c, c ∈ l.foldl dstep acc ↔ c ∈ acc ∨ c ∈ l
  | [], acc, h => ⟨h, fun c => by simp⟩
  | x :: l, acc, h => by
    rw [List.foldl_cons]
    by_cases hx : x ∈ acc
    · have e : dstep acc x = acc := if_pos hx
      rw [e]
      have ih := distinct_key l acc h
      refine ⟨ih.1, fun c => ?_⟩
      rw [ih.2 c, List.mem_cons]
      constructor
      · rintro (q | q)
        · exact .inl q
        · exact .inr (.inr q)
      · rintro (q | rfl | q)
        · exact .inl q
        · exact .inl hx
        · exact .inr q
    · have e : dstep acc x = acc ++ [x] := if_neg hx
      rw [e]
      have ih := distinct_key l (acc ++ [x]) (by
        rw [List.nodup_append]
        refine ⟨h, by simp, ?_⟩
        intro a ha b hb q
        rw [List.mem_singleton.mp hb] at q
        exact hx (q ▸ ha))
      refine ⟨ih.1, fun c => ?_⟩
      rw [ih.2 c, List.mem_append, List.mem_singleton, List.mem_cons, or_assoc]
theorem distinct_nodup (l : List Nat) : (distinctOf l).Nodup := (distinct_key l [] (by simp)).1
theorem distinct_mem (l : List Nat) (c : Nat) : c ∈ distinctOf l ↔ c ∈ l := by
  have := (distinct_key l [] (by simp)).2 c
  unfold distinctOf
  simpa using this

theorem wr_congr {N N' : List Nat} {amp lead : List Nat} (h : ∀ c, c ∈ N ↔ c ∈ N') : wrOf N amp lead = wrOf N' amp lead := by
  funext c
  unfold wrOf
  by_cases e : c = 38
  · rw [if_pos e, if_pos e]
  · rw [if_neg e, if_neg e]
    by_cases hm : c ∈ N
    · rw [if_pos hm, if_pos ((h c).mp hm)]
    · rw [if_neg hm, if_neg fun q => hm ((h c).mpr q)]

section
variable {l signs : List Nat}
def SOf (signs : List Nat) : List Nat := signs.filter fun c => seenOf c != []
theorem S_held (hlt : ∀ c ∈ signs, c < 1114112) : ∀ c ∈ SOf signs, Held c := fun c hc => by
  obtain ⟨h1, h2⟩ := List.mem_filter.mp hc
  exact ⟨hlt c h1, by simpa using h2⟩
theorem pairs_S (hlt : ∀ c ∈ signs, c < 1114112) : pairsOf signs = (SOf signs).map fun c => ([c], 38 :: nameOf c) := by
  unfold pairsOf
  apply List.map_congr_left
  intro c hc
  have := (S_held hlt c hc).1
  unfold pairOf
  rw [name_seen this]
  simp
theorem rev_pairs {S : List Nat} : revP (S.map fun c => ([c], 38 :: nameOf c)) = S.reverse.map fun c => (38 :: nameOf c, [c]) := by
  unfold revP
  rw [List.map_map, List.map_reverse]
  rfl
theorem held_S (hlt : ∀ c ∈ signs, c < 1114112) : heldOf signs = SOf signs := by
  unfold heldOf SOf
  apply List.filter_congr
  intro c hc
  rw [mark_seen c (hlt c hc)]
theorem flat48 {f : Nat → List Nat} (hf : ∀ c, (f c).length ≤ 48) (hl : l.length ≤ 1188) : (l.flatMap f).length ≤ 57024 := by
  have := flat_len_le (B := 48) f l fun a _ => hf a
  omega
theorem g_len {S : List Nat} (hS : ∀ c ∈ S, Held c) (c : Nat) : (gOf S c).length ≤ 48 := by
  unfold gOf
  split
  · rename_i h
    have := name_len (hS c h).1
    simp only [List.length_cons]; omega
  · simp

theorem plain (hl : l.length ≤ 1188) (hlt : ∀ c ∈ l, c < 1114112) (hs : ∀ c, c ∈ signs ↔ c ∈ l) : Plain l signs := by
  have hlt1 : ∀ c ∈ signs, c < 1114112 := fun c hc => hlt c ((hs c).mp hc)
  have hlt2 : ∀ c ∈ distinctOf l, c < 1114112 := fun c hc => hlt c ((distinct_mem l c).mp hc)
  have hS := S_held hlt1
  have hD := S_held hlt2
  have hSD : ∀ c, c ∈ SOf signs ↔ c ∈ SOf (distinctOf l) := fun c => by
    unfold SOf
    rw [List.mem_filter, List.mem_filter, hs c, distinct_mem]
  have hR : ∀ c ∈ (SOf signs).reverse, Held c := fun c hc => hS c (List.mem_reverse.mp hc)
  have hRS : ∀ c, c ∈ (SOf signs).reverse ↔ c ∈ SOf signs := fun c => List.mem_reverse
  have eE : earlyOf signs = ampP :: (SOf signs).map fun c => ([c], 38 :: nameOf c) := by unfold earlyOf; rw [pairs_S hlt1]
  have eL : lateOf signs = ((SOf signs).map fun c => ([c], 38 :: nameOf c)) ++ [ampP] := by unfold lateOf; rw [pairs_S hlt1]
  have rE : revP (earlyOf signs) = ((SOf signs).reverse.map fun c => (38 :: nameOf c, [c])) ++ [(amp5, [38])] := by
    rw [eE, ← rev_pairs]
    unfold revP
    rw [List.map_cons, List.reverse_cons]
    rfl
  have rL : revP (lateOf signs) = (amp5, [38]) :: (SOf signs).reverse.map fun c => (38 :: nameOf c, [c]) := by
    rw [eL, ← rev_pairs]
    unfold revP
    rw [List.map_append, List.reverse_append]
    rfl
  have one : oneOf l signs = l.flatMap (wrOf (SOf signs) amp5 [38]) := by unfold oneOf; rw [eE, write_early hS]
  have two : twoOf l signs = l.flatMap (wrOf (SOf signs) amp5 amp5) := by unfold twoOf; rw [eL, write_late hS]
  have hS1 : ∀ c ∈ SOf signs, c < 1114112 := fun c hc => (hS c hc).1
  have n1 : (oneOf l signs).length ≤ 57024 := by rw [one]; exact flat48 (fun c => wr_len (by decide) (by decide) hS1 c) hl
  have n2 : (twoOf l signs).length ≤ 57024 := by rw [two]; exact flat48 (fun c => wr_len (by decide) (by decide) hS1 c) hl
  have rd : ∀ t, repl ((SOf signs).reverse.map fun c => (38 :: nameOf c, [c])) t = rdK (SOf signs) 0 t := fun t => by
    rw [names_read hR, rd_same hR hRS]
  have rde : ∀ t, repl (revP (earlyOf signs)) t = subK amp5 [38] 0 (rdK (SOf signs) 0 t) := fun t => by rw [rE, repl_append, rd]; rfl
  have rdl : ∀ t, repl (revP (lateOf signs)) t = rdK (SOf signs) 0 (subK amp5 [38] 0 t) := fun t => by rw [rL]; exact rd _
  have less : ∀ p ∈ ((SOf signs).reverse.map fun c => (38 :: nameOf c, [c])), p.1 ≠ [] ∧ p.2.length ≤ 50 ∧ p.2.length ≤ p.1.length := by
    intro p hp
    obtain ⟨c, _, rfl⟩ := List.mem_map.mp hp
    exact ⟨by simp, by simp, by simp⟩
  have less2 : (amp5, [38]).1 ≠ [] ∧ (amp5, ([38] : List Nat)).2.length ≤ 50 ∧ (amp5, ([38] : List Nat)).2.length ≤ (amp5, ([38] : List Nat)).1.length := by decide
  have okE : ∀ t : List Nat, t.length ≤ 57024 → ReplOk (revP (earlyOf signs)) t := fun t ht => by
    rw [rE]
    refine replOk_less (fun p hp => ?_) (by omega)
    rcases List.mem_append.mp hp with hp | hp
    · exact less p hp
    · rw [List.mem_singleton.mp hp]; exact less2
  have okL : ∀ t : List Nat, t.length ≤ 57024 → ReplOk (revP (lateOf signs)) t := fun t ht => by
    rw [rL]
    refine replOk_less (fun p hp => ?_) (by omega)
    rcases List.mem_cons.mp hp with rfl | hp
    · exact less2
    · exact less p hp
  have hp1 : ∀ p ∈ ((SOf signs).map fun c => (([c], 38 :: nameOf c) : List Nat × List Nat)), p.1 ≠ [] ∧ p.2.length ≤ 50 := by
    intro p hp
    obtain ⟨c, hc, rfl⟩ := List.mem_map.mp hp
    have := name_len (hS1 c hc)
    exact ⟨by simp, by simp only [List.length_cons]; omega⟩
  have hp2 : ampP.1 ≠ [] ∧ ampP.2.length ≤ 50 := by decide
  have hTk : ∀ k, ∀ c ∈ (SOf signs).take k, Held c := fun k c hc => hS c (List.mem_of_mem_take hc)
  have nw : ∀ k, (repl (((SOf signs).map fun c => (([c], 38 :: nameOf c) : List Nat × List Nat)).take k) l).length ≤ 57024 := fun k => by
    rw [← List.map_take, write_pairs (hTk k)]
    exact flat48 (fun c => g_len (hTk k) c) hl
  have hheld : heldOf (distinctOf l) = SOf (distinctOf l) := held_S hlt2
  have wc : ∀ amp lead : List Nat, wrOf (SOf signs) amp lead = wrOf (SOf (distinctOf l)) amp lead := fun amp lead => wr_congr hSD
  have rc : ∀ t, rdK (SOf signs) 0 t = rdK (SOf (distinctOf l)) 0 t := fun t => rd_same hS hSD 0 t
  refine ⟨⟨?_, ?_, okE _ n1, okL _ n1, okE _ n2, okL _ n2⟩, ?_⟩
  · rw [eE]
    refine replOk_of (fun p hp => ?_) fun k => ?_
    · rcases List.mem_cons.mp hp with rfl | hp
      · exact hp2
      · exact hp1 p hp
    · cases k with
      | zero => show l.length ≤ _; omega
      | succ k =>
        rw [List.take_succ_cons, ← List.map_take, write_early (hTk k)]
        have := flat48 (l := l) (f := wrOf ((SOf signs).take k) amp5 [38]) (fun c => wr_len (by decide) (by decide) (fun c hc => (hTk k c hc).1) c) hl
        omega
  · rw [eL]
    refine replOk_of (fun p hp => ?_) fun k => ?_
    · rcases List.mem_append.mp hp with hp | hp
      · exact hp1 p hp
      · rw [List.mem_singleton.mp hp]; exact hp2
    · rcases Nat.lt_or_ge (SOf signs).length k with h | h
      · rw [List.take_of_length_le (by simp; omega), write_late hS]
        have := flat48 (l := l) (f := wrOf (SOf signs) amp5 amp5) (fun c => wr_len (by decide) (by decide) hS1 c) hl
        omega
      · rw [List.take_append_of_le_length (by simpa using h)]
        have := nw k
        omega
  · unfold doneOf toldOf
    rw [rde, rdl, rde, rdl, one, two, rd_one hS, sub_a, sub_one hS, rd_three hS _ l (Nat.le_refl _), rd_two hS, sub_two hS, rd_three hS _ l (Nat.le_refl _), hheld, wc, wc, wc, rc]

theorem drawn_lt (xs : List Int) : ∀ c ∈ drawnOf xs, c < 1114112 := by
  intro c hc
  obtain ⟨x, _, hc⟩ := List.mem_flatMap.mp hc
  unfold pieceOf at hc
  obtain ⟨k, _, hc⟩ := List.mem_flatMap.mp hc
  generalize hs : signOf ((x % 3416260608).toNat % 2224128) = s at hc
  have hs1 : s < 1114112 := hs ▸ signOf_lt _
  generalize (x % 3416260608).toNat / 2224128 / (3 * 8 ^ k) % 8 = j at hc
  have hn : ∀ y ∈ nameOf s, y < 1114112 := fun y hy => by
    rw [name_seen hs1] at hy
    rcases List.mem_append.mp hy with hy | hy
    · rcases List.mem_append.mp hy with hy | hy
      · exact (show ∀ y ∈ letters, y < 1114112 by decide) y (seen_letters hy)
      · have := dig_range hy; omega
    · rw [List.mem_singleton.mp hy]; decide
  rw [List.getD_eq_getElem?_getD] at hc
  cases e : (itemL s)[j]? with
  | none => rw [e] at hc; cases hc
  | some u =>
    rw [e] at hc
    have hu := List.mem_of_getElem? e
    simp only [Option.getD_some] at hc
    simp only [itemL, List.mem_cons, List.not_mem_nil, or_false] at hu
    rcases hu with rfl | rfl | rfl | rfl | rfl | rfl | rfl | rfl
    · rw [List.mem_singleton.mp hc]; exact hs1
    · rcases List.mem_append.mp hc with hc | hc
      · rw [List.mem_singleton.mp hc]; decide
      · exact hn c hc
    · rw [List.mem_singleton.mp hc]; decide
    · exact hn c hc
    · exact (show ∀ y ∈ ([97, 109, 112, 59] : List Nat), y < 1114112 by decide) c hc
    · exact (show ∀ y ∈ ([38, 97, 109, 112, 59] : List Nat), y < 1114112 by decide) c hc
    · rw [List.mem_singleton.mp hc]; decide
    · rcases List.mem_append.mp hc with hc | hc
      · rcases List.mem_append.mp hc with hc | hc
        · rw [List.mem_singleton.mp hc]; decide
        · rw [List.mem_singleton.mp hc]; exact hs1
      · rw [List.mem_singleton.mp hc]; exact hs1
theorem plainA (xs : List Int) : Plain (drawnOf xs) (distinctOf (drawnOf xs)) := plain (drawn_len xs) (drawn_lt xs) (distinct_mem _)
theorem plainB (xs : List Int) : Plain (drawnOf xs) (distinctOf (drawnOf xs)).reverse := plain (drawn_len xs) (drawn_lt xs) fun c => by rw [List.mem_reverse, distinct_mem]
end
section
variable {w : World} {A : Around} {mg mb : Str → Option Value} {h h' : Heap} {env : Env}
/-- the law's def, called: it says True -/
theorem law_true (G : Gl w mg mb h) (hroom : A.depth + 100 < recursionLimit) (hh : A.handled = none) (hu : A.units + 300 < cLine) {f S : Addr} {xs : List Int} {vs : List Value} (hS : h.IsList S vs.toArray) (hvs : Ints vs xs) (hlen : vs.length ≤ 10000000)
    (hf : mg "law" = some (.ref f)) : Cl w A h (.ref f) [.ref S] (IsB true) :=
  law G hroom hh hu hS hvs hlen (drawn_lt xs) (distinct_nodup _) (fun c hc => (distinct_mem _ c).mp hc) (plainA xs) (plainB xs) hf
end
end Mine

namespace Mine
open PySem PySem.W PyProof.Rows PySem.Calls
section
variable {w : World} {A : Around} {E : Value → Shared → Prop} {s : Shared}
abbrev emptySet (led : Bool) : Obj := { cls := .type "set", dict := none, data := .set #[] 0 (.fresh 0 0 led) }

set_option maxHeartbeats 3200000 in
/-- set(range(a, b)) -/
theorem call_set_range {r : Addr} {a b : Int} {t u v : Tok} {n : Nat} {Q : Value → Shared → Prop} (hh : A.handled = none) (hr : IsRange s.heap r a b 1 t u v) (hsmall : Builtin.Range.small a b 1 = true) (hn : Builtin.Range.rangeSize a b 1 = n) (hb : n + 1 < scanBound)
    (h : ∀ (h' : Heap) (tk : Nat), h'.SetOf (intKind pw w) s.heap.objs.size (fun k' => (firstMet (fun i => a + (i : Int)) n).any (· == k')) (firstMet (fun i => a + (i : Int)) n).length →
      (∀ b o, b < s.heap.objs.size → s.heap.get? b = some o → h'.get? b = some o) → Q (.ref s.heap.objs.size) { s with heap := h', toks := tk }) :
    wpAny (model pw w) A (call (.type "set") [.ref r]) Q E s := by
  obtain ⟨c, tl, hmro⟩ := F.called_set.mro
  have hmade := F.called_set.made
  have hsub := F.called_set.sub
  refine wpAny_call (codeAny_of_tree ?_)
  show wpAny _ _ (callAny (.type "set") _) _ _ _
  refine wpAny_pure ⟨Code.quiet_builtin _ (by decide +kernel), codeAny_builtin F.entry_type_call ?_⟩
  rw [Around.under_plain (weight_type_call_type "set" [.ref r] []) rfl]
  have h1 := F.called_set.notType
  have h2 := F.called_set.canCreate
  have hct := F.typeCall_set_1 (.ref r)
  repeat (any_goals (first | assumption | wp_step))
  refine codeAny_mono (code_set_new_1 (.ref r) (E := E) (Q₁ := fun obj s₁ => ∃ led : Bool, obj = .ref s.heap.objs.size ∧ s₁ = { s with heap := s.heap.push (emptySet led) }) fun led => ⟨led, rfl, rfl⟩) fun r' s₁ hr' => ?_
  cases r' with
  | error e => exact hr'
  | ok fl =>
    cases fl with
    | ret obj =>
      obtain ⟨led, rfl, rfl⟩ := hr'
      have hS : (s.heap.push (emptySet led)).get? s.heap.objs.size = some (emptySet led) := Heap.get?_push_size _ rfl
      have hT : Shared.TypeIs { s with heap := s.heap.push (emptySet led) } (.ref s.heap.objs.size) "set" := ⟨_, hS, rfl⟩
      have hli := F.called_set.init.lookup
      have hbi := F.called_set.init.bind (.ref s.heap.objs.size)
      repeat (any_goals (first | assumption | wp_step))
      refine codeAny_mono (codeAny_call_builtin (R := wants (fun r s₂ => r = .none ∧ ∃ h' tk, s₂ = { s with heap := h', toks := tk } ∧
          h'.SetOf (intKind pw w) s.heap.objs.size (fun k' => (firstMet (fun i => a + (i : Int)) n).any (· == k')) (firstMet (fun i => a + (i : Int)) n).length ∧
          (∀ b o, b < s.heap.objs.size → s.heap.get? b = some o → h'.get? b = some o)) E) F.called_set.init.plain F.entry_set_init (check_set_init_1 hT ?_)) fun r₂ s₂ hr₂ => ?_
      · have hol' : (s.heap.push (emptySet led)).get? r = some { cls := .type "range", dict := none, data := .fields #[.int a t, .int b u, .int 1 v], slots := #[] } := Heap.get?_push_of_some _ hr
        have hsls := F.sub_range_set
        have hslf := F.sub_range_frozenset
        have hne : (Value.type "range" == Value.type "dict") = false := by decide
        unfold Builtin.«set.__init__» noKeywords Builtin.Frozenset.updateFrom
        generalize hPI : pyIter = PI
        wp_walk
        subst hPI
        refine wpAny_pyIter_range (a := a) (b := b) (c := 1) hol' hsmall ?_
        refine wpAny_bind (wpAny_runValue ?_)
        have hh3 : A.in1.in1.in1.handled = none := by simp [hh]
        have hSf : s.heap.objs.size ∉ [(s.heap.push (emptySet led)).objs.size] := by
          rw [Heap.size_push]; simp only [List.mem_singleton]
          exact Nat.ne_of_lt (Nat.lt_succ_self _)
        have W := Walks.range (prog := pw) (w := w) (A := A.in1.in1.in1) hh3 (s.heap.push (emptySet led)).objs.size a 1 n
        refine codeAny_set_update_loopS W.toS s.heap.objs.size hSf (fun i => a + (i : Int)) (fun i v hv => by simpa using hv) hb (n - 0) 0 _ (by omega) (Nat.zero_le _) ?hSt ?hS0 ?hR
        case hSt =>
          have := Heap.get?_push_size (s.heap.push (emptySet led)) (o := { cls := .type "range_iterator", data := .fields #[rawInt a, rawInt (Builtin.Range.rangeSize a b 1), rawInt 1] }) rfl
          rw [hn] at this ⊢
          simpa using this
        case hS0 =>
          have hget : ((s.heap.push (emptySet led)).push { cls := .type "range_iterator", data := .fields #[rawInt a, rawInt (Builtin.Range.rangeSize a b 1), rawInt 1] }).get? s.heap.objs.size = some (emptySet led) := Heap.get?_push_of_some _ hS
          exact SetOf_congr ((setObjOf_fresh (knd := intKind pw w) led).setOf hget (by unfold scanBound; omega)) (fun _ => rfl) rfl
        case hR =>
          intro s' hm hS'
          obtain ⟨h', g', d', tk', os'⟩ := s'
          have eg : g' = s.gens := hm.gens
          have ed : d' = s.drawn := hm.drawn
          have eo : os' = s.os := hm.os
          subst eg; subst ed; subst eo
          show wpAny _ _ _ _ _ _
          refine wpAny_pure ?_
          show wpAny _ _ (ret Value.none) _ _ _
          refine wpAny_pure ⟨rfl, h', tk', rfl, hS', fun b o hb e => ?_⟩
          have hb1 : b ≠ s.heap.objs.size := Nat.ne_of_lt hb
          have hb2 : b ≠ (s.heap.push (emptySet led)).objs.size := by
            rw [Heap.size_push]; exact Nat.ne_of_lt (Nat.lt_succ_of_lt hb)
          exact hm.heap b o (by simp only [List.mem_cons, List.mem_singleton, List.not_mem_nil, or_false, not_or]; exact ⟨hb1, hb2⟩) (Heap.get?_push_of_some _ (Heap.get?_push_of_some _ e))
      · cases r₂ with
        | error e => exact hr₂
        | ok fl₂ =>
          cases fl₂ with
          | ret r =>
            obtain ⟨rfl, h', tk, rfl, hS', hk'⟩ := hr₂
            repeat (any_goals (first | assumption | wp_step))
            exact h _ _ hS' hk'
          | next => exact hr₂.elim
          | brk => exact hr₂.elim
          | cont => exact hr₂.elim
    | next => exact hr'.elim
    | brk => exact hr'.elim
    | cont => exact hr'.elim
end
end Mine

namespace Mine
open PySem PySem.W PyProof.Rows PySem.Calls

/-! ## the top -/
structure Tp (s₀ : Shared) (mb : Str → Option Value) (c Pl : Addr) (mg : Str → Option Value) (ps : Array Value) (l : List (Addr × Obj)) (s : Shared) : Prop where
  same : ∃ h t, s = { s₀ with heap := h, toks := t }
  main : s.heap.Main mg c Pl ps
  keep : ∀ b o, b ≠ mainGlobals → s₀.heap.get? b = some o → s.heap.get? b = some o
  new : s₀.heap.objs.size ≤ Pl ∧ s₀.heap.objs.size ≤ c
  b : s₀.heap.Ns builtinsNs mb
  bi : ∀ x : Str, x ≠ "__name__" → mb x = bootBuiltins x
  led : ∀ p ∈ l, s.heap.get? p.1 = some p.2 ∧ p.1 ≠ Pl ∧ p.1 ≠ mainGlobals

def FnL (l : List (Addr × Obj)) (d : DefItem) (f : Addr) : Prop :=
  ∃ c' o oc pm, (f, o) ∈ l ∧ o.data = .func (docDef d.name d.params d.body d.scope pm (.ref c') .none) ∧ (c', oc) ∈ l ∧ ∀ h : Heap, h.get? c' = some oc → h.CodeRec (.ref c') d.name
theorem FnL.at {l : List (Addr × Obj)} {d : DefItem} {f : Addr} {h : Heap} (x : FnL l d f) (hl : ∀ p ∈ l, h.get? p.1 = some p.2) : FnAt h d f :=
  let ⟨c', o, oc, pm, h1, h2, h3, h4⟩ := x; ⟨c', o, pm, .none, hl _ h1, h2, h4 h (hl _ h3)⟩
theorem FnL.mono {l l' : List (Addr × Obj)} {d : DefItem} {f : Addr} (x : FnL l d f) (hl : ∀ p ∈ l, p ∈ l') : FnL l' d f :=
  let ⟨c', o, oc, pm, h1, h2, h3, h4⟩ := x; ⟨c', o, oc, pm, hl _ h1, h2, hl _ h3, h4⟩
def SetL (w : World) (l : List (Addr × Obj)) (L : List Int) (a : Addr) : Prop := ∃ o n, (a, o) ∈ l ∧ ∀ h : Heap, h.get? a = some o → h.SetOf (intKind pw w) a (fun k => decide (k ∈ L)) n
theorem SetL.mono {w : World} {l l' : List (Addr × Obj)} {L : List Int} {a : Addr} (x : SetL w l L a) (hl : ∀ p ∈ l, p ∈ l') : SetL w l' L a := let ⟨o, n, h1, h2⟩ := x; ⟨o, n, hl _ h1, h2⟩

/-- the lines at which the code's own table has entries -/
def PsOk (ps : Array Value) (L : List Nat) : Prop := ∃ q : List (Pos × Addr), ps.toList = triples q ∧ ∀ p ∈ q, p.1.line ∈ L
theorem PsOk.none {ps : Array Value} {L : List Nat} (x : PsOk ps L) {pos : Pos} (h : pos.line ∉ L) : codeAmong pos ps.toList = none := by
  obtain ⟨q, e, hq⟩ := x
  rw [e]
  exact codeAmong_triples pos q fun p hp e => h (e.1 ▸ hq p hp)
theorem PsOk.snoc {ps : Array Value} {L : List Nat} (x : PsOk ps L) (pos : Pos) (c' : Addr) : PsOk (ps ++ #[rawInt pos.line, rawInt pos.col, .ref c']) (pos.line :: L) := by
  obtain ⟨q, e, hq⟩ := x
  refine ⟨q ++ [(pos, c')], ?_, fun p hp => ?_⟩
  · rw [Array.toList_append, e]
    exact (triples_append q pos c').symm
  · rcases List.mem_append.mp hp with hp | hp
    · exact .tail _ (hq p hp)
    · rw [List.mem_singleton.mp hp]; exact .head _
section
variable {w : World} {A : Around} {E : Value → Shared → Prop} {s₀ s : Shared} {mb mg : Str → Option Value} {c Pl F : Addr} {ps : Array Value} {l : List (Addr × Obj)}
theorem Tp.keeps {s' : Shared} (x : Tp s₀ mb c Pl mg ps l s) (k : Keeps s s') : Tp s₀ mb c Pl mg ps l s' := by
  obtain ⟨h, t, rfl, kk⟩ := id k
  obtain ⟨h0, t0, e⟩ := x.same
  refine ⟨⟨h, t, by rw [e]⟩, ?_, fun b o hb q => kk b o (x.keep b o hb q), x.new, x.b, x.bi, fun p hp => ⟨kk _ _ (x.led p hp).1, (x.led p hp).2⟩⟩
  obtain ⟨bm, ob, h1, h2, h3, h4, h5, h6⟩ := x.main.bmod
  exact ⟨x.main.g.keeps kk, x.main.code.keeps kk, x.main.low, bm, ob, h1, h2, h3, h4, kk _ _ h5, h6⟩
theorem Tp.add {s' : Shared} {l' : List (Addr × Obj)} (x : Tp s₀ mb c Pl mg ps l s) (k : Keeps s s') (n : New s s' l') : Tp s₀ mb c Pl mg ps (l' ++ l) s' := by
  have y := x.keeps k
  refine ⟨y.same, y.main, y.keep, y.new, y.b, y.bi, fun p hp => ?_⟩
  rcases List.mem_append.mp hp with q | q
  · obtain ⟨h1, h2⟩ := n p q
    refine ⟨h2, fun e => ?_, fun e => ?_⟩
    · obtain ⟨o, vs, file, tf, flags, tg, inF, text, tt, op, a, r1, r2, r3, r4, r5, r6, b, r⟩ := x.main.code
      rw [e, b] at h1; cases h1
    · obtain ⟨o, es, ep, ho, _⟩ := x.main.g
      rw [e, ho] at h1; cases h1
  · exact y.led p q
theorem Tp.weak {l' : List (Addr × Obj)} (x : Tp s₀ mb c Pl mg ps l s) (hl : ∀ p ∈ l', p ∈ l) : Tp s₀ mb c Pl mg ps l' s := ⟨x.same, x.main, x.keep, x.new, x.b, x.bi, fun p hp => x.led p (hl p hp)⟩
theorem Tp.store {n : Str} {v : Value} {Q : Unit → Shared → Prop} (x : Tp s₀ mb c Pl mg ps l s) (k : ∀ s', Tp s₀ mb c Pl (upd mg n v) ps l s' → Q () s')
    (hl : pw.main.scope.names.lookup n = some .local := by rfl) (hnb : n ≠ "__builtins__" := by decide) : wpAny (model pw w) A (storeName (mainEnv pw c F) n v) Q E s := by
  refine wpAny_storeName_local (env := mainEnv pw c F) hl x.main.g (fun h' hn hs => k _ ?_) (by rfl)
  obtain ⟨h0, t0, e⟩ := x.same
  obtain ⟨bm, ob, h1, h2, h3, h4, h5, h6⟩ := x.main.bmod
  refine ⟨⟨h', _, by rw [e]⟩, ⟨hn, x.main.code.sameBut hs (Nat.ne_of_gt x.main.low.1) (Nat.ne_of_gt x.main.low.2), x.main.low, bm, ob, ?_, h2, h3, h4, (hs.2 _ h3).trans h5, h6⟩, fun b o hb q => (hs.2 b hb).trans (x.keep b o hb q), x.new, x.b, x.bi, fun p hp => ⟨(hs.2 _ (x.led p hp).2.2).trans (x.led p hp).1, (x.led p hp).2⟩⟩
  exact (upd_ne (Ne.symm hnb)).trans h1
theorem Tp.assign {n : Str} {pos pos' : Pos} {value : Expr} {P : Value → Prop} {Q : Flow → Shared → Prop} (x : Tp s₀ mb c Pl mg ps l s) (he : Ev w A (mainEnv pw c F) s.heap value P)
    (k : ∀ v s', P v → Tp s₀ mb c Pl (upd mg n v) ps l s' → Q .next s') (hs : swapsWith value (some (.Name n pos')) pos.line (mainEnv pw c F) = pure false := by rfl)
    (hl : pw.main.scope.names.lookup n = some .local := by rfl) (hnb : n ≠ "__builtins__" := by decide) : Ex w A (mainEnv pw c F) (.Assign [.Name n pos'] value pos) Q E s := .mk <|
  wpAny_Assign_Name (he.run s _ E (Sub.refl _) fun v s₁ p k₁ => (x.keeps k₁).store (fun s₂ y => k v s₂ p y) hl hnb) hs
theorem Tp.assignN {n : Str} {pos pos' : Pos} {value : Expr} {P : Value → List (Addr × Obj) → Prop} {Q : Flow → Shared → Prop} (x : Tp s₀ mb c Pl mg ps l s) (he : EvN w A (mainEnv pw c F) s.heap value P)
    (k : ∀ v l' s', P v l' → Tp s₀ mb c Pl (upd mg n v) ps (l' ++ l) s' → Q .next s') (hs : swapsWith value (some (.Name n pos')) pos.line (mainEnv pw c F) = pure false := by rfl)
    (hl : pw.main.scope.names.lookup n = some .local := by rfl) (hnb : n ≠ "__builtins__" := by decide) : Ex w A (mainEnv pw c F) (.Assign [.Name n pos'] value pos) Q E s := .mk <|
  wpAny_Assign_Name (he.run s _ E (Sub.refl _) fun v l' s₁ p n₁ k₁ => (x.add k₁ n₁).store (fun s₂ y => k v l' s₂ p y) hl hnb) hs
theorem Tp.defn {name : Str} {params : Arguments} {body : List Stmt} {scope : Scope} {pos : Pos} {Q : Flow → Shared → Prop} {L : List Nat} (x : Tp s₀ mb c Pl mg ps l s) (hps : PsOk ps L)
    (k : ∀ f c' l' s', FnL l' ⟨name, params, body, scope, pos⟩ f → PsOk (ps ++ #[rawInt pos.line, rawInt pos.col, .ref c']) (pos.line :: L) → Tp s₀ mb c Pl (upd mg name (.ref f)) (ps ++ #[rawInt pos.line, rawInt pos.col, .ref c']) (l' ++ l) s' → Q .next s')
    (hexec : PlainDefTree name params body scope pos := by intro _; rfl) (hfree : (scope.names.all fun y => y.2 != .free) = true := by rfl) (hdoc : docOf body = none := by rfl)
    (hloc : pw.main.scope.names.lookup name = some .local := by rfl) (hq : qualnameIn { scope := pw.main.scope, locals := mainGlobals, globals := mainGlobals, cells := [] } name name = name := by rfl)
    (hnb : name ≠ "__builtins__" := by decide) (hnl : pos.line ∉ L := by decide) : Ex w A (mainEnv pw c F) (.FunctionDef name params body [] none [] scope none name pos) Q E s := by
  refine ⟨wpAny_plainDef hexec (fun y hy => by simpa using List.all_eq_true.mp hfree y hy) hdoc hloc hq x.main (fun a c' h' tk ha hm hf hc hk => ?_) hnb rfl (hps.none hnl)⟩
  obtain ⟨c₂, oc, vs, t, e, hoc, hd⟩ := id hc.2
  cases e
  obtain ⟨h0, t0, e⟩ := x.same
  have hlt := x.main.code.lt
  have hg := x.main.g.lt
  refine k a c' [(a, { cls := .type "function", data := .func (plainDef name params body scope ((mg "__name__").getD .none) (.ref c')) }), (c', oc)] _ ⟨c', _, oc, (mg "__name__").getD .none, .head _, rfl, .tail _ (.head _), fun h'' hh => ⟨c', oc, vs, t, rfl, hh, hd⟩⟩ (hps.snoc pos c')
    ⟨⟨h', tk, by rw [e]⟩, hm, fun b o hb q => ?_, x.new, x.b, x.bi, fun p hp => ?_⟩
  · exact hk b o (Nat.ne_of_lt (Nat.lt_of_lt_of_le (Heap.lt_size q) x.new.1)) hb (x.keep b o hb q)
  · simp only [List.cons_append, List.nil_append, List.mem_cons] at hp
    rcases hp with rfl | rfl | hp
    · exact ⟨hf, Nat.ne_of_gt (Nat.lt_of_lt_of_le hlt.2 ha), Nat.ne_of_gt (Nat.lt_of_lt_of_le hg ha)⟩
    · exact ⟨hoc, Nat.ne_of_gt (Nat.lt_of_lt_of_le hlt.2 hc.1), Nat.ne_of_gt (Nat.lt_of_lt_of_le hg hc.1)⟩
    · exact ⟨hk _ _ (x.led p hp).2.1 (x.led p hp).2.2 (x.led p hp).1, (x.led p hp).2⟩
end
end Mine

namespace Mine
open PySem PySem.W PyProof.Rows PySem.Calls
section
variable {w : World} {A : Around} {E : Value → Shared → Prop} {s₀ s : Shared} {mb mg : Str → Option Value} {c Pl F : Addr} {ps : Array Value} {l : List (Addr × Obj)} {env : Env} {h : Heap}
theorem Tp.blt {n : Str} {v : Value} {pos : Pos} (x : Tp s₀ mb c Pl mg ps l s) (hm : mg n = none) (hv : bootBuiltins n = some v) (hn : n ≠ "__name__" := by decide) (hd : (n == ("__debug__" : Str)) = false := by decide) :
    Ev w A (mainEnv pw c F) s.heap (.Name n pos) (IsV v) := .mk fun s' Q E hs k => by
  have x' := x.b.at fun o e => hs _ _ (x.keep _ _ (by decide) e)
  exact Name_module rfl rfl (loadGlobal_builtin (env := mainEnv pw c F) (x.main.g.keeps hs) hm x' ((x.bi n hn).trans hv) (k v s' rfl (kp_refl _))) hd
theorem ints_of : ∀ {vs : List Value} {L : List Int}, Ints vs L → IntsAre vs L
  | _, _, .nil => .nil
  | _, _, .cons ⟨t, e⟩ r => e ▸ .cons _ _ (ints_of r)
theorem ints_range {a : Int} {n : Nat} {acc : Array Value} (x : ItemsOf (fun i v => ∃ t, v = .int (a + i * 1) t) acc n) : Ints acc.toList (iFrom a n) := by
  have key : ∀ {vs : List Value} {L : List Int}, vs.length = L.length → (∀ (j : Nat) v i, vs[j]? = some v → L[j]? = some i → IsI i v) → Ints vs L := by
    intro vs
    induction vs with
    | nil => intro L e _; cases L with
      | nil => exact .nil
      | cons _ _ => simp at e
    | cons v vs ih => intro L e hp; cases L with
      | nil => simp at e
      | cons i L => exact .cons (hp 0 v i rfl rfl) (ih (by simpa using e) fun j v' i' a b => hp (j + 1) v' i' (by simpa using a) (by simpa using b))
  refine key (by unfold iFrom; simp [x.1]) fun j v i h1 h2 => ?_
  obtain ⟨t, rfl⟩ := x.2 j v (by simpa using h1)
  unfold iFrom at h2
  rw [List.getElem?_map] at h2
  obtain ⟨k, hk, rfl⟩ := Option.map_eq_some_iff.mp h2
  have : k = j := by
    have hj := (List.getElem?_eq_some_iff.mp hk).1
    rw [List.getElem?_range (by simpa using hj)] at hk
    exact (Option.some.inj hk).symm
  subst this
  exact ⟨t, by rw [Int.mul_one]⟩
theorem evRange2 {n : Str} {p pos : Pos} {ea eb : Expr} {a b : Int} (hr : Ev w A env h (.Name n p) (IsV (.type "range"))) (xa : Ev w A env h ea (IsI a)) (xb : Ev w A env h eb (IsI b))
    (he : eval (.Call (.Name n p) [ea, eb] [] pos) env = (do callWith pos (← eval (.Name n p) env) [] (backTo pos (starEach [ea, eb] env)) (backToKw pos (keywordEach [] env))) := by rfl)
    (hst : starEach [ea, eb] env = (false, eval ea env) :: starEach [eb] env := by rfl) (hst2 : starEach [eb] env = (false, eval eb env) :: starEach [] env := by rfl) :
    ∀ (s : Shared) (Q : Value → Shared → Prop) (E : Value → Shared → Prop), Sub h s.heap → (∀ r t u v s', IsRange s'.heap r a b 1 t u v → Keeps s s' → Q (.ref r) s') → wpAny (model pw w) A (eval (.Call (.Name n p) [ea, eb] [] pos) env) Q E s := by
  intro s Q E hs k
  rw [he]
  refine wpAny_bind (hr.run s _ E hs fun f s₁ e k₁ => ?_)
  obtain rfl : f = _ := e
  refine PyProof.Rows.callWith_type (by rw [hst, hst2]; rfl) ?_
  rw [hst]
  refine evalArgs_plain (spliced_cons (xa.run s₁ _ E (hs.trans (kp_sub k₁)) fun v₂ s₂ p₂ k₂ => ?_))
  rw [hst2]
  refine spliced_cons (xb.run s₂ _ E (hs.trans (kp_sub (kp_trans k₁ k₂))) fun v₃ s₃ p₃ k₃ => spliced_nil ?_)
  obtain ⟨t, rfl⟩ := p₂
  obtain ⟨u, rfl⟩ := p₃
  refine PySem.call_range_2 (k _ _ _ _ _ (IsRange.new _ _ _ _ _ _ _) (kp_trans (kp_trans k₁ (kp_trans k₂ k₃)) (kp_ht fun b o e => Heap.get?_push_of_some _ e)))
theorem evListRange {m n : Str} {p pos p' pos' : Pos} {ea eb : Expr} {a b : Int} {k : Nat} (hh : A.handled = none) (hl : Ev w A env h (.Name m p) (IsV (.type "list"))) (hr : Ev w A env h (.Name n p') (IsV (.type "range"))) (xa : Ev w A env h ea (IsI a)) (xb : Ev w A env h eb (IsI b))
    (hsmall : Builtin.Range.small a b 1 = true) (hn : Builtin.Range.rangeSize a b 1 = k) (hk : k ≤ 2 ^ 24)
    (he : eval (.Call (.Name m p) [.Call (.Name n p') [ea, eb] [] pos'] [] pos) env = (do callWith pos (← eval (.Name m p) env) [] (backTo pos (starEach [.Call (.Name n p') [ea, eb] [] pos'] env)) (backToKw pos (keywordEach [] env))) := by rfl)
    (hst : starEach [.Call (.Name n p') [ea, eb] [] pos'] env = (false, eval (.Call (.Name n p') [ea, eb] [] pos') env) :: starEach [] env := by rfl)
    (he' : eval (.Call (.Name n p') [ea, eb] [] pos') env = (do callWith pos' (← eval (.Name n p') env) [] (backTo pos' (starEach [ea, eb] env)) (backToKw pos' (keywordEach [] env))) := by rfl)
    (hst' : starEach [ea, eb] env = (false, eval ea env) :: starEach [eb] env := by rfl) (hst2 : starEach [eb] env = (false, eval eb env) :: starEach [] env := by rfl) :
    EvL w A env h (.Call (.Name m p) [.Call (.Name n p') [ea, eb] [] pos'] [] pos) (fun vs => Ints vs (iFrom a k)) := .mk fun s Q E hs K => by
  rw [he]
  refine wpAny_bind (hl.run s _ E hs fun f s₁ e k₁ => ?_)
  obtain rfl : f = _ := e
  refine PyProof.Rows.callWith_type (by rw [hst]; rfl) ?_
  rw [hst]
  refine evalArgs_plain (spliced_cons (evRange2 hr xa xb he' hst' hst2 s₁ _ E (hs.trans (kp_sub k₁)) fun r t u v s₂ hR k₂ => spliced_nil ?_))
  refine PySem.call_list_range hh hR hsmall hn hk fun h' tk acc' c' hkk hget hitems => ?_
  refine K _ acc'.toList _ (none_of_sub (kp_sub (kp_trans k₁ k₂)) (none_of_ge (Nat.le_refl _))) ⟨c', by simpa using hget⟩ (ints_range hitems) (kp_trans (kp_trans k₁ k₂) (kp_ht hkk))
theorem set_new {a : Addr} {L : List Int} {h' : Heap} {S : Int → Bool} {n : Nat} (hS : h'.SetOf (intKind pw w) a S n) (e : ∀ k, S k = decide (k ∈ L)) : ∃ o, h'.get? a = some o ∧ SetL w [(a, o)] L a := by
  obtain ⟨o, es, ep, t, ho, r⟩ := SetOf_congr hS e rfl
  exact ⟨o, ho, o, n, .head _, fun h hh => ⟨o, es, ep, t, hh, r⟩⟩
theorem evSetList {m : Str} {p pos : Pos} {e : Expr} {L : List Int} (hh : A.handled = none) (hm : Ev w A env h (.Name m p) (IsV (.type "set"))) (y : EvP w A env h e (fun vs => Ints vs L)) (hb : L.length + 1 < scanBound)
    (he : eval (.Call (.Name m p) [e] [] pos) env = (do callWith pos (← eval (.Name m p) env) [] (backTo pos (starEach [e] env)) (backToKw pos (keywordEach [] env))) := by rfl)
    (hst : starEach [e] env = (false, eval e env) :: starEach [] env := by rfl) : EvN w A env h (.Call (.Name m p) [e] [] pos) (fun v l => ∃ a, v = .ref a ∧ SetL w l L a) := .mk fun s Q E hs K => by
  rw [he]
  refine wpAny_bind (hm.run s _ E hs fun f s₁ e k₁ => ?_)
  obtain rfl : f = _ := e
  refine PyProof.Rows.callWith_type (by rw [hst]; rfl) ?_
  rw [hst]
  refine evalArgs_plain (spliced_cons (y.run s₁ _ E (hs.trans (kp_sub k₁)) fun a vs s₂ hpl hv k₂ => spliced_nil ?_))
  have hvl := hv.length
  refine PySem.call_set_list hh hpl.isList (ns := L) (by simpa using ints_of hv) (by rw [List.size_toArray]; omega) fun h' tk hS hk => ?_
  obtain ⟨o, ho, hL⟩ := set_new (L := L) hS fun k => by
    rw [firstMet_any, List.size_toArray, hvl, Bool.eq_iff_iff, decide_eq_true_iff, List.any_eq_true]
    constructor
    · rintro ⟨i, hi, hik⟩
      obtain ⟨j, hj, rfl⟩ := List.mem_map.mp hi
      have hj := List.mem_range.mp hj
      rw [← eq_of_beq hik, List.getD_eq_getElem?_getD, List.getElem?_eq_getElem hj]
      exact List.getElem_mem hj
    · intro hk
      obtain ⟨j, hj, e⟩ := List.getElem_of_mem hk
      exact ⟨k, List.mem_map.mpr ⟨j, List.mem_range.mpr hj, by rw [List.getD_eq_getElem?_getD, List.getElem?_eq_getElem hj]; exact e⟩, by simp⟩
  have k' := kp_trans k₁ k₂
  refine K _ [(s₂.heap.objs.size, o)] _ ⟨_, rfl, hL⟩ (fun q hq => ?_) (kp_trans k' (kp_ht fun b o e => hk b o (Heap.lt_size e) e))
  rw [List.mem_singleton.mp hq]
  exact ⟨none_of_sub (kp_sub k') (none_of_ge (Nat.le_refl _)), ho⟩
theorem evSetRange {m n : Str} {p pos p' pos' : Pos} {ea eb : Expr} {a b : Int} {k : Nat} (hh : A.handled = none) (hm : Ev w A env h (.Name m p) (IsV (.type "set"))) (hr : Ev w A env h (.Name n p') (IsV (.type "range"))) (xa : Ev w A env h ea (IsI a)) (xb : Ev w A env h eb (IsI b))
    (hsmall : Builtin.Range.small a b 1 = true) (hn : Builtin.Range.rangeSize a b 1 = k) (hk : k + 1 < scanBound)
    (he : eval (.Call (.Name m p) [.Call (.Name n p') [ea, eb] [] pos'] [] pos) env = (do callWith pos (← eval (.Name m p) env) [] (backTo pos (starEach [.Call (.Name n p') [ea, eb] [] pos'] env)) (backToKw pos (keywordEach [] env))) := by rfl)
    (hst : starEach [.Call (.Name n p') [ea, eb] [] pos'] env = (false, eval (.Call (.Name n p') [ea, eb] [] pos') env) :: starEach [] env := by rfl)
    (he' : eval (.Call (.Name n p') [ea, eb] [] pos') env = (do callWith pos' (← eval (.Name n p') env) [] (backTo pos' (starEach [ea, eb] env)) (backToKw pos' (keywordEach [] env))) := by rfl)
    (hst' : starEach [ea, eb] env = (false, eval ea env) :: starEach [eb] env := by rfl) (hst2 : starEach [eb] env = (false, eval eb env) :: starEach [] env := by rfl) :
    EvN w A env h (.Call (.Name m p) [.Call (.Name n p') [ea, eb] [] pos'] [] pos) (fun v l => ∃ r, v = .ref r ∧ SetL w l (iFrom a k) r) := .mk fun s Q E hs K => by
  rw [he]
  refine wpAny_bind (hm.run s _ E hs fun f s₁ e k₁ => ?_)
  obtain rfl : f = _ := e
  refine PyProof.Rows.callWith_type (by rw [hst]; rfl) ?_
  rw [hst]
  refine evalArgs_plain (spliced_cons (evRange2 hr xa xb he' hst' hst2 s₁ _ E (hs.trans (kp_sub k₁)) fun r t u v s₂ hR k₂ => spliced_nil ?_))
  refine call_set_range hh hR hsmall hn hk fun h' tk hS hkk => ?_
  obtain ⟨o, ho, hL⟩ := set_new (L := iFrom a k) hS fun x => by
    rw [firstMet_any, Bool.eq_iff_iff, decide_eq_true_iff, List.any_eq_true]
    constructor
    · rintro ⟨i, hi, hik⟩
      rw [← eq_of_beq hik]
      exact hi
    · intro hx
      exact ⟨x, hx, by simp⟩
  have k' := kp_trans k₁ k₂
  refine K _ [(s₂.heap.objs.size, o)] _ ⟨_, rfl, hL⟩ (fun q hq => ?_) (kp_trans k' (kp_ht fun b o e => hkk b o (Heap.lt_size e) e))
  rw [List.mem_singleton.mp hq]
  exact ⟨none_of_sub (kp_sub k') (none_of_ge (Nat.le_refl _)), ho⟩
end
end Mine

namespace Mine
open PySem PySem.W PyProof.Rows PySem.Calls
def topNames : List Str := ["__name__", "replace", "b1_set", "in_table_b1", "in_table_c11", "in_table_c4", "c6_set", "in_table_c6", "c7_set", "in_table_c7", "c8_set", "in_table_c8", "c9_set", "in_table_c9", "_law_runs", "_law_mark", "_law_sign", "_law_piece", "_law_distinct", "_law_seen", "_law_done", "_law_read", "_law_written", "_law_told", "law"]
/-- what the top's names hold -/
structure Made (w : World) (mg₀ mg : Str → Option Value) (l : List (Addr × Obj)) : Prop where
  fn : ∀ i d, itemAt i = some d → ∃ f, mg d.name = some (.ref f) ∧ FnL l d f
  set : ∀ p ∈ setNames, ∃ a, mg p.1 = some (.ref a) ∧ SetL w l p.2 a
  rest : ∀ x, x ∉ topNames → mg x = mg₀ x
section
variable {w : World} {A : Around} {E : Value → Shared → Prop} {s₀ s : Shared} {mb mg : Str → Option Value} {c Pl F : Addr}
theorem ints_all : ∀ {is : List Int} {vs : List Value}, All2 (is.map IsI) vs → Ints vs is
  | [], _, .nil => .nil
  | i :: is, _, .cons q r => .cons q (ints_all r)
theorem mem2 {α : Type} {l₁ l₂ : List α} {p : α} (h : p ∈ l₁ ∨ p ∈ l₂) : p ∈ l₁ ++ l₂ := List.mem_append.mpr h
set_option maxHeartbeats 4000000 in
theorem top_body (x : Tp s₀ mb c Pl mg #[] [] s) (hh : A.handled = none) (h1 : mg "set" = none) (h2 : mg "list" = none) (h3 : mg "range" = none) :
    Exs w A (mainEnv pw c F) pw.main.body (fun f s' => f = .next ∧ ∃ mg' ps l, Made w mg mg' l ∧ Tp s₀ mb c Pl mg' ps l s') E s := by
  have hps : PsOk (#[] : Array Value) [] := ⟨[], rfl, fun _ h => nomatch h⟩
  have bs : bootBuiltins "set" = some (.type "set") := by decide +kernel
  have bl : bootBuiltins "list" = some (.type "list") := by decide +kernel
  have br : bootBuiltins "range" = some (.type "range") := by decide +kernel
  refine Exs.cons (x.assign (P := fun _ => True) (Ev.str.mono fun _ _ => trivial) fun v0 s0 _ x => ?_)
  refine Exs.cons (x.defn hps fun f1 c1 l1 s1 q1 hps x => ?_)
  refine Exs.cons (x.assign (P := fun _ => True) (Ev.str.mono fun _ _ => trivial) fun v2 s2 _ x => ?_)
  refine Exs.cons (x.assignN (P := fun v l => ∃ a, v = .ref a ∧ SetL w l b1L a) (evSetList hh (x.blt (n := "set") h1 bs) (EvL.p (EvL.mono (EvL.add (EvL.list (EvS.cons Ev.int (EvS.cons Ev.int (EvS.cons Ev.int (EvS.cons Ev.int (EvS.cons Ev.int (EvS.cons Ev.int (EvS.cons Ev.int (EvS.cons Ev.int (EvS.cons Ev.int (EvS.cons Ev.int (EvS.cons Ev.int EvS.nil))))))))))) (by rw [sl]; show 11 ≤ 16777216; decide)).p (evListRange (k := 16) hh (x.blt (n := "list") h2 bl) (x.blt (n := "range") h3 br) Ev.int Ev.int (by decide) (by decide) (by decide)).p ?_) ?_)) (by decide)) ?_)
  · intro u v hu hv
    have e1 := hu.length
    have e2 := hv.length
    simp [iFrom] at e1 e2
    rw [sl]; omega
  · rintro us ⟨u, v, hu, hv, rfl⟩
    exact paired_append (ints_all hu) hv
  rintro v3 l3 s3 ⟨a3, rfl, q3⟩ x
  refine Exs.cons (x.defn hps fun f4 c4 l4 s4 q4 hps x => ?_)
  refine Exs.cons (x.defn hps fun f5 c5 l5 s5 q5 hps x => ?_)
  refine Exs.cons (x.defn hps fun f6 c6 l6 s6 q6 hps x => ?_)
  refine Exs.cons (x.assignN (P := fun v l => ∃ a, v = .ref a ∧ SetL w l c6L a) (evSetRange (k := 5) hh (x.blt (n := "set") h1 bs) (x.blt (n := "range") h3 br) Ev.int Ev.int (by decide) (by decide) (by decide)) ?_)
  rintro v7 l7 s7 ⟨a7, rfl, q7⟩ x
  refine Exs.cons (x.defn hps fun f8 c8 l8 s8 q8 hps x => ?_)
  refine Exs.cons (x.assignN (P := fun v l => ∃ a, v = .ref a ∧ SetL w l c7L a) (evSetRange (k := 12) hh (x.blt (n := "set") h1 bs) (x.blt (n := "range") h3 br) Ev.int Ev.int (by decide) (by decide) (by decide)) ?_)
  rintro v9 l9 s9 ⟨a9, rfl, q9⟩ x
  refine Exs.cons (x.defn hps fun f10 c10 l10 s10 q10 hps x => ?_)
  refine Exs.cons (x.assignN (P := fun v l => ∃ a, v = .ref a ∧ SetL w l c8L a) (evSetList hh (x.blt (n := "set") h1 bs) (EvL.p (EvL.mono (EvL.add (EvL.add (EvL.list (EvS.cons Ev.int (EvS.cons Ev.int (EvS.cons Ev.int (EvS.cons Ev.int EvS.nil)))) (by rw [sl]; show 4 ≤ 16777216; decide)).p (evListRange (k := 5) hh (x.blt (n := "list") h2 bl) (x.blt (n := "range") h3 br) Ev.int Ev.int (by decide) (by decide) (by decide)).p ?_).p (evListRange (k := 6) hh (x.blt (n := "list") h2 bl) (x.blt (n := "range") h3 br) Ev.int Ev.int (by decide) (by decide) (by decide)).p ?_) ?_)) (by decide)) ?_)
  · intro u v hu hv
    have e1 := hu.length
    have e2 := hv.length
    simp [iFrom] at e1 e2
    rw [sl]; omega
  · rintro u v ⟨u1, u2, hu, hv1, rfl⟩ hv
    have e1 := hu.length
    have e2 := hv.length
    have e3 := hv1.length
    simp [iFrom] at e1 e2 e3
    rw [sl, List.length_append]; omega
  · rintro us ⟨u, v, ⟨u1, u2, hu, hv1, rfl⟩, hv, rfl⟩
    exact paired_append (paired_append (ints_all hu) hv1) hv
  rintro v11 l11 s11 ⟨a11, rfl, q11⟩ x
  refine Exs.cons (x.defn hps fun f12 c12 l12 s12 q12 hps x => ?_)
  refine Exs.cons (x.assignN (P := fun v l => ∃ a, v = .ref a ∧ SetL w l c9L a) (evSetList hh (x.blt (n := "set") h1 bs) (EvL.p (EvL.mono (EvL.add (EvL.list (EvS.cons Ev.int EvS.nil) (by rw [sl]; show 1 ≤ 16777216; decide)).p (evListRange (k := 96) hh (x.blt (n := "list") h2 bl) (x.blt (n := "range") h3 br) Ev.int Ev.int (by decide) (by decide) (by decide)).p ?_) ?_)) (by decide)) ?_)
  · intro u v hu hv
    have e1 := hu.length
    have e2 := hv.length
    simp [iFrom] at e1 e2
    rw [sl]; omega
  · rintro us ⟨u, v, hu, hv, rfl⟩
    exact paired_append (ints_all hu) hv
  rintro v13 l13 s13 ⟨a13, rfl, q13⟩ x
  refine Exs.cons (x.defn hps fun f14 c14 l14 s14 q14 hps x => ?_)
  refine Exs.cons (x.assign (P := fun _ => True) (Ev.str.mono fun _ _ => trivial) fun v15 s15 _ x => ?_)
  refine Exs.cons (x.defn hps fun f16 c16 l16 s16 q16 hps x => ?_)
  refine Exs.cons (x.defn hps fun f17 c17 l17 s17 q17 hps x => ?_)
  refine Exs.cons (x.defn hps fun f18 c18 l18 s18 q18 hps x => ?_)
  refine Exs.cons (x.defn hps fun f19 c19 l19 s19 q19 hps x => ?_)
  refine Exs.cons (x.defn hps fun f20 c20 l20 s20 q20 hps x => ?_)
  refine Exs.cons (x.defn hps fun f21 c21 l21 s21 q21 hps x => ?_)
  refine Exs.cons (x.defn hps fun f22 c22 l22 s22 q22 hps x => ?_)
  refine Exs.cons (x.defn hps fun f23 c23 l23 s23 q23 hps x => ?_)
  refine Exs.cons (x.defn hps fun f24 c24 l24 s24 q24 hps x => ?_)
  refine Exs.cons (x.defn hps fun f25 c25 l25 s25 q25 hps x => ?_)
  refine Exs.cons (x.defn hps fun f26 c26 l26 s26 q26 hps x => ?_)
  refine Exs.nil ⟨rfl, _, _, _, ⟨?_, ?_, ?_⟩, x⟩
  · intro i d hi
    match i, hi with
    | 0, hi => exact absurd (show (none : Option DefItem) = some d from hi) (by simp)
    | 1, hi => obtain rfl : _ = d := Option.some.inj hi; exact ⟨f1, rfl, q1.mono (fun p hp => by simp only [List.mem_append, hp, true_or, or_true])⟩
    | 2, hi => exact absurd (show (none : Option DefItem) = some d from hi) (by simp)
    | 3, hi => exact absurd (show (none : Option DefItem) = some d from hi) (by simp)
    | 4, hi => obtain rfl : _ = d := Option.some.inj hi; exact ⟨f4, rfl, q4.mono (fun p hp => by simp only [List.mem_append, hp, true_or, or_true])⟩
    | 5, hi => obtain rfl : _ = d := Option.some.inj hi; exact ⟨f5, rfl, q5.mono (fun p hp => by simp only [List.mem_append, hp, true_or, or_true])⟩
    | 6, hi => obtain rfl : _ = d := Option.some.inj hi; exact ⟨f6, rfl, q6.mono (fun p hp => by simp only [List.mem_append, hp, true_or, or_true])⟩
    | 7, hi => exact absurd (show (none : Option DefItem) = some d from hi) (by simp)
    | 8, hi => obtain rfl : _ = d := Option.some.inj hi; exact ⟨f8, rfl, q8.mono (fun p hp => by simp only [List.mem_append, hp, true_or, or_true])⟩
    | 9, hi => exact absurd (show (none : Option DefItem) = some d from hi) (by simp)
    | 10, hi => obtain rfl : _ = d := Option.some.inj hi; exact ⟨f10, rfl, q10.mono (fun p hp => by simp only [List.mem_append, hp, true_or, or_true])⟩
    | 11, hi => exact absurd (show (none : Option DefItem) = some d from hi) (by simp)
    | 12, hi => obtain rfl : _ = d := Option.some.inj hi; exact ⟨f12, rfl, q12.mono (fun p hp => by simp only [List.mem_append, hp, true_or, or_true])⟩
    | 13, hi => exact absurd (show (none : Option DefItem) = some d from hi) (by simp)
    | 14, hi => obtain rfl : _ = d := Option.some.inj hi; exact ⟨f14, rfl, q14.mono (fun p hp => by simp only [List.mem_append, hp, true_or, or_true])⟩
    | 15, hi => exact absurd (show (none : Option DefItem) = some d from hi) (by simp)
    | 16, hi => obtain rfl : _ = d := Option.some.inj hi; exact ⟨f16, rfl, q16.mono (fun p hp => by simp only [List.mem_append, hp, true_or, or_true])⟩
    | 17, hi => obtain rfl : _ = d := Option.some.inj hi; exact ⟨f17, rfl, q17.mono (fun p hp => by simp only [List.mem_append, hp, true_or, or_true])⟩
    | 18, hi => obtain rfl : _ = d := Option.some.inj hi; exact ⟨f18, rfl, q18.mono (fun p hp => by simp only [List.mem_append, hp, true_or, or_true])⟩
    | 19, hi => obtain rfl : _ = d := Option.some.inj hi; exact ⟨f19, rfl, q19.mono (fun p hp => by simp only [List.mem_append, hp, true_or, or_true])⟩
    | 20, hi => obtain rfl : _ = d := Option.some.inj hi; exact ⟨f20, rfl, q20.mono (fun p hp => by simp only [List.mem_append, hp, true_or, or_true])⟩
    | 21, hi => obtain rfl : _ = d := Option.some.inj hi; exact ⟨f21, rfl, q21.mono (fun p hp => by simp only [List.mem_append, hp, true_or, or_true])⟩
    | 22, hi => obtain rfl : _ = d := Option.some.inj hi; exact ⟨f22, rfl, q22.mono (fun p hp => by simp only [List.mem_append, hp, true_or, or_true])⟩
    | 23, hi => obtain rfl : _ = d := Option.some.inj hi; exact ⟨f23, rfl, q23.mono (fun p hp => by simp only [List.mem_append, hp, true_or, or_true])⟩
    | 24, hi => obtain rfl : _ = d := Option.some.inj hi; exact ⟨f24, rfl, q24.mono (fun p hp => by simp only [List.mem_append, hp, true_or, or_true])⟩
    | 25, hi => obtain rfl : _ = d := Option.some.inj hi; exact ⟨f25, rfl, q25.mono (fun p hp => by simp only [List.mem_append, hp, true_or, or_true])⟩
    | 26, hi => obtain rfl : _ = d := Option.some.inj hi; exact ⟨f26, rfl, q26.mono (fun p hp => by simp only [List.mem_append, hp, true_or, or_true])⟩
    | n + 27, hi => exact absurd (show (none : Option DefItem) = some d from hi) (by simp)
  · intro p hp
    simp only [setNames, List.mem_cons, List.not_mem_nil, or_false] at hp
    rcases hp with rfl | rfl | rfl | rfl | rfl
    · exact ⟨a3, rfl, q3.mono (fun p hp => by simp only [List.mem_append, hp, true_or, or_true])⟩
    · exact ⟨a7, rfl, q7.mono (fun p hp => by simp only [List.mem_append, hp, true_or, or_true])⟩
    · exact ⟨a9, rfl, q9.mono (fun p hp => by simp only [List.mem_append, hp, true_or, or_true])⟩
    · exact ⟨a11, rfl, q11.mono (fun p hp => by simp only [List.mem_append, hp, true_or, or_true])⟩
    · exact ⟨a13, rfl, q13.mono (fun p hp => by simp only [List.mem_append, hp, true_or, or_true])⟩
  · intro y hy
    simp only [topNames, List.mem_cons, List.not_mem_nil, or_false, not_or] at hy
    simp only [upd, hy, if_false]
end
end Mine

namespace Mine
open PySem PySem.W PyProof.Rows PySem.Calls
theorem runN_halt_unique {den : Code → Sem Fin} {p : Program} {w : World} {n k : Nat} {s : Shared} {t : Thread} {o o' : Outcome} {s₁ s₂ : Shared} (h : runN den p w n s t = .halted o s₁) (h' : runN den p w k s t = .halted o' s₂) : o = o' := by
  have a := runN_mono den p w n k s t o s₁ h
  have b := runN_mono den p w k n s t o' s₂ h'
  rw [Nat.add_comm] at b
  rw [a] at b
  injection b
theorem thread_stands {p : Program} {w : World} {t : Sem Fin} {s : Shared} {P : Shared → Prop} (hz : s.asleep)
    (h : wpAny (model p w) callerA t (fun fin s' => ∃ f, fin = .done f ∧ P s' ∧ s'.gens = #[]) (fun _ _ => False) s) :
    ∃ m s₁ th, schedN (denote table) p w m (.single s ⟨t, .builtin "claim.caller" {}, default, []⟩) = .running (.single s₁ th) ∧ through th = true ∧ P s₁ ∧ s₁.gens = #[] ∧ s₁.heap.life = s.heap.life := by
  have hw := wp_of_wpAny_done (R := fun r s' => (∃ f, r = Except.ok f) ∧ leftWithCleanup s'.gens = false) caller_in (wpAny_mono h (fun fin s' ⟨f, e, q⟩ => ⟨f, e, ⟨f, rfl⟩, (Shared.noSusp_of_empty q.2).noCleanup⟩) fun _ _ q => q.elim) default
  obtain ⟨n, r, s', hn, hR⟩ := (wp_iff_halts (M := model p w) t (fun r _ => ∃ f, r = Except.ok f) default s).mp hw
  obtain ⟨n₂, s₂, hn₂, hfo₂, hcalm⟩ := (halts_real_iff s'.forget).mpr ⟨n, s', hn, rfl⟩
  have hw' : Sem.wp (model p w) (Ctx.of (.builtin "claim.caller" {}) []) t (fun fin _ s' => ∃ f, fin = .done f ∧ P s' ∧ s'.gens = #[]) (fun _ _ _ => False) default s := h _ default caller_in
  obtain ⟨m, s₃, σ, p', leaf, hm, hfo, hl⟩ := wp_reaches hw'
  rcases hl with ⟨a, rfl, f, rfl, hP, hg⟩ | ⟨e, _, q⟩
  · have e : σ = s₃ := Shared.eq_of_forget_eq' hfo (Shared.noSusp_of_empty hg)
    subst e
    refine ⟨m, σ, ⟨.pure (.done f), .builtin "claim.caller" {}, p', []⟩, ?_, rfl, hP, hg, runN_life_running hm⟩
    rcases schedN_single (denote table) p w m s ⟨t, .builtin "claim.caller" {}, default, []⟩ hz with q | ⟨k, s₄, t₄, q, hc⟩ | ⟨k, s₄, q⟩
    · rw [q]
      have hm' : runN (denote table) p w m s ⟨t, .builtin "claim.caller" {}, default, []⟩ = .running σ ⟨.pure (.done f), .builtin "claim.caller" {}, p', []⟩ := hm
      rw [hm']; rfl
    · rw [hcalm k s₄ t₄ q] at hc; cases hc
    · have := runN_halt_unique q hn₂
      cases r <;> cases this
  · exact q.elim
end Mine

namespace Mine
open PySem PySem.W PyProof.Rows PySem.Calls
theorem boot9 (w : World) : (∃ s, AfterImport (opening pw) w s) ∧ ∀ s, AfterImport (opening pw) w s → (∃ mb mg c Pl, BootLeft9 (opening pw) s.heap mb mg c Pl) ∧ s.gens = #[] :=
  AfterImport.of_body9 (out := #[]) (fun hp tk mb mg c Pl F hB => codeAny_body rfl rfl (wpAny_execs_nil ⟨⟨_, rfl⟩, .of hB.toBootLeft (fun _ _ _ _ e => e) hB.g, ⟨⟨mb, mg, c, Pl, hB⟩, rfl⟩, rfl⟩)) rfl
theorem fence (s : Shared) : fenceModules? pw s = some s := rfl
structure Stands (w : World) (s₀ s : Shared) (mb mg : Str → Option Value) : Prop where
  at' : ∃ c Pl mg' ps l, Made w mg mg' l ∧ Tp s₀ mb c Pl mg' ps l s
theorem top_wp {w : World} {s₀ : Shared} {mb mg : Str → Option Value} {c₀ P₀ : Addr} (B : BootLeft9 (opening pw) s₀.heap mb mg c₀ P₀) (hg : s₀.gens = #[]) :
    wpAny (model pw w) callerA (topStub pw).cur (fun fin s' => ∃ f, fin = .done f ∧ Stands w s₀ s' mb mg ∧ s'.gens = #[]) (fun _ _ => False) s₀ := by
  unfold topStub
  refine wpAny_bind (wpAny_moduleCode fun c P h' tk hk hc hP hcode => ?_)
  refine wpAny_bind ?_
  unfold newBodyFrame
  refine wpAny_bind (wpAny_nsGet (B.g.keeps hk) (wpAny_alloc ?_))
  refine wpAny_bind (wpAny_run (codeAny_body rfl rfl ?_))
  have hgl : mainGlobals < s₀.heap.objs.size := B.g.lt
  have x : Tp s₀ mb c P mg #[] [] { s₀ with heap := h'.push { cls := .type "frame", slots := #[some (.ref c), some (.ref mainGlobals), some (.ref mainGlobals), none, some ((mg "__name__").getD .none), none, some (.ref builtinsNs)] }, toks := tk } := by
    obtain ⟨bm, o, h1, h2, h3, h4, h5, h6⟩ := B.bmod
    have kk : ∀ b o, s₀.heap.get? b = some o → (h'.push { cls := .type "frame", slots := #[some (.ref c), some (.ref mainGlobals), some (.ref mainGlobals), none, some ((mg "__name__").getD .none), none, some (.ref builtinsNs)] }).get? b = some o := fun b o e => Heap.get?_push_of_some _ (hk b o e)
    exact ⟨⟨_, _, rfl⟩, ⟨B.g.keeps kk, hcode.push _, ⟨Nat.lt_of_lt_of_le hgl hc, Nat.lt_of_lt_of_le hgl hP⟩, bm, o, h1, h2, h3, Nat.ne_of_lt (Nat.lt_of_lt_of_le (Heap.lt_size h5) hP), kk _ _ h5, h6⟩, fun b o _ e => kk b o e, ⟨hP, hc⟩, B.b, B.builtins, fun p hp => nomatch hp⟩
  have := top_body (w := w) (A := (callerA.mark none).deeper (mainEnv pw c h'.objs.size)) (E := fun _ _ => False) (F := h'.objs.size) x rfl (B.others _ (by decide)) (B.others _ (by decide)) (B.others _ (by decide))
  refine wpAny_mono this.run (fun f s' q => ?_) fun _ _ q => q.elim
  obtain ⟨rfl, mg', ps, l, hm, y⟩ := q
  refine wpAny_pure ⟨_, rfl, ⟨c, P, mg', ps, l, hm, y⟩, ?_⟩
  obtain ⟨h, t, rfl⟩ := y.same
  exact hg
end Mine

namespace Mine
open PySem PySem.W PyProof.Rows PySem.Calls
theorem find_ns {es : Array DictEntry} {x : Str} : (es.find? (·.key.isStr x)).map (·.val) = nsFind es x := by
  unfold nsFind findBy
  first | rfl | simp
theorem global_ns {h : Heap} {m : Str → Option Value} (x : h.Ns mainGlobals m) (n : Str) : globalOf h n = m n := by
  obtain ⟨o, es, ep, ho, hd, _, hf⟩ := x
  unfold globalOf
  rw [show h.get? mainNs = some o from ho]
  dsimp only
  rw [hd]
  exact find_ns.trans (hf n)
theorem static_ns {h : Heap} {m : Str → Option Value} (x : h.Ns cStatics m) (n : Str) : staticOf h n = m n := by
  obtain ⟨o, es, ep, ho, hd, _, hf⟩ := x
  unfold staticOf
  rw [ho]
  dsimp only
  rw [hd]
  exact find_ns.trans (hf n)
theorem builtin_ns {h : Heap} {m : Str → Option Value} (x : h.Ns builtinsNs m) (n : Str) : builtinOf h n = m n := by
  obtain ⟨o, es, ep, ho, hd, _, hf⟩ := x
  unfold builtinOf
  rw [show h.get? builtinsNs = some o from ho]
  dsimp only
  rw [hd]
  exact find_ns.trans (hf n)

theorem top_ran {w : World} {s₀ : Shared} {mb mg : Str → Option Value} {c₀ P₀ : Addr} (B : BootLeft9 (opening pw) s₀.heap mb mg c₀ P₀) (hg : s₀.gens = #[]) (hz : s₀.asleep) :
    ∃ s₁, TopRan pw w s₀ s₁ ∧ Stands w s₀ s₁ mb mg ∧ s₁.gens = #[] ∧ s₁.heap.life = s₀.heap.life := by
  obtain ⟨m, s₁, th, hr, ht, hS, hg₁, hlife⟩ := thread_stands hz (top_wp (w := w) B hg)
  refine ⟨s₁, ?_, hS, hg₁, hlife⟩
  obtain ⟨c, Pl, mg', ps, l, hm, x⟩ := id hS.at'
  have hst : s₁.heap.Ns cStatics (fun _ => none) := B.statics.at fun o e => x.keep _ _ (by decide) e
  have hb : s₁.heap.Ns builtinsNs mb := B.b.at fun o e => x.keep _ _ (by decide) e
  have ge := global_ns x.main.g
  have ge0 := global_ns B.g
  have hos : s₁.os = s₀.os := by obtain ⟨h, t, e⟩ := x.same; rw [e]
  refine ⟨⟨m, th, hr, ht⟩, hlife, Shared.rest_eq hos, fun b o e hb => x.keep b o (fun q => hb (.inl q)) e, ?_, ?_, ?_, ?_, ?_, ?_, ?_, ?_⟩
  · intro key v hv
    rw [static_ns hst] at hv
    cases hv
  · intro key
    left
    rw [static_ns hst, static_ns B.statics]
  · obtain ⟨o, es, ep, ho, hd, hk, _⟩ := x.main.g
    exact ⟨o, es, ep, ho, hd, hk⟩
  · intro n hn
    rw [builtin_ns hb]
    exact B.builtins n hn
  · obtain ⟨bm, o, h1, h2, h3, h4, h5, h6, h7, h8⟩ := x.main.bmod
    exact ⟨bm, o, (ge _).trans h1, h5, h6, h7⟩
  · intro g hgm
    rw [hg₁] at hgm
    simp at hgm
  · intro n v hv
    rw [ge] at hv
    by_cases ht : n ∈ topNames
    · exact (show ∀ n ∈ topNames, n ∈ startupNames ∨ n ∈ pw.boundNames by decide +kernel) n ht
    · rw [hm.rest n ht] at hv
      by_cases hbn : n ∈ bootMainNames
      · exact .inl hbn
      · rw [B.others n hbn] at hv; cases hv
  · intro n hn
    rw [ge, ge0]
    exact hm.rest n ((show ∀ n ∈ laidNames, n ∉ topNames by decide +kernel) n hn)
theorem top_def {w : World} {s₀ s₁ : Shared} {mb mg : Str → Option Value} (hS : Stands w s₀ s₁ mb mg) : isTheDefsW pw s₁.heap "law" := by
  obtain ⟨c, Pl, mg', ps, l, hm, x⟩ := id hS.at'
  obtain ⟨f, hf, c', o, oc, pm, h1, h2, h3, h4⟩ := hm.fn 26 ⟨_, _, _, _, _⟩ rfl
  exact ⟨f, o, _, _, _, _, (global_ns x.main.g _).trans hf, (x.led _ h1).1, h2, rfl, rfl, rfl, rfl, rfl, rfl, rfl, rfl, rfl, .inl ⟨rfl, rfl⟩, [], rfl, .inl ⟨rfl, rfl⟩⟩
theorem top_gl {w : World} {s₀ s₁ : Shared} {mb mg : Str → Option Value} {c₀ P₀ : Addr} (B : BootLeft9 (opening pw) s₀.heap mb mg c₀ P₀) (hS : Stands w s₀ s₁ mb mg) : ∃ mg', Gl w mg' mb s₁.heap := by
  obtain ⟨c, Pl, mg', ps, l, hm, x⟩ := id hS.at'
  have hst : s₁.heap.Ns cStatics (fun _ => none) := B.statics.at fun o e => x.keep _ _ (by decide) e
  have hb : s₁.heap.Ns builtinsNs mb := B.b.at fun o e => x.keep _ _ (by decide) e
  have hl : ∀ p ∈ l, s₁.heap.get? p.1 = some p.2 := fun p hp => (x.led p hp).1
  refine ⟨mg', x.main.g, hb, B.builtins, ⟨_, hst, rfl⟩, fun i d hi => ?_, fun n hn => ?_, fun p hp => ?_⟩
  · obtain ⟨f, h1, h2⟩ := hm.fn i d hi
    exact ⟨f, h1, h2.at hl⟩
  · rw [hm.rest n ((show ∀ n ∈ freeNames, n ∉ topNames by decide +kernel) n hn)]
    exact B.others n ((show ∀ n ∈ freeNames, n ∉ bootMainNames by decide +kernel) n hn)
  · obtain ⟨a, h1, o, n, h2, h3⟩ := hm.set p hp
    exact ⟨a, n, h1, h3 _ (hl _ h2)⟩
end Mine

namespace Mine
open PySem PySem.W PyProof.Rows PySem.Calls
abbrev lw : OpenLaw := PySem.Challenge.rw_mq0055_01
theorem int_of {d : WData} (h : WShape.has [] d .int = true) : ∃ i, d = .int i := by
  cases d <;> simp [WShape.has, WShape.arms] at h
  exact ⟨_, rfl⟩
theorem ints_of_items : ∀ {xs : List WData}, WShape.hasItems [] xs .int = true → ∃ is : List Int, xs = is.map .int
  | [], _ => ⟨[], rfl⟩
  | d :: xs, h => by
    simp only [WShape.hasItems, Bool.and_eq_true] at h
    obtain ⟨i, rfl⟩ := int_of h.1
    obtain ⟨is, rfl⟩ := ints_of_items h.2
    exact ⟨i :: is, rfl⟩
theorem args_of {args : List WData} (h : WShape.hasAll [] args [.list .int] = true) : ∃ is : List Int, args = [.list (is.map .int)] := by
  cases args with
  | nil => simp [WShape.hasAll] at h
  | cons d r =>
    cases r with
    | cons e r => simp [WShape.hasAll] at h
    | nil =>
      simp only [WShape.hasAll, Bool.and_true] at h
      cases d <;> simp [WShape.has, WShape.arms] at h
      rename_i xs
      obtain ⟨is, rfl⟩ := ints_of_items h
      exact ⟨is, rfl⟩
theorem reads_ints {cl : Str → Option Addr} {h : Heap} : ∀ {is : List Int} {vs : List Value} {as : List Addr}, ReadsAllW [] cl h vs (is.map .int) as → Ints vs is ∧ as = []
  | [], _, _, .nil => ⟨.nil, rfl⟩
  | i :: is, _, _, .cons r1 r2 => by
    cases r1
    obtain ⟨h1, rfl⟩ := reads_ints r2
    exact ⟨.cons ⟨_, rfl⟩ h1, rfl⟩
theorem post_true (args ds : List WData) : lw.row.toRowW.claim.post args (.bool true) ds = true := by
  show (WShape.has [] (.bool true) .bool && WTm.holds [] (.eq .res (.lit (.bool true))) { args := args, res := some (.bool true), after := ds }) = true
  rw [Bool.and_eq_true]
  refine ⟨by decide +kernel, ?_⟩
  unfold WTm.holds
  simp only [WTm.value]
  rw [show same (WData.bool true) (WData.bool true) = true by decide +kernel]
theorem bare1 : lw.row.toRowW.claim.prog.bare := ⟨rfl, rfl, rfl, rfl, rfl, by decide +kernel⟩
theorem opens1 : opensWell lw.row.toRowW.claim.prog = true := by decide +kernel
theorem callFrom {w : World} {s₀ s₁ : Shared} {mb mg : Str → Option Value} {c₀ P₀ : Addr} {free : Addr → Prop} {gens : Prop} {kept : Heap → Prop} (B : BootLeft9 (opening pw) s₀.heap mb mg c₀ P₀) (hS : Stands w s₀ s₁ mb mg) (hz : s₁.asleep) (hg : s₁.gens = #[]) (hk : ∀ h, kept h) :
    lw.row.toRowW.claim.CallFrom (callStub "law") w free gens kept s₁ := by
  refine ClaimW.callFrom_of_specG hz hg fun args hpre hlay ord hord => ?_
  obtain ⟨mg', G⟩ := top_gl B hS
  have hsh := (pre_splitW hpre).1
  obtain ⟨⟨vs, s₂⟩, hlaid⟩ := Option.isSome_iff_exists.mp (layAllW_isSome (P := w.params) (ord := ord) (cl := classAt s₁.heap) (R := []) (fun c h => by cases h) args _ s₁ hsh)
  have keeps := layAllW_keeps _ _ _ hlaid
  have hal := layAllW_rest _ _ _ hlaid
  obtain ⟨as, hrd, hin, hold⟩ := reads_layAllW hord _ _ _ hlaid hlay s₂.heap (fun _ _ e => e)
  refine ⟨vs, s₂, hlaid, ?_⟩
  obtain ⟨is, rfl⟩ := args_of hsh
  have hlen : (is.map WData.int).length ≤ 1048576 := length_le_of_layableW (by
    have := hlay
    simp only [WData.layableAll, List.all_cons, List.all_nil, Bool.and_true] at this
    exact this)
  have G₂ := G.keeps keeps
  obtain ⟨f, hf, F⟩ := G₂.fn 26 ⟨_, _, _, _, _⟩ rfl
  cases hrd with
  | cons r1 r2 =>
    cases r2
    cases r1 with
    | list ho hc hd hr =>
      rename_i a o its n as'
      obtain ⟨hi, rfl⟩ := reads_ints hr
      have hl : s₂.heap.IsList a its.toList.toArray := ⟨o, ho, hc, n, by simpa using hd⟩
      have hil := hi.length
      refine wpAny_bind (wpAny_nsGet G₂.g ?_)
      rw [hf]
      refine wpAny_bind ((law_true (A := callerA) G₂ (by decide) rfl (by decide) hl hi (by rw [List.length_map] at hlen; omega) hf).run s₂ _ _ (Sub.refl _) fun v s' hv k => wpAny_pure ?_)
      obtain rfl : v = _ := hv
      refine ⟨_, rfl, .inl ⟨.bool true, rfl, fun cls => rfl, ⟨.bool true, [.list (is.map .int)], [], [a], .bool true, ?_, ?_, (fun _ => ⟨.nil, (fun _ h => nomatch h), (fun _ h => nomatch h)⟩), (fun as₀ _ => ident_freeW rfl rfl rfl _ _)⟩, (fun i h => nomatch h), (fun b o hb _ _ => .inl (kp_sub k b o hb)), (fun i h => nomatch h)⟩, ?_, ?_, hk _⟩
      · exact .cons (.list (kp_sub k _ _ ho) hc hd (hr.keeps (kp_sub k))) .nil
      · exact post_true _ _
      · rw [kp_os k, hal.2.2.1]
      · rw [kp_gens k, hal.1, hg]
        exact AllBare.empty
theorem promised : lw.row.toRowW.promised := ⟨[.list []], by decide +kernel, by decide +kernel⟩
theorem holdsOpen : lw.row.toRowW.claim.HoldsOpenBy (callStub "law") ["law"] lw.row.keeps false := by
  refine ⟨⟨?_, ?_, rfl⟩, ⟨[.list []], by decide +kernel, by decide +kernel⟩, fun w => ⟨(boot9 w).1, fun s hs => ⟨s, fence s, ((boot9 w).2 s hs).2, ?_⟩⟩⟩
  · exact bare1
  · exact opens1
  have hs : AfterImport (opening pw) w s := hs
  obtain ⟨⟨mb, mg, c₀, P₀, B⟩, hg⟩ := (boot9 w).2 s hs
  obtain ⟨s₁, hT, hS, hg₁, hlife⟩ := top_ran (w := w) B hg hs.life
  refine ⟨s₁, hT, fun n hn => ?_, (fun x hx => nomatch hx), (fun x hx => nomatch hx), callFrom B hS (Shared.asleep_of_life hlife hs.life) hg₁ fun h q => nomatch q⟩
  rw [List.mem_singleton.mp hn]
  exact top_def hS
end Mine
set_option maxHeartbeats 8000000 in
theorem PySem.Challenge.cw_mq0055_01_holds : PySem.Challenge.rw_mq0055_01.Holds := by
  w_on
  o_law
  rename_i said
  exact ⟨said, Mine.promised, Mine.holdsOpen⟩

