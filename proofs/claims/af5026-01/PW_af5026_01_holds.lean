import PyProof.Rows.All
import Wide.All
import OpenK.AllK
import Wide.FinOn
import PySem.Challenge.RW_af5026_01
set_option Elab.async false
section
open PySem PySem.W PyProof.Rows
namespace Mine
section
local macro_rules | `(tactic| o_head $H) => `(tactic| exact (fun (_ : Hook) => by assumption) $H)
set_option maxRecDepth 100000 in
set_option maxHeartbeats 8000000 in
/-- the kit's own writing of the heap (capK.heap_1), without the head -/
theorem capK (h : PySem.Challenge.rw_af5026_01.row.Holds) : PySem.Challenge.rw_af5026_01.row.Holds := by
  w_on
  k_head
end
end Mine
end
section
set_option maxRecDepth 100000
open PySem PySem.W PyProof.Rows PySem.Calls PySem.Spec
namespace Mine
section
variable {prog : Program} {w : World} {A : Around} {s : Shared} {h₀ : Heap} {L : Addr} {m : Str → Option Value} {news : List (Addr × Obj)} {K : Frag}
  {R : Result → Shared → Prop} {name qual : Str} {params : Arguments} {body : List Stmt} {scope : Scope} {dV kV doc pm cdv ct oc : Value} {an od : Option Addr} {osl : Array (Option Value)} {f : Addr} {args : Args} {binds : List (Str × Value)}
  {p : Program} {loose : List Str} {mg mb : Str → Option Value}

theorem z_ground (F : Fr h₀ L s.heap m) (N : News h₀ L s.heap news) :
    Fr h₀ L (hideAll s.heap (news.map (·.1))) m ∧ h₀.StaysIn (hideAll s.heap (news.map (·.1))) ∧
      ∀ v s', LeaveK h₀ L m (hideAll s.heap (news.map (·.1))) R v s' → R (.ok (.ret v)) s' := by
  have nm : ∀ b o, h₀.get? b = some o → b ∉ news.map (·.1) := fun b o e q => by
    obtain ⟨p, hp, rfl⟩ := List.mem_map.mp q
    rw [(N p hp).2.2] at e; cases e
  have st : h₀.StaysIn (hideAll s.heap (news.map (·.1))) := fun b o e => hideAll_get _ (F.keep b o e) (nm b o e)
  obtain ⟨oL, es, ep, hL, hLd, hLk, hLf⟩ := F.ns
  have nL : L ∉ news.map (·.1) := fun q => by
    obtain ⟨p, hp, e⟩ := List.mem_map.mp q
    exact (N p hp).2.1 e
  have hLg := hideAll_get (news.map (·.1)) hL nL
  refine ⟨⟨⟨oL, es, ep, hLg, hLd, hLk, hLf⟩, st, F.above⟩, st, fun v s' hl => ?_⟩
  obtain ⟨L', m', news', F', N', k⟩ := hl
  refine k ⟨⟨oL, es, ep, F'.keep L oL hLg, hLd, hLk, hLf⟩, fun b o e => F'.keep b o (st b o e), F.above⟩ fun p hp => ⟨(N' p hp).1, fun q => ?_, ?_⟩
  · have := (N' p hp).2.2; rw [q, hLg] at this; cases this
  · cases q : h₀.get? p.1 with
    | none => rfl
    | some o => have := (N' p hp).2.2; rw [st _ _ q] at this; cases this

theorem z_def (F : Fr h₀ L s.heap m) (X₀ : K.In h₀) (N : News h₀ L s.heap news) (T : TopRead p loose mg mb h₀)
    (ho : K.lookup f = some ⟨oc, od, .func (fnOf name qual params body scope dV kV doc pm an cdv ct), osl⟩) (hcd : codeIn K cdv qual = true) (hroom : A.depth < recursionLimit)
    (hbind : BindsTo s (fnOf name qual params body scope dV kV doc pm an cdv ct) args binds) (hloc : ∀ y ∈ binds, scope.names.lookup y.1 = some .local)
    (h : ∀ g L' h₁ tk, Fr h₀ L g m → Fr g L' h₁ (fun y => binds.reverse.lookup y) → News g L' h₁ news → K.In g → TopRead p loose mg mb g → (∀ p ∈ news, p.1 < L') →
      wpAny (model prog w) (A.deeper (envOf qual scope L' f cdv)) (execs body (envOf qual scope L' f cdv))
        (fun fl s' => LeaveK h₀ L m g R (match fl with | .ret v => v | _ => .none) s')
        (fun _ _ => False)
        { s with heap := h₁, toks := tk })
    (hcell : ∀ x ∈ scope.names, x.2 ≠ .cell)
    (hco : scope.isCoroutine = false) (hgen : scope.isGenerator = false) (hk : scope.kind = .function) : codeAny (model prog w) A (.call (.ref f) args) R s := by
  obtain ⟨FG, st, lv⟩ := z_ground (R := R) F N
  refine codeAny_call_def (fd := fnOf name qual params body scope dV kV doc pm an cdv ct) (body := body) (binds := binds) hroom ((X₀.keeps F.keep) _ _ ho) rfl (T.nolimit.keeps F.keep) (codeRec_of (X₀.keeps F.keep) hcd) rfl hbind hcell hloc (fun h₁ hns hk₁ => ?_) hco hgen hk
  exact wpAny_mono (h _ s.heap.objs.size h₁ _ FG ⟨hns, fun b o e => hk₁ b o (of_hideAll _ e), Nat.le_of_eq (hideAll_size _ _)⟩
    (fun p hp => ⟨hk₁ _ _ (N p hp).1, Nat.ne_of_lt (Heap.lt_size (N p hp).1), hideAll_none _ (List.mem_map_of_mem hp)⟩) (X₀.keeps st) (T.keeps st) (fun p hp => Heap.lt_size (N p hp).1)) (fun fl s' hl => lv _ _ hl) fun _ _ y => y.elim

theorem z_defC (F : Fr h₀ L s.heap m) (X₀ : K.In h₀) (N : News h₀ L s.heap news) (T : TopRead p loose mg mb h₀)
    (ho : K.lookup f = some ⟨oc, od, .func (fnOf name qual params body scope dV kV doc pm an cdv ct), osl⟩) (hcd : codeIn K cdv qual = true) (hroom : A.depth < recursionLimit)
    (hbind : BindsTo s (fnOf name qual params body scope dV kV doc pm an cdv ct) args binds) (hkind : (binds.all fun y => scope.names.lookup y.1 == some .local || scope.names.lookup y.1 == some .cell) = true)
    (hnd : ((cellsFrom 0 scope.names []).map (·.1)).Nodup)
    (h : ∀ g L' h₁ tk cells, Fr h₀ L g m → Fr g L' h₁ (bindL (envOfC qual scope L' f cdv).kindOf binds fun _ => none) → News g L' h₁ (cells ++ news) →
      CellsAre (bindC (envOfC qual scope L' f cdv).kindOf binds fun _ => none) (cellsFrom (L' + 1) scope.names []) cells → K.In g → TopRead p loose mg mb g → (∀ p ∈ news, p.1 < L') →
      wpAny (model prog w) (A.deeper (envOfC qual scope L' f cdv)) (execs body (envOfC qual scope L' f cdv))
        (fun fl s' => LeaveK h₀ L m g R (match fl with | .ret v => v | _ => .none) s')
        (fun _ _ => False)
        { s with heap := h₁, toks := tk })
    (hco : scope.isCoroutine = false) (hgen : scope.isGenerator = false) (hk : scope.kind = .function) : codeAny (model prog w) A (.call (.ref f) args) R s := by
  obtain ⟨FG, st, lv⟩ := z_ground (R := R) F N
  refine codeAny_call_function hroom ((X₀.keeps F.keep) _ _ ho) rfl hco hgen rfl (codeRec_of (X₀.keeps F.keep) hcd) (hbind _ _ _ _ ?_)
  refine wpAny_newFunctionEnv_cells hk (kindsX hkind _) fun env' he s' x => ?_
  subst he
  refine ⟨(T.nolimit.keeps F.keep).keeps x.toInCall.keep, codeAny_func ?_⟩
  obtain ⟨h₁, tk, rfl, _⟩ := x.done
  have hk₁ := x.toInCall.keep
  obtain ⟨cells, NC, Y⟩ := Cl.news (h₀ := s.heap) (Nat.le_refl _) fun n c hm => ⟨x.cell n c (lookup_of_mem_nodup (cellsFrom_names scope.names 0 (s.heap.objs.size + 1) [] [] rfl ▸ hnd) hm), x.above n c hm⟩
  refine wpAny_mono (h _ s.heap.objs.size h₁ tk cells FG ⟨x.toInCall.ns, fun b o e => hk₁ b o (of_hideAll _ e), Nat.le_of_eq (hideAll_size _ _)⟩ (fun p hp => ?_) Y (X₀.keeps st) (T.keeps st) (fun p hp => Heap.lt_size (N p hp).1)) (fun fl s' hl => lv _ _ hl) fun _ _ y => y.elim
  rcases List.mem_append.mp hp with hp | hp
  · refine ⟨(NC p hp).1, (NC p hp).2.1, ?_⟩
    cases q : (hideAll s.heap (news.map (·.1))).get? p.1 with
    | none => rfl
    | some o => have := of_hideAll _ q; rw [(NC p hp).2.2] at this; cases this
  · exact ⟨hk₁ _ _ (N p hp).1, Nat.ne_of_lt (Heap.lt_size (N p hp).1), hideAll_none _ (List.mem_map_of_mem hp)⟩
end
end Mine
end
section
set_option maxRecDepth 100000
set_option linter.unusedVariables false
open PySem PySem.W PyProof.Rows PySem.Calls PySem.Spec
namespace Mine

def Le (h h' : Heap) : Prop := ∀ b o, h.get? b = some o → h'.get? b = some o
theorem Le.refl {h : Heap} : Le h h := fun _ _ e => e
theorem Le.trans {a b c : Heap} (x : Le a b) (y : Le b c) : Le a c := fun _ _ e => y _ _ (x _ _ e)
def Fresh (h1 h2 : Heap) (new : List (Addr × Obj)) : Prop := ∀ p ∈ new, h2.get? p.1 = some p.2 ∧ h1.get? p.1 = none
theorem Fresh.nil {h1 h2 : Heap} : Fresh h1 h2 [] := fun _ hp => nomatch hp
theorem Le.none {h h' : Heap} (x : Le h h') {a : Addr} (e : h'.get? a = none) : h.get? a = none := by
  cases q : h.get? a with
  | none => rfl
  | some o => rw [x _ _ q] at e; cases e
theorem Fresh.append {h1 h2 h3 : Heap} {a b : List (Addr × Obj)} (x : Fresh h1 h2 a) (y : Fresh h2 h3 b) (l1 : Le h1 h2) (l2 : Le h2 h3) : Fresh h1 h3 (b ++ a) := fun p hp => by
  rcases List.mem_append.mp hp with hp | hp
  · exact ⟨(y p hp).1, l1.none (y p hp).2⟩
  · exact ⟨l2 _ _ (x p hp).1, (x p hp).2⟩
theorem Fresh.later {h1 h2 h3 : Heap} {a : List (Addr × Obj)} (x : Fresh h1 h2 a) (l2 : Le h2 h3) : Fresh h1 h3 a := fun p hp => ⟨l2 _ _ (x p hp).1, (x p hp).2⟩

structure EX {α : Type} (prog : Program) (w : World) (A : Around) (t : Sem α) (h : Heap) (V : α → List (Addr × Obj) → Prop) : Prop where
  run : ∀ (h1 : Heap) (g : Array GenState) (d : Drawn) (tk : Nat) (os : OsState) (Q : α → Shared → Prop) (E : Value → Shared → Prop), Le h h1 →
    (∀ v new h2 tk', Le h1 h2 → Fresh h1 h2 new → V v new → Q v ⟨h2, g, d, tk', os⟩) → wpAny (model prog w) A t Q E ⟨h1, g, d, tk, os⟩
/-- a wp that raises nothing, not to be opened -/
structure WP {α : Type} (prog : Program) (w : World) (A : Around) (t : Sem α) (Q : α → Shared → Prop) (s : Shared) : Prop where
  run : wpAny (model prog w) A t Q (fun _ _ => False) s
theorem WP.of {α : Type} {prog : Program} {w : World} {A : Around} {t : Sem α} {Q : α → Shared → Prop} {E : Value → Shared → Prop} {s : Shared} (x : WP prog w A t Q s) : wpAny (model prog w) A t Q E s := wpAny_mono x.run (fun _ _ q => q) fun _ _ e => e.elim

section
variable {α β : Type} {prog : Program} {w : World} {A : Around} {h : Heap}
theorem EX.up {t : Sem α} {V : α → List (Addr × Obj) → Prop} {h' : Heap} (x : EX prog w A t h V) (l : Le h h') : EX prog w A t h' V := ⟨fun h1 g d tk os Q E le H => x.run h1 g d tk os Q E (l.trans le) H⟩
theorem EX.mono {t : Sem α} {V V' : α → List (Addr × Obj) → Prop} (x : EX prog w A t h V) (hv : ∀ v new, V v new → V' v new) : EX prog w A t h V' :=
  ⟨fun h1 g d tk os Q E le H => x.run h1 g d tk os Q E le fun v new h2 tk' l f hV => H v new h2 tk' l f (hv _ _ hV)⟩
/-- forget some of the new objects -/
theorem EX.weak {t : Sem α} {V V' : α → List (Addr × Obj) → Prop} (x : EX prog w A t h V) (hv : ∀ v new, V v new → ∃ new', (∀ p ∈ new', p ∈ new) ∧ V' v new') : EX prog w A t h V' :=
  ⟨fun h1 g d tk os Q E le H => x.run h1 g d tk os Q E le fun v new h2 tk' l f hV => by
    obtain ⟨new', hs, hV'⟩ := hv _ _ hV
    exact H v new' h2 tk' l (fun p hp => f p (hs p hp)) hV'⟩
theorem EX.pure {a : α} {V : α → List (Addr × Obj) → Prop} (hV : V a []) : EX prog w A (Pure.pure a : Sem α) h V :=
  ⟨fun h1 g d tk os Q E _ H => by with_reducible exact wpAny_pure (H a [] h1 tk Le.refl Fresh.nil hV)⟩
theorem EX.bind {m : Sem α} {f : α → Sem β} {V1 : α → List (Addr × Obj) → Prop} {V : β → List (Addr × Obj) → Prop} (hm : EX prog w A m h V1)
    (hf : ∀ v new h2, Le h h2 → (∀ p ∈ new, h2.get? p.1 = some p.2) → V1 v new → EX prog w A (f v) h2 (fun y new2 => V y (new2 ++ new))) : EX prog w A (m >>= f) h V :=
  ⟨fun h1 g d tk os Q E le H => by
    with_reducible refine wpAny_bind (hm.run h1 g d tk os _ E le fun v new h2 tk' l fr hV1 => ?_)
    exact (hf v new h2 (le.trans l) (fun p hp => (fr p hp).1) hV1).run h2 g d tk' os Q E Le.refl fun y new2 h3 tk3 l3 fr3 hV => H y _ h3 tk3 (l.trans l3) (fr.append fr3 l l3) hV⟩
/-- at this very heap -/
theorem EX.at {t : Sem α} {V : α → List (Addr × Obj) → Prop} {g : Array GenState} {d : Drawn} {tk : Nat} {os : OsState} {Q : α → Shared → Prop} {E : Value → Shared → Prop} (x : EX prog w A t h V)
    (H : ∀ v new h2 tk', Le h h2 → Fresh h h2 new → V v new → Q v ⟨h2, g, d, tk', os⟩) : wpAny (model prog w) A t Q E ⟨h, g, d, tk, os⟩ := x.run h g d tk os Q E Le.refl H
end

/-- immediate values -/
abbrev Im {α : Type} (P : α → Prop) : α → List (Addr × Obj) → Prop := fun v new => new = [] ∧ P v
def IsI (i : Int) (v : Value) : Prop := ∃ t, v = .int i t
def IsS (x : Str) (v : Value) : Prop := ∃ t, v = .str x t
def IsB (b : Bool) (v : Value) : Prop := v = .bool b
theorem isI {i : Int} {t : Tok} : IsI i (.int i t) := ⟨t, rfl⟩
theorem isB {b : Bool} : IsB b (.bool b) := rfl
theorem isS {x : Str} {t : Tok} : IsS x (.str x t) := ⟨t, rfl⟩

theorem ns_up {h h' : Heap} {L : Addr} {m : Str → Option Value} (n : h.Ns L m) (le : Le h h') : h'.Ns L m :=
  let ⟨o, es, ep, x, r⟩ := n; ⟨o, es, ep, le _ _ x, r⟩
theorem fr_up {h₀ h h' : Heap} {L : Addr} {m : Str → Option Value} (F : Fr h₀ L h m) (le : Le h h') : Fr h₀ L h' m := ⟨ns_up F.ns le, fun b o e => le _ _ (F.keep b o e), F.above⟩
theorem nw_up {h₀ h h' : Heap} {L : Addr} {news : List (Addr × Obj)} (N : News h₀ L h news) (le : Le h h') : News h₀ L h' news := fun p hp => ⟨le _ _ (N p hp).1, (N p hp).2⟩
theorem ns_isSome {h : Heap} {L : Addr} {m : Str → Option Value} (n : h.Ns L m) : ∃ o, h.get? L = some o := let ⟨o, _, _, x, _⟩ := n; ⟨o, x⟩
theorem nw_add {h₀ h h' : Heap} {L : Addr} {m : Str → Option Value} {news new : List (Addr × Obj)} (F : Fr h₀ L h m) (N : News h₀ L h news) (le : Le h h') (f : Fresh h h' new) : News h₀ L h' (new ++ news) := fun p hp => by
  rcases List.mem_append.mp hp with hp | hp
  · obtain ⟨o, ho⟩ := ns_isSome F.ns
    refine ⟨(f p hp).1, fun e => ?_, ?_⟩
    · have := (f p hp).2; rw [e, ho] at this; cases this
    · have hk : Le h₀ h := F.keep
      exact hk.none (f p hp).2
  · exact ⟨le _ _ (N p hp).1, (N p hp).2⟩
theorem list_up {h h' : Heap} {a : Addr} {vs : Array Value} (x : h.IsList a vs) (le : Le h h') : h'.IsList a vs := x.at fun o e => le _ o e

section
variable {prog : Program} {w : World} {A : Around} {h : Heap} {env : Env} {P : Value → Prop}
theorem ex_int {i : Int} {k : Nat} {p : Pos} : EX prog w A (eval (.Constant (.int i) k p) env) h (Im (IsI i)) := ⟨fun _ _ _ _ _ _ _ _ H => by with_reducible exact wpAny_Constant_int (H _ [] _ _ Le.refl Fresh.nil ⟨rfl, isI⟩)⟩
theorem ex_str {x : Str} {k : Nat} {p : Pos} : EX prog w A (eval (.Constant (.str x) k p) env) h (Im (IsS x)) := ⟨fun _ _ _ _ _ _ _ _ H => by with_reducible exact Constant_str (H _ [] _ _ Le.refl Fresh.nil ⟨rfl, isS⟩)⟩
theorem ex_none {k : Nat} {p : Pos} : EX prog w A (eval (.Constant .none k p) env) h (Im (· = .none)) := ⟨fun _ _ _ _ _ _ _ _ H => by with_reducible exact wpAny_Constant_none (H _ [] _ _ Le.refl Fresh.nil ⟨rfl, rfl⟩)⟩
theorem ex_bool {b : Bool} {k : Nat} {p : Pos} : EX prog w A (eval (.Constant (.bool b) k p) env) h (Im (IsB b)) := ⟨fun _ _ _ _ _ _ _ _ H => by with_reducible exact wpAny_Constant_bool (H _ [] _ _ Le.refl Fresh.nil ⟨rfl, isB⟩)⟩

theorem ex_local {x : Str} {p : Pos} {m : Str → Option Value} {v : Value} (n : h.Ns env.locals m) (hv : m x = some v) (hP : P v) (hl : env.kindOf x = some .local) (hk : env.scope.kind = .function) (hd : (x == ("__debug__" : Str)) = false) :
    EX prog w A (eval (.Name x p) env) h (Im P) := ⟨fun _ _ _ _ _ _ _ le H => by with_reducible exact wpAny_Name (wpAny_loadName_local hk hl (ns_up n le) hv (H _ [] _ _ Le.refl Fresh.nil ⟨rfl, hP⟩)) hd⟩
theorem ex_cell {x : Str} {p : Pos} {c : Addr} {o : Obj} {v : Value} (hc : env.cells.lookup x = some c) (ho : h.get? c = some o) (hd : o.data = .cell (some v)) (hP : P v) (hl : env.kindOf x = some .cell) (hk : env.scope.kind = .function) (hdb : (x == ("__debug__" : Str)) = false) :
    EX prog w A (eval (.Name x p) env) h (Im P) := ⟨fun h1 _ _ _ _ _ _ le H => by
  have hC : h1.IsCell c (some v) := ⟨o, le _ _ ho, hd⟩
  with_reducible exact wpAny_Name (wpAny_loadName_cell hk hl hc hC (H _ [] _ _ Le.refl Fresh.nil ⟨rfl, hP⟩)) hdb⟩

/-- two operands, immediate -/
theorem EX.two {e1 e2 : Expr} {t : Sem Value} {op : Value → Value → Sem Value} {P1 P2 : Value → Prop} {V : Value → List (Addr × Obj) → Prop} (x1 : EX prog w A (eval e1 env) h (Im P1)) (x2 : EX prog w A (eval e2 env) h (Im P2))
    (hop : ∀ a b, P1 a → P2 b → EX prog w A (op a b) h V)
    (hw : ∀ Q E s, wpAny (model prog w) A (eval e1 env) (fun a s1 => wpAny (model prog w) A (eval e2 env) (fun b s2 => wpAny (model prog w) A (op a b) Q E s2) E s1) E s → wpAny (model prog w) A t Q E s) : EX prog w A t h V := by
  refine ⟨fun h1 g d tk os Q E le H => ?_⟩
  refine hw Q E _ (x1.run h1 g d tk os _ E le fun a n1 h2 tk2 l2 f2 v1 => x2.run h2 g d tk2 os _ E (le.trans l2) fun b n2 h3 tk3 l3 f3 v2 => ?_)
  exact (hop a b v1.2 v2.2).run h3 g d tk3 os Q E ((le.trans l2).trans l3) fun v new h4 tk4 l4 f4 hV => H v new h4 tk4 ((l2.trans l3).trans l4) (fun p hp => ⟨(f4 p hp).1, (l2.trans l3).none (f4 p hp).2⟩) hV
theorem ex_binop {e1 e2 : Expr} {o : Operator} {p : Pos} {P1 P2 : Value → Prop} {V : Value → List (Addr × Obj) → Prop} (hop : ∀ a b, P1 a → P2 b → EX prog w A (binaryOp o a b) h V)
    (x1 : EX prog w A (eval e1 env) h (Im P1)) (x2 : EX prog w A (eval e2 env) h (Im P2)) : EX prog w A (eval (.BinOp e1 o e2 p) env) h V := EX.two x1 x2 hop fun _ _ _ q => by with_reducible exact wpAny_BinOp q
theorem ex_cmp {e1 e2 : Expr} {o : CmpOp} {p : Pos} {P1 P2 : Value → Prop} {V : Value → List (Addr × Obj) → Prop} (hop : ∀ a b, P1 a → P2 b → EX prog w A (compareOp o a b) h V)
    (x1 : EX prog w A (eval e1 env) h (Im P1)) (x2 : EX prog w A (eval e2 env) h (Im P2)) (hb : behindInMarks o e2 = false := by kernel_rfl) : EX prog w A (eval (.Compare e1 [o] [e2] p) env) h V := EX.two x1 x2 hop fun _ _ _ q => by with_reducible exact wpAny_Compare1 q hb

theorem op_add {a b : Int} (x y : Value) (hx : IsI a x) (hy : IsI b y) : EX prog w A (binaryOp .Add x y) h (Im (IsI (a + b))) := by
  obtain ⟨t, rfl⟩ := hx; obtain ⟨u, rfl⟩ := hy
  exact ⟨fun _ _ _ _ _ _ _ _ H => by with_reducible exact add_int (H _ [] _ _ Le.refl Fresh.nil ⟨rfl, isI⟩)⟩
theorem op_sub {a b : Int} (x y : Value) (hx : IsI a x) (hy : IsI b y) : EX prog w A (binaryOp .Sub x y) h (Im (IsI (a - b))) := by
  obtain ⟨t, rfl⟩ := hx; obtain ⟨u, rfl⟩ := hy
  exact ⟨fun _ _ _ _ _ _ _ _ H => by with_reducible exact sub_int (H _ [] _ _ Le.refl Fresh.nil ⟨rfl, isI⟩)⟩
theorem op_le {a b : Int} (x y : Value) (hx : IsI a x) (hy : IsI b y) : EX prog w A (compareOp .LtE x y) h (Im (IsB (decide (a ≤ b)))) := by
  obtain ⟨t, rfl⟩ := hx; obtain ⟨u, rfl⟩ := hy
  exact ⟨fun _ _ _ _ _ _ _ _ H => by with_reducible exact PyProof.Rows.le_int (H _ [] _ _ Le.refl Fresh.nil ⟨rfl, isB⟩)⟩
theorem op_ge {a b : Int} (x y : Value) (hx : IsI a x) (hy : IsI b y) : EX prog w A (compareOp .GtE x y) h (Im (IsB (decide (b ≤ a)))) := by
  obtain ⟨t, rfl⟩ := hx; obtain ⟨u, rfl⟩ := hy
  exact ⟨fun _ _ _ _ _ _ _ _ H => by with_reducible exact ge_int (H _ [] _ _ Le.refl Fresh.nil ⟨rfl, isB⟩)⟩
theorem op_lt {a b : Int} (x y : Value) (hx : IsI a x) (hy : IsI b y) : EX prog w A (compareOp .Lt x y) h (Im (IsB (decide (a < b)))) := by
  obtain ⟨t, rfl⟩ := hx; obtain ⟨u, rfl⟩ := hy
  exact ⟨fun _ _ _ _ _ _ _ _ H => by with_reducible exact lt_int (H _ [] _ _ Le.refl Fresh.nil ⟨rfl, isB⟩)⟩
theorem op_eqs {a b : Str} (x y : Value) (hx : IsS a x) (hy : IsS b y) : EX prog w A (compareOp .Eq x y) h (Im (IsB (a == b))) := by
  obtain ⟨t, rfl⟩ := hx; obtain ⟨u, rfl⟩ := hy
  exact ⟨fun _ _ _ _ _ _ _ _ H => by with_reducible exact eq_str (H _ [] _ _ Le.refl Fresh.nil ⟨rfl, isB⟩)⟩
theorem op_isnone {P1 : Value → Prop} {b : Bool} (hb : ∀ v, P1 v → (v == Value.none) = b) (x y : Value) (hx : P1 x) (hy : y = .none) : EX prog w A (compareOp .Is x y) h (Im (IsB b)) := by
  subst hy
  exact ⟨fun _ _ _ _ _ _ _ _ H => by with_reducible exact is_none (H _ [] _ _ Le.refl Fresh.nil ⟨rfl, by rw [hb x hx]; exact isB⟩)⟩
end
end Mine
end
section
set_option maxRecDepth 100000
set_option linter.unusedVariables false
open PySem PySem.W PyProof.Rows PySem.Calls PySem.Spec
namespace Mine
section
variable {prog : Program} {w : World} {A : Around} {h : Heap} {env : Env} {P : Value → Prop} {K : Frag}

theorem inst_up {h h' : Heap} {x C : Addr} {ox : Obj} {od : Option Obj} (I : W.InstAt h x ox C od) (le : Le h h') : W.InstAt h' x ox C od :=
  ⟨le _ _ I.at_, I.cls, I.no, by
    have := I.dict
    obtain ⟨oc, odi, oda, osl⟩ := ox
    dsimp only at this ⊢
    cases odi with
    | none => cases od with
      | none => trivial
      | some _ => exact this.elim
    | some dx => cases od with
      | none => exact this.elim
      | some o => exact le _ _ this⟩

theorem ex_getAttr {x C : Addr} {ox : Obj} {od : Option Obj} {name : Str} {expr : Bool} {v : Value} (X : K.In h) (I : W.InstAt h x ox C od)
    (hga : findIn K (.ref C) "__getattribute__" = some (some (.builtin "object.__getattribute__"))) (hf : findObj K C od name = some (.value v)) (hh : handedIn v = true) (hP : P v) :
    EX prog w A (getAttr (.ref x) name expr) h (Im P) := ⟨fun h1 _ _ _ _ _ _ le H => by
  have X' : K.In h1 := X.keeps le
  have I' := inst_up I le
  with_reducible exact get_value X' I' hga hf hh (H _ [] _ _ Le.refl Fresh.nil ⟨rfl, hP⟩)⟩
theorem ex_seq {α : Type} {e1 : Expr} {t : Sem α} {op : Value → Sem α} {P1 : Value → Prop} {V : α → List (Addr × Obj) → Prop} (x1 : EX prog w A (eval e1 env) h (Im P1)) (hop : ∀ a, P1 a → EX prog w A (op a) h V)
    (hw : ∀ Q E s, wpAny (model prog w) A (eval e1 env) (fun a s1 => wpAny (model prog w) A (op a) Q E s1) E s → wpAny (model prog w) A t Q E s) : EX prog w A t h V :=
  ⟨fun h1 g d tk os Q E le H => hw Q E _ (x1.run h1 g d tk os _ E le fun a n h2 tk2 l2 f2 hv => (hop a hv.2).run h2 g d tk2 os Q E (le.trans l2) fun v n3 h3 tk3 l3 f3 hv3 => H v n3 h3 tk3 (l2.trans l3) (fun p hp => ⟨(f3 p hp).1, l2.none (f3 p hp).2⟩) hv3)⟩
theorem ex_attr {y name : Str} {p1 p2 : Pos} {x C : Addr} {ox : Obj} {od : Option Obj} {v : Value} (he : EX prog w A (eval (.Name y p1) env) h (Im (· = .ref x))) (X : K.In h) (I : W.InstAt h x ox C od)
    (hga : findIn K (.ref C) "__getattribute__" = some (some (.builtin "object.__getattribute__"))) (hf : findObj K C od name = some (.value v)) (hh : handedIn v = true) (hP : P v) :
    EX prog w A (eval (.Attribute (.Name y p1) name p2) env) h (Im P) :=
  ex_seq (op := fun o => getAttr o name true) he (fun a ha => by subst ha; exact ex_getAttr X I hga hf hh hP) fun _ _ _ q => by with_reducible exact Attribute_Name_ q

/-- args -/
theorem exs_nil {p : Pos} : EX prog w A (spliced (backTo p (starEach [] env))) h (Im (· = [])) := ⟨fun _ _ _ _ _ _ _ _ H => by with_reducible exact spliced_none (H [] [] _ _ Le.refl Fresh.nil ⟨rfl, rfl⟩)⟩
theorem exs_consN {p : Pos} {e : Expr} {rest : List Expr} {V1 : Value → List (Addr × Obj) → Prop} {V2 : List Value → List (Addr × Obj) → Prop} (x1 : EX prog w A (eval e env) h V1) (x2 : EX prog w A (spliced (backTo p (starEach rest env))) h V2)
    (he : starEach (e :: rest) env = (false, eval e env) :: starEach rest env := by kernel_rfl) :
    EX prog w A (spliced (backTo p (starEach (e :: rest) env))) h (fun vs new => ∃ v r n1 n2, vs = v :: r ∧ new = n2 ++ n1 ∧ V1 v n1 ∧ V2 r n2) :=
  ⟨fun h1 g d tk os Q E le H => by
    with_reducible refine spliced_more (x1.run h1 g d tk os _ E le fun v n h2 tk2 l2 f2 hv => ?_) he
    exact x2.run h2 g d tk2 os _ E (le.trans l2) fun vs n3 h3 tk3 l3 f3 hvs => H _ _ h3 tk3 (l2.trans l3) (f2.append f3 l2 l3) ⟨_, _, _, _, rfl, rfl, hv, hvs⟩⟩
theorem exs_cons {p : Pos} {e : Expr} {rest : List Expr} {P : Value → Prop} {Ps : List Value → Prop} (x1 : EX prog w A (eval e env) h (Im P)) (x2 : EX prog w A (spliced (backTo p (starEach rest env))) h (Im Ps))
    (he : starEach (e :: rest) env = (false, eval e env) :: starEach rest env := by kernel_rfl) : EX prog w A (spliced (backTo p (starEach (e :: rest) env))) h (Im fun vs => ∃ v r, vs = v :: r ∧ P v ∧ Ps r) :=
  (exs_consN x1 x2 he).mono fun vs new hv => by
    obtain ⟨v, r, n1, n2, rfl, rfl, ⟨rfl, a⟩, ⟨rfl, b⟩⟩ := hv
    exact ⟨rfl, v, r, rfl, a, b⟩
theorem exs_one {p : Pos} {e : Expr} {V1 : Value → List (Addr × Obj) → Prop} (ha : EX prog w A (eval e env) h V1) (he : starEach [e] env = [(false, eval e env)] := by kernel_rfl) :
    EX prog w A (spliced (backTo p (starEach [e] env))) h (fun vs new => ∃ v, vs = [v] ∧ V1 v new) :=
  (exs_consN ha exs_nil he).mono fun vs new hv => by
    obtain ⟨v, r, n1, n2, rfl, rfl, h1, rfl, rfl⟩ := hv
    exact ⟨v, rfl, h1⟩

abbrev Keeper3 (M : Model) (h : Heap) (f : Value) : Prop := ∀ h', Le h h' → ∃ k, (k = Keeper.frame ∨ k = Keeper.machine ∨ k = Keeper.boundFrame) ∧ Looks M h' (keeperOf f) k
theorem keeper_K {M : Model} {f : Value} (X : K.In h) (hk : keepIn K f = true) : Keeper3 M h f := fun h' le => keeps_K hk h' (X.keeps le)
theorem keeper_M {M : Model} {q g : Addr} {self : Value} (X : K.In h) (hq : h.get? q = some (methodObj (.ref g) self)) (hf : fnIn K g = true) : Keeper3 M h (.ref q) := fun h' le => keeps_M hf h' ⟨le _ _ hq, X.keeps le⟩

/-- the args first, then the call at their heap -/
theorem EX.args {t : Sem Value} {fv : Value} {first : List Value} {sp : Sem (List Value)} {VA : List Value → List (Addr × Obj) → Prop} {V : Value → List (Addr × Obj) → Prop} (ha : EX prog w A sp h VA)
    (hc : ∀ vs new h2, Le h h2 → (∀ q ∈ new, h2.get? q.1 = some q.2) → VA vs new → EX prog w A (call fv (first ++ vs)) h2 (fun y n => V y (n ++ new)))
    (hw : ∀ h1 Q E s, Le h h1 → s.heap = h1 → wpAny (model prog w) A sp (fun vs s1 => Le h1 s1.heap ∧ wpAny (model prog w) A (call fv (first ++ vs)) Q E s1) E s → wpAny (model prog w) A t Q E s) : EX prog w A t h V :=
  ⟨fun h1 g d tk os Q E le H => hw h1 Q E _ le rfl (ha.run h1 g d tk os _ E le fun vs new h2 tk2 l2 f2 hv => ⟨l2,
    (hc vs new h2 (le.trans l2) (fun p hp => (f2 p hp).1) hv).run h2 g d tk2 os Q E Le.refl fun y n h3 tk3 l3 f3 hy => H y _ h3 tk3 (l2.trans l3) (f2.append f3 l2 l3) hy⟩)⟩
theorem EX.args0 {t : Sem Value} {fv : Value} {sp : Sem (List Value)} {VA : List Value → List (Addr × Obj) → Prop} {V : Value → List (Addr × Obj) → Prop} (ha : EX prog w A sp h VA)
    (hc : ∀ vs new h2, Le h h2 → (∀ q ∈ new, h2.get? q.1 = some q.2) → VA vs new → EX prog w A (call fv vs) h2 (fun y n => V y (n ++ new)))
    (hw : ∀ Q E s, wpAny (model prog w) A sp (fun vs s1 => wpAny (model prog w) A (call fv vs) Q E s1) E s → wpAny (model prog w) A t Q E s) : EX prog w A t h V :=
  ⟨fun h1 g d tk os Q E le H => hw Q E _ (ha.run h1 g d tk os _ E le fun vs new h2 tk2 l2 f2 hv =>
    (hc vs new h2 (le.trans l2) (fun p hp => (f2 p hp).1) hv).run h2 g d tk2 os Q E Le.refl fun y n h3 tk3 l3 f3 hy => H y _ h3 tk3 (l2.trans l3) (f2.append f3 l2 l3) hy)⟩
theorem EX.args1 {t : Sem Value} {fv : Value} {first : List Value} {sp : Sem (List Value)} {VA : List Value → List (Addr × Obj) → Prop} {V : Value → List (Addr × Obj) → Prop} (ha : EX prog w A sp h VA)
    (hc : ∀ vs new h2, Le h h2 → (∀ q ∈ new, h2.get? q.1 = some q.2) → VA vs new → EX prog w A (call fv (first ++ vs)) h2 (fun y n => V y (n ++ new)))
    (hw : ∀ Q E s, wpAny (model prog w) A sp (fun vs s1 => wpAny (model prog w) A (call fv (first ++ vs)) Q E s1) E s → wpAny (model prog w) A t Q E s) : EX prog w A t h V :=
  ⟨fun h1 g d tk os Q E le H => hw Q E _ (ha.run h1 g d tk os _ E le fun vs new h2 tk2 l2 f2 hv =>
    (hc vs new h2 (le.trans l2) (fun p hp => (f2 p hp).1) hv).run h2 g d tk2 os Q E Le.refl fun y n h3 tk3 l3 f3 hy => H y _ h3 tk3 (l2.trans l3) (f2.append f3 l2 l3) hy)⟩
theorem cw_some {p : Pos} {e : Expr} {rest : List Expr} {fv : Value} {first : List Value} {VA : List Value → List (Addr × Obj) → Prop} {V : Value → List (Addr × Obj) → Prop} (hk : Keeper3 (model prog w) h fv)
    (ha : EX prog w A (spliced (backTo p (starEach (e :: rest) env))) h VA)
    (hc : ∀ vs new h2, Le h h2 → (∀ q ∈ new, h2.get? q.1 = some q.2) → VA vs new → EX prog w A (call fv (first ++ vs)) h2 (fun y n => V y (n ++ new)))
    (he : starEach (e :: rest) env = (false, eval e env) :: starEach rest env := by kernel_rfl) (hplain : (backTo p (starEach rest env)).any (·.1) = false := by kernel_rfl) :
    EX prog w A (callWith p fv first (backTo p (starEach (e :: rest) env)) []) h V :=
  EX.args ha hc fun h1 Q E s le hs q => by
    rw [he] at q ⊢
    have hp : ((backTo p ((false, eval e env) :: starEach rest env)).any (·.1) || ([] : List (Option Str × Sem Value)).any fun x => x.1.isNone) = false := by
      show ((false || (backTo p (starEach rest env)).any (·.1)) || false) = false
      rw [hplain]; rfl
    with_reducible exact callWith_of (P := fun h' => Le h1 h') hp (fun h' l => hk h' (le.trans l)) (evalArgs_plain q)
theorem cw_none {p : Pos} {fv : Value} {first : List Value} {V : Value → List (Addr × Obj) → Prop} (hk : Keeper3 (model prog w) h fv)
    (hc : EX prog w A (call fv first) h V) : EX prog w A (callWith p fv first (backTo p (starEach [] env)) []) h V := by
  refine ⟨fun h1 g d tk os Q E le H => ?_⟩
  with_reducible refine callWith_of (P := fun h' => Le h1 h') (args := backTo p (starEach [] env)) (keywords := []) rfl (fun h' l => hk h' (le.trans l)) (evalArgs_nil3 ⟨Le.refl, ?_⟩)
  rw [List.append_nil]
  exact hc.run h1 g d tk os Q E le H
theorem ex_callK {f : Expr} {args : List Expr} {p : Pos} {fv : Value} {V : Value → List (Addr × Obj) → Prop} (hf : EX prog w A (eval f env) h (Im (· = fv)))
    (hc : EX prog w A (callWith p fv [] (backTo p (starEach args env)) []) h V)
    (hr : eval (.Call f args [] p) env = (do callWith p (← eval f env) [] (backTo p (starEach args env)) (backToKw p (keywordEach [] env))) := by kernel_rfl) : EX prog w A (eval (.Call f args [] p) env) h V :=
  ex_seq (op := fun f => callWith p f [] (backTo p (starEach args env)) []) hf (fun a ha => by subst ha; exact hc) fun _ _ _ q => by with_reducible exact Call_ q hr
theorem cw_builtin {p : Pos} {e : Expr} {rest : List Expr} {id : String} {VA : List Value → List (Addr × Obj) → Prop} {V : Value → List (Addr × Obj) → Prop}
    (ha : EX prog w A (spliced (backTo p (starEach (e :: rest) env))) h VA)
    (hc : ∀ vs new h2, Le h h2 → (∀ q ∈ new, h2.get? q.1 = some q.2) → VA vs new → EX prog w A (call (.builtin id) vs) h2 (fun y n => V y (n ++ new)))
    (he : starEach (e :: rest) env = (false, eval e env) :: starEach rest env := by kernel_rfl) (hplain : (backTo p (starEach rest env)).any (·.1) = false := by kernel_rfl) :
    EX prog w A (callWith p (.builtin id) [] (backTo p (starEach (e :: rest) env)) []) h V :=
  EX.args0 ha hc fun Q E s q => by with_reducible exact PyProof.Rows.callWith_builtin1 q he hplain
/-- a built-in method -/
theorem cw_builtinM {p : Pos} {e : Expr} {rest : List Expr} {id : String} {first : List Value} {VA : List Value → List (Addr × Obj) → Prop} {V : Value → List (Addr × Obj) → Prop}
    (ha : EX prog w A (spliced (backTo p (starEach (e :: rest) env))) h VA)
    (hc : ∀ vs new h2, Le h h2 → (∀ q ∈ new, h2.get? q.1 = some q.2) → VA vs new → EX prog w A (call (.builtin id) (first ++ vs)) h2 (fun y n => V y (n ++ new)))
    (he : starEach (e :: rest) env = (false, eval e env) :: starEach rest env := by kernel_rfl) (hplain : (backTo p (starEach rest env)).any (·.1) = false := by kernel_rfl) :
    EX prog w A (callWith p (.builtin id) first (backTo p (starEach (e :: rest) env)) []) h V :=
  EX.args1 ha hc fun Q E s q => by with_reducible exact PyProof.Rows.callWith_method1 q he hplain
theorem cw_type {p : Pos} {e : Expr} {rest : List Expr} {T : String} {VA : List Value → List (Addr × Obj) → Prop} {V : Value → List (Addr × Obj) → Prop}
    (ha : EX prog w A (spliced (backTo p (starEach (e :: rest) env))) h VA)
    (hc : ∀ vs new h2, Le h h2 → (∀ q ∈ new, h2.get? q.1 = some q.2) → VA vs new → EX prog w A (call (.type T) vs) h2 (fun y n => V y (n ++ new)))
    (he : starEach (e :: rest) env = (false, eval e env) :: starEach rest env := by kernel_rfl) (hplain : (backTo p (starEach rest env)).any (·.1) = false := by kernel_rfl) :
    EX prog w A (callWith p (.type T) [] (backTo p (starEach (e :: rest) env)) []) h V :=
  EX.args0 ha hc fun Q E s q => by with_reducible exact PyProof.Rows.callWith_type1 q he hplain
/-- a method's call on an immediate receiver -/
abbrev plOf (o : Expr) (env : Env) : Sem Bool := do return (← importBound o env).getD true
abbrev MCall (o : Expr) (name : Str) (apos pos : Pos) (args : List Expr) (env : Env) : Prop := eval (.Call (.Attribute o name apos) args [] pos) env = (do
      let ov ← eval o env
      standAt apos.atName
      let (f, first) ← holding [ov] (getMethod ov name (plOf o env))
      callWith pos f first (backTo pos (starEach args env)) [])
theorem ex_meth {o : Expr} {name : Str} {apos pos : Pos} {args : List Expr} {P1 : Value → Prop} {fv : Value} {first : Value → List Value} {V : Value → List (Addr × Obj) → Prop} (ho : EX prog w A (eval o env) h (Im P1))
    (hg : ∀ a, P1 a → EX prog w A (getMethod a name (plOf o env)) h (Im (· = (fv, first a))))
    (hc : ∀ a, P1 a → EX prog w A (callWith pos fv (first a) (backTo pos (starEach args env)) []) h V)
    (hr : MCall o name apos pos args env := by kernel_rfl) : EX prog w A (eval (.Call (.Attribute o name apos) args [] pos) env) h V :=
  ⟨fun h1 g d tk os Q E le H => by
    with_reducible refine MethodCall_ (pl := plOf o env) (ho.run h1 g d tk os _ E le fun a n h2 tk2 l2 f2 hv => (hg a hv.2).run h2 g d tk2 os _ E (le.trans l2) fun fx n3 h3 tk3 l3 f3 hv3 => ?_) hr
    rw [hv3.2]
    exact (hc a hv.2).run h3 g d tk3 os Q E ((le.trans l2).trans l3) fun v n4 h4 tk4 l4 f4 hv4 => H v n4 h4 tk4 ((l2.trans l3).trans l4) (fun p hp => ⟨(f4 p hp).1, (l2.trans l3).none (f4 p hp).2⟩) hv4⟩
theorem drop_new {t : Sem Value} {P : Value → Prop} (x : EX prog w A t h (fun v _ => P v)) : EX prog w A t h (Im P) := x.weak fun v new hv => ⟨[], fun _ hp => (nomatch hp), rfl, hv⟩
end

/-- a frame's names, the newest first -/
def frm (l : List (Str × Value)) : Str → Option Value := fun y => l.lookup y
theorem frm_cons (l : List (Str × Value)) (x : Str) (v : Value) : (fun y => if y = x then some v else frm l y) = frm ((x, v) :: l) := by
  funext y
  unfold frm
  rw [List.lookup_cons]
  by_cases h : y = x
  · subst h; simp
  · have : (y == x) = false := by simpa using h
    simp [this, h]
theorem frm_head {l : List (Str × Value)} {x : Str} {v : Value} : frm ((x, v) :: l) x = some v := by unfold frm; simp
theorem frm_tail {l : List (Str × Value)} {x y : Str} {v : Value} {r : Option Value} (h : (y == x) = false) (e : frm l y = r) : frm ((x, v) :: l) y = r := by unfold frm at *; rw [List.lookup_cons, h]; exact e

def retv : Flow → Value
  | .ret v => v
  | _ => .none
def Ret (h1 : Heap) (L' : Addr) (g : Array GenState) (d : Drawn) (os : OsState) (V : Value → List (Addr × Obj) → Prop) (fl : Flow) (s' : Shared) : Prop :=
  ∃ m' news' h' tk', s' = ⟨h', g, d, tk', os⟩ ∧ Fr h1 L' h' m' ∧ News h1 L' h' news' ∧ V (retv fl) news'

theorem ret_of {h1 h' : Heap} {L' : Addr} {g : Array GenState} {d : Drawn} {os : OsState} {tk' : Nat} {V : Value → List (Addr × Obj) → Prop} {fl : Flow} {m' : Str → Option Value} {new all : List (Addr × Obj)} (F : Fr h1 L' h' m') (N : News h1 L' h' all) (hs : ∀ p ∈ new, p ∈ all)
    (hV : V (retv fl) new) : Ret h1 L' g d os V fl ⟨h', g, d, tk', os⟩ := ⟨m', new, h', tk', rfl, F, fun p hp => N p (hs p hp), hV⟩

section
variable {prog : Program} {w : World} {A : Around} {h : Heap} {K : Frag} {name qual : Str} {params : Arguments} {body : List Stmt} {scope : Scope} {dV kV doc pm cdv ct oc : Value} {an od : Option Addr} {osl : Array (Option Value)} {f : Addr} {args : Args} {binds : List (Str × Value)}

/-- a call's code, growing -/
structure CX (prog : Program) (w : World) (A : Around) (c : Code) (h : Heap) (V : Value → List (Addr × Obj) → Prop) : Prop where
  run : ∀ (h1 : Heap) (g : Array GenState) (d : Drawn) (tk : Nat) (os : OsState) (Q : Value → Shared → Prop) (E : Value → Shared → Prop), Le h h1 →
    (∀ v new h2 tk', Le h1 h2 → Fresh h1 h2 new → V v new → Q v ⟨h2, g, d, tk', os⟩) →
    codeAny (model prog w) A c (fun r s' => match r with | .ok (.ret v) => Q v s' | .ok _ => False | .error e => E e s') ⟨h1, g, d, tk, os⟩
theorem CX.ex {fv : Value} {pos : List Value} {kw : List (Str × Value)} {V : Value → List (Addr × Obj) → Prop} (x : CX prog w A (.call fv ⟨pos, kw⟩) h V) : EX prog w A (call fv pos kw) h V :=
  ⟨fun h1 g d tk os Q E le H => wpAny_call (x.run h1 g d tk os Q E le H)⟩
theorem CX.meth {q : Addr} {fv self : Value} {pos : List Value} {kw : List (Str × Value)} {V : Value → List (Addr × Obj) → Prop} (hq : h.get? q = some (methodObj fv self)) (x : CX prog w A (.call fv ⟨self :: pos, kw⟩) h V) : CX prog w A (.call (.ref q) ⟨pos, kw⟩) h V :=
  ⟨fun h1 g d tk os Q E le H => method_call (le _ _ hq) (x.run h1 g d tk os Q E le H)⟩
theorem CX.mono {c : Code} {V V' : Value → List (Addr × Obj) → Prop} (x : CX prog w A c h V) (hv : ∀ v new, V v new → V' v new) : CX prog w A c h V' :=
  ⟨fun h1 g d tk os Q E le H => x.run h1 g d tk os Q E le fun v new h2 tk' l f hV => H v new h2 tk' l f (hv _ _ hV)⟩
theorem cx_def {pos : List Value} {kw : List (Str × Value)} {V : Value → List (Addr × Obj) → Prop} (X₀ : K.In h) (hl : h.NoLimit)
    (ho : K.lookup f = some ⟨oc, od, .func (fnOf name qual params body scope dV kV doc pm an cdv ct), osl⟩) (hcd : codeIn K cdv qual = true) (hroom : A.depth < recursionLimit)
    (hbind : ∀ s : Shared, K.In s.heap → BindsTo s (fnOf name qual params body scope dV kV doc pm an cdv ct) ⟨pos, kw⟩ binds) (hloc : ∀ y ∈ binds, scope.names.lookup y.1 = some .local)
    (hb : ∀ h1 L' hh g d tk os, Le h h1 → Fr h1 L' hh (frm binds.reverse) →
      WP prog w (A.deeper (envOf qual scope L' f cdv)) (execs body (envOf qual scope L' f cdv)) (Ret h1 L' g d os V) ⟨hh, g, d, tk, os⟩)
    (hcell : ∀ x ∈ scope.names, x.2 ≠ .cell)
    (hco : scope.isCoroutine = false) (hgen : scope.isGenerator = false) (hk : scope.kind = .function) : CX prog w A (.call (.ref f) ⟨pos, kw⟩) h V := by
  refine ⟨fun h1 g d tk os Q E le H => ?_⟩
  refine (codeAny_call_def (fd := fnOf name qual params body scope dV kV doc pm an cdv ct) (body := body) (binds := binds) hroom (le _ _ (X₀ _ _ ho)) rfl (hl.keeps le) (codeRec_of (X₀.keeps le) hcd) rfl (hbind _ (X₀.keeps le)) hcell hloc (fun h₁ hns hk₁ => ?_) hco hgen hk)
  refine wpAny_mono (hb h1 _ h₁ g d _ os le ⟨hns, hk₁, Nat.le_refl _⟩).run (fun fl s' hr => ?_) fun _ _ y => y.elim
  obtain ⟨m', news', h', tk', rfl, F', N', hV⟩ := hr
  have z := H _ news' h' tk' F'.keep (fun p hp => ⟨(N' p hp).1, (N' p hp).2.2⟩) hV
  cases fl <;> exact z

theorem ex_def {pos : List Value} {kw : List (Str × Value)} {V : Value → List (Addr × Obj) → Prop} (X₀ : K.In h) (hl : h.NoLimit)
    (ho : K.lookup f = some ⟨oc, od, .func (fnOf name qual params body scope dV kV doc pm an cdv ct), osl⟩) (hcd : codeIn K cdv qual = true) (hroom : A.depth < recursionLimit)
    (hbind : ∀ s : Shared, K.In s.heap → BindsTo s (fnOf name qual params body scope dV kV doc pm an cdv ct) ⟨pos, kw⟩ binds) (hloc : ∀ y ∈ binds, scope.names.lookup y.1 = some .local)
    (hb : ∀ h1 L' hh g d tk os, Le h h1 → Fr h1 L' hh (frm binds.reverse) →
      WP prog w (A.deeper (envOf qual scope L' f cdv)) (execs body (envOf qual scope L' f cdv)) (Ret h1 L' g d os V) ⟨hh, g, d, tk, os⟩)
    (hcell : ∀ x ∈ scope.names, x.2 ≠ .cell)
    (hco : scope.isCoroutine = false) (hgen : scope.isGenerator = false) (hk : scope.kind = .function) : EX prog w A (call (.ref f) pos kw) h V :=
  (cx_def X₀ hl ho hcd hroom hbind hloc hb hcell hco hgen hk).ex

theorem ex_make {C fI : Addr} {rest : List Value} {kw : List (Str × Value)} {V : Value → List (Addr × Obj) → Prop} {bindsX : Addr → List (Str × Value)} (X₀ : K.In h) (hl : h.NoLimit) (hm : makesIn K C = true)
    (hi : findIn K (.ref C) "__init__" = some (some (.ref fI))) (hf : typeIn K (.ref fI) = some (.type "function"))
    (ho : K.lookup fI = some ⟨oc, od, .func (fnOf name qual params body scope dV kV doc pm an cdv ct), osl⟩) (hcd : codeIn K cdv qual = true) (hroom : (A.under (.builtin "type.__call__" ⟨.ref C :: rest, kw⟩)).depth < recursionLimit)
    (hbind : ∀ (x : Addr) (s : Shared), K.In s.heap → BindsTo s (fnOf name qual params body scope dV kV doc pm an cdv ct) ⟨.ref x :: rest, kw⟩ (bindsX x)) (hloc : ∀ x, ∀ y ∈ bindsX x, scope.names.lookup y.1 = some .local)
    (hb : ∀ h1 x dx L' hh g d tk os, Le h h1 → dx < x → x < L' → Fr h1 L' hh (frm (bindsX x).reverse) → News h1 L' hh [(x, instObj C dx), (dx, emptyDict)] →
      WP prog w ((A.under (.builtin "type.__call__" ⟨.ref C :: rest, kw⟩)).deeper (envOf qual scope L' fI cdv)) (execs body (envOf qual scope L' fI cdv))
        (fun fl s' => retv fl = .none ∧ Ret h1 L' g d os (fun _ => V (.ref x)) fl s') ⟨hh, g, d, tk, os⟩)
    (hcell : ∀ x ∈ scope.names, x.2 ≠ .cell)
    (hco : scope.isCoroutine = false) (hgen : scope.isGenerator = false) (hk : scope.kind = .function) : EX prog w A (call (.ref C) rest kw) h V := by
  refine ⟨fun h1 g d tk os Q E le H => ?_⟩
  have X := X₀.keeps le
  with_reducible refine wpAny_call ?_
  refine (make_core (makes_of X hm) (looks_findIn X hi) (fun self => bind_fn X self hf) (.inl rfl) ?_)
  have l2 : Le h1 ((h1.push emptyDict).push (instObj C h1.objs.size)) := fun b o e => Heap.get?_push_of_some _ (Heap.get?_push_of_some _ e)
  have hz : (h1.push emptyDict).objs.size = h1.objs.size + 1 := Heap.size_push ..
  refine codeAny_call_def (fd := fnOf name qual params body scope dV kV doc pm an cdv ct) (body := body) (binds := bindsX _) hroom (l2 _ _ (X _ _ ho)) rfl ((hl.keeps le).keeps l2) (codeRec_of (X.keeps l2) hcd) rfl (hbind _ _ (X.keeps l2)) hcell (hloc _) (fun h₁ hns hk₁ => ?_) hco hgen hk
  have e1 : h₁.get? (h1.objs.size + 1) = some (instObj C h1.objs.size) := hk₁ _ _ (by rw [← hz]; exact Heap.get?_push_size _ rfl)
  have e2 : h₁.get? h1.objs.size = some emptyDict := hk₁ _ _ (Heap.get?_push_of_some _ (Heap.get?_push_size _ rfl))
  have hz2 : ((h1.push emptyDict).push (instObj C h1.objs.size)).objs.size = h1.objs.size + 2 := by rw [Heap.size_push, hz]
  have fr : ∀ a, h1.objs.size ≤ a → h1.get? a = none := fun a ha => by
    cases e : h1.get? a with
    | none => rfl
    | some o' => exact absurd (Heap.lt_size e) (Nat.not_lt.mpr ha)
  refine wpAny_mono (hb h1 (h1.objs.size + 1) h1.objs.size _ h₁ g d _ os le (Nat.lt_succ_self _) ?_ ⟨hns, fun b o e => hk₁ b o (l2 b o e), ?_⟩ ?_).run (fun fl s' hr => ?_) fun _ _ y => y.elim
  · show h1.objs.size + 1 < ((h1.push emptyDict).push (instObj C h1.objs.size)).objs.size
    rw [hz2]; exact Nat.lt_succ_self _
  · show h1.objs.size ≤ ((h1.push emptyDict).push (instObj C h1.objs.size)).objs.size
    rw [hz2]; exact Nat.le_add_right ..
  · intro p hp
    have : p = (h1.objs.size + 1, instObj C h1.objs.size) ∨ p = (h1.objs.size, emptyDict) := by simpa using hp
    rcases this with rfl | rfl
    · exact ⟨e1, by show h1.objs.size + 1 ≠ ((h1.push emptyDict).push (instObj C h1.objs.size)).objs.size; rw [hz2]; exact Nat.ne_of_lt (Nat.lt_succ_self _), fr _ (Nat.le_succ _)⟩
    · exact ⟨e2, by show h1.objs.size ≠ ((h1.push emptyDict).push (instObj C h1.objs.size)).objs.size; rw [hz2]; exact Nat.ne_of_lt (Nat.lt_add_of_pos_right (by decide)), fr _ (Nat.le_refl _)⟩
  · obtain ⟨hn, m', news', h', tk', rfl, F', N', hV⟩ := hr
    have z := H _ news' h' tk' F'.keep (fun p hp => ⟨(N' p hp).1, (N' p hp).2.2⟩) hV
    cases fl <;> exact ⟨hn, z⟩
end
end Mine
end
section
set_option maxRecDepth 100000
set_option linter.unusedVariables false
open PySem PySem.W PyProof.Rows PySem.Calls PySem.Spec
namespace Mine
section
variable {prog : Program} {w : World} {A : Around} {h : Heap} {env : Env} {P : Value → Prop} {K : Frag} {h₀ : Heap} {L : Addr} {m : Str → Option Value} {l : List (Str × Value)} {news : List (Addr × Obj)}
  {g : Array GenState} {d : Drawn} {tk : Nat} {os : OsState} {E : Value → Shared → Prop} {Q : Flow → Shared → Prop}

/-- a frame that stores its locals in a dict -/
structure LocalEnv (env : Env) (L : Addr) : Prop where
  loc : env.locals = L
  fn : env.scope.kind = .function
theorem LocalEnv.no {env : Env} {L : Addr} (e : LocalEnv env L) : (env.scope.kind == .class || (env.scope.kind == .module && env.locals != env.globals)) = false := by rw [e.fn]; rfl

theorem st_store {x : Str} {v : Value} {Q : Unit → Shared → Prop} (F : Fr h₀ L h (frm l)) (N : News h₀ L h news)
    (H : ∀ h' tk', Fr h₀ L h' (frm ((x, v) :: l)) → News h₀ L h' news → (∀ b o, b ≠ L → h.get? b = some o → h'.get? b = some o) → Q () ⟨h', g, d, tk', os⟩)
    (hL : LocalEnv env L) (hl : env.kindOf x = some .local) :
    wpAny (model prog w) A (storeName env x v) Q E ⟨h, g, d, tk, os⟩ := by
  obtain ⟨rfl, hk⟩ := hL
  with_reducible refine wpAny_storeName_local (m := frm l) hl F.ns (fun h' hn hs => ?_) (LocalEnv.no ⟨rfl, hk⟩)
  rw [frm_cons] at hn
  exact H h' _ (F.set hn hs) (N.set hs) fun b o hb e => (hs.2 b hb).trans e

/-- the rest of a block behind a statement -/
def thenQ (prog : Program) (w : World) (A : Around) (env : Env) (rest : List Stmt) (Q : Flow → Shared → Prop) (f : Flow) (s' : Shared) : Prop := match f with
  | .next => wpAny (model prog w) A (execs rest env) Q (fun _ _ => False) s'
  | f => Q f s'
theorem thenQ_next {rest : List Stmt} {s : Shared} (H : WP prog w A (execs rest env) Q s) : thenQ prog w A env rest Q .next s := H.run
theorem thenQ_ret {rest : List Stmt} {v : Value} {s : Shared} (H : Q (.ret v) s) : thenQ prog w A env rest Q (.ret v) s := H
theorem thenQ_nil {s : Shared} (H : Q .next s) : thenQ prog w A env [] Q .next s := by
  show wpAny (model prog w) A (execs [] env) Q (fun _ _ => False) s
  with_reducible exact wpAny_execs_nil H
theorem wp_cons {st : Stmt} {rest : List Stmt} {s : Shared} (H : WP prog w A (exec st env) (thenQ prog w A env rest Q) s) : WP prog w A (execs (st :: rest) env) Q s :=
  ⟨by
    have h := H.run
    with_reducible refine wpAny_execs_cons ?_
    exact h⟩
theorem wp_nil {s : Shared} (H : Q .next s) : WP prog w A (execs [] env) Q s := ⟨by with_reducible exact wpAny_execs_nil H⟩

/-- one statement and the rest -/
theorem st_assign {x : Str} {p pos : Pos} {e : Expr} {rest : List Stmt} {V : Value → List (Addr × Obj) → Prop} (F : Fr h₀ L h (frm l)) (N : News h₀ L h news) (he : EX prog w A (eval e env) h V)
    (H : ∀ v new h' tk', V v new → Fr h₀ L h' (frm ((x, v) :: l)) → News h₀ L h' (new ++ news) → WP prog w A (execs rest env) Q ⟨h', g, d, tk', os⟩)
    (hL : LocalEnv env L) (hl : env.kindOf x = some .local) (hsw : swapsWith e (some (.Name x p)) pos.line env = pure false) :
    WP prog w A (execs (.Assign [.Name x p] e pos :: rest) env) Q ⟨h, g, d, tk, os⟩ :=
  ⟨by
    with_reducible refine wpAny_execs_cons (wpAny_Assign_Name (he.at fun v new h2 tk2 l2 f2 hv => ?_) hsw)
    exact st_store (fr_up F l2) (nw_add F N l2 f2) (fun h' tk' F' N' _ => (H v new h' tk' hv F' N').run) hL hl⟩
theorem st_assignI {x : Str} {p pos : Pos} {e : Expr} {rest : List Stmt} {P : Value → Prop} (F : Fr h₀ L h (frm l)) (N : News h₀ L h news) (he : EX prog w A (eval e env) h (Im P))
    (H : ∀ v h' tk', P v → Fr h₀ L h' (frm ((x, v) :: l)) → News h₀ L h' news → WP prog w A (execs rest env) Q ⟨h', g, d, tk', os⟩)
    (hL : LocalEnv env L) (hl : env.kindOf x = some .local) (hsw : swapsWith e (some (.Name x p)) pos.line env = pure false) :
    WP prog w A (execs (.Assign [.Name x p] e pos :: rest) env) Q ⟨h, g, d, tk, os⟩ :=
  st_assign F N he (fun v new h' tk' hv F' N' => by obtain ⟨rfl, hp⟩ := hv; exact H v h' tk' hp F' N') hL hl hsw

theorem st_ret {e : Expr} {pos : Pos} {rest : List Stmt} {V : Value → List (Addr × Obj) → Prop} (F : Fr h₀ L h m) (N : News h₀ L h news) (he : EX prog w A (eval e env) h V)
    (H : ∀ v new h' tk', V v new → Fr h₀ L h' m → News h₀ L h' (new ++ news) → Q (.ret v) ⟨h', g, d, tk', os⟩) :
    WP prog w A (execs (.Return (some e) pos :: rest) env) Q ⟨h, g, d, tk, os⟩ :=
  ⟨by
    with_reducible refine wpAny_execs_cons (wpAny_Return_some (he.at fun v new h2 tk2 l2 f2 hv => ?_))
    exact H v new h2 tk2 hv (fr_up F l2) (nw_add F N l2 f2)⟩

/-- an if, and the rest behind it -/
theorem st_if {test : Expr} {body orelse rest : List Stmt} {pos : Pos} {b : Bool} (F : Fr h₀ L h m) (N : News h₀ L h news) (ht : EX prog w A (PySem.isTrue test env (eval test env)) h (Im (· = b)))
    (H1 : b = true → ∀ h' tk', Fr h₀ L h' m → News h₀ L h' news → WP prog w A (execs body env) (thenQ prog w A env rest Q) ⟨h', g, d, tk', os⟩)
    (H2 : b = false → ∀ h' tk', Fr h₀ L h' m → News h₀ L h' news → WP prog w A (execs orelse env) (thenQ prog w A env rest Q) ⟨h', g, d, tk', os⟩) :
    WP prog w A (execs (.If test body orelse pos :: rest) env) Q ⟨h, g, d, tk, os⟩ := ⟨by
  refine (wp_cons (rest := rest) (Q := Q) ⟨?_⟩).run
  with_reducible refine wpAny_If (ht.at fun v new h2 tk2 l2 f2 hv => ?_)
  rw [hv.2]
  cases b with
  | true => rw [if_pos rfl]; exact (H1 rfl h2 tk2 (fr_up F l2) (nw_up N l2)).run
  | false => rw [if_neg (by decide)]; exact (H2 rfl h2 tk2 (fr_up F l2) (nw_up N l2)).run⟩
/-- an if that does nothing -/
theorem st_skip {test : Expr} {body rest : List Stmt} {pos : Pos} (F : Fr h₀ L h m) (N : News h₀ L h news) (ht : EX prog w A (PySem.isTrue test env (eval test env)) h (Im (· = false)))
    (H : ∀ h' tk', Fr h₀ L h' m → News h₀ L h' news → WP prog w A (execs rest env) Q ⟨h', g, d, tk', os⟩) :
    WP prog w A (execs (.If test body [] pos :: rest) env) Q ⟨h, g, d, tk, os⟩ := st_if F N ht (fun e => nomatch e) fun _ h' tk' F' N' => wp_nil (thenQ_next (H h' tk' F' N'))

/-- tests -/
theorem et_plain {e : Expr} {P : Value → Prop} {b : Bool} (he : EX prog w A (eval e env) h (Im P)) (hb : ∀ v, P v → EX prog w A (truthy v) h (Im (· = b)))
    (hr : PySem.isTrue e env (eval e env) = (do let v ← eval e env; standAt e.pos; holding [v] (truthy v)) := by kernel_rfl) : EX prog w A (PySem.isTrue e env (eval e env)) h (Im (· = b)) :=
  ex_seq he hb fun _ _ _ q => by with_reducible exact isTrue_plain q hr
theorem tr_int {i : Int} {v : Value} (hv : IsI i v) : EX prog w A (truthy v) h (Im (· = (i != 0))) := by
  obtain ⟨t, rfl⟩ := hv
  exact ⟨fun _ _ _ _ _ _ _ _ H => by with_reducible exact truthy_int (H _ [] _ _ Le.refl Fresh.nil ⟨rfl, rfl⟩)⟩
theorem tr_bool {b : Bool} {v : Value} (hv : IsB b v) : EX prog w A (truthy v) h (Im (· = b)) := by
  cases hv
  exact ⟨fun _ _ _ _ _ _ _ _ H => by with_reducible exact wpAny_truthy_bool (H _ [] _ _ Le.refl Fresh.nil ⟨rfl, rfl⟩)⟩
theorem tr_str {x : Str} {b : Bool} {v : Value} (hv : IsS x v) (hx : x.length < 2 ^ 63) (hb : ((x.length : Int) != 0) = b) : EX prog w A (truthy v) h (Im (· = b)) := by
  obtain ⟨t, rfl⟩ := hv
  have hx' : ¬ (x.length : Int) ≥ 2 ^ 63 := by omega
  exact ⟨fun _ _ _ _ _ _ _ _ H => by with_reducible exact PySem.P.truthy_str hx' (H _ [] _ _ Le.refl Fresh.nil ⟨rfl, hb⟩)⟩
theorem et_cmp {e1 e2 : Expr} {o : CmpOp} {p : Pos} {P1 P2 : Value → Prop} {b : Bool} {whole : Sem Value} (hop : ∀ a b', P1 a → P2 b' → EX prog w A (compareOp o a b') h (Im (IsB b)))
    (x1 : EX prog w A (eval e1 env) h (Im P1)) (x2 : EX prog w A (eval e2 env) h (Im P2)) (hb : behindInMarks o e2 = false := by kernel_rfl) :
    EX prog w A (PySem.isTrue (.Compare e1 [o] [e2] p) env whole) h (Im (· = b)) := by
  refine ⟨fun h1 g d tk os Q E le H => ?_⟩
  with_reducible refine wpAny_isTrue_Compare1 (x1.run h1 g d tk os _ E le fun a n1 h2 tk2 l2 f2 v1 => x2.run h2 g d tk2 os _ E (le.trans l2) fun b' n2 h3 tk3 l3 f3 v2 => ?_) hb
  refine (hop a b' v1.2 v2.2).run h3 g d tk3 os _ E ((le.trans l2).trans l3) fun v new h4 tk4 l4 f4 hV => ?_
  exact (tr_bool (h := h) hV.2).run h4 g d tk4 os _ E (((le.trans l2).trans l3).trans l4) fun c n5 h5 tk5 l5 f5 hc => H c [] h5 tk5 (((l2.trans l3).trans l4).trans l5) Fresh.nil ⟨rfl, hc.2⟩
theorem et_and {x : Expr} {rest : List Expr} {pos : Pos} {b1 b2 : Bool} {whole : Sem Value} (h1 : EX prog w A (PySem.isTrue x env (eval x env)) h (Im (· = b1)))
    (h2 : b1 = true → EX prog w A (PySem.isTrue (.BoolOp .And rest pos) env whole) h (Im (· = b2))) : EX prog w A (PySem.isTrue (.BoolOp .And (x :: rest) pos) env whole) h (Im (· = (b1 && b2))) := by
  refine ⟨fun h1' g d tk os Q E le H => ?_⟩
  with_reducible refine isTrue_and (h1.run h1' g d tk os _ E le fun c n h2' tk2 l2 f2 hc => ?_)
  rw [hc.2]
  cases b1 with
  | false => rw [if_neg (by decide)]; exact H _ [] h2' tk2 l2 Fresh.nil ⟨rfl, rfl⟩
  | true => rw [if_pos rfl]; exact (h2 rfl).run h2' g d tk2 os Q E (le.trans l2) fun v n3 h3 tk3 l3 f3 hv => H v [] h3 tk3 (l2.trans l3) Fresh.nil ⟨rfl, hv.2⟩
theorem et_and_nil {pos : Pos} {whole : Sem Value} : EX prog w A (PySem.isTrue (.BoolOp .And [] pos) env whole) h (Im (· = true)) := ⟨fun _ _ _ _ _ _ _ _ H => by with_reducible exact PyProof.Rows.isTrue_and_nil (H _ [] _ _ Le.refl Fresh.nil ⟨rfl, rfl⟩)⟩
theorem et_or {x : Expr} {rest : List Expr} {pos : Pos} {b1 b2 : Bool} {whole : Sem Value} (h1 : EX prog w A (PySem.isTrue x env (eval x env)) h (Im (· = b1)))
    (h2 : b1 = false → EX prog w A (PySem.isTrue (.BoolOp .Or rest pos) env whole) h (Im (· = b2))) : EX prog w A (PySem.isTrue (.BoolOp .Or (x :: rest) pos) env whole) h (Im (· = (b1 || b2))) := by
  refine ⟨fun h1' g d tk os Q E le H => ?_⟩
  with_reducible refine isTrue_or (h1.run h1' g d tk os _ E le fun c n h2' tk2 l2 f2 hc => ?_)
  rw [hc.2]
  cases b1 with
  | true => rw [if_pos rfl]; exact H _ [] h2' tk2 l2 Fresh.nil ⟨rfl, rfl⟩
  | false => rw [if_neg (by decide)]; exact (h2 rfl).run h2' g d tk2 os Q E (le.trans l2) fun v n3 h3 tk3 l3 f3 hv => H v [] h3 tk3 (l2.trans l3) Fresh.nil ⟨rfl, hv.2⟩
theorem et_or_nil {pos : Pos} {whole : Sem Value} : EX prog w A (PySem.isTrue (.BoolOp .Or [] pos) env whole) h (Im (· = false)) := ⟨fun _ _ _ _ _ _ _ _ H => by with_reducible exact PyProof.Rows.isTrue_or_nil (H _ [] _ _ Le.refl Fresh.nil ⟨rfl, rfl⟩)⟩
theorem et_not {x : Expr} {pos : Pos} {b : Bool} {whole : Sem Value} (h1 : EX prog w A (PySem.isTrue x env (eval x env)) h (Im (· = b))) : EX prog w A (PySem.isTrue (.UnaryOp .Not x pos) env whole) h (Im (· = !b)) :=
  ⟨fun h1' g d tk os Q E le H => by
    with_reducible refine isTrue_not (h1.run h1' g d tk os _ E le fun c n h2' tk2 l2 f2 hc => ?_)
    exact H _ [] h2' tk2 l2 Fresh.nil ⟨rfl, by rw [hc.2]⟩⟩

/-- slices and lengths of texts -/
theorem ex_sliceS {value e1 e2 : Expr} {p pos : Pos} {x : Str} {i j : Int} (hv : EX prog w A (eval value env) h (Im (IsS x))) (h1 : EX prog w A (eval e1 env) h (Im (IsI i))) (h2 : EX prog w A (eval e2 env) h (Im (IsI j))) (hsz : x.length ≤ sizeLine)
    (ht : ∀ o r, letTemporaryGo value o r = pure () := by intro _ _; kernel_rfl) :
    EX prog w A (eval (.Subscript value (.Slice (some e1) (some e2) none p) pos) env) h (Im (IsS (Txt.slice x (some i) (some j)))) := by
  refine ⟨fun ha g d tk os Q E le H => ?_⟩
  refine wpAny_Subscript_str_slice (hv.run ha g d tk os _ E le fun o n h2' tk2 l2 f2 ho => h1.run h2' g d tk2 os _ E (le.trans l2) fun vl n3 h3 tk3 l3 f3 hl => h2.run h3 g d tk3 os _ E ((le.trans l2).trans l3) fun vu n4 h4 tk4 l4 f4 hu => ?_) ht
  obtain ⟨t, rfl⟩ := ho.2; obtain ⟨u1, rfl⟩ := hl.2; obtain ⟨u2, rfl⟩ := hu.2
  refine ⟨x, t, some (i, u1), some (j, u2), rfl, rfl, rfl, ?_⟩
  exact post_val_or_str ⟨Nat.le_trans (Txt.slice_le x (some i) (some j)) hsz, fun t' k => H _ [] _ _ (((l2.trans l3).trans l4).trans fun b o e => Heap.get?_push_of_some _ e) Fresh.nil ⟨rfl, isS⟩⟩
theorem cl_lenS {v : Value} {x : Str} (hv : IsS x v) (hx : x.length < 2 ^ 63) : EX prog w A (call (.builtin "len") [v]) h (Im (IsI x.length)) := by
  obtain ⟨t, rfl⟩ := hv
  have hx' : ¬ (x.length : Int) ≥ 2 ^ 63 := by omega
  exact ⟨fun _ _ _ _ _ _ _ _ H => by with_reducible exact len_str hx' (H _ [] _ _ Le.refl Fresh.nil ⟨rfl, isI⟩)⟩
theorem cl_lenL {a : Addr} {its : Array Value} (hl : h.IsList a its) (hx : its.size < 2 ^ 63) : EX prog w A (call (.builtin "len") [.ref a]) h (Im (IsI its.size)) := by
  have hx' : (its.size : Int) < 2 ^ 63 := by omega
  exact ⟨fun h1 _ _ _ _ _ _ le H => by
    have hl' : h1.IsList a its := list_up hl le
    with_reducible exact PyProof.Rows.len_list hl' hx' (H _ [] _ _ Le.refl Fresh.nil ⟨rfl, isI⟩)⟩
theorem cl_join {a : Value} {sep : Str} {D : Addr} {l : List (Str × Tok)} {texts : List Str} (ha : IsS sep a) (hl : h.IsList D (strValues l).toArray) (ht : l.map (·.1) = texts) (hj : JoinOk sep texts = true) :
    EX prog w A (call (.builtin "str.join") [a, .ref D]) h (Im (IsS (Txt.join sep texts))) := by
  obtain ⟨t, rfl⟩ := ha
  exact ⟨fun h1 _ _ _ _ _ _ le H => by
    have hl' : h1.IsList D (strValues l).toArray := list_up hl le
    with_reducible exact SC.join hl' ht hj fun t' k => H _ [] _ _ Le.refl Fresh.nil ⟨rfl, isS⟩⟩
theorem gm_join {a : Value} {sep : Str} {pl : Sem Bool} (ha : IsS sep a) : EX prog w A (getMethod a (Str.ofString "join") pl) h (Im (· = (.builtin "str.join", [a]))) := by
  obtain ⟨t, rfl⟩ := ha
  exact ⟨fun _ _ _ _ _ _ _ le H => by with_reducible exact GM.join (H _ [] _ _ Le.refl Fresh.nil ⟨rfl, rfl⟩)⟩
end
end Mine
end
section
set_option maxRecDepth 100000
set_option linter.unusedVariables false
open PySem PySem.W PyProof.Rows PySem.Calls PySem.Spec
namespace Mine
section
variable {prog : Program} {w : World} {A : Around} {h : Heap} {env : Env} {P : Value → Prop} {K : Frag} {h₀ : Heap} {L : Addr} {m : Str → Option Value} {news : List (Addr × Obj)}
  {g : Array GenState} {d : Drawn} {tk : Nat} {os : OsState} {E : Value → Shared → Prop} {Q : Flow → Shared → Prop}

theorem keeps_le {s s' : Shared} (k : Keeps s s') : ∃ h' tk, s' = { s with heap := h', toks := tk } ∧ Le s.heap h' := k
/-- from EX to a comprehension's element -/
theorem EX.keeps {t : Sem Value} {P : Value → Prop} {s : Shared} {E' : Value → Shared → Prop} (x : EX prog w A t s.heap (Im P)) : wpAny (model prog w) A t (fun y s₃ => P y ∧ Keeps s s₃) E' s := by
  obtain ⟨hh, g, d, tk, os⟩ := s
  exact x.at fun v n h2 tk2 l2 f2 hv => ⟨hv.2, h2, tk2, rfl, l2⟩
theorem EX.keepsB {t : Sem Bool} {b : Bool} {s : Shared} {E' : Value → Shared → Prop} (x : EX prog w A t s.heap (Im (· = b))) : wpAny (model prog w) A t (fun y s₃ => y = b ∧ Keeps s s₃) E' s := by
  obtain ⟨hh, g, d, tk, os⟩ := s
  exact x.at fun v n h2 tk2 l2 f2 hv => ⟨hv.2, h2, tk2, rfl, l2⟩

theorem ex_or {x y : Expr} {pos : Pos} {P1 : Value → Prop} {b : Bool} {P : Value → Prop} (h1 : EX prog w A (eval x env) h (Im P1)) (ht : ∀ v, P1 v → EX prog w A (truthy v) h (Im (· = b)))
    (h2 : b = false → EX prog w A (eval y env) h (Im P)) (h3 : b = true → ∀ v, P1 v → P v) : EX prog w A (eval (.BoolOp .Or [x, y] pos) env) h (Im P) := by
  refine ⟨fun h1' g d tk os Q E le H => ?_⟩
  with_reducible refine wpAny_Or2 (h1.run h1' g d tk os _ E le fun v n h2' tk2 l2 f2 hv => (ht v hv.2).run h2' g d tk2 os _ E (le.trans l2) fun c n3 h3' tk3 l3 f3 hc => ?_)
  rw [hc.2]
  cases b with
  | true => rw [if_pos rfl]; exact H v [] h3' tk3 (l2.trans l3) Fresh.nil ⟨rfl, h3 rfl v hv.2⟩
  | false => rw [if_neg (by decide)]; exact (h2 rfl).run h3' g d tk3 os Q E ((le.trans l2).trans l3) fun y n4 h4 tk4 l4 f4 hy => H y [] h4 tk4 ((l2.trans l3).trans l4) Fresh.nil ⟨rfl, hy.2⟩

/-- a comprehension over a list, its element immediate, by the value -/
theorem ex_comp {elt iter : Expr} {x : Str} {px : Pos} {ifs : List Expr} {scope : Scope} {cl : List (Str × Addr)} {pos : Pos} {ax : Addr} {items : List Value} (p : Value → Bool) (F : Value → Value → Prop)
    (hh : A.handled = none) (hclos : closureFor scope env = pure cl) (hcell : ∀ y ∈ scope.names, y.2 ≠ .cell) (hkind : scope.kind = .function)
    (hnames : ∀ y ∈ scope.names, y.2 = .local → scope.names.lookup y.1 = some .local) (hx : scope.names.lookup x = some .local)
    (hit : EX prog w A (eval iter env) h (Im (· = .ref ax))) (hl : h.IsList ax items.toArray) (hsz : items.length ≤ sizeLine)
    (htest : ∀ C v h2 m₂, v ∈ items → Le h h2 → h2.Ns C m₂ → m₂ x = some v →
      EX prog w A (forIn ifs true fun c r => if r = true then do let ok ← PySem.isTrue c (compEnvC scope cl C env) (eval c (compEnvC scope cl C env)); pure (ForInStep.yield ok) else pure (ForInStep.yield r)) h2 (Im (· = p v)))
    (helt : ∀ C v h2 m₂, v ∈ items → p v = true → Le h h2 → h2.Ns C m₂ → m₂ x = some v → EX prog w A (eval elt (compEnvC scope cl C env)) h2 (Im (F v)))
    (hs : ∀ x, foldedSetIterable iter env x = pure x := by intro _; kernel_rfl) :
    EX prog w A (eval (.ListComp elt [⟨.Name x px, iter, ifs, 0⟩] scope pos) env) h
      (fun v new => ∃ (D : Addr) (ys : List Value) (n : Nat), v = .ref D ∧ new = [(D, { cls := .type "list", data := .seq ys.toArray n })] ∧ Paired F (items.filter p) ys) := by
  refine ⟨fun h1 g d tk os Q E le H => ?_⟩
  with_reducible refine wpAny_ListComp_free p F hclos hcell hkind hnames hx (hit.run h1 g d tk os _ E le fun xv n h2 tk2 l2 f2 hv => ?_) hs
  rw [hv.2]
  have hl2 : h2.IsList ax items.toArray := list_up hl (le.trans l2)
  with_reducible refine wpAny_pyIter_list hl2 ?_
  obtain ⟨ol, hol, hol'⟩ := id hl2
  have hlt : ax < h2.objs.size := Heap.lt_size hol
  have hne : ax ≠ h2.objs.size := Nat.ne_of_lt hlt
  have lp : Le h2 (h2.push { cls := .type "list_iterator", data := .fields #[.ref ax, .int 0 0] }) := fun b o e => Heap.get?_push_of_some _ e
  have hnone : h2.get? h2.objs.size = none := by
    cases e : h2.get? h2.objs.size with
    | none => rfl
    | some o' => exact absurd (Heap.lt_size e) (Nat.lt_irrefl _)
  have wrok : ∀ (s₃ : Shared), (∀ b o, b ∉ [h2.objs.size] → (h2.push { cls := .type "list_iterator", data := .fields #[.ref ax, .int 0 0] }).get? b = some o → s₃.heap.get? b = some o) → Le h2 s₃.heap := fun s₃ hk b o e =>
    hk b o (fun hm => by rw [List.mem_singleton.mp hm, hnone] at e; cases e) (lp b o e)
  refine ⟨h2.objs.size, _, _, items.toArray.size, _, _, rfl, Walks.list hh _ ax hne items.toArray, by rw [List.size_toArray]; exact hsz, ⟨⟨_, Heap.get?_push_size _ rfl, rfl, rfl⟩, list_up hl2 lp⟩, ?_, ⟨?_, ?_⟩, ?_⟩
  · intro b hb
    show b < (h2.push _).objs.size
    rw [Heap.size_push]
    rcases List.mem_cons.mp hb with rfl | hb
    · exact Nat.lt_succ_self _
    · rw [List.mem_singleton.mp hb]; exact Nat.lt_succ_of_lt hlt
  · intro C i v s₃ m₃ E' hC hP hn hm hk htk
    exact (htest C v s₃.heap m₃ (Array.mem_toList_iff.mpr (Array.mem_of_getElem? hP)) ((le.trans l2).trans (wrok s₃ hk)) hn hm).keepsB
  · intro C i v s₃ m₃ E' hC hP hpv hn hm hk htk
    exact (helt C v s₃.heap m₃ (Array.mem_toList_iff.mpr (Array.mem_of_getElem? hP)) hpv ((le.trans l2).trans (wrok s₃ hk)) hn hm).keeps
  · intro D h' tk' ys vs hD hLD hPL hlen hP hF hk
    have hvs : vs = items := by
      have := list_of_places (items := items.toArray) hlen hP
      rw [this]
    subst hvs
    obtain ⟨n', hn'⟩ := hPL
    obtain ⟨ys⟩ := ys
    refine H _ _ h' tk' (l2.trans (wrok ⟨h', g, d, tk', os⟩ hk)) ?_ ⟨D, ys, n', rfl, rfl, hF⟩
    intro q hq
    rw [List.mem_singleton.mp hq]
    refine ⟨hn', ?_⟩
    have : Le h1 (h2.push { cls := .type "list_iterator", data := .fields #[.ref ax, .int 0 0] }) := l2.trans lp
    exact this.none hD
end
end Mine
end
section
set_option maxRecDepth 100000
set_option linter.unusedVariables false
open PySem PySem.W PyProof.Rows PySem.Calls PySem.Spec
namespace Mine
section
variable {prog : Program} {w : World} {A : Around} {h : Heap} {env : Env} {P : Value → Prop} {K : Frag} {h₀ : Heap} {L : Addr} {m : Str → Option Value} {news : List (Addr × Obj)}
  {g : Array GenState} {d : Drawn} {tk : Nat} {os : OsState} {E : Value → Shared → Prop} {Q : Flow → Shared → Prop}

theorem paired_one {F : Value → Value → Prop} {a : Value} {ys : List Value} (h : Paired F [a] ys) : ∃ b, ys = [b] ∧ F a b := by
  cases h with
  | cons h1 h2 => cases h2; exact ⟨_, rfl, h1⟩

theorem joinOk_one {x : Str} (hx : x.length ≤ 1000) : JoinOk (Str.ofString "") [x] = true := by
  refine joinOk_of ?_
  have : (Str.ofString "").length = 0 := by decide
  simp only [List.map_cons, List.map_nil, List.sum_cons, List.sum_nil, List.length_cons, List.length_nil, this]
  omega

/-- ''.join([piece or '' for piece in E]) where E is a list of one text that is not empty -/
theorem ex_pieces {k k2 : Nat} {p0 ap p1 p2 p3 p4 p5 p6 : Pos} {iter : Expr} {scope : Scope} {r0 : Addr} {x : Str} {t : Tok}
    (hh : A.handled = none) (hsc : scope = { kind := .function, names := [(Str.ofString ".0", .local), (Str.ofString "piece", .local)], isGenerator := false, isCoroutine := false, more := [] })
    (hit : EX prog w A (eval iter env) h (Im (· = .ref r0))) (hl : h.IsList r0 [Value.str x t].toArray) (hx0 : 0 < x.length) (hx : x.length ≤ 1000) (hs : ∀ x, foldedSetIterable iter env x = pure x)
    (hr : MCall (.Constant (.str (Str.ofString "")) k p0) (Str.ofString "join") ap p6 [.ListComp (.BoolOp .Or [.Name (Str.ofString "piece") p1, .Constant (.str (Str.ofString "")) k2 p2] p3) [⟨.Name (Str.ofString "piece") p4, iter, [], 0⟩] scope p5] env) :
    EX prog w A (eval (.Call (.Attribute (.Constant (.str (Str.ofString "")) k p0) (Str.ofString "join") ap) [.ListComp (.BoolOp .Or [.Name (Str.ofString "piece") p1, .Constant (.str (Str.ofString "")) k2 p2] p3) [⟨.Name (Str.ofString "piece") p4, iter, [], 0⟩] scope p5] [] p6) env) h (Im (IsS x)) := by
  subst hsc
  refine ex_meth (P1 := IsS (Str.ofString "")) ex_str (fun a ha => gm_join ha) (fun a ha => ?_) hr
  refine drop_new (cw_builtinM (exs_one (ex_comp (fun _ => true) (fun v y => y = v) hh (closureFor_none (by decide +kernel)) (by decide +kernel) rfl (by decide +kernel) (by decide +kernel) hit hl (by show 1 ≤ sizeLine; decide) ?_ ?_ hs)) ?_)
  · intro C v h2 m₂ hv le hn hm
    exact EX.pure (V := Im (· = true)) ⟨rfl, rfl⟩
  · intro C v h2 m₂ hv _ le hn hm
    have hv' : v = .str x t := by simpa using hv
    subst hv'
    have hx1 : ((x.length : Int) != 0) = true := by simp; omega
    exact ex_or (P1 := fun y => y = .str x t) (b := true) (ex_local (env := compEnvC _ _ C env) hn hm rfl (by kernel_rfl) (by kernel_rfl) (by kernel_rfl)) (fun v hv => by subst hv; exact tr_str isS (by omega) hx1) (fun e => nomatch e) fun _ v hv => hv
  · intro vs new h2 le hn hv
    obtain ⟨v, rfl, D, ys, n, rfl, rfl, hp⟩ := hv
    obtain ⟨b, rfl, rfl⟩ := paired_one hp
    have hD : h2.IsList D (strValues [(x, t)]).toArray := ⟨_, hn _ (.head _), rfl, n, rfl⟩
    have z := cl_join (prog := prog) (w := w) (A := A) ha hD (texts := [x]) rfl (joinOk_one hx)
    exact z.mono fun v new hv => hv.2
end
end Mine
end
section
set_option maxRecDepth 100000
set_option linter.unusedVariables false
open PySem PySem.W PyProof.Rows PySem.Calls PySem.Spec
namespace Mine
abbrev PG : Program := PySem.Challenge.rw_af5026_01.prog
/-- what the top laid, at a heap -/
structure TX (w : World) (h : Heap) : Prop where
  X : (capK.heap_1 w.params).In h
  lim : h.NoLimit
  g : ∃ mg, h.Ns mainGlobals mg
  b : ∃ mb, h.Ns builtinsNs mb ∧ ∀ x : Str, x ≠ Str.ofString "__name__" → mb x = bootBuiltins x
theorem TX.up {w : World} {h h' : Heap} (t : TX w h) (le : Le h h') : TX w h' := ⟨t.X.keeps le, t.lim.keeps le, let ⟨mg, x⟩ := t.g; ⟨mg, ns_up x le⟩, let ⟨mb, x, y⟩ := t.b; ⟨mb, ns_up x le, y⟩⟩
theorem TX.of {w : World} {p : Program} {loose : List Str} {mg mb : Str → Option Value} {h : Heap} (X : (capK.heap_1 w.params).In h) (T : TopRead p loose mg mb h) : TX w h := ⟨X, T.nolimit, ⟨_, T.g⟩, ⟨_, T.b, T.builtins⟩⟩
/-- the kit's own note of the written heap (once a file) -/
theorem fillK (w : World) (h : Heap) : (capK.heap_1 w.params).In h → PySem.Challenge.rw_af5026_01.prog = PySem.Challenge.rw_af5026_01.prog := by k_fill; intro _; rfl

section
variable {prog : Program} {w : World} {A : Around} {h : Heap} {env : Env} {P : Value → Prop} {h₀ : Heap} {L : Addr} {m : Str → Option Value} {l : List (Str × Value)} {news : List (Addr × Obj)}
  {g : Array GenState} {d : Drawn} {tk : Nat} {os : OsState} {E : Value → Shared → Prop} {Q : Flow → Shared → Prop}
theorem ex_global {x : Str} {p : Pos} {v : Value} (t : TX w h) (e : nsIn (capK.heap_1 w.params) mainGlobals x = some (some v)) (hP : P v) (hx : env.kindOf x = some .globalImplicit) (hk : env.scope.kind = .function) (hg : env.globals = mainGlobals) (hd : (x == ("__debug__" : Str)) = false) :
    EX prog w A (eval (.Name x p) env) h (Im P) := ⟨fun h1 _ _ _ _ _ _ le H => by
  obtain ⟨mg, G⟩ := (t.up le).g
  have hv := mg_of (t.up le).X G e
  rw [← hg] at G
  with_reducible exact Calls.Name_function_global hk hx (Calls.loadGlobal_global (env := env) G hv (H _ [] _ _ Le.refl Fresh.nil ⟨rfl, hP⟩)) hd⟩
theorem ex_builtin {x : Str} {p : Pos} {v : Value} (t : TX w h) (e : nsIn (capK.heap_1 w.params) mainGlobals x = some none) (hv : bootBuiltins x = some v) (hn : x ≠ Str.ofString "__name__") (hP : P v) (hx : env.kindOf x = some .globalImplicit) (hk : env.scope.kind = .function) (hg : env.globals = mainGlobals) (hb : env.builtins = builtinsNs) (hd : (x == ("__debug__" : Str)) = false) :
    EX prog w A (eval (.Name x p) env) h (Im P) := ⟨fun h1 _ _ _ _ _ _ le H => by
  obtain ⟨mg, G⟩ := (t.up le).g
  obtain ⟨mb, B, B2⟩ := (t.up le).b
  have hm := mg_none_of (t.up le).X G e
  have hv' := (B2 x hn).trans hv
  rw [← hg] at G
  rw [← hb] at B
  with_reducible exact Calls.Name_function_global hk hx (Calls.loadGlobal_builtin (env := env) G hm B hv' (H _ [] _ _ Le.refl Fresh.nil ⟨rfl, hP⟩)) hd⟩

theorem inst_mk {h : Heap} {x C dx : Addr} {es : List DictEntry} {n : Nat} (a : h.get? x = some (instObj C dx)) (b : h.get? dx = some (dictOf es n)) : W.InstAt h x (instObj C dx) C (some (dictOf es n)) := ⟨a, rfl, rfl, b⟩
/-- a key of an object's dict -/
abbrev ent (w : World) (n : Str) (t : Tok) (v : Value) : DictEntry := ⟨PyData.keyHash w.params n, .str n t, v⟩

theorem ex_at {K : Frag} {y name : Str} {p1 p2 : Pos} {x C : Addr} {ox : Obj} {es : List DictEntry} {n : Nat} {v : Value} {attr : Option Value} (he : EX prog w A (eval (.Name y p1) env) h (Im (· = .ref x))) (F : Fr h₀ L h m) (X₀ : K.In h₀) (I : W.InstAt h x ox C (some (dictOf es n)))
    (h1 : plainGet K C name = true) (h2 : hasDictIn K C = true) (h3 : findIn K (.ref C) name = some attr) (h4 : noGet K attr = true) (hl : getL name es = some (some v)) (hh : handedIn v = true) (hP : P v) :
    EX prog w A (eval (.Attribute (.Name y p1) name p2) env) h (Im P) :=
  ex_seq (op := fun o => getAttr o name true) he (fun a ha => by
    subst ha
    exact ⟨fun h1' _ _ _ _ _ _ le H => by
      have F' := fr_up F le
      have I' := inst_up I le
      with_reducible exact get_own F' X₀ I' h1 h2 h3 h4 hl hh (H _ [] _ _ Le.refl Fresh.nil ⟨rfl, hP⟩)⟩) fun _ _ _ q => by with_reducible exact Attribute_Name_ q
theorem gm_inst {K : Frag} {x C f : Addr} {ox : Obj} {es : List DictEntry} {n : Nat} {name : Str} {pl : Sem Bool} (F : Fr h₀ L h m) (X₀ : K.In h₀) (I : W.InstAt h x ox C (some (dictOf es n))) (hg : plainGet K C name = true) (hf : findIn K (.ref C) name = some (some (.ref f)))
    (hfn : isFn K (.ref f) = true) (hl : getL name es = some none) : EX prog w A (getMethod (.ref x) name pl) h (Im (· = (.ref f, [.ref x]))) := ⟨fun h1 _ _ _ _ _ _ le H => by
  have F' := fr_up F le
  have I' := inst_up I le
  with_reducible exact method_inst F' X₀ I' hg hf hfn hl (H _ [] _ _ Le.refl Fresh.nil ⟨rfl, rfl⟩)⟩
theorem tr_inst {K : Frag} {x C : Addr} {ox : Obj} {od : Option Obj} (F : Fr h₀ L h m) (X₀ : K.In h₀) (I : W.InstAt h x ox C od) (h1 : findIn K (.ref C) "__bool__" = some none) (h2 : findIn K (.ref C) "__len__" = some none) : EX prog w A (truthy (.ref x)) h (Im (· = true)) := ⟨fun h1' _ _ _ _ _ _ le H => by
  have F' := fr_up F le
  have I' := inst_up I le
  with_reducible exact truthy_K0 F' X₀ I' h1 h2 (H _ [] _ _ Le.refl Fresh.nil ⟨rfl, rfl⟩)⟩

theorem upd_app {dd : Addr} {o o' : Obj} : ∀ {a b r : List (Addr × Obj)}, Upd dd o o' a b → (∀ p ∈ r, p.1 ≠ dd) → Upd dd o o' (a ++ r) (b ++ r)
  | _, _, r, .head hh, hr => .head fun p hp => (List.mem_append.mp hp).elim (hh p) (hr p)
  | _, _, r, .tail hne u, hr => .tail hne (upd_app u hr)
theorem nw_swap {a b : List (Addr × Obj)} (N : News h₀ L h (a ++ b)) : News h₀ L h (b ++ a) := fun p hp => N p (List.mem_append.mpr (List.mem_append.mp hp).symm)

/-- x.attr = e, x an object of the ledger -/
theorem st_setattr {K : Frag} {C x dx : Addr} {o e : Expr} {attr : Str} {p' pos : Pos} {rest : List Stmt} {es : List DictEntry} {n : Nat} {V : Value → List (Addr × Obj) → Prop} {news' : Tok → Value → List (Addr × Obj)} (F : Fr h₀ L h m) (X₀ : K.In h₀) (N : News h₀ L h news)
    (he : EX prog w A (eval e env) h V) (ho : EX prog w A (eval o env) h (Im (· = .ref x))) (hx : (x, instObj C dx) ∈ news) (hdx : (dx, dictOf es n) ∈ news)
    (U : ∀ t v, Upd dx (dictOf es n) (dictOf (putL attr (PyData.keyHash w.params attr) (.str attr t) v es) (putN attr es n)) news (news' t v))
    (H : ∀ v new t h' tk', V v new → Fr h₀ L h' m → News h₀ L h' (new ++ news' t v) → WP prog w A (execs rest env) Q ⟨h', g, d, tk', os⟩)
    (hs : findIn K (.ref C) "__setattr__" = some (some (.builtin "object.__setattr__"))) (hp : plainOver K C = true) (ht : takerIn K C attr = some none) (hh : hasDictIn K C = true) (hl : (getL attr es).isSome = true) (hz : (putL attr 0 .none .none es).length ≤ 1000)
    (hsw : swapsWith e (some (.Attribute o attr p')) pos.line env = pure false) :
    WP prog w A (execs (.Assign [.Attribute o attr p'] e pos :: rest) env) Q ⟨h, g, d, tk, os⟩ := by
  refine wp_cons ⟨?_⟩
  with_reducible refine plainObj_wpAny_Assign_Attribute ?_ hsw
  refine he.at fun v new h2 tk2 l2 f2 hv => ho.run h2 g d tk2 os _ _ l2 fun ov n3 h3 tk3 l3 f3 hov => ?_
  rw [hov.2]
  have F3 := fr_up F (l2.trans l3)
  have N3 : News h₀ L h3 (news ++ new) := nw_swap (nw_up (nw_add F N l2 f2) l3)
  have ne : ∀ p ∈ new, p.1 ≠ dx := fun p hp e => by
    have := (f2 p hp).2
    rw [e, (N _ hdx).1] at this; cases this
  have I : W.InstAt h3 x (instObj C dx) C (some (dictOf es n)) := inst_mk (N3 _ (List.mem_append_left _ hx)).1 (N3 _ (List.mem_append_left _ hdx)).1
  have hlen : ∀ a b c, (putL attr a b c es).length = (putL attr 0 .none .none es).length := by
    intro a b c
    clear U hdx hl hz ne I hx N
    induction es with
    | nil => rfl
    | cons e r ih => unfold putL; split <;> simp [ih]
  exact set_dict (s := ⟨h3, g, d, tk3, os⟩) F3 X₀ N3 I rfl hs hp ht hh hl rfl (upd_app (U _ _) ne) (by rw [hlen]; exact hz) fun h' F' N' => (H v new _ h' _ hv F' (nw_swap N')).run
end
end Mine
end
section
set_option maxRecDepth 100000
set_option linter.unusedVariables false
open PySem PySem.W PyProof.Rows PySem.Calls PySem.Spec
namespace Mine
/-- an iterator that turns itself alone, over a source -/
structure ItOf (prog : Program) (w : World) (A : Around) (I : Addr) (n : Nat) (P : Nat → Value → Prop) (St : Nat → Obj → Prop) (Src : Heap → Prop) : Prop where
  item : ∀ i o (h : Heap) g d tk os (Q : Option Value → Shared → Prop) (E : Value → Shared → Prop), i < n → Src h → h.get? I = some o → St i o →
    (∀ v o' h' tk', P i v → St (i + 1) o' → h'.get? I = some o' → (∀ b ob, b ≠ I → h.get? b = some ob → h'.get? b = some ob) → Q (some v) ⟨h', g, d, tk', os⟩) → wpAny (model prog w) A (pyNext (.ref I)) Q E ⟨h, g, d, tk, os⟩
  done : ∀ o (h : Heap) g d tk os (Q : Option Value → Shared → Prop) (E : Value → Shared → Prop), Src h → h.get? I = some o → St n o →
    (∀ h' tk', (∀ b ob, b ≠ I → h.get? b = some ob → h'.get? b = some ob) → Q none ⟨h', g, d, tk', os⟩) → wpAny (model prog w) A (pyNext (.ref I)) Q E ⟨h, g, d, tk, os⟩

theorem itOf_list {prog : Program} {w : World} {A : Around} {I ax : Addr} {items : List Value} (hh : A.handled = none) :
    ItOf prog w A I items.length (fun i v => items[i]? = some v) (fun i o => o.cls = .type "list_iterator" ∧ o.data = .fields #[.ref ax, .int i 0]) (fun h => h.IsList ax items.toArray) where
  item := fun i o h g d tk os Q E hi hs ho hst H => by
    have hit : h.IsListIter I ax i := ⟨o, ho, hst⟩
    have hx : items.toArray[i]? = some items[i] := by simp [hi]
    refine wpAny_pyNext_list_item (s := ⟨h, g, d, tk, os⟩) hit hs hx fun h' hit' hsb => ?_
    obtain ⟨o', ho', hc', hd'⟩ := hit'
    exact H _ o' h' tk (by simp [hi]) ⟨hc', hd'⟩ ho' fun b ob hb e => (hsb.2 b hb).trans e
  done := fun o h g d tk os Q E hs ho hst H => by
    have hit : h.IsListIter I ax items.length := ⟨o, ho, hst⟩
    exact wpAny_pyNext_list_end (s := ⟨h, g, d, tk, os⟩) hh hit hs (by simp) fun h' he => H h' tk fun b ob hb e => he b ob hb e
theorem itOf_tuple {prog : Program} {w : World} {A : Around} {I ax : Addr} {items : List Value} (hh : A.handled = none) :
    ItOf prog w A I items.length (fun i v => items[i]? = some v) (fun i o => o.cls = .type "tuple_iterator" ∧ o.data = .fields #[.ref ax, .int i 0]) (fun h => h.IsTuple ax items.toArray) where
  item := fun i o h g d tk os Q E hi hs ho hst H => by
    have hit : h.IsTupleIter I ax i := ⟨o, ho, hst⟩
    have hx : items.toArray[i]? = some items[i] := by simp [hi]
    refine wpAny_pyNext_tuple_item (s := ⟨h, g, d, tk, os⟩) hit hs hx fun h' hit' hsb => ?_
    obtain ⟨o', ho', hc', hd'⟩ := hit'
    exact H _ o' h' tk (by simp [hi]) ⟨hc', hd'⟩ ho' fun b ob hb e => (hsb.2 b hb).trans e
  done := fun o h g d tk os Q E hs ho hst H => by
    have hit : h.IsTupleIter I ax items.length := ⟨o, ho, hst⟩
    exact wpAny_pyNext_tuple_end (s := ⟨h, g, d, tk, os⟩) hh hit hs (by simp) fun h' he => H h' tk fun b ob hb e => he b ob hb e

section
variable {prog : Program} {w : World} {A : Around} {h : Heap} {env : Env} {h₀ : Heap} {L : Addr} {l : List (Str × Value)} {news : List (Addr × Obj)}
  {g : Array GenState} {d : Drawn} {tk : Nat} {os : OsState} {Q : Flow → Shared → Prop}

/-- what a turn leaves behind -/
def Turn (h₀ : Heap) (L I : Addr) (o : Obj) (g : Array GenState) (d : Drawn) (os : OsState) (Inv : List (Str × Value) → List (Addr × Obj) → Prop) (s' : Shared) : Prop :=
  ∃ h' tk' l' news', s' = ⟨h', g, d, tk', os⟩ ∧ Fr h₀ L h' (frm l') ∧ News h₀ L h' ((I, o) :: news') ∧ Inv l' news'
def TurnQ (h₀ : Heap) (L I : Addr) (o : Obj) (g : Array GenState) (d : Drawn) (os : OsState) (Inv : List (Str × Value) → List (Addr × Obj) → Prop) (B : Shared → Prop) (R : Value → Shared → Prop) : Flow → Shared → Prop
  | .next, s' | .cont, s' => Turn h₀ L I o g d os Inv s'
  | .brk, s' => B s'
  | .ret v, s' => R v s'

theorem code_for {I : Addr} {n : Nat} {P : Nat → Value → Prop} {St : Nat → Obj → Prop} {Src : Heap → Prop} {x : Str} {p : Pos} {body orelse : List Stmt} {o : Obj} {R : Result → Shared → Prop} (it : ItOf prog w A I n P St Src)
    (Inv : Nat → List (Str × Value) → List (Addr × Obj) → Prop) (hL : LocalEnv env L) (hl : env.kindOf x = some .local)
    (src : ∀ i h l news, Inv i l news → Fr h₀ L h (frm l) → News h₀ L h news → Src h)
    (body_ok : ∀ i v o h tk l news, i < n → P i v → Inv i l news → St (i + 1) o → Fr h₀ L h (frm ((x, v) :: l)) → News h₀ L h ((I, o) :: news) → (∀ p ∈ news, p.1 ≠ I) →
      WP prog w A (execs body env) (TurnQ h₀ L I o g d os (fun l' news' => Inv (i + 1) l' news' ∧ ∀ p ∈ news', p.1 ≠ I) (R (.ok .next)) (fun v => R (.ok (.ret v)))) ⟨h, g, d, tk, os⟩)
    (end_ok : ∀ h tk l news, Inv n l news → Fr h₀ L h (frm l) → News h₀ L h news → WP prog w A (execs orelse env) (fun f s' => R (.ok f) s') ⟨h, g, d, tk, os⟩)
    (h0 : Inv 0 l news) (F : Fr h₀ L h (frm l)) (N : News h₀ L h ((I, o) :: news)) (hne : ∀ p ∈ news, p.1 ≠ I) (hst : St 0 o) :
    codeAny (model prog w) A (.forLoop (.Name x p) (.ref I) body orelse env) R ⟨h, g, d, tk, os⟩ := by
  refine codeAny_forLoop_any (fun k s => ∃ i h tk l news o, k = n - i ∧ i ≤ n ∧ s = ⟨h, g, d, tk, os⟩ ∧ Inv i l news ∧ Fr h₀ L h (frm l) ∧ News h₀ L h ((I, o) :: news) ∧ (∀ p ∈ news, p.1 ≠ I) ∧ St i o) ?_ n
    ⟨0, h, tk, l, news, o, rfl, Nat.zero_le _, rfl, h0, F, N, hne, hst⟩
  rintro k s ⟨i, h, tk, l, news, o, rfl, hi, rfl, hI, F, N, hne, hst⟩
  have hIL : I ≠ L := (N _ (.head _)).2.1
  have hI0 : h₀.get? I = none := (N _ (.head _)).2.2
  have keepF : ∀ h', (∀ b ob, b ≠ I → h.get? b = some ob → h'.get? b = some ob) → Fr h₀ L h' (frm l) := fun h' hk => by
    obtain ⟨oL, a1, a2, hoL, a3⟩ := F.ns
    exact ⟨⟨oL, a1, a2, hk _ _ (Ne.symm hIL) hoL, a3⟩, fun b ob e => hk b ob (fun q => by rw [q, hI0] at e; cases e) (F.keep b ob e), F.above⟩
  have keepN : ∀ h', (∀ b ob, b ≠ I → h.get? b = some ob → h'.get? b = some ob) → News h₀ L h' news := fun h' hk q hq => ⟨hk _ _ (hne q hq) (N q (.tail _ hq)).1, (N q (.tail _ hq)).2⟩
  have hs : Src h := src i h l news hI F fun q hq => N q (.tail _ hq)
  rcases Nat.lt_or_ge i n with hlt | hge
  · refine it.item i o h g d tk os _ _ hlt hs (N _ (.head _)).1 hst fun v o' h' tk' hP hst' ho' hk => ?_
    refine wpAny_pure (wpAny_assign_Name ?_)
    have N' : News h₀ L h' ((I, o') :: news) := fun q hq => by
      rcases List.mem_cons.mp hq with rfl | hq
      · exact ⟨ho', hIL, hI0⟩
      · exact keepN h' hk q hq
    refine st_store (keepF h' hk) N' (fun h2 tk2 F2 N2 _ => ?_) hL hl
    refine wpAny_mono (body_ok i v o' h2 tk2 l news hlt hP hI hst' F2 N2 hne).run (fun f s3 hq => ?_) fun _ _ e => e.elim
    have step : Turn h₀ L I o' g d os (fun l' news' => Inv (i + 1) l' news' ∧ ∀ p ∈ news', p.1 ≠ I) s3 → ∃ m, m < n - i ∧ ∃ i h tk l news o, m = n - i ∧ i ≤ n ∧ s3 = ⟨h, g, d, tk, os⟩ ∧ Inv i l news ∧ Fr h₀ L h (frm l) ∧ News h₀ L h ((I, o) :: news) ∧ (∀ p ∈ news, p.1 ≠ I) ∧ St i o := by
      rintro ⟨h3, tk3, l3, n3, rfl, F3, N3, hI3, hne3⟩
      exact ⟨n - (i + 1), by omega, i + 1, h3, tk3, l3, n3, o', rfl, hlt, rfl, hI3, F3, N3, hne3, hst'⟩
    cases f with
    | next => exact step hq
    | cont => exact step hq
    | brk => exact hq
    | ret v => exact hq
  · have hin : i = n := Nat.le_antisymm hi hge
    subst hin
    refine it.done o h g d tk os _ _ hs (N _ (.head _)).1 hst fun h' tk' hk => ?_
    exact (end_ok h' tk' l news hI (keepF h' hk) (keepN h' hk)).of

theorem st_for_list {x : Str} {p pos : Pos} {iter : Expr} {body orelse rest : List Stmt} {ax : Addr} {items : List Value} (Inv : Nat → List (Str × Value) → List (Addr × Obj) → Prop) (hh : A.handled = none)
    (F : Fr h₀ L h (frm l)) (N : News h₀ L h news) (hit : EX prog w A (eval iter env) h (Im (· = .ref ax))) (h0 : Inv 0 l news)
    (src : ∀ i h l news, Inv i l news → Fr h₀ L h (frm l) → News h₀ L h news → h.IsList ax items.toArray)
    (body_ok : ∀ i v I o h tk l news, i < items.length → items[i]? = some v → Inv i l news → Fr h₀ L h (frm ((x, v) :: l)) → News h₀ L h ((I, o) :: news) → (∀ p ∈ news, p.1 ≠ I) → o.cls = .type "list_iterator" →
      WP prog w A (execs body env) (TurnQ h₀ L I o g d os (fun l' news' => Inv (i + 1) l' news' ∧ ∀ p ∈ news', p.1 ≠ I) (thenQ prog w A env rest Q .next) (fun v => Q (.ret v))) ⟨h, g, d, tk, os⟩)
    (end_ok : ∀ h tk l news, Inv items.length l news → Fr h₀ L h (frm l) → News h₀ L h news → WP prog w A (execs orelse env) (thenQ prog w A env rest Q) ⟨h, g, d, tk, os⟩)
    (hL : LocalEnv env L) (hl : env.kindOf x = some .local) (hs : ∀ x, foldedSetIterable iter env x = pure x := by intro _; kernel_rfl) :
    WP prog w A (execs (.For (.Name x p) iter body orelse pos :: rest) env) Q ⟨h, g, d, tk, os⟩ := by
  refine wp_cons ⟨?_⟩
  refine wpAny_For (hit.at fun v new h2 tk2 l2 f2 hv => ?_) hs
  rw [hv.2]
  have F2 := fr_up F l2
  have N2 := nw_up N l2
  refine wpAny_pyIter_list (s := ⟨h2, g, d, tk2, os⟩) (src 0 h2 l news h0 F2 N2) ?_
  have hne : ∀ q ∈ news, q.1 ≠ h2.objs.size := fun q hq => Nat.ne_of_lt (Heap.lt_size (N2 q hq).1)
  have lp : Le h2 (h2.push { cls := .type "list_iterator", data := .fields #[.ref ax, .int 0 0] }) := fun b ob e => Heap.get?_push_of_some _ e
  refine code_for (itOf_list (ax := ax) (items := items) hh) Inv hL hl src ?_ ?_ h0 (fr_up F2 lp) (N2.push F2 _) hne ⟨rfl, rfl⟩
  · intro i v o h tk l news hi hP hI hst F N hne
    have z := body_ok i v _ o h tk l news hi hP hI F N hne hst.1
    exact z
  · intro h tk l news hI F N
    exact end_ok h tk l news hI F N
end
end Mine
end
section
set_option maxRecDepth 100000
set_option linter.unusedVariables false
open PySem PySem.W PyProof.Rows PySem.Calls PySem.Spec
namespace Mine
local macro_rules | `(tactic| walk_at "lk") => `(tactic| repeat (first | with_reducible exact frm_head | with_reducible refine frm_tail (by kernel_rfl) ?_))
local macro_rules | `(tactic| walk_at "zl") => `(tactic| (refine ex_local (Fr.ns (by assumption)) (by walk_at "lk") ?_ (by kernel_rfl) (by kernel_rfl) (by kernel_rfl); first | exact isI | exact isS | exact isB | rfl))
/-- a match -/
def PM (w : World) (h : Heap) (mo : Addr) (place : Int) (x : Str) : Prop := ∃ dm r0 t0 t1 t2 t3, h.get? mo = some (instObj 677 dm) ∧
  h.get? dm = some (dictOf [ent w (Str.ofString "place") t0 (.int place t1), ent w (Str.ofString "pieces") t2 (.ref r0)] 2) ∧ h.IsList r0 [Value.str x t3].toArray
theorem PM.up {w : World} {h h' : Heap} {mo : Addr} {place : Int} {x : Str} (p : PM w h mo place x) (le : Le h h') : PM w h' mo place x :=
  let ⟨dm, r0, t0, t1, t2, t3, a, b, c⟩ := p; ⟨dm, r0, t0, t1, t2, t3, le _ _ a, le _ _ b, list_up c le⟩

section
variable {w : World} {A : Around} {h : Heap}
set_option maxHeartbeats 4000000
theorem group_ok {mo : Addr} {place : Int} {x : Str} (T : TX w h) (hh : A.handled = none) (hd : A.depth < recursionLimit) (p : PM w h mo place x) (hx0 : 0 < x.length) (hx : x.length ≤ 1000) :
    EX PG w A (call (.ref 674) [.ref mo]) h (Im (IsS x)) := by
  refine ex_def T.X T.lim (by k_is) (by k_is) hd (fun s X => binds_K X rfl (by k_is) rfl rfl rfl) (locs rfl) ?_ (by decide) rfl rfl rfl
  intro h1 L' hh' g d tk os le F
  change Fr _ _ _ (frm [(Str.ofString "arg", _), (Str.ofString "self", _)]) at F
  refine st_skip F News.nil (et_plain (P := IsI 0) (by walk_at "zl") fun v hv => tr_int hv) fun h2 tk2 F N => ?_
  obtain ⟨dm, r0, t0, t1, t2, t3, a, b, c⟩ := (p.up le).up F.keep
  refine st_ret F N (ex_pieces hh rfl (ex_at (by walk_at "zl") F (T.up le).X (inst_mk a b) (by k_is) (by k_is) (by k_is) (by k_is) (by k_get) (by kernel_rfl) rfl) c hx0 hx (fun _ => by kernel_rfl) (by kernel_rfl)) ?_
  intro v new h3 tk3 hv F N
  exact ⟨_, _, _, _, rfl, F, N, by rw [hv.1]; exact ⟨rfl, hv.2⟩⟩

theorem end_ok {mo : Addr} {place : Int} {x : Str} (T : TX w h) (hh : A.handled = none) (hd : A.depth + 5 < recursionLimit) (p : PM w h mo place x) (hx0 : 0 < x.length) (hx : x.length ≤ 1000) :
    EX PG w A (call (.ref 668) [.ref mo]) h (Im (IsI (place + x.length))) := by
  refine ex_def T.X T.lim (by k_is) (by k_is) (by omega) (fun s X => binds_K X rfl (by k_is) rfl rfl rfl) (locs rfl) ?_ (by decide) rfl rfl rfl
  intro h1 L' hh' g d tk os le F
  change Fr _ _ _ (frm [(Str.ofString "arg", _), (Str.ofString "self", _)]) at F
  refine st_skip F News.nil (et_plain (P := IsI 0) (by walk_at "zl") fun v hv => tr_int hv) fun h2 tk2 F N => ?_
  have T2 := (T.up le).up F.keep
  have p2 := (p.up le).up F.keep
  obtain ⟨dm, r0, t0, t1, t2, t3, a, b, c⟩ := id p2
  refine st_ret F N (ex_binop (op_add (a := place) (b := x.length)) (ex_at (by walk_at "zl") F (T.up le).X (inst_mk a b) (by k_is) (by k_is) (by k_is) (by k_is) (by k_get) (by kernel_rfl) isI)
    (ex_callK (fv := .builtin "len") (ex_builtin T2 (by k_is) (by kernel_rfl) (by decide) rfl (by kernel_rfl) (by kernel_rfl) (by kernel_rfl) (by kernel_rfl) (by kernel_rfl))
      (drop_new (cw_builtin (exs_one (V1 := Im (IsS x)) (ex_meth (P1 := (· = .ref mo)) (first := fun _ => [.ref mo]) (by walk_at "zl") (fun a' ha => by subst ha; exact gm_inst F (T.up le).X (inst_mk a b) (by k_is) (by k_is) (by k_is) (by kernel_rfl))
        (fun a' ha => cw_none (keeper_K T2.X (by k_is)) (group_ok T2 hh (by rw [depth_deeper]; omega) p2 hx0 hx)))) ?_)))) ?_
  · intro vs new h3 le3 hn hv
    obtain ⟨v, rfl, hv⟩ := hv
    exact (cl_lenS hv.2 (by omega)).mono fun v new hv => hv.2
  · intro v new h3 tk3 hv F N
    exact ⟨_, _, _, _, rfl, F, N, by rw [hv.1]; exact ⟨rfl, hv.2⟩⟩

theorem mk_match {place : Int} {t1 : Tok} {r0 : Addr} (T : TX w h) (hd : A.depth + 5 < recursionLimit) :
    EX PG w A (call (.ref 677) [.int place t1, .ref r0]) h (fun v new => ∃ mo dm t0 t2, v = .ref mo ∧ new = [(mo, instObj 677 dm), (dm, dictOf [ent w (Str.ofString "place") t0 (.int place t1), ent w (Str.ofString "pieces") t2 (.ref r0)] 2)]) := by
  refine ex_make (bindsX := fun x => [(Str.ofString "self", .ref x), (Str.ofString "place", .int place t1), (Str.ofString "pieces", .ref r0)]) T.X T.lim (by k_is) (by k_is) (by k_is) (by k_is) (by k_is) (by rw [depth_under_make]; omega) (fun x s X => BindsTo.of_eq rfl) (fun x => locs rfl) ?_ (by decide) rfl rfl rfl
  intro h1 x dx L' hh' g d tk os le hdx hxL F N
  change Fr _ _ _ (frm [(Str.ofString "pieces", _), (Str.ofString "place", _), (Str.ofString "self", _)]) at F
  have X1 := (T.up le).X
  refine st_setattr F X1 N (V := Im (fun v => v = _)) (by walk_at "zl") (by walk_at "zl") (.head _) (.tail _ (.head _)) (fun t v => .tail (Nat.ne_of_gt hdx) (.head (fun _ hp => nomatch hp))) ?_ (by k_is) (by k_is) (by k_is) (by k_is) (by kernel_rfl) (Nat.le_of_ble_eq_true (by kernel_rfl)) (by kernel_rfl)
  intro v new t0 h2 tk2 hv F N
  obtain ⟨rfl, rfl⟩ := hv
  refine st_setattr F X1 N (V := Im (fun v => v = _)) (by walk_at "zl") (by walk_at "zl") (.head _) (.tail _ (.head _)) (fun t v => .tail (Nat.ne_of_gt hdx) (.head (fun _ hp => nomatch hp))) ?_ (by k_is) (by k_is) (by k_is) (by k_is) (by kernel_rfl) (Nat.le_of_ble_eq_true (by kernel_rfl)) (by kernel_rfl)
  intro v new t2 h3 tk3 hv F N
  obtain ⟨rfl, rfl⟩ := hv
  exact wp_nil ⟨rfl, _, _, _, _, rfl, F, N, _, _, _, _, rfl, rfl⟩
end
end Mine
end
section
set_option maxRecDepth 100000
set_option linter.unusedVariables false
open PySem PySem.W PyProof.Rows PySem.Calls PySem.Spec
namespace Mine
local macro_rules | `(tactic| walk_at "lk") => `(tactic| repeat (first | with_reducible exact frm_head | with_reducible refine frm_tail (by kernel_rfl) ?_))
local macro_rules | `(tactic| walk_at "zl") => `(tactic| (refine ex_local (Fr.ns (by assumption)) (by walk_at "lk") ?_ (by kernel_rfl) (by kernel_rfl) (by kernel_rfl); first | exact isI | exact isS | exact isB | rfl))
section
variable {prog : Program} {w : World} {A : Around} {h : Heap} {env : Env} {h₀ : Heap} {L : Addr} {l : List (Str × Value)} {news : List (Addr × Obj)}
/-- len(e) of a text -/
theorem ex_lenS {e : Expr} {p1 p2 : Pos} {x : Str} (T : TX w h) (he : EX prog w A (eval e env) h (Im (IsS x))) (hx : x.length < 2 ^ 63)
    (hkd : env.kindOf (Str.ofString "len") = some .globalImplicit) (hk : env.scope.kind = .function) (hg : env.globals = mainGlobals) (hb : env.builtins = builtinsNs)
    (hse : starEach [e] env = [(false, eval e env)] := by kernel_rfl)
    (hr : eval (.Call (.Name (Str.ofString "len") p1) [e] [] p2) env = (do callWith p2 (← eval (.Name (Str.ofString "len") p1) env) [] (backTo p2 (starEach [e] env)) (backToKw p2 (keywordEach [] env))) := by kernel_rfl) :
    EX prog w A (eval (.Call (.Name (Str.ofString "len") p1) [e] [] p2) env) h (Im (IsI x.length)) :=
  ex_callK (fv := .builtin "len") (ex_builtin T (by k_is) (by kernel_rfl) (by decide) rfl hkd hk hg hb (by kernel_rfl)) (drop_new (cw_builtin (exs_one he hse) (fun vs new h3 le3 hn hv => by
    obtain ⟨v, rfl, hv⟩ := hv
    exact (cl_lenS hv.2 hx).mono fun v new hv => hv.2) hse rfl)) hr
end

/-- a plain of one word -/
def PLN (w : World) (h : Heap) (pl : Addr) (x : Str) (r0 : Addr) (t3 : Tok) : Prop := ∃ dp rl t0, h.get? pl = some (instObj 704 dp) ∧ h.get? dp = some (dictOf [ent w (Str.ofString "rows") t0 (.ref rl)] 1) ∧
  h.IsList rl [Value.ref r0].toArray ∧ h.IsList r0 [Value.str x t3].toArray
theorem PLN.up {w : World} {h h' : Heap} {pl r0 : Addr} {x : Str} {t3 : Tok} (p : PLN w h pl x r0 t3) (le : Le h h') : PLN w h' pl x r0 t3 :=
  let ⟨dp, rl, t0, a, b, c, e⟩ := p; ⟨dp, rl, t0, le _ _ a, le _ _ b, list_up c le, list_up e le⟩
theorem PLN.lst {w : World} {h : Heap} {pl r0 : Addr} {x : Str} {t3 : Tok} (p : PLN w h pl x r0 t3) : h.IsList r0 [Value.str x t3].toArray := let ⟨_, _, _, _, _, _, e⟩ := p; e
/-- the word stands at the place -/
def hits (text x : Str) (pos e : Int) : Bool := Txt.slice text (some pos) (some (pos + x.length)) == x && decide (pos + x.length ≤ e)
def MatchV (w : World) (text x : Str) (pos e : Int) (r0 : Addr) (v : Value) (new : List (Addr × Obj)) : Prop :=
  if hits text x pos e then ∃ mo dm ta tb tc, v = .ref mo ∧ new = [(mo, instObj 677 dm), (dm, dictOf [ent w (Str.ofString "place") ta (.int pos tb), ent w (Str.ofString "pieces") tc (.ref r0)] 2)] else v = .none ∧ new = []

section
variable {w : World} {A : Around} {h : Heap}
set_option maxHeartbeats 4000000
theorem match_cx {pl r0 : Addr} {text x : Str} {pos e : Int} {t1 t2 t3 t4 : Tok} (T : TX w h) (hh : A.handled = none) (hd : A.depth + 10 < recursionLimit) (p : PLN w h pl x r0 t4) (hx0 : 0 < x.length) (hx : x.length ≤ 1000) (ht : text.length ≤ 1000) :
    CX PG w A (.call (.ref 701) ⟨[.ref pl, .str text t1, .int pos t2, .int e t3], []⟩) h (MatchV w text x pos e r0) := by
  refine cx_def T.X T.lim (by k_is) (by k_is) (by omega) (fun s X => binds_K X rfl (by k_is) rfl rfl rfl) (locs rfl) ?_ (by decide) rfl rfl rfl
  intro h1 L' hh' g d tk os le F
  change Fr _ _ _ (frm [(Str.ofString "endpos", _), (Str.ofString "pos", _), (Str.ofString "text", _), (Str.ofString "self", _)]) at F
  obtain ⟨dp, rl, t0, a, b, c, e4⟩ := p.up le
  have T1 := T.up le
  have ka := F.keep _ _ a
  have kb := F.keep _ _ b
  refine st_for_list (h₀ := h1) (ax := rl) (items := [.ref r0]) (fun i l' news => news = [] ∧ l' = (if i = 0 then [(Str.ofString "endpos", .int e t3), (Str.ofString "pos", .int pos t2), (Str.ofString "text", .str text t1), (Str.ofString "self", .ref pl)] else l') ∧ (0 < i → hits text x pos e = false)) hh F News.nil
    (ex_at (by walk_at "zl") F T1.X (inst_mk ka kb) (by k_is) (by k_is) (by k_is) (by k_is) (by k_get) (by kernel_rfl) rfl) ⟨rfl, rfl, fun h => absurd h (Nat.lt_irrefl _)⟩ (fun i h l news _ F _ => list_up c F.keep) ?_ ?_ ⟨rfl, rfl⟩ (by kernel_rfl)
  · intro i v I o h tk l news hi hv hI F N hne hic
    have hi0 : i = 0 := by simpa using hi
    subst hi0
    obtain ⟨rfl, hl, -⟩ := hI
    rw [if_pos rfl] at hl
    subst hl
    have hv' : v = .ref r0 := by simpa using hv.symm
    subst hv'
    refine st_assignI (P := IsS x) F N (ex_pieces hh rfl (by walk_at "zl") (list_up e4 F.keep) hx0 hx (fun _ => by kernel_rfl) (by kernel_rfl)) ?_ ⟨rfl, rfl⟩ (by kernel_rfl) (by kernel_rfl)
    rintro v h2 tk2 ⟨tt, rfl⟩ F N
    have T2 := T1.up F.keep
    refine st_if (b := hits text x pos e) F N ?_ ?_ ?_
    · refine (et_and (b1 := Txt.slice text (some pos) (some (pos + x.length)) == x) (b2 := decide (pos + x.length ≤ e) && true) (et_cmp (P1 := IsS (Txt.slice text (some pos) (some (pos + x.length)))) (P2 := IsS x) op_eqs
          (ex_sliceS (by walk_at "zl") (by walk_at "zl") (ex_binop (op_add (a := pos) (b := x.length)) (by walk_at "zl") (ex_lenS T2 (by walk_at "zl") (by omega) (by kernel_rfl) rfl rfl rfl)) (by show _ ≤ 16777216; omega)) (by walk_at "zl"))
        (fun _ => et_and (b1 := decide (pos + x.length ≤ e)) (b2 := true) ?_ fun _ => et_and_nil)).mono fun v new hv => ⟨hv.1, by rw [hv.2]; simp [hits]⟩
      refine (et_or (b1 := false) (b2 := decide (pos + x.length ≤ e) || false) (et_cmp (P1 := IsI e) (op_isnone fun v hv => by obtain ⟨t, rfl⟩ := hv; rfl) (by walk_at "zl") ex_none)
        (fun _ => et_or (b2 := false) (et_cmp (op_le (a := pos + x.length) (b := e)) (ex_binop (op_add (a := pos) (b := x.length)) (by walk_at "zl") (ex_lenS T2 (by walk_at "zl") (by omega) (by kernel_rfl) rfl rfl rfl)) (by walk_at "zl")) fun _ => et_or_nil)).mono fun v new hv => ⟨hv.1, by rw [hv.2]; simp⟩
    · intro hb h3 tk3 F N
      refine st_ret F N (V := fun v new => ∃ mo dm t0 t2', v = .ref mo ∧ new = [(mo, instObj 677 dm), (dm, dictOf [ent w (Str.ofString "place") t0 (.int pos t2), ent w (Str.ofString "pieces") t2' (.ref r0)] 2)]) (ex_callK (fv := .ref 677) (ex_global (T1.up F.keep) (by k_is) rfl (by kernel_rfl) (by kernel_rfl) (by kernel_rfl) (by kernel_rfl))
        (cw_some (keeper_K (T1.up F.keep).X (by k_is)) (exs_cons (P := (· = .int pos t2)) (by walk_at "zl") (exs_cons (P := (· = .ref r0)) (by walk_at "zl") exs_nil)) ?_)) ?_
      · rintro vs new h4 le4 hn ⟨rfl, v1, r1, rfl, rfl, v2, r2, rfl, rfl, rfl⟩
        exact (mk_match ((T1.up F.keep).up le4) (by rw [depth_deeper]; omega)).mono fun v new hv => by simpa using hv
      · intro v new h4 tk4 hv F N
        obtain ⟨mo, dm, ta, tc, rfl, rfl⟩ := hv
        refine ret_of F N (fun q hq => List.mem_append_left _ hq) ?_
        unfold MatchV; rw [if_pos hb]; exact ⟨mo, dm, ta, t2, tc, rfl, rfl⟩
    · intro hb h3 tk3 F N
      exact wp_nil (thenQ_nil ⟨_, _, _, _, rfl, F, N, ⟨rfl, rfl, fun _ => hb⟩, fun _ hp => nomatch hp⟩)
  · intro h tk l news hI F N
    obtain ⟨rfl, -, hb⟩ := hI
    refine wp_nil (thenQ_next (st_ret F N ex_none ?_))
    intro v new h4 tk4 hv F N
    refine ⟨_, [], _, _, rfl, F, News.nil, ?_⟩
    unfold MatchV; rw [hb (Nat.zero_lt_one), if_neg (by decide)]; exact ⟨hv.2, rfl⟩
end
end Mine
end
section
set_option maxRecDepth 100000
set_option linter.unusedVariables false
open PySem PySem.W PyProof.Rows PySem.Calls PySem.Spec
namespace Mine
section
variable {prog : Program} {w : World} {A : Around} {R : GenEnd} {Y : Protocol} {n : Nat} {s₀ : Shared} {c : Code} {fs : List Frame} {s : Shared} {env : Env}
  {K : Flow → Sem Fin} {H : Value → Sem Fin} {gd : Bool → Bool} {lv : List Value → List Value}

theorem sg_exec {st : Stmt} (h : WP prog w (A.over c fs) (exec st env) (fun f s' => Seg (model prog w) A R Y n s₀ c (K f) fs s') s) : Seg (model prog w) A R Y n s₀ c ((exec st env).wrap K H gd lv) fs s :=
  seg_wrap (wpAny_mono h.run (fun _ _ q => q) fun _ _ e => e.elim)
theorem sg_execs {body : List Stmt} (h : WP prog w (A.over c fs) (execs body env) (fun f s' => Seg (model prog w) A R Y n s₀ c (K f) fs s') s) : Seg (model prog w) A R Y n s₀ c ((execs body env).wrap K H gd lv) fs s :=
  seg_wrap (wpAny_mono h.run (fun _ _ q => q) fun _ _ e => e.elim)

theorem sg_If {test : Expr} {body orelse : List Stmt} {pos : Pos} (h : WP prog w (A.over c fs) (PySem.isTrue test env (eval test env)) (fun b s' =>
      if b = true then Seg (model prog w) A R Y n s₀ c ((execs body env).wrap K H gd lv) fs s' else Seg (model prog w) A R Y n s₀ c ((execs orelse env).wrap K H gd lv) fs s') s) :
    Seg (model prog w) A R Y n s₀ c ((exec (.If test body orelse pos) env).wrap K H gd lv) fs s := by
  rw [exec_If]
  show Seg _ A R Y n s₀ c (.at pos fun _ => ((PySem.isTrue test env (eval test env) >>= fun b => if b = true then execs body env else execs orelse env)).wrap K H gd lv) fs s
  refine seg_at ?_
  rw [Sem.bind_eq_wrap', Sem.wrap_wrap]
  refine seg_wrap (wpAny_mono h.run (fun b s' hb => ?_) fun _ _ e => e.elim)
  cases b with
  | true => rw [if_pos rfl] at hb; show Seg _ A R Y n s₀ c (Sem.wrap _ _ _ _ (if true = true then _ else _)) fs s'; rw [if_pos rfl]; exact hb
  | false => rw [if_neg Bool.false_ne_true] at hb; show Seg _ A R Y n s₀ c (Sem.wrap _ _ _ _ (if false = true then _ else _)) fs s'; rw [if_neg Bool.false_ne_true]; exact hb

/-- the frame that a loop's own activation lays -/
abbrev loopK (env : Env) (K : Flow → Sem Fin) (H : Value → Sem Fin) (gd : Bool → Bool) (lv : List Value → List Value) : Result → Sem Fin := fun r => ((match r with | .ok f => (.pure f : Sem Flow) | .error e => .raise e).onRaise fun (x : Value) => do
        if (← field x 1) == Value.none then unsupported "frame.own-activation:exception-without-traceback"
        setFlight x env.frame).wrap K H gd lv

theorem sg_For {target iter : Expr} {body orelse : List Stmt} {pos : Pos}
    (h : WP prog w (A.over c fs) (eval iter env) (fun x s₁ => wpAny (model prog w) (A.over c fs) (pyIter x) (fun it s₂ => ∀ p,
      Seg (model prog w) A R Y n s₀ (.forLoop target it body orelse env) ((model prog w).den (.forLoop target it body orelse env)) (.ret (loopK env K H gd lv) none (gd false) (lv []) c p [] :: fs) s₂) (fun _ _ => False) s₁) s)
    (hs : ∀ x, foldedSetIterable iter env x = pure x) :
    Seg (model prog w) A R Y n s₀ c ((exec (.For target iter body orelse pos) env).wrap K H gd lv) fs s := by
  rw [exec_For]
  show Seg _ A R Y n s₀ c (.at pos fun _ => ((eval iter env >>= fun y => foldedSetIterable iter env y >>= fun x => standAt iter.pos >>= fun _ => holding [x] (pyIter x) >>= fun it => runOwn (.forLoop target it body orelse env) env)).wrap K H gd lv) fs s
  refine seg_at ?_
  rw [Sem.bind_eq_wrap', Sem.wrap_wrap]
  refine seg_wrap (wpAny_mono h.run (fun x s₁ h₁ => ?_) fun _ _ e => e.elim)
  show Seg _ A R Y n s₀ c ((foldedSetIterable iter env x >>= fun x => standAt iter.pos >>= fun _ => holding [x] (pyIter x) >>= fun it => runOwn (.forLoop target it body orelse env) env).wrap K H gd lv) fs s₁
  rw [hs x]
  show Seg _ A R Y n s₀ c (.at iter.pos fun _ => (holding [x] (pyIter x) >>= fun it => runOwn (.forLoop target it body orelse env) env).wrap K H gd lv) fs s₁
  refine seg_at ?_
  rw [Sem.bind_eq_wrap', Sem.wrap_wrap]
  refine seg_wrap (wpAny_holding (wpAny_mono h₁ (fun it s₂ h₂ => ?_) fun _ _ e => e.elim))
  exact seg_call h₂

/-- what a turn's body ends in -/
def forEnd (target : Expr) (it : Value) (body orelse : List Stmt) (env : Env) : Flow → Sem Fin
  | .next | .cont => .pure (.again (.forLoop target it body orelse env))
  | .brk => .pure (.done .next)
  | .ret v => .pure (.done (.ret v))
def noteEnd (env : Env) (e : Value) : Sem Fin := (do noteFrame e env; theTreesLotGoes e : Sem Unit).wrap (fun _ => .raise e) .raise id id

theorem sg_forLoop {target : Expr} {it : Value} {body orelse : List Stmt}
    (h : WP prog w (A.over (.forLoop target it body orelse env) fs) (pyNext it) (fun r s₁ => match r with
      | none => Seg (model prog w) A R Y n s₀ (.block orelse env) ((model prog w).den (.block orelse env)) fs s₁
      | some v => wpAny (model prog w) (A.over (.forLoop target it body orelse env) fs) (letOwnedTupleGo target it v) (fun _ s₂ => wpAny (model prog w) (A.over (.forLoop target it body orelse env) fs) (assign target env v) (fun _ s₃ =>
          Seg (model prog w) A R Y n s₀ (.forLoop target it body orelse env) ((execs body env).wrap (forEnd target it body orelse env) (noteEnd env) id id) fs s₃) (fun _ _ => False) s₂) (fun _ _ => False) s₁) s) :
    Seg (model prog w) A R Y n s₀ (.forLoop target it body orelse env) ((model prog w).den (.forLoop target it body orelse env)) fs s := by
  show Seg _ A R Y n s₀ _ ((forTurn target it body orelse env).onRaise (fun x => do noteFrame x env; theTreesLotGoes x)) fs s
  unfold forTurn
  rw [Sem.onRaise_eq_wrap]
  show Seg _ A R Y n s₀ _ (.at target.pos fun _ => (((pyNext it).onRaise (fun _ => standAt { target.pos with line := 0 })) >>= fun r => match r with
    | none => again (.block orelse env)
    | some v => letOwnedTupleGo target it v >>= fun _ => assign target env v >>= fun _ => execs body env >>= fun f => match f with
      | .next | .cont => again (.forLoop target it body orelse env)
      | .brk => pure (.done .next)
      | .ret v => pure (.done (.ret v))).wrap .pure (fun e => (do noteFrame e env; theTreesLotGoes e : Sem Unit).bind fun _ => .raise e) id id) fs s
  refine seg_at ?_
  rw [Sem.bind_eq_wrap', Sem.wrap_wrap]
  refine seg_wrap (wpAny_onRaise (wpAny_mono h.run (fun r s₁ h₁ => ?_) fun _ _ e => e.elim))
  cases r with
  | none => exact seg_again rfl h₁
  | some v =>
    show Seg _ A R Y n s₀ _ ((letOwnedTupleGo target it v >>= fun _ => assign target env v >>= fun _ => execs body env >>= fun f => match f with
      | .next | .cont => again (.forLoop target it body orelse env)
      | .brk => pure (.done .next)
      | .ret v => pure (.done (.ret v))).wrap .pure (fun e => (do noteFrame e env; theTreesLotGoes e : Sem Unit).bind fun _ => .raise e) id id) fs s₁
    rw [Sem.bind_eq_wrap', Sem.wrap_wrap]
    refine seg_wrap (wpAny_mono h₁ (fun _ s₂ h₂ => ?_) fun _ _ e => e.elim)
    rw [Sem.bind_eq_wrap', Sem.wrap_wrap]
    refine seg_wrap (wpAny_mono h₂ (fun _ s₃ h₃ => ?_) fun _ _ e => e.elim)
    rw [Sem.bind_eq_wrap', Sem.wrap_wrap]
    rw [Sem.wrap_congr (execs body env) _ _ (K' := forEnd target it body orelse env) (H' := noteEnd env) (fun f => by cases f <;> rfl) (fun e => by unfold noteEnd; exact Sem.bind_eq_wrap _ _)]
    exact h₃
theorem sg_block {stmts : List Stmt} (h : Seg (model prog w) A R Y n s₀ (.block stmts env) ((execs stmts env).wrap (fun f => .pure (.done f)) (noteEnd env) id id) fs s) :
    Seg (model prog w) A R Y n s₀ (.block stmts env) ((model prog w).den (.block stmts env)) fs s := by
  show Seg _ A R Y n s₀ _ (((execs stmts env).onRaise (fun x => do noteFrame x env; theTreesLotGoes x)) >>= fun f => pure (.done f)) fs s
  rw [Sem.onRaise_eq_wrap, Sem.bind_eq_wrap', Sem.wrap_wrap]
  rw [Sem.wrap_congr (execs stmts env) _ _ (K' := fun f => .pure (.done f)) (H' := noteEnd env) (fun f => by cases f <;> rfl) (fun e => by unfold noteEnd; rw [Sem.bind_eq_wrap, Sem.wrap_wrap]; rfl)]
  exact h
/-- a loop's activation is left -/
theorem sg_leave {k : Result → Sem Fin} {h g l c₁ p₁ kp} (f : Flow) (hk : Seg (model prog w) A R Y n s₀ c₁ (k (.ok f)) fs s) : Seg (model prog w) A R Y n s₀ c (.pure (.done f)) (.ret k h g l c₁ p₁ kp :: fs) s := seg_leaf (.ok f) hk
end
end Mine
end
section
set_option maxRecDepth 100000
set_option linter.unusedVariables false
open PySem PySem.W PyProof.Rows PySem.Calls PySem.Spec
namespace Mine
section
variable {prog : Program} {w : World} {A : Around} {E : Value → Shared → Prop} {s : Shared}

theorem filter_run (k : Nat) (p : Nat → Bool) : ∀ (xs : List Value) (i : Nat), (∀ j, p j = decide (k ≤ j ∧ j < i + xs.length)) → ((xs.zipIdx i).filterMap fun q => if p q.2 = true then none else some q.1) = xs.take (k - i)
  | [], i, _ => by simp
  | x :: xs, i, hp => by
    rw [List.zipIdx_cons, List.filterMap_cons]
    have ih := filter_run k p xs (i + 1) (fun j => by rw [hp j]; congr 1; simp only [List.length_cons]; apply propext; constructor <;> (intro ⟨a, b⟩; exact ⟨a, by omega⟩))
    have h0 := hp i
    dsimp only
    by_cases hk : k ≤ i
    · have h1 : p i = true := by rw [h0]; simp [hk]
      rw [h1, if_pos rfl]
      have z1 : k - i = 0 := by omega
      have z2 : k - (i + 1) = 0 := by omega
      rw [z2] at ih; rw [z1]; simpa using ih
    · have h1 : p i = false := by rw [h0]; simp [hk]
      rw [h1, if_neg (by decide)]
      have z1 : k - i = (k - (i + 1)) + 1 := by omega
      dsimp only
      rw [ih, z1, List.take_succ_cons]

/-- del xs[lo:] -/
theorem delItem_tail {l sl : Addr} {items : List Value} {n : Nat} {vl : Value} {lo : Int} {k : Nat} {Q : Unit → Shared → Prop} (hl : s.heap.get? l = some { cls := .type "list", data := .seq items.toArray n })
    (hs : s.heap.IsSliceOf sl vl .none .none) (pl : IsPart vl (some lo)) (hb : sliceBounds (some lo) none none items.length = ((k : Int), (items.length : Int), (1 : Int)))
    (h : ∀ h' n', Heap.SameBut l s.heap h' → h'.get? l = some { cls := .type "list", data := .seq (items.take k).toArray n' } → Q () { s with heap := h' })
    (hsz : items.length ≤ 1000) : wpAny (model prog w) A (delItem (.ref l) (.ref sl)) Q E s := by
  have hL : s.heap.IsList l items.toArray := ⟨_, hl, rfl, n, rfl⟩
  obtain ⟨os, hos, hcs, hds⟩ := id hs
  have hTs : s.TypeIs (.ref sl) "slice" := ⟨os, hos, hcs⟩
  have hz : items.toArray.size ≤ sizeLine := by rw [List.size_toArray]; show _ ≤ 16777216; omega
  refine wpAny_delItem_slot hL.typeIs (by decide) PySem.F.slot_list_delitem (wpAny_call_entry PySem.F.slot_list_delitem hL.typeIs PySem.F.entry_list_delitem ?_ (PySem.F.args_list_delitem_2 _ _))
  show wpAny _ _ (Builtin.List.listSubscript? (.ref sl) >>= _) _ _ s
  refine wpAny_bind ?_
  unfold Builtin.List.listSubscript?
  refine wpAny_bind (wpAny_specialOf hTs slice_no_index ?_)
  simp only [Option.isNone_none, if_true]
  refine wpAny_pure ?_
  show wpAny _ _ (typeOf (.ref sl) >>= _) _ _ s
  refine wpAny_bind (wpAny_typeOf hTs ?_)
  rw [if_neg (by decide)]
  rw [listSliceParts_eq]
  refine wpAny_bind (wpAny_bind (wpAny_field hos hds (x := Value.none) rfl (wpAny_bind (wpAny_listPart IsPart.none ?_))))
  rw [if_neg (by decide)]
  refine wpAny_bind (wpAny_field hos hds (x := vl) rfl (wpAny_bind (wpAny_listPart pl ?_)))
  refine wpAny_bind (wpAny_field hos hds (x := Value.none) rfl (wpAny_bind (wpAny_listPart IsPart.none (wpAny_pure ?_))))
  refine wpAny_bind (m := Builtin.List.listItems (.ref l)) ?_
  unfold Builtin.List.listItems
  refine wpAny_bind (wpAny_seqItems hl rfl (wpAny_pure ?_))
  have hb' : sliceBounds (some lo) none none items.toArray.size = ((k : Int), (items.length : Int), (1 : Int)) := by rw [List.size_toArray]; exact hb
  refine wpAny_bind (wpAny_of_eq (sliceIndices_raw (some lo) none none items.toArray.size (by simp)) ?_)
  rw [hb']
  refine wpAny_bind (wpAny_rule ?_)
  have key : ∀ (f : Array Value → Array Value), f items.toArray = (items.take k).toArray → ∀ {Q' : Unit → Shared → Prop},
      (∀ h' n', Heap.SameBut l s.heap h' → h'.get? l = some { cls := .type "list", data := .seq (items.take k).toArray n' } → Q' () { s with heap := h' }) → wpAny (model prog w) A.in1 (Builtin.List.listUpdate (.ref l) f) Q' (fun e s' => E e s') s := by
    intro f hf Q' H
    show wpAny _ _ (updateSeq l f) _ _ _
    refine wpAny_updateSeq hl rfl ?_ hz (by rw [hf]; simp only [List.size_toArray, List.length_take]; show _ ≤ 16777217; omega)
    refine H _ (if ((items.take k).toArray.size == items.toArray.size) = true then n else n + 1) (Heap.SameBut.update ..) ?_
    rw [Heap.get?_update_self _ hl rfl]
    show some (Obj.mapSeq f _) = _
    simp only [Obj.mapSeq, hf]
  refine wpAny_bind (key _ ?_ fun h' n' hsb hg => ?_)
  · dsimp only
    congr 1
    have := filter_run k (fun j => decide (k ≤ j) && decide (j < items.length)) items 0 (fun j => by simp)
    rw [Nat.sub_zero] at this
    rw [← this]
    refine congrArg (fun g => List.filterMap g _) (funext fun q => ?_)
    change (if (ite ((1 : Int) > 0) _ _) = true then _ else _) = _
    rw [if_pos (show (1 : Int) > 0 by decide)]
    simp only [Int.emod_one, beq_self_eq_true, Bool.and_true, Int.ofNat_le, Int.ofNat_lt]
  · refine wpAny_bind (wpAny_letGo ?_)
    exact wpAny_pure ⟨_, rfl, h h' n' hsb hg⟩
end
end Mine
end
section
set_option maxRecDepth 100000
set_option linter.unusedVariables false
open PySem PySem.W PyProof.Rows PySem.Calls PySem.Spec
namespace Mine
theorem tuple_up {h h' : Heap} {a : Addr} {vs : Array Value} (x : h.IsTuple a vs) (le : Le h h') : h'.IsTuple a vs := let ⟨o, e, r⟩ := x; ⟨o, le _ _ e, r⟩
theorem dict_up {prog : Program} {w : World} {K : Type} [DecidableEq K] {knd : KeyKind prog w K} {h h' : Heap} {a : Addr} {kvs : List (K × Value)} (x : h.DictOf knd a kvs) (le : Le h h') : h'.DictOf knd a kvs :=
  let ⟨o, es, ep, e, r⟩ := x; ⟨o, es, ep, le _ _ e, r⟩
section
variable {prog : Program} {w : World} {A : Around} {h : Heap} {env : Env} {P : Value → Prop} {K : Frag} {h₀ : Heap} {L : Addr} {m : Str → Option Value} {l : List (Str × Value)} {news : List (Addr × Obj)}
  {g : Array GenState} {d : Drawn} {tk : Nat} {os : OsState} {E : Value → Shared → Prop} {Q : Flow → Shared → Prop}

/-- subscripts -/
theorem ex_sub {value slice : Expr} {pos : Pos} {P1 P2 : Value → Prop} {V : Value → List (Addr × Obj) → Prop} (x1 : EX prog w A (eval value env) h (Im P1)) (x2 : EX prog w A (eval slice env) h (Im P2))
    (hop : ∀ a b, P1 a → P2 b → EX prog w A (subscriptTail value slice a b) h V) : EX prog w A (eval (.Subscript value slice pos) env) h V := EX.two x1 x2 hop fun _ _ _ q => by with_reducible exact Subscript_ q
theorem tl_dict {K : Type} [DecidableEq K] {knd : KeyKind prog w K} {value slice : Expr} {d : Addr} {k : K} {key v : Value} {kvs : List (K × Value)} (hkey : knd.is k key = true) (hd : h.DictOf knd d kvs) (hv : valueAt kvs k = some v) (hP : P v)
    (hs : subscripted slice false (.ref d) key = operate [.ref d, key] (getItem (.ref d) key)) :
    EX prog w A (subscriptTail value slice (.ref d) key) h (Im P) := ⟨fun h1 g dr tk os Q E le H => by
  have hd' := (dict_up hd le).mapOf
  exact tail_any (s := ⟨h1, g, dr, tk, os⟩) hd'.typeIs slot_dict_getitem.lookup (wpAny_getItem_of hkey hd' hv (H _ [] _ _ Le.refl Fresh.nil ⟨rfl, hP⟩)) hs⟩
theorem tl_list {value slice : Expr} {a : Addr} {k : Int} {u : Tok} {its : List Value} {v : Value} (hl : h.IsList a its.toArray) (h0 : 0 ≤ k) (hf : k < 2 ^ 63) (hx : its[k.toNat]? = some v) (hP : P v)
    (hs : subscripted slice false (.ref a) (.int k u) = operate [.ref a, .int k u] (getItem (.ref a) (.int k u))) :
    EX prog w A (subscriptTail value slice (.ref a) (.int k u)) h (Im P) := ⟨fun h1 g dr tk os Q E le H => by
  have hl' := list_up hl le
  exact tail_any (s := ⟨h1, g, dr, tk, os⟩) hl'.typeIs slot_list_getitem.lookup (wpAny_getItem_list hl' h0 hf (by simpa using hx) (H _ [] _ _ Le.refl Fresh.nil ⟨rfl, hP⟩)) hs⟩
theorem tl_last {value slice : Expr} {a : Addr} {u : Tok} {its : List Value} {v : Value} (hl : h.IsList a its.toArray) (hx : its.getLast? = some v) (hP : P v)
    (hs : subscripted slice false (.ref a) (.int (-1) u) = operate [.ref a, .int (-1) u] (getItem (.ref a) (.int (-1) u))) :
    EX prog w A (subscriptTail value slice (.ref a) (.int (-1) u)) h (Im P) := ⟨fun h1 g dr tk os Q E le H => by
  have hl' := list_up hl le
  have hne : its ≠ [] := by intro e; rw [e] at hx; simp at hx
  have hpos : 0 < its.length := List.length_pos_iff.mpr hne
  refine tail_any (s := ⟨h1, g, dr, tk, os⟩) hl'.typeIs slot_list_getitem.lookup (wpAny_getItem_list_neg (x := v) hl' (by decide) (by simp; omega) (by decide) ?_ (H _ [] _ _ Le.refl Fresh.nil ⟨rfl, hP⟩)) hs
  rw [List.getLast?_eq_getElem?] at hx
  have : ((-1 : Int) + (its.toArray.size : Nat)).toNat = its.length - 1 := by simp; omega
  rw [this]
  simpa using hx⟩
theorem tl_tuple {value slice : Expr} {a : Addr} {k : Int} {u : Tok} {j : Nat} {its : List Value} {v : Value} (hl : h.IsTuple a its.toArray) (hlo : -(2 ^ 63) ≤ k) (hf : k < 2 ^ 63) (hj : seqIndex? k its.length = some j) (hx : its[j]? = some v) (hP : P v)
    (hs : subscripted slice false (.ref a) (.int k u) = operate [.ref a, .int k u] (getItem (.ref a) (.int k u))) :
    EX prog w A (subscriptTail value slice (.ref a) (.int k u)) h (Im P) := ⟨fun h1 g dr tk os Q E le H => by
  have hl' := tuple_up hl le
  exact item_tupleT (s := ⟨h1, g, dr, tk, os⟩) hl' hlo hf hj hx (H _ [] _ _ Le.refl Fresh.nil ⟨rfl, hP⟩) hs⟩
theorem tl_str {value slice : Expr} {x : Str} {t : Tok} {k : Int} {u : Tok} {c : Nat} (h0 : 0 ≤ k) (hf : k < 2 ^ 63) (hx : x.cps[k.toNat]? = some c)
    (hs : subscripted slice false (.str x t) (.int k u) = operate [.str x t, .int k u] (getItem (.str x t) (.int k u))) :
    EX prog w A (subscriptTail value slice (.str x t) (.int k u)) h (Im (IsS ⟨#[c]⟩)) := ⟨fun h1 g dr tk os Q E le H => by
  have hsz : k.toNat < x.length := by
    have := (Array.getElem?_eq_some_iff.mp hx).1
    exact this
  refine tail_any (s := ⟨h1, g, dr, tk, os⟩) (T := "str") (typeIs_str _ _ _) slot_str_getitem.lookup (PyProof.Rows.getItem_str (c := c) ?_ ?_ (H _ [] _ _ Le.refl Fresh.nil ⟨rfl, isS⟩)) hs
  · simp; omega
  · have : seqIndex? k x.length = some k.toNat := by
      unfold seqIndex?
      have hk : ¬ k < 0 := by omega
      have hk2 : (k : Int) < x.length := by omega
      simp only [if_neg hk]
      simp [h0, hk2]
    rw [this]; simpa using hx⟩

/-- displays -/
theorem ex_tuple {elts : List Expr} {k : Nat} {pos : Pos} {VA : List Value → List (Addr × Obj) → Prop} (ha : EX prog w A (spliced (backTo pos (starEach elts env))) h VA) (hz : ∀ vs n, VA vs n → vs.length ≤ 1000) :
    EX prog w A (eval (.Tuple elts k pos) env) h (fun v new => ∃ a vs n, v = .ref a ∧ new = (a, { cls := .type "tuple", data := .seq vs.toArray }) :: n ∧ VA vs n) := ⟨fun h1 g dr tk os Q E le H => by
  refine wpAny_Tuple_spliced (ha.run h1 g dr tk os _ E le fun vs new h2 tk2 l2 f2 hv => ⟨Nat.le_trans (hz _ _ hv) (by decide), ?_⟩)
  refine H _ ((h2.objs.size, { cls := .type "tuple", data := .seq vs.toArray }) :: new) _ _ (l2.trans fun b o e => Heap.get?_push_of_some _ e) ?_ ⟨_, _, _, rfl, rfl, hv⟩
  intro p hp
  rcases List.mem_cons.mp hp with rfl | hp
  · refine ⟨Heap.get?_push_size _ rfl, ?_⟩
    cases e : h1.get? h2.objs.size with
    | none => rfl
    | some o => exact absurd (Heap.lt_size (l2 _ _ e)) (Nat.lt_irrefl _)
  · exact ⟨Heap.get?_push_of_some _ (f2 p hp).1, (f2 p hp).2⟩⟩
theorem ex_list {elts : List Expr} {pos : Pos} {VA : List Value → List (Addr × Obj) → Prop} (ha : EX prog w A (spliced (backTo pos (starEach elts env))) h VA) (hz : ∀ vs n, VA vs n → vs.length ≤ 1000) :
    EX prog w A (eval (.List elts pos) env) h (fun v new => ∃ a vs n, v = .ref a ∧ new = (a, { cls := .type "list", data := .seq vs.toArray }) :: n ∧ VA vs n) := ⟨fun h1 g dr tk os Q E le H => by
  refine wpAny_List_spliced (ha.run h1 g dr tk os _ E le fun vs new h2 tk2 l2 f2 hv => ⟨Nat.le_trans (hz _ _ hv) (by decide), ?_⟩)
  refine H _ ((h2.objs.size, { cls := .type "list", data := .seq vs.toArray }) :: new) _ _ (l2.trans fun b o e => Heap.get?_push_of_some _ e) ?_ ⟨_, _, _, rfl, rfl, hv⟩
  intro p hp
  rcases List.mem_cons.mp hp with rfl | hp
  · refine ⟨Heap.get?_push_size _ rfl, ?_⟩
    cases e : h1.get? h2.objs.size with
    | none => rfl
    | some o => exact absurd (Heap.lt_size (l2 _ _ e)) (Nat.lt_irrefl _)
  · exact ⟨Heap.get?_push_of_some _ (f2 p hp).1, (f2 p hp).2⟩⟩

/-- calls of built-ins -/
theorem cl_type {a : Addr} {o : Obj} (ho : h.get? a = some o) (hnb : (o.cls == .type "builtin_function_or_method") = false) : EX prog w A (call (.type "type") [.ref a]) h (Im (· = o.cls)) :=
  ⟨fun h1 g dr tk os Q E le H => by
    have ho' : h1.get? a = some o := le _ _ ho
    with_reducible exact call_type_obj ho' hnb (H _ [] _ _ Le.refl Fresh.nil ⟨rfl, rfl⟩)⟩
theorem cl_isi_true {v : Value} {T : String} (hv : ∀ s : Shared, Le h s.heap → s.TypeIs v T) (hty : typeOf (.type T) = pure (.type "type")) (hsub : isSubtype (.type T) (.type T) = pure true) : EX prog w A (call (.builtin "isinstance") [v, .type T]) h (Im (IsB true)) :=
  ⟨fun h1 g dr tk os Q E le H => call_isinstance (isinstance_true hty hsub) ⟨hv ⟨h1, g, dr, tk, os⟩ le, H _ [] _ _ Le.refl Fresh.nil ⟨rfl, rfl⟩⟩⟩
theorem cl_isi_int {v : Value} {i : Int} {T : String} (hv : IsI i v) (hne : (Value.type "int" == Value.type T) = false) (hty : typeOf (.type T) = pure (.type "type")) (hsub : isSubtype (.type "int") (.type T) = pure false) : EX prog w A (call (.builtin "isinstance") [v, .type T]) h (Im (IsB false)) := by
  obtain ⟨t, rfl⟩ := hv
  exact ⟨fun h1 g dr tk os Q E le H => call_isinstance (isinstance_false_int hne hty hsub) (H _ [] _ _ Le.refl Fresh.nil ⟨rfl, rfl⟩)⟩
theorem cl_isi_str {v : Value} {x : Str} {T : String} (hv : IsS x v) (hne : (Value.type "str" == Value.type T) = false) (hty : typeOf (.type T) = pure (.type "type")) (hsub : isSubtype (.type "str") (.type T) = pure false) : EX prog w A (call (.builtin "isinstance") [v, .type T]) h (Im (IsB false)) := by
  obtain ⟨t, rfl⟩ := hv
  exact ⟨fun h1 g dr tk os Q E le H => call_isinstance (isinstance_false_str hne hty hsub) (H _ [] _ _ Le.refl Fresh.nil ⟨rfl, rfl⟩)⟩
theorem cl_isi_tup {a : Addr} {vs : Array Value} {T : String} (hv : h.IsTuple a vs) (hne : (Value.type "tuple" == Value.type T) = false) (hty : typeOf (.type T) = pure (.type "type")) (hsub : isSubtype (.type "tuple") (.type T) = pure false) : EX prog w A (call (.builtin "isinstance") [.ref a, .type T]) h (Im (IsB false)) :=
  ⟨fun h1 g dr tk os Q E le H => by
    obtain ⟨o, ho, hc, _⟩ := hv
    exact call_isinstance (isinstance_false_tuple hne hty hsub) ⟨⟨o, le _ _ ho, hc⟩, H _ [] _ _ Le.refl Fresh.nil ⟨rfl, rfl⟩⟩⟩
theorem cl_abs {v : Value} {i : Int} (hv : IsI i v) : EX prog w A (call (.builtin "abs") [v]) h (Im (IsI (if i < 0 then -i else i))) := by
  obtain ⟨t, rfl⟩ := hv
  exact ⟨fun h1 g dr tk os Q E le H => by with_reducible exact call_abs_int fun u tk' => H _ [] _ _ Le.refl Fresh.nil ⟨rfl, isI⟩⟩
theorem cl_min {v u : Value} {i j : Int} (hh : A.handled = none) (hv : IsI i v) (hu : IsI j u) : EX prog w A (call (.builtin "min") [v, u]) h (Im (IsI (if j < i then j else i))) := by
  obtain ⟨t, rfl⟩ := hv; obtain ⟨t', rfl⟩ := hu
  refine ⟨fun h1 g dr tk os Q E le H => ?_⟩
  refine min_two_ints (s := ⟨h1, g, dr, tk, os⟩) hh fun h' tk' hk => ?_
  refine H _ [] _ _ hk Fresh.nil ⟨rfl, ?_⟩
  by_cases c : j < i
  · rw [if_pos c, if_pos c]; exact isI
  · rw [if_neg c, if_neg c]; exact isI
theorem op_isnotnone {P1 : Value → Prop} {b : Bool} (hb : ∀ v, P1 v → (!(v == Value.none)) = b) (x y : Value) (hx : P1 x) (hy : y = .none) : EX prog w A (compareOp .IsNot x y) h (Im (IsB b)) := by
  subst hy
  exact ⟨fun _ _ _ _ _ _ _ _ H => by with_reducible exact isNot_none (H _ [] _ _ Le.refl Fresh.nil ⟨rfl, by rw [hb x hx]; exact isB⟩)⟩
theorem op_isref {a : Addr} (x y : Value) (hx : x = .ref a) (hy : y = .ref a) : EX prog w A (compareOp .Is x y) h (Im (IsB true)) := by
  subst hx hy
  refine ⟨fun _ _ _ _ _ _ _ _ H => ?_⟩
  show wpAny _ _ (do return Value.bool (← isSame (.ref a) (.ref a)) : Sem Value) _ _ _
  rw [show isSame (.ref a) (.ref a) = pure true by unfold isSame; simp]
  exact wpAny_bind (wpAny_pure (wpAny_pure (H _ [] _ _ Le.refl Fresh.nil ⟨rfl, isB⟩)))
theorem op_istype {a : String} (x y : Value) (hx : x = .type a) (hy : y = .type a) : EX prog w A (compareOp .Is x y) h (Im (IsB true)) := by
  subst hx hy
  refine ⟨fun _ _ _ _ _ _ _ _ H => ?_⟩
  show wpAny _ _ (do return Value.bool (← isSame (.type a) (.type a)) : Sem Value) _ _ _
  rw [show isSame (.type a) (.type a) = pure true by unfold isSame; simp]
  exact wpAny_bind (wpAny_pure (wpAny_pure (H _ [] _ _ Le.refl Fresh.nil ⟨rfl, isB⟩)))
theorem op_gt {a b : Int} (x y : Value) (hx : IsI a x) (hy : IsI b y) : EX prog w A (compareOp .Gt x y) h (Im (IsB (decide (b < a)))) := by
  obtain ⟨t, rfl⟩ := hx; obtain ⟨u, rfl⟩ := hy
  exact ⟨fun _ _ _ _ _ _ _ _ H => by with_reducible exact gt_int (H _ [] _ _ Le.refl Fresh.nil ⟨rfl, isB⟩)⟩
theorem op_iadd {a b : Int} (x y : Value) (hx : IsI a x) (hy : IsI b y) : EX prog w A (inplaceOp .Add x y) h (Im (IsI (a + b))) := by
  obtain ⟨t, rfl⟩ := hx; obtain ⟨u, rfl⟩ := hy
  exact ⟨fun _ _ _ _ _ _ _ _ H => by with_reducible exact wpAny_iadd_int (H _ [] _ _ Le.refl Fresh.nil ⟨rfl, isI⟩)⟩
end
end Mine
end
section
set_option maxRecDepth 100000
set_option linter.unusedVariables false
open PySem PySem.W PyProof.Rows PySem.Calls PySem.Spec
namespace Mine
/-- a tree that turns one object alone -/
structure MU {α : Type} (prog : Program) (w : World) (A : Around) (t : Sem α) (h : Heap) (D : Addr) (V : α → Obj → Prop) : Prop where
  run : ∀ (h1 : Heap) (g : Array GenState) (d : Drawn) (tk : Nat) (os : OsState) (Q : α → Shared → Prop) (E : Value → Shared → Prop), Le h h1 →
    (∀ v o' h2 tk', (∀ b ob, b ≠ D → h1.get? b = some ob → h2.get? b = some ob) → h2.get? D = some o' → V v o' → Q v ⟨h2, g, d, tk', os⟩) → wpAny (model prog w) A t Q E ⟨h1, g, d, tk, os⟩
section
variable {prog : Program} {w : World} {A : Around} {h : Heap} {env : Env} {P : Value → Prop} {K : Frag} {h₀ : Heap} {L : Addr} {m : Str → Option Value} {l : List (Str × Value)} {news news' : List (Addr × Obj)}
  {g : Array GenState} {d : Drawn} {tk : Nat} {os : OsState} {E : Value → Shared → Prop} {Q : Flow → Shared → Prop}
theorem fr_mu {h' : Heap} {D : Addr} {o : Obj} (F : Fr h₀ L h m) (N : News h₀ L h news) (hm : (D, o) ∈ news) (hk : ∀ b ob, b ≠ D → h.get? b = some ob → h'.get? b = some ob) : Fr h₀ L h' m := by
  obtain ⟨oL, a1, a2, hoL, a3⟩ := F.ns
  have hD := N _ hm
  exact ⟨⟨oL, a1, a2, hk _ _ (Ne.symm hD.2.1) hoL, a3⟩, fun b ob e => hk b ob (fun q => by rw [q, hD.2.2] at e; cases e) (F.keep b ob e), F.above⟩
theorem upd_mem {D : Addr} {o o' : Obj} : ∀ {a b : List (Addr × Obj)}, Upd D o o' a b → (D, o) ∈ a ∧ (∀ p ∈ b, p = (D, o') ∨ (p ∈ a ∧ p.1 ≠ D))
  | _, _, .head hh => ⟨.head _, fun p hp => by
    rcases List.mem_cons.mp hp with rfl | hp
    · exact .inl rfl
    · exact .inr ⟨.tail _ hp, hh p hp⟩⟩
  | _, _, .tail hne u => ⟨.tail _ (upd_mem u).1, fun p hp => by
    rcases List.mem_cons.mp hp with rfl | hp
    · exact .inr ⟨.head _, hne⟩
    · rcases (upd_mem u).2 p hp with h | h
      · exact .inl h
      · exact .inr ⟨.tail _ h.1, h.2⟩⟩
theorem nw_mu {h' : Heap} {D : Addr} {o o' : Obj} (N : News h₀ L h news) (U : Upd D o o' news news') (hk : ∀ b ob, b ≠ D → h.get? b = some ob → h'.get? b = some ob) (hD : h'.get? D = some o') : News h₀ L h' news' := fun p hp => by
  have u := upd_mem U
  rcases u.2 p hp with rfl | ⟨hp, hne⟩
  · exact ⟨hD, (N _ u.1).2⟩
  · exact ⟨hk _ _ hne (N p hp).1, (N p hp).2⟩


theorem mu_append {D : Addr} {its : List Value} {n : Nat} {x : Value} (hl : h.get? D = some { cls := .type "list", data := .seq its.toArray n }) (hz : its.length ≤ 1000) :
    MU prog w A (call (.builtin "list.append") [.ref D, x]) h D (fun v o' => o' = { cls := .type "list", data := .seq (its ++ [x]).toArray (n + 1) }) := by
  refine ⟨fun h1 g d tk os Q E le H => ?_⟩
  refine append_at (s := ⟨h1, g, d, tk, os⟩) (le _ _ hl) (fun h' hs hg => ?_) (Nat.le_trans (m := 1000) (by simpa using hz) (by decide))
  exact H _ _ h' tk (fun b ob hb e => (hs.2 b hb).trans e) hg (by simp)
theorem mu_pop {D : Addr} {its : List Value} {n : Nat} {y : Value} (hl : h.get? D = some { cls := .type "list", data := .seq its.toArray n }) (hy : its.getLast? = some y) (hz : its.length ≤ 1000) :
    MU prog w A (call (.builtin "list.pop") [.ref D]) h D (fun v o' => o' = { cls := .type "list", data := .seq its.dropLast.toArray (n + 1) }) := by
  refine ⟨fun h1 g d tk os Q E le H => ?_⟩
  refine PyProof.Rows.Copied.pop_at (s := ⟨h1, g, d, tk, os⟩) (le _ _ hl) (y := y) (by rw [List.getLast?_eq_getElem?] at hy; simpa using hy) (fun h' hs hg => ?_) (Nat.le_trans (m := 1000) (by simpa using hz) (by decide))
  exact H _ _ h' tk (fun b ob hb e => (hs.2 b hb).trans e) hg (by simp)
theorem gm_append {D : Addr} {its : Array Value} {n : Nat} {pl : Sem Bool} (hl : h.get? D = some { cls := .type "list", data := .seq its n }) : EX prog w A (getMethod (.ref D) (Str.ofString "append") pl) h (Im (· = (.builtin "list.append", [.ref D]))) :=
  ⟨fun _ _ _ _ _ _ _ le H => by
    have hl' := le _ _ hl
    with_reducible exact getMethod_list_append hl' rfl rfl (H _ [] _ _ Le.refl Fresh.nil ⟨rfl, rfl⟩)⟩
theorem gm_pop {D : Addr} {its : Array Value} {n : Nat} {pl : Sem Bool} (hl : h.get? D = some { cls := .type "list", data := .seq its n }) : EX prog w A (getMethod (.ref D) (Str.ofString "pop") pl) h (Im (· = (.builtin "list.pop", [.ref D]))) :=
  ⟨fun _ _ _ _ _ _ _ le H => by
    have hl' := le _ _ hl
    with_reducible exact PyProof.Rows.Copied.getMethod_pop_at hl' rfl rfl (H _ [] _ _ Le.refl Fresh.nil ⟨rfl, rfl⟩)⟩

theorem MU.mono {α : Type} {t : Sem α} {D : Addr} {V V' : α → Obj → Prop} (x : MU prog w A t h D V) (hv : ∀ v o, V v o → V' v o) : MU prog w A t h D V' :=
  ⟨fun h1 g d tk os Q E le H => x.run h1 g d tk os Q E le fun v o' h2 tk' a b c => H v o' h2 tk' a b (hv _ _ c)⟩
theorem mu_after {α β : Type} {m : Sem α} {t : Sem β} {f : α → Sem β} {D : Addr} {V1 : α → List (Addr × Obj) → Prop} {V : β → Obj → Prop} (x1 : EX prog w A m h V1) (x2 : ∀ a new h2, Le h h2 → (∀ p ∈ new, h2.get? p.1 = some p.2) → V1 a new → MU prog w A (f a) h2 D V)
    (hD : (h.get? D).isSome = true)
    (hw : ∀ Q E s, wpAny (model prog w) A m (fun a s1 => wpAny (model prog w) A (f a) Q E s1) E s → wpAny (model prog w) A t Q E s) : MU prog w A t h D V :=
  ⟨fun h1 g d tk os Q E le H => hw Q E _ (x1.run h1 g d tk os _ E le fun a new h2 tk2 l2 f2 hv => (x2 a new h2 (le.trans l2) (fun p hp => (f2 p hp).1) hv).run h2 g d tk2 os Q E Le.refl fun v o' h3 tk3 k ho hV => H v o' h3 tk3 (fun b ob hb e => k b ob hb (l2 _ _ e)) ho hV)⟩
theorem mu_cw0 {p : Pos} {id : String} {first : List Value} {D : Addr} {V : Value → Obj → Prop} (x : MU prog w A (call (.builtin id) first) h D V) :
    MU prog w A (callWith p (.builtin id) first (backTo p (starEach [] env)) []) h D V := ⟨fun h1 g d tk os Q E le H => by
  have z := x.run h1 g d tk os Q E le H
  with_reducible exact callWith_method0 z⟩
theorem mu_cw1 {p : Pos} {e : Expr} {rest : List Expr} {id : String} {first : List Value} {D : Addr} {VA : List Value → List (Addr × Obj) → Prop} {V : Value → Obj → Prop}
    (ha : EX prog w A (spliced (backTo p (starEach (e :: rest) env))) h VA) (hD : (h.get? D).isSome = true)
    (hc : ∀ vs new h2, Le h h2 → (∀ q ∈ new, h2.get? q.1 = some q.2) → VA vs new → MU prog w A (call (.builtin id) (first ++ vs)) h2 D V)
    (he : starEach (e :: rest) env = (false, eval e env) :: starEach rest env := by kernel_rfl) (hplain : (backTo p (starEach rest env)).any (·.1) = false := by kernel_rfl) :
    MU prog w A (callWith p (.builtin id) first (backTo p (starEach (e :: rest) env)) []) h D V :=
  mu_after ha hc hD fun Q E s q => by with_reducible exact PyProof.Rows.callWith_method1 q he hplain
theorem mu_meth {o : Expr} {name : Str} {apos pos : Pos} {args : List Expr} {fv : Value} {first : List Value} {D : Addr} {V : Value → Obj → Prop} (ho : EX prog w A (eval o env) h (Im (· = .ref D))) (hD : (h.get? D).isSome = true)
    (hg : EX prog w A (getMethod (.ref D) name (plOf o env)) h (Im (· = (fv, first))))
    (hc : MU prog w A (callWith pos fv first (backTo pos (starEach args env)) []) h D V)
    (hr : MCall o name apos pos args env := by kernel_rfl) : MU prog w A (eval (.Call (.Attribute o name apos) args [] pos) env) h D V :=
  ⟨fun h1 g d tk os Q E le H => by
    with_reducible refine MethodCall_ (pl := plOf o env) (ho.run h1 g d tk os _ E le fun a n h2 tk2 l2 f2 hv => ?_) hr
    rw [hv.2]
    refine hg.run h2 g d tk2 os _ E (le.trans l2) fun fx n3 h3 tk3 l3 f3 hv3 => ?_
    rw [hv3.2]
    exact hc.run h3 g d tk3 os Q E ((le.trans l2).trans l3) fun v o' h4 tk4 k ho hV => H v o' h4 tk4 (fun b ob hb e => k b ob hb (l3 _ _ (l2 _ _ e))) ho hV⟩

/-- a statement that is a turning call -/
theorem st_exprM {e : Expr} {pos : Pos} {rest : List Stmt} {D : Addr} {o : Obj} {V : Value → Obj → Prop} (F : Fr h₀ L h m) (N : News h₀ L h news) (x : MU prog w A (eval e env) h D V) (hm : (D, o) ∈ news)
    (H : ∀ v o', V v o' → ∃ news', Upd D o o' news news' ∧ ∀ h' tk', Fr h₀ L h' m → News h₀ L h' news' → WP prog w A (execs rest env) Q ⟨h', g, d, tk', os⟩)
    (hi : interactive env = false) (hs : swapsWith e none pos.line env = pure false) :
    WP prog w A (execs (.Expr e pos :: rest) env) Q ⟨h, g, d, tk, os⟩ := by
  refine wp_cons ⟨?_⟩
  refine wpAny_Expr_any (x.run h g d tk os _ _ Le.refl fun v o' h2 tk2 k ho hV => ?_) hi hs
  obtain ⟨news', U, H'⟩ := H v o' hV
  exact (H' h2 tk2 (fr_mu F N hm k) (nw_mu N U k ho)).run

/-- del xs[e:] -/
theorem mu_delTail {value e : Expr} {sp pos : Pos} {D : Addr} {its : List Value} {n : Nat} {lo : Int} {k : Nat} (hv : EX prog w A (eval value env) h (Im (· = .ref D))) (he : EX prog w A (eval e env) h (Im (IsI lo)))
    (hl : h.get? D = some { cls := .type "list", data := .seq its.toArray n }) (hb : sliceBounds (some lo) none none its.length = ((k : Int), (its.length : Int), (1 : Int))) (hz : its.length ≤ 1000) :
    MU prog w A (deleteEach [.Subscript value (.Slice (some e) none none sp) pos] env) h D (fun v o' => ∃ n', o' = { cls := .type "list", data := .seq (its.take k).toArray n' }) := by
  refine ⟨fun h1 g d tk os Q E le H => ?_⟩
  refine wpAny_deleteEach_cons (wpAny_delete_Subscript (hv.run h1 g d tk os _ E le fun a n2 h2 tk2 l2 f2 ha => ?_))
  rw [ha.2]
  refine wpAny_Slice ?_
  show wpAny _ _ (eval e env) _ _ _
  refine he.run h2 g d tk2 os _ E (le.trans l2) fun lv n3 h3 tk3 l3 f3 hlv => ?_
  rw [evalPart_none]
  refine wpAny_pure (wpAny_pure ?_)
  obtain ⟨t, rfl⟩ := hlv.2
  have hl3 := Heap.get?_push_of_some { cls := .type "slice", data := .fields #[.int lo t, .none, .none] } (l3 _ _ (l2 _ _ (le _ _ hl)))
  refine delItem_tail hl3 (Heap.IsSliceOf.new ..) (.int lo t) hb (fun h' n' hs hg => ?_) hz
  exact wpAny_deleteEach_nil (H _ _ h' _ (fun b ob hb e => (hs.2 b hb).trans (Heap.get?_push_of_some _ (l3 _ _ (l2 _ _ e)))) hg ⟨n', rfl⟩)
theorem st_delM {ts : List Expr} {pos : Pos} {rest : List Stmt} {D : Addr} {o : Obj} {V : Unit → Obj → Prop} (F : Fr h₀ L h m) (N : News h₀ L h news) (x : MU prog w A (deleteEach ts env) h D V) (hm : (D, o) ∈ news)
    (H : ∀ o', V () o' → ∃ news', Upd D o o' news news' ∧ ∀ h' tk', Fr h₀ L h' m → News h₀ L h' news' → WP prog w A (execs rest env) Q ⟨h', g, d, tk', os⟩) :
    WP prog w A (execs (.Delete ts pos :: rest) env) Q ⟨h, g, d, tk, os⟩ := by
  refine wp_cons ⟨?_⟩
  refine wpAny_Delete (x.run h g d tk os _ _ Le.refl fun v o' h2 tk2 k ho hV => ?_)
  obtain ⟨news', U, H'⟩ := H o' hV
  exact (H' h2 tk2 (fr_mu F N hm k) (nw_mu N U k ho)).run

/-- three names take a tuple's items -/
theorem as_three {a b c : Str} {pa pb pc pos : Pos} {k : Nat} {T : Addr} {v1 v2 v3 : Value} {Q : Unit → Shared → Prop} (hh : A.handled = none) (F : Fr h₀ L h (frm l)) (N : News h₀ L h news) (ht : h.IsTuple T #[v1, v2, v3])
    (H : ∀ h' tk', Fr h₀ L h' (frm ((c, v3) :: (b, v2) :: (a, v1) :: l)) → News h₀ L h' news → Q () ⟨h', g, d, tk', os⟩) (hL : LocalEnv env L) (ha : env.kindOf a = some .local) (hb : env.kindOf b = some .local) (hc : env.kindOf c = some .local) :
    wpAny (model prog w) A (assign (.Tuple [.Name a pa, .Name b pb, .Name c pc] k pos) env (.ref T)) Q E ⟨h, g, d, tk, os⟩ := by
  refine unpackN_ (s := ⟨h, g, d, tk, os⟩) F N ht hh rfl rfl fun h' F' N' => ?_
  show wpAny _ _ (holding [v2, v3] (assign (.Name a pa) env v1) >>= fun _ => holding [v3] (assign (.Name b pb) env v2) >>= fun _ => holding [] (assign (.Name c pc) env v3) >>= fun _ => pure ()) _ _ _
  refine wpAny_bind (wpAny_holding (wpAny_assign_Name (st_store F' N' (fun h2 tk2 F2 N2 _ => ?_) hL ha)))
  refine wpAny_bind (wpAny_holding (wpAny_assign_Name (st_store F2 N2 (fun h3 tk3 F3 N3 _ => ?_) hL hb)))
  refine wpAny_bind (wpAny_holding (wpAny_assign_Name (st_store F3 N3 (fun h4 tk4 F4 N4 _ => ?_) hL hc)))
  exact wpAny_pure (H h4 tk4 F4 N4)
theorem as_two {a b : Str} {pa pb pos : Pos} {k : Nat} {T : Addr} {v1 v2 : Value} {Q : Unit → Shared → Prop} (hh : A.handled = none) (F : Fr h₀ L h (frm l)) (N : News h₀ L h news) (ht : h.IsTuple T #[v1, v2])
    (H : ∀ h' tk', Fr h₀ L h' (frm ((b, v2) :: (a, v1) :: l)) → News h₀ L h' news → Q () ⟨h', g, d, tk', os⟩) (hL : LocalEnv env L) (ha : env.kindOf a = some .local) (hb : env.kindOf b = some .local) :
    wpAny (model prog w) A (assign (.Tuple [.Name a pa, .Name b pb] k pos) env (.ref T)) Q E ⟨h, g, d, tk, os⟩ := by
  refine unpackN_ (s := ⟨h, g, d, tk, os⟩) F N ht hh rfl rfl fun h' F' N' => ?_
  show wpAny _ _ (holding [v2] (assign (.Name a pa) env v1) >>= fun _ => holding [] (assign (.Name b pb) env v2) >>= fun _ => pure ()) _ _ _
  refine wpAny_bind (wpAny_holding (wpAny_assign_Name (st_store F' N' (fun h2 tk2 F2 N2 _ => ?_) hL ha)))
  refine wpAny_bind (wpAny_holding (wpAny_assign_Name (st_store F2 N2 (fun h3 tk3 F3 N3 _ => ?_) hL hb)))
  exact wpAny_pure (H h3 tk3 F3 N3)
end
end Mine
end
section
set_option maxRecDepth 100000
set_option linter.unusedVariables false
open PySem PySem.W PyProof.Rows PySem.Calls PySem.Spec
namespace Mine
section
variable {prog : Program} {w : World} {A : Around} {h : Heap} {env : Env} {P : Value → Prop} {Kf : Frag} {h₀ : Heap} {L : Addr} {m : Str → Option Value} {l : List (Str × Value)} {news : List (Addr × Obj)}
  {g : Array GenState} {d : Drawn} {tk : Nat} {os : OsState} {E : Value → Shared → Prop} {Q : Flow → Shared → Prop}
theorem st_brk {p : Pos} {rest : List Stmt} {s : Shared} (H : Q .brk s) : WP prog w A (execs (.Break p :: rest) env) Q s := wp_cons ⟨wpAny_Break H⟩
theorem st_cont {p : Pos} {rest : List Stmt} {s : Shared} (H : Q .cont s) : WP prog w A (execs (.Continue p :: rest) env) Q s := wp_cons ⟨wpAny_Continue H⟩

/-- x.attr += e, x an object of the ledger -/
theorem st_augattr {C x dx : Addr} {o e : Expr} {attr : Str} {p' pos : Pos} {op : Operator} {rest : List Stmt} {es : List DictEntry} {n : Nat} {P1 P2 : Value → Prop} {news' : Tok → Value → List (Addr × Obj)} (F : Fr h₀ L h m) (X₀ : Kf.In h₀) (N : News h₀ L h news)
    (ho : EX prog w A (eval o env) h (Im (· = .ref x))) (hold : EX prog w A (getAttr (.ref x) attr true) h (Im P1)) (he : EX prog w A (eval e env) h (Im P2)) (hop : ∀ a b, P1 a → P2 b → EX prog w A (inplaceOp op a b) h (Im P)) (hx : (x, instObj C dx) ∈ news) (hdx : (dx, dictOf es n) ∈ news)
    (U : ∀ t v, Upd dx (dictOf es n) (dictOf (putL attr (PyData.keyHash w.params attr) (.str attr t) v es) (putN attr es n)) news (news' t v))
    (H : ∀ v t h' tk', P v → Fr h₀ L h' m → News h₀ L h' (news' t v) → WP prog w A (execs rest env) Q ⟨h', g, d, tk', os⟩)
    (hs : findIn Kf (.ref C) "__setattr__" = some (some (.builtin "object.__setattr__"))) (hp : plainOver Kf C = true) (ht : takerIn Kf C attr = some none) (hh : hasDictIn Kf C = true) (hl : (getL attr es).isSome = true) (hz : (putL attr 0 .none .none es).length ≤ 1000) :
    WP prog w A (execs (.AugAssign (.Attribute o attr p') op e pos :: rest) env) Q ⟨h, g, d, tk, os⟩ := by
  refine wp_cons ⟨?_⟩
  refine wpAny_AugAssign_AttributeAny (ho.at fun ov n1 h1 tk1 l1 f1 hov => ?_)
  rw [hov.2]
  refine hold.run h1 g d tk1 os _ _ l1 fun a n2 h2 tk2 l2 f2 ha => he.run h2 g d tk2 os _ _ (l1.trans l2) fun b n3 h3 tk3 l3 f3 hb => (hop a b ha.2 hb.2).run h3 g d tk3 os _ _ ((l1.trans l2).trans l3) fun v n4 h4 tk4 l4 f4 hv => ?_
  have lz := ((l1.trans l2).trans l3).trans l4
  have F3 := fr_up F lz
  have N3 := nw_up N lz
  have I : W.InstAt h4 x (instObj C dx) C (some (dictOf es n)) := inst_mk (N3 _ hx).1 (N3 _ hdx).1
  have hlen : ∀ a b c, (putL attr a b c es).length = (putL attr 0 .none .none es).length := by
    intro a b c
    clear U hdx hl hz I hx N hold
    induction es with
    | nil => rfl
    | cons e r ih => unfold putL; split <;> simp [ih]
  exact set_dict (s := ⟨h4, g, d, tk4, os⟩) F3 X₀ N3 I rfl hs hp ht hh hl rfl (U _ _) (by rw [hlen]; exact hz) fun h' F' N' => (H v _ h' _ hv.2 F' N').run
end

section
variable {prog : Program} {w : World} {A : Around} {R : GenEnd} {Y : Protocol} {n : Nat} {s₀ : Shared} {c : Code} {fs : List Frame} {s : Shared} {env : Env}
  {K : Flow → Sem Fin} {H : Value → Sem Fin} {gd : Bool → Bool} {lv : List Value → List Value}
  {h : Heap} {h₀ : Heap} {L : Addr} {m : Str → Option Value} {l : List (Str × Value)} {news : List (Addr × Obj)}
  {g : Array GenState} {d : Drawn} {tk : Nat} {os : OsState}

/-- behind a statement of a generator -/
def bK (env : Env) (rest : List Stmt) (K : Flow → Sem Fin) (H : Value → Sem Fin) (gd : Bool → Bool) (lv : List Value → List Value) : Flow → Sem Fin
  | .next => (execs rest env).wrap K H gd lv
  | f => K f
theorem execs_one {st : Stmt} {rest : List Stmt} : (execs (st :: rest) env).wrap K H gd lv = (execs [st] env).wrap (bK env rest K H gd lv) H gd lv := by
  rw [execs_cons_wrap, execs_cons_wrap]
  refine Sem.wrap_congr _ _ _ (fun f => ?_) (fun _ => rfl)
  cases f <;> rfl
theorem sg_stmt {st : Stmt} {rest : List Stmt} (hh : WP prog w (A.over c fs) (execs [st] env) (fun f s' => Seg (model prog w) A R Y n s₀ c (bK env rest K H gd lv f) fs s') s) :
    Seg (model prog w) A R Y n s₀ c ((execs (st :: rest) env).wrap K H gd lv) fs s := by rw [execs_one]; exact sg_execs hh
theorem sg_nil (hh : Seg (model prog w) A R Y n s₀ c (K .next) fs s) : Seg (model prog w) A R Y n s₀ c ((execs [] env).wrap K H gd lv) fs s := hh
theorem sg_bK_nil (hh : Seg (model prog w) A R Y n s₀ c (K .next) fs s) : Seg (model prog w) A R Y n s₀ c (bK env [] K H gd lv .next) fs s := hh
theorem execs_cons_bK {st : Stmt} {rest : List Stmt} : (execs (st :: rest) env).wrap K H gd lv = (exec st env).wrap (bK env rest K H gd lv) H gd lv := by
  rw [execs_cons_wrap]
  exact Sem.wrap_congr _ _ _ (fun f => by cases f <;> rfl) (fun _ => rfl)
theorem sg_ifE {test : Expr} {body orelse rest : List Stmt} {pos : Pos} {b : Bool} (F : Fr h₀ L h m) (N : News h₀ L h news) (ht : EX prog w (A.over c fs) (PySem.isTrue test env (eval test env)) h (Im (· = b)))
    (H1 : b = true → ∀ h' tk', Fr h₀ L h' m → News h₀ L h' news → Seg (model prog w) A R Y n s₀ c ((execs body env).wrap (bK env rest K H gd lv) H gd lv) fs ⟨h', g, d, tk', os⟩)
    (H2 : b = false → ∀ h' tk', Fr h₀ L h' m → News h₀ L h' news → Seg (model prog w) A R Y n s₀ c ((execs orelse env).wrap (bK env rest K H gd lv) H gd lv) fs ⟨h', g, d, tk', os⟩) :
    Seg (model prog w) A R Y n s₀ c ((execs (.If test body orelse pos :: rest) env).wrap K H gd lv) fs ⟨h, g, d, tk, os⟩ := by
  rw [execs_cons_bK]
  refine sg_If ⟨ht.at fun v new h2 tk2 l2 f2 hv => ?_⟩
  rw [hv.2]
  cases b with
  | true => rw [if_pos rfl]; exact H1 rfl h2 tk2 (fr_up F l2) (nw_up N l2)
  | false => rw [if_neg (by decide)]; exact H2 rfl h2 tk2 (fr_up F l2) (nw_up N l2)
theorem sg_yieldE {e : Expr} {ypos pos : Pos} {rest : List Stmt} {V : Value → List (Addr × Obj) → Prop} (F : Fr h₀ L h m) (N : News h₀ L h news) (he : EX prog w (A.over c fs) (eval e env) h V)
    (hfs : splitAtGen fs = none) (hgd : gd false = false) (hfg : fs.any Frame.guarded = false)
    (hy : ∀ v new h' tk' kap, V v new → Fr h₀ L h' m → News h₀ L h' (new ++ news) → Le h h' → Fresh h h' new → (∀ s'', Seg (model prog w) A R Y n s'' c ((execs rest env).wrap K H gd lv) fs s'' → kap (.send .none) s'') → Y n s₀ v ⟨h', g, d, tk', os⟩ kap)
    (hco : env.scope.isCoroutine = false := by rfl) (hi : interactive env = false := by rfl) :
    Seg (model prog w) A R Y (n + 1) s₀ c ((execs (.Expr (.Yield (some e) ypos) pos :: rest) env).wrap K H gd lv) fs ⟨h, g, d, tk, os⟩ := by
  rw [execs_cons_bK]
  exact seg_Expr_Yield hfs hgd hfg (he.at fun v new h2 tk2 l2 f2 hv kap hk => hy v new h2 tk2 kap hv (fr_up F l2) (nw_add F N l2 f2) l2 f2 fun s'' hs => hk .none s'' hs) hco hi
end
end Mine
end
section
set_option maxRecDepth 100000
set_option linter.unusedVariables false
open PySem PySem.W PyProof.Rows PySem.Calls PySem.Spec
namespace Mine
section
variable {prog : Program} {w : World} {A : Around} {R : GenEnd} {Y : Protocol} {n : Nat} {s₀ : Shared} {c : Code} {fs : List Frame} {s : Shared} {env : Env}
  {K : Flow → Sem Fin} {H : Value → Sem Fin} {gd : Bool → Bool} {lv : List Value → List Value}
  {h : Heap} {h₀ : Heap} {L : Addr} {m : Str → Option Value} {l : List (Str × Value)} {news : List (Addr × Obj)}
  {g : Array GenState} {d : Drawn} {tk : Nat} {os : OsState}

/-- a while loop's turn -/
def whileEnd (test : Expr) (body orelse : List Stmt) (env : Env) : Flow → Sem Fin
  | .next | .cont => .pure (.again (.whileLoop test body orelse env))
  | .brk => .pure (.done .next)
  | .ret v => .pure (.done (.ret v))
theorem sg_whileI {test : Expr} {body orelse : List Stmt} (J : Nat → Shared → Shared → Prop) (ht : ∀ n s₀ s, J n s₀ s → WP prog w (A.over (.whileLoop test body orelse env) fs) (PySem.isTrue test env (eval test env)) (fun b s' => b = true ∧ J n s₀ s') s)
    (turn : ∀ n, (∀ k, k < n → ∀ s₀ s, J k s₀ s → Seg (model prog w) A R Y k s₀ (.whileLoop test body orelse env) (.pure (.again (.whileLoop test body orelse env))) fs s) →
      ∀ s₀ s, J n s₀ s → Seg (model prog w) A R Y n s₀ (.whileLoop test body orelse env) ((execs body env).wrap (whileEnd test body orelse env) (noteEnd env) id id) fs s) :
    ∀ n s₀ s, J n s₀ s → Seg (model prog w) A R Y n s₀ (.whileLoop test body orelse env) ((model prog w).den (.whileLoop test body orelse env)) fs s := by
  intro n
  induction n using Nat.strongRecOn with
  | _ n ih =>
    intro s₀ s hJ
    refine seg_whileLoop (wpAny_mono (ht n s₀ s hJ).run (fun b s' hb => ?_) fun _ _ e => e.elim)
    rw [if_pos hb.1]
    have z := turn n (fun k hk s₀ s hJ => seg_again rfl (ih k hk s₀ s hJ)) s₀ s' hb.2
    have e1 : whileEnd test body orelse env = (fun f => match f with
            | .next | .cont => .pure (.again (.whileLoop test body orelse env))
            | .brk => .pure (.done .next)
            | .ret v => .pure (.done (.ret v))) := by funext f; cases f <;> rfl
    have e2 : noteEnd env = (fun e => (do noteFrame e env; theTreesLotGoes e : Sem Unit).wrap (fun _ => .raise e) .raise id id) := rfl
    rw [e1, e2] at z
    exact z

/-- a for loop over a list of threes -/
theorem sg_for3 {x1 x2 x3 : Str} {p1 p2 p3 tp pos : Pos} {kk : Nat} {iter : Expr} {body orelse rest : List Stmt} {ax : Addr} {items : List Value} (hh : (A.over c fs).handled = none) (Inv : Nat → List (Str × Value) → List (Addr × Obj) → Prop) (F : Fr h₀ L h (frm l)) (N : News h₀ L h news)
    (hit : EX prog w (A.over c fs) (eval iter env) h (Im (· = .ref ax))) (h0 : Inv 0 l news) (src : h₀.IsList ax items.toArray)
    (turn : ∀ (i : Nat) I p (o : Obj) T v1 v2 v3 h tk l news, items[i]? = some (Value.ref T) → h₀.IsTuple T #[v1, v2, v3] → Inv i l news → Fr h₀ L h (frm ((x3, v3) :: (x2, v2) :: (x1, v1) :: l)) → News h₀ L h ((I, o) :: news) → (∀ q ∈ news, q.1 ≠ I) →
      (∀ h' tk' l' news', Inv (i + 1) l' news' → Fr h₀ L h' (frm l') → News h₀ L h' ((I, o) :: news') → (∀ q ∈ news', q.1 ≠ I) →
        Seg (model prog w) A R Y n s₀ (.forLoop (.Tuple [.Name x1 p1, .Name x2 p2, .Name x3 p3] kk tp) (.ref I) body orelse env) (.pure (.again (.forLoop (.Tuple [.Name x1 p1, .Name x2 p2, .Name x3 p3] kk tp) (.ref I) body orelse env))) (.ret (loopK env (bK env rest K H gd lv) H gd lv) none (gd false) (lv []) c p [] :: fs) ⟨h', g, d, tk', os⟩) →
      Seg (model prog w) A R Y n s₀ (.forLoop (.Tuple [.Name x1 p1, .Name x2 p2, .Name x3 p3] kk tp) (.ref I) body orelse env) ((execs body env).wrap (forEnd (.Tuple [.Name x1 p1, .Name x2 p2, .Name x3 p3] kk tp) (.ref I) body orelse env) (noteEnd env) id id) (.ret (loopK env (bK env rest K H gd lv) H gd lv) none (gd false) (lv []) c p [] :: fs) ⟨h, g, d, tk, os⟩)
    (fin : ∀ p h tk l news, Inv items.length l news → Fr h₀ L h (frm l) → News h₀ L h news →
      Seg (model prog w) A R Y n s₀ (.block orelse env) ((execs orelse env).wrap (fun f => .pure (.done f)) (noteEnd env) id id) (.ret (loopK env (bK env rest K H gd lv) H gd lv) none (gd false) (lv []) c p [] :: fs) ⟨h, g, d, tk, os⟩)
    (tups : ∀ (i : Nat) T, items[i]? = some (Value.ref T) → ∃ v1 v2 v3, h₀.IsTuple T #[v1, v2, v3]) (refs : ∀ (i : Nat) v, items[i]? = some v → ∃ T, v = Value.ref T)
    (hL : LocalEnv env L) (k1 : env.kindOf x1 = some .local) (k2 : env.kindOf x2 = some .local) (k3 : env.kindOf x3 = some .local) (hs : ∀ x, foldedSetIterable iter env x = pure x := by intro _; kernel_rfl) :
    Seg (model prog w) A R Y n s₀ c ((execs (.For (.Tuple [.Name x1 p1, .Name x2 p2, .Name x3 p3] kk tp) iter body orelse pos :: rest) env).wrap K H gd lv) fs ⟨h, g, d, tk, os⟩ := by
  rw [execs_cons_bK]
  refine sg_For ⟨hit.at fun v new h2 tk2 l2 f2 hv => ?_⟩ hs
  rw [hv.2]
  have F2 := fr_up F l2
  have N2 := nw_up N l2
  refine wpAny_pyIter_list (s := ⟨h2, g, d, tk2, os⟩) (list_up src F2.keep) ?_
  intro p
  have hho : ∀ c' k, (A.over c' (.ret k none (gd false) (lv []) c p [] :: fs)).handled = none := fun c' k => hh
  have hne : ∀ q ∈ news, q.1 ≠ h2.objs.size := fun q hq => Nat.ne_of_lt (Heap.lt_size (N2 q hq).1)
  have lp : Le h2 (h2.push { cls := .type "list_iterator", data := .fields #[.ref ax, .int 0 0] }) := fun b ob e => Heap.get?_push_of_some _ e
  have key : ∀ (k i : Nat) (I : Addr) (o : Obj) h tk l news, k = items.length - i → i ≤ items.length → Inv i l news → Fr h₀ L h (frm l) → News h₀ L h ((I, o) :: news) → (∀ q ∈ news, q.1 ≠ I) → o.cls = .type "list_iterator" → o.data = .fields #[.ref ax, .int i 0] →
      Seg (model prog w) A R Y n s₀ (.forLoop (.Tuple [.Name x1 p1, .Name x2 p2, .Name x3 p3] kk tp) (.ref I) body orelse env) ((model prog w).den (.forLoop (.Tuple [.Name x1 p1, .Name x2 p2, .Name x3 p3] kk tp) (.ref I) body orelse env)) (.ret (loopK env (bK env rest K H gd lv) H gd lv) none (gd false) (lv []) c p [] :: fs) ⟨h, g, d, tk, os⟩ := by
    intro k
    induction k with
    | zero =>
      intro i I o h tk l news hk hi hI F N hne hc hd
      have : i = items.length := by omega
      subst this
      refine sg_forLoop ⟨?_⟩
      have hsrc := list_up src F.keep
      refine wpAny_pyNext_list_end (s := ⟨h, g, d, tk, os⟩) (hho _ _) ⟨o, (N _ (.head _)).1, hc, hd⟩ hsrc (by simp) fun h' he => ?_
      refine sg_block ?_
      obtain ⟨oL, a1, a2, hoL, a3⟩ := F.ns
      have hIL := N _ (.head _)
      refine fin p h' tk l news hI ⟨⟨oL, a1, a2, he _ _ (Ne.symm hIL.2.1) hoL, a3⟩, fun b ob e => he b ob (fun q => by rw [q, hIL.2.2] at e; cases e) (F.keep b ob e), F.above⟩ fun q hq => ⟨he _ _ (hne q hq) (N q (.tail _ hq)).1, (N q (.tail _ hq)).2⟩
    | succ k ih =>
      intro i I o h tk l news hk hi hI F N hne hc hd
      have hlt : i < items.length := by omega
      obtain ⟨T, hT⟩ := refs i items[i] (by simp [hlt])
      have hT' : items[i]? = some (Value.ref T) := by rw [← hT]; simp [hlt]
      obtain ⟨v1, v2, v3, ht⟩ := tups i T hT'
      refine sg_forLoop ⟨?_⟩
      have hsrc := list_up src F.keep
      refine wpAny_pyNext_list_item (s := ⟨h, g, d, tk, os⟩) ⟨o, (N _ (.head _)).1, hc, hd⟩ hsrc (x := .ref T) (by simpa using hT') fun h' hit' hsb => ?_
      obtain ⟨o', ho', hc', hd'⟩ := id hit'
      have hsk : ∀ b ob, b ≠ I → h.get? b = some ob → h'.get? b = some ob := fun b ob hb e => (hsb.2 b hb).trans e
      have hIL := N _ (.head _)
      obtain ⟨oL, a1, a2, hoL, a3⟩ := F.ns
      have F' : Fr h₀ L h' (frm l) := ⟨⟨oL, a1, a2, hsk _ _ (Ne.symm hIL.2.1) hoL, a3⟩, fun b ob e => hsk b ob (fun q => by rw [q, hIL.2.2] at e; cases e) (F.keep b ob e), F.above⟩
      have N' : News h₀ L h' ((I, o') :: news) := fun q hq => by
        rcases List.mem_cons.mp hq with rfl | hq
        · exact ⟨ho', hIL.2⟩
        · exact ⟨hsk _ _ (hne q hq) (N q (.tail _ hq)).1, (N q (.tail _ hq)).2⟩
      refine wpAny_letOwnedTupleGo_listiter (s := ⟨h', g, d, tk, os⟩) hit' ?_
      refine as_three (hho _ _) F' N' (tuple_up ht F'.keep) (fun h3 tk3 F3 N3 => ?_) hL k1 k2 k3
      refine turn i I p o' T v1 v2 v3 h3 tk3 l news hT' ht hI F3 N3 hne fun h4 tk4 l4 n4 hI4 F4 N4 hne4 => ?_
      exact seg_again rfl (ih (i + 1) I o' h4 tk4 l4 n4 (by omega) hlt hI4 F4 N4 hne4 hc' hd')
  exact key items.length 0 h2.objs.size _ _ tk2 l news rfl (Nat.zero_le _) h0 (fr_up F2 lp) (N2.push F2 _) hne rfl rfl
end
end Mine
end
section
set_option maxRecDepth 100000
set_option linter.unusedVariables false
open PySem PySem.W PyProof.Rows PySem.Calls PySem.Spec
namespace Mine
/-! the plain side -/
inductive Sta where | root | first | second
  deriving DecidableEq
def Sta.str : Sta → Str
  | .root => Str.ofString "root"
  | .first => Str.ofString "first"
  | .second => Str.ofString "second"
inductive Way where
  | stay
  | pop (k : Nat)
  | lay (l : List (Option Sta))
  | push
structure Rl where
  word : Str
  names : List Str
  way : Way
abbrev Tab := Sta → List Rl
def layOne (s : List Sta) : Option Sta → List Sta
  | none => if 1 < s.length then s.dropLast else s
  | some t => s ++ [t]
def topOf (s : List Sta) : Sta := s.getLastD .root
def applyWay : Way → List Sta → List Sta
  | .stay, s => s
  | .pop k, s => if s.length ≤ k then s.take 1 else s.take (s.length - k)
  | .lay l, s => l.foldl layOne s
  | .push, s => s ++ [topOf s]
structure Row where
  place : Nat
  names : List Str
  value : Str
  stack : List Sta
/-- the word stands at the front -/
def fits (word : Str) (t : List Nat) : Bool := word.cps.toList.isPrefixOf t
/-- names, value, the stack told, the stack behind -/
def stepAt (T : Tab) (c : Nat) (t : List Nat) (st : List Sta) : List Str × Str × List Sta × List Sta :=
  match (T (topOf st)).find? (fun r => fits r.word (c :: t)) with
  | some r => (r.names, r.word, st, applyWay r.way st)
  | none => if c = 10 then ([Str.ofString "Text"], ⟨#[10]⟩, [.root], [.root]) else ([Str.ofString "Error"], ⟨#[c]⟩, st, st)
inductive Scan (T : Tab) : List Nat → Nat → List Sta → List Row → List Sta → Prop
  | nil {pos st} : Scan T [] pos st [] st
  | cons {c t pos st rows fin} : Scan T ((c :: t).drop (stepAt T c t st).2.1.length) (pos + (stepAt T c t st).2.1.length) (stepAt T c t st).2.2.2 rows fin →
      Scan T (c :: t) pos st (⟨pos, (stepAt T c t st).1, (stepAt T c t st).2.1, (stepAt T c t st).2.2.1⟩ :: rows) fin

/-! the heap's side -/
def Strs (xs : List Str) (vs : List Value) : Prop := Paired (fun x v => IsS x v) xs vs
def StkV (st : List Sta) (vs : List Value) : Prop := Paired (fun (s : Sta) v => IsS s.str v) st vs
def TOK (w : World) (h : Heap) (tok : Addr) (names : List Str) (nt : Addr) : Prop := ∃ dt t0 vs, h.get? tok = some (instObj 83 dt) ∧ h.get? dt = some (dictOf [ent w (Str.ofString "names") t0 (.ref nt)] 1) ∧ h.IsTuple nt vs.toArray ∧ Strs names vs
theorem TOK.up {w : World} {h h' : Heap} {tok nt : Addr} {names : List Str} (p : TOK w h tok names nt) (le : Le h h') : TOK w h' tok names nt :=
  let ⟨dt, t0, vs, a, b, c, d⟩ := p; ⟨dt, t0, vs, le _ _ a, le _ _ b, tuple_up c le, d⟩
def layStr : Option Sta → Str
  | none => Str.ofString "#pop"
  | some s => s.str
def WayV (h : Heap) (v : Value) : Way → Prop
  | .stay => v = .none
  | .pop k => IsI (-(k : Int)) v ∧ 0 < k
  | .lay l => ∃ a vs, v = .ref a ∧ h.IsTuple a vs.toArray ∧ Paired (fun (s : Option Sta) v => IsS (layStr s) v) l vs
  | .push => IsS (Str.ofString "#push") v
theorem WayV.up {h h' : Heap} {v : Value} {way : Way} (p : WayV h v way) (le : Le h h') : WayV h' v way := by
  cases way with
  | stay => exact p
  | pop k => exact p
  | push => exact p
  | lay l => obtain ⟨a, vs, e, t, q⟩ := p; exact ⟨a, vs, e, tuple_up t le, q⟩
structure RlA (w : World) (h : Heap) (a : Addr) (r : Rl) (q pl tok nt r0 : Addr) (t4 : Tok) (nv : Value) : Prop where
  tup : h.IsTuple a #[.ref q, .ref tok, nv]
  mat : h.get? q = some (methodObj (.ref 701) (.ref pl))
  pln : PLN w h pl r.word r0 t4
  tok : TOK w h tok r.names nt
  way : WayV h nv r.way
  pos : 0 < r.word.length
  few : r.word.length ≤ 3
def RlV (w : World) (h : Heap) (r : Rl) (v : Value) : Prop := ∃ a q pl tok nt r0 t4 nv, v = .ref a ∧ RlA w h a r q pl tok nt r0 t4 nv
theorem RlV.up {w : World} {h h' : Heap} {r : Rl} {v : Value} (p : RlV w h r v) (le : Le h h') : RlV w h' r v :=
  let ⟨a, q, pl, tok, nt, r0, t4, nv, e, p⟩ := p; ⟨a, q, pl, tok, nt, r0, t4, nv, e, tuple_up p.tup le, le _ _ p.mat, p.pln.up le, p.tok.up le, p.way.up le, p.pos, p.few⟩
theorem paired_mono {α β : Type} {F G : α → β → Prop} (hf : ∀ a b, F a b → G a b) {xs : List α} {ys : List β} (p : Paired F xs ys) : Paired G xs ys := by
  induction p with
  | nil => exact .nil
  | cons a _ ih => exact .cons (hf _ _ a) ih
theorem paired_len {α β : Type} {F : α → β → Prop} {xs : List α} {ys : List β} (p : Paired F xs ys) : xs.length = ys.length := by
  induction p with
  | nil => rfl
  | cons a _ ih => simp [ih]
theorem paired_at {α β : Type} {F : α → β → Prop} {xs : List α} {ys : List β} (p : Paired F xs ys) : ∀ {i : Nat} {y : β}, ys[i]? = some y → ∃ x, xs[i]? = some x ∧ F x y := by
  induction p with
  | nil => intro i y h; simp at h
  | cons a _ ih =>
    intro i y h
    cases i with
    | zero => simp at h; subst h; exact ⟨_, rfl, a⟩
    | succ i => simp at h; obtain ⟨x, hx, f⟩ := ih h; exact ⟨x, by simpa using hx, f⟩
theorem paired_at' {α β : Type} {F : α → β → Prop} {xs : List α} {ys : List β} (p : Paired F xs ys) : ∀ {i : Nat} {x : α}, xs[i]? = some x → ∃ y, ys[i]? = some y ∧ F x y := by
  induction p with
  | nil => intro i y h; simp at h
  | cons a _ ih =>
    intro i y h
    cases i with
    | zero => simp at h; subst h; exact ⟨_, rfl, a⟩
    | succ i => simp at h; obtain ⟨x, hx, f⟩ := ih h; exact ⟨x, by simpa using hx, f⟩
theorem paired_append {α β : Type} {F : α → β → Prop} {xs xs' : List α} {ys ys' : List β} (p : Paired F xs ys) (q : Paired F xs' ys') : Paired F (xs ++ xs') (ys ++ ys') := by
  induction p with
  | nil => exact q
  | cons a _ ih => exact .cons a ih
theorem paired_take {α β : Type} {F : α → β → Prop} {xs : List α} {ys : List β} (p : Paired F xs ys) : ∀ k, Paired F (xs.take k) (ys.take k) := by
  induction p with
  | nil => intro k; simp; exact .nil
  | cons a _ ih =>
    intro k
    cases k with
    | zero => exact .nil
    | succ k => exact .cons a (ih k)
theorem paired_last {α β : Type} {F : α → β → Prop} {xs : List α} {ys : List β} (p : Paired F xs ys) {x : α} (hx : xs.getLast? = some x) : ∃ y, ys.getLast? = some y ∧ F x y := by
  rw [List.getLast?_eq_getElem?] at hx ⊢
  rw [← paired_len p]
  exact paired_at' p hx
/-- the lexer -/
structure LXA (w : World) (h : Heap) (lx : Addr) (T : Tab) (dl : Addr) (es : List DictEntry) (n : Nat) (td : Addr) (la : Sta → Addr) (vals : Sta → List Value) : Prop where
  obj : h.get? lx = some (instObj 725 dl)
  dic : h.get? dl = some (dictOf es n)
  tk : getL (Str.ofString "_tokens") es = some (some (.ref td))
  un : getL (Str.ofString "get_tokens_unprocessed") es = some none
  tab : h.DictOf (strKind PG w) td [(Sta.root.str, .ref (la .root)), (Sta.first.str, .ref (la .first)), (Sta.second.str, .ref (la .second))]
  lst : ∀ s, h.IsList (la s) (vals s).toArray
  rls : ∀ s, Paired (RlV w h) (T s) (vals s)
def LX (w : World) (h : Heap) (lx : Addr) (T : Tab) : Prop := ∃ dl es n td la vals, LXA w h lx T dl es n td la vals
theorem LXA.up {w : World} {h h' : Heap} {lx : Addr} {T : Tab} {dl : Addr} {es : List DictEntry} {n : Nat} {td : Addr} {la : Sta → Addr} {vals : Sta → List Value} (p : LXA w h lx T dl es n td la vals) (le : Le h h') : LXA w h' lx T dl es n td la vals :=
  ⟨le _ _ p.obj, le _ _ p.dic, p.tk, p.un, dict_up p.tab le, fun s => list_up (p.lst s) le, fun s => paired_mono (fun _ _ q => q.up le) (p.rls s)⟩
theorem tab_at (la : Sta → Addr) (s : Sta) : valueAt [(Sta.root.str, Value.ref (la .root)), (Sta.first.str, .ref (la .first)), (Sta.second.str, .ref (la .second))] s.str = some (.ref (la s)) := by cases s <;> rfl

/-- the context's dict -/
structure CT where
  t1 : Tok
  t2 : Tok
  t3 : Tok
  t4 : Tok
  tt : Tok
  pt : Tok
  et : Tok
def cdict (w : World) (c : CT) (text : Str) (pos : Int) (e : Int) (sl : Addr) : Obj :=
  dictOf [ent w (Str.ofString "text") c.t1 (.str text c.tt), ent w (Str.ofString "pos") c.t2 (.int pos c.pt), ent w (Str.ofString "end") c.t3 (.int e c.et), ent w (Str.ofString "stack") c.t4 (.ref sl)] 4
theorem cdict_sl {w : World} {c c' : CT} {text text' : Str} {pos pos' e e' : Int} {sl sl' : Addr} (h : cdict w c text pos e sl = cdict w c' text' pos' e' sl') : sl = sl' := by
  simp [cdict, dictOf] at h
  exact h.2.2.2.2
abbrev lobj (vs : List Value) (n : Nat) : Obj := { cls := .type "list", data := .seq vs.toArray n }
/-- the context at a heap -/
def CtxAt (w : World) (h : Heap) (cx dc : Addr) (text : Str) (pos : Nat) (st : List Sta) (sl : Addr) : Prop :=
  h.get? cx = some (instObj 614 dc) ∧ (∃ c, h.get? dc = some (cdict w c text pos text.length sl)) ∧ ∃ vs n, h.get? sl = some (lobj vs n) ∧ StkV st vs
theorem CtxAt.up {w : World} {h h' : Heap} {cx dc : Addr} {text : Str} {pos : Nat} {st : List Sta} {sl : Addr} (p : CtxAt w h cx dc text pos st sl) (a : ∀ b o, (b = cx ∨ b = dc ∨ b = sl) → h.get? b = some o → h'.get? b = some o) : CtxAt w h' cx dc text pos st sl := by
  obtain ⟨p1, ⟨c, p2⟩, vs, n, p3, p4⟩ := p
  exact ⟨a _ _ (.inl rfl) p1, ⟨c, a _ _ (.inr (.inl rfl)) p2⟩, vs, n, a _ _ (.inr (.inr rfl)) p3, p4⟩

/-- what a waking of the generator leaves: all but its own frame, the context's dict and the stack's list -/
def Wak (w : World) (L cx dc sl : Addr) (text : Str) (pos : Nat) (st : List Sta) (s₀ s' : Shared) (sl' : Addr) : Prop :=
  s'.gens = s₀.gens ∧ s'.drawn = s₀.drawn ∧ s'.os = s₀.os ∧ CtxAt w s'.heap cx dc text pos st sl' ∧ (sl' = sl ∨ s₀.heap.get? sl' = none) ∧ (∃ m, s'.heap.Ns L m) ∧ ∀ b o, b ≠ L → b ≠ dc → b ≠ sl → s₀.heap.get? b = some o → s'.heap.get? b = some o
/-- the place behind a row -/
def RowAt (w : World) (s₀ s' : Shared) (gB : Heap) (v : Value) (r : Row) : Prop := ∃ T tok nt t1 t2, v = .ref T ∧ s₀.heap.get? T = none ∧ s'.heap.IsTuple T #[.int r.place t1, .ref tok, .str r.value t2] ∧ TOK w gB tok r.names nt
def GenP (w : World) (L cx dc : Addr) (text : Str) (fin : List Sta) (n : Nat) (s₀ s' : Shared) : Prop :=
  n = 0 ∧ ∀ sl c pos e, s₀.heap.get? dc = some (cdict w c text pos e sl) → ∃ sl', Wak w L cx dc sl text text.length fin s₀ s' sl'
def GenY (w : World) (gB : Heap) (L cx dc : Addr) (text : Str) (rows : List Row) (W : List Addr) : Protocol := fun n s₀ v s' kap =>
  ∃ r, rows[rows.length - 1 - n]? = some r ∧ RowAt w s₀ s' gB v r ∧
    (∀ sl c pos e, s₀.heap.get? dc = some (cdict w c text pos e sl) → ∃ sl', Wak w L cx dc sl text r.place r.stack s₀ s' sl') ∧
    ∀ s'', (∀ b o, b ∉ W → s'.heap.get? b = some o → s''.heap.get? b = some o) → (∀ b ∈ W, ∃ o, s''.heap.get? b = some o) → kap (.send .none) s''
end Mine
end
section
set_option maxRecDepth 100000
set_option linter.unusedVariables false
open PySem PySem.W PyProof.Rows PySem.Calls PySem.Spec
namespace Mine
section
variable {prog : Program} {w : World} {A : Around} {h : Heap} {K : Frag} {name qual : Str} {params : Arguments} {body : List Stmt} {scope : Scope} {dV kV doc pm cdv ct oc : Value} {an od : Option Addr} {osl : Array (Option Value)} {f : Addr} {args : Args} {binds : List (Str × Value)}
  {g : Array GenState} {d : Drawn} {tk : Nat} {os : OsState} {Q : Value → Shared → Prop} {E : Value → Shared → Prop}
theorem gen_def {pos : List Value} {kw : List (Str × Value)} (X₀ : K.In h) (hl : h.NoLimit)
    (ho : K.lookup f = some ⟨oc, od, .func (fnOf name qual params body scope dV kV doc pm an cdv ct), osl⟩) (hcd : codeIn K cdv qual = true) (hroom : A.depth < recursionLimit)
    (hbind : ∀ s : Shared, K.In s.heap → BindsTo s (fnOf name qual params body scope dV kV doc pm an cdv ct) ⟨pos, kw⟩ binds) (hloc : ∀ y ∈ binds, scope.names.lookup y.1 = some .local)
    (hcell : ∀ x ∈ scope.names, x.2 ≠ .cell)
    (hco : scope.isCoroutine = false) (hgen : scope.isGenerator = true) (hk : scope.kind = .function)
    (hb : ∀ L a h2 tk2, Le h h2 → h2.Ns L (frm binds.reverse) → h.objs.size ≤ L → L < a → h2.IsGen a g.size → Q (.ref a) ⟨h2, g.push (.fresh (.func body (envOf qual scope L f cdv))), d, tk2, os⟩) :
    wpAny (model prog w) A (call (.ref f) pos kw) Q E ⟨h, g, d, tk, os⟩ := by
  with_reducible refine wpAny_call ?_
  refine codeAny_call_generator (fd := fnOf name qual params body scope dV kV doc pm an cdv ct) (body := body) hroom (X₀ _ _ ho) rfl hco hgen rfl (codeRec_of X₀ hcd) ?_
  refine hbind ⟨h, g, d, tk, os⟩ X₀ _ _ _ _ ?_
  refine wpAny_newFunctionEnv hcell hloc (fun h₀ hns₀ hsb₀ => ?_) hk
  have le : Le h h₀ := fun b o e => hsb₀.extBut b o (Nat.ne_of_lt (Heap.lt_size e)) (Heap.get?_push_of_some _ e)
  refine ⟨hl.keeps le, ?_⟩
  refine hb h.objs.size h₀.objs.size _ _ (le.trans fun b o e => Heap.get?_push_of_some _ e) (ns_up hns₀ fun b o e => Heap.get?_push_of_some _ e) (Nat.le_refl _) hns₀.lt ⟨_, _, _, Heap.get?_push_size _ rfl, rfl, rfl, rfl⟩
end
end Mine
end
section
set_option maxRecDepth 100000
set_option linter.unusedVariables false
open PySem PySem.W PyProof.Rows PySem.Calls PySem.Spec
namespace Mine
theorem others (hs gB : Heap) (X : List Addr) : ∃ oth : List (Addr × Obj), ∀ b o, (b, o) ∈ oth ↔ hs.get? b = some o ∧ gB.get? b = none ∧ b ∉ X := by
  refine ⟨(List.range hs.objs.size).filterMap fun b => match hs.get? b with
    | some o => if (gB.get? b).isNone = true ∧ b ∉ X then some (b, o) else none
    | none => none, fun b o => ?_⟩
  rw [List.mem_filterMap]
  constructor
  · rintro ⟨a, ha, h⟩
    cases e : hs.get? a with
    | none => rw [e] at h; simp at h
    | some o' =>
      rw [e] at h
      dsimp only at h
      split at h
      · rename_i hc
        have h := Option.some.inj h
        have h1 : a = b := congrArg Prod.fst h
        have h2 : o' = o := congrArg Prod.snd h
        subst h1 h2
        exact ⟨e, by simpa using hc.1, hc.2⟩
      · cases h
  · rintro ⟨h1, h2, h3⟩
    refine ⟨b, List.mem_range.mpr (Heap.lt_size h1), ?_⟩
    rw [h1]
    dsimp only
    rw [if_pos ⟨by rw [h2]; rfl, h3⟩]

abbrev LG (w : World) (cx dc : Addr) (c : CT) (text : Str) (pos : Nat) (sl : Addr) (vs : List Value) (nn : Nat) (oth : List (Addr × Obj)) : List (Addr × Obj) :=
  (cx, instObj 614 dc) :: (dc, cdict w c text pos text.length sl) :: (sl, lobj vs nn) :: oth
structure SJ (w : World) (gB : Heap) (L cx dc : Addr) (text : Str) (W : List Addr) (s₀ : Shared) (sl₀ : Addr) (st : List Sta) (sl : Addr) (vs : List Value) (oth : List (Addr × Obj)) : Prop where
  V : StkV st vs
  d1 : cx ≠ dc
  d2 : cx ≠ sl
  d3 : dc ≠ sl
  dj : ∀ p ∈ oth, p.1 ≠ cx ∧ p.1 ≠ dc ∧ p.1 ≠ sl
  all : ∀ b o, s₀.heap.get? b = some o → gB.get? b = none → b ≠ L → b ≠ cx → b ≠ dc → b ≠ sl₀ → (b, o) ∈ oth
  s0 : sl = sl₀ ∨ (s₀.heap.get? sl = none ∧ ∃ o, (sl₀, o) ∈ oth)
  base : Le gB s₀.heap
  wok : ∀ b ∈ W, gB.get? b = none ∧ b ≠ L ∧ b ≠ cx ∧ b ≠ dc ∧ b ≠ sl ∧ ∃ o, (b, o) ∈ oth
  cxs : s₀.heap.get? cx = some (instObj 614 dc)
  dcs : ∃ c p e, s₀.heap.get? dc = some (cdict w c text p e sl₀)
section
variable {w : World} {gB h : Heap} {L cx dc : Addr} {text : Str} {W : List Addr} {s₀ : Shared} {sl₀ sl : Addr} {st : List Sta} {vs : List Value} {oth : List (Addr × Obj)} {c : CT} {pos nn : Nat} {m : Str → Option Value}
theorem SJ.wak (j : SJ w gB L cx dc text W s₀ sl₀ st sl vs oth) (F : Fr gB L h m) (N : News gB L h (LG w cx dc c text pos sl vs nn oth)) (tk : Nat) :
    ∀ sl₁ c₁ p₁ e₁, s₀.heap.get? dc = some (cdict w c₁ text p₁ e₁ sl₁) → ∃ sl', Wak w L cx dc sl₁ text pos st s₀ ⟨h, s₀.gens, s₀.drawn, tk, s₀.os⟩ sl' := by
  intro sl₁ c₁ p₁ e₁ h₁
  obtain ⟨c₂, p₂, e₂, h₂⟩ := j.dcs
  rw [h₁] at h₂
  have e : sl₁ = sl₀ := cdict_sl (Option.some.inj h₂)
  subst e
  refine ⟨sl, rfl, rfl, rfl, ⟨(N _ (.head _)).1, ⟨c, (N _ (.tail _ (.head _))).1⟩, vs, nn, (N _ (.tail _ (.tail _ (.head _)))).1, j.V⟩, j.s0.imp id (·.1), ⟨m, F.ns⟩, ?_⟩
  intro b o hL hd hs ho
  cases hg : gB.get? b with
  | some o' =>
    have := j.base _ _ hg
    rw [ho] at this
    rw [Option.some.inj this]
    exact F.keep _ _ hg
  | none =>
    by_cases hc : b = cx
    · subst hc
      have := j.cxs
      rw [ho] at this
      rw [Option.some.inj this]
      exact (N _ (.head _)).1
    · exact (N _ (.tail _ (.tail _ (.tail _ (j.all b o ho hg hL hc hd hs))))).1
theorem sj_start {l : List (Str × Value)} {s : Shared} {hx : Heap} (base : Le gB hx) (ns : hx.Ns L (frm l)) (hz : gB.objs.size ≤ L) (o1 : hx.get? cx = some (instObj 614 dc)) (o2 : hx.get? dc = some (cdict w c text pos text.length sl)) (o3 : hx.get? sl = some (lobj vs nn)) (V : StkV st vs)
    (n1 : gB.get? cx = none) (n2 : gB.get? dc = none) (n3 : gB.get? sl = none) (l1 : cx ≠ L) (l2 : dc ≠ L) (l3 : sl ≠ L) (hW : ∀ b ∈ W, gB.get? b = none ∧ b ≠ L ∧ b ≠ cx ∧ b ≠ dc ∧ b ≠ sl ∧ ∃ o, hx.get? b = some o) (he : s.heap = hx) :
    ∃ oth, SJ w gB L cx dc text W s sl st sl vs oth ∧ Fr gB L hx (frm l) ∧ News gB L hx (LG w cx dc c text pos sl vs nn oth) := by
  subst he
  obtain ⟨oth, ho⟩ := others s.heap gB [L, cx, dc, sl]
  have d1 : cx ≠ dc := fun e => by rw [e, o2] at o1; simp [cdict, dictOf] at o1
  have d2 : cx ≠ sl := fun e => by rw [e, o3] at o1; simp [lobj] at o1
  have d3 : dc ≠ sl := fun e => by rw [e, o3] at o2; simp [lobj, cdict, dictOf] at o2
  refine ⟨oth, ⟨V, d1, d2, d3, fun p hp => ?_, fun b o h1 h2 h3 h4 h5 h6 => (ho b o).mpr ⟨h1, h2, by simp [h3, h4, h5, h6]⟩, .inl rfl, base, fun b hb => ?_, o1, ⟨_, _, _, o2⟩⟩, ⟨ns, base, hz⟩, fun p hp => ?_⟩
  · have := ((ho p.1 p.2).mp hp).2.2
    simp at this
    exact this.2
  · obtain ⟨a1, a2, a3, a4, a5, o, a6⟩ := hW b hb
    exact ⟨a1, a2, a3, a4, a5, o, (ho b o).mpr ⟨a6, a1, by simp [a2, a3, a4, a5]⟩⟩
  · rcases List.mem_cons.mp hp with rfl | hp
    · exact ⟨o1, l1, n1⟩
    rcases List.mem_cons.mp hp with rfl | hp
    · exact ⟨o2, l2, n2⟩
    rcases List.mem_cons.mp hp with rfl | hp
    · exact ⟨o3, l3, n3⟩
    have := (ho p.1 p.2).mp hp
    have h2 := this.2.2
    simp at h2
    exact ⟨this.1, h2.1, this.2.1⟩
/-- after a sleep -/
theorem SJ.again {l : List (Str × Value)} {s : Shared} (j : SJ w gB L cx dc text W s₀ sl₀ st sl vs oth) (F : Fr gB L h (frm l)) (N : News gB L h (LG w cx dc c text pos sl vs nn oth))
    (hk : ∀ b o, b ∉ W → h.get? b = some o → s.heap.get? b = some o) (hW : ∀ b ∈ W, ∃ o, s.heap.get? b = some o) :
    ∃ oth, SJ w gB L cx dc text W s sl st sl vs oth ∧ Fr gB L s.heap (frm l) ∧ News gB L s.heap (LG w cx dc c text pos sl vs nn oth) := by
  have nW : ∀ b, b = L ∨ b = cx ∨ b = dc ∨ b = sl → b ∉ W := fun b hb hm => by
    have := j.wok b hm
    rcases hb with rfl | rfl | rfl | rfl <;> simp at this
  have k : ∀ b o, b = L ∨ b = cx ∨ b = dc ∨ b = sl → h.get? b = some o → s.heap.get? b = some o := fun b o hb e => hk b o (nW b hb) e
  obtain ⟨oL, a1, a2, hoL, a3⟩ := F.ns
  have q1 := N _ (.head _)
  have q2 := N _ (.tail _ (.head _))
  have q3 := N _ (.tail _ (.tail _ (.head _)))
  refine sj_start (fun b o e => hk b o (fun hm => ?_) (F.keep b o e)) ⟨oL, a1, a2, k _ _ (.inl rfl) hoL, a3⟩ F.above (k _ _ (.inr (.inl rfl)) q1.1) (k _ _ (.inr (.inr (.inl rfl))) q2.1) (k _ _ (.inr (.inr (.inr rfl))) q3.1) j.V q1.2.2 q2.2.2 q3.2.2 q1.2.1 q2.2.1 q3.2.1 (fun b hb => ?_) rfl
  · have := (j.wok b hm).1; rw [e] at this; cases this
  · have := j.wok b hb
    exact ⟨this.1, this.2.1, this.2.2.1, this.2.2.2.1, this.2.2.2.2.1, hW b hb⟩
/-- more others -/
theorem SJ.more {new : List (Addr × Obj)} (j : SJ w gB L cx dc text W s₀ sl₀ st sl vs oth) (hn : ∀ p ∈ new, p.1 ≠ cx ∧ p.1 ≠ dc ∧ p.1 ≠ sl) : SJ w gB L cx dc text W s₀ sl₀ st sl vs (new ++ oth) :=
  ⟨j.V, j.d1, j.d2, j.d3, fun p hp => (List.mem_append.mp hp).elim (hn p) (j.dj p), fun b o h1 h2 h3 h4 h5 h6 => List.mem_append_right _ (j.all b o h1 h2 h3 h4 h5 h6), j.s0.imp id fun ⟨a, o, b⟩ => ⟨a, o, List.mem_append_right _ b⟩, j.base,
    fun b hb => let ⟨a1, a2, a3, a4, a5, o, a6⟩ := j.wok b hb; ⟨a1, a2, a3, a4, a5, o, List.mem_append_right _ a6⟩, j.cxs, j.dcs⟩
/-- another stack in the same list -/
theorem SJ.stack {st' : List Sta} {vs' : List Value} (j : SJ w gB L cx dc text W s₀ sl₀ st sl vs oth) (V : StkV st' vs') : SJ w gB L cx dc text W s₀ sl₀ st' sl vs' oth :=
  ⟨V, j.d1, j.d2, j.d3, j.dj, j.all, j.s0, j.base, j.wok, j.cxs, j.dcs⟩
/-- what is new at a heap was new when woken -/
theorem SJ.fresh {a : Addr} (j : SJ w gB L cx dc text W s₀ sl₀ st sl vs oth) (F : Fr gB L h m) (N : News gB L h (LG w cx dc c text pos sl vs nn oth)) (hn : h.get? a = none) : s₀.heap.get? a = none := by
  have ne : ∀ b o, h.get? b = some o → b ≠ a := fun b o e q => by rw [q, hn] at e; cases e
  have q1 := N _ (.head _)
  have q2 := N _ (.tail _ (.head _))
  have q3 := N _ (.tail _ (.tail _ (.head _)))
  cases e : s₀.heap.get? a with
  | none => rfl
  | some o =>
    exfalso
    cases hg : gB.get? a with
    | some o' => have := F.keep _ _ hg; rw [hn] at this; cases this
    | none =>
      have hL : a ≠ L := fun q => by
        obtain ⟨oL, hoL⟩ := ns_isSome F.ns
        rw [q, hoL] at hn; cases hn
      have hs0 : a ≠ sl₀ := fun q => by
        rcases j.s0 with e0 | ⟨_, o0, h0⟩
        · exact ne _ _ q3.1 (e0.trans q.symm)
        · exact ne _ _ (N _ (.tail _ (.tail _ (.tail _ h0)))).1 q.symm
      exact ne _ _ (N _ (.tail _ (.tail _ (.tail _ (j.all _ _ e hg hL (Ne.symm (ne _ _ q1.1)) (Ne.symm (ne _ _ q2.1)) hs0))))).1 rfl
/-- another list for the stack -/
theorem SJ.list {st' : List Sta} {vs' : List Value} {sl' : Addr} (j : SJ w gB L cx dc text W s₀ sl₀ st sl vs oth) (N : News gB L h (LG w cx dc c text pos sl vs nn oth)) (F : Fr gB L h m) (V : StkV st' vs') (hn : h.get? sl' = none) :
    SJ w gB L cx dc text W s₀ sl₀ st' sl' vs' ((sl, lobj vs nn) :: oth) := by
  have ne : ∀ b o, h.get? b = some o → b ≠ sl' := fun b o e q => by rw [q, hn] at e; cases e
  have q1 := N _ (.head _)
  have q2 := N _ (.tail _ (.head _))
  have q3 := N _ (.tail _ (.tail _ (.head _)))
  refine ⟨V, j.d1, ne _ _ q1.1, ne _ _ q2.1, fun p hp => ?_, fun b o h1 h2 h3 h4 h5 h6 => .tail _ (j.all b o h1 h2 h3 h4 h5 h6), .inr ⟨?_, ?_⟩, j.base, fun b hb => ?_, j.cxs, j.dcs⟩
  · rcases List.mem_cons.mp hp with rfl | hp
    · exact ⟨Ne.symm j.d2, Ne.symm j.d3, ne _ _ q3.1⟩
    · exact ⟨(j.dj p hp).1, (j.dj p hp).2.1, ne _ _ (N p (.tail _ (.tail _ (.tail _ hp)))).1⟩
  · cases e : s₀.heap.get? sl' with
    | none => rfl
    | some o =>
      exfalso
      cases hg : gB.get? sl' with
      | some o' => have := F.keep _ _ hg; rw [hn] at this; cases this
      | none =>
        have hL : sl' ≠ L := fun q => by
          obtain ⟨oL, hoL⟩ := ns_isSome F.ns
          rw [q, hoL] at hn; cases hn
        have hs0 : sl' ≠ sl₀ := fun q => by
          rcases j.s0 with e0 | ⟨_, o0, h0⟩
          · exact ne _ _ q3.1 (e0.trans q.symm)
          · exact ne _ _ (N _ (.tail _ (.tail _ (.tail _ h0)))).1 q.symm
        exact ne _ _ (N _ (.tail _ (.tail _ (.tail _ (j.all _ _ e hg hL (Ne.symm (ne _ _ q1.1)) (Ne.symm (ne _ _ q2.1)) hs0))))).1 rfl
  · rcases j.s0 with e0 | ⟨_, o0, h0⟩
    · rw [← e0]; exact ⟨_, .head _⟩
    · exact ⟨o0, .tail _ h0⟩
  · obtain ⟨a1, a2, a3, a4, a5, o, a6⟩ := j.wok b hb
    exact ⟨a1, a2, a3, a4, ne _ _ (N _ (.tail _ (.tail _ (.tail _ a6)))).1, o, .tail _ a6⟩
abbrev tupO (vs : List Value) : Obj := { cls := .type "tuple", data := .seq vs.toArray }
theorem y_ok {l : List (Str × Value)} {h' : Heap} {Tv tok nt : Addr} {u1 u2 : Tok} {x : Str} {names : List Str} {rows : List Row} {n tk : Nat} {kap : Resume → Shared → Prop} (j : SJ w gB L cx dc text W s₀ sl₀ st sl vs oth) (F : Fr gB L h (frm l)) (N : News gB L h (LG w cx dc c text pos sl vs nn oth))
    (le : Le h h') (fr : Fresh h h' [(Tv, tupO [.int pos u1, .ref tok, .str x u2])]) (F' : Fr gB L h' (frm l)) (ht : TOK w gB tok names nt) (hidx : rows[rows.length - 1 - n]? = some ⟨pos, names, x, st⟩)
    (hkap : ∀ s2 oth4, SJ w gB L cx dc text W s2 sl st sl vs oth4 → Fr gB L s2.heap (frm l) → News gB L s2.heap (LG w cx dc c text pos sl vs nn oth4) → kap (.send .none) s2) :
    GenY w gB L cx dc text rows W n s₀ (.ref Tv) ⟨h', s₀.gens, s₀.drawn, tk, s₀.os⟩ kap := by
  have nT := (fr _ (.head _)).2
  have neT : ∀ b o, h.get? b = some o → Tv ≠ b := fun b o e q => by
    have nT' := nT
    rw [show ((Tv, tupO [.int pos u1, .ref tok, .str x u2]) : Addr × Obj).1 = b from q, e] at nT'
    cases nT'
  have J3 := j.more (new := [(Tv, tupO [.int pos u1, .ref tok, .str x u2])]) (fun q hq => by
    rw [List.mem_singleton.mp hq]
    exact ⟨neT _ _ (N _ (.head _)).1, neT _ _ (N _ (.tail _ (.head _))).1, neT _ _ (N _ (.tail _ (.tail _ (.head _)))).1⟩)
  have N10 := nw_add F N le fr
  have N3 : News gB L h' (LG w cx dc c text pos sl vs nn ([(Tv, tupO [.int pos u1, .ref tok, .str x u2])] ++ oth)) := fun q hq => N10 q (by
    simp only [LG, List.mem_append, List.mem_cons, List.not_mem_nil, or_false, or_assoc] at hq ⊢
    rcases hq with e | e | e | e | e <;> simp [e])
  refine ⟨⟨pos, names, x, st⟩, hidx, ⟨Tv, tok, nt, u1, u2, rfl, j.fresh F N nT, ⟨_, (N10 _ (.head _)).1, rfl, _, rfl⟩, ht⟩, J3.wak F' N3 tk, ?_⟩
  intro s2 hk2 hW2
  obtain ⟨oth4, J4, F4, N4⟩ := J3.again F' N3 hk2 hW2
  exact hkap s2 oth4 J4 F4 N4
end
theorem idx_mid {rows pre rest : List Row} {r : Row} (h : rows = pre ++ r :: rest) : rows[rows.length - 1 - rest.length]? = some r := by
  have e1 : rows.length - 1 - rest.length = pre.length := by rw [h, List.length_append, List.length_cons]; omega
  rw [e1, h]
  simp
end Mine
end
section
set_option maxRecDepth 100000
set_option linter.unusedVariables false
open PySem PySem.W PyProof.Rows PySem.Calls PySem.Spec
namespace Mine
section
variable {prog : Program} {w : World} {A : Around} {h : Heap} {env : Env} {P : Value → Prop} {K : Frag} {h₀ : Heap} {L : Addr} {m : Str → Option Value} {l : List (Str × Value)} {news news' : List (Addr × Obj)}
  {g : Array GenState} {d : Drawn} {tk : Nat} {os : OsState} {E : Value → Shared → Prop} {Q : Flow → Shared → Prop}
theorem ex_neg {e : Expr} {p : Pos} {i : Int} (he : EX prog w A (eval e env) h (Im (IsI i))) : EX prog w A (eval (.UnaryOp .USub e p) env) h (Im (IsI (-i))) :=
  ex_seq he (op := fun v => unaryOp .USub v) (fun a ha => by
    obtain ⟨t, rfl⟩ := ha
    exact ⟨fun _ _ _ _ _ _ _ _ H => by with_reducible exact PyProof.Rows.neg_int (H _ [] _ _ Le.refl Fresh.nil ⟨rfl, isI⟩)⟩) fun _ _ _ q => by with_reducible exact wpAny_UnaryOp q
/-- an assignment whose new objects are none of the ledger's -/
theorem st_assignD {x : Str} {p pos : Pos} {e : Expr} {rest : List Stmt} {V : Value → List (Addr × Obj) → Prop} (F : Fr h₀ L h (frm l)) (N : News h₀ L h news) (he : EX prog w A (eval e env) h V)
    (H : ∀ v new h' tk', V v new → Fr h₀ L h' (frm ((x, v) :: l)) → News h₀ L h' (new ++ news) → (∀ p ∈ new, ∀ q ∈ news, p.1 ≠ q.1) → WP prog w A (execs rest env) Q ⟨h', g, d, tk', os⟩)
    (hL : LocalEnv env L) (hl : env.kindOf x = some .local) (hsw : swapsWith e (some (.Name x p)) pos.line env = pure false) :
    WP prog w A (execs (.Assign [.Name x p] e pos :: rest) env) Q ⟨h, g, d, tk, os⟩ :=
  ⟨by
    with_reducible refine wpAny_execs_cons (wpAny_Assign_Name (he.at fun v new h2 tk2 l2 f2 hv => ?_) hsw)
    refine st_store (fr_up F l2) (nw_add F N l2 f2) (fun h' tk' F' N' _ => (H v new h' tk' hv F' N' fun p hp q hq e => ?_).run) hL hl
    have := (f2 p hp).2
    rw [e, (N q hq).1] at this; cases this⟩
theorem st_setattrD {K : Frag} {C x dx : Addr} {o e : Expr} {attr : Str} {p' pos : Pos} {rest : List Stmt} {es : List DictEntry} {n : Nat} {V : Value → List (Addr × Obj) → Prop} {news' : Tok → Value → List (Addr × Obj)} (F : Fr h₀ L h m) (X₀ : K.In h₀) (N : News h₀ L h news)
    (he : EX prog w A (eval e env) h V) (ho : EX prog w A (eval o env) h (Im (· = .ref x))) (hx : (x, instObj C dx) ∈ news) (hdx : (dx, dictOf es n) ∈ news)
    (U : ∀ t v, Upd dx (dictOf es n) (dictOf (putL attr (PyData.keyHash w.params attr) (.str attr t) v es) (putN attr es n)) news (news' t v))
    (H : ∀ v new t h' tk', V v new → Fr h₀ L h' m → News h₀ L h' (new ++ news' t v) → (∀ p ∈ new, h.get? p.1 = none) → WP prog w A (execs rest env) Q ⟨h', g, d, tk', os⟩)
    (hs : findIn K (.ref C) "__setattr__" = some (some (.builtin "object.__setattr__"))) (hp : plainOver K C = true) (ht : takerIn K C attr = some none) (hh : hasDictIn K C = true) (hl : (getL attr es).isSome = true) (hz : (putL attr 0 .none .none es).length ≤ 1000)
    (hsw : swapsWith e (some (.Attribute o attr p')) pos.line env = pure false) :
    WP prog w A (execs (.Assign [.Attribute o attr p'] e pos :: rest) env) Q ⟨h, g, d, tk, os⟩ := by
  refine wp_cons ⟨?_⟩
  with_reducible refine plainObj_wpAny_Assign_Attribute ?_ hsw
  refine he.at fun v new h2 tk2 l2 f2 hv => ho.run h2 g d tk2 os _ _ l2 fun ov n3 h3 tk3 l3 f3 hov => ?_
  rw [hov.2]
  have F3 := fr_up F (l2.trans l3)
  have N3 : News h₀ L h3 (news ++ new) := nw_swap (nw_up (nw_add F N l2 f2) l3)
  have ne : ∀ p ∈ new, p.1 ≠ dx := fun p hp e => by
    have := (f2 p hp).2
    rw [e, (N _ hdx).1] at this; cases this
  have I : W.InstAt h3 x (instObj C dx) C (some (dictOf es n)) := inst_mk (N3 _ (List.mem_append_left _ hx)).1 (N3 _ (List.mem_append_left _ hdx)).1
  have hlen : ∀ a b c, (putL attr a b c es).length = (putL attr 0 .none .none es).length := by
    intro a b c
    clear U hdx hl hz ne I hx N
    induction es with
    | nil => rfl
    | cons e r ih => unfold putL; split <;> simp [ih]
  exact set_dict (s := ⟨h3, g, d, tk3, os⟩) F3 X₀ N3 I rfl hs hp ht hh hl rfl (upd_app (U _ _) ne) (by rw [hlen]; exact hz) fun h' F' N' => (H v new _ h' _ hv F' (nw_swap N') fun p hp => (f2 p hp).2).run

theorem ex_own {K : Frag} {name : Str} {ee : Bool} {x C : Addr} {ox : Obj} {es : List DictEntry} {n : Nat} {v : Value} {attr : Option Value} (F : Fr h₀ L h m) (X₀ : K.In h₀) (I : W.InstAt h x ox C (some (dictOf es n)))
    (h1 : plainGet K C name = true) (h2 : hasDictIn K C = true) (h3 : findIn K (.ref C) name = some attr) (h4 : noGet K attr = true) (hl : getL name es = some (some v)) (hh : handedIn v = true) (hP : P v) :
    EX prog w A (getAttr (.ref x) name ee) h (Im P) := ⟨fun h1' _ _ _ _ _ _ le H => by
  have F' := fr_up F le
  have I' := inst_up I le
  with_reducible exact get_own F' X₀ I' h1 h2 h3 h4 hl hh (H _ [] _ _ Le.refl Fresh.nil ⟨rfl, hP⟩)⟩
/-- the context's attributes -/
theorem ex_ctx {cx dc sl : Addr} {c : CT} {text : Str} {pos : Nat} {y name : Str} {p1 p2 : Pos} {v : Value} (X : (capK.heap_1 w.params).In h₀) (he : EX prog w A (eval (.Name y p1) env) h (Im (· = .ref cx))) (F : Fr h₀ L h m) (N : News h₀ L h news)
    (m1 : (cx, instObj 614 dc) ∈ news) (m2 : (dc, cdict w c text pos text.length sl) ∈ news)
    (hl : getL name [ent w (Str.ofString "text") c.t1 (.str text c.tt), ent w (Str.ofString "pos") c.t2 (.int pos c.pt), ent w (Str.ofString "end") c.t3 (.int text.length c.et), ent w (Str.ofString "stack") c.t4 (.ref sl)] = some (some v))
    (h1 : plainGet (capK.heap_1 w.params) 614 name = true) (h2 : hasDictIn (capK.heap_1 w.params) 614 = true) (h3 : findIn (capK.heap_1 w.params) (.ref 614) name = some none) (hh : handedIn v = true) (hP : P v) : EX prog w A (eval (.Attribute (.Name y p1) name p2) env) h (Im P) :=
  ex_at he F X (inst_mk (N _ m1).1 (N _ m2).1) h1 h2 h3 (by k_is) hl hh hP
end
end Mine
end
section
set_option maxRecDepth 100000
set_option linter.unusedVariables false
open PySem PySem.W PyProof.Rows PySem.Calls PySem.Spec
namespace Mine
theorem slice_list {x : Str} {a b : Nat} (hab : a ≤ b) (hb : b ≤ x.length) : (Txt.slice x (some (a : Int)) (some (b : Int))).cps.toList = (x.cps.toList.drop a).take (b - a) := by
  unfold Txt.slice
  have e := PySem.StrLaws.sliced_plain x hab hb
  split
  · rename_i h
    have h1 : b - a = x.length := by
      rw [PySem.StrLaws.strSliceIndices_plain hab hb] at h
      simpa using h
    have ha : a = 0 := by omega
    subst ha
    have hl : x.cps.toList.length ≤ b - 0 := by
      show x.cps.toList.length ≤ b - 0
      rw [Array.length_toList]
      show x.length ≤ b - 0
      omega
    rw [List.drop_zero, List.take_of_length_le hl]
  · rw [e]
theorem hits_fits {text x : Str} {pos : Nat} (hx : 0 < x.length) : hits text x pos text.length = fits x (text.cps.toList.drop pos) := by
  unfold hits fits
  by_cases h : pos + x.length ≤ text.length
  · have h' : ((pos : Int) + (x.length : Int) ≤ (text.length : Int)) := by omega
    rw [decide_eq_true h', Bool.and_true]
    have e := slice_list (x := text) (a := pos) (b := pos + x.length) (by omega) h
    have c : ((pos : Int) + (x.length : Int)) = ((pos + x.length : Nat) : Int) := by omega
    rw [c]
    have hxl : x.cps.toList.length = x.length := by rw [Array.length_toList]; rfl
    rw [Bool.eq_iff_iff, beq_iff_eq, List.isPrefixOf_iff_prefix, List.prefix_iff_eq_take]
    constructor
    · intro q
      rw [q] at e
      rw [e]
      have hl : (List.take (pos + x.length - pos) (List.drop pos text.cps.toList)).length = pos + x.length - pos := by
        rw [← e, hxl]; omega
      rw [hl]
    · intro q
      rw [hxl] at q
      have e2 : pos + x.length - pos = x.length := by omega
      rw [e2, ← q] at e
      cases hs : Txt.slice text (some (pos : Int)) (some ((pos + x.length : Nat) : Int)) with
      | mk cps =>
        rw [hs] at e
        cases x with
        | mk xc => simp at e; rw [e]
  · have h' : ¬ ((pos : Int) + (x.length : Int) ≤ (text.length : Int)) := by omega
    rw [decide_eq_false h', Bool.and_false]
    symm
    rw [Bool.eq_false_iff]
    intro q
    have := List.IsPrefix.length_le (List.isPrefixOf_iff_prefix.mp q)
    rw [List.length_drop, Array.length_toList, Array.length_toList] at this
    have a1 : x.cps.size = x.length := rfl
    have a2 : text.cps.size = text.length := rfl
    omega
theorem find_at {α : Type} {p : α → Bool} : ∀ {l : List α} {i : Nat} {r : α}, l[i]? = some r → p r = true → (∀ j r', j < i → l[j]? = some r' → p r' = false) → l.find? p = some r
  | [], _, _, h, _, _ => by simp at h
  | x :: xs, 0, r, h, hp, _ => by simp at h; subst h; simp [hp]
  | x :: xs, i + 1, r, h, hp, hj => by
    have h0 := hj 0 x (by omega) rfl
    rw [List.find?_cons, h0]
    exact find_at (i := i) (by simpa using h) hp fun j r' hlt e => hj (j + 1) r' (by omega) (by simpa using e)
theorem find_none {α : Type} {p : α → Bool} {l : List α} (hj : ∀ j r', j < l.length → l[j]? = some r' → p r' = false) : l.find? p = none := by
  rw [List.find?_eq_none]
  intro x hx
  obtain ⟨j, hl, rfl⟩ := List.mem_iff_getElem.mp hx
  simpa using hj j _ hl (by simp [hl])
theorem scan_end {T : Tab} {pos : Nat} {st fin : List Sta} {rs : List Row} (h : Scan T [] pos st rs fin) : rs = [] ∧ fin = st := by cases h; exact ⟨rfl, rfl⟩
theorem scan_hit {T : Tab} {t : List Nat} {pos : Nat} {st fin : List Sta} {rs : List Row} {r : Rl} (h : Scan T (t.drop pos) pos st rs fin) (hf : (T (topOf st)).find? (fun r => fits r.word (t.drop pos)) = some r) (hp : 0 < r.word.length) :
    ∃ rest, rs = ⟨pos, r.names, r.word, st⟩ :: rest ∧ Scan T (t.drop (pos + r.word.length)) (pos + r.word.length) (applyWay r.way st) rest fin := by
  have hfit := List.find?_some hf
  generalize e : t.drop pos = u at *
  cases h with
  | nil =>
    exfalso
    have := List.IsPrefix.length_le (List.isPrefixOf_iff_prefix.mp hfit)
    rw [Array.length_toList] at this
    have a1 : r.word.cps.size = r.word.length := rfl
    rw [List.length_nil] at this
    omega
  | @cons c u' pos st rows fin h =>
    have hs : stepAt T c u' st = (r.names, r.word, st, applyWay r.way st) := by unfold stepAt; rw [hf]
    rw [hs] at h ⊢
    refine ⟨rows, rfl, ?_⟩
    rw [← e, List.drop_drop] at h
    exact h
theorem scan_nl {T : Tab} {t u : List Nat} {pos : Nat} {st fin : List Sta} {rs : List Row} (h : Scan T (t.drop pos) pos st rs fin) (hf : (T (topOf st)).find? (fun r => fits r.word (t.drop pos)) = none) (hu : t.drop pos = 10 :: u) :
    ∃ rest, rs = ⟨pos, [Str.ofString "Text"], ⟨#[10]⟩, [.root]⟩ :: rest ∧ Scan T (t.drop (pos + 1)) (pos + 1) [.root] rest fin := by
  have e : t.drop (pos + 1) = u := by rw [← List.drop_drop, hu]; rfl
  rw [e]
  rw [hu] at h hf
  cases h with
  | cons h =>
    have hs : stepAt T 10 u st = ([Str.ofString "Text"], ⟨#[10]⟩, [.root], [.root]) := by unfold stepAt; rw [hf]; rfl
    rw [hs] at h ⊢
    exact ⟨_, rfl, h⟩
theorem scan_err {T : Tab} {t u : List Nat} {c pos : Nat} {st fin : List Sta} {rs : List Row} (h : Scan T (t.drop pos) pos st rs fin) (hf : (T (topOf st)).find? (fun r => fits r.word (t.drop pos)) = none) (hu : t.drop pos = c :: u) (hc : c ≠ 10) :
    ∃ rest, rs = ⟨pos, [Str.ofString "Error"], ⟨#[c]⟩, st⟩ :: rest ∧ Scan T (t.drop (pos + 1)) (pos + 1) st rest fin := by
  have e : t.drop (pos + 1) = u := by rw [← List.drop_drop, hu]; rfl
  rw [e]
  rw [hu] at h hf
  cases h with
  | cons h =>
    have hs : stepAt T c u st = ([Str.ofString "Error"], ⟨#[c]⟩, st, st) := by unfold stepAt; rw [hf]; simp [hc]
    rw [hs] at h ⊢
    exact ⟨_, rfl, h⟩
theorem tuple_inj {h : Heap} {a : Addr} {xs ys : Array Value} (p : h.IsTuple a xs) (q : h.IsTuple a ys) : xs = ys := by
  obtain ⟨o, ho, _, n, hd⟩ := p
  obtain ⟨o', ho', _, n', hd'⟩ := q
  rw [ho] at ho'
  rw [← Option.some.inj ho', hd] at hd'
  cases hd'; rfl
section
variable {prog : Program} {w : World} {A : Around} {R : GenEnd} {Y : Protocol} {n : Nat} {s₀ : Shared} {c : Code} {fs : List Frame} {s : Shared} {env : Env}
  {K : Flow → Sem Fin} {H : Value → Sem Fin} {gd : Bool → Bool} {lv : List Value → List Value}
theorem sg_While' {test : Expr} {body orelse rest : List Stmt} {pos : Pos}
    (h : ∀ p, Seg (model prog w) A R Y n s₀ (.whileLoop test body orelse env) ((model prog w).den (.whileLoop test body orelse env)) (.ret (loopK env (bK env rest K H gd lv) H gd lv) none (gd false) (lv []) c p [] :: fs) s) :
    Seg (model prog w) A R Y n s₀ c ((execs (.While test body orelse pos :: rest) env).wrap K H gd lv) fs s := by
  rw [execs_cons_bK]
  exact seg_While h
theorem tr_none {h : Heap} : EX prog w A (truthy .none) h (Im (· = false)) := ⟨fun _ _ _ _ _ _ _ _ H => by with_reducible exact PyProof.Rows.truthy_none (H _ [] _ _ Le.refl Fresh.nil ⟨rfl, rfl⟩)⟩
end
end Mine
end
section
set_option maxRecDepth 100000
set_option linter.unusedVariables false
open PySem PySem.W PyProof.Rows PySem.Calls PySem.Spec
namespace Mine
section
variable {prog : Program} {w : World} {A : Around} {h : Heap} {env : Env} {P : Value → Prop} {K : Frag} {h₀ : Heap} {L : Addr} {m : Str → Option Value} {l : List (Str × Value)} {news news' : List (Addr × Obj)}
  {g : Array GenState} {d : Drawn} {tk : Nat} {os : OsState} {E : Value → Shared → Prop} {Q : Flow → Shared → Prop}
theorem WP.mono {α : Type} {t : Sem α} {Q Q' : α → Shared → Prop} {s : Shared} (x : WP prog w A t Q' s) (hq : ∀ a s', Q' a s' → Q a s') : WP prog w A t Q s := ⟨wpAny_mono x.run hq fun _ _ e => e⟩
theorem st_for_tuple {x : Str} {p pos : Pos} {iter : Expr} {body orelse rest : List Stmt} {ax : Addr} {items : List Value} (Inv : Nat → List (Str × Value) → List (Addr × Obj) → Prop) (hh : A.handled = none)
    (F : Fr h₀ L h (frm l)) (N : News h₀ L h news) (hit : EX prog w A (eval iter env) h (Im (· = .ref ax))) (h0 : Inv 0 l news)
    (src : ∀ i h l news, Inv i l news → Fr h₀ L h (frm l) → News h₀ L h news → h.IsTuple ax items.toArray)
    (body_ok : ∀ i v I o h tk l news, i < items.length → items[i]? = some v → Inv i l news → Fr h₀ L h (frm ((x, v) :: l)) → News h₀ L h ((I, o) :: news) → (∀ p ∈ news, p.1 ≠ I) → o.cls = .type "tuple_iterator" →
      WP prog w A (execs body env) (TurnQ h₀ L I o g d os (fun l' news' => Inv (i + 1) l' news' ∧ ∀ p ∈ news', p.1 ≠ I) (thenQ prog w A env rest Q .next) (fun v => Q (.ret v))) ⟨h, g, d, tk, os⟩)
    (end_ok : ∀ h tk l news, Inv items.length l news → Fr h₀ L h (frm l) → News h₀ L h news → WP prog w A (execs orelse env) (thenQ prog w A env rest Q) ⟨h, g, d, tk, os⟩)
    (hL : LocalEnv env L) (hl : env.kindOf x = some .local) (hs : ∀ x, foldedSetIterable iter env x = pure x := by intro _; kernel_rfl) :
    WP prog w A (execs (.For (.Name x p) iter body orelse pos :: rest) env) Q ⟨h, g, d, tk, os⟩ := by
  refine wp_cons ⟨?_⟩
  refine wpAny_For (hit.at fun v new h2 tk2 l2 f2 hv => ?_) hs
  rw [hv.2]
  have F2 := fr_up F l2
  have N2 := nw_up N l2
  refine iter_tuple (s := ⟨h2, g, d, tk2, os⟩) (src 0 h2 l news h0 F2 N2) ?_
  have hne : ∀ q ∈ news, q.1 ≠ h2.objs.size := fun q hq => Nat.ne_of_lt (Heap.lt_size (N2 q hq).1)
  have lp : Le h2 (h2.push { cls := .type "tuple_iterator", data := .fields #[.ref ax, .int 0 0] }) := fun b ob e => Heap.get?_push_of_some _ e
  refine code_for (itOf_tuple (ax := ax) (items := items) hh) Inv hL hl src ?_ ?_ h0 (fr_up F2 lp) (N2.push F2 _) hne ⟨rfl, rfl⟩
  · intro i v o h tk l news hi hP hI hst F N hne
    have z := body_ok i v _ o h tk l news hi hP hI F N hne hst.1
    exact z
  · intro h tk l news hI F N
    exact end_ok h tk l news hI F N

/-- isinstance(e, T), T built in -/
theorem et_isi {e : Expr} {nm : Str} {T : String} {b : Bool} {p1 p2 p3 : Pos} (t : TX w h) (he : EX PG w A (eval e env) h (Im P)) (hcl : ∀ v, P v → EX PG w A (call (.builtin "isinstance") [v, .type T]) h (Im (IsB b)))
    (hkd : env.kindOf (Str.ofString "isinstance") = some .globalImplicit) (hk : env.scope.kind = .function) (hg : env.globals = mainGlobals) (hb : env.builtins = builtinsNs)
    (hT : EX PG w A (eval (.Name nm p2) env) h (Im (· = .type T)))
    (h1 : starEach [e, .Name nm p2] env = (false, eval e env) :: starEach [.Name nm p2] env := by kernel_rfl) (h2 : (backTo p3 (starEach [.Name nm p2] env)).any (·.1) = false := by kernel_rfl) (h3 : starEach [.Name nm p2] env = (false, eval (.Name nm p2) env) :: starEach [] env := by kernel_rfl)
    (hr : eval (.Call (.Name (Str.ofString "isinstance") p1) [e, .Name nm p2] [] p3) env = (do callWith p3 (← eval (.Name (Str.ofString "isinstance") p1) env) [] (backTo p3 (starEach [e, .Name nm p2] env)) (backToKw p3 (keywordEach [] env))) := by kernel_rfl)
    (hr2 : PySem.isTrue (.Call (.Name (Str.ofString "isinstance") p1) [e, .Name nm p2] [] p3) env (eval (.Call (.Name (Str.ofString "isinstance") p1) [e, .Name nm p2] [] p3) env) = (do let v ← eval (.Call (.Name (Str.ofString "isinstance") p1) [e, .Name nm p2] [] p3) env; standAt (Expr.Call (.Name (Str.ofString "isinstance") p1) [e, .Name nm p2] [] p3).pos; holding [v] (truthy v)) := by kernel_rfl) :
    EX PG w A (PySem.isTrue (.Call (.Name (Str.ofString "isinstance") p1) [e, .Name nm p2] [] p3) env (eval (.Call (.Name (Str.ofString "isinstance") p1) [e, .Name nm p2] [] p3) env)) h (Im (· = b)) := by
  refine et_plain (P := IsB b) ?_ (fun v hv => tr_bool hv) hr2
  refine ex_callK (fv := .builtin "isinstance") (ex_builtin t (by k_is) (by kernel_rfl) (by decide) rfl hkd hk hg hb (by kernel_rfl)) (drop_new (cw_builtin (exs_cons he (exs_cons hT exs_nil h3) h1) ?_ h1 h2)) hr
  rintro vs new h4 le4 hn ⟨rfl, v, r, rfl, hv, v2, r2, rfl, rfl, rfl⟩
  exact ((hcl v hv).up le4).mono fun v new hv => hv.2
/-- len(e) of a list -/
theorem ex_lenL {e : Expr} {p1 p2 : Pos} {a : Addr} {its : Array Value} (T : TX w h) (he : EX prog w A (eval e env) h (Im (· = .ref a))) (hl : h.IsList a its) (hx : its.size < 2 ^ 63)
    (hkd : env.kindOf (Str.ofString "len") = some .globalImplicit) (hk : env.scope.kind = .function) (hg : env.globals = mainGlobals) (hb : env.builtins = builtinsNs)
    (hse : starEach [e] env = [(false, eval e env)] := by kernel_rfl)
    (hr : eval (.Call (.Name (Str.ofString "len") p1) [e] [] p2) env = (do callWith p2 (← eval (.Name (Str.ofString "len") p1) env) [] (backTo p2 (starEach [e] env)) (backToKw p2 (keywordEach [] env))) := by kernel_rfl) :
    EX prog w A (eval (.Call (.Name (Str.ofString "len") p1) [e] [] p2) env) h (Im (IsI its.size)) :=
  ex_callK (fv := .builtin "len") (ex_builtin T (by k_is) (by kernel_rfl) (by decide) rfl hkd hk hg hb (by kernel_rfl)) (drop_new (cw_builtin (exs_one he hse) (fun vs new h3 le3 hn hv => by
    obtain ⟨v, rfl, -, rfl⟩ := hv
    exact (cl_lenL (list_up hl le3) hx).mono fun v new hv => hv.2) hse rfl)) hr
end
theorem bounds_one {n : Nat} (h : 1 ≤ n) : sliceBounds (some 1) none none n = (((1 : Nat) : Int), (n : Int), (1 : Int)) := by
  have : min (1 : Int) (n : Int) = 1 := by omega
  simp [sliceBounds, this]
  rfl
theorem bounds_neg {n k : Nat} (hk : 0 < k) (h : k < n) : sliceBounds (some (-(k : Int))) none none n = (((n - k : Nat) : Int), (n : Int), (1 : Int)) := by
  have h1 : -(k : Int) < 0 := by omega
  have h2 : max 0 (min (-(k : Int) + n) (n : Int)) = ((n - k : Nat) : Int) := by omega
  simp [sliceBounds, h1, h2]
  omega
end Mine
end
section
set_option maxRecDepth 100000
open PySem PySem.W PyProof.Rows PySem.Calls PySem.Spec
namespace Mine
theorem tok_text {w : World} {h : Heap} (T : TX w h) : TOK w h 93 [Str.ofString "Text"] 94 := by
  refine ⟨92, 362, [.str (Str.ofString "Text") 358], T.X _ _ (by kernel_rfl), T.X _ (dictOf [ent w (Str.ofString "names") 362 (.ref 94)] 1) (by kernel_rfl), ⟨{ cls := .type "tuple", data := .seq #[.str (Str.ofString "Text") 358] }, T.X _ _ (by kernel_rfl), rfl, _, rfl⟩, .cons ⟨_, rfl⟩ .nil⟩
theorem tok_error {w : World} {h : Heap} (T : TX w h) : TOK w h 101 [Str.ofString "Error"] 102 := by
  refine ⟨100, 375, [.str (Str.ofString "Error") 371], T.X _ _ (by kernel_rfl), T.X _ (dictOf [ent w (Str.ofString "names") 375 (.ref 102)] 1) (by kernel_rfl), ⟨{ cls := .type "tuple", data := .seq #[.str (Str.ofString "Error") 371] }, T.X _ _ (by kernel_rfl), rfl, _, rfl⟩, .cons ⟨_, rfl⟩ .nil⟩
end Mine
end
section
set_option maxRecDepth 100000
set_option linter.unusedVariables false
open PySem PySem.W PyProof.Rows PySem.Calls PySem.Spec
namespace Mine
local macro_rules | `(tactic| walk_at "lk") => `(tactic| repeat (first | with_reducible exact frm_head | with_reducible assumption | with_reducible refine frm_tail (by kernel_rfl) ?_))
local macro_rules | `(tactic| walk_at "zl") => `(tactic| (refine ex_local (Fr.ns (by assumption)) (by walk_at "lk") ?_ (by kernel_rfl) (by kernel_rfl) (by kernel_rfl); first | exact isI | exact isS | exact isB | rfl))
theorem over_depth {A : Around} {c : Code} {fs : List Frame} {k n : Nat} (h : A.depth + k < recursionLimit) (e : frameCount (fs.map Frame.where_) + c.weight + n ≤ k) : (A.over c fs).depth + n < recursionLimit := by
  have : (A.over c fs).depth = A.depth + frameCount (fs.map Frame.where_) + c.weight := rfl
  omega
local macro_rules | `(tactic| walk_at "room0") => `(tactic| exact over_depth (A := Around.in1 _) (n := 0) (by assumption) (Nat.le_of_ble_eq_true (by kernel_rfl)))
local macro_rules | `(tactic| walk_at "room") => `(tactic| exact over_depth (A := Around.in1 _) (by assumption) (Nat.le_of_ble_eq_true (by kernel_rfl)))
section
variable {w : World} {A : Around} {h : Heap} {g : Array GenState} {d : Drawn} {tk : Nat} {os : OsState} {Q : Value → Shared → Prop} {E : Value → Shared → Prop}
/-- what the names hold at the loop's head -/
structure GL (l : List (Str × Value)) (td cx : Addr) (text : Str) (tt : Tok) (ls : Addr) : Prop where
  text : frm l (Str.ofString "text") = some (.str text tt)
  td : frm l (Str.ofString "tokendefs") = some (.ref td)
  cx : frm l (Str.ofString "ctx") = some (.ref cx)
  ls : frm l (Str.ofString "statetokens") = some (.ref ls)

set_option maxHeartbeats 4000000
theorem top_some {st : List Sta} (h : st ≠ []) : st.getLast? = some (topOf st) := by
  unfold topOf
  rw [List.getLast?_eq_some_getLast h, List.getLastD_eq_getLast?, List.getLast?_eq_some_getLast h]; rfl
/-- ctx.stack[-1] -/
theorem ex_topst {h₀ : Heap} {L : Addr} {m : Str → Option Value} {news : List (Addr × Obj)} {env : Env} {cx dc sl : Addr} {c : CT} {text : Str} {pos : Nat} {vs : List Value} {nn : Nat} {st : List Sta} {p1 p2 p3 p4 p5 : Pos} {k : Nat} (X : (capK.heap_1 w.params).In h₀)
    (he : EX PG w A (eval (.Name (Str.ofString "ctx") p1) env) h (Im (· = .ref cx))) (F : Fr h₀ L h m) (N : News h₀ L h news)
    (m1 : (cx, instObj 614 dc) ∈ news) (m2 : (dc, cdict w c text pos text.length sl) ∈ news) (m3 : (sl, lobj vs nn) ∈ news) (V : StkV st vs) (hne : st ≠ []) :
    EX PG w A (eval (.Subscript (.Attribute (.Name (Str.ofString "ctx") p1) (Str.ofString "stack") p2) (.UnaryOp .USub (.Constant (.int 1) k p3) p4) p5) env) h (Im (IsS (topOf st).str)) := by
  refine ex_sub (P1 := (· = .ref sl)) (P2 := IsI (-1)) (ex_ctx X he F N m1 m2 (by k_get) (by k_is) (by k_is) (by k_is) (by kernel_rfl) rfl) (ex_neg (i := 1) ex_int) fun a b ha hb => ?_
  subst ha
  obtain ⟨t, rfl⟩ := hb
  obtain ⟨y, hy, hs⟩ := paired_last V (top_some hne)
  exact tl_last ⟨_, (N _ m3).1, rfl, _, rfl⟩ hy hs (by with_unfolding_all rfl)
theorem ex_toptab {h₀ : Heap} {L : Addr} {m : Str → Option Value} {news : List (Addr × Obj)} {env : Env} {cx dc sl td : Addr} {la : Sta → Addr} {c : CT} {text : Str} {pos : Nat} {vs : List Value} {nn : Nat} {st : List Sta} {p0 p1 p2 p3 p4 p5 p6 : Pos} {k : Nat} (X : (capK.heap_1 w.params).In h₀)
    (het : EX PG w A (eval (.Name (Str.ofString "tokendefs") p0) env) h (Im (· = .ref td))) (ht : h.DictOf (strKind PG w) td [(Sta.root.str, .ref (la .root)), (Sta.first.str, .ref (la .first)), (Sta.second.str, .ref (la .second))])
    (he : EX PG w A (eval (.Name (Str.ofString "ctx") p1) env) h (Im (· = .ref cx))) (F : Fr h₀ L h m) (N : News h₀ L h news)
    (m1 : (cx, instObj 614 dc) ∈ news) (m2 : (dc, cdict w c text pos text.length sl) ∈ news) (m3 : (sl, lobj vs nn) ∈ news) (V : StkV st vs) (hne : st ≠ []) :
    EX PG w A (eval (.Subscript (.Name (Str.ofString "tokendefs") p0) (.Subscript (.Attribute (.Name (Str.ofString "ctx") p1) (Str.ofString "stack") p2) (.UnaryOp .USub (.Constant (.int 1) k p3) p4) p5) p6) env) h (Im (· = .ref (la (topOf st)))) := by
  refine ex_sub (P1 := (· = .ref td)) (P2 := IsS (topOf st).str) het (ex_topst X he F N m1 m2 m3 V hne) fun a b ha hb => ?_
  subst ha
  obtain ⟨t, rfl⟩ := hb
  exact tl_dict (strKind_is PG w _ _) ht (tab_at la _) rfl (by with_unfolding_all rfl)
theorem gen_ok {lx cx dc sl : Addr} {gB : Heap} {T : Tab} {text : Str} {rows : List Row} {W : List Addr} {pos : Nat} {st fin : List Sta} (TB : TX w gB) (LB : LX w gB lx T) (le0 : Le gB h) (hgz : gB.objs.size ≤ h.objs.size) (hh : A.handled = none) (hd : A.depth + 40 < recursionLimit)
    (C : CtxAt w h cx dc text pos st sl) (n1 : gB.get? cx = none) (n2 : gB.get? dc = none) (n3 : gB.get? sl = none) (hW : ∀ b ∈ W, gB.get? b = none ∧ b ≠ cx ∧ b ≠ dc ∧ b ≠ sl ∧ ∃ o, h.get? b = some o)
    (sc : Scan T (text.cps.toList.drop pos) pos st rows fin) (hst : st ≠ []) (hz : st.length + 2 * rows.length ≤ 900) (hpos : pos ≤ text.length) (htz : text.length ≤ 900) (hwy : ∀ s, ∀ r ∈ T s, ∀ l, r.way = .lay l → l.length ≤ 2)
    (H : ∀ L a h2 tk2 gs, Le h h2 → h.objs.size ≤ L → L < a → h2.IsGen a g.size → gs.bare = true → (∃ m, h2.Ns L m) →
      (∀ s, (∀ b o, b ∉ W → h2.get? b = some o → s.heap.get? b = some o) → (∀ b ∈ W, ∃ o, s.heap.get? b = some o) →
        gs.Goes (model PG w) A.in1 (fun n s₀ r s₁ => r = .ok (.ret .none) ∧ GenP w L cx dc text fin n s₀ s₁) (GenY w gB L cx dc text rows W) rows.length (.send .none) s) →
      Q (.ref a) ⟨h2, g.push gs, d, tk2, os⟩) :
    wpAny (model PG w) A (call (.ref 633) [.ref lx] [(Str.ofString "context", .ref cx)]) Q E ⟨h, g, d, tk, os⟩ := by
  have TH := TB.up le0
  refine gen_def TH.X TH.lim (by k_is) (by k_is) (by omega) (fun s X => binds_K X rfl (by k_is) rfl rfl rfl) (locs rfl) (by decide) rfl rfl rfl ?_
  intro L a h2 tk2 le ns hL hLa hg
  change h2.Ns L (frm [(Str.ofString "context", .ref cx), (Str.ofString "text", .none), (Str.ofString "self", .ref lx)]) at ns
  refine H L a h2 tk2 _ le hL hLa hg rfl ⟨_, ns⟩ ?_
  intro s hs hWs
  refine ⟨rfl, seg_func ?_⟩
  obtain ⟨c1, ⟨c, c2⟩, vs, nn, c3, V⟩ := C
  have hWL : ∀ b ∈ W, b ≠ L := fun b hb e => by
    obtain ⟨o, ho⟩ := (hW b hb).2.2.2.2
    exact Nat.ne_of_lt (Nat.lt_of_lt_of_le (Heap.lt_size ho) hL) e
  have lt : ∀ b o, h.get? b = some o → b ≠ L := fun b o e q => Nat.ne_of_lt (Nat.lt_of_lt_of_le (Heap.lt_size e) hL) q
  have kk : ∀ b o, b ∉ W → h.get? b = some o → s.heap.get? b = some o := fun b o hb e => hs b o hb (le _ _ e)
  have nW : ∀ b, b = cx ∨ b = dc ∨ b = sl → b ∉ W := fun b hb hm => by
    have := hW b hm
    rcases hb with rfl | rfl | rfl <;> simp at this
  obtain ⟨oL, a1, a2, hoL, a3⟩ := ns
  have hsB : Le gB s.heap := fun b o e => kk b o (fun hm => by have := (hW b hm).1; rw [e] at this; cases this) (le0 _ _ e)
  obtain ⟨oth, J, F, N⟩ := sj_start (w := w) (W := W) (s := s) (l := [(Str.ofString "context", .ref cx), (Str.ofString "text", .none), (Str.ofString "self", .ref lx)]) hsB ⟨oL, a1, a2, hs _ _ (fun hm => hWL _ hm rfl) hoL, a3⟩ (Nat.le_trans hgz hL)
    (kk _ _ (nW _ (.inl rfl)) c1) (kk _ _ (nW _ (.inr (.inl rfl))) c2) (kk _ _ (nW _ (.inr (.inr rfl))) c3) V n1 n2 n3 (lt _ _ c1) (lt _ _ c2) (lt _ _ c3) (fun b hb => ⟨(hW b hb).1, hWL b hb, (hW b hb).2.1, (hW b hb).2.2.1, (hW b hb).2.2.2.1, hWs b hb⟩) rfl
  obtain ⟨hp, g', d', tk', os'⟩ := s
  dsimp only at F N hsB
  obtain ⟨dl, es, n, td, la, vals, LA⟩ := LB
  have X := TB.X
  refine sg_stmt (st_assignI (P := (· = .ref td)) F N (ex_at (by walk_at "zl") F X (inst_mk (F.keep _ _ LA.obj) (F.keep _ _ LA.dic)) (by k_is) (by k_is) (by k_is) (by k_is) LA.tk (by kernel_rfl) rfl) ?_ ⟨rfl, rfl⟩ (by kernel_rfl) (by kernel_rfl))
  rintro v h1 tk1 rfl F N
  refine wp_nil ?_
  refine sg_ifE (b := false) F N ?_ (fun e => nomatch e) fun _ h2 tk2 F N => ?_
  · refine et_not (b := true) ?_
    refine et_plain (P := (· = .ref cx)) (by walk_at "zl") fun v hv => ?_
    subst hv
    exact tr_inst F X (inst_mk (N _ (.head _)).1 (N _ (.tail _ (.head _))).1) (by k_is) (by k_is)
  refine sg_stmt (st_assignI (P := (· = .ref cx)) F N (by walk_at "zl") ?_ ⟨rfl, rfl⟩ (by kernel_rfl) (by kernel_rfl))
  rintro v h3 tk3 rfl F N
  refine wp_nil ?_
  refine sg_stmt (st_assignI (P := (· = .ref (la (topOf st)))) F N (ex_toptab (la := la) X (by walk_at "zl") (dict_up LA.tab F.keep) (by walk_at "zl") F N (.head _) (.tail _ (.head _)) (.tail _ (.tail _ (.head _))) V hst) ?_ ⟨rfl, rfl⟩ (by kernel_rfl) (by kernel_rfl))
  rintro v h4 tk4 rfl F N
  refine wp_nil ?_
  refine sg_stmt (st_assignI (P := (· = .str text c.tt)) F N (ex_ctx X (by walk_at "zl") F N (.head _) (.tail _ (.head _)) (by k_get) (by k_is) (by k_is) (by k_is) (by kernel_rfl) rfl) ?_ ⟨rfl, rfl⟩ (by kernel_rfl) (by kernel_rfl))
  rintro v h5 tk5 rfl F N
  refine wp_nil ?_
  refine sg_bK_nil ?_
  refine sg_While' fun p => ?_
  refine sg_whileI (fun k s₀ s => ∃ h tk l c pos st sl₀ sl vs nn oth rs pre tt, s = ⟨h, s₀.gens, s₀.drawn, tk, s₀.os⟩ ∧ SJ w gB L cx dc text W s₀ sl₀ st sl vs oth ∧ Fr gB L h (frm l) ∧ News gB L h (LG w cx dc c text pos sl vs nn oth) ∧
    GL l td cx text tt (la (topOf st)) ∧ Scan T (text.cps.toList.drop pos) pos st rs fin ∧ rows = pre ++ rs ∧ rs.length = k ∧ st ≠ [] ∧ st.length + 2 * k ≤ 900 ∧ pos ≤ text.length) ?_ ?_ rows.length _ _ ?_
  · rintro k s₀ s ⟨h, tk, l, c, pos, st, sl₀, sl, vs, nn, oth, rs, pre, tt, rfl, J, F, N, G⟩
    refine ⟨?_⟩
    refine (et_plain (P := IsI 1) (h := h) ex_int fun v hv => tr_int hv).at fun v new h2 tk2 l2 f2 hv => ⟨hv.2, ?_⟩
    exact ⟨h2, tk2, l, c, pos, st, sl₀, sl, vs, nn, oth, rs, pre, tt, rfl, J, fr_up F l2, nw_up N l2, G⟩
  · rintro k IH s₀ s ⟨h, tk, l, c, pos, st, sl₀, sl, vs, nn, oth, rs, pre, tt, rfl, J, F, N, G, sc, hpre, hk, hne, hz, hpos⟩
    refine sg_for3 (ax := la (topOf st)) (items := vals (topOf st)) hh (fun i l' news' => news' = LG w cx dc c text pos sl vs nn oth ∧ GL l' td cx text tt (la (topOf st)) ∧ ∀ j r, j < i → (T (topOf st))[j]? = some r → fits r.word (text.cps.toList.drop pos) = false) F N
      (by
        have := G.ls
        walk_at "zl") ⟨rfl, G, fun j r hj => absurd hj (Nat.not_lt_zero _)⟩ (LA.lst _) ?_ ?_ ?_ ?_ ⟨rfl, rfl⟩ (by kernel_rfl) (by kernel_rfl) (by kernel_rfl)
    · intro i I p o Tu v1 v2 v3 h tk l news hi ht hI F N hne' again
      obtain ⟨rfl, G, hno⟩ := hI
      obtain ⟨r, hr, a, q, pl, tok, nt, r0, t4, nv, e, RA⟩ := paired_at (LA.rls (topOf st)) hi
      cases e
      have e3 := tuple_inj ht RA.tup
      simp only [Array.mk.injEq, List.cons.injEq, and_true] at e3
      obtain ⟨rfl, rfl, rfl⟩ := e3
      have gt := G.text
      have gc := G.cx
      have gd' := G.td
      have T3 := TB.up F.keep
      have mF : ∀ {x}, x ∈ LG w cx dc c text pos sl vs nn oth → x ∈ (I, o) :: LG w cx dc c text pos sl vs nn oth := fun hx => .tail _ hx
      refine sg_stmt (st_assignD (V := MatchV w text r.word pos text.length r0) F N (ex_callK (fv := .ref q) (by walk_at "zl") (cw_some (keeper_M T3.X (F.keep _ _ RA.mat) (by k_is)) (exs_cons (P := (· = .str text tt)) (by walk_at "zl") (exs_cons (P := (· = .int pos c.pt))
        (ex_ctx X (by walk_at "zl") F N (mF (.head _)) (mF (.tail _ (.head _))) (by k_get) (by k_is) (by k_is) (by k_is) (by kernel_rfl) rfl) (exs_cons (P := (· = .int text.length c.et))
        (ex_ctx X (by walk_at "zl") F N (mF (.head _)) (mF (.tail _ (.head _))) (by k_get) (by k_is) (by k_is) (by k_is) (by kernel_rfl) rfl) exs_nil))) ?_)) ?_ ⟨rfl, rfl⟩ (by kernel_rfl) (by kernel_rfl))
      · rintro vv nw h6 le6 - ⟨rfl, w1, u1, rfl, rfl, w2, u2, rfl, rfl, w3, u3, rfl, rfl, rfl⟩
        refine EX.mono (V := MatchV w text r.word pos text.length r0) ?_ (fun v new hv => by rw [List.append_nil]; exact hv)
        refine CX.ex (CX.meth (le6 _ _ (F.keep _ _ RA.mat)) (match_cx (T3.up le6) ?_ ?_ ((RA.pln.up F.keep).up le6) RA.pos ?_ ?_))
        · exact hh
        · walk_at "room"
        · have := RA.few; omega
        · omega
      intro v new h6 tk6 hv F N hdis
      refine wp_nil ?_
      unfold MatchV at hv
      rw [hits_fits RA.pos] at hv
      cases hf : fits r.word (text.cps.toList.drop pos) with
      | false =>
        rw [hf, if_neg (by decide)] at hv
        obtain ⟨rfl, rfl⟩ := hv
        refine sg_ifE (b := false) F N (et_plain (P := (· = .none)) (by walk_at "zl") fun v hv => by subst hv; exact tr_none) (fun e => nomatch e) fun _ h7 tk7 F N => ?_
        refine sg_nil (sg_bK_nil ?_)
        refine again h7 tk7 _ _ ⟨rfl, ⟨by walk_at "lk", by walk_at "lk", by walk_at "lk", ?_⟩, fun j r' hj hr' => ?_⟩ F N hne'
        · have := G.ls
          walk_at "lk"
        · rcases Nat.lt_succ_iff_lt_or_eq.mp hj with hj | rfl
          · exact hno j r' hj hr'
          · rw [hr] at hr'; cases hr'; exact hf
      | true =>
        rw [hf, if_pos rfl] at hv
        obtain ⟨mo, dm, ta, tb, tc, rfl, rfl⟩ := hv
        have hfind := find_at (p := fun r => fits r.word (text.cps.toList.drop pos)) hr hf hno
        obtain ⟨rest, rfl, sc'⟩ := scan_hit sc hfind RA.pos
        subst hk
        have dmo := fun q hq => hdis (mo, _) (.head _) q hq
        have ddm := fun q hq => hdis (dm, _) (.tail _ (.head _)) q hq
        have J2 := J.more (new := [(mo, instObj 677 dm), (dm, dictOf [ent w (Str.ofString "place") ta (.int pos tb), ent w (Str.ofString "pieces") tc (.ref r0)] 2), (I, o)]) (fun q hq => by
          rcases List.mem_cons.mp hq with rfl | hq
          · exact ⟨dmo _ (.tail _ (.head _)), dmo _ (.tail _ (.tail _ (.head _))), dmo _ (.tail _ (.tail _ (.tail _ (.head _))))⟩
          rcases List.mem_cons.mp hq with rfl | hq
          · exact ⟨ddm _ (.tail _ (.head _)), ddm _ (.tail _ (.tail _ (.head _))), ddm _ (.tail _ (.tail _ (.tail _ (.head _))))⟩
          rw [List.mem_singleton.mp hq]
          exact ⟨Ne.symm (hne' _ (.head _)), Ne.symm (hne' _ (.tail _ (.head _))), Ne.symm (hne' _ (.tail _ (.tail _ (.head _))))⟩)
        have N2 : News gB L h6 (LG w cx dc c text pos sl vs nn ([(mo, instObj 677 dm), (dm, dictOf [ent w (Str.ofString "place") ta (.int pos tb), ent w (Str.ofString "pieces") tc (.ref r0)] 2), (I, o)] ++ oth)) := fun q hq => N q (by
          simp only [LG, List.mem_append, List.mem_cons, List.not_mem_nil, or_false, or_assoc] at hq ⊢
          rcases hq with e | e | e | e | e | e | e <;> simp [e])
        clear N
        have mM : ∀ {x}, x ∈ [(mo, instObj 677 dm), (dm, dictOf [ent w (Str.ofString "place") ta (.int pos tb), ent w (Str.ofString "pieces") tc (.ref r0)] 2), (I, o)] → x ∈ LG w cx dc c text pos sl vs nn ([(mo, instObj 677 dm), (dm, dictOf [ent w (Str.ofString "place") ta (.int pos tb), ent w (Str.ofString "pieces") tc (.ref r0)] 2), (I, o)] ++ oth) :=
          fun hx => .tail _ (.tail _ (.tail _ (List.mem_append_left _ hx)))
        refine sg_ifE (b := true) F N2 (et_plain (P := (· = .ref mo)) (by walk_at "zl") fun v hv => by subst hv; exact tr_inst F X (inst_mk (N2 _ (mM (.head _))).1 (N2 _ (mM (.tail _ (.head _)))).1) (by k_is) (by k_is)) (fun _ h7 tk7 F N => ?_) fun e => nomatch e
        refine sg_ifE (b := true) F N (et_cmp (P1 := (· = .ref tok)) (op_isnotnone fun v hv => by subst hv; rfl) (by walk_at "zl") ex_none) (fun _ h8 tk8 F N => ?_) fun e => nomatch e
        obtain ⟨dt, t0, nvs, b1, b2, b3, b4⟩ := id RA.tok
        refine sg_ifE (b := true) F N (et_cmp (P1 := (· = .ref 83)) (P2 := (· = .ref 83)) op_isref (ex_callK (fv := .type "type") (ex_builtin (TB.up F.keep) (by k_is) (by kernel_rfl) (by decide) rfl (by kernel_rfl) (by kernel_rfl) (by kernel_rfl) (by kernel_rfl) (by kernel_rfl))
          (drop_new (cw_type (exs_one (V1 := Im (· = .ref tok)) (by walk_at "zl")) fun vs new h3 le3 hn hv => by
            obtain ⟨v, rfl, -, rfl⟩ := hv
            exact (cl_type (le3 _ _ (F.keep _ _ b1)) rfl).mono fun v new hv => hv.2)))
          (ex_global (TB.up F.keep) (by k_is) rfl (by kernel_rfl) (by kernel_rfl) (by kernel_rfl) (by kernel_rfl))) (fun _ h9 tk9 F N => ?_) fun e => nomatch e
        refine sg_yieldE (V := fun v new => ∃ a t1 t2, v = .ref a ∧ new = [(a, { cls := .type "tuple", data := .seq #[.int pos t1, .ref tok, .str r.word t2] })]) F N ?_ rfl rfl rfl ?_ rfl rfl
        · have PMh : PM w h9 mo pos r.word := ⟨dm, r0, ta, tb, tc, t4, (N _ (mM (.head _))).1, (N _ (mM (.tail _ (.head _)))).1, list_up RA.pln.lst F.keep⟩
          refine EX.mono (ex_tuple (exs_cons (P := (· = .int pos c.pt)) (ex_ctx X (by walk_at "zl") F N (.head _) (.tail _ (.head _)) (by k_get) (by k_is) (by k_is) (by k_is) (by kernel_rfl) rfl) (exs_cons (P := (· = .ref tok)) (by walk_at "zl") (exs_cons (P := IsS r.word)
            (ex_meth (P1 := (· = .ref mo)) (first := fun _ => [.ref mo]) (by walk_at "zl") (fun a' ha => by subst ha; exact gm_inst F X (inst_mk (N _ (mM (.head _))).1 (N _ (mM (.tail _ (.head _)))).1) (by k_is) (by k_is) (by k_is) (by kernel_rfl))
              (fun a' ha => cw_none (keeper_K (TB.up F.keep).X (by k_is)) (group_ok (TB.up F.keep) hh (by walk_at "room0") PMh RA.pos (by have := RA.few; omega)))) exs_nil))) (fun vs n hv => by
            obtain ⟨-, v1, r1, rfl, -, v2, r2, rfl, -, v3, r3, rfl, -, rfl⟩ := hv
            exact Nat.le_of_ble_eq_true rfl)) fun v new hv => ?_
          obtain ⟨a, vs, n, rfl, rfl, rfl, v1, r1, rfl, rfl, v2, r2, rfl, rfl, v3, r3, rfl, ⟨tv, rfl⟩, rfl⟩ := hv
          exact ⟨a, _, tv, rfl, rfl⟩
        · rintro v new h10 tk10 kap ⟨Tv, u1, u2, rfl, rfl⟩ F10 N10 le10 fr10 hkap
          have nT := (fr10 _ (.head _)).2
          have neT : ∀ b o, h9.get? b = some o → Tv ≠ b := fun b o e q => by
            have nT' := nT
            rw [show ((Tv, ({ cls := .type "tuple", data := .seq #[.int pos u1, .ref tok, .str r.word u2] } : Obj)) : Addr × Obj).1 = b from q, e] at nT'
            cases nT'
          have J3 := J2.more (new := [(Tv, { cls := .type "tuple", data := .seq #[.int pos u1, .ref tok, .str r.word u2] })]) (fun q hq => by
            rw [List.mem_singleton.mp hq]
            exact ⟨neT _ _ (N _ (.head _)).1, neT _ _ (N _ (.tail _ (.head _))).1, neT _ _ (N _ (.tail _ (.tail _ (.head _)))).1⟩)
          have N3 : News gB L h10 (LG w cx dc c text pos sl vs nn ([(Tv, { cls := .type "tuple", data := .seq #[.int pos u1, .ref tok, .str r.word u2] })] ++ ([(mo, instObj 677 dm), (dm, dictOf [ent w (Str.ofString "place") ta (.int pos tb), ent w (Str.ofString "pieces") tc (.ref r0)] 2), (I, o)] ++ oth))) := fun q hq => N10 q (by
            simp only [LG, List.mem_append, List.mem_cons, List.not_mem_nil, or_false, or_assoc] at hq ⊢
            rcases hq with e | e | e | e | e | e | e | e <;> simp [e])
          refine ⟨⟨pos, r.names, r.word, st⟩, ?_, ⟨Tv, tok, nt, u1, u2, rfl, J2.fresh F N nT, ⟨_, (N10 _ (.head _)).1, rfl, _, rfl⟩, RA.tok⟩, J3.wak F10 N3 tk10, ?_⟩
          · have e1 : rows.length - 1 - rest.length = pre.length := by rw [hpre, List.length_append, List.length_cons]; omega
            rw [e1, hpre]
            simp
          intro s2 hk2 hW2
          refine hkap s2 ?_
          obtain ⟨oth4, J4, F4, N4⟩ := J3.again F10 N3 hk2 hW2
          have inW : ∀ b ∈ W, ∃ ob, (b, ob) ∈ oth := fun b hb => (J.wok b hb).2.2.2.2.2
          have PM4 : PM w s2.heap mo pos r.word := by
            refine ⟨dm, r0, ta, tb, tc, t4, hk2 _ _ (fun hm => ?_) (N10 _ (.tail _ (mM (.head _)))).1, hk2 _ _ (fun hm => ?_) (N10 _ (.tail _ (mM (.tail _ (.head _))))).1, list_up RA.pln.lst F4.keep⟩
            · obtain ⟨ob, hob⟩ := inW _ hm
              exact dmo _ (.tail _ (.tail _ (.tail _ (.tail _ hob)))) rfl
            · obtain ⟨ob, hob⟩ := inW _ hm
              exact ddm _ (.tail _ (.tail _ (.tail _ (.tail _ hob)))) rfl
          obtain ⟨h2, g2, d2, tk2, os2⟩ := s2
          dsimp only at F4 N4 PM4
          have T4 := TB.up F4.keep
          obtain ⟨dm4, r04, ta4, tb4, tc4, te4, pa, pb, pc⟩ := id PM4
          refine sg_stmt (st_setattr (V := Im (IsI ((pos : Int) + (r.word.length : Int)))) F4 X N4 ?_ (by walk_at "zl") (.head _) (.tail _ (.head _)) (fun t v => .tail J.d1 (.head (fun q hq => ?_))) ?_ (by k_is) (by k_is) (by k_is) (by k_is) (by kernel_rfl) (Nat.le_of_ble_eq_true (by kernel_rfl)) (by kernel_rfl))
          · exact ex_meth (P1 := (· = .ref mo)) (first := fun _ => [.ref mo]) (by walk_at "zl") (fun a' ha => by subst ha; exact gm_inst F4 X (inst_mk pa pb) (by k_is) (by k_is) (by k_is) (by kernel_rfl))
              (fun a' ha => cw_none (keeper_K T4.X (by k_is)) (end_ok T4 hh (by walk_at "room") PM4 RA.pos (by have := RA.few; omega)))
          · rcases List.mem_cons.mp hq with rfl | hq
            · exact Ne.symm J4.d3
            · exact (J4.dj q hq).2.1
          rintro v new t h11 tk11 ⟨rfl, tv, rfl⟩ F5 N5
          refine wp_nil ?_
          have N6 : News gB L h11 (LG w cx dc { c with pt := tv } text (pos + r.word.length) sl vs nn oth4) := N5
          clear N5
          refine sg_bK_nil (sg_bK_nil ?_)
          have pos' : pos + r.word.length ≤ text.length := by
            have := List.IsPrefix.length_le (List.isPrefixOf_iff_prefix.mp hf)
            rw [List.length_drop, Array.length_toList, Array.length_toList] at this
            have a1 : r.word.cps.size = r.word.length := rfl
            have a2 : text.cps.size = text.length := rfl
            have := RA.pos
            omega
          refine sg_stmt (WP.mono (Q' := fun f s' => f = .next ∧ ∃ h' tk' l' vs' nn', s' = ⟨h', g2, d2, tk', os2⟩ ∧ applyWay r.way st ≠ [] ∧ (applyWay r.way st).length ≤ st.length + 2 ∧ Fr gB L h' (frm l') ∧ News gB L h' (LG w cx dc { c with pt := tv } text (pos + r.word.length) sl vs' nn' oth4) ∧
            StkV (applyWay r.way st) vs' ∧ GL l' td cx text tt (la (topOf (applyWay r.way st)))) ?_ ?_)
          rotate_left
          · rintro f s' ⟨rfl, h', tk', l', vs', nn', rfl, hne2, hlen, F, N, V, G⟩
            refine sg_stmt (st_brk ?_)
            refine sg_leave .next ?_
            exact IH rest.length (Nat.lt_succ_self _) _ _ ⟨h', tk', l', { c with pt := tv }, pos + r.word.length, applyWay r.way st, sl, sl, vs', nn', oth4, rest, pre ++ [⟨pos, r.names, r.word, st⟩], tt, rfl, J4.stack V, F, N, G, sc', by rw [hpre]; simp, rfl, hne2, by
              simp only [List.length_cons] at hz; omega, pos'⟩
          have mx := F5
          cases hway : r.way with
          | stay =>
            have hnv := RA.way
            rw [hway] at hnv
            cases hnv
            refine st_if (b := false) F5 N6 (et_cmp (P1 := (· = .none)) (op_isnotnone fun v hv => by subst hv; rfl) (by walk_at "zl") ex_none) (fun e => nomatch e) fun _ h12 tk12 F N => wp_nil (thenQ_nil ⟨rfl, h12, tk12, _, vs, nn, rfl, hne, Nat.le_add_right _ _, F, N, J4.V, ⟨by walk_at "lk", by walk_at "lk", by walk_at "lk", ?_⟩⟩)
            have := G.ls
            show frm _ _ = some (.ref (la (topOf st)))
            walk_at "lk"
          | pop k =>
            have hnv := RA.way
            rw [hway] at hnv
            obtain ⟨⟨tn, rfl⟩, hk0⟩ := hnv
            refine st_if (b := true) F5 N6 (et_cmp (P1 := IsI (-(k : Int))) (op_isnotnone fun v hv => by obtain ⟨t, rfl⟩ := hv; rfl) (by walk_at "zl") ex_none) (fun _ h12 tk12 F N => ?_) fun e => nomatch e
            refine st_if (b := false) F N (et_isi (P := IsI (-(k : Int))) (T := "tuple") (TB.up F.keep) (by walk_at "zl") (fun v hv => cl_isi_int hv (by decide) PySem.F.isi_meta_tuple (by rw [isSubtype_type]; kernel_rfl)) (by kernel_rfl) rfl rfl rfl
              (ex_builtin (TB.up F.keep) (by k_is) (by kernel_rfl) (by decide) rfl (by kernel_rfl) (by kernel_rfl) (by kernel_rfl) (by kernel_rfl) (by kernel_rfl))) (fun e => nomatch e) fun _ h13 tk13 F N => ?_
            refine st_if (b := true) F N (et_isi (P := IsI (-(k : Int))) (T := "int") (TB.up F.keep) (by walk_at "zl") (fun v hv => cl_isi_true (fun s _ => by obtain ⟨t, rfl⟩ := hv; exact typeIs_int _ _ _) PySem.F.isi_meta_int PySem.F.isi_self_int) (by kernel_rfl) rfl rfl rfl
              (ex_builtin (TB.up F.keep) (by k_is) (by kernel_rfl) (by decide) rfl (by kernel_rfl) (by kernel_rfl) (by kernel_rfl) (by kernel_rfl) (by kernel_rfl))) (fun _ h14 tk14 F N => ?_) fun e => nomatch e
            have lv := paired_len J4.V
            have hst1 : 0 < st.length := List.length_pos_iff.mpr hne
            have hvz : vs.length ≤ 1000 := by rw [← lv]; simp only [List.length_cons] at hz; omega
            refine st_if (b := decide ((vs.length : Int) ≤ (k : Int))) F N (et_cmp (P1 := IsI (k : Int)) (P2 := IsI (vs.length : Int)) op_ge
              (ex_callK (fv := .builtin "abs") (ex_builtin (TB.up F.keep) (by k_is) (by kernel_rfl) (by decide) rfl (by kernel_rfl) (by kernel_rfl) (by kernel_rfl) (by kernel_rfl) (by kernel_rfl)) (drop_new (cw_builtin (exs_one (V1 := Im (IsI (-(k : Int)))) (by walk_at "zl")) (fun vs new h3 le3 hn hv => by
                obtain ⟨v, rfl, hv⟩ := hv
                refine (cl_abs hv.2).mono fun v new hv => ?_
                have e1 : (if -(k : Int) < 0 then - -(k : Int) else -(k : Int)) = k := by rw [if_pos (by omega)]; omega
                rw [e1] at hv
                exact hv.2))))
              (ex_lenL (its := vs.toArray) (TB.up F.keep) (ex_ctx X (by walk_at "zl") F N (.head _) (.tail _ (.head _)) (by k_get) (by k_is) (by k_is) (by k_is) (by kernel_rfl) rfl) ⟨_, (N _ (.tail _ (.tail _ (.head _)))).1, rfl, _, rfl⟩ (by rw [List.size_toArray]; omega) (by kernel_rfl) rfl rfl rfl)) ?_ ?_
            · intro hb h15 tk15 F N
              have hb' : st.length ≤ k := by rw [lv]; have := of_decide_eq_true hb; omega
              have ea : applyWay r.way st = st.take 1 := by rw [hway]; show (if st.length ≤ k then st.take 1 else st.take (st.length - k)) = _; rw [if_pos hb']
              have V7 : StkV (applyWay r.way st) (vs.take 1) := by rw [ea]; exact paired_take J4.V 1
              have ne7 : applyWay r.way st ≠ [] := by rw [ea]; intro e; have := congrArg List.length e; rw [List.length_take, List.length_nil] at this; omega
              have ln7 : (applyWay r.way st).length ≤ st.length + 2 := by rw [ea, List.length_take]; omega
              refine st_delM F N (mu_delTail (lo := 1) (k := 1) (ex_ctx X (by walk_at "zl") F N (.head _) (.tail _ (.head _)) (by k_get) (by k_is) (by k_is) (by k_is) (by kernel_rfl) rfl) ex_int (N _ (.tail _ (.tail _ (.head _)))).1 (bounds_one (by omega)) hvz) (.tail _ (.tail _ (.head _))) ?_
              rintro o' ⟨n', rfl⟩
              refine ⟨_, .tail J4.d2 (.tail J4.d3 (.head fun q hq => (J4.dj q hq).2.2)), fun h16 tk16 F N => wp_nil (thenQ_nil (thenQ_nil ?_))⟩
              refine thenQ_next (st_assignI (P := (· = .ref (la (topOf (applyWay r.way st))))) F N (ex_toptab (la := la) X (by walk_at "zl") (dict_up LA.tab F.keep) (by walk_at "zl") F N (.head _) (.tail _ (.head _)) (.tail _ (.tail _ (.head _))) V7 ne7) ?_ ⟨rfl, rfl⟩ (by kernel_rfl) (by kernel_rfl))
              rintro v h17 tk17 rfl F N
              exact wp_nil (thenQ_nil ⟨rfl, h17, tk17, _, _, _, rfl, by rw [← hway]; exact ne7, by rw [← hway]; exact ln7, F, N, by rw [← hway]; exact V7, ⟨by walk_at "lk", by walk_at "lk", by walk_at "lk", by rw [← hway]; exact frm_head⟩⟩)
            · intro hb h15 tk15 F N
              have hb' : ¬ st.length ≤ k := by rw [lv]; have := of_decide_eq_false hb; omega
              have ea : applyWay r.way st = st.take (st.length - k) := by rw [hway]; show (if st.length ≤ k then st.take 1 else st.take (st.length - k)) = _; rw [if_neg hb']
              have V7 : StkV (applyWay r.way st) (vs.take (vs.length - k)) := by rw [ea, lv]; exact paired_take J4.V _
              have ne7 : applyWay r.way st ≠ [] := by rw [ea]; intro e; have := congrArg List.length e; rw [List.length_take, List.length_nil] at this; omega
              have ln7 : (applyWay r.way st).length ≤ st.length + 2 := by rw [ea, List.length_take]; omega
              refine st_delM F N (mu_delTail (lo := -(k : Int)) (k := vs.length - k) (ex_ctx X (by walk_at "zl") F N (.head _) (.tail _ (.head _)) (by k_get) (by k_is) (by k_is) (by k_is) (by kernel_rfl) rfl) (by walk_at "zl") (N _ (.tail _ (.tail _ (.head _)))).1 (bounds_neg hk0 (by omega)) hvz) (.tail _ (.tail _ (.head _))) ?_
              rintro o' ⟨n', rfl⟩
              refine ⟨_, .tail J4.d2 (.tail J4.d3 (.head fun q hq => (J4.dj q hq).2.2)), fun h16 tk16 F N => wp_nil (thenQ_nil (thenQ_nil ?_))⟩
              refine thenQ_next (st_assignI (P := (· = .ref (la (topOf (applyWay r.way st))))) F N (ex_toptab (la := la) X (by walk_at "zl") (dict_up LA.tab F.keep) (by walk_at "zl") F N (.head _) (.tail _ (.head _)) (.tail _ (.tail _ (.head _))) V7 ne7) ?_ ⟨rfl, rfl⟩ (by kernel_rfl) (by kernel_rfl))
              rintro v h17 tk17 rfl F N
              exact wp_nil (thenQ_nil ⟨rfl, h17, tk17, _, _, _, rfl, by rw [← hway]; exact ne7, by rw [← hway]; exact ln7, F, N, by rw [← hway]; exact V7, ⟨by walk_at "lk", by walk_at "lk", by walk_at "lk", by rw [← hway]; exact frm_head⟩⟩)
          | lay ws =>
            have hnv := RA.way
            rw [hway] at hnv
            obtain ⟨tA, tvs, rfl, htA, hws⟩ := hnv
            have hwl := hwy _ r (List.mem_of_getElem? hr) ws hway
            refine st_if (b := true) F5 N6 (et_cmp (P1 := (· = .ref tA)) (op_isnotnone fun v hv => by subst hv; rfl) (by walk_at "zl") ex_none) (fun _ h12 tk12 F N => ?_) fun e => nomatch e
            refine st_if (b := true) F N (et_isi (P := (· = .ref tA)) (T := "tuple") (TB.up F.keep) (by walk_at "zl") (fun v hv => cl_isi_true (fun s le => by subst hv; obtain ⟨o, ho, hc, _⟩ := tuple_up (tuple_up htA F.keep) le; exact ⟨o, ho, hc⟩) PySem.F.isi_meta_tuple PySem.F.isi_self_tuple) (by kernel_rfl) rfl rfl rfl
              (ex_builtin (TB.up F.keep) (by k_is) (by kernel_rfl) (by decide) rfl (by kernel_rfl) (by kernel_rfl) (by kernel_rfl) (by kernel_rfl) (by kernel_rfl))) (fun _ h13 tk13 F N => ?_) fun e => nomatch e
            refine st_for_tuple (ax := tA) (items := tvs) (fun i l' news' => ∃ vs' nn', news' = LG w cx dc { c with pt := tv } text (pos + r.word.length) sl vs' nn' oth4 ∧ StkV ((ws.take i).foldl layOne st) vs' ∧ (ws.take i).foldl layOne st ≠ [] ∧ ((ws.take i).foldl layOne st).length ≤ st.length + i ∧
              frm l' (Str.ofString "text") = some (.str text tt) ∧ frm l' (Str.ofString "tokendefs") = some (.ref td) ∧ frm l' (Str.ofString "ctx") = some (.ref cx)) hh F N (by walk_at "zl") ⟨vs, nn, rfl, J4.V, hne, Nat.le_refl _, by walk_at "lk", by walk_at "lk", by walk_at "lk"⟩
              (fun i h l news _ F _ => tuple_up htA F.keep) ?_ ?_ ⟨rfl, rfl⟩ (by kernel_rfl)
            · intro i v I2 o2 h14 tk14 l14 news14 hi hv hI F N hneI hoc
              obtain ⟨vs', nn', rfl, V', ne', ln', q1, q2, q3⟩ := hI
              obtain ⟨x, hx, tx, rfl⟩ := paired_at hws hv
              have hstep : (ws.take (i + 1)).foldl layOne st = layOne ((ws.take i).foldl layOne st) x := by
                rw [List.take_add_one, hx, List.foldl_append]; rfl
              generalize (ws.take i).foldl layOne st = cur at V' ne' ln' hstep
              have lv := paired_len V'
              have hcl : cur.length ≤ 900 := by
                have : i < ws.length := by rw [paired_len hws]; exact hi
                simp only [List.length_cons] at hz; omega
              have hvz : vs'.length ≤ 1000 := by rw [← lv]; omega
              have mF : ∀ {x}, x ∈ LG w cx dc { c with pt := tv } text (pos + r.word.length) sl vs' nn' oth4 → x ∈ (I2, o2) :: LG w cx dc { c with pt := tv } text (pos + r.word.length) sl vs' nn' oth4 := fun hx => .tail _ hx
              have lk := (N _ (mF (.tail _ (.tail _ (.head _))))).1
              have neI : ∀ vs'' nn'', ∀ p ∈ LG w cx dc { c with pt := tv } text (pos + r.word.length) sl vs'' nn'' oth4, p.1 ≠ I2 := fun vs'' nn'' p hp => by
                rcases List.mem_cons.mp hp with rfl | hp
                · exact hneI _ (.head _)
                rcases List.mem_cons.mp hp with rfl | hp
                · exact hneI _ (.tail _ (.head _))
                rcases List.mem_cons.mp hp with rfl | hp
                · exact hneI (sl, lobj vs' nn') (.tail _ (.tail _ (.head _)))
                exact hneI _ (.tail _ (.tail _ (.tail _ hp)))
              cases x with
              | none =>
                refine st_if (b := true) F N ((et_cmp (b := (Str.ofString "#pop" == Str.ofString "#pop")) (P1 := IsS (Str.ofString "#pop")) (P2 := IsS (Str.ofString "#pop")) op_eqs (by walk_at "zl") ex_str).mono fun v new hv => ⟨hv.1, by rw [hv.2]; simp⟩) (fun _ h15 tk15 F N => ?_) fun e => nomatch e
                refine st_if (b := decide ((1 : Int) < (vs'.length : Int))) F N (et_cmp (P1 := IsI (vs'.length : Int)) (P2 := IsI 1) op_gt
                  (ex_lenL (its := vs'.toArray) (TB.up F.keep) (ex_ctx X (by walk_at "zl") F N (mF (.head _)) (mF (.tail _ (.head _))) (by k_get) (by k_is) (by k_is) (by k_is) (by kernel_rfl) rfl) ⟨_, (N _ (mF (.tail _ (.tail _ (.head _))))).1, rfl, _, rfl⟩ (by rw [List.size_toArray]; omega) (by kernel_rfl) rfl rfl rfl) ex_int) ?_ ?_
                · intro hb h16 tk16 F N
                  have hb' : 1 < cur.length := by rw [lv]; have := of_decide_eq_true hb; omega
                  have ea : (ws.take (i + 1)).foldl layOne st = cur.dropLast := by rw [hstep]; show (if 1 < cur.length then cur.dropLast else cur) = _; rw [if_pos hb']
                  obtain ⟨y, hy, -⟩ := paired_last V' (top_some ne')
                  refine st_exprM (V := fun v o' => o' = { cls := .type "list", data := .seq vs'.dropLast.toArray (nn' + 1) }) F N (mu_meth (ex_ctx X (by walk_at "zl") F N (mF (.head _)) (mF (.tail _ (.head _))) (by k_get) (by k_is) (by k_is) (by k_is) (by kernel_rfl) rfl) (by rw [(N _ (mF (.tail _ (.tail _ (.head _))))).1]; rfl) (gm_pop (N _ (mF (.tail _ (.tail _ (.head _))))).1)
                    (mu_cw0 (mu_pop (N _ (mF (.tail _ (.tail _ (.head _))))).1 hy hvz))) (mF (.tail _ (.tail _ (.head _)))) ?_ rfl (by kernel_rfl)
                  rintro v o' rfl
                  refine ⟨_, .tail (Ne.symm (neI _ _ _ (.tail _ (.tail _ (.head _))))) (.tail J4.d2 (.tail J4.d3 (.head fun q hq => (J4.dj q hq).2.2))), fun h17 tk17 F N => wp_nil (thenQ_nil (thenQ_nil ⟨h17, tk17, _, _, rfl, F, N, ⟨vs'.dropLast, nn' + 1, rfl, ?_, ?_, ?_, ?_, ?_, ?_⟩, neI _ _⟩))⟩
                  · rw [ea, List.dropLast_eq_take, List.dropLast_eq_take, ← lv]; exact paired_take V' _
                  · rw [ea]; intro e; have := congrArg List.length e; rw [List.length_dropLast, List.length_nil] at this; omega
                  · rw [ea, List.length_dropLast]; omega
                  · walk_at "lk"
                  · walk_at "lk"
                  · walk_at "lk"
                · intro hb h16 tk16 F N
                  have hb' : ¬ 1 < cur.length := by rw [lv]; have := of_decide_eq_false hb; omega
                  have ea : (ws.take (i + 1)).foldl layOne st = cur := by rw [hstep]; show (if 1 < cur.length then cur.dropLast else cur) = _; rw [if_neg hb']
                  refine wp_nil (thenQ_nil (thenQ_nil ⟨h16, tk16, _, _, rfl, F, N, ⟨vs', nn', rfl, ?_, ?_, ?_, ?_, ?_, ?_⟩, neI _ _⟩))
                  · rw [ea]; exact V'
                  · rw [ea]; exact ne'
                  · rw [ea]; omega
                  · walk_at "lk"
                  · walk_at "lk"
                  · walk_at "lk"
              | some sx =>
                refine st_if (b := false) F N ((et_cmp (b := (sx.str == Str.ofString "#pop")) (P1 := IsS sx.str) (P2 := IsS (Str.ofString "#pop")) op_eqs (by walk_at "zl") ex_str).mono fun v new hv => ⟨hv.1, by rw [hv.2]; cases sx <;> decide +kernel⟩) (fun e => nomatch e) fun _ h15 tk15 F N => ?_
                refine st_if (b := false) F N ((et_cmp (b := (sx.str == Str.ofString "#push")) (P1 := IsS sx.str) (P2 := IsS (Str.ofString "#push")) op_eqs (by walk_at "zl") ex_str).mono fun v new hv => ⟨hv.1, by rw [hv.2]; cases sx <;> decide +kernel⟩) (fun e => nomatch e) fun _ h16 tk16 F N => ?_
                have ea : (ws.take (i + 1)).foldl layOne st = cur ++ [sx] := hstep
                refine st_exprM (V := fun v o' => ∃ y, IsS sx.str y ∧ o' = { cls := .type "list", data := .seq (vs' ++ [y]).toArray (nn' + 1) }) F N (mu_meth (ex_ctx X (by walk_at "zl") F N (mF (.head _)) (mF (.tail _ (.head _))) (by k_get) (by k_is) (by k_is) (by k_is) (by kernel_rfl) rfl) (by rw [(N _ (mF (.tail _ (.tail _ (.head _))))).1]; rfl) (gm_append (N _ (mF (.tail _ (.tail _ (.head _))))).1)
                  (mu_cw1 (exs_one (V1 := Im (IsS sx.str)) (by walk_at "zl")) (by rw [(N _ (mF (.tail _ (.tail _ (.head _))))).1]; rfl) fun vs1 new h3 le3 hn hv => by
                    obtain ⟨v, rfl, hv⟩ := hv
                    exact (mu_append (le3 _ _ (N _ (mF (.tail _ (.tail _ (.head _))))).1) hvz).mono fun v' o' e => ⟨v, hv.2, e⟩)) (mF (.tail _ (.tail _ (.head _)))) ?_ rfl (by kernel_rfl)
                rintro v o' ⟨y, hy, rfl⟩
                refine ⟨_, .tail (Ne.symm (neI _ _ _ (.tail _ (.tail _ (.head _))))) (.tail J4.d2 (.tail J4.d3 (.head fun q hq => (J4.dj q hq).2.2))), fun h17 tk17 F N => wp_nil (thenQ_nil (thenQ_nil ⟨h17, tk17, _, _, rfl, F, N, ⟨vs' ++ [y], nn' + 1, rfl, ?_, ?_, ?_, ?_, ?_, ?_⟩, neI _ _⟩))⟩
                · rw [ea]; exact paired_append V' (.cons hy .nil)
                · rw [ea]; simp
                · rw [ea, List.length_append]; simp; omega
                · walk_at "lk"
                · walk_at "lk"
                · walk_at "lk"
            · intro h14 tk14 l14 news14 hI F N
              obtain ⟨vs', nn', rfl, V', ne', ln', q1, q2, q3⟩ := hI
              have ew : ws.take tvs.length = ws := by rw [← paired_len hws]; exact List.take_length
              rw [ew] at V' ne' ln'
              have ea : applyWay r.way st = ws.foldl layOne st := by rw [hway]; rfl
              have V7 : StkV (applyWay r.way st) vs' := by rw [ea]; exact V'
              have ne7 : applyWay r.way st ≠ [] := by rw [ea]; exact ne'
              have ln7 : (applyWay r.way st).length ≤ st.length + 2 := by rw [ea]; rw [← paired_len hws] at ln'; omega
              refine wp_nil (thenQ_nil ?_)
              refine thenQ_next (st_assignI (P := (· = .ref (la (topOf (applyWay r.way st))))) F N (ex_toptab (la := la) X (by walk_at "zl") (dict_up LA.tab F.keep) (by walk_at "zl") F N (.head _) (.tail _ (.head _)) (.tail _ (.tail _ (.head _))) V7 ne7) ?_ ⟨rfl, rfl⟩ (by kernel_rfl) (by kernel_rfl))
              rintro v h17 tk17 rfl F N
              exact wp_nil (thenQ_nil ⟨rfl, h17, tk17, _, _, _, rfl, by rw [← hway]; exact ne7, by rw [← hway]; exact ln7, F, N, by rw [← hway]; exact V7, ⟨by walk_at "lk", by walk_at "lk", by walk_at "lk", by rw [← hway]; exact frm_head⟩⟩)
          | push =>
            have hnv := RA.way
            rw [hway] at hnv
            obtain ⟨tn, rfl⟩ := hnv
            refine st_if (b := true) F5 N6 (et_cmp (P1 := IsS (Str.ofString "#push")) (op_isnotnone fun v hv => by obtain ⟨t, rfl⟩ := hv; rfl) (by walk_at "zl") ex_none) (fun _ h12 tk12 F N => ?_) fun e => nomatch e
            refine st_if (b := false) F N (et_isi (P := IsS (Str.ofString "#push")) (T := "tuple") (TB.up F.keep) (by walk_at "zl") (fun v hv => cl_isi_str hv (by decide) PySem.F.isi_meta_tuple (by rw [isSubtype_type]; kernel_rfl)) (by kernel_rfl) rfl rfl rfl
              (ex_builtin (TB.up F.keep) (by k_is) (by kernel_rfl) (by decide) rfl (by kernel_rfl) (by kernel_rfl) (by kernel_rfl) (by kernel_rfl) (by kernel_rfl))) (fun e => nomatch e) fun _ h13 tk13 F N => ?_
            refine st_if (b := false) F N (et_isi (P := IsS (Str.ofString "#push")) (T := "int") (TB.up F.keep) (by walk_at "zl") (fun v hv => cl_isi_str hv (by decide) PySem.F.isi_meta_int (by rw [isSubtype_type]; kernel_rfl)) (by kernel_rfl) rfl rfl rfl
              (ex_builtin (TB.up F.keep) (by k_is) (by kernel_rfl) (by decide) rfl (by kernel_rfl) (by kernel_rfl) (by kernel_rfl) (by kernel_rfl) (by kernel_rfl))) (fun e => nomatch e) fun _ h14 tk14 F N => ?_
            have lv := paired_len J4.V
            have hvz : vs.length ≤ 1000 := by rw [← lv]; simp only [List.length_cons] at hz; omega
            refine st_if (b := true) F N ((et_cmp (b := (Str.ofString "#push" == Str.ofString "#push")) (P1 := IsS (Str.ofString "#push")) (P2 := IsS (Str.ofString "#push")) op_eqs (by walk_at "zl") ex_str).mono fun v new hv => ⟨hv.1, by rw [hv.2]; simp⟩) (fun _ h15 tk15 F N => ?_) fun e => nomatch e
            have ea : applyWay r.way st = st ++ [topOf st] := by rw [hway]; rfl
            have ne7 : applyWay r.way st ≠ [] := by rw [ea]; simp
            have ln7 : (applyWay r.way st).length ≤ st.length + 2 := by rw [ea]; simp
            refine st_exprM (V := fun v o' => ∃ y, IsS (topOf st).str y ∧ o' = { cls := .type "list", data := .seq (vs ++ [y]).toArray (nn + 1) }) F N (mu_meth (ex_ctx X (by walk_at "zl") F N (.head _) (.tail _ (.head _)) (by k_get) (by k_is) (by k_is) (by k_is) (by kernel_rfl) rfl) (by rw [(N _ (.tail _ (.tail _ (.head _)))).1]; rfl) (gm_append (N _ (.tail _ (.tail _ (.head _)))).1)
              (mu_cw1 (exs_one (V1 := Im (IsS (topOf st).str)) (ex_topst X (by walk_at "zl") F N (.head _) (.tail _ (.head _)) (.tail _ (.tail _ (.head _))) J4.V hne)) (by rw [(N _ (.tail _ (.tail _ (.head _)))).1]; rfl) fun vs1 new h3 le3 hn hv => by
                obtain ⟨v, rfl, hv⟩ := hv
                exact (mu_append (le3 _ _ (N _ (.tail _ (.tail _ (.head _)))).1) hvz).mono fun v' o' e => ⟨v, hv.2, e⟩)) (.tail _ (.tail _ (.head _))) ?_ rfl (by kernel_rfl)
            rintro v o' ⟨y, hy, rfl⟩
            have V7 : StkV (applyWay r.way st) (vs ++ [y]) := by rw [ea]; exact paired_append J4.V (.cons hy .nil)
            refine ⟨_, .tail J4.d2 (.tail J4.d3 (.head fun q hq => (J4.dj q hq).2.2)), fun h16 tk16 F N => wp_nil (thenQ_nil (thenQ_nil ?_))⟩
            refine thenQ_next (st_assignI (P := (· = .ref (la (topOf (applyWay r.way st))))) F N (ex_toptab (la := la) X (by walk_at "zl") (dict_up LA.tab F.keep) (by walk_at "zl") F N (.head _) (.tail _ (.head _)) (.tail _ (.tail _ (.head _))) V7 ne7) ?_ ⟨rfl, rfl⟩ (by kernel_rfl) (by kernel_rfl))
            rintro v h17 tk17 rfl F N
            exact wp_nil (thenQ_nil ⟨rfl, h17, tk17, _, _, _, rfl, by rw [← hway]; exact ne7, by rw [← hway]; exact ln7, F, N, by rw [← hway]; exact V7, ⟨by walk_at "lk", by walk_at "lk", by walk_at "lk", by rw [← hway]; exact frm_head⟩⟩)
    · intro p h tk l news hI F N
      obtain ⟨rfl, G, hno⟩ := hI
      have gt := G.text
      have gc := G.cx
      have gd' := G.td
      have hfind := find_none (p := fun r => fits r.word (text.cps.toList.drop pos)) (l := T (topOf st)) fun j r' hj => hno j r' (by rw [← paired_len (LA.rls (topOf st))]; exact hj)
      refine sg_ifE (b := decide ((text.length : Int) ≤ (pos : Int))) F N (et_cmp (P1 := IsI (pos : Int)) (P2 := IsI (text.length : Int)) op_ge (ex_ctx X (by walk_at "zl") F N (.head _) (.tail _ (.head _)) (by k_get) (by k_is) (by k_is) (by k_is) (by kernel_rfl) isI)
        (ex_callK (fv := .builtin "min") (ex_builtin (TB.up F.keep) (by k_is) (by kernel_rfl) (by decide) rfl (by kernel_rfl) (by kernel_rfl) (by kernel_rfl) (by kernel_rfl) (by kernel_rfl)) (drop_new (cw_builtin (exs_cons (P := IsI (text.length : Int)) (ex_ctx X (by walk_at "zl") F N (.head _) (.tail _ (.head _)) (by k_get) (by k_is) (by k_is) (by k_is) (by kernel_rfl) isI)
          (exs_cons (P := IsI (text.length : Int)) (ex_lenS (TB.up F.keep) (by walk_at "zl") (by omega) (by kernel_rfl) rfl rfl rfl) exs_nil)) fun vs new h3 le3 hn hv => by
            obtain ⟨-, v, r, rfl, hv1, v2, r2, rfl, hv2, rfl⟩ := hv
            refine (cl_min ?_ hv1 hv2).mono fun v new hv => ?_
            · exact hh
            rw [ite_self] at hv
            exact hv.2)))) ?_ ?_
      · intro hb h6 tk6 F N
        have hp : pos = text.length := by have := of_decide_eq_true hb; omega
        have hd0 : text.cps.toList.drop pos = [] := by rw [hp]; exact List.drop_of_length_le (Nat.le_of_eq (by rw [Array.length_toList]; rfl))
        rw [hd0] at sc
        obtain ⟨rfl, rfl⟩ := scan_end sc
        refine sg_stmt (st_brk ?_)
        refine sg_leave .brk ?_
        show Seg _ _ _ _ _ _ _ (.pure (.done .next)) (.ret _ _ _ _ _ _ _ :: []) _
        refine sg_leave .next ?_
        show Seg _ _ _ _ _ _ _ (leafOf (.ok (.ret .none))) [] _
        refine seg_end (.ok (.ret .none)) ⟨rfl, by rw [← hk]; rfl, ?_⟩
        rw [← hp]
        exact J.wak F N tk6
      · intro hb h6 tk6 F N
        have hp : pos < text.length := by have := of_decide_eq_false hb; omega
        have hps : pos < text.cps.toList.length := by rw [Array.length_toList]; exact hp
        have hu : text.cps.toList.drop pos = text.cps.toList[pos] :: text.cps.toList.drop (pos + 1) := List.drop_eq_getElem_cons hps
        generalize hch : text.cps.toList[pos] = ch at hu
        have hx : text.cps[pos]? = some ch := by
          rw [← Array.getElem?_toList, List.getElem?_eq_getElem hps, hch]
        have hd1 : text.cps.toList.drop (pos + 1) = text.cps.toList.drop (pos + 1) := rfl
        have nlc : (Str.ofString "\n") = ⟨#[10]⟩ := by decide +kernel
        have exch : ∀ {A' : Around} {env : Env} {h6 : Heap} {p1 p2 p3 p4 : Pos} {l : List (Str × Value)} (F : Fr gB L h6 (frm l)) (N : News gB L h6 (LG w cx dc c text pos sl vs nn oth)) (e1 : EX PG w A' (eval (.Name (Str.ofString "text") p1) env) h6 (Im (· = .str text tt))) (e2 : EX PG w A' (eval (.Name (Str.ofString "ctx") p2) env) h6 (Im (· = .ref cx))),
            EX PG w A' (eval (.Subscript (.Name (Str.ofString "text") p1) (.Attribute (.Name (Str.ofString "ctx") p2) (Str.ofString "pos") p3) p4) env) h6 (Im (IsS ⟨#[ch]⟩)) := fun F N e1 e2 => by
          refine ex_sub (P1 := (· = .str text tt)) (P2 := (· = .int pos c.pt)) e1 (ex_ctx X e2 F N (.head _) (.tail _ (.head _)) (by k_get) (by k_is) (by k_is) (by k_is) (by kernel_rfl) rfl) fun a b ha hb => ?_
          subst ha hb
          exact tl_str (by omega) (by omega) (by rw [Int.toNat_natCast]; exact hx) (by with_unfolding_all rfl)
        refine sg_ifE (b := (({ cps := #[ch] } : Str) == Str.ofString "\n")) F N (et_cmp (P1 := IsS ⟨#[ch]⟩) (P2 := IsS (Str.ofString "\n")) op_eqs (exch F N (by walk_at "zl") (by walk_at "zl")) ex_str) ?_ ?_
        · intro hb h7 tk7 F N
          have hc10 : ch = 10 := by rw [nlc] at hb; simpa using hb
          subst hc10
          obtain ⟨rest, rfl, sc'⟩ := scan_nl sc hfind hu
          subst hk
          refine sg_stmt (st_setattrD (V := fun v new => ∃ a y, v = .ref a ∧ new = [(a, lobj [y] 0)] ∧ IsS Sta.root.str y) F X N ?_ (by walk_at "zl") (.head _) (.tail _ (.head _)) (fun t v => .tail J.d1 (.head (fun q hq => ?_))) ?_ (by k_is) (by k_is) (by k_is) (by k_is) (by kernel_rfl) (Nat.le_of_ble_eq_true (by kernel_rfl)) (by kernel_rfl))
          · refine (ex_list (exs_cons (P := IsS Sta.root.str) ex_str exs_nil) (fun vs n hv => by
              obtain ⟨-, v1, r1, rfl, -, rfl⟩ := hv
              exact Nat.le_of_ble_eq_true rfl)).mono fun v new hv => ?_
            obtain ⟨a, vs, n, rfl, rfl, rfl, y, r1, rfl, hy, rfl⟩ := hv
            exact ⟨a, y, rfl, rfl, hy⟩
          · rcases List.mem_cons.mp hq with rfl | hq
            · exact Ne.symm J.d3
            · exact (J.dj q hq).2.1
          rintro v new t h8 tk8 ⟨sl', y, rfl, rfl, hy⟩ F8 N8 hn8
          have J5 := J.list N F (st' := [.root]) (vs' := [y]) (.cons hy .nil) (hn8 _ (.head _))
          have N9 : News gB L h8 (LG w cx dc c text pos sl' [y] 0 ((sl, lobj vs nn) :: oth)) := fun q hq => N8 q (by
            simp only [LG, List.mem_append, List.mem_cons, List.not_mem_nil, or_false, or_assoc] at hq ⊢
            rcases hq with e | e | e | e | e
            · simp [e]
            · subst e; exact .inr (.inr (.inl rfl))
            · simp [e]
            · simp [e]
            · simp [e])
          refine wp_nil ?_
          refine sg_stmt (st_assignI (P := (· = .ref (la .root))) F8 N9 (ex_sub (P1 := (· = .ref td)) (P2 := IsS Sta.root.str) (by walk_at "zl") ex_str fun a b ha hb => by
            subst ha
            obtain ⟨t, rfl⟩ := hb
            exact tl_dict (strKind_is PG w _ _) (dict_up LA.tab F8.keep) (tab_at la .root) rfl (by with_unfolding_all rfl)) ?_ ⟨rfl, rfl⟩ (by kernel_rfl) (by kernel_rfl))
          rintro v h9 tk9 rfl F N
          refine wp_nil ?_
          refine sg_yieldE (V := fun v new => ∃ a t1 t2, v = .ref a ∧ new = [(a, tupO [.int pos t1, .ref 93, .str ⟨#[10]⟩ t2])]) F N ?_ rfl rfl rfl ?_ rfl rfl
          · refine (ex_tuple (exs_cons (P := (· = .int pos c.pt)) (ex_ctx X (by walk_at "zl") F N (.head _) (.tail _ (.head _)) (by k_get) (by k_is) (by k_is) (by k_is) (by kernel_rfl) rfl) (exs_cons (P := (· = .ref 93)) (ex_global (TB.up F.keep) (by k_is) rfl (by kernel_rfl) (by kernel_rfl) (by kernel_rfl) (by kernel_rfl))
              (exs_cons (P := IsS (Str.ofString "\n")) ex_str exs_nil))) (fun vs n hv => by
              obtain ⟨-, v1, r1, rfl, -, v2, r2, rfl, -, v3, r3, rfl, -, rfl⟩ := hv
              exact Nat.le_of_ble_eq_true rfl)).mono fun v new hv => ?_
            obtain ⟨a, vs, n, rfl, rfl, rfl, v1, r1, rfl, rfl, v2, r2, rfl, rfl, v3, r3, rfl, ⟨tv, rfl⟩, rfl⟩ := hv
            exact ⟨a, _, tv, rfl, by rw [nlc]⟩
          rintro v new h10 tk10 kap ⟨Tv, u1, u2, rfl, rfl⟩ F10 N10 le10 fr10 hkap
          refine y_ok J5 F N le10 fr10 F10 (tok_text TB) (idx_mid hpre) fun s2 oth4 J4 F4 N4 => hkap s2 ?_
          obtain ⟨h2, g2, d2, tk2, os2⟩ := s2
          dsimp only at F4 N4
          refine sg_stmt (st_augattr (P := IsI ((pos : Int) + 1)) (P1 := IsI (pos : Int)) (P2 := IsI 1) F4 X N4 (by walk_at "zl") (ex_own F4 X (inst_mk (N4 _ (.head _)).1 (N4 _ (.tail _ (.head _))).1) (by k_is) (by k_is) (by k_is) (by k_is) (by k_get) (by kernel_rfl) isI) ex_int op_iadd (.head _) (.tail _ (.head _)) (fun t v => .tail J4.d1 (.head (fun q hq => ?_))) ?_ (by k_is) (by k_is) (by k_is) (by k_is) (by kernel_rfl) (Nat.le_of_ble_eq_true (by kernel_rfl)))
          · rcases List.mem_cons.mp hq with rfl | hq
            · exact Ne.symm J4.d3
            · exact (J4.dj q hq).2.1
          rintro v t h11 tk11 ⟨tv, rfl⟩ F5 N5
          refine wp_nil ?_
          refine sg_stmt (st_cont ?_)
          refine sg_leave .cont ?_
          exact IH rest.length (Nat.lt_succ_self _) _ _ ⟨h11, tk11, _, { c with pt := tv }, pos + 1, [.root], sl', sl', [y], 0, oth4, rest, pre ++ [⟨pos, [Str.ofString "Text"], ⟨#[10]⟩, [.root]⟩], tt, rfl, J4, F5, N5, ⟨by walk_at "lk", by walk_at "lk", by walk_at "lk", frm_head⟩, sc', by rw [hpre]; simp, rfl, by simp, by
            simp only [List.length_cons, List.length_nil] at hz ⊢; omega, hp⟩
        · intro hb h7 tk7 F N
          have hc10 : ch ≠ 10 := by intro e; rw [nlc, e] at hb; simp at hb
          obtain ⟨rest, rfl, sc'⟩ := scan_err sc hfind hu hc10
          subst hk
          refine sg_nil ?_
          refine sg_yieldE (V := fun v new => ∃ a t1 t2, v = .ref a ∧ new = [(a, tupO [.int pos t1, .ref 101, .str ⟨#[ch]⟩ t2])]) F N ?_ rfl rfl rfl ?_ rfl rfl
          · refine (ex_tuple (exs_cons (P := (· = .int pos c.pt)) (ex_ctx X (by walk_at "zl") F N (.head _) (.tail _ (.head _)) (by k_get) (by k_is) (by k_is) (by k_is) (by kernel_rfl) rfl) (exs_cons (P := (· = .ref 101)) (ex_global (TB.up F.keep) (by k_is) rfl (by kernel_rfl) (by kernel_rfl) (by kernel_rfl) (by kernel_rfl))
              (exs_cons (P := IsS ⟨#[ch]⟩) (exch F N (by walk_at "zl") (by walk_at "zl")) exs_nil))) (fun vs n hv => by
              obtain ⟨-, v1, r1, rfl, -, v2, r2, rfl, -, v3, r3, rfl, -, rfl⟩ := hv
              exact Nat.le_of_ble_eq_true rfl)).mono fun v new hv => ?_
            obtain ⟨a, vs, n, rfl, rfl, rfl, v1, r1, rfl, rfl, v2, r2, rfl, rfl, v3, r3, rfl, ⟨tv, rfl⟩, rfl⟩ := hv
            exact ⟨a, _, tv, rfl, rfl⟩
          rintro v new h10 tk10 kap ⟨Tv, u1, u2, rfl, rfl⟩ F10 N10 le10 fr10 hkap
          refine y_ok J F N le10 fr10 F10 (tok_error TB) (idx_mid hpre) fun s2 oth4 J4 F4 N4 => hkap s2 ?_
          obtain ⟨h2, g2, d2, tk2, os2⟩ := s2
          dsimp only at F4 N4
          refine sg_stmt (st_augattr (P := IsI ((pos : Int) + 1)) (P1 := IsI (pos : Int)) (P2 := IsI 1) F4 X N4 (by walk_at "zl") (ex_own F4 X (inst_mk (N4 _ (.head _)).1 (N4 _ (.tail _ (.head _))).1) (by k_is) (by k_is) (by k_is) (by k_is) (by k_get) (by kernel_rfl) isI) ex_int op_iadd (.head _) (.tail _ (.head _)) (fun t v => .tail J4.d1 (.head (fun q hq => ?_))) ?_ (by k_is) (by k_is) (by k_is) (by k_is) (by kernel_rfl) (Nat.le_of_ble_eq_true (by kernel_rfl)))
          · rcases List.mem_cons.mp hq with rfl | hq
            · exact Ne.symm J4.d3
            · exact (J4.dj q hq).2.1
          rintro v t h11 tk11 ⟨tv, rfl⟩ F5 N5
          refine wp_nil ?_
          refine sg_bK_nil ?_
          refine sg_leave .next ?_
          exact IH rest.length (Nat.lt_succ_self _) _ _ ⟨h11, tk11, l, { c with pt := tv }, pos + 1, st, sl, sl, vs, nn, oth4, rest, pre ++ [⟨pos, [Str.ofString "Error"], ⟨#[ch]⟩, st⟩], tt, rfl, J4, F5, N5, G, sc', by rw [hpre]; simp, rfl, hne, by
            simp only [List.length_cons] at hz ⊢; omega, hp⟩
    · intro i Tu hi
      obtain ⟨r, hr, a, q, pl, tok, nt, r0, t4, nv, e, RA⟩ := paired_at (LA.rls (topOf st)) hi
      cases e
      exact ⟨_, _, _, RA.tup⟩
    · intro i v hi
      obtain ⟨r, hr, a, q, pl, tok, nt, r0, t4, nv, e, RA⟩ := paired_at (LA.rls (topOf st)) hi
      exact ⟨_, e⟩
  · exact ⟨h5, tk5, _, c, pos, st, sl, sl, vs, nn, oth, rows, [], c.tt, rfl, J, F, N, ⟨by walk_at "lk", by walk_at "lk", by walk_at "lk", by walk_at "lk"⟩, sc, rfl, rfl, hst, hz, hpos⟩
end
end Mine
end
section
set_option maxRecDepth 100000
set_option linter.unusedVariables false
open PySem PySem.W PyProof.Rows PySem.Calls PySem.Spec
namespace Mine
section
variable {prog : Program} {w : World} {A : Around} {E : Value → Shared → Prop} {s : Shared}
/-- the end of a generator inside next() -/
theorem stop_gen {α β : Type} {k : α → Sem β} (hh : A.handled = none) {Q : β → Shared → Prop} {E : Value → Shared → Prop} (H : ∀ e h', (∀ b o, s.heap.get? b = some o → h'.get? b = some o) → (∃ o, h'.get? e = some o ∧ o.cls = .type "StopIteration") → E (.ref e) { s with heap := h' }) :
    wpAny (model prog w) A (newExc (.type "StopIteration") [] >>= fun e => raiseNew e >>= k) Q E s := by
  refine wpAny_bind ?_
  simp only [newExc, newTuple]
  refine wpAny_bind (wpAny_newObj_type ?_ (by size_fits))
  refine wpAny_bind (m := firstArgMember _ _) (wpAny_of_eq (a := Value.none) (by first | rfl | (simp only [firstArgMember]; rfl)) ?_)
  refine wpAny_newObj_type ?_ (by size_fits)
  unfold raiseNew
  refine wpAny_bind (wpAny_bind (wpAny_handled ?_))
  rw [hh]
  exact wpAny_throw (H _ _ (fun b o e => Heap.get?_push_of_some _ (Heap.get?_push_of_some _ e)) ⟨_, Heap.get?_push_size _ rfl, rfl⟩)
/-- next() of a generator that is a def: its state stays bare -/
theorem next_gen {a : Addr} {g n : Nat} {gs : GenState} {P : Nat → Shared → Shared → Prop} {Y : Protocol} {Q : Option Value → Shared → Prop} (hh : A.handled = none)
    (hl : s.heap.NoLimit) (hroom : A.depth < recursionLimit) (hg : s.heap.IsGen a g) (hgs : s.gens[g]? = some gs)
    (hgo : gs.Goes (model prog w) A.in1 (fun n s₀ r s₁ => r = .ok (.ret .none) ∧ P n s₀ s₁) Y n (.send .none) (s.setGen g .running))
    (hY : ∀ v s₁ gs', gs'.bare = true → Y (n - 1) (s.setGen g .running) v s₁ (fun r' s'' => match n with
        | 0 => False
        | m + 1 => gs'.Goes (model prog w) A.in1 (fun n s₀ r s₁ => r = .ok (.ret .none) ∧ P n s₀ s₁) Y m r' s'') → Q (some v) (s₁.setGen g gs'))
    (hP : ∀ s₁, P n (s.setGen g .running) s₁ → ∀ h', (∀ b o, s₁.heap.get? b = some o → h'.get? b = some o) → Q none { s₁.setGen g .finished with heap := h' }) :
    wpAny (model prog w) A (pyNext (.ref a)) Q E s := by
  unfold pyNext
  refine wpAny_bind (wpAny_attempt (wpAny_callSpecial?_slot (name := Str.ofString "__next__") hg.typeIs slot_gen_next (wpAny_call_entry slot_gen_next hg.typeIs entry_gen_next ?_ (args_gen_next _))))
  show wpAny _ A.in1 (Builtin.Generator.genWake (.ref a) (.send .none)) _ _ s
  unfold Builtin.Generator.genWake
  refine wpAny_bind (wpAny_holding (wpAny_genNumber hg (wpAny_bind (wpAny_genState hgs ?_))))
  have wake := fun {α : Type} (k : GenResult → Sem α) (Q' : α → Shared → Prop) (E' : Value → Shared → Prop) h1 h2 => wpAny_resumeQ (l := []) (k := k) (Q := Q') (E := E') hgs hgo h1 h2
  cases gs with
  | running => exact hgo.elim
  | finished => exact hgo.elim
  | fresh c =>
    refine wpAny_bind (wpAny_roomToWake hl hroom (wake _ _ _ (fun x s₁ hx => ?_) fun v s₁ gs' hb hv => wpAny_pure ⟨v, rfl, wpAny_pure (hY v s₁ gs' hb hv)⟩))
    obtain ⟨rfl, hp⟩ := hx
    refine stop_gen (A := A.in1) hh fun e h' hk ho => ?_
    obtain ⟨o, ho, hc⟩ := ho
    refine wpAny_bind (wpAny_isInstance (T := "StopIteration") (b := true) ⟨o, ho, hc⟩ isSubtype_stop ?_)
    exact wpAny_pure (hP s₁ hp _ hk)
  | suspended k l c p fs cl =>
    refine wpAny_bind (wpAny_roomToWake hl hroom (wake _ _ _ (fun x s₁ hx => ?_) fun v s₁ gs' hb hv => wpAny_pure ⟨v, rfl, wpAny_pure (hY v s₁ gs' hb hv)⟩))
    obtain ⟨rfl, hp⟩ := hx
    refine stop_gen (A := A.in1) hh fun e h' hk ho => ?_
    obtain ⟨o, ho, hc⟩ := ho
    refine wpAny_bind (wpAny_isInstance (T := "StopIteration") (b := true) ⟨o, ho, hc⟩ isSubtype_stop ?_)
    exact wpAny_pure (hP s₁ hp _ hk)
end
end Mine
end
section
set_option maxRecDepth 100000
set_option linter.unusedVariables false
open PySem PySem.W PyProof.Rows PySem.Calls PySem.Spec
namespace Mine
/-- the generator sleeps: whatever is turned in W alone, it goes on -/
def Sleeps (w : World) (A : Around) (gB : Heap) (Lg cx dc : Addr) (text : Str) (rows : List Row) (fin : List Sta) (W : List Addr) (n : Nat) (gs : GenState) (h : Heap) : Prop :=
  ∀ s : Shared, (∀ b o, b ∉ W → h.get? b = some o → s.heap.get? b = some o) → (∀ b ∈ W, ∃ o, s.heap.get? b = some o) →
    gs.Goes (model PG w) A.in1 (fun n s₀ r s₁ => r = .ok (.ret .none) ∧ GenP w Lg cx dc text fin n s₀ s₁) (GenY w gB Lg cx dc text rows W) n (.send .none) s
theorem Sleeps.mono {w : World} {A : Around} {gB : Heap} {Lg cx dc : Addr} {text : Str} {rows : List Row} {fin : List Sta} {W : List Addr} {n : Nat} {gs : GenState} {h h' : Heap} (x : Sleeps w A gB Lg cx dc text rows fin W n gs h)
    (k : ∀ b o, b ∉ W → h.get? b = some o → h'.get? b = some o) : Sleeps w A gB Lg cx dc text rows fin W n gs h' := fun s hk hW => x s (fun b o hb e => hk b o hb (k b o hb e)) hW
/-- tuples are kept -/
def TupKp (h h' : Heap) : Prop := ∀ a vs, h.IsTuple a vs → h'.IsTuple a vs
theorem TupKp.of {h h' : Heap} {X : List Addr} (k : ∀ b o, b ∉ X → h.get? b = some o → h'.get? b = some o) (hX : ∀ b ∈ X, ∀ o, h.get? b = some o → o.cls ≠ .type "tuple" ∨ ∀ xs n, o.data ≠ .seq xs n) : TupKp h h' := by
  rintro a vs ⟨o, ho, hc, n, hd⟩
  refine ⟨o, k a o (fun hm => ?_) ho, hc, n, hd⟩
  rcases hX a hm o ho with q | q
  · exact q hc
  · exact q _ _ hd
theorem ns_no_seq {h : Heap} {L : Addr} {m : Str → Option Value} (n : h.Ns L m) : ∀ o, h.get? L = some o → o.cls ≠ .type "tuple" ∨ ∀ xs k, o.data ≠ .seq xs k := by
  obtain ⟨o, es, ep, ho, hd, _⟩ := n
  intro o' ho'
  rw [ho] at ho'
  cases ho'
  exact .inr fun xs k e => by rw [hd] at e; cases e
theorem dict_no_seq {h : Heap} {a : Addr} {o : Obj} (ho : h.get? a = some o) (hc : o.cls ≠ .type "tuple" ∨ ∀ xs k, o.data ≠ .seq xs k) : ∀ o', h.get? a = some o' → o'.cls ≠ .type "tuple" ∨ ∀ xs k, o'.data ≠ .seq xs k := fun o' e => by rw [ho] at e; cases e; exact hc
theorem letOwned_gen {M : Model} {A : Around} {E : Value → Shared → Prop} {s : Shared} {a T g : Addr} {elts : List Expr} {k : Nat} {pos : Pos} {Q : Unit → Shared → Prop} (hg : s.heap.IsGen a g) (H : Q () s) : wpAny M A (letOwnedTupleGo (.Tuple elts k pos) (.ref a) (.ref T)) Q E s := by
  obtain ⟨o, nm, qn, ho, hc, hd, hsl⟩ := hg
  unfold letOwnedTupleGo
  refine wpAny_bind (wpAny_load ho ?_)
  rw [hc, hd]
  have e : (["enumerate", "zip", "dict_itemiterator", "dict_reverseitemiterator", "odict_iterator", "itertools.zip_longest", "itertools.pairwise"].contains "generator") = false := by decide
  show wpAny M A (if (["enumerate", "zip", "dict_itemiterator", "dict_reverseitemiterator", "odict_iterator", "itertools.zip_longest", "itertools.pairwise"].contains "generator" && _) = true then _ else _) Q E s
  rw [e, Bool.false_and, if_neg (by decide)]
  exact wpAny_pure H
theorem bare_set {G : Array GenState} {i : Nat} {y z : GenState} (h : AllBare G) (hz : z.bare = true) : AllBare ((G.setIfInBounds i y).setIfInBounds i z) := by
  intro x hx
  rw [Array.setIfInBounds_setIfInBounds] at hx
  rcases Array.mem_or_eq_of_mem_setIfInBounds hx with hx | rfl
  · exact h x hx
  · exact hz

structure GI (w : World) (A : Around) (h₀ : Heap) (L Lg a gi cx dc rw : Addr) (text : Str) (rows : List Row) (fin : List Sta) (ext : List (Addr × Obj)) (Inv : Nat → List (Str × Value) → List Value → Heap → Prop) (i : Nat) (st : List Sta) (pos : Nat)
    (h : Heap) (l : List (Str × Value)) (G : Array GenState) (gs : GenState) (c : CT) (sl : Addr) (vs : List Value) (nn : Nat) (rvs : List Value) (rn : Nat) : Prop where
  F : Fr h₀ L h (frm l)
  o1 : h.get? cx = some (instObj 614 dc)
  o2 : h.get? dc = some (cdict w c text pos text.length sl)
  o3 : h.get? sl = some (lobj vs nn)
  V : StkV st vs
  o4 : h.get? rw = some (lobj rvs rn)
  ex : ∀ p ∈ ext, h.get? p.1 = some p.2
  s1 : sl ≠ L
  s2 : h₀.get? sl = none
  s3 : sl ≠ rw
  s4 : ∀ p ∈ ext, p.1 ≠ sl
  ng : ∃ m, h.Ns Lg m
  ig : h.IsGen a gi
  gg : G[gi]? = some gs
  ab : AllBare G
  sg : Sleeps w A h₀ Lg cx dc text rows fin [L, rw] (rows.length - i) gs h
  iv : Inv i l rvs h
section
variable {w : World} {A : Around} {env : Env} {h h₀ : Heap} {L : Addr} {l : List (Str × Value)} {g : Array GenState} {d : Drawn} {tk : Nat} {os : OsState} {Q : Flow → Shared → Prop}
set_option maxHeartbeats 2000000
theorem st_for_gen {x1 x2 x3 : Str} {p1 p2 p3 tp pos : Pos} {kk : Nat} {iter : Expr} {body orelse rest : List Stmt} {cx dc sl rw : Addr} {text : Str} {rows : List Row} {fin st : List Sta} {c : CT} {p₀ nn rn : Nat} {vs rvs : List Value} {oth : List (Addr × Obj)} (ext : List (Addr × Obj))
    (Inv : Nat → List (Str × Value) → List Value → Heap → Prop) (invk : ∀ i l rvs h h', TupKp h h' → Inv i l rvs h → Inv i l rvs h')
    (hh : A.handled = none) (hd : A.depth < recursionLimit) (T0 : TX w h₀) (F : Fr h₀ L h (frm l)) (N : News h₀ L h (LG w cx dc c text p₀ sl vs nn ((rw, lobj rvs rn) :: oth))) (V : StkV st vs) (extm : ∀ p ∈ ext, p ∈ oth)
    (r1 : rw ≠ cx) (r2 : rw ≠ dc) (r3 : sl ≠ rw) (ed : ∀ p ∈ ext, p.1 ≠ cx ∧ p.1 ≠ dc ∧ p.1 ≠ sl ∧ p.1 ≠ rw) (h0 : ∀ h', TupKp h h' → Inv 0 l rvs h') (hb : AllBare g)
    (hit : ∀ Q' : Value → Shared → Prop, (∀ Lg a h2 tk2 gs, Le h h2 → (∀ b o, h.get? b = some o → b ≠ Lg) → Lg < a → h2.IsGen a g.size → gs.bare = true → (∃ m, h2.Ns Lg m) → Sleeps w A h₀ Lg cx dc text rows fin [L, rw] rows.length gs h2 → Q' (.ref a) ⟨h2, g.push gs, d, tk2, os⟩) →
      wpAny (model PG w) A (eval iter env) Q' (fun _ _ => False) ⟨h, g, d, tk, os⟩)
    (body_ok : ∀ i r c sl vs nn rvs rn oth h tk g l tok nt t1 t2, rows[i]? = some r → Fr h₀ L h (frm ((x3, .str r.value t2) :: (x2, .ref tok) :: (x1, .int r.place t1) :: l)) → News h₀ L h (LG w cx dc c text r.place sl vs nn ((rw, lobj rvs rn) :: oth)) → (∀ p ∈ ext, p ∈ oth) → (∀ p ∈ oth, p.1 ≠ rw) →
      (∀ b o, h.get? b = some o → h₀.get? b = none → b ≠ L → b ≠ cx → b ≠ dc → b ≠ sl → b ≠ rw → (b, o) ∈ oth) → sl ≠ rw → StkV r.stack vs → TOK w h₀ tok r.names nt → Inv i l rvs h → AllBare g →
      WP PG w A (execs body env) (fun f s' => match f with
        | .next | .cont => ∃ h' tk' l' rvs' rn' oth', s' = ⟨h', g, d, tk', os⟩ ∧ Fr h₀ L h' (frm l') ∧ News h₀ L h' (LG w cx dc c text r.place sl vs nn ((rw, lobj rvs' rn') :: oth')) ∧ (∀ p ∈ oth, p ∈ oth') ∧ Inv (i + 1) l' rvs' h'
        | .brk => thenQ PG w A env rest Q .next s'
        | .ret v => Q (.ret v) s') ⟨h, g, d, tk, os⟩)
    (end_ok : ∀ h tk g l c sl vs nn rvs rn oth, Fr h₀ L h (frm l) → News h₀ L h (LG w cx dc c text text.length sl vs nn ((rw, lobj rvs rn) :: oth)) → (∀ p ∈ ext, p ∈ oth) → StkV fin vs → Inv rows.length l rvs h → AllBare g → WP PG w A (execs orelse env) (thenQ PG w A env rest Q) ⟨h, g, d, tk, os⟩)
    (hL : LocalEnv env L) (k1 : env.kindOf x1 = some .local) (k2 : env.kindOf x2 = some .local) (k3 : env.kindOf x3 = some .local) (hs : ∀ x, foldedSetIterable iter env x = pure x := by intro _; kernel_rfl) :
    WP PG w A (execs (.For (.Tuple [.Name x1 p1, .Name x2 p2, .Name x3 p3] kk tp) iter body orelse pos :: rest) env) Q ⟨h, g, d, tk, os⟩ := by
  refine wp_cons ⟨?_⟩
  refine wpAny_For (hit _ fun Lg a h2 tk2 gs le hLg hLa hig hbare hns hsl => ?_) hs
  refine wpAny_pyIter_gen (s := ⟨h2, g.push gs, d, tk2, os⟩) hig ?_
  have q1 := N _ (.head _)
  have q2 := N _ (.tail _ (.head _))
  have q3 := N _ (.tail _ (.tail _ (.head _)))
  have q4 := N _ (.tail _ (.tail _ (.tail _ (.head _))))
  have ltg := hLg
  have lt0 : ∀ b o, h₀.get? b = some o → b ≠ L := fun b o e q => Nat.ne_of_lt (Nat.lt_of_lt_of_le (Heap.lt_size e) F.above) q
  have e1 : ∀ p ∈ ext, h.get? p.1 = some p.2 ∧ p.1 ≠ L := fun p hp => by
    have := N _ (.tail _ (.tail _ (.tail _ (.tail _ (extm p hp)))))
    exact ⟨this.1, this.2.1⟩
  have base : ∀ b o, h₀.get? b = some o → b ≠ L ∧ b ≠ Lg ∧ b ≠ cx ∧ b ≠ dc ∧ b ≠ rw := fun b o e => ⟨lt0 _ _ e, ltg _ _ (F.keep _ _ e), (fun q => by rw [q, q1.2.2] at e; cases e), (fun q => by rw [q, q2.2.2] at e; cases e), (fun q => by rw [q, q4.2.2] at e; cases e)⟩
  obtain ⟨oL, hoL⟩ := ns_isSome F.ns
  have LLg := ltg _ _ hoL
  have d1 : cx ≠ dc := fun e => by have := q1.1; rw [e, q2.1] at this; simp [cdict, dictOf] at this
  refine codeAny_forLoop_any (fun k s => ∃ i st pos h tk l G gs c sl vs nn rvs rn, k = rows.length - i ∧ i ≤ rows.length ∧ s = ⟨h, G, d, tk, os⟩ ∧ GI w A h₀ L Lg a g.size cx dc rw text rows fin ext Inv i st pos h l G gs c sl vs nn rvs rn) ?_ rows.length
    ⟨0, st, p₀, h2, tk2, l, _, gs, c, sl, vs, nn, rvs, rn, rfl, Nat.zero_le _, rfl, ⟨fr_up F le, le _ _ q1.1, le _ _ q2.1, le _ _ q3.1, V, le _ _ q4.1, fun p hp => le _ _ (e1 p hp).1, q3.2.1, q3.2.2, r3, fun p hp => (ed p hp).2.2.1, hns, hig, by simp, hb.push hbare, hsl, h0 _ fun a vs ht => tuple_up ht le⟩⟩
  have N0 := N
  clear hns hig hbare hsl h0 hb V N
  rintro k s ⟨i, st, pos, h, tk, l, G, gs, c, sl, vs, nn, rvs, rn, rfl, hi, rfl, J⟩
  have W1 : ∀ b ∈ [L, rw], ∃ o, h.get? b = some o := fun b hb => by
    rcases List.mem_cons.mp hb with rfl | hb
    · exact ns_isSome J.F.ns
    · rw [List.mem_singleton.mp hb]; exact ⟨_, J.o4⟩
  refine next_gen (s := ⟨h, G, d, tk, os⟩) hh (T0.lim.keeps J.F.keep) hd J.ig J.gg (J.sg ((⟨h, G, d, tk, os⟩ : Shared).setGen g.size .running) (fun _ _ _ e => e) W1) ?_ ?_
  · intro v s₁ gs' hbare hY
    obtain ⟨r, hr, ⟨Tv, tok, nt, t1, t2, rfl, hTn, hTt, htok⟩, hwak, hkap⟩ := hY
    obtain ⟨sl', hg1, hd1, ho1, ⟨c1', ⟨c', c2'⟩, vs', nn', c3', V'⟩, hsl', hns', hk1⟩ := hwak sl c pos _ J.o2
    obtain ⟨h1, G1, d1', tk1, os1⟩ := s₁
    dsimp only [Shared.setGen] at hg1 hd1 ho1 c1' c2' c3' hns' hk1 hTn hTt hsl' hkap
    subst hg1 hd1 ho1
    have keep1 : ∀ b o, h.get? b = some o → b ≠ Lg → b ≠ dc → b ≠ sl → h1.get? b = some o := fun b o e a1 a2 a3 => hk1 b o a1 a2 a3 e
    have tup1 : TupKp h h1 := TupKp.of (X := [Lg, dc, sl]) (fun b o hb e => keep1 b o e (fun q => hb (by simp [q])) (fun q => hb (by simp [q])) (fun q => hb (by simp [q]))) fun b hb => by
      rcases List.mem_cons.mp hb with rfl | hb
      · exact ns_no_seq J.ng.choose_spec
      rcases List.mem_cons.mp hb with rfl | hb
      · exact dict_no_seq J.o2 (.inr fun xs k e => by simp [cdict, dictOf] at e)
      · rw [List.mem_singleton.mp hb]
        exact dict_no_seq J.o3 (.inl (by simp [lobj]))
    have base1 : Le h₀ h1 := fun b o e => keep1 b o (J.F.keep _ _ e) (base b o e).2.1 (base b o e).2.2.2.1 (fun q => by have := J.s2; rw [← q, e] at this; cases this)
    obtain ⟨oL1, a1, a2, hoL1, a3⟩ := J.F.ns
    have F1 : Fr h₀ L h1 (frm l) := ⟨⟨oL1, a1, a2, keep1 _ _ hoL1 LLg (Ne.symm q2.2.1) (Ne.symm J.s1), a3⟩, base1, J.F.above⟩
    have rwk : h1.get? rw = some (lobj rvs rn) := keep1 _ _ J.o4 (ltg _ _ q4.1) r2 (Ne.symm J.s3)
    have exk : ∀ p ∈ ext, h1.get? p.1 = some p.2 := fun p hp => keep1 _ _ (J.ex p hp) (ltg _ _ (e1 p hp).1) (ed p hp).2.1 (J.s4 p hp)
    have slne : ∀ b o, h.get? b = some o → b ≠ sl → b ≠ sl' := fun b o e hb q => by
      rcases hsl' with q' | q'
      · exact hb (q.trans q')
      · rw [← q, e] at q'; cases q'
    have sl1 : sl' ≠ L := fun q => slne _ _ hoL1 (fun q' => J.s1 q'.symm) q.symm
    have sl3 : sl' ≠ rw := fun q => slne _ _ J.o4 (fun q' => J.s3 q'.symm) q.symm
    have sl4 : ∀ p ∈ ext, p.1 ≠ sl' := fun p hp => slne _ _ (J.ex p hp) (J.s4 p hp)
    have sl2 : h₀.get? sl' = none := by
      cases e : h₀.get? sl' with
      | none => rfl
      | some o => exact absurd rfl (slne sl' o (J.F.keep _ _ e) (fun q => by have := J.s2; rw [← q, e] at this; cases this))
    obtain ⟨all, hall⟩ := others h1 h₀ [L, cx, dc, sl', rw]
    have dsl : cx ≠ sl' ∧ dc ≠ sl' := ⟨fun q => by rw [q, c3'] at c1'; simp [lobj] at c1', fun q => by rw [q, c3'] at c2'; simp [lobj, cdict, dictOf] at c2'⟩
    have N1 : News h₀ L h1 (LG w cx dc c' text r.place sl' vs' nn' ((rw, lobj rvs rn) :: all)) := fun p hp => by
      rcases List.mem_cons.mp hp with rfl | hp
      · exact ⟨c1', q1.2⟩
      rcases List.mem_cons.mp hp with rfl | hp
      · exact ⟨c2', q2.2⟩
      rcases List.mem_cons.mp hp with rfl | hp
      · exact ⟨c3', sl1, sl2⟩
      rcases List.mem_cons.mp hp with rfl | hp
      · exact ⟨rwk, q4.2⟩
      have := (hall p.1 p.2).mp hp
      have h2 := this.2.2
      simp at h2
      exact ⟨this.1, h2.1, this.2.1⟩
    have hig : h1.IsGen a g.size := by
      obtain ⟨og, nm, qn, hog, hcg, r⟩ := J.ig
      refine ⟨og, nm, qn, keep1 _ _ hog (fun q => by subst q; exact Nat.lt_irrefl _ hLa) (fun q => ?_) (fun q => ?_), hcg, r⟩
      · rw [q, J.o2] at hog; cases hog; simp [cdict, dictOf] at hcg
      · rw [q, J.o3] at hog; cases hog; simp [lobj] at hcg
    show wpAny _ _ (letOwnedTupleGo _ _ _) _ _ _
    refine letOwned_gen (s := ⟨h1, _, d1', tk1, os1⟩) hig ?_
    refine as_three hh F1 N1 hTt (fun h3 tk3 F3 N3 => ?_) hL k1 k2 k3
    have keep3 : ∀ b o, b ≠ L → h1.get? b = some o → h3.get? b = some o := fun b o hb e => by
      cases e0 : h₀.get? b with
      | some o' =>
        have := base1 _ _ e0
        rw [e] at this
        rw [Option.some.inj this]
        exact F3.keep _ _ e0
      | none =>
        by_cases p1 : b = cx
        · subst p1; rw [c1'] at e; rw [← Option.some.inj e]; exact (N3 _ (.head _)).1
        by_cases p2 : b = dc
        · subst p2; rw [c2'] at e; rw [← Option.some.inj e]; exact (N3 _ (.tail _ (.head _))).1
        by_cases p3 : b = sl'
        · subst p3; rw [c3'] at e; rw [← Option.some.inj e]; exact (N3 _ (.tail _ (.tail _ (.head _)))).1
        by_cases p4 : b = rw
        · subst p4; rw [rwk] at e; rw [← Option.some.inj e]; exact (N3 _ (.tail _ (.tail _ (.tail _ (.head _))))).1
        exact (N3 _ (.tail _ (.tail _ (.tail _ (.tail _ ((hall b o).mpr ⟨e, e0, by simp [hb, p1, p2, p3, p4]⟩)))))).1
    have tup3 : TupKp h1 h3 := TupKp.of (X := [L]) (fun b o hb e => keep3 b o (by simpa using hb) e) fun b hb => by
      rw [List.mem_singleton.mp hb]; exact ns_no_seq F1.ns
    have exA : ∀ p ∈ ext, p ∈ all := fun p hp => (hall p.1 p.2).mpr ⟨exk p hp, by
      cases e : h₀.get? p.1 with
      | none => rfl
      | some o => exact absurd rfl (show p.1 ≠ p.1 from fun _ => by
          have nn1 := News.fresh (N := N0) (a := p.1) (o := p.2) (.tail _ (.tail _ (.tail _ (.tail _ (extm p hp)))))
          rw [e] at nn1; cases nn1), by simp [(e1 p hp).2, (ed p hp).1, (ed p hp).2.1, sl4 p hp, (ed p hp).2.2.2]⟩
    obtain ⟨all3, hall3⟩ := others h3 h₀ [L, cx, dc, sl', rw]
    have sub3 : ∀ p ∈ all, p ∈ all3 := fun p hp => by
      have := (hall p.1 p.2).mp hp
      have h2 := this.2.2
      simp at h2
      exact (hall3 p.1 p.2).mpr ⟨keep3 _ _ h2.1 this.1, this.2.1, by simp [h2]⟩
    have N3' : News h₀ L h3 (LG w cx dc c' text r.place sl' vs' nn' ((rw, lobj rvs rn) :: all3)) := fun p hp => by
      rcases List.mem_cons.mp hp with rfl | hp
      · exact N3 _ (.head _)
      rcases List.mem_cons.mp hp with rfl | hp
      · exact N3 _ (.tail _ (.head _))
      rcases List.mem_cons.mp hp with rfl | hp
      · exact N3 _ (.tail _ (.tail _ (.head _)))
      rcases List.mem_cons.mp hp with rfl | hp
      · exact N3 _ (.tail _ (.tail _ (.tail _ (.head _))))
      have := (hall3 p.1 p.2).mp hp
      have h2 := this.2.2
      simp at h2
      exact ⟨this.1, h2.1, this.2.1⟩
    have hlt : i < rows.length := by
      rcases Nat.lt_or_ge i rows.length with q | q
      · exact q
      · exfalso
        have z : rows.length - i = 0 := by omega
        have := hkap ⟨h1, #[], d1', tk1, os1⟩ (fun _ _ _ e => e) (fun b hb => by
          rcases List.mem_cons.mp hb with rfl | hb
          · exact ns_isSome F1.ns
          · rw [List.mem_singleton.mp hb]; exact ⟨_, rwk⟩)
        rw [z] at this
        exact this
    have hr' : rows[i]? = some r := by
      have : rows.length - 1 - (rows.length - i - 1) = i := by omega
      rw [this] at hr; exact hr
    have hab : AllBare ((G.setIfInBounds g.size .running).setIfInBounds g.size gs') := bare_set J.ab hbare
    refine wpAny_mono (body_ok i r c' sl' vs' nn' rvs rn all3 h3 tk3 _ l tok nt t1 t2 hr' F3 N3' (fun p hp => sub3 p (exA p hp)) (fun p hp => by
      have := ((hall3 p.1 p.2).mp hp).2.2
      simp at this; exact this.2.2.2.2) (fun b o e1 e2 e3 e4 e5 e6 e7 => (hall3 b o).mpr ⟨e1, e2, by simp [e3, e4, e5, e6, e7]⟩) sl3 V' htok (invk _ _ _ _ _ tup3 (invk _ _ _ _ _ tup1 J.iv)) hab).run (fun f s4 hq => ?_) fun _ _ e => e.elim
    have step : (∃ h' tk' l' rvs' rn' oth', s4 = ⟨h', ((G.setIfInBounds g.size .running).setIfInBounds g.size gs'), d1', tk', os1⟩ ∧ Fr h₀ L h' (frm l') ∧ News h₀ L h' (LG w cx dc c' text r.place sl' vs' nn' ((rw, lobj rvs' rn') :: oth')) ∧ (∀ p ∈ all3, p ∈ oth') ∧ Inv (i + 1) l' rvs' h') →
        ∃ m, m < rows.length - i ∧ ∃ i st pos h tk l G gs c sl vs nn rvs rn, m = rows.length - i ∧ i ≤ rows.length ∧ s4 = ⟨h, G, d1', tk, os1⟩ ∧ GI w A h₀ L Lg a g.size cx dc rw text rows fin ext Inv i st pos h l G gs c sl vs nn rvs rn := by
      rintro ⟨h', tk', l', rvs', rn', oth', rfl, F5, N5, hal3, hiv⟩
      have hal := fun p hp => hal3 p (sub3 p hp)
      have keep5 : ∀ b o, b ∉ [L, rw] → h1.get? b = some o → h'.get? b = some o := fun b o hb e => by
        have hb1 : b ≠ L := fun q => hb (by simp [q])
        have hb2 : b ≠ rw := fun q => hb (by simp [q])
        cases e0 : h₀.get? b with
        | some o' =>
          have := base1 _ _ e0
          rw [e] at this
          rw [Option.some.inj this]
          exact F5.keep _ _ e0
        | none =>
          by_cases p1 : b = cx
          · subst p1; rw [c1'] at e; rw [← Option.some.inj e]; exact (N5 _ (.head _)).1
          by_cases p2 : b = dc
          · subst p2; rw [c2'] at e; rw [← Option.some.inj e]; exact (N5 _ (.tail _ (.head _))).1
          by_cases p3 : b = sl'
          · subst p3; rw [c3'] at e; rw [← Option.some.inj e]; exact (N5 _ (.tail _ (.tail _ (.head _)))).1
          exact (N5 _ (.tail _ (.tail _ (.tail _ (.tail _ (hal _ ((hall b o).mpr ⟨e, e0, by simp [hb1, p1, p2, p3, hb2]⟩))))))).1
      have hn1 : rows.length - i = (rows.length - (i + 1)) + 1 := by omega
      refine ⟨rows.length - (i + 1), by omega, i + 1, r.stack, r.place, h', tk', l', _, gs', c', sl', vs', nn', rvs', rn', rfl, hlt, rfl, ⟨F5, (N5 _ (.head _)).1, (N5 _ (.tail _ (.head _))).1, (N5 _ (.tail _ (.tail _ (.head _)))).1, V', (N5 _ (.tail _ (.tail _ (.tail _ (.head _))))).1,
        fun p hp => (N5 _ (.tail _ (.tail _ (.tail _ (.tail _ (hal _ (exA p hp))))))).1, sl1, sl2, sl3, sl4, ?_, ?_, ?_, hab, ?_, hiv⟩⟩
      · obtain ⟨mg, og, es, ep, hog, rg⟩ := hns'
        exact ⟨mg, og, es, ep, keep5 _ _ (by simp [Ne.symm LLg, Ne.symm (ltg _ _ q4.1)]) hog, rg⟩
      · obtain ⟨og, nm, qn, hog, hcg, rg⟩ := hig
        refine ⟨og, nm, qn, keep5 _ _ (fun hm => ?_) hog, hcg, rg⟩
        rcases List.mem_cons.mp hm with q | hm
        · obtain ⟨oL1', es', ep', hoL1', hd', _⟩ := F1.ns
          rw [q, hoL1'] at hog
          cases hog
          rw [hd'] at rg
          cases rg.1
        · rw [List.mem_singleton.mp hm, rwk] at hog
          cases hog
          simp [lobj] at hcg
      · have hsz : g.size < G.size := (Array.getElem?_eq_some_iff.mp J.gg).1
        simp [hsz]
      · refine Sleeps.mono (h := h1) (fun s hk hW => ?_) keep5
        have z := hkap s hk hW
        rw [hn1] at z
        exact z
    cases f with
    | next => exact step hq
    | cont => exact step hq
    | brk => exact hq
    | ret v => exact hq
  · rintro s₁ ⟨hn0, hw⟩ h' hk'
    obtain ⟨sl', hg1, hd1, ho1, ⟨e1', ⟨c', c2'⟩, vs', nn', c3', V'⟩, hsl', hns', hk1⟩ := hw sl c pos _ J.o2
    obtain ⟨hq, G1, d1', tk1, os1⟩ := s₁
    dsimp only [Shared.setGen] at hg1 hd1 ho1 e1' c2' c3' hns' hk1 hsl' hk'
    subst hg1 hd1 ho1
    replace e1' := hk' _ _ e1'
    replace c2' := hk' _ _ c2'
    replace c3' := hk' _ _ c3'
    have keepE : ∀ b o, h.get? b = some o → b ≠ Lg → b ≠ dc → b ≠ sl → h'.get? b = some o := fun b o e a1 a2 a3 => hk' _ _ (hk1 b o a1 a2 a3 e)
    have tupE : TupKp h h' := TupKp.of (X := [Lg, dc, sl]) (fun b o hb e => keepE b o e (fun q => hb (by simp [q])) (fun q => hb (by simp [q])) (fun q => hb (by simp [q]))) fun b hb => by
      rcases List.mem_cons.mp hb with rfl | hb
      · exact ns_no_seq J.ng.choose_spec
      rcases List.mem_cons.mp hb with rfl | hb
      · exact dict_no_seq J.o2 (.inr fun xs k e => by simp [cdict, dictOf] at e)
      · rw [List.mem_singleton.mp hb]
        exact dict_no_seq J.o3 (.inl (by simp [lobj]))
    have baseE : Le h₀ h' := fun b o e => keepE b o (J.F.keep _ _ e) (base b o e).2.1 (base b o e).2.2.2.1 (fun q => by have := J.s2; rw [← q, e] at this; cases this)
    obtain ⟨oL1, a1, a2, hoL1, a3⟩ := J.F.ns
    have FE : Fr h₀ L h' (frm l) := ⟨⟨oL1, a1, a2, keepE _ _ hoL1 LLg (Ne.symm q2.2.1) (Ne.symm J.s1), a3⟩, baseE, J.F.above⟩
    have rwk : h'.get? rw = some (lobj rvs rn) := keepE _ _ J.o4 (ltg _ _ q4.1) r2 (Ne.symm J.s3)
    have exk : ∀ p ∈ ext, h'.get? p.1 = some p.2 := fun p hp => keepE _ _ (J.ex p hp) (ltg _ _ (e1 p hp).1) (ed p hp).2.1 (J.s4 p hp)
    have slne : ∀ b o, h.get? b = some o → b ≠ sl → b ≠ sl' := fun b o e hb q => by
      rcases hsl' with q' | q'
      · exact hb (q.trans q')
      · rw [← q, e] at q'; cases q'
    have sl1 : sl' ≠ L := fun q => slne _ _ hoL1 (fun q' => J.s1 q'.symm) q.symm
    have sl3 : sl' ≠ rw := fun q => slne _ _ J.o4 (fun q' => J.s3 q'.symm) q.symm
    have sl4 : ∀ p ∈ ext, p.1 ≠ sl' := fun p hp => slne _ _ (J.ex p hp) (J.s4 p hp)
    have sl2 : h₀.get? sl' = none := by
      cases e : h₀.get? sl' with
      | none => rfl
      | some o => exact absurd rfl (slne sl' o (J.F.keep _ _ e) (fun q => by have := J.s2; rw [← q, e] at this; cases this))
    obtain ⟨all, hall⟩ := others h' h₀ [L, cx, dc, sl', rw]
    have dsl : cx ≠ sl' ∧ dc ≠ sl' := ⟨fun q => by rw [q, c3'] at e1'; simp [lobj] at e1', fun q => by rw [q, c3'] at c2'; simp [lobj, cdict, dictOf] at c2'⟩
    have NE : News h₀ L h' (LG w cx dc c' text text.length sl' vs' nn' ((rw, lobj rvs rn) :: all)) := fun p hp => by
      rcases List.mem_cons.mp hp with rfl | hp
      · exact ⟨e1', q1.2⟩
      rcases List.mem_cons.mp hp with rfl | hp
      · exact ⟨c2', q2.2⟩
      rcases List.mem_cons.mp hp with rfl | hp
      · exact ⟨c3', sl1, sl2⟩
      rcases List.mem_cons.mp hp with rfl | hp
      · exact ⟨rwk, q4.2⟩
      have := (hall p.1 p.2).mp hp
      have h2 := this.2.2
      simp at h2
      exact ⟨this.1, h2.1, this.2.1⟩
    have hin : i = rows.length := by omega
    subst hin
    have hab : AllBare ((G.setIfInBounds g.size .running).setIfInBounds g.size .finished) := bare_set J.ab rfl
    have exA : ∀ p ∈ ext, p ∈ all := fun p hp => (hall p.1 p.2).mpr ⟨exk p hp, by
      cases e : h₀.get? p.1 with
      | none => rfl
      | some o => exact absurd rfl (show p.1 ≠ p.1 from fun _ => by
          have nn1 := News.fresh (N := N0) (a := p.1) (o := p.2) (.tail _ (.tail _ (.tail _ (.tail _ (extm p hp)))))
          rw [e] at nn1; cases nn1), by simp [(e1 p hp).2, (ed p hp).1, (ed p hp).2.1, sl4 p hp, (ed p hp).2.2.2]⟩
    have z := end_ok h' tk1 _ l c' sl' vs' nn' rvs rn all FE NE exA V' (invk _ _ _ _ _ tupE J.iv) hab
    exact wpAny_mono z.run (fun f s3 q => q) fun _ _ e => e.elim
end
end Mine
end
section
set_option maxRecDepth 100000
set_option linter.unusedVariables false
open PySem PySem.W PyProof.Rows PySem.Calls PySem.Spec
namespace Mine
local macro_rules | `(tactic| walk_at "lk") => `(tactic| repeat (first | with_reducible exact frm_head | with_reducible assumption | with_reducible refine frm_tail (by kernel_rfl) ?_))
local macro_rules | `(tactic| walk_at "zl") => `(tactic| (refine ex_local (Fr.ns (by assumption)) (by walk_at "lk") ?_ (by kernel_rfl) (by kernel_rfl) (by kernel_rfl); first | exact isI | exact isS | exact isB | rfl))
section
variable {prog : Program} {w : World} {A : Around} {h : Heap} {env : Env} {P : Value → Prop}
theorem ex_orF {x y : Expr} {pos : Pos} {P1 : Value → Prop} {V : Value → List (Addr × Obj) → Prop} (h1 : EX prog w A (eval x env) h (Im P1)) (ht : ∀ v, P1 v → EX prog w A (truthy v) h (Im (· = false)))
    (h2 : EX prog w A (eval y env) h V) : EX prog w A (eval (.BoolOp .Or [x, y] pos) env) h V := by
  refine ⟨fun h1' g d tk os Q E le H => ?_⟩
  with_reducible refine wpAny_Or2 (h1.run h1' g d tk os _ E le fun v n h2' tk2 l2 f2 hv => (ht v hv.2).run h2' g d tk2 os _ E (le.trans l2) fun c n3 h3' tk3 l3 f3 hc => ?_)
  rw [hc.2, if_neg (by decide)]
  exact h2.run h3' g d tk3 os Q E ((le.trans l2).trans l3) fun y n4 h4 tk4 l4 f4 hy => H y n4 h4 tk4 ((l2.trans l3).trans l4) (fun p hp => ⟨(f4 p hp).1, (l2.trans l3).none (f4 p hp).2⟩) hy
theorem tr_list {a : Addr} {its : Array Value} {b : Bool} (hl : h.IsList a its) (hb : (!its.isEmpty) = b) (hz : its.size < 2 ^ 63) : EX prog w A (truthy (.ref a)) h (Im (· = b)) := ⟨fun h1 g d tk os Q E le H => by
  have hl' := list_up hl le
  exact wpAny_truthy_list (s := ⟨h1, g, d, tk, os⟩) hl' (by omega) (H _ [] _ _ Le.refl Fresh.nil ⟨rfl, hb⟩)⟩
end
section
variable {w : World} {A : Around} {h : Heap}
set_option maxHeartbeats 4000000
theorem mk_ctx0 {text : Str} {tt pt : Tok} (T : TX w h) (hd : A.depth + 5 < recursionLimit) (hz : text.length < 1000) :
    EX PG w A (call (.ref 614) [.str text tt, .int 0 pt]) h (fun v new => ∃ cx dc sl c y, v = .ref cx ∧ new = [(cx, instObj 614 dc), (dc, cdict w c text (0 : Nat) text.length sl), (sl, lobj [y] 0)] ∧ IsS Sta.root.str y) := by
  refine ex_make (bindsX := fun x => [(Str.ofString "self", .ref x), (Str.ofString "text", .str text tt), (Str.ofString "pos", .int 0 pt), (Str.ofString "stack", .none), (Str.ofString "end", .none)]) T.X T.lim (by k_is) (by k_is) (by k_is) (by k_is) (by k_is) (by rw [depth_under_make]; omega) (fun x s X => binds_K X rfl (by k_is) rfl rfl rfl) (fun x => locs rfl) ?_ (by decide) rfl rfl rfl
  intro h1 x dx L' hh' g d tk os le hdx hxL F N
  change Fr _ _ _ (frm [(Str.ofString "end", _), (Str.ofString "stack", _), (Str.ofString "pos", _), (Str.ofString "text", _), (Str.ofString "self", _)]) at F
  have X1 := (T.up le).X
  refine st_setattr F X1 N (V := Im (fun v => v = _)) (by walk_at "zl") (by walk_at "zl") (.head _) (.tail _ (.head _)) (fun t v => .tail (Nat.ne_of_gt hdx) (.head (fun _ hp => nomatch hp))) ?_ (by k_is) (by k_is) (by k_is) (by k_is) (by kernel_rfl) (Nat.le_of_ble_eq_true (by kernel_rfl)) (by kernel_rfl)
  rintro v new t1 h2 tk2 ⟨rfl, rfl⟩ F N
  refine st_setattr F X1 N (V := Im (fun v => v = _)) (by walk_at "zl") (by walk_at "zl") (.head _) (.tail _ (.head _)) (fun t v => .tail (Nat.ne_of_gt hdx) (.head (fun _ hp => nomatch hp))) ?_ (by k_is) (by k_is) (by k_is) (by k_is) (by kernel_rfl) (Nat.le_of_ble_eq_true (by kernel_rfl)) (by kernel_rfl)
  rintro v new t2 h3 tk3 ⟨rfl, rfl⟩ F N
  refine st_setattr F X1 N (V := Im (IsI text.length)) (ex_orF (P1 := (· = .none)) (by walk_at "zl") (fun v hv => by subst hv; exact tr_none) (ex_lenS ((T.up le).up F.keep) (by walk_at "zl") (by omega) (by kernel_rfl) rfl rfl rfl)) (by walk_at "zl") (.head _) (.tail _ (.head _)) (fun t v => .tail (Nat.ne_of_gt hdx) (.head (fun _ hp => nomatch hp))) ?_ (by k_is) (by k_is) (by k_is) (by k_is) (by kernel_rfl) (Nat.le_of_ble_eq_true (by kernel_rfl)) (by kernel_rfl)
  rintro v new t3 h4 tk4 ⟨rfl, et, rfl⟩ F N
  refine st_setattr F X1 N (V := fun v new => ∃ a y, v = .ref a ∧ new = [(a, lobj [y] 0)] ∧ IsS Sta.root.str y) (ex_orF (P1 := (· = .none)) (by walk_at "zl") (fun v hv => by subst hv; exact tr_none) ?_) (by walk_at "zl") (.head _) (.tail _ (.head _)) (fun t v => .tail (Nat.ne_of_gt hdx) (.head (fun _ hp => nomatch hp))) ?_ (by k_is) (by k_is) (by k_is) (by k_is) (by kernel_rfl) (Nat.le_of_ble_eq_true (by kernel_rfl)) (by kernel_rfl)
  · refine (ex_list (exs_cons (P := IsS Sta.root.str) ex_str exs_nil) (fun vs n hv => by
      obtain ⟨-, v1, r1, rfl, -, rfl⟩ := hv
      exact Nat.le_of_ble_eq_true rfl)).mono fun v new hv => ?_
    obtain ⟨a, vs, n, rfl, rfl, rfl, y, r1, rfl, hy, rfl⟩ := hv
    exact ⟨a, y, rfl, rfl, hy⟩
  rintro v new t4 h5 tk5 ⟨sl, y, rfl, rfl, hy⟩ F N
  refine wp_nil ⟨rfl, ret_of F N (new := [(x, instObj 614 dx), (dx, cdict w ⟨t1, t2, t3, t4, tt, pt, et⟩ text (0 : Nat) text.length sl), (sl, lobj [y] 0)]) (fun q hq => ?_) ⟨x, dx, sl, _, y, rfl, rfl, hy⟩⟩
  rcases List.mem_cons.mp hq with rfl | hq
  · exact .tail _ (.head _)
  rcases List.mem_cons.mp hq with rfl | hq
  · exact .tail _ (.tail _ (.head _))
  · rw [List.mem_singleton.mp hq]; exact .head _
theorem mk_ctx1 {text : Str} {place : Nat} {tt pt : Tok} {sl : Addr} {vs : List Value} {nn : Nat} (T : TX w h) (hd : A.depth + 5 < recursionLimit) (hz : text.length < 1000) (hs : h.get? sl = some (lobj vs nn)) (hv : vs ≠ []) (hvz : vs.length ≤ 1000) :
    EX PG w A (call (.ref 614) [.str text tt, .int place pt, .ref sl]) h (fun v new => ∃ cx dc c, v = .ref cx ∧ new = [(cx, instObj 614 dc), (dc, cdict w c text place text.length sl)]) := by
  refine ex_make (bindsX := fun x => [(Str.ofString "self", .ref x), (Str.ofString "text", .str text tt), (Str.ofString "pos", .int place pt), (Str.ofString "stack", .ref sl), (Str.ofString "end", .none)]) T.X T.lim (by k_is) (by k_is) (by k_is) (by k_is) (by k_is) (by rw [depth_under_make]; omega) (fun x s X => binds_K X rfl (by k_is) rfl rfl rfl) (fun x => locs rfl) ?_ (by decide) rfl rfl rfl
  intro h1 x dx L' hh' g d tk os le hdx hxL F N
  change Fr _ _ _ (frm [(Str.ofString "end", _), (Str.ofString "stack", _), (Str.ofString "pos", _), (Str.ofString "text", _), (Str.ofString "self", _)]) at F
  have X1 := (T.up le).X
  refine st_setattr F X1 N (V := Im (fun v => v = _)) (by walk_at "zl") (by walk_at "zl") (.head _) (.tail _ (.head _)) (fun t v => .tail (Nat.ne_of_gt hdx) (.head (fun _ hp => nomatch hp))) ?_ (by k_is) (by k_is) (by k_is) (by k_is) (by kernel_rfl) (Nat.le_of_ble_eq_true (by kernel_rfl)) (by kernel_rfl)
  rintro v new t1 h2 tk2 ⟨rfl, rfl⟩ F N
  refine st_setattr F X1 N (V := Im (fun v => v = _)) (by walk_at "zl") (by walk_at "zl") (.head _) (.tail _ (.head _)) (fun t v => .tail (Nat.ne_of_gt hdx) (.head (fun _ hp => nomatch hp))) ?_ (by k_is) (by k_is) (by k_is) (by k_is) (by kernel_rfl) (Nat.le_of_ble_eq_true (by kernel_rfl)) (by kernel_rfl)
  rintro v new t2 h3 tk3 ⟨rfl, rfl⟩ F N
  refine st_setattr F X1 N (V := Im (IsI text.length)) (ex_orF (P1 := (· = .none)) (by walk_at "zl") (fun v hv => by subst hv; exact tr_none) (ex_lenS ((T.up le).up F.keep) (by walk_at "zl") (by omega) (by kernel_rfl) rfl rfl rfl)) (by walk_at "zl") (.head _) (.tail _ (.head _)) (fun t v => .tail (Nat.ne_of_gt hdx) (.head (fun _ hp => nomatch hp))) ?_ (by k_is) (by k_is) (by k_is) (by k_is) (by kernel_rfl) (Nat.le_of_ble_eq_true (by kernel_rfl)) (by kernel_rfl)
  rintro v new t3 h4 tk4 ⟨rfl, et, rfl⟩ F N
  refine st_setattr F X1 N (V := Im (fun v => v = .ref sl)) (ex_or (P1 := (· = .ref sl)) (b := true) (by walk_at "zl") (fun v hv' => by
      subst hv'
      refine tr_list (its := vs.toArray) ⟨_, F.keep _ _ (le _ _ hs), rfl, nn, rfl⟩ ?_ (by rw [List.size_toArray]; omega)
      cases vs with
      | nil => exact absurd rfl hv
      | cons a b => simp) (fun e => nomatch e) fun _ v hv => hv) (by walk_at "zl") (.head _) (.tail _ (.head _)) (fun t v => .tail (Nat.ne_of_gt hdx) (.head (fun _ hp => nomatch hp))) ?_ (by k_is) (by k_is) (by k_is) (by k_is) (by kernel_rfl) (Nat.le_of_ble_eq_true (by kernel_rfl)) (by kernel_rfl)
  rintro v new t4 h5 tk5 ⟨rfl, rfl⟩ F N
  exact wp_nil ⟨rfl, ret_of F N (new := [(x, instObj 614 dx), (dx, cdict w ⟨t1, t2, t3, t4, tt, pt, et⟩ text place text.length sl)]) (fun q hq => hq) ⟨x, dx, _, rfl, rfl⟩⟩
end
end Mine
end
section
set_option maxRecDepth 100000
set_option linter.unusedVariables false
open PySem PySem.W PyProof.Rows PySem.Calls PySem.Spec
namespace Mine
/-- all but the frame is kept, told by a ledger -/
theorem snap {h₀ h : Heap} {L : Addr} {m : Str → Option Value} (F : Fr h₀ L h m) : ∃ all, News h₀ L h all ∧ ∀ h' m', Fr h₀ L h' m' → News h₀ L h' all → ∀ b o, b ≠ L → h.get? b = some o → h'.get? b = some o := by
  obtain ⟨all, ha⟩ := others h h₀ [L]
  refine ⟨all, fun p hp => ?_, fun h' m' F' N' b o hb e => ?_⟩
  · have := (ha p.1 p.2).mp hp
    exact ⟨this.1, by simpa using this.2.2, this.2.1⟩
  · cases e0 : h₀.get? b with
    | some o' =>
      have := F.keep _ _ e0
      rw [e] at this
      rw [Option.some.inj this]
      exact F'.keep _ _ e0
    | none => exact (N' _ ((ha b o).mpr ⟨e, e0, by simpa using hb⟩)).1
def SeqKp (h h' : Heap) : Prop := ∀ a o xs n, h.get? a = some o → o.data = .seq xs n → h'.get? a = some o
theorem SeqKp.tup {h h' : Heap} (k : SeqKp h h') : TupKp h h' := fun a vs ⟨o, ho, hc, n, hd⟩ => ⟨o, k a o vs n ho hd, hc, n, hd⟩
theorem SeqKp.list {h h' : Heap} (k : SeqKp h h') {a : Addr} {vs : Array Value} (x : h.IsList a vs) : h'.IsList a vs := let ⟨o, ho, hc, n, hd⟩ := x; ⟨o, k a o vs n ho hd, hc, n, hd⟩
theorem SeqKp.of {h h' : Heap} {L : Addr} {m : Str → Option Value} (n : h.Ns L m) (k : ∀ b o, b ≠ L → h.get? b = some o → h'.get? b = some o) : SeqKp h h' := fun a o xs c ho hd => k a o (fun q => by
  obtain ⟨oL, es, ep, hL, hLd, _⟩ := n
  rw [q, hL] at ho
  cases ho
  rw [hLd] at hd; cases hd) ho
theorem SeqKp.le {h h' : Heap} (l : Le h h') : SeqKp h h' := fun a o _ _ ho _ => l a o ho
theorem SeqKp.trans {a b c : Heap} (x : SeqKp a b) (y : SeqKp b c) : SeqKp a c := fun p o xs n ho hd => y p o xs n (x p o xs n ho hd) hd

/-- a row as the reader keeps it -/
def RowV (h : Heap) (r : Row) (v : Value) : Prop := ∃ a nt sa t1 t2 nvs svs, v = .ref a ∧ h.IsTuple a #[.int r.place t1, .ref nt, .str r.value t2, .ref sa] ∧ h.IsTuple nt nvs.toArray ∧ Strs r.names nvs ∧ h.IsTuple sa svs.toArray ∧ StkV r.stack svs
theorem RowV.up {h h' : Heap} {r : Row} {v : Value} (k : TupKp h h') (x : RowV h r v) : RowV h' r v := let ⟨a, nt, sa, t1, t2, nvs, svs, e, p, q, s, t, u⟩ := x; ⟨a, nt, sa, t1, t2, nvs, svs, e, k _ _ p, k _ _ q, s, k _ _ t, u⟩
theorem paired_up {h h' : Heap} {rs : List Row} {vs : List Value} (k : TupKp h h') (p : Paired (RowV h) rs vs) : Paired (RowV h') rs vs := paired_mono (fun _ _ q => q.up k) p

section
variable {prog : Program} {w : World} {A : Around} {h : Heap} {K : Frag} {name qual : Str} {params : Arguments} {body : List Stmt} {scope : Scope} {dV kV doc pm cdv ct oc : Value} {an od : Option Addr} {osl : Array (Option Value)} {f : Addr} {args : Args} {binds : List (Str × Value)}
  {g : Array GenState} {d : Drawn} {tk : Nat} {os : OsState} {Q : Value → Shared → Prop} {E : Value → Shared → Prop}
/-- a call of a def that may turn generators -/
theorem call_defG {pos : List Value} {kw : List (Str × Value)} (X₀ : K.In h) (hl : h.NoLimit)
    (ho : K.lookup f = some ⟨oc, od, .func (fnOf name qual params body scope dV kV doc pm an cdv ct), osl⟩) (hcd : codeIn K cdv qual = true) (hroom : A.depth < recursionLimit)
    (hbind : ∀ s : Shared, K.In s.heap → BindsTo s (fnOf name qual params body scope dV kV doc pm an cdv ct) ⟨pos, kw⟩ binds) (hloc : ∀ y ∈ binds, scope.names.lookup y.1 = some .local)
    (hb : ∀ L' hh tk, Fr h L' hh (frm binds.reverse) → WP prog w (A.deeper (envOf qual scope L' f cdv)) (execs body (envOf qual scope L' f cdv)) (fun fl s' => Q (retv fl) s') ⟨hh, g, d, tk, os⟩)
    (hcell : ∀ x ∈ scope.names, x.2 ≠ .cell)
    (hco : scope.isCoroutine = false) (hgen : scope.isGenerator = false) (hk : scope.kind = .function) : wpAny (model prog w) A (call (.ref f) pos kw) Q E ⟨h, g, d, tk, os⟩ := by
  with_reducible refine wpAny_call ?_
  refine (codeAny_call_def (fd := fnOf name qual params body scope dV kV doc pm an cdv ct) (body := body) (binds := binds) hroom (X₀ _ _ ho) rfl hl (codeRec_of X₀ hcd) rfl (hbind _ X₀) hcell hloc (fun h₁ hns hk₁ => ?_) hco hgen hk)
  refine wpAny_mono (hb _ h₁ _ ⟨hns, hk₁, Nat.le_refl _⟩).run (fun fl s' hr => ?_) fun _ _ y => y.elim
  cases fl <;> exact hr
/-- the same with cells -/
theorem call_defCG {pos : List Value} {kw : List (Str × Value)} (X₀ : K.In h) (hl : h.NoLimit)
    (ho : K.lookup f = some ⟨oc, od, .func (fnOf name qual params body scope dV kV doc pm an cdv ct), osl⟩) (hcd : codeIn K cdv qual = true) (hroom : A.depth < recursionLimit)
    (hbind : ∀ s : Shared, K.In s.heap → BindsTo s (fnOf name qual params body scope dV kV doc pm an cdv ct) ⟨pos, kw⟩ binds) (hkind : (binds.all fun y => scope.names.lookup y.1 == some .local || scope.names.lookup y.1 == some .cell) = true)
    (hnd : ((cellsFrom 0 scope.names []).map (·.1)).Nodup)
    (hb : ∀ L' hh tk cells, Fr h L' hh (bindL (envOfC qual scope L' f cdv).kindOf binds fun _ => none) → News h L' hh cells → CellsAre (bindC (envOfC qual scope L' f cdv).kindOf binds fun _ => none) (cellsFrom (L' + 1) scope.names []) cells →
      WP prog w (A.deeper (envOfC qual scope L' f cdv)) (execs body (envOfC qual scope L' f cdv)) (fun fl s' => Q (retv fl) s') ⟨hh, g, d, tk, os⟩)
    (hco : scope.isCoroutine = false) (hgen : scope.isGenerator = false) (hk : scope.kind = .function) : wpAny (model prog w) A (call (.ref f) pos kw) Q E ⟨h, g, d, tk, os⟩ := by
  with_reducible refine wpAny_call ?_
  refine codeAny_call_function hroom (X₀ _ _ ho) rfl hco hgen rfl (codeRec_of X₀ hcd) (hbind _ X₀ _ _ _ _ ?_)
  refine wpAny_newFunctionEnv_cells hk (kindsX hkind _) fun env' he s' x => ?_
  subst he
  refine ⟨hl.keeps x.toInCall.keep, codeAny_func ?_⟩
  obtain ⟨h₁, tk, rfl, _⟩ := x.done
  obtain ⟨cells, NC, Y⟩ := Cl.news (h₀ := h) (Nat.le_refl _) fun n c hm => ⟨x.cell n c (lookup_of_mem_nodup (cellsFrom_names scope.names 0 (h.objs.size + 1) [] [] rfl ▸ hnd) hm), x.above n c hm⟩
  refine wpAny_mono (hb h.objs.size h₁ tk cells ⟨x.toInCall.ns, x.toInCall.keep, Nat.le_refl _⟩ NC Y).run (fun fl s' hr => ?_) fun _ _ y => y.elim
  cases fl <;> exact hr
end
section
variable {prog : Program} {w : World} {A : Around} {h : Heap} {env : Env} {h₀ : Heap} {L : Addr} {m : Str → Option Value} {l : List (Str × Value)} {news : List (Addr × Obj)}
  {g : Array GenState} {d : Drawn} {tk : Nat} {os : OsState} {E : Value → Shared → Prop} {Q : Flow → Shared → Prop}
/-- a, b = (e1, e2), the stores behind -/
theorem st_pair {a b : Str} {pa pb tp p2 pos : Pos} {k k2 : Nat} {e1 e2 : Expr} {rest : List Stmt} {V : Value → Value → List (Addr × Obj) → Prop} (hh : A.handled = none) (F : Fr h₀ L h (frm l)) (N : News h₀ L h news)
    (he : EX prog w A (eval (.Tuple [e1, e2] k2 p2) env) h (fun v new => ∃ T v1 v2 n, v = .ref T ∧ new = (T, tupO [v1, v2]) :: n ∧ V v1 v2 n))
    (H : ∀ v1 v2 n h' tk', V v1 v2 n → Fr h₀ L h' (frm ((a, v1) :: (b, v2) :: l)) → News h₀ L h' (n ++ news) → (∀ p ∈ n, ∀ q ∈ news, p.1 ≠ q.1) → WP prog w A (execs rest env) Q ⟨h', g, d, tk', os⟩)
    (hL : LocalEnv env L) (ha : env.kindOf a = some .local) (hb : env.kindOf b = some .local) (hs : swapsWithSole [.Tuple [.Name a pa, .Name b pb] k tp] (.Tuple [e1, e2] k2 p2) pos.line env = pure false)
    (hw : swappedStores [.Tuple [.Name a pa, .Name b pb] k tp] (.Tuple [e1, e2] k2 p2) env = pure (some [a, b])) :
    WP prog w A (execs (.Assign [.Tuple [.Name a pa, .Name b pb] k tp] (.Tuple [e1, e2] k2 p2) pos :: rest) env) Q ⟨h, g, d, tk, os⟩ := by
  refine wp_cons ⟨?_⟩
  refine Assign_Tuple_swapped (names := [a, b]) (he.at fun v new h2 tk2 l2 f2 hv => ?_) hs hw
  obtain ⟨T, v1, v2, n, rfl, rfl, hV⟩ := hv
  have F2 := fr_up F l2
  have N2 := nw_add F N l2 f2
  refine unpackItemsN_ (s := ⟨h2, g, d, tk2, os⟩) F2 N2 ⟨_, (f2 _ (.head _)).1, rfl, _, rfl⟩ hh rfl fun h' F' N' => ?_
  show wpAny _ _ (holding [v1] (bindName env b v2) >>= fun _ => holding [] (bindName env a v1) >>= fun _ => pure ()) _ _ _
  refine wpAny_bind (wpAny_holding (bindName_ (st_store F' N' (fun h3 tk3 F3 N3 _ => ?_) hL hb)))
  refine wpAny_bind (wpAny_holding (bindName_ (st_store F3 N3 (fun h4 tk4 F4 N4 _ => ?_) hL ha)))
  refine wpAny_pure (H v1 v2 n h4 tk4 hV F4 (fun q hq => N4 q ?_) fun p hp q hq e => ?_).run
  · rcases List.mem_append.mp hq with hq | hq
    · exact List.mem_append_left _ (.tail _ hq)
    · exact List.mem_append_right _ hq
  · have := (f2 p (.tail _ hp)).2
    rw [e, (N q hq).1] at this; cases this
/-- xs.append(e) -/
theorem st_append {o e : Expr} {ap cp pos : Pos} {rest : List Stmt} {D : Addr} {its : List Value} {n : Nat} {VA : Value → List (Addr × Obj) → Prop} {news' : Value → List (Addr × Obj)} (F : Fr h₀ L h m) (N : News h₀ L h news)
    (ho : EX prog w A (eval o env) h (Im (· = .ref D))) (hm : (D, lobj its n) ∈ news) (he : EX prog w A (eval e env) h VA) (hz : its.length ≤ 1000) (U : ∀ v, Upd D (lobj its n) (lobj (its ++ [v]) (n + 1)) news (news' v))
    (H : ∀ v new h' tk', VA v new → Fr h₀ L h' m → News h₀ L h' (new ++ news' v) → (∀ p ∈ new, ∀ q ∈ news, p.1 ≠ q.1) → WP prog w A (execs rest env) Q ⟨h', g, d, tk', os⟩)
    (hr : MCall o (Str.ofString "append") ap cp [e] env) (hse : starEach [e] env = [(false, eval e env)]) (hi : interactive env = false) (hs : swapsWith (.Call (.Attribute o (Str.ofString "append") ap) [e] [] cp) none pos.line env = pure false) :
    WP prog w A (execs (.Expr (.Call (.Attribute o (Str.ofString "append") ap) [e] [] cp) pos :: rest) env) Q ⟨h, g, d, tk, os⟩ := by
  refine wp_cons ⟨?_⟩
  refine wpAny_Expr_any ?_ hi hs
  refine MethodCall_ (pl := plOf o env) (ho.at fun a n1 h1 tk1 l1 f1 ha => ?_) hr
  rw [ha.2]
  refine (gm_append (N _ hm).1).run h1 g d tk1 os _ _ l1 fun fx n2 h2 tk2 l2 f2 hfx => ?_
  rw [hfx.2]
  refine PyProof.Rows.callWith_method1 ?_ hse rfl
  refine (exs_one he hse).run h2 g d tk2 os _ _ (l1.trans l2) fun vs new h3 tk3 l3 f3 hvs => ?_
  obtain ⟨v, rfl, hv⟩ := hvs
  have lz := (l1.trans l2).trans l3
  have F3 := fr_up F lz
  have fz : Fresh h h3 new := fun p hp => ⟨(f3 p hp).1, (l1.trans l2).none (f3 p hp).2⟩
  have N3 := nw_up N lz
  refine append_at (s := ⟨h3, g, d, tk3, os⟩) (N3 _ hm).1 (fun h' hsb hg => ?_) (Nat.le_trans (m := 1000) (by simpa using hz) (by decide))
  have kk : ∀ b ob, b ≠ D → h3.get? b = some ob → h'.get? b = some ob := fun b ob hb e => (hsb.2 b hb).trans e
  have dj : ∀ p ∈ new, ∀ q ∈ news, p.1 ≠ q.1 := fun p hp q hq e => by
    have := (fz p hp).2
    rw [e, (N q hq).1] at this; cases this
  refine (H v new h' tk3 hv (fr_mu F3 N3 hm kk) (fun q hq => ?_) dj).run
  rcases List.mem_append.mp hq with hq | hq
  · have N4 := nw_add F N lz fz
    exact ⟨kk _ _ (dj q hq _ hm) (fz q hq).1, (N4 q (List.mem_append_left _ hq)).2⟩
  · exact nw_mu N3 (U v) kk (by rw [hg]; simp) q hq
theorem cl_tupL {a : Addr} {vs : List Value} (hh : A.handled = none) (hl : h.IsList a vs.toArray) (hz : vs.length ≤ 1000) : EX prog w A (call (.type "tuple") [.ref a]) h (fun v new => ∃ b, v = .ref b ∧ new = [(b, tupO vs)]) := by
  refine ⟨fun h1 g d tk os Q E le H => ?_⟩
  have hl' := list_up hl le
  refine call_tuple_list (s := ⟨h1, g, d, tk, os⟩) hl' (fun h' hk => ?_) (by rw [List.size_toArray]; exact Nat.le_trans hz (by decide))
  refine H _ [(h'.objs.size, tupO vs)] _ _ (fun b o e => Heap.get?_push_of_some _ (hk b o e)) (fun p hp => ?_) ⟨_, rfl, rfl⟩
  rw [List.mem_singleton.mp hp]
  refine ⟨Heap.get?_push_size _ rfl, ?_⟩
  cases e : h1.get? h'.objs.size with
  | none => rfl
  | some o => exact absurd (Heap.lt_size (hk _ _ e)) (Nat.lt_irrefl _)
/-- tuple(xs) -/
theorem ex_tupL {w : World} {e : Expr} {p1 p2 : Pos} {a : Addr} {vs : List Value} (T : TX w h) (hh : A.handled = none) (he : EX prog w A (eval e env) h (Im (· = .ref a))) (hl : h.IsList a vs.toArray) (hz : vs.length ≤ 1000)
    (hkd : env.kindOf (Str.ofString "tuple") = some .globalImplicit) (hk : env.scope.kind = .function) (hg : env.globals = mainGlobals) (hb : env.builtins = builtinsNs)
    (hse : starEach [e] env = [(false, eval e env)] := by kernel_rfl)
    (hr : eval (.Call (.Name (Str.ofString "tuple") p1) [e] [] p2) env = (do callWith p2 (← eval (.Name (Str.ofString "tuple") p1) env) [] (backTo p2 (starEach [e] env)) (backToKw p2 (keywordEach [] env))) := by kernel_rfl) :
    EX prog w A (eval (.Call (.Name (Str.ofString "tuple") p1) [e] [] p2) env) h (fun v new => ∃ b, v = .ref b ∧ new = [(b, tupO vs)]) :=
  ex_callK (fv := .type "tuple") (ex_builtin T (by k_is) (by kernel_rfl) (by decide) rfl hkd hk hg hb (by kernel_rfl)) (cw_type (exs_one he hse) (fun vs' new h3 le3 hn hv => by
    obtain ⟨v, rfl, rfl, rfl⟩ := hv
    exact (cl_tupL hh (list_up hl le3) hz).mono fun v new hv => by rw [List.append_nil]; exact hv) hse rfl) hr
end
section
variable {w : World} {A : Around} {h : Heap} {env : Env} {g : Array GenState} {d : Drawn} {tk : Nat} {os : OsState} {E : Value → Shared → Prop}
set_option maxHeartbeats 2000000
/-- lexer.get_tokens_unprocessed(context=context) -/
theorem gen_expr {h₀ : Heap} {L : Addr} {l : List (Str × Value)} {lx cx dc sl rw : Addr} {T : Tab} {text : Str} {rows : List Row} {pos vsn : Nat} {st fin : List Sta} {c : CT} {vs rvs : List Value} {rn : Nat} {oth : List (Addr × Obj)} {xl : Str} {p1 p2 p3 p4 p5 : Pos} (T0 : TX w h₀) (LB : LX w h₀ lx T) (hh : A.handled = none) (hd : A.depth + 40 < recursionLimit)
    (F : Fr h₀ L h (frm l)) (N : News h₀ L h (LG w cx dc c text pos sl vs vsn ((rw, lobj rvs rn) :: oth))) (V : StkV st vs) (r1 : rw ≠ cx) (r2 : rw ≠ dc) (r3 : sl ≠ rw)
    (e1 : EX PG w A (eval (.Name xl p1) env) h (Im (· = .ref lx))) (e2 : ∀ h', Le h h' → EX PG w A (eval (.Name (Str.ofString "context") p4) env) h' (Im (· = .ref cx)))
    (sc : Scan T (text.cps.toList.drop pos) pos st rows fin) (hst : st ≠ []) (hz : st.length + 2 * rows.length ≤ 900) (hpos : pos ≤ text.length) (htz : text.length ≤ 900) (hwy : ∀ s, ∀ r ∈ T s, ∀ l, r.way = .lay l → l.length ≤ 2)
    (hk : keywordEach [⟨some (Str.ofString "context"), .Name (Str.ofString "context") p4, p5⟩] env = [(some (Str.ofString "context"), eval (.Name (Str.ofString "context") p4) env)])
    (hr : eval (.Call (.Attribute (.Name xl p1) (Str.ofString "get_tokens_unprocessed") p2) [] [⟨some (Str.ofString "context"), .Name (Str.ofString "context") p4, p5⟩] p3) env = (do
      let ov ← eval (.Name xl p1) env
      standAt p2.atName
      let (f, first) ← holding [ov] (getMethod ov (Str.ofString "get_tokens_unprocessed") (plOf (.Name xl p1) env))
      callWith p3 f first (backTo p3 (starEach [] env)) (backToKw p3 (keywordEach [⟨some (Str.ofString "context"), .Name (Str.ofString "context") p4, p5⟩] env))))
    (Q : Value → Shared → Prop)
    (H : ∀ Lg a h2 tk2 gs, Le h h2 → (∀ b o, h.get? b = some o → b ≠ Lg) → Lg < a → h2.IsGen a g.size → gs.bare = true → (∃ m, h2.Ns Lg m) → Sleeps w A h₀ Lg cx dc text rows fin [L, rw] rows.length gs h2 → Q (.ref a) ⟨h2, g.push gs, d, tk2, os⟩) :
    wpAny (model PG w) A (eval (.Call (.Attribute (.Name xl p1) (Str.ofString "get_tokens_unprocessed") p2) [] [⟨some (Str.ofString "context"), .Name (Str.ofString "context") p4, p5⟩] p3) env) Q E ⟨h, g, d, tk, os⟩ := by
  obtain ⟨dl, es, n, td, la, vals, LA⟩ := id LB
  refine methodCall_KW (pl := plOf (.Name xl p1) env) (e1.at fun a n1 h1 tk1 l1 f1 ha => ?_) hr
  rw [ha.2]
  refine (gm_inst (pl := plOf (.Name xl p1) env) (fr_up F l1) T0.X (inst_mk ((fr_up F l1).keep _ _ LA.obj) ((fr_up F l1).keep _ _ LA.dic)) (by k_is) (by k_is) (by k_is) LA.un).run h1 g d tk1 os _ _ Le.refl fun fx n2 h2 tk2 l2 f2 hfx => ?_
  rw [hfx.2]
  refine callWith_KW0 (h₀ := h₀) T0.X (by k_is) (by rw [hk]; rfl) ?_ (by rw [hk]; rfl)
  rw [hk]
  refine wpAny_evalAll_cons (wpAny_bind ((e2 h2 (l1.trans l2)).at fun a n3 h3 tk3 l3 f3 ha => wpAny_bind (wpAny_standAt (wpAny_pure (wpAny_evalAll_nil ?_)))))
  rw [ha.2]
  have lz := (l1.trans l2).trans l3
  have F3 := fr_up F lz
  have N3 := nw_up N lz
  refine ⟨T0.X.keeps F3.keep, ?_⟩
  have q1 := N3 _ (.head _)
  have q2 := N3 _ (.tail _ (.head _))
  have q3 := N3 _ (.tail _ (.tail _ (.head _)))
  have q4 := N3 _ (.tail _ (.tail _ (.tail _ (.head _))))
  have hL0 : h₀.get? L = none := by
    cases e : h₀.get? L with
    | none => rfl
    | some o => exact absurd (Nat.lt_of_lt_of_le (Heap.lt_size e) F.above) (Nat.lt_irrefl _)
  show wpAny _ _ (call (.ref 633) [.ref lx] [(Str.ofString "context", .ref cx)]) _ _ _
  refine gen_ok (W := [L, rw]) (sl := sl) (dc := dc) T0 LB F3.keep (Nat.le_trans F3.above (Nat.le_of_lt F3.ns.lt)) hh hd ⟨q1.1, ⟨c, q2.1⟩, vs, vsn, q3.1, V⟩ q1.2.2 q2.2.2 q3.2.2 (fun b hb => ?_) sc hst hz hpos htz hwy fun Lg a h4 tk4 gs le hLg hLa hig hbare hns hsl => ?_
  · rcases List.mem_cons.mp hb with rfl | hb
    · exact ⟨hL0, Ne.symm q1.2.1, Ne.symm q2.2.1, Ne.symm q3.2.1, ns_isSome F3.ns⟩
    · rw [List.mem_singleton.mp hb]
      exact ⟨q4.2.2, r1, r2, Ne.symm r3, _, q4.1⟩
  · exact H Lg a h4 tk4 gs (lz.trans le) (fun b o e q => Nat.ne_of_lt (Nat.lt_of_lt_of_le (Heap.lt_size (lz _ _ e)) hLg) q) hLa hig hbare hns hsl
end
end Mine
end
section
set_option maxRecDepth 100000
set_option linter.unusedVariables false
open PySem PySem.W PyProof.Rows PySem.Calls PySem.Spec
namespace Mine
theorem layOne_ok {s : List Sta} {o : Option Sta} (h : s ≠ []) : layOne s o ≠ [] ∧ (layOne s o).length ≤ s.length + 1 := by
  cases o with
  | some t => exact ⟨by simp [layOne], by simp [layOne]⟩
  | none =>
    show (if 1 < s.length then s.dropLast else s) ≠ [] ∧ (if 1 < s.length then s.dropLast else s).length ≤ s.length + 1
    split
    · refine ⟨fun e => ?_, by rw [List.length_dropLast]; omega⟩
      have := congrArg List.length e
      rw [List.length_dropLast, List.length_nil] at this; omega
    · exact ⟨h, by omega⟩
theorem fold_ok : ∀ (l : List (Option Sta)) {s : List Sta}, s ≠ [] → l.foldl layOne s ≠ [] ∧ (l.foldl layOne s).length ≤ s.length + l.length
  | [], s, h => ⟨h, by simp⟩
  | o :: l, s, h => by
    obtain ⟨a, b⟩ := layOne_ok (o := o) h
    obtain ⟨c, d⟩ := fold_ok l a
    refine ⟨c, ?_⟩
    show (l.foldl layOne (layOne s o)).length ≤ s.length + (l.length + 1)
    omega
theorem apply_ok {w : Way} {s : List Sta} (h : s ≠ []) (hw : ∀ l, w = .lay l → l.length ≤ 2) : applyWay w s ≠ [] ∧ (applyWay w s).length ≤ s.length + 2 := by
  have hs : 0 < s.length := List.length_pos_iff.mpr h
  cases w with
  | stay => exact ⟨h, by show s.length ≤ _; omega⟩
  | push => exact ⟨by simp [applyWay], by simp [applyWay]⟩
  | lay l =>
    obtain ⟨a, b⟩ := fold_ok l h
    have := hw l rfl
    exact ⟨a, by show (l.foldl layOne s).length ≤ _; omega⟩
  | pop k =>
    show (if s.length ≤ k then s.take 1 else s.take (s.length - k)) ≠ [] ∧ (if s.length ≤ k then s.take 1 else s.take (s.length - k)).length ≤ s.length + 2
    split
    · refine ⟨fun e => ?_, by rw [List.length_take]; omega⟩
      have := congrArg List.length e
      rw [List.length_take, List.length_nil] at this; omega
    · refine ⟨fun e => ?_, by rw [List.length_take]; omega⟩
      have := congrArg List.length e
      rw [List.length_take, List.length_nil] at this; omega
theorem step_ok {T : Tab} {c : Nat} {t : List Nat} {st : List Sta} (hwy : ∀ s, ∀ r ∈ T s, ∀ l, r.way = .lay l → l.length ≤ 2) (h : st ≠ []) :
    (stepAt T c t st).2.2.1 ≠ [] ∧ (stepAt T c t st).2.2.1.length ≤ st.length ∧ (stepAt T c t st).2.2.2 ≠ [] ∧ (stepAt T c t st).2.2.2.length ≤ st.length + 2 := by
  have hs : 0 < st.length := List.length_pos_iff.mpr h
  unfold stepAt
  split
  · rename_i r hr
    obtain ⟨a, b⟩ := apply_ok (w := r.way) h (hwy _ r (List.mem_of_find?_eq_some hr))
    exact ⟨h, Nat.le_refl _, a, b⟩
  · split
    · exact ⟨by simp, hs, by simp, by show 1 ≤ _; omega⟩
    · exact ⟨h, Nat.le_refl _, h, by show st.length ≤ _; omega⟩
theorem scan_ok {T : Tab} (hwy : ∀ s, ∀ r ∈ T s, ∀ l, r.way = .lay l → l.length ≤ 2) {t : List Nat} {pos : Nat} {st fin : List Sta} {rows : List Row} (h : Scan T t pos st rows fin) :
    st ≠ [] → (∀ r ∈ rows, r.stack ≠ [] ∧ r.stack.length ≤ st.length + 2 * rows.length) ∧ fin ≠ [] ∧ fin.length ≤ st.length + 2 * rows.length := by
  induction h with
  | nil => intro h; exact ⟨fun _ hr => (nomatch hr), h, by simp⟩
  | @cons c t pos st rows fin h ih =>
    intro hst
    obtain ⟨a, b, e, f⟩ := step_ok (c := c) (t := t) hwy hst
    obtain ⟨i1, i2, i3⟩ := ih e
    refine ⟨fun r hr => ?_, i2, by simp only [List.length_cons]; omega⟩
    rcases List.mem_cons.mp hr with rfl | hr
    · exact ⟨a, by simp only [List.length_cons]; omega⟩
    · obtain ⟨j1, j2⟩ := i1 r hr
      exact ⟨j1, by simp only [List.length_cons]; omega⟩
end Mine
end
section
set_option maxRecDepth 100000
set_option linter.unusedVariables false
open PySem PySem.W PyProof.Rows PySem.Calls PySem.Spec
namespace Mine
local macro_rules | `(tactic| walk_at "lk") => `(tactic| repeat (first | with_reducible exact frm_head | with_reducible assumption | with_reducible refine frm_tail (by kernel_rfl) ?_))
local macro_rules | `(tactic| walk_at "zl") => `(tactic| (refine ex_local (Fr.ns (by assumption)) (by walk_at "lk") ?_ (by kernel_rfl) (by kernel_rfl) (by kernel_rfl); first | exact isI | exact isS | exact isB | rfl))
section
variable {w : World} {A : Around} {h : Heap} {g : Array GenState} {d : Drawn} {tk : Nat} {os : OsState} {E : Value → Shared → Prop} {Q : Value → Shared → Prop}
set_option maxHeartbeats 4000000
/-- what a reading tells -/
theorem law_read {lx : Addr} {T : Tab} {text : Str} {tt : Tok} {rows : List Row} {fin : List Sta} (T0 : TX w h) (LB : LX w h lx T) (hh : A.handled = none) (hd : A.depth + 60 < recursionLimit)
    (sc : Scan T text.cps.toList 0 [.root] rows fin) (hz : 1 + 2 * rows.length ≤ 900) (htz : text.length ≤ 900) (hwy : ∀ s, ∀ r ∈ T s, ∀ l, r.way = .lay l → l.length ≤ 2) (hb : AllBare g)
    (H : ∀ h2 tk2 g2 R rl ft rvs fvs, Le h h2 → AllBare g2 → h2.IsTuple R #[.ref rl, .ref ft] → h2.IsList rl rvs.toArray → Paired (RowV h2) rows rvs → h2.IsTuple ft fvs.toArray → StkV fin fvs → Q (.ref R) ⟨h2, g2, d, tk2, os⟩) :
    wpAny (model PG w) A (call (.ref 744) [.ref lx, .str text tt]) Q E ⟨h, g, d, tk, os⟩ := by
  refine call_defG T0.X T0.lim (by k_is) (by k_is) (by omega) (fun s X => BindsTo.of_eq rfl) (locs rfl) ?_ (by decide) rfl rfl rfl
  intro L hh' tk1 F
  change Fr _ _ _ (frm [(Str.ofString "text", _), (Str.ofString "lexer", _)]) at F
  refine st_pair (V := fun v1 v2 n => ∃ cx dc sl c y rw, v1 = .ref cx ∧ v2 = .ref rw ∧ n = [(rw, lobj [] 0), (cx, instObj 614 dc), (dc, cdict w c text (0 : Nat) text.length sl), (sl, lobj [y] 0)] ∧ IsS Sta.root.str y) hh F News.nil ?_ ?_ ⟨rfl, rfl⟩ (by kernel_rfl) (by kernel_rfl) (by kernel_rfl) (by kernel_rfl)
  · refine (ex_tuple (exs_consN (ex_callK (fv := .ref 614) (ex_global (T0.up F.keep) (by k_is) rfl (by kernel_rfl) (by kernel_rfl) (by kernel_rfl) (by kernel_rfl))
      (cw_some (V := fun v new => ∃ cx dc sl c y, v = .ref cx ∧ new = [(cx, instObj 614 dc), (dc, cdict w c text (0 : Nat) text.length sl), (sl, lobj [y] 0)] ∧ IsS Sta.root.str y) (keeper_K (T0.up F.keep).X (by k_is)) (exs_cons (P := (· = .str text tt)) (by walk_at "zl") (exs_cons (P := IsI 0) ex_int exs_nil)) ?_)) (exs_consN (ex_list (exs_nil) (fun vs n hv => by rw [hv.2]; exact Nat.le_of_ble_eq_true rfl)) exs_nil)) (fun vs n hv => ?_)).mono fun v new hv => ?_
    · rintro vs new h3 le3 - ⟨rfl, v1, r1, rfl, rfl, v2, r2, rfl, ⟨pt, rfl⟩, rfl⟩
      exact (mk_ctx0 ((T0.up F.keep).up le3) (by rw [depth_deeper]; omega) (by omega)).mono fun v new hv => by rw [List.append_nil]; exact hv
    · obtain ⟨v1, r1, n1, n2, rfl, rfl, -, v2, r2, n3, n4, rfl, rfl, -, rfl, rfl⟩ := hv
      exact Nat.le_of_ble_eq_true rfl
    · obtain ⟨T1, vs, n0, rfl, rfl, v1, r1, n1, n2, rfl, rfl, ⟨cx, dc, sl, c, y, rfl, rfl, hy⟩, v2, r2, n3, n4, rfl, rfl, ⟨rw, vs2, n5, rfl, rfl, rfl, rfl⟩, rfl, rfl⟩ := hv
      exact ⟨T1, _, _, _, rfl, rfl, cx, dc, sl, c, y, rw, rfl, rfl, rfl, hy⟩
  rintro v1 v2 n h2 tk2 ⟨cx, dc, sl, c, y, rw, rfl, rfl, rfl, hy⟩ F N -
  have N2 : News h L h2 (LG w cx dc c text 0 sl [y] 0 ((rw, lobj [] 0) :: [])) := fun q hq => N q (by
    simp only [LG, List.mem_append, List.mem_cons, List.not_mem_nil, or_false] at hq ⊢
    rcases hq with e | e | e | e <;> simp [e])
  have r1 : rw ≠ cx := fun e => by have := (N2 _ (.head _)).1; rw [← e, (N2 _ (.tail _ (.tail _ (.tail _ (.head _))))).1] at this; simp at this
  have r2 : rw ≠ dc := fun e => by have := (N2 _ (.tail _ (.head _))).1; rw [← e, (N2 _ (.tail _ (.tail _ (.tail _ (.head _))))).1] at this; simp [cdict, dictOf] at this
  have r3 : sl ≠ rw := fun e => by have := (N2 _ (.tail _ (.tail _ (.head _)))).1; rw [e, (N2 _ (.tail _ (.tail _ (.tail _ (.head _))))).1] at this; simp at this
  refine st_for_gen (rows := rows) (fin := fin) (st := [.root]) [] (fun i l rvs h' => frm l (Str.ofString "context") = some (.ref cx) ∧ frm l (Str.ofString "rows") = some (.ref rw) ∧ frm l (Str.ofString "lexer") = some (.ref lx) ∧ Paired (RowV h') (rows.take i) rvs) (fun i l rvs h1 h2 k x => ⟨x.1, x.2.1, x.2.2.1, paired_up k x.2.2.2⟩)
    hh (by rw [depth_deeper]; omega) T0 F N2 (.cons hy .nil) (fun _ hp => nomatch hp) r1 r2 r3 (fun _ hp => nomatch hp) (fun h' k => ⟨by walk_at "lk", by walk_at "lk", by walk_at "lk", .nil⟩) hb ?_ ?_ ?_ ⟨rfl, rfl⟩ (by kernel_rfl) (by kernel_rfl) (by kernel_rfl)
  · intro Q' hQ'
    refine gen_expr (A := A.deeper _) (pos := 0) (T := T) T0 LB hh (by rw [depth_deeper]; omega) F N2 (.cons hy .nil) r1 r2 r3 (by walk_at "zl") (fun h' le => by have F := fr_up F le; walk_at "zl") sc (by simp) (by simpa using hz) (Nat.zero_le _) htz hwy (by kernel_rfl) (by kernel_rfl) Q' hQ'
  · intro i r c sl vs nn rvs rn oth h3 tk3 g3 l tok nt t1 t2 hr F N hext hoth hcov hsl V htok hiv hab
    obtain ⟨i1, i2, i3, hp⟩ := hiv
    have lvz : vs.length ≤ 1000 := by rw [← paired_len V]; have := ((scan_ok hwy sc (by simp)).1 r (List.mem_of_getElem? hr)).2; simp only [List.length_cons, List.length_nil] at this; omega
    have lrz : rvs.length ≤ 1000 := by rw [← paired_len hp, List.length_take]; omega
    obtain ⟨dt, t0, nvs, b1, b2, b3, b4⟩ := id htok
    refine st_append (news' := fun v => LG w cx dc c text r.place sl vs nn ((rw, lobj (rvs ++ [v]) (rn + 1)) :: oth)) (VA := fun v new => ∃ a sa, v = .ref a ∧ new = [(a, tupO [.int r.place t1, .ref nt, .str r.value t2, .ref sa]), (sa, tupO vs)]) F N (by walk_at "zl") (.tail _ (.tail _ (.tail _ (.head _)))) ?_ lrz
      (fun v => .tail (Ne.symm r1) (.tail (Ne.symm r2) (.tail hsl (.head hoth)))) ?_ (by kernel_rfl) (by kernel_rfl) rfl (by kernel_rfl)
    · refine EX.mono (ex_tuple (exs_consN (V1 := Im (· = .int r.place t1)) (by walk_at "zl") (exs_consN (V1 := Im (· = .ref nt)) (ex_at (by walk_at "zl") F T0.X (inst_mk (F.keep _ _ b1) (F.keep _ _ b2)) (by k_is) (by k_is) (by k_is) (by k_is) (by k_get) (by kernel_rfl) rfl)
        (exs_consN (V1 := Im (· = .str r.value t2)) (by walk_at "zl") (exs_consN (ex_tupL (T0.up F.keep) hh (ex_ctx T0.X (by walk_at "zl") F N (.head _) (.tail _ (.head _)) (by k_get) (by k_is) (by k_is) (by k_is) (by kernel_rfl) rfl) ⟨_, (N _ (.tail _ (.tail _ (.head _)))).1, rfl, _, rfl⟩ lvz (by kernel_rfl) rfl rfl rfl) exs_nil)))) (fun vs n hv => ?_)) fun v new hv => ?_
      · obtain ⟨v1, q1, n1, n2, rfl, rfl, -, v2, q2, n3, n4, rfl, rfl, -, v3, q3, n5, n6, rfl, rfl, -, v4, q4, n7, n8, rfl, rfl, -, rfl, rfl⟩ := hv
        exact Nat.le_of_ble_eq_true rfl
      · obtain ⟨a, vs', n, rfl, rfl, v1, q1, n1, n2, rfl, rfl, ⟨rfl, rfl⟩, v2, q2, n3, n4, rfl, rfl, ⟨rfl, rfl⟩, v3, q3, n5, n6, rfl, rfl, ⟨rfl, rfl⟩, v4, q4, n7, n8, rfl, rfl, ⟨sa, rfl, rfl⟩, rfl, rfl⟩ := hv
        exact ⟨a, sa, rfl, rfl⟩
    · rintro v new h4 tk4 ⟨a, sa, rfl, rfl⟩ F4 N4 -
      have N5 : News h L h4 (LG w cx dc c text r.place sl vs nn ((rw, lobj (rvs ++ [.ref a]) (rn + 1)) :: ([(a, tupO [.int r.place t1, .ref nt, .str r.value t2, .ref sa]), (sa, tupO vs)] ++ oth))) := fun q hq => N4 q (by
        simp only [LG, List.mem_append, List.mem_cons, List.not_mem_nil, or_false, or_assoc] at hq ⊢
        rcases hq with e | e | e | e | e | e | e <;> simp [e])
      have tk34 : TupKp h3 h4 := fun b xs ⟨o, ho, hc, n, hd⟩ => by
        refine ⟨o, ?_, hc, n, hd⟩
        cases e0 : h.get? b with
        | some o' =>
          have := F.keep _ _ e0
          rw [ho] at this
          rw [Option.some.inj this]
          exact F4.keep _ _ e0
        | none =>
          have nq : ∀ {x : Addr} {ox : Obj}, h3.get? x = some ox → (ox.cls ≠ .type "tuple" ∨ ∀ xs n, ox.data ≠ .seq xs n) → b ≠ x := fun hx hn e => by
            rw [← e, ho] at hx
            cases hx
            rcases hn with q | q
            · exact q hc
            · exact q _ _ hd
          have hbL : b ≠ L := by
            obtain ⟨oL, es, ep, hL, hLd, _⟩ := F.ns
            exact nq hL (.inr fun xs k e => by rw [hLd] at e; cases e)
          exact (N5 _ (.tail _ (.tail _ (.tail _ (.tail _ (List.mem_append_right _ (hcov b o ho e0 hbL (nq (N _ (.head _)).1 (.inr fun xs k e => by simp at e)) (nq (N _ (.tail _ (.head _))).1 (.inr fun xs k e => by simp [cdict, dictOf] at e))
            (nq (N _ (.tail _ (.tail _ (.head _)))).1 (.inl (by simp))) (nq (N _ (.tail _ (.tail _ (.tail _ (.head _))))).1 (.inl (by simp)))))))))).1
      refine wp_nil ⟨h4, tk4, _, rvs ++ [.ref a], rn + 1, _, rfl, F4, N5, fun p hp => List.mem_append_right _ hp, by walk_at "lk", by walk_at "lk", by walk_at "lk", ?_⟩
      rw [List.take_add_one, hr]
      refine paired_append (paired_up tk34 hp) (.cons ⟨a, nt, sa, t1, t2, nvs, vs, rfl, ⟨_, (N5 _ (.tail _ (.tail _ (.tail _ (.tail _ (.head _)))))).1, rfl, _, rfl⟩, tuple_up b3 F4.keep, b4, ⟨_, (N5 _ (.tail _ (.tail _ (.tail _ (.tail _ (.tail _ (.head _))))))).1, rfl, _, rfl⟩, V⟩ .nil)
  · intro h3 tk3 g3 l c sl vs nn rvs rn oth F N hext V hiv hab
    obtain ⟨i1, i2, i3, hp⟩ := hiv
    have lvz : vs.length ≤ 1000 := by rw [← paired_len V]; have := (scan_ok hwy sc (by simp)).2.2; simp only [List.length_cons, List.length_nil] at this; omega
    obtain ⟨all, Nall, hup⟩ := snap F
    have N2 : News h L h3 (LG w cx dc c text text.length sl vs nn ((rw, lobj rvs rn) :: oth) ++ all) := fun q hq => (List.mem_append.mp hq).elim (N q) (Nall q)
    refine wp_nil (thenQ_next (st_ret (V := fun v new => ∃ R ft, v = .ref R ∧ new = [(R, tupO [.ref rw, .ref ft]), (ft, tupO vs)]) F N2 ?_ ?_))
    · refine EX.mono (ex_tuple (exs_consN (V1 := Im (· = .ref rw)) (by walk_at "zl") (exs_consN (ex_tupL (T0.up F.keep) hh (ex_ctx T0.X (by walk_at "zl") F N (.head _) (.tail _ (.head _)) (by k_get) (by k_is) (by k_is) (by k_is) (by kernel_rfl) rfl) ⟨_, (N _ (.tail _ (.tail _ (.head _)))).1, rfl, _, rfl⟩ lvz (by kernel_rfl) rfl rfl rfl) exs_nil)) (fun vs n hv => ?_)) fun v new hv => ?_
      · obtain ⟨v1, q1, n1, n2, rfl, rfl, -, v4, q4, n7, n8, rfl, rfl, -, rfl, rfl⟩ := hv
        exact Nat.le_of_ble_eq_true rfl
      · obtain ⟨a, vs', n, rfl, rfl, v1, q1, n1, n2, rfl, rfl, ⟨rfl, rfl⟩, v4, q4, n7, n8, rfl, rfl, ⟨ft, rfl, rfl⟩, rfl, rfl⟩ := hv
        exact ⟨a, ft, rfl, rfl⟩
    · rintro v new h4 tk4 ⟨R, ft, rfl, rfl⟩ F4 N4
      have kp := SeqKp.of F.ns (hup h4 _ F4 fun q hq => N4 q (List.mem_append_right _ (List.mem_append_right _ hq)))
      rw [List.take_length] at hp
      exact H h4 tk4 g3 R rw ft rvs vs F4.keep hab ⟨_, (N4 _ (.head _)).1, rfl, _, rfl⟩ ⟨_, (N4 _ (List.mem_append_right _ (List.mem_append_left _ (.tail _ (.tail _ (.tail _ (.head _))))))).1, rfl, _, rfl⟩ (paired_up kp.tup hp) ⟨_, (N4 _ (.tail _ (.head _))).1, rfl, _, rfl⟩ V
end
end Mine
end
section
set_option maxRecDepth 100000
set_option linter.unusedVariables false
open PySem PySem.W PyProof.Rows PySem.Calls PySem.Spec
namespace Mine
section
variable {prog : Program} {w : World} {A : Around} {h : Heap} {env : Env} {P : Value → Prop} {K : Frag} {h₀ : Heap} {L : Addr} {l : List (Str × Value)} {news : List (Addr × Obj)}
  {g : Array GenState} {d : Drawn} {tk : Nat} {os : OsState} {E : Value → Shared → Prop} {Q : Flow → Shared → Prop}
/-- y = [elt for x in xs if ...], its elements immediate -/
theorem st_assignComp {elt iter : Expr} {x y : Str} {px py : Pos} {ifs : List Expr} {scope : Scope} {cl : List (Str × Addr)} {pos spos : Pos} {rest : List Stmt} {ax : Addr} {items : List Value} (p : Value → Bool) (G : Value → Value → Prop)
    (hh : A.handled = none) (F : Fr h₀ L h (frm l)) (N : News h₀ L h news) (hsw : swapsWith (.ListComp elt [⟨.Name x px, iter, ifs, 0⟩] scope pos) (some (.Name y py)) spos.line env = pure true)
    (hclos : closureFor scope env = pure cl) (hcell : ∀ y ∈ scope.names, y.2 ≠ .cell) (hkind : scope.kind = .function)
    (hnames : ∀ y ∈ scope.names, y.2 = .local → scope.names.lookup y.1 = some .local) (hx : scope.names.lookup x = some .local)
    (hit : EX prog w A (eval iter env) h (Im (· = .ref ax))) (hl : h.IsList ax items.toArray) (hsz : items.length ≤ sizeLine)
    (htest : ∀ C v h2 m₂, v ∈ items → (∀ b o, b ≠ L → h.get? b = some o → h2.get? b = some o) → h2.Ns C m₂ → m₂ x = some v →
      EX prog w A (forIn ifs true fun c r => if r = true then do let ok ← PySem.isTrue c (compEnvC scope cl C env) (eval c (compEnvC scope cl C env)); pure (ForInStep.yield ok) else pure (ForInStep.yield r)) h2 (Im (· = p v)))
    (helt : ∀ C v h2 m₂, v ∈ items → p v = true → (∀ b o, b ≠ L → h.get? b = some o → h2.get? b = some o) → h2.Ns C m₂ → m₂ x = some v → EX prog w A (eval elt (compEnvC scope cl C env)) h2 (Im (G v)))
    (H : ∀ D ys n h' tk', Paired G (items.filter p) ys → Fr h₀ L h' (frm ((y, .ref D) :: l)) → News h₀ L h' ((D, lobj ys n) :: news) → (∀ q ∈ news, q.1 ≠ D) → WP prog w A (execs rest env) Q ⟨h', g, d, tk', os⟩)
    (hL : LocalEnv env L) (hy : env.kindOf y = some .local) (hs : ∀ x, foldedSetIterable iter env x = pure x := by intro _; kernel_rfl) :
    WP prog w A (execs (.Assign [.Name y py] (.ListComp elt [⟨.Name x px, iter, ifs, 0⟩] scope pos) spos :: rest) env) Q ⟨h, g, d, tk, os⟩ := by
  refine wp_cons ⟨?_⟩
  obtain ⟨rfl, hk⟩ := hL
  with_reducible refine wpAny_Assign_ListComp_free p G hsw hclos hcell hkind hnames hx hy (LocalEnv.no ⟨rfl, hk⟩) (hit.at fun xv n h2 tk2 l2 f2 hv => ?_) hs
  rw [hv.2]
  have F2 := fr_up F l2
  have N2 := nw_up N l2
  have hl2 : h2.IsList ax items.toArray := list_up hl l2
  refine wpAny_pyIter_list (s := ⟨h2, g, d, tk2, os⟩) hl2 ?_
  obtain ⟨ol, hol, hol'⟩ := id hl2
  have hlt : ax < h2.objs.size := Heap.lt_size hol
  have hne : ax ≠ h2.objs.size := Nat.ne_of_lt hlt
  have lp : Le h2 (h2.push { cls := .type "list_iterator", data := .fields #[.ref ax, .int 0 0] }) := fun b o e => Heap.get?_push_of_some _ e
  have hnone : h2.get? h2.objs.size = none := by
    cases e : h2.get? h2.objs.size with
    | none => rfl
    | some o' => exact absurd (Heap.lt_size e) (Nat.lt_irrefl _)
  obtain ⟨oL, hoL⟩ := ns_isSome F2.ns
  have wrok : ∀ (s₃ : Shared), (∀ b o, b ∉ [h2.objs.size] → (h2.push { cls := .type "list_iterator", data := .fields #[.ref ax, .int 0 0] }).get? b = some o → s₃.heap.get? b = some o) → Le h2 s₃.heap := fun s₃ hk b o e =>
    hk b o (fun hm => by rw [List.mem_singleton.mp hm, hnone] at e; cases e) (lp b o e)
  refine ⟨h2.objs.size, _, _, items.toArray.size, _, _, frm l, rfl, Walks.list hh _ ax hne items.toArray, by rw [List.size_toArray]; exact hsz, ⟨⟨_, Heap.get?_push_size _ rfl, rfl, rfl⟩, list_up hl2 lp⟩, ?_, ?_, ns_up F2.ns lp, ⟨?_, ?_⟩, ?_⟩
  · intro b hb
    show b < (h2.push _).objs.size
    rw [Heap.size_push]
    rcases List.mem_cons.mp hb with rfl | hb
    · exact Nat.lt_succ_self _
    · rw [List.mem_singleton.mp hb]; exact Nat.lt_succ_of_lt hlt
  · intro hm
    have := Heap.lt_size hoL
    rw [List.mem_singleton.mp hm] at this
    exact Nat.lt_irrefl _ this
  · intro C i v s₃ m₃ E' hC hP hn hm hk htk
    have le3 := wrok s₃ hk
    exact (htest C v s₃.heap m₃ (Array.mem_toList_iff.mpr (Array.mem_of_getElem? hP)) (fun b o _ e => le3 _ _ (l2 _ _ e)) hn hm).keepsB
  · intro C i v s₃ m₃ E' hC hP hpv hn hm hk htk
    have le3 := wrok s₃ hk
    exact (helt C v s₃.heap m₃ (Array.mem_toList_iff.mpr (Array.mem_of_getElem? hP)) hpv (fun b o _ e => le3 _ _ (l2 _ _ e)) hn hm).keeps
  · intro D h' tk' ys vs hD hLD hPL hlen hP hG hnL hk
    have hvs : vs = items := by
      have := list_of_places (items := items.toArray) hlen hP
      rw [this]
    subst hvs
    obtain ⟨n', hn'⟩ := hPL
    obtain ⟨ys⟩ := ys
    have kp : ∀ b o, b ≠ env.locals → h2.get? b = some o → h'.get? b = some o := fun b o hb e => hk b o hb (fun hm => by rw [List.mem_singleton.mp hm, hnone] at e; cases e) (lp b o e)
    have hLD : D ≠ env.locals := fun e => by
      have := lp _ _ hoL
      rw [← e, hD] at this; cases this
    have hb0 : ∀ b o, h₀.get? b = some o → b ≠ env.locals := fun b o e => Nat.ne_of_lt (Nat.lt_of_lt_of_le (Heap.lt_size e) F.above)
    have h2D : h2.get? D = none := lp.none hD
    rw [frm_cons] at hnL
    refine (H D ys n' h' tk' hG ⟨hnL, fun b o e => kp b o (hb0 _ _ e) (F2.keep _ _ e), F.above⟩ (fun q hq => ?_) fun q hq e => ?_).run
    · rcases List.mem_cons.mp hq with rfl | hq
      · exact ⟨hn', hLD, (show Le h₀ h2 from F2.keep).none h2D⟩
      · exact ⟨kp _ _ (N2 q hq).2.1 (N2 q hq).1, (N2 q hq).2⟩
    · have := (N2 q hq).1
      rw [e, h2D] at this; cases this
end
end Mine
end
section
set_option maxRecDepth 100000
set_option linter.unusedVariables false
open PySem PySem.W PyProof.Rows PySem.Calls PySem.Spec
namespace Mine
abbrev enumO (it : Addr) : Obj := { cls := .type "enumerate", dict := none, data := .fields #[.none, .bool false, .ref it, rawInt 0, .none, .none], slots := #[] }
abbrev enumAt (it : Addr) (i : Int) (old : Value) : Obj := { cls := .type "enumerate", dict := none, data := .fields #[.none, .bool false, .ref it, rawInt i, .none, old], slots := #[] }
/-- keys and places -/
def PlOf (kf : Nat → Int) (n : Nat) (kvs : List (Int × Value)) : Prop := kvs.length = n ∧ ∀ j, j < n → ∃ v, kvs[j]? = some (kf j, v) ∧ IsI j v
theorem PlOf.absent {kf : Nat → Int} {n : Nat} {kvs : List (Int × Value)} (p : PlOf kf n kvs) {x : Int} (hx : ∀ j, j < n → kf j ≠ x) : valueAt kvs x = none := by
  unfold valueAt
  rw [Option.map_eq_none_iff, List.find?_eq_none]
  intro kv hkv
  obtain ⟨j, hj, rfl⟩ := List.mem_iff_getElem.mp hkv
  obtain ⟨v, e, _⟩ := p.2 j (by rw [← p.1]; exact hj)
  rw [List.getElem?_eq_getElem hj] at e
  have e := Option.some.inj e
  rw [e]
  simpa using hx j (by rw [← p.1]; exact hj)
theorem PlOf.snoc {kf : Nat → Int} {n : Nat} {kvs : List (Int × Value)} (p : PlOf kf n kvs) {v : Value} (hv : IsI n v) : PlOf kf (n + 1) (kvs ++ [(kf n, v)]) := by
  refine ⟨by simp [p.1], fun j hj => ?_⟩
  rcases Nat.lt_succ_iff_lt_or_eq.mp hj with h | rfl
  · obtain ⟨v', e, hv'⟩ := p.2 j h
    exact ⟨v', by rw [List.getElem?_append_left (by rw [p.1]; exact h)]; exact e, hv'⟩
  · exact ⟨v, by rw [List.getElem?_append_right (by rw [p.1]; exact Nat.le_refl _), p.1]; simp, hv⟩
theorem PlOf.at {kf : Nat → Int} {n : Nat} {kvs : List (Int × Value)} (p : PlOf kf n kvs) (inj : ∀ i j, i < n → j < n → kf i = kf j → i = j) {j : Nat} (hj : j < n) : ∃ v, valueAt kvs (kf j) = some v ∧ IsI j v := by
  obtain ⟨v, e, hv⟩ := p.2 j hj
  refine ⟨v, ?_, hv⟩
  unfold valueAt
  have := find_at (p := fun kv : Int × Value => decide (kv.1 = kf j)) (l := kvs) (i := j) (r := (kf j, v)) e (by simp) (fun i r' hi hr => by
    obtain ⟨v', e', _⟩ := p.2 i (by omega)
    rw [hr] at e'
    rw [Option.some.inj e']
    simp only [decide_eq_false_iff_not]
    intro q
    have := inj i j (by omega) hj q
    omega)
  rw [this]; rfl
section
variable {prog : Program} {w : World} {A : Around} {h : Heap} {env : Env} {P : Value → Prop} {K : Frag} {h₀ : Heap} {L : Addr} {l : List (Str × Value)} {news : List (Addr × Obj)}
  {g : Array GenState} {d : Drawn} {tk : Nat} {os : OsState} {E : Value → Shared → Prop} {Q : Flow → Shared → Prop}
/-- enumerate(xs) -/
theorem cl_enum {ax : Addr} {items : List Value} (hl : h.IsList ax items.toArray) : EX prog w A (call (.type "enumerate") [.ref ax]) h (fun v new => ∃ e it oi, v = .ref e ∧ new = [(e, enumO it), (it, oi)] ∧ oi.cls = .type "list_iterator" ∧ oi.data = .fields #[.ref ax, .int (0 : Nat) 0] ∧ e ≠ it) := by
  refine ⟨fun h1 g d tk os Q E le H => ?_⟩
  refine call_enumerate_list (s := ⟨h1, g, d, tk, os⟩) (list_up hl le) fun h' hE hI hsz hk => ?_
  obtain ⟨oi, hoi, hic, hid⟩ := hI
  have nn : ∀ a, h1.objs.size ≤ a → h1.get? a = none := fun a ha => by
    cases e : h1.get? a with
    | none => rfl
    | some o => exact absurd (Heap.lt_size e) (Nat.not_lt.mpr ha)
  refine H _ [(h1.objs.size + 1, enumO h1.objs.size), (h1.objs.size, oi)] h' tk hk (fun p hp => ?_) ⟨_, _, oi, rfl, rfl, hic, hid, Nat.succ_ne_self _⟩
  rcases List.mem_cons.mp hp with rfl | hp
  · exact ⟨hE, nn _ (Nat.le_succ _)⟩
  · rw [List.mem_singleton.mp hp]
    exact ⟨hoi, nn _ (Nat.le_refl _)⟩

theorem st_places {kx iter : Expr} {a b y : Str} {pa pb tp py pva : Pos} {kk : Nat} {scope : Scope} {cl : List (Str × Addr)} {pos spos : Pos} {rest : List Stmt} {ax : Addr} {items : List Value} (kf : Nat → Int) (inj : ∀ i j, i < items.length → j < items.length → kf i = kf j → i = j)
    (hh : A.handled = none) (F : Fr h₀ L h (frm l)) (N : News h₀ L h news) (hsw : swapsWith (.DictComp kx (.Name a pva) [⟨.Tuple [.Name a pa, .Name b pb] kk tp, iter, [], 0⟩] scope pos) (some (.Name y py)) spos.line env = pure true)
    (hclos : closureFor scope env = pure cl) (hcell : ∀ y ∈ scope.names, y.2 ≠ .cell) (hkind : scope.kind = .function)
    (hnames : ∀ y ∈ scope.names, y.2 = .local → scope.names.lookup y.1 = some .local) (hxa : scope.names.lookup a = some .local) (hxb : scope.names.lookup b = some .local) (hba : (a == b) = false) (hda : (a == ("__debug__" : Str)) = false)
    (hit : EX prog w A (eval iter env) h (fun v new => ∃ e it oi, v = .ref e ∧ new = [(e, enumO it), (it, oi)] ∧ oi.cls = .type "list_iterator" ∧ oi.data = .fields #[.ref ax, .int (0 : Nat) 0] ∧ e ≠ it)) (hl : h.IsList ax items.toArray) (hsz : items.length ≤ 1000)
    (hkey : ∀ C i v h2 m₂, items[i]? = some v → (∀ p o, h.get? p = some o → h2.get? p = some o) → h2.Ns C m₂ → m₂ b = some v → EX prog w A (eval kx (compEnvC scope cl C env)) h2 (Im (IsI (kf i))))
    (H : ∀ D od kvs h' tk', od.IsDictOf (intKind prog w) kvs → PlOf kf items.length kvs → Fr h₀ L h' (frm ((y, .ref D) :: l)) → News h₀ L h' ((D, od) :: news) → (∀ q ∈ news, q.1 ≠ D) → L < D → WP prog w A (execs rest env) Q ⟨h', g, d, tk', os⟩)
    (hL : LocalEnv env L) (hy : env.kindOf y = some .local) (hs : ∀ x, foldedSetIterable iter env x = pure x := by intro _; kernel_rfl) :
    WP prog w A (execs (.Assign [.Name y py] (.DictComp kx (.Name a pva) [⟨.Tuple [.Name a pa, .Name b pb] kk tp, iter, [], 0⟩] scope pos) spos :: rest) env) Q ⟨h, g, d, tk, os⟩ := by
  refine wp_cons ⟨?_⟩
  obtain ⟨hLe, hkf⟩ := hL
  rw [exec_Assign_Name_used _ _ _ _ hsw]
  refine wpAny_bind (wpAny_standAt (wpAny_bind ?_))
  show wpAny _ A (do let _ ← comprehension (.DictComp kx (.Name a pva) [⟨.Tuple [.Name a pa, .Name b pb] kk tp, iter, [], 0⟩] scope pos) scope env _ newDict false (eval iter env) (some (assign (.Name y py) env))) _ _ _
  refine wpAny_bind (wpAny_mono (wpAny_comprehension_free (use := some (assign (.Name y py) env)) (Q := fun _ s' => thenQ prog w A env rest Q .next s') rfl hs hclos hkind hnames (hit.at fun xv n h2 tk2 l2 f2 hv => ?_)) (fun _ s' hq => wpAny_pure (wpAny_pure hq)) fun _ _ e => e)
  obtain ⟨e, it, oi, rfl, rfl, hic, hid, hne⟩ := hv
  have he2 := (f2 _ (.head _)).1
  have hi2 := (f2 _ (.tail _ (.head _))).1
  refine wpAny_pyIter_enum (s := ⟨h2, g, d, tk2, os⟩) he2 ?_
  refine wpAny_newObj_type (wpAny_newFunctionEnv hcell (by intro y hy; simp at hy) (fun h3 hns3 hsb3 => ?_) hkind)
  dsimp only at hns3 hsb3 ⊢
  have F2 := fr_up F l2
  have N2 := nw_up N l2
  obtain ⟨oL, hoL⟩ := ns_isSome F2.ns
  generalize hD : h2.objs.size = D at hns3 hsb3 ⊢
  have nnone : ∀ {a}, h2.objs.size ≤ a → h2.get? a = none := fun {a} ha => by
    cases q : h2.get? a with
    | none => rfl
    | some o => exact absurd (Heap.lt_size q) (Nat.not_lt.mpr ha)
  have hz : (h2.push { cls := .type "dict", dict := none, data := .dict #[] }).objs.size = D + 1 := by rw [Heap.size_push, hD]
  rw [hz] at hns3 hsb3 ⊢
  have dnone : h2.get? D = none := nnone (Nat.le_of_eq hD)
  have cnone : h2.get? (D + 1) = none := nnone (by rw [hD]; exact Nat.le_succ _)
  have old3 : Le h2 h3 := fun p o q => hsb3.extBut p o (fun r => by rw [r, cnone] at q; cases q) (Heap.get?_push_of_some _ (Heap.get?_push_of_some _ q))
  have d3 : h3.get? D = some { cls := .type "dict", dict := none, data := .dict #[] } := hsb3.extBut _ _ (Nat.ne_of_lt (Nat.lt_succ_self _)) (Heap.get?_push_of_some _ (by rw [← hD]; exact Heap.get?_push_size _ rfl))
  have eD : e ≠ D := fun q => by rw [q, dnone] at he2; cases he2
  have iD : it ≠ D := fun q => by rw [q, dnone] at hi2; cases hi2
  have eC : e ≠ D + 1 := fun q => by rw [q, cnone] at he2; cases he2
  have iC : it ≠ D + 1 := fun q => by rw [q, cnone] at hi2; cases hi2
  have hX := hideAll_size [e, it] h2
  have hax2 : h2.IsList ax items.toArray := list_up hl l2
  have axe : ax ≠ e := fun q => by
    obtain ⟨oa, hoa, hca, _⟩ := hax2
    rw [q, he2] at hoa; cases hoa; simp at hca
  have axi : ax ≠ it := fun q => by
    obtain ⟨oa, hoa, hca, _⟩ := hax2
    rw [q, hi2] at hoa; cases hoa; rw [hic] at hca; simp at hca
  have kX : ∀ p o, h2.get? p = some o → p ≠ e → p ≠ it → (hideAll h2 [e, it]).get? p = some o := fun p o q a1 a2 => hideAll_get _ q (by simp [a1, a2])
  have fresh0 : ∀ p o, h.get? p = some o → p ≠ e ∧ p ≠ it := fun p o q => ⟨(fun r => by have z := (f2 (e, _) (.head _)).2; rw [← r, q] at z; cases z), (fun r => by have z := (f2 (it, _) (.tail _ (.head _))).2; rw [← r, q] at z; cases z)⟩
  have F3 : Fr (hideAll h2 [e, it]) (D + 1) h3 (frm []) := ⟨hns3, fun p o q => old3 _ _ (of_hideAll _ q), by rw [hX, hD]; exact Nat.le_succ _⟩
  have dX : (hideAll h2 [e, it]).get? D = none := by
    cases q : (hideAll h2 [e, it]).get? D with
    | none => rfl
    | some o => have := of_hideAll _ q; rw [dnone] at this; cases this
  have W := WalksT.enumerate (prog := prog) (w := w) (A := A) hh e it ax hne axe axi items.toArray
  have loop : ∀ s₃ : Shared, s₃ = ⟨h3, g, d, tk2, os⟩ →
      codeAny (model prog w) A (.compLoop (.DictComp kx (.Name a pva) [⟨.Tuple [.Name a pa, .Name b pb] kk tp, iter, [], 0⟩] scope pos) 0 (.ref e) (.ref D) (compEnvC scope cl (D + 1) env))
        (compPost (model prog w) A (fun _ _ => False) (some (assign (.Name y py) env)) (fun _ s' => thenQ prog w A env rest Q .next s') (.ref D) (D + 1)) s₃ := by
    rintro s₃ rfl
    refine codeAny_loop rfl (fun k s => ∃ i h tk lc oe oi od kvs, k = items.length - i ∧ i ≤ items.length ∧ s = ⟨h, g, d, tk, os⟩ ∧ Fr (hideAll h2 [e, it]) (D + 1) h (frm lc) ∧ News (hideAll h2 [e, it]) (D + 1) h [(e, oe), (it, oi), (D, od)] ∧
      (∃ old, IsEnum h e it i old) ∧ h.IsListIter it ax i ∧ od.IsDictOf (intKind prog w) kvs ∧ PlOf kf i kvs) ?_ items.length
      ⟨0, h3, tk2, [], enumO it, oi, { cls := .type "dict", dict := none, data := .dict #[] }, [], rfl, Nat.zero_le _, rfl, F3, ?_, ⟨_, old3 _ _ he2⟩, ⟨oi, old3 _ _ hi2, hic, hid⟩, ?_, rfl, fun j hj => absurd hj (Nat.not_lt_zero _)⟩
    · rintro k s ⟨i, h4, tk4, lc, oe, oi4, od, kvs, rfl, hi, rfl, F4, N4, hE, hI, hod, hpl⟩
      have hax4 : h4.IsList ax items.toArray := by
        obtain ⟨oa, hoa, ra⟩ := hax2
        exact ⟨oa, F4.keep _ _ (kX _ _ hoa axe axi), ra⟩
      have e4 := N4 _ (.head _)
      have i4 := N4 _ (.tail _ (.head _))
      have d4 := N4 _ (.tail _ (.tail _ (.head _)))
      have Dd4 : h4.DictOf (intKind prog w) D kvs := Heap.dictOf_iff.mpr ⟨od, d4.1, hod⟩
      show wpAny _ A ((compTurn (.DictComp kx (.Name a pva) [⟨.Tuple [.Name a pa, .Name b pb] kk tp, iter, [], 0⟩] scope pos) 0 (.ref e) (.ref D) (compEnvC scope cl (D + 1) env)).onRaise (fun x => do noteFrame x (compEnvC scope cl (D + 1) env); theTreesLotGoes x)) _ _ _
      refine wpAny_noted ?_
      rw [compTurn_dict]
      refine wpAny_bind (wpAny_standAt (wpAny_bind ?_))
      have keepF : ∀ h5, (∀ b o, b ∉ [e, it] → h4.get? b = some o → h5.get? b = some o) → Fr (hideAll h2 [e, it]) (D + 1) h5 (frm lc) := fun h5 hk => by
        obtain ⟨oC, c1, c2, hoC, c3⟩ := F4.ns
        refine ⟨⟨oC, c1, c2, hk _ _ (by simp [Ne.symm eC, Ne.symm iC]) hoC, c3⟩, fun p o q => hk p o (fun hm => ?_) (F4.keep _ _ q), F4.above⟩
        rw [hideAll_none _ hm] at q; cases q
      rcases Nat.lt_or_ge i items.length with hlt | hge
      · refine W.item i ⟨h4, g, d, tk4, os⟩ _ _ (by simpa using hlt) ⟨hE, hI, hax4⟩ fun T vals h5 tk5 hP hTs hT hM hk5 => ?_
        obtain ⟨t, x, hx, rfl⟩ := hP
        refine wpAny_bind (W.go _ _ _ i T ⟨h5, g, d, tk5, os⟩ _ _ hM fun h6 hst6 hk6 => ?_)
        have TnE : T ∉ [e, it] := W.apart _ _ _ hM
        have hk46 : ∀ b o, b ∉ [e, it] → h4.get? b = some o → h6.get? b = some o := fun b o hb q => hk6 b o hb (hk5 b o hb q)
        have F6 := keepF h6 hk46
        obtain ⟨⟨old6, hE6⟩, hI6, hax6⟩ := hst6
        obtain ⟨oi6, hoi6, hic6, hid6⟩ := id hI6
        have N6 : News (hideAll h2 [e, it]) (D + 1) h6 [(e, enumAt it ((i + 1 : Nat) : Int) old6), (it, oi6), (D, od)] := by
          intro p hp
          rcases List.mem_cons.mp hp with rfl | hp
          · exact ⟨hE6, e4.2⟩
          rcases List.mem_cons.mp hp with rfl | hp
          · exact ⟨hoi6, i4.2⟩
          rw [List.mem_singleton.mp hp]
          exact ⟨hk46 _ _ (by simp [Ne.symm eD, Ne.symm iD]) d4.1, d4.2⟩
        have hT6 : h6.IsTuple T #[.int i t, x] := by
          obtain ⟨oT, hoT, rT⟩ := hT
          exact ⟨oT, hk6 _ _ TnE hoT, rT⟩
        have kn : ∀ z, scope.names.lookup z = some .local → (compEnvC scope cl (D + 1) env).kindOf z = some .local := fun z hz => lookup_relabel_local hz
        refine wpAny_bind (as_two hh F6 N6 hT6 (fun h7 tk7 F7 N7 => ?_) ⟨rfl, by simp [compEnvC, relabel, hkind]⟩ (kn _ hxa) (kn _ hxb))
        refine wpAny_bind (wpAny_of_eq (a := true) rfl ?_)
        rw [if_pos rfl]
        have up7 : ∀ p o, h.get? p = some o → h7.get? p = some o := fun p o q => F7.keep _ _ (kX _ _ (l2 _ _ q) (fresh0 _ _ q).1 (fresh0 _ _ q).2)
        have hb7 : frm ((b, x) :: (a, .int i t) :: lc) b = some x := frm_head
        have ha7 : frm ((b, x) :: (a, .int i t) :: lc) a = some (.int i t) := frm_tail hba frm_head
        refine wpAny_bind (wpAny_bind ((hkey (D + 1) i x h7 _ (by simpa using hx) up7 F7.ns hb7).at fun kv n8 h8 tk8 l8 f8 hkv => wpAny_bind (wpAny_holding ?_)))
        have hval : EX prog w A (eval (.Name a pva) (compEnvC scope cl (D + 1) env)) h8 (Im (IsI i)) := ex_local (ns_up F7.ns l8) ha7 isI (kn _ hxa) (by simp [compEnvC, relabel, hkind]) hda
        refine hval.at fun vv n9 h9 tk9 l9 f9 hvv => wpAny_bind (wpAny_standAt (wpAny_holding ?_))
        obtain ⟨tkv, rfl⟩ := hkv.2
        have F9 := fr_up F7 (l8.trans l9)
        have N9 := nw_up N7 (l8.trans l9)
        have Dd9 : h9.DictOf (intKind prog w) D kvs := Heap.dictOf_iff.mpr ⟨od, (N9 _ (.tail _ (.tail _ (.head _)))).1, hod⟩
        refine wpAny_dictSet_pairs (s := ⟨h9, g, d, tk9, os⟩) (k := kf i) (by simp [intKind, Value.isInt]) Dd9 (fun h10 hd10 hs10 => ?_) (by rw [hpl.1]; exact Nat.le_trans (Nat.le_of_lt (Nat.lt_of_lt_of_le hlt hsz)) (by decide))
        rw [stored_absent (hpl.absent fun j hj q => by have := inj j i (by omega) hlt q; omega)] at hd10
        obtain ⟨od', hod', hid'⟩ := Heap.dictOf_iff.mp hd10
        have kk10 : ∀ p o, p ≠ D → h9.get? p = some o → h10.get? p = some o := fun p o hp q => (hs10.2 p hp).trans q
        have F10 : Fr (hideAll h2 [e, it]) (D + 1) h10 (frm ((b, x) :: (a, .int i t) :: lc)) := fr_mu F9 N9 (.tail _ (.tail _ (.head _))) kk10
        refine wpAny_pure ⟨rfl, items.length - (i + 1), by omega, i + 1, h10, _, _, enumAt it ((i + 1 : Nat) : Int) old6, oi6, od', _, rfl, hlt, rfl, F10, ?_, ⟨old6, kk10 _ _ eD (N9 _ (.head _)).1⟩, ⟨oi6, kk10 _ _ iD (N9 _ (.tail _ (.head _))).1, hic6, hid6⟩, hid', hpl.snoc hvv.2⟩
        intro p hp
        rcases List.mem_cons.mp hp with rfl | hp
        · exact ⟨kk10 _ _ eD (N9 _ (.head _)).1, e4.2⟩
        rcases List.mem_cons.mp hp with rfl | hp
        · exact ⟨kk10 _ _ iD (N9 _ (.tail _ (.head _))).1, i4.2⟩
        rw [List.mem_singleton.mp hp]
        exact ⟨hod', d4.2⟩
      · have hin : i = items.length := by omega
        subst hin
        refine W.done ⟨h4, g, d, tk4, os⟩ _ _ ⟨by simpa using hE, by simpa using hI, hax4⟩ fun h5 tk5 hk5 => ?_
        refine wpAny_pure ?_
        have F5 := keepF h5 hk5
        have up5 : ∀ p o, h2.get? p = some o → p ≠ e → p ≠ it → h5.get? p = some o := fun p o q a1 a2 => F5.keep _ _ (kX _ _ q a1 a2)
        have dD5 := hk5 _ _ (by simp [Ne.symm eD, Ne.symm iD]) d4.1
        have L1 : L ≠ e := fun q => by rw [q] at hoL; rw [he2] at hoL; have z := (f2 (e, _) (.head _)).2; obtain ⟨oq, hoq⟩ := ns_isSome F.ns; rw [← q, hoq] at z; cases z
        have L2 : L ≠ it := fun q => by have z := (f2 (it, _) (.tail _ (.head _))).2; obtain ⟨oq, hoq⟩ := ns_isSome F.ns; rw [← q, hoq] at z; cases z
        have LD : D ≠ L := fun q => by rw [← q, dnone] at hoL; cases hoL
        have LC : D + 1 ≠ L := fun q => by rw [← q, cnone] at hoL; cases hoL
        obtain ⟨oLx, ax1, ax2, hoLx, ax3⟩ := F2.ns
        have FL : Fr h₀ L h5 (frm l) := ⟨⟨oLx, ax1, ax2, up5 _ _ hoLx L1 L2, ax3⟩, fun p o q => by
          have z := F.keep _ _ q
          exact up5 _ _ (l2 _ _ z) (fresh0 _ _ z).1 (fresh0 _ _ z).2, F.above⟩
        have NL : News h₀ L h5 ((D, od) :: news) := fun q hq => by
          rcases List.mem_cons.mp hq with rfl | hq
          · exact ⟨dD5, LD, (show Le h₀ h2 from F2.keep).none dnone⟩
          · have z := N _ hq
            exact ⟨up5 _ _ (l2 _ _ z.1) (fresh0 _ _ z.1).1 (fresh0 _ _ z.1).2, z.2⟩
        show wpAny _ A (assign (.Name y py) env (.ref D)) _ _ _
        refine wpAny_assign_Name (st_store FL NL (fun h6 tk6 F6 N6 k6 => ?_) ⟨hLe, hkf⟩ hy)
        obtain ⟨oC, c1, c2, hoC, c3⟩ := F5.ns
        refine ⟨frm lc, ⟨oC, c1, c2, k6 _ _ LC hoC, c3⟩, fun h7 hs7 => ?_⟩
        have k7 : ∀ p o, p ≠ D + 1 → h6.get? p = some o → h7.get? p = some o := fun p o hp q => (hs7.2 p hp).trans q
        have c0 : h₀.get? (D + 1) = none := (show Le h₀ h2 from F2.keep).none cnone
        obtain ⟨oL6, b1, b2, hoL6, b3⟩ := F6.ns
        refine (H D od kvs h7 _ hod hpl ⟨⟨oL6, b1, b2, k7 _ _ (Ne.symm LC) hoL6, b3⟩, fun p o q => k7 _ _ (fun r => by rw [r, c0] at q; cases q) (F6.keep _ _ q), F6.above⟩ (fun q hq => ?_) (fun q hq r => ?_) (hD ▸ Heap.lt_size hoL)).run
        · refine ⟨k7 _ _ (fun r => ?_) (N6 _ hq).1, (N6 _ hq).2⟩
          rcases List.mem_cons.mp hq with rfl | hq
          · exact absurd r (Nat.ne_of_lt (Nat.lt_succ_self _))
          · have := l2 _ _ (N _ hq).1
            rw [r, cnone] at this; cases this
        · have := l2 _ _ (N _ hq).1
          rw [r, dnone] at this; cases this
    · intro p hp
      rcases List.mem_cons.mp hp with rfl | hp
      · exact ⟨old3 _ _ he2, eC, hideAll_none _ (.head _)⟩
      rcases List.mem_cons.mp hp with rfl | hp
      · exact ⟨old3 _ _ hi2, iC, hideAll_none _ (.tail _ (.head _))⟩
      rw [List.mem_singleton.mp hp]
      exact ⟨d3, Nat.ne_of_lt (Nat.lt_succ_self _), dX⟩
    · obtain ⟨o, ho, hi⟩ := Heap.dictOf_iff.mp (Heap.DictOf.new (knd := intKind prog w) h2)
      rw [Heap.get?_push_size _ rfl] at ho
      rw [Option.some.inj ho]; exact hi
  exact codeAny_compStart_dict (loop _ rfl) (W.self 0 _ _ _ ⟨⟨_, old3 _ _ he2⟩, ⟨oi, old3 _ _ hi2, hic, hid⟩, list_up hax2 old3⟩ (loop _ rfl))
end
end Mine
end
section
set_option maxRecDepth 100000
set_option linter.unusedVariables false
open PySem PySem.W PyProof.Rows PySem.Calls PySem.Spec PySem.SeqAt
namespace Mine
/-! a stack's tuple as data -/
def stkD (st : List Sta) : List PyData := st.map fun s => .str s.str
theorem stk_reads {h : Heap} : ∀ {st : List Sta} {vs : List Value}, StkV st vs → ReadsAll h vs (stkD st) []
  | [], _, .nil => .nil
  | s :: st, _, .cons (b := b) hb r => by
    obtain ⟨t, rfl⟩ := hb
    exact .cons (as := []) (bs := []) (.str _ _) (stk_reads r)
theorem stk_read {h : Heap} {a : Addr} {st : List Sta} {vs : List Value} (ht : h.IsTuple a vs.toArray) (V : StkV st vs) : Reads h (.ref a) (.tuple (stkD st)) [] := by
  obtain ⟨o, ho, hc, n, hd⟩ := ht
  exact .tuple ho hc hd (stk_reads V)
theorem stk_lay : ∀ st : List Sta, PyData.canLayAll0 (stkD st) = true
  | [] => rfl
  | s :: r => by
    show (PyData.canLay0 (.str s.str) && PyData.canLayAll0 (stkD r)) = true
    rw [stk_lay r, Bool.and_true]
    cases s <;> decide +kernel
theorem stk_depth : ∀ st : List Sta, PyData.depthAll (stkD st) ≤ 1
  | [] => by simp [stkD, PyData.depthAll]
  | s :: r => by
    have := stk_depth r
    simp only [stkD, List.map_cons, PyData.depthAll, PyData.depth] at this ⊢
    omega
theorem stk_shaped (st : List Sta) : shaped (.tuple (stkD st)) = true := by
  unfold shaped
  have := stk_depth st
  have e : PyData.canLay0 (.tuple (stkD st)) = true := stk_lay st
  have e2 : (PyData.tuple (stkD st)).depth ≤ 64 := by show PyData.depthAll (stkD st) + 1 ≤ 64; omega
  rw [e, decide_eq_true e2]; rfl
theorem stk_noMix : ∀ a b : List Sta, noMixAll (stkD a) (stkD b) = true
  | [], [] => rfl
  | [], _ :: _ => rfl
  | _ :: _, [] => rfl
  | x :: a, y :: b => by
    show (noMix (.str x.str) (.str y.str) && noMixAll (stkD a) (stkD b)) = true
    rw [stk_noMix a b]; rfl
theorem stk_same : ∀ a b : List Sta, PySem.Spec.sameAll (stkD a) (stkD b) = decide (a = b)
  | [], [] => rfl
  | [], _ :: _ => rfl
  | _ :: _, [] => rfl
  | x :: a, y :: b => by
    show (PySem.Spec.same (.str x.str) (.str y.str) && PySem.Spec.sameAll (stkD a) (stkD b)) = _
    rw [stk_same a b]
    have e : PySem.Spec.same (.str x.str) (.str y.str) = decide (x = y) := by cases x <;> cases y <;> decide +kernel
    rw [e]
    by_cases h1 : x = y <;> by_cases h2 : a = b <;> simp [h1, h2]
section
variable {prog : Program} {w : World} {A : Around} {h : Heap} {env : Env} {P : Value → Prop} {h₀ : Heap} {L : Addr} {m : Str → Option Value} {l : List (Str × Value)} {news news' : List (Addr × Obj)}
  {g : Array GenState} {d : Drawn} {tk : Nat} {os : OsState} {E : Value → Shared → Prop} {Q : Flow → Shared → Prop}
theorem op_eqStk {a b : Addr} {st st' : List Sta} {vs vs' : List Value} (hu : A.units + 64 < cLine) (h1 : h.IsTuple a vs.toArray) (h2 : h.IsTuple b vs'.toArray) (V1 : StkV st vs) (V2 : StkV st' vs') : EX prog w A (compareOp .Eq (.ref a) (.ref b)) h (Im (IsB (decide (st = st')))) :=
  ⟨fun h' g d tk os Q E le H => eq_dataH_same (s := ⟨h', g, d, tk, os⟩) (stk_read (tuple_up h1 le) V1) (stk_read (tuple_up h2 le) V2) (stk_shaped st) (stk_shaped st') hu (stk_noMix st st') (by
    show Q (.bool (PySem.Spec.sameAll (stkD st) (stkD st'))) _
    rw [stk_same]; exact H _ [] _ _ Le.refl Fresh.nil ⟨rfl, rfl⟩)⟩
theorem ex_ifexp {test body orelse : Expr} {pos : Pos} {b : Bool} {V : Value → List (Addr × Obj) → Prop} (ht : EX prog w A (PySem.isTrue test env (eval test env)) h (Im (· = b))) (h1 : b = true → EX prog w A (eval body env) h V) (h2 : b = false → EX prog w A (eval orelse env) h V) :
    EX prog w A (eval (.IfExp test body orelse pos) env) h V := ⟨fun h1' g d tk os Q E le H => by
  refine IfExp_ (ht.run h1' g d tk os _ E le fun c n h2' tk2 l2 f2 hc => ?_)
  have fwd : ∀ {t : Sem Value}, EX prog w A t h V → wpAny (model prog w) A t Q E ⟨h2', g, d, tk2, os⟩ := fun x => x.run h2' g d tk2 os Q E (le.trans l2) fun v n3 h3 tk3 l3 f3 hv => H v n3 h3 tk3 (l2.trans l3) (fun p hp => ⟨(f3 p hp).1, l2.none (f3 p hp).2⟩) hv
  rw [hc.2]
  cases b with
  | true => exact fwd (h1 rfl)
  | false => exact fwd (h2 rfl)⟩
/-- two operands with new objects -/
theorem ex_binopN {e1 e2 : Expr} {o : Operator} {p : Pos} {V1 V2 V : Value → List (Addr × Obj) → Prop} (x1 : EX prog w A (eval e1 env) h V1) (x2 : EX prog w A (eval e2 env) h V2)
    (hop : ∀ a n1 b n2 h3, Le h h3 → (∀ q ∈ n1, h3.get? q.1 = some q.2) → (∀ q ∈ n2, h3.get? q.1 = some q.2) → V1 a n1 → V2 b n2 → EX prog w A (binaryOp o a b) h3 (fun v n => V v (n ++ (n2 ++ n1)))) : EX prog w A (eval (.BinOp e1 o e2 p) env) h V := ⟨fun h1 g d tk os Q E le H => by
  with_reducible refine wpAny_BinOp (x1.run h1 g d tk os _ E le fun a n1 h2 tk2 l2 f2 v1 => x2.run h2 g d tk2 os _ E (le.trans l2) fun b n2 h3 tk3 l3 f3 v2 => ?_)
  have f23 := f2.append f3 l2 l3
  exact (hop a n1 b n2 h3 ((le.trans l2).trans l3) (fun q hq => l3 _ _ (f2 q hq).1) (fun q hq => (f3 q hq).1) v1 v2).run h3 g d tk3 os Q E Le.refl fun v n h4 tk4 l4 f4 hv => H v _ h4 tk4 ((l2.trans l3).trans l4) (f23.append f4 (l2.trans l3) l4) hv⟩
theorem ex_cmpN {e1 e2 : Expr} {o : CmpOp} {p : Pos} {V1 V2 V : Value → List (Addr × Obj) → Prop} (x1 : EX prog w A (eval e1 env) h V1) (x2 : EX prog w A (eval e2 env) h V2)
    (hop : ∀ a n1 b n2 h3, Le h h3 → (∀ q ∈ n1, h3.get? q.1 = some q.2) → (∀ q ∈ n2, h3.get? q.1 = some q.2) → V1 a n1 → V2 b n2 → EX prog w A (compareOp o a b) h3 (fun v n => V v (n ++ (n2 ++ n1)))) (hb : behindInMarks o e2 = false := by kernel_rfl) : EX prog w A (eval (.Compare e1 [o] [e2] p) env) h V := ⟨fun h1 g d tk os Q E le H => by
  with_reducible refine wpAny_Compare1 (x1.run h1 g d tk os _ E le fun a n1 h2 tk2 l2 f2 v1 => x2.run h2 g d tk2 os _ E (le.trans l2) fun b n2 h3 tk3 l3 f3 v2 => ?_) hb
  have f23 := f2.append f3 l2 l3
  exact (hop a n1 b n2 h3 ((le.trans l2).trans l3) (fun q hq => l3 _ _ (f2 q hq).1) (fun q hq => (f3 q hq).1) v1 v2).run h3 g d tk3 os Q E Le.refl fun v n h4 tk4 l4 f4 hv => H v _ h4 tk4 ((l2.trans l3).trans l4) (f23.append f4 (l2.trans l3) l4) hv⟩
theorem et_cmpN {e1 e2 : Expr} {o : CmpOp} {p : Pos} {V1 V2 : Value → List (Addr × Obj) → Prop} {b : Bool} {whole : Sem Value} (x1 : EX prog w A (eval e1 env) h V1) (x2 : EX prog w A (eval e2 env) h V2)
    (hop : ∀ a n1 b' n2 h3, Le h h3 → (∀ q ∈ n1, h3.get? q.1 = some q.2) → (∀ q ∈ n2, h3.get? q.1 = some q.2) → V1 a n1 → V2 b' n2 → EX prog w A (compareOp o a b') h3 (Im (IsB b))) (hb : behindInMarks o e2 = false := by kernel_rfl) :
    EX prog w A (PySem.isTrue (.Compare e1 [o] [e2] p) env whole) h (Im (· = b)) := ⟨fun h1 g d tk os Q E le H => by
  with_reducible refine wpAny_isTrue_Compare1 (x1.run h1 g d tk os _ E le fun a n1 h2 tk2 l2 f2 v1 => x2.run h2 g d tk2 os _ E (le.trans l2) fun b' n2 h3 tk3 l3 f3 v2 => ?_) hb
  refine (hop a n1 b' n2 h3 ((le.trans l2).trans l3) (fun q hq => l3 _ _ (f2 q hq).1) (fun q hq => (f3 q hq).1) v1 v2).run h3 g d tk3 os _ E Le.refl fun v new h4 tk4 l4 f4 hV => ?_
  exact (tr_bool (h := h) hV.2).run h4 g d tk4 os _ E (((le.trans l2).trans l3).trans l4) fun c n5 h5 tk5 l5 f5 hc => H c [] h5 tk5 (((l2.trans l3).trans l4).trans l5) Fresh.nil ⟨rfl, hc.2⟩⟩
theorem op_addL {a b : Addr} {xs ys : List Value} {n k : Nat} (h1 : h.get? a = some (lobj xs n)) (h2 : h.get? b = some (lobj ys k)) (hz : xs.length + ys.length ≤ 10000) : EX prog w A (binaryOp .Add (.ref a) (.ref b)) h (fun v new => ∃ D, v = .ref D ∧ new = [(D, lobj (xs ++ ys) 0)]) := ⟨fun h' g d tk os Q E le H => by
  refine PySem.P.add_list (s := ⟨h', g, d, tk, os⟩) (le _ _ h1) (le _ _ h2) ?_ (Nat.le_trans (m := 10000) (by simpa using hz) (by decide))
  have e : (xs.toArray ++ ys.toArray) = (xs ++ ys).toArray := by simp
  rw [e]
  refine H _ [(h'.objs.size, lobj (xs ++ ys) 0)] _ _ (fun b o q => Heap.get?_push_of_some _ q) (fun p hp => ?_) ⟨_, rfl, rfl⟩
  rw [List.mem_singleton.mp hp]
  refine ⟨Heap.get?_push_size _ rfl, ?_⟩
  cases q : h'.get? h'.objs.size with
  | none => rfl
  | some o => exact absurd (Heap.lt_size q) (Nat.lt_irrefl _)⟩
theorem op_inI {K : Addr} {kvs : List (Int × Value)} {i : Int} (hd : h.DictOf (intKind prog w) K kvs) (hs : (K == sysModules) = false) (x y : Value) (hx : IsI i x) (hy : y = .ref K) : EX prog w A (compareOp .In x y) h (Im (IsB (valueAt kvs i).isSome)) := by
  subst hy
  obtain ⟨t, rfl⟩ := hx
  exact ⟨fun h' g d tk os Q E le H => wpAny_in_of (s := ⟨h', g, d, tk, os⟩) (k := i) (by simp [intKind, Value.isInt]) hs (dict_up hd le).mapOf (H _ [] _ _ Le.refl Fresh.nil ⟨rfl, rfl⟩)⟩
theorem cl_listT {a : Addr} {vs : List Value} (hl : h.IsTuple a vs.toArray) (hz : vs.length ≤ 1000) : EX prog w A (call (.type "list") [.ref a]) h (fun v new => ∃ b n, v = .ref b ∧ new = [(b, lobj vs n)]) := ⟨fun h' g d tk os Q E le H => by
  obtain ⟨o, ho, hc, n, hd⟩ := tuple_up hl le
  refine call_list_seq (s := ⟨h', g, d, tk, os⟩) a (.inr rfl) ho hc hd (fun h2 c' hk hg => ?_) (by rw [List.size_toArray]; exact Nat.le_trans hz (by decide))
  refine H _ [(h'.objs.size, lobj vs c')] h2 tk hk (fun p hp => ?_) ⟨_, c', rfl, rfl⟩
  rw [List.mem_singleton.mp hp]
  refine ⟨hg, ?_⟩
  cases q : h'.get? h'.objs.size with
  | none => rfl
  | some o => exact absurd (Heap.lt_size q) (Nat.lt_irrefl _)⟩
end
end Mine
end
section
set_option maxRecDepth 100000
set_option linter.unusedVariables false
open PySem PySem.W PyProof.Rows PySem.Calls PySem.Spec
namespace Mine
section
variable {prog : Program} {w : World} {A : Around} {h : Heap} {env : Env} {P : Value → Prop} {h₀ : Heap} {L : Addr} {m : Str → Option Value} {l : List (Str × Value)} {news news' : List (Addr × Obj)}
  {g : Array GenState} {d : Drawn} {tk : Nat} {os : OsState} {E : Value → Shared → Prop} {Q : Flow → Shared → Prop}
/-- a, b = e -/
theorem st_tup2 {a b : Str} {pa pb tp pos : Pos} {k : Nat} {e : Expr} {rest : List Stmt} {V : Value → Value → List (Addr × Obj) → Prop} (hh : A.handled = none) (F : Fr h₀ L h (frm l)) (N : News h₀ L h news)
    (he : EX prog w A (eval e env) h (fun v new => ∃ T v1 v2 n, v = .ref T ∧ new = (T, tupO [v1, v2]) :: n ∧ V v1 v2 n))
    (H : ∀ v1 v2 n h' tk', V v1 v2 n → Fr h₀ L h' (frm ((b, v2) :: (a, v1) :: l)) → News h₀ L h' (n ++ news) → (∀ p ∈ n, ∀ q ∈ news, p.1 ≠ q.1) → WP prog w A (execs rest env) Q ⟨h', g, d, tk', os⟩)
    (hL : LocalEnv env L) (ha : env.kindOf a = some .local) (hb : env.kindOf b = some .local) (hs : swapsWithSole [.Tuple [.Name a pa, .Name b pb] k tp] e pos.line env = pure false)
    (hw : swappedStores [.Tuple [.Name a pa, .Name b pb] k tp] e env = pure none) :
    WP prog w A (execs (.Assign [.Tuple [.Name a pa, .Name b pb] k tp] e pos :: rest) env) Q ⟨h, g, d, tk, os⟩ := by
  refine wp_cons ⟨?_⟩
  refine Assign_Tuple (he.at fun v new h2 tk2 l2 f2 hv => ?_) hs hw
  obtain ⟨T, v1, v2, n, rfl, rfl, hV⟩ := hv
  have F2 := fr_up F l2
  have N2 := nw_add F N l2 f2
  refine as_two hh F2 N2 ⟨_, (f2 _ (.head _)).1, rfl, _, rfl⟩ (fun h' tk' F' N' => ?_) hL ha hb
  refine (H v1 v2 n h' tk' hV F' (fun q hq => N' q ?_) fun p hp q hq e => ?_).run
  · rcases List.mem_append.mp hq with hq | hq
    · exact List.mem_append_left _ (.tail _ hq)
    · exact List.mem_append_right _ hq
  · have := (f2 p (.tail _ hp)).2
    rw [e, (N q hq).1] at this; cases this
/-- a, b, c = e where a is a cell's name -/
theorem st_tup3C {a b c : Str} {pa pb pc tp pos : Pos} {k : Nat} {e : Expr} {rest : List Stmt} {ca : Addr} {oc : Obj} {v0 : Option Value} {V : Value → Value → Value → List (Addr × Obj) → Prop} (hh : A.handled = none) (F : Fr h₀ L h (frm l)) (N : News h₀ L h ((ca, oc) :: news)) (hd : oc.data = .cell v0) (hne : ∀ q ∈ news, q.1 ≠ ca)
    (he : EX prog w A (eval e env) h (fun v new => ∃ T v1 v2 v3 n, v = .ref T ∧ new = (T, tupO [v1, v2, v3]) :: n ∧ V v1 v2 v3 n))
    (H : ∀ v1 v2 v3 n o' h' tk', V v1 v2 v3 n → o'.data = .cell (some v1) → Fr h₀ L h' (frm ((c, v3) :: (b, v2) :: l)) → News h₀ L h' ((ca, o') :: (n ++ news)) → (∀ p ∈ n, p.1 ≠ ca ∧ ∀ q ∈ news, p.1 ≠ q.1) → WP prog w A (execs rest env) Q ⟨h', g, d, tk', os⟩)
    (hL : LocalEnv env L) (ha : env.kindOf a = some .cell) (hca : env.cells.lookup a = some ca) (hb : env.kindOf b = some .local) (hc : env.kindOf c = some .local) (hs : swapsWithSole [.Tuple [.Name a pa, .Name b pb, .Name c pc] k tp] e pos.line env = pure false)
    (hw : swappedStores [.Tuple [.Name a pa, .Name b pb, .Name c pc] k tp] e env = pure none) :
    WP prog w A (execs (.Assign [.Tuple [.Name a pa, .Name b pb, .Name c pc] k tp] e pos :: rest) env) Q ⟨h, g, d, tk, os⟩ := by
  refine wp_cons ⟨?_⟩
  refine Assign_Tuple (he.at fun v new h2 tk2 l2 f2 hv => ?_) hs hw
  obtain ⟨T, v1, v2, v3, n, rfl, rfl, hV⟩ := hv
  have F2 := fr_up F l2
  have N2 := nw_add F N l2 f2
  have dj : ∀ p ∈ n, p.1 ≠ ca ∧ ∀ q ∈ news, p.1 ≠ q.1 := fun p hp => by
    refine ⟨fun e => ?_, fun q hq e => ?_⟩
    · have := (f2 p (.tail _ hp)).2
      rw [e, (N _ (.head _)).1] at this; cases this
    · have := (f2 p (.tail _ hp)).2
      rw [e, (N q (.tail _ hq)).1] at this; cases this
  refine unpackN_ (s := ⟨h2, g, d, tk2, os⟩) F2 N2 ⟨_, (f2 _ (.head _)).1, rfl, _, rfl⟩ hh rfl rfl fun h' F' N' => ?_
  show wpAny _ _ (holding [v2, v3] (assign (.Name a pa) env v1) >>= fun _ => holding [v3] (assign (.Name b pb) env v2) >>= fun _ => holding [] (assign (.Name c pc) env v3) >>= fun _ => pure ()) _ _ _
  have c' := N' (ca, oc) (List.mem_append_right _ (.head _))
  refine wpAny_bind (wpAny_holding (wpAny_assign_Name (wpAny_storeName_cell (s := ⟨h', g, d, tk2, os⟩) hL.fn ha hca ⟨oc, c'.1, hd⟩ fun h3 hc3 hs3 => ?_)))
  obtain ⟨o', ho', hd'⟩ := hc3
  have kk : ∀ b ob, b ≠ ca → h'.get? b = some ob → h3.get? b = some ob := fun b ob hb e => (hs3.2 b hb).trans e
  have F3 : Fr h₀ L h3 (frm l) := fr_mu F' N' (List.mem_append_right _ (.head _)) kk
  have N3 : News h₀ L h3 ((ca, o') :: (n ++ news)) := fun q hq => by
    rcases List.mem_cons.mp hq with rfl | hq
    · exact ⟨ho', c'.2⟩
    rcases List.mem_append.mp hq with hq | hq
    · have z := N' q (List.mem_append_left _ (.tail _ hq))
      exact ⟨kk _ _ (dj q hq).1 z.1, z.2⟩
    · have z := N' q (List.mem_append_right _ (.tail _ hq))
      exact ⟨kk _ _ (hne q hq) z.1, z.2⟩
  refine wpAny_bind (wpAny_holding (wpAny_assign_Name (st_store F3 N3 (fun h4 tk4 F4 N4 _ => ?_) hL hb)))
  refine wpAny_bind (wpAny_holding (wpAny_assign_Name (st_store F4 N4 (fun h5 tk5 F5 N5 _ => ?_) hL hc)))
  exact wpAny_pure (H v1 v2 v3 n o' h5 tk5 hV hd' F5 N5 dj).run
/-- xs[k:] -/
theorem ex_tailL {value e : Expr} {sp pos : Pos} {D : Addr} {vs : List Value} {k : Nat} (hv : EX prog w A (eval value env) h (Im (· = .ref D))) (he : EX prog w A (eval e env) h (Im (IsI (k : Int)))) (hl : h.IsList D vs.toArray) (hz : vs.length ≤ 1000)
    (ht : ∀ o r, letTemporaryGo value o r = pure () := by intro _ _; kernel_rfl) : EX prog w A (eval (.Subscript value (.Slice (some e) none none sp) pos) env) h (fun v new => ∃ b, v = .ref b ∧ new = [(b, lobj (vs.drop k) 0)]) := ⟨fun h1 g d tk os Q E le H => by
  refine wpAny_Subscript_list_slice (hv.run h1 g d tk os _ E le fun a n2 h2 tk2 l2 f2 ha => ?_) ht
  show wpAny _ _ (eval e env) _ _ _
  refine he.run h2 g d tk2 os _ E (le.trans l2) fun lv n3 h3 tk3 l3 f3 hlv => ?_
  rw [evalPart_none]
  refine wpAny_pure ⟨D, vs.toArray, some k, none, ha.2, list_up hl ((le.trans l2).trans l3), by rw [List.size_toArray]; exact Nat.le_trans hz (by decide), ?_, .none, ?_⟩
  · obtain ⟨t, rfl⟩ := hlv.2; exact .int _ _
  rw [slicePick_from']
  have l4 : Le h3 (h3.push { cls := .type "slice", data := .fields #[lv, .none, .none] }) := fun b o q => Heap.get?_push_of_some _ q
  refine H _ [(h3.objs.size + 1, lobj (vs.drop k) 0)] _ _ (((l2.trans l3).trans l4).trans fun b o q => Heap.get?_push_of_some _ q) (fun p hp => ?_) ⟨_, rfl, rfl⟩
  rw [List.mem_singleton.mp hp]
  have hs : (h3.push { cls := .type "slice", data := .fields #[lv, .none, .none] }).objs.size = h3.objs.size + 1 := Heap.size_push ..
  refine ⟨by rw [← hs]; exact Heap.get?_push_size _ rfl, ?_⟩
  cases q : h1.get? (h3.objs.size + 1) with
  | none => rfl
  | some o => exact absurd (Heap.lt_size (l3 _ _ (l2 _ _ q))) (Nat.not_lt.mpr (Nat.le_succ _))⟩

/-- a comprehension's values and their objects -/
inductive CompAll (V : Value → Value → List (Addr × Obj) → Prop) : List Value → List Value → List (Addr × Obj) → Prop
  | nil : CompAll V [] [] []
  | snoc {xs ys objs x y os} : CompAll V xs ys objs → V x y os → CompAll V (xs ++ [x]) (ys ++ [y]) (os ++ objs)
theorem CompAll.mono {V : Value → Value → List (Addr × Obj) → Prop} {xs ys : List Value} {objs : List (Addr × Obj)} {h : Heap} {G : Value → Value → Prop} (c : CompAll V xs ys objs) (hG : ∀ x y os, V x y os → (∀ p ∈ os, h.get? p.1 = some p.2) → G x y) (hk : ∀ p ∈ objs, h.get? p.1 = some p.2) : Paired G xs ys := by
  induction c with
  | nil => exact .nil
  | snoc c hv ih => exact paired_append (ih fun p hp => hk p (List.mem_append_right _ hp)) (.cons (hG _ _ _ hv fun p hp => hk p (List.mem_append_left _ hp)) .nil)
theorem ex_compN {elt iter : Expr} {x : Str} {px : Pos} {scope : Scope} {cl : List (Str × Addr)} {pos : Pos} {items : List Value} {V : Value → Value → List (Addr × Obj) → Prop}
    (hh : A.handled = none) (hclos : closureFor scope env = pure cl) (hcell : ∀ y ∈ scope.names, y.2 ≠ .cell) (hkind : scope.kind = .function)
    (hnames : ∀ y ∈ scope.names, y.2 = .local → scope.names.lookup y.1 = some .local) (hx : scope.names.lookup x = some .local)
    (hit : EX prog w A (eval iter env) h (fun v new => ∃ ax n, v = .ref ax ∧ new = [(ax, lobj items n)])) (hsz : items.length ≤ 900)
    (helt : ∀ C v h2 m₂, v ∈ items → Le h h2 → h2.Ns C m₂ → m₂ x = some v → EX prog w A (eval elt (compEnvC scope cl C env)) h2 (V v))
    (hs : ∀ x, foldedSetIterable iter env x = pure x := by intro _; kernel_rfl) :
    EX prog w A (eval (.ListComp elt [⟨.Name x px, iter, [], 0⟩] scope pos) env) h (fun v new => ∃ D ys n objs, v = .ref D ∧ new = (D, lobj ys n) :: objs ∧ CompAll V items ys objs) := by
  refine ⟨fun h1 g d tk os Q E le H => ?_⟩
  rw [eval_ListComp]
  refine wpAny_comprehension_free (use := none) rfl hs hclos hkind hnames (hit.run h1 g d tk os _ E le fun xv n1 h2 tk2 l2 f2 hv => ?_)
  obtain ⟨ax, n, rfl, rfl⟩ := hv
  have hax := (f2 _ (.head _)).1
  refine wpAny_pyIter_list (s := ⟨h2, g, d, tk2, os⟩) ⟨_, hax, rfl, n, rfl⟩ ?_
  refine wpAny_newObj_type (wpAny_newFunctionEnv hcell (by intro y hy; simp at hy) (fun h3 hns3 hsb3 => ?_) hkind)
  dsimp only at hns3 hsb3 ⊢
  simp only [Heap.size_push] at hns3 hsb3 ⊢
  generalize hI : h2.objs.size = I at hns3 hsb3 ⊢
  have hz1 : (h2.push { cls := .type "list_iterator", data := .fields #[.ref ax, .int 0 0] }).objs.size = I + 1 := by rw [Heap.size_push, hI]
  have nnone : ∀ {a}, I ≤ a → h2.get? a = none := fun {a} ha => by
    cases q : h2.get? a with
    | none => rfl
    | some o => have := Heap.lt_size q; rw [hI] at this; exact absurd this (Nat.not_lt.mpr ha)
  have i0 : h2.get? I = none := nnone (Nat.le_refl _)
  have d0 : h2.get? (I + 1) = none := nnone (Nat.le_succ _)
  have c0 : h2.get? (I + 1 + 1) = none := nnone (Nat.le_succ_of_le (Nat.le_succ _))
  have old3 : Le h2 h3 := fun p o q => hsb3.extBut p o (fun r => by rw [r, c0] at q; cases q) (Heap.get?_push_of_some _ (Heap.get?_push_of_some _ (Heap.get?_push_of_some _ q)))
  have iI : h3.get? I = some { cls := .type "list_iterator", data := .fields #[.ref ax, .int 0 0] } := hsb3.extBut _ _ (Nat.ne_of_lt (Nat.lt_succ_of_lt (Nat.lt_succ_self _))) (Heap.get?_push_of_some _ (Heap.get?_push_of_some _ (by rw [← hI]; exact Heap.get?_push_size _ rfl)))
  have dD : h3.get? (I + 1) = some (lobj [] 0) := hsb3.extBut _ _ (Nat.ne_of_lt (Nat.lt_succ_self _)) (Heap.get?_push_of_some _ (by rw [← hz1]; exact Heap.get?_push_size _ rfl))
  have F3 : Fr h2 (I + 1 + 1) h3 (frm []) := ⟨hns3, old3, by rw [hI]; exact Nat.le_succ_of_le (Nat.le_succ _)⟩
  have loop : ∀ s₃ : Shared, s₃ = ⟨h3, g, d, tk2, os⟩ →
      codeAny (model prog w) A (.compLoop (.ListComp elt [⟨.Name x px, iter, [], 0⟩] scope pos) 0 (.ref I) (.ref (I + 1)) (compEnvC scope cl (I + 1 + 1) env))
        (compPost (model prog w) A E none Q (.ref (I + 1)) (I + 1 + 1)) s₃ := by
    rintro s₃ rfl
    refine codeAny_compLoop_tests (fun k s => ∃ i h tk lc oi ys c objs, k = items.length - i ∧ i ≤ items.length ∧ s = ⟨h, g, d, tk, os⟩ ∧ Fr h2 (I + 1 + 1) h (frm lc) ∧ News h2 (I + 1 + 1) h ((I, oi) :: (I + 1, lobj ys c) :: objs) ∧ (∀ p ∈ objs, p.1 ≠ I ∧ p.1 ≠ I + 1) ∧
      oi.cls = .type "list_iterator" ∧ oi.data = .fields #[.ref ax, .int i 0] ∧ CompAll V (items.take i) ys objs) ?_ items.length
      ⟨0, h3, tk2, [], { cls := .type "list_iterator", data := .fields #[.ref ax, .int 0 0] }, [], 0, [], rfl, Nat.zero_le _, rfl, F3, ?_, (fun _ hp => nomatch hp), rfl, rfl, .nil⟩
    · rintro k s ⟨i, h4, tk4, lc, oi, ys, c, objs, rfl, hi, rfl, F4, N4, dj4, hic, hid, hC⟩
      have lax : h4.IsList ax items.toArray := ⟨_, F4.keep _ _ hax, rfl, n, rfl⟩
      have i4 := N4 _ (.head _)
      have d4 := N4 _ (.tail _ (.head _))
      have hys : ys.length ≤ items.length := by
        have : ∀ {xs ys objs}, CompAll V xs ys objs → ys.length = xs.length := fun c => by
          induction c with
          | nil => rfl
          | snoc _ _ ih => simp [ih]
        rw [this hC, List.length_take]; omega
      rcases Nat.lt_or_ge i items.length with hlt | hge
      · refine wpAny_pyNext_list_item (s := ⟨h4, g, d, tk4, os⟩) (x := items[i]) ⟨oi, i4.1, hic, hid⟩ lax (by simp [hlt]) fun h5 hit5 hs5 => ?_
        obtain ⟨oi5, ho5, hc5, hd5⟩ := id hit5
        have k5 : ∀ b ob, b ≠ I → h4.get? b = some ob → h5.get? b = some ob := fun b ob hb e => (hs5.2 b hb).trans e
        have F5 : Fr h2 (I + 1 + 1) h5 (frm lc) := fr_mu F4 N4 (.head _) k5
        have N5 : News h2 (I + 1 + 1) h5 ((I, oi5) :: (I + 1, lobj ys c) :: objs) := fun q hq => by
          rcases List.mem_cons.mp hq with rfl | hq
          · exact ⟨ho5, i4.2⟩
          rcases List.mem_cons.mp hq with rfl | hq
          · exact ⟨k5 _ _ (Nat.succ_ne_self _) d4.1, d4.2⟩
          · have z := N4 q (.tail _ (.tail _ hq))
            exact ⟨k5 _ _ (dj4 q hq).1 z.1, z.2⟩
        have kn : (compEnvC scope cl (I + 1 + 1) env).kindOf x = some .local := lookup_relabel_local hx
        refine wpAny_assign_Name (st_store F5 N5 (fun h6 tk6 F6 N6 _ => ?_) ⟨rfl, by simp [compEnvC, relabel, hkind]⟩ kn)
        refine wpAny_of_eq (a := true) rfl ?_
        rw [if_pos rfl]
        have up : Le h h6 := (le.trans l2).trans F6.keep
        refine (helt (I + 1 + 1) items[i] h6 _ (List.getElem_mem hlt) up F6.ns frm_head).at fun y ny h7 tk7 l7 f7 hy => ?_
        have F7 := fr_up F6 l7
        have N7 := nw_up N6 l7
        refine append_at (s := ⟨h7, g, d, tk7, os⟩) (N7 _ (.tail _ (.head _))).1 (fun h8 hs8 hg8 => ?_) (Nat.le_trans (m := 1000) (by simp; omega) (by decide))
        have k8 : ∀ b ob, b ≠ I + 1 → h7.get? b = some ob → h8.get? b = some ob := fun b ob hb e => (hs8.2 b hb).trans e
        have djy : ∀ p ∈ ny, p.1 ≠ I ∧ p.1 ≠ I + 1 := fun p hp => by
          have z := (f7 p hp).2
          exact ⟨(fun e => by rw [e, (N6 _ (.head _)).1] at z; cases z), (fun e => by rw [e, (N6 _ (.tail _ (.head _))).1] at z; cases z)⟩
        refine ⟨items.length - (i + 1), by omega, i + 1, h8, tk7, _, oi5, ys ++ [y], c + 1, ny ++ objs, rfl, hlt, rfl, fr_mu F7 N7 (.tail _ (.head _)) k8, fun q hq => ?_, fun p hp => ?_, hc5, hd5, ?_⟩
        · rcases List.mem_cons.mp hq with rfl | hq
          · exact ⟨k8 _ _ (Nat.ne_of_lt (Nat.lt_succ_self _)) (N7 _ (.head _)).1, i4.2⟩
          rcases List.mem_cons.mp hq with rfl | hq
          · exact ⟨by rw [hg8]; simp, d4.2⟩
          rcases List.mem_append.mp hq with hq | hq
          · have z := (nw_add F6 N6 l7 f7) q (List.mem_append_left _ hq)
            exact ⟨k8 _ _ (djy q hq).2 z.1, z.2⟩
          · have z := N7 q (.tail _ (.tail _ hq))
            exact ⟨k8 _ _ (dj4 q hq).2 z.1, z.2⟩
        · exact (List.mem_append.mp hp).elim (djy p) (dj4 p)
        · rw [List.take_add_one, List.getElem?_eq_getElem hlt]
          exact .snoc hC hy
      · have hin : i = items.length := by omega
        subst hin
        refine wpAny_pyNext_list_end (s := ⟨h4, g, d, tk4, os⟩) hh ⟨oi, i4.1, hic, hid⟩ lax (by simp) fun h5 he5 => ?_
        obtain ⟨oC, c1, c2, hoC, c3⟩ := F4.ns
        refine ⟨frm lc, ⟨oC, c1, c2, he5 _ _ (Ne.symm i4.2.1) hoC, c3⟩, fun h6 hs6 => ?_⟩
        have k6 : ∀ b ob, b ≠ I → b ≠ I + 1 + 1 → h4.get? b = some ob → h6.get? b = some ob := fun b ob hb hc e => (hs6.2 b hc).trans (he5 _ _ hb e)
        rw [List.take_length] at hC
        refine H _ ((I + 1, lobj ys c) :: objs) h6 tk4 (l2.trans fun b o q => k6 b o (fun r => by rw [r, i0] at q; cases q) (fun r => by rw [r, c0] at q; cases q) (F4.keep _ _ q)) (fun p hp => ?_) ⟨I + 1, ys, c, objs, rfl, rfl, hC⟩
        have z := N4 p (.tail _ hp)
        refine ⟨k6 _ _ ?_ z.2.1 z.1, l2.none z.2.2⟩
        rcases List.mem_cons.mp hp with rfl | hp
        · exact Nat.succ_ne_self _
        · exact (dj4 p hp).1
    · intro p hp
      rcases List.mem_cons.mp hp with rfl | hp
      · exact ⟨iI, Nat.ne_of_lt (Nat.lt_succ_of_lt (Nat.lt_succ_self _)), i0⟩
      rw [List.mem_singleton.mp hp]
      exact ⟨dD, Nat.ne_of_lt (Nat.lt_succ_self _), d0⟩
  exact codeAny_compStart_list (loop _ rfl) (by
    refine wpAny_pyIter_listiter (s := ⟨h3, g, d, tk2, os⟩) ⟨_, iI, rfl, rfl⟩ ?_
    exact loop _ rfl)
end
end Mine
end
section
set_option maxRecDepth 100000
set_option linter.unusedVariables false
open PySem PySem.W PyProof.Rows PySem.Calls PySem.Spec
namespace Mine
local macro_rules | `(tactic| walk_at "lk") => `(tactic| repeat (first | with_reducible exact frm_head | with_reducible assumption | with_reducible refine frm_tail (by kernel_rfl) ?_))
local macro_rules | `(tactic| walk_at "zl") => `(tactic| (refine ex_local (Fr.ns (by assumption)) (by walk_at "lk") ?_ (by kernel_rfl) (by kernel_rfl) (by kernel_rfl); first | exact isI | exact isS | exact isB | rfl))
theorem et_tests1 {prog : Program} {w : World} {A : Around} {h : Heap} {env : Env} {c : Expr} {b : Bool} (he : EX prog w A (PySem.isTrue c env (eval c env)) h (Im (· = b))) :
    EX prog w A (forIn [c] true fun c r => if r = true then do let ok ← PySem.isTrue c env (eval c env); pure (ForInStep.yield ok) else pure (ForInStep.yield r)) h (Im (· = b)) :=
  ⟨fun h1 g d tk os Q E le H => wpAny_tests_one (he.run h1 g d tk os Q E le H)⟩
theorem rowV_place {h : Heap} {r r' : Row} {v : Value} (x : RowV h r v) (y : RowV h r' v) : r.place = r'.place := by
  obtain ⟨a, nt, sa, t1, t2, nvs, svs, rfl, p, _⟩ := x
  obtain ⟨a', nt', sa', t1', t2', nvs', svs', e, p', _⟩ := y
  cases e
  have := tuple_inj p p'
  simp only [Array.mk.injEq, List.cons.injEq, Value.int.injEq] at this
  have := this.1.1
  omega
/-- a row's value stands ahead of b -/
noncomputable def aheadV (h : Heap) (b : Nat) (v : Value) : Bool := @decide (∃ r, RowV h r v ∧ r.place + 4 ≤ b) (Classical.propDecidable _)
theorem aheadV_of {h : Heap} {b : Nat} {r : Row} {v : Value} (x : RowV h r v) : aheadV h b v = decide (r.place + 4 ≤ b) := by
  unfold aheadV
  by_cases hb : r.place + 4 ≤ b
  · rw [decide_eq_true hb]
    exact @decide_eq_true _ (Classical.propDecidable _) ⟨r, x, hb⟩
  · rw [decide_eq_false hb]
    refine @decide_eq_false _ (Classical.propDecidable _) ?_
    rintro ⟨r', x', hb'⟩
    have := rowV_place x x'
    omega
theorem paired_filter {α β : Type} {F : α → β → Prop} {p : α → Bool} {q : β → Bool} (hpq : ∀ a b, F a b → q b = p a) {xs : List α} {ys : List β} (h : Paired F xs ys) : Paired F (xs.filter p) (ys.filter q) := by
  induction h with
  | nil => exact .nil
  | @cons a b _ _ f _ ih =>
    have := hpq a b f
    cases hp : p a with
    | true => rw [List.filter_cons_of_pos (by simpa using hp), List.filter_cons_of_pos (by rw [this]; simpa using hp)]; exact .cons f ih
    | false => rw [List.filter_cons_of_neg (by simp [hp]), List.filter_cons_of_neg (by rw [this]; simp [hp])]; exact ih
theorem paired_mem {α β : Type} {F : α → β → Prop} {xs : List α} {ys : List β} (h : Paired F xs ys) {y : β} (hy : y ∈ ys) : ∃ x ∈ xs, F x y := by
  induction h with
  | nil => exact nomatch hy
  | cons f _ ih =>
    rcases List.mem_cons.mp hy with rfl | hy
    · exact ⟨_, .head _, f⟩
    · obtain ⟨x, hx, g⟩ := ih hy
      exact ⟨x, .tail _ hx, g⟩
theorem paired_eq {α : Type} {F : α → α → Prop} (hF : ∀ a b, F a b → b = a) {xs ys : List α} (h : Paired F xs ys) : ys = xs := by
  induction h with
  | nil => rfl
  | cons f _ ih => rw [hF _ _ f, ih]
/-! the plain side of an edit -/
/-- an elder row that stands where r does, with the same stack -/
def meets (kept : List Row) (moved : Int) (lo : Nat) (r : Row) : Option Nat :=
  if lo ≤ r.place then kept.findIdx? (fun q => decide ((q.place : Int) + moved = (r.place : Int)) && decide (q.stack = r.stack)) else none
def edRun (kept : List Row) (moved : Int) (lo : Nat) : List Row → List Row × Option Nat
  | [] => ([], none)
  | r :: rs => match meets kept moved lo r with
    | some k => ([], some k)
    | none => (r :: (edRun kept moved lo rs).1, (edRun kept moved lo rs).2)
theorem edRun_none {kept : List Row} {moved : Int} {lo : Nat} : ∀ {rs : List Row}, (∀ j r, j < rs.length → rs[j]? = some r → meets kept moved lo r = none) → edRun kept moved lo rs = (rs, none)
  | [], _ => rfl
  | r :: rs, h => by
    have h0 := h 0 r (by simp) rfl
    have ih := edRun_none (rs := rs) fun j r' hj hr => h (j + 1) r' (by simpa using hj) (by simpa using hr)
    simp only [edRun, h0, ih]
theorem edRun_some {kept : List Row} {moved : Int} {lo k : Nat} {r : Row} : ∀ {rs : List Row} {i : Nat}, (∀ j r, j < i → rs[j]? = some r → meets kept moved lo r = none) → rs[i]? = some r → meets kept moved lo r = some k → edRun kept moved lo rs = (rs.take i, some k)
  | [], _, _, hr, _ => by simp at hr
  | r0 :: rs, 0, _, hr, hm => by
    simp at hr; subst hr
    simp only [edRun, hm, List.take_zero]
  | r0 :: rs, i + 1, h, hr, hm => by
    have h0 := h 0 r0 (by omega) rfl
    have ih := edRun_some (rs := rs) (i := i) (fun j r' hj hr' => h (j + 1) r' (by omega) (by simpa using hr')) (by simpa using hr) hm
    simp only [edRun, h0, ih, List.take_succ_cons]
theorem meets_at {kept : List Row} {moved : Int} {lo k : Nat} {r rk : Row} (inc : kept.Pairwise fun a b => a.place < b.place) (hk : kept[k]? = some rk) (ek : (rk.place : Int) + moved = (r.place : Int)) :
    meets kept moved lo r = if lo ≤ r.place then (if rk.stack = r.stack then some k else none) else none := by
  unfold meets
  by_cases h1 : lo ≤ r.place
  · rw [if_pos h1, if_pos h1]
    obtain ⟨hlt, hg⟩ := List.getElem?_eq_some_iff.mp hk
    have only : ∀ j (hj : j < kept.length), (kept[j].place : Int) + moved = (r.place : Int) → j = k := fun j hj e => by
      rcases Nat.lt_trichotomy j k with q | q | q
      · have := List.pairwise_iff_getElem.mp inc j k hj hlt q; rw [hg] at this; omega
      · exact q
      · have := List.pairwise_iff_getElem.mp inc k j hlt hj q; rw [hg] at this; omega
    by_cases h2 : rk.stack = r.stack
    · rw [if_pos h2, List.findIdx?_eq_some_iff_getElem]
      refine ⟨hlt, by rw [hg]; simp [ek, h2], fun j hj => ?_⟩
      simp only [Bool.and_eq_true, decide_eq_true_eq, not_and]
      intro e
      have := only j (by omega) e
      omega
    · rw [if_neg h2, List.findIdx?_eq_none_iff]
      intro x hx
      obtain ⟨j, hj, rfl⟩ := List.mem_iff_getElem.mp hx
      by_cases e : (kept[j].place : Int) + moved = (r.place : Int)
      · have := only j hj e
        subst this
        rw [hg]; simp [h2]
      · simp [e]
  · rw [if_neg h1, if_neg h1]
theorem meets_none {kept : List Row} {moved : Int} {lo : Nat} {r : Row} (h : ∀ x ∈ kept, (x.place : Int) + moved ≠ (r.place : Int)) : meets kept moved lo r = none := by
  unfold meets
  split
  · rw [List.findIdx?_eq_none_iff]
    intro x hx
    simp [h x hx]
  · rfl
theorem paired_comp {α β γ : Type} {F : α → β → Prop} {G : β → γ → Prop} {H : α → γ → Prop} {xs : List α} {ys : List β} (p : Paired F xs ys) : ∀ {zs : List γ}, Paired G ys zs → (∀ a b c, a ∈ xs → F a b → G b c → H a c) → Paired H xs zs := by
  induction p with
  | nil => intro zs q _; cases q; exact .nil
  | cons f _ ih => intro zs q h; cases q with
    | cons g q => exact .cons (h _ _ _ (.head _) f g) (ih q fun a b c ha => h a b c (.tail _ ha))
theorem paired_map {α β γ : Type} {F : β → γ → Prop} {f : α → β} {xs : List α} {zs : List γ} (p : Paired (fun a c => F (f a) c) xs zs) : Paired F (xs.map f) zs := by
  induction p with
  | nil => exact .nil
  | cons g _ ih => exact .cons g ih
theorem paired_drop {α β : Type} {F : α → β → Prop} {xs : List α} {ys : List β} (p : Paired F xs ys) : ∀ k, Paired F (xs.drop k) (ys.drop k) := by
  induction p with
  | nil => intro k; simp; exact .nil
  | cons a q ih =>
    intro k
    cases k with
    | zero => exact .cons a q
    | succ k => exact ih k
def aheadOf (kept : List Row) (b : Nat) : List Row := kept.filter fun r => decide (r.place + 4 ≤ b)
def shiftRow (moved : Int) (r : Row) : Row := ⟨((r.place : Int) + moved).toNat, r.names, r.value, r.stack⟩
theorem bindL_nil {kf : Str → Option NameKind} {l : List (Str × Value)} : bindL kf [] (frm l) = frm l := rfl
theorem bindL_local {kf : Str → Option NameKind} {n : Str} {v : Value} {r l : List (Str × Value)} (h : kf n = some .local) : bindL kf ((n, v) :: r) (frm l) = bindL kf r (frm ((n, v) :: l)) := by
  rw [← frm_cons]
  show bindL kf r (if kf n = some .local then _ else _) = _
  rw [if_pos h]
theorem bindL_cell {kf : Str → Option NameKind} {n : Str} {v : Value} {r l : List (Str × Value)} (h : kf n = some .cell) : bindL kf ((n, v) :: r) (frm l) = bindL kf r (frm l) := by
  show bindL kf r (if kf n = some .local then _ else _) = _
  rw [if_neg (by rw [h]; decide)]
theorem compAll_len {V : Value → Value → List (Addr × Obj) → Prop} {xs ys : List Value} {objs : List (Addr × Obj)} (c : CompAll V xs ys objs) : ys.length = xs.length := by
  induction c with
  | nil => rfl
  | snoc _ _ ih => simp [ih]
/-- an elder row, moved -/
def ShE (h : Heap) (moved : Int) (v y : Value) (os : List (Addr × Obj)) : Prop := ∃ a p t9 t8 nt val tv sa T, v = .ref a ∧ h.IsTuple a #[.int p t8, .ref nt, .str val tv, .ref sa] ∧ y = .ref T ∧ os = [(T, tupO [.int (p + moved) t9, .ref nt, .str val tv, .ref sa])]
section
variable {w : World} {A : Around} {h : Heap} {g : Array GenState} {d : Drawn} {tk : Nat} {os : OsState} {E : Value → Shared → Prop} {Q : Value → Shared → Prop}
set_option maxHeartbeats 4000000
theorem law_edited {lx kl lt : Addr} {T : Tab} {kept rs : List Row} {last st fin : List Sta} {kvs lvs : List Value} {text put : Str} {b gn place : Nat} {t1 t2 t3 t4 : Tok} (T0 : TX w h) (LB : LX w h lx T) (hh : A.handled = none) (hd : A.depth + 60 < recursionLimit) (hu : A.units + 80 < cLine)
    (hk : h.IsList kl kvs.toArray) (hkr : Paired (RowV h) kept kvs) (hlt : h.IsTuple lt lvs.toArray) (hlv : StkV last lvs) (hkz : kept.length ≤ 400)
    (hpl : (place, st) = match kept[(aheadOf kept b).length]? with | some r => (r.place, r.stack) | none => (text.length - put.length + gn, last)) (hput : put.length ≤ text.length)
    (sc : Scan T (text.cps.toList.drop place) place st rs fin) (hst : st ≠ []) (hz : st.length + 2 * rs.length ≤ 900) (hpos : place ≤ text.length) (htz : text.length ≤ 900) (hwy : ∀ s, ∀ r ∈ T s, ∀ l, r.way = .lay l → l.length ≤ 2) (hb : AllBare g)
    (inc : kept.Pairwise fun a b => a.place < b.place)
    (H : ∀ h2 tk2 g2 R ol lv ag ovs fvs avs, Le h h2 → AllBare g2 → h2.IsTuple R #[.ref ol, .ref lv, .ref ag] → h2.IsList ol ovs.toArray →
      Paired (RowV h2) (aheadOf kept b ++ (edRun kept ((put.length : Int) - gn) (b + put.length) rs).1 ++ (match (edRun kept ((put.length : Int) - gn) (b + put.length) rs).2 with | none => [] | some k => (kept.drop k).map (shiftRow ((put.length : Int) - gn)))) ovs →
      h2.IsTuple lv fvs.toArray → StkV (match (edRun kept ((put.length : Int) - gn) (b + put.length) rs).2 with | none => fin | some _ => last) fvs →
      h2.IsList ag avs.toArray → Paired (RowV h2) (edRun kept ((put.length : Int) - gn) (b + put.length) rs).1 avs → Q (.ref R) ⟨h2, g2, d, tk2, os⟩) :
    wpAny (model PG w) A (call (.ref 749) [.ref lx, .ref kl, .ref lt, .str text t1, .int b t2, .int gn t3, .str put t4]) Q E ⟨h, g, d, tk, os⟩ := by
  refine call_defCG T0.X T0.lim (by k_is) (by k_is) (by omega) (fun s X => BindsTo.of_eq rfl) (by kernel_rfl) (by decide +kernel) ?_ rfl rfl rfl
  intro L hh' tk1 cells F N C
  change Fr h L hh' (bindL _ [(Str.ofString "lexer", .ref lx), (Str.ofString "kept", .ref kl), (Str.ofString "last", .ref lt), (Str.ofString "text", .str text t1), (Str.ofString "begin", .int b t2), (Str.ofString "gone", .int gn t3), (Str.ofString "put", .str put t4)] (frm [])) at F
  rw [bindL_local (by kernel_rfl), bindL_local (by kernel_rfl), bindL_local (by kernel_rfl), bindL_local (by kernel_rfl), bindL_cell (by kernel_rfl), bindL_local (by kernel_rfl), bindL_local (by kernel_rfl), bindL_nil] at F
  change CellsAre _ [(Str.ofString "moved", L + 1 + 1), (Str.ofString "begin", L + 1)] cells at C
  cases C with
  | @cons _ _ om _ cells dm C =>
  cases C with
  | @cons _ _ ob _ cells db C =>
  cases C
  replace dm : om.data = .cell none := dm
  replace db : ob.data = .cell (some (.int b t2)) := db
  have E := envOfC (Str.ofString "_law_edited")
  have Fk := F.keep
  -- ahead
  refine st_assignComp (p := aheadV h b) (G := fun v y => y = v) (cl := [(Str.ofString "begin", L + 1)]) (items := kvs) hh F N (by kernel_rfl) (by kernel_rfl) (by decide +kernel) rfl (by decide +kernel) (by decide +kernel) (by walk_at "zl") (list_up hk F.keep) (by rw [← paired_len hkr]; exact Nat.le_trans hkz (by decide)) ?_ ?_ ?_ ⟨rfl, rfl⟩ (by kernel_rfl) (fun _ => by kernel_rfl)
  · intro C v h2 m₂ hv up hn hm
    obtain ⟨r, hr, rv⟩ := paired_mem hkr hv
    rw [aheadV_of rv]
    obtain ⟨a, nt, sa, t5, t6, nvs, svs, rfl, p, _⟩ := rv
    have hL0 : h.get? L = none := Heap.get?_none_of_le F.above
    have up0 : Le h h2 := fun b o e => up b o (fun q => by rw [q, hL0] at e; cases e) (Fk b o e)
    refine et_tests1 ((et_cmp (P1 := IsI ((r.place : Int) + 4)) (P2 := IsI (b : Int)) op_le (ex_binop (op_add (a := (r.place : Int)) (b := 4)) (ex_sub (P1 := (· = .ref a)) (P2 := IsI 0) (ex_local hn hm rfl (by kernel_rfl) (by kernel_rfl) (by kernel_rfl)) ex_int (fun x y hx hy => by
        subst hx
        obtain ⟨u, rfl⟩ := hy
        exact tl_tuple (its := [_, _, _, _]) (tuple_up p up0) (by decide) (by decide) (j := 0) rfl rfl isI (by with_unfolding_all rfl))) ex_int)
      (ex_cell (c := L + 1) (o := ob) (by kernel_rfl) (up _ _ (Nat.succ_ne_self _) (N _ (.tail _ (.head _))).1) db isI (by kernel_rfl) (by kernel_rfl) (by kernel_rfl))).mono fun x new hx => ⟨hx.1, by rw [hx.2]; show decide _ = decide _; rw [decide_eq_decide]; omega⟩)
  · intro C v h2 m₂ hv _ up hn hm
    exact ex_local hn hm rfl (by kernel_rfl) (by kernel_rfl) (by kernel_rfl)
  intro AD ys an h2 tk2 hys F N hAD
  have hys' := paired_eq (fun a b e => e) hys
  subst hys'
  have hpa : Paired (RowV h) (aheadOf kept b) (kvs.filter (aheadV h b)) := paired_filter (fun r v x => aheadV_of x) hkr
  have lpa := paired_len hpa
  have lkr := paired_len hkr
  have alz : (aheadOf kept b).length ≤ kept.length := List.length_filter_le _ _
  have exlenA : ∀ {env : Env} {h3 : Heap} {A' : Around} {p1 p2 p3 : Pos} (T3 : TX w h3) (e : EX PG w A' (eval (.Name (Str.ofString "ahead") p1) env) h3 (Im (· = .ref AD))) (ha : h3.get? AD = some (lobj (kvs.filter (aheadV h b)) an))
      (hkd : env.kindOf (Str.ofString "len") = some .globalImplicit) (hk : env.scope.kind = .function) (hg : env.globals = mainGlobals) (hb : env.builtins = builtinsNs)
      (hse : starEach [.Name (Str.ofString "ahead") p1] env = [(false, eval (.Name (Str.ofString "ahead") p1) env)])
      (hr : eval (.Call (.Name (Str.ofString "len") p2) [.Name (Str.ofString "ahead") p1] [] p3) env = (do callWith p3 (← eval (.Name (Str.ofString "len") p2) env) [] (backTo p3 (starEach [.Name (Str.ofString "ahead") p1] env)) (backToKw p3 (keywordEach [] env)))),
      EX PG w A' (eval (.Call (.Name (Str.ofString "len") p2) [.Name (Str.ofString "ahead") p1] [] p3) env) h3 (Im (IsI ((aheadOf kept b).length : Int))) := fun T3 e ha hkd hk hg hb hse hr => by
    rw [lpa]
    have := ex_lenL (its := (kvs.filter (aheadV h b)).toArray) T3 e ⟨_, ha, rfl, an, rfl⟩ (by rw [List.size_toArray, ← lpa]; omega) hkd hk hg hb hse hr
    rw [List.size_toArray] at this
    exact this
  refine st_tup2 (V := fun v1 v2 n => n = [] ∧ IsI (place : Int) v1 ∧ ∃ sa svs, v2 = .ref sa ∧ h.IsTuple sa svs.toArray ∧ StkV st svs) hh F N ?_ ?_ ⟨rfl, rfl⟩ (by kernel_rfl) (by kernel_rfl) (by kernel_rfl) (by kernel_rfl)
  · have T2 := T0.up F.keep
    have ad := (N _ (.head _)).1
    refine ex_ifexp (b := decide (((aheadOf kept b).length : Int) < (kept.length : Int))) (et_cmp (P1 := IsI ((aheadOf kept b).length : Int)) (P2 := IsI (kept.length : Int)) op_lt
      (exlenA T2 (by walk_at "zl") ad (by kernel_rfl) rfl rfl rfl (by kernel_rfl) (by kernel_rfl)) ?_) ?_ ?_
    · rw [lkr]
      exact EX.mono (ex_lenL (its := kvs.toArray) T2 (by walk_at "zl") (list_up hk F.keep) (by rw [List.size_toArray, ← lkr]; omega) (by kernel_rfl) rfl rfl rfl) fun v new hv => ⟨hv.1, by have := hv.2; rw [List.size_toArray] at this; exact this⟩
    · intro hb'
      have hlt : (aheadOf kept b).length < kept.length := by have := of_decide_eq_true hb'; omega
      have hr : kept[(aheadOf kept b).length]? = some (kept[(aheadOf kept b).length]) := List.getElem?_eq_getElem hlt
      generalize kept[(aheadOf kept b).length] = r at hr
      rw [hr] at hpl
      obtain ⟨rfl, rfl⟩ := Prod.mk.inj hpl
      obtain ⟨v, hv, a, nt, sa, t5, t6, nvs, svs, rfl, p, p2, p3, p4, p5⟩ := paired_at' hkr hr
      refine EX.mono (ex_tuple (exs_cons (P := IsI (r.place : Int)) (ex_sub (P1 := (· = .ref a)) (P2 := IsI 0) (ex_sub (P1 := (· = .ref kl)) (P2 := IsI ((aheadOf kept b).length : Int)) (by walk_at "zl") (exlenA T2 (by walk_at "zl") ad (by kernel_rfl) rfl rfl rfl (by kernel_rfl) (by kernel_rfl)) (fun x y hx hy => by
          subst hx
          obtain ⟨u, rfl⟩ := hy
          exact tl_list (list_up hk F.keep) (by omega) (by omega) (by rw [Int.toNat_natCast]; exact hv) rfl (by with_unfolding_all rfl))) ex_int (fun x y hx hy => by
          subst hx
          obtain ⟨u, rfl⟩ := hy
          exact tl_tuple (its := [_, _, _, _]) (tuple_up p F.keep) (by decide) (by decide) (j := 0) rfl rfl isI (by with_unfolding_all rfl)))
        (exs_cons (P := (· = .ref sa)) (ex_sub (P1 := (· = .ref a)) (P2 := IsI 3) (ex_sub (P1 := (· = .ref kl)) (P2 := IsI ((aheadOf kept b).length : Int)) (by walk_at "zl") (exlenA T2 (by walk_at "zl") ad (by kernel_rfl) rfl rfl rfl (by kernel_rfl) (by kernel_rfl)) (fun x y hx hy => by
          subst hx
          obtain ⟨u, rfl⟩ := hy
          exact tl_list (list_up hk F.keep) (by omega) (by omega) (by rw [Int.toNat_natCast]; exact hv) rfl (by with_unfolding_all rfl))) ex_int (fun x y hx hy => by
          subst hx
          obtain ⟨u, rfl⟩ := hy
          exact tl_tuple (its := [_, _, _, _]) (tuple_up p F.keep) (by decide) (by decide) (j := 3) rfl rfl rfl (by with_unfolding_all rfl))) exs_nil)) (fun vs n hv => ?_)) fun v new hv => ?_
      · obtain ⟨-, v1, q1, rfl, -, v2, q2, rfl, -, rfl⟩ := hv
        exact Nat.le_of_ble_eq_true rfl
      · obtain ⟨T1, vs, n, rfl, rfl, rfl, v1, q1, rfl, hv1, v2, q2, rfl, rfl, rfl⟩ := hv
        exact ⟨T1, v1, .ref sa, [], rfl, rfl, rfl, hv1, sa, svs, rfl, p4, p5⟩
    · intro hb'
      have hge : kept.length ≤ (aheadOf kept b).length := by have := of_decide_eq_false hb'; omega
      have hr : kept[(aheadOf kept b).length]? = none := List.getElem?_eq_none hge
      rw [hr] at hpl
      obtain ⟨rfl, rfl⟩ := Prod.mk.inj hpl
      refine EX.mono (ex_tuple (exs_cons (P := IsI ((text.length - put.length + gn : Nat) : Int)) (EX.mono (ex_binop (op_add (a := (text.length : Int) - (put.length : Int)) (b := (gn : Int))) (ex_binop (op_sub (a := (text.length : Int)) (b := (put.length : Int))) (ex_lenS T2 (by walk_at "zl") (by omega) (by kernel_rfl) rfl rfl rfl) (ex_lenS T2 (by walk_at "zl") (by omega) (by kernel_rfl) rfl rfl rfl)) (by walk_at "zl")) fun v new hv => ⟨hv.1, by
          have e : ((text.length - put.length + gn : Nat) : Int) = (text.length : Int) - (put.length : Int) + (gn : Int) := by omega
          rw [e]; exact hv.2⟩)
        (exs_cons (P := (· = .ref lt)) (by walk_at "zl") exs_nil)) (fun vs n hv => ?_)) fun v new hv => ?_
      · obtain ⟨-, v1, q1, rfl, -, v2, q2, rfl, -, rfl⟩ := hv
        exact Nat.le_of_ble_eq_true rfl
      · obtain ⟨T1, vs, n, rfl, rfl, rfl, v1, q1, rfl, hv1, v2, q2, rfl, rfl, rfl⟩ := hv
        exact ⟨T1, v1, .ref lt, [], rfl, rfl, rfl, hv1, lt, lvs, rfl, hlt, hlv⟩
  rintro v1 v2 n h3 tk3 ⟨rfl, ⟨pt, rfl⟩, sa, svs, rfl, hsa, hsv⟩ F N -
  have N3 : News h L h3 ((L + 1 + 1, om) :: [(AD, lobj (kvs.filter (aheadV h b)) an), (L + 1, ob)]) := fun q hq => N q (by
    simp only [List.nil_append, List.mem_cons, List.not_mem_nil, or_false] at hq ⊢
    rcases hq with e | e | e <;> simp [e])
  have adc : AD ≠ L + 1 + 1 := fun e => hAD _ (.head _) e.symm
  refine st_tup3C (V := fun v1 v2 v3 n => IsI ((put.length : Int) - gn) v1 ∧ v3 = .none ∧ ∃ rw, v2 = .ref rw ∧ n = [(rw, lobj [] 0)]) hh F N3 dm (fun q hq => ?_) ?_ ?_ ⟨rfl, rfl⟩ (by kernel_rfl) (by kernel_rfl) (by kernel_rfl) (by kernel_rfl) (by kernel_rfl) (by kernel_rfl)
  · rcases List.mem_cons.mp hq with rfl | hq
    · exact adc
    · rw [List.mem_singleton.mp hq]; exact Nat.ne_of_lt (Nat.lt_succ_self _)
  · have T2 := T0.up F.keep
    refine EX.mono (ex_tuple (exs_consN (V1 := Im (IsI ((put.length : Int) - gn))) (ex_binop (op_sub (a := (put.length : Int)) (b := (gn : Int))) (ex_lenS T2 (by walk_at "zl") (by omega) (by kernel_rfl) rfl rfl rfl) (by walk_at "zl")) (exs_consN (ex_list exs_nil (fun vs n hv => by rw [hv.2]; exact Nat.le_of_ble_eq_true rfl)) (exs_consN (V1 := Im (· = .none)) ex_none exs_nil))) (fun vs n hv => ?_)) fun v new hv => ?_
    · obtain ⟨v1, q1, n1, n2, rfl, rfl, -, v2, q2, n3, n4, rfl, rfl, -, v3, q3, n5, n6, rfl, rfl, -, rfl, rfl⟩ := hv
      exact Nat.le_of_ble_eq_true rfl
    · obtain ⟨T1, vs, n0, rfl, rfl, v1, q1, n1, n2, rfl, rfl, ⟨rfl, hv1⟩, v2, q2, n3, n4, rfl, rfl, ⟨rw, vs2, n5, rfl, rfl, rfl, rfl⟩, v3, q3, n6, n7, rfl, rfl, ⟨rfl, rfl⟩, rfl, rfl⟩ := hv
      exact ⟨T1, v1, _, _, _, rfl, rfl, hv1, rfl, rw, rfl, rfl⟩
  rintro v1 v2 v3 n om' h4 tk4 ⟨⟨mt, rfl⟩, rfl, rw, rfl, rfl⟩ dm' F N djr
  -- places
  have kkf : ∀ i v, kvs[i]? = some v → ∃ r, kept[i]? = some r ∧ RowV h r v := fun i v hv => paired_at hkr hv
  have inj : ∀ i j, i < kvs.length → j < kvs.length → (((kept[i]?.map (·.place)).getD 0 : Nat) : Int) + ((put.length : Int) - gn) = (((kept[j]?.map (·.place)).getD 0 : Nat) : Int) + ((put.length : Int) - gn) → i = j := fun i j hi hj e => by
    rw [← lkr] at hi hj
    rw [List.getElem?_eq_getElem hi, List.getElem?_eq_getElem hj] at e
    simp only [Option.map_some, Option.getD_some] at e
    rcases Nat.lt_trichotomy i j with q | q | q
    · have := List.pairwise_iff_getElem.mp inc i j hi hj q; omega
    · exact q
    · have := List.pairwise_iff_getElem.mp inc j i hj hi q; omega
  refine st_places (ax := kl) (items := kvs) (cl := [(Str.ofString "moved", L + 1 + 1)]) (fun i => (((kept[i]?.map (·.place)).getD 0 : Nat) : Int) + ((put.length : Int) - gn)) inj hh F N (by kernel_rfl) (by kernel_rfl) (by decide +kernel) rfl (by decide +kernel) (by decide +kernel) (by decide +kernel) (by decide +kernel) (by decide +kernel) ?_ (list_up hk F.keep) (by rw [← lkr]; omega) ?_ ?_ ⟨rfl, rfl⟩ (by kernel_rfl) (fun _ => by kernel_rfl)
  · have T2 := T0.up F.keep
    refine ex_callK (fv := .type "enumerate") (ex_builtin T2 (by k_is) (by kernel_rfl) (by decide) rfl (by kernel_rfl) (by kernel_rfl) (by kernel_rfl) (by kernel_rfl) (by kernel_rfl)) (cw_type (exs_one (V1 := Im (· = .ref kl)) (by walk_at "zl")) fun vs new h5 le5 hn hv => by
      obtain ⟨v, rfl, rfl, rfl⟩ := hv
      exact (cl_enum (list_up (list_up hk F.keep) le5)).mono fun v new hv => by rw [List.append_nil]; exact hv)
  · intro C i v h5 m₂ hv up hn hm
    obtain ⟨r, hr, a, nt, sa', t5, t6, nvs, svs', rfl, p, _⟩ := kkf i v hv
    rw [hr]
    have up0 : Le h h5 := fun b o e => up b o (F.keep b o e)
    refine ex_binop (op_add (a := (r.place : Int)) (b := (put.length : Int) - gn)) (ex_sub (P1 := (· = .ref a)) (P2 := IsI 0) (ex_local hn hm rfl (by kernel_rfl) (by kernel_rfl) (by kernel_rfl)) ex_int (fun x y hx hy => by
        subst hx
        obtain ⟨u, rfl⟩ := hy
        exact tl_tuple (its := [_, _, _, _]) (tuple_up p up0) (by decide) (by decide) (j := 0) rfl rfl isI (by with_unfolding_all rfl)))
      (ex_cell (c := L + 1 + 1) (o := om') (by kernel_rfl) (up _ _ (N _ (.head _)).1) dm' isI (by kernel_rfl) (by kernel_rfl) (by kernel_rfl))
  intro PD od kvp h5 tk5 hod hpl5 F N hPD hLPD
  have hsys : (PD == sysModules) = false := by
    have h1 := Heap.lt_size (T0.X 749 _ (by k_is))
    have h2 : 749 < PD := Nat.lt_trans (Nat.lt_of_lt_of_le h1 F.above) hLPD
    exact beq_eq_false_iff_ne.mpr fun e => absurd (e ▸ h2 : 749 < sysModules) (by decide)
  -- the context
  have svne : svs ≠ [] := fun e => by rw [e] at hsv; cases hsv; exact hst rfl
  have svz : svs.length ≤ 900 := by rw [← paired_len hsv]; omega
  refine st_assignD (V := fun v new => ∃ cx dc c sl n, v = .ref cx ∧ new = [(cx, instObj 614 dc), (dc, cdict w c text place text.length sl), (sl, lobj svs n)]) F N ?_ ?_ ⟨rfl, rfl⟩ (by kernel_rfl) (by kernel_rfl)
  · have T2 := T0.up F.keep
    refine ex_callK (fv := .ref 614) (ex_global T2 (by k_is) rfl (by kernel_rfl) (by kernel_rfl) (by kernel_rfl) (by kernel_rfl))
      (cw_some (keeper_K T2.X (by k_is)) (exs_consN (V1 := Im (· = .str text t1)) (by walk_at "zl") (exs_consN (V1 := Im (· = .int place pt)) (by walk_at "zl") (exs_consN (V1 := fun v new => ∃ b n, v = .ref b ∧ new = [(b, lobj svs n)])
        (ex_callK (fv := .type "list") (ex_builtin T2 (by k_is) (by kernel_rfl) (by decide) rfl (by kernel_rfl) (by kernel_rfl) (by kernel_rfl) (by kernel_rfl) (by kernel_rfl)) (cw_type (exs_one (V1 := Im (· = .ref sa)) (by walk_at "zl")) fun vs new h5 le5 hn hv => by
          obtain ⟨v, rfl, rfl, rfl⟩ := hv
          exact (cl_listT (tuple_up (tuple_up hsa F.keep) le5) (by omega)).mono fun v new hv => by rw [List.append_nil]; exact hv)) exs_nil))) ?_)
    rintro vs new h6 le6 hn ⟨v1, q1, n1, n2, rfl, rfl, ⟨rfl, rfl⟩, v2, q2, n3, n4, rfl, rfl, ⟨rfl, rfl⟩, v3, q3, n5, n6, rfl, rfl, ⟨sl, sn, rfl, rfl⟩, rfl, rfl⟩
    exact (mk_ctx1 (T2.up le6) (by rw [depth_deeper]; omega) (by omega) (hn _ (.head _)) svne (by omega)).mono fun v new hv => by
      obtain ⟨cx, dc, c, rfl, rfl⟩ := hv
      exact ⟨cx, dc, c, sl, sn, rfl, rfl⟩
  rintro v new h6 tk6 ⟨cx, dc, c, sl, sn, rfl, rfl⟩ F N djc
  have N6 : News h L h6 (LG w cx dc c text place sl svs sn ((rw, lobj [] 0) :: [(PD, od), (L + 1 + 1, om'), (L + 1, ob), (AD, lobj (kvs.filter (aheadV h b)) an)])) := fun q hq => N q (by
    simp only [LG, List.nil_append, List.cons_append, List.mem_cons, List.not_mem_nil, or_false] at hq ⊢
    rcases hq with e | e | e | e | e | e | e | e <;> simp [e])
  have j1 : ∀ p ∈ [(PD, od), (L + 1 + 1, om'), (rw, lobj [] 0), (AD, lobj (kvs.filter (aheadV h b)) an), (L + 1, ob)], cx ≠ p.1 ∧ dc ≠ p.1 ∧ sl ≠ p.1 := fun p hp => ⟨djc _ (.head _) p hp, djc _ (.tail _ (.head _)) p hp, djc _ (.tail _ (.tail _ (.head _))) p hp⟩
  have jr := j1 _ (.tail _ (.tail _ (.head _)))
  have jrw := djr _ (.head _)
  have ed : ∀ p ∈ [(PD, od), (L + 1 + 1, om'), (L + 1, ob), (AD, lobj (kvs.filter (aheadV h b)) an)], p.1 ≠ cx ∧ p.1 ≠ dc ∧ p.1 ≠ sl ∧ p.1 ≠ rw := by
    intro p hp
    have hp5 : p ∈ [(PD, od), (L + 1 + 1, om'), (rw, lobj [] 0), (AD, lobj (kvs.filter (aheadV h b)) an), (L + 1, ob)] := by
      simp only [List.mem_cons, List.not_mem_nil, or_false] at hp ⊢
      rcases hp with e | e | e | e <;> simp [e]
    have z := j1 p hp5
    refine ⟨Ne.symm z.1, Ne.symm z.2.1, Ne.symm z.2.2, ?_⟩
    rcases List.mem_cons.mp hp with rfl | hp
    · exact Ne.symm (hPD _ (.tail _ (.head _)))
    rcases List.mem_cons.mp hp with rfl | hp
    · exact Ne.symm jrw.1
    rcases List.mem_cons.mp hp with rfl | hp
    · exact Ne.symm (jrw.2 _ (.tail _ (.head _)))
    rw [List.mem_singleton.mp hp]
    exact Ne.symm (jrw.2 _ (.head _))
  refine st_for_gen (rows := rs) (fin := fin) (st := st) [(PD, od), (L + 1 + 1, om'), (L + 1, ob), (AD, lobj (kvs.filter (aheadV h b)) an)] (fun i l rvs h' => (frm l (Str.ofString "context") = some (.ref cx) ∧ frm l (Str.ofString "again") = some (.ref rw) ∧ frm l (Str.ofString "lexer") = some (.ref lx) ∧ frm l (Str.ofString "kept") = some (.ref kl) ∧
      frm l (Str.ofString "put") = some (.str put t4) ∧ frm l (Str.ofString "ahead") = some (.ref AD) ∧ frm l (Str.ofString "last") = some (.ref lt) ∧ frm l (Str.ofString "places") = some (.ref PD) ∧ frm l (Str.ofString "behind") = some .none) ∧
      Paired (RowV h') (rs.take i) rvs ∧ ∀ j r, j < i → rs[j]? = some r → meets kept ((put.length : Int) - gn) (b + put.length) r = none) (fun i l rvs h1 h2 k x => ⟨x.1, paired_up k x.2.1, x.2.2⟩)
    hh (by rw [depth_deeper]; omega) T0 F N6 hsv (fun _ hp => hp) (Ne.symm jr.1) (Ne.symm jr.2.1) jr.2.2 ed (fun h' k => ⟨⟨by walk_at "lk", by walk_at "lk", by walk_at "lk", by walk_at "lk", by walk_at "lk", by walk_at "lk", by walk_at "lk", by walk_at "lk", by walk_at "lk"⟩, .nil, fun j r hj => absurd hj (Nat.not_lt_zero _)⟩) hb ?_ ?_ ?_ ⟨rfl, rfl⟩ (by kernel_rfl) (by kernel_rfl) (by kernel_rfl)
  · intro Q' hQ'
    refine gen_expr (A := A.deeper _) (T := T) T0 LB hh (by rw [depth_deeper]; omega) F N6 hsv (Ne.symm jr.1) (Ne.symm jr.2.1) jr.2.2 (by walk_at "zl") (fun h' le => by have F := fr_up F le; walk_at "zl") sc hst hz hpos htz hwy (by kernel_rfl) (by kernel_rfl) Q' hQ'
  · intro i r c sl vs nn rvs rn oth h7 tk7 g7 l tok nt t5 t6 hr F N hext hoth hcov hsl V htok hiv hab
    obtain ⟨⟨i1, i2, i3, i4, i5, i6, i7, i8, i9⟩, hp, hno⟩ := hiv
    have lvz : vs.length ≤ 900 := by rw [← paired_len V]; have := ((scan_ok hwy sc hst).1 r (List.mem_of_getElem? hr)).2; omega
    have lrz := paired_len hp
    have hlti : i < rs.length := (List.getElem?_eq_some_iff.mp hr).1
    have T7 := T0.up F.keep
    have mE : ∀ p ∈ [(PD, od), (L + 1 + 1, om'), (L + 1, ob), (AD, lobj (kvs.filter (aheadV h b)) an)], p ∈ LG w cx dc c text r.place sl vs nn ((rw, lobj rvs rn) :: oth) := fun p hp => .tail _ (.tail _ (.tail _ (.tail _ (hext p hp))))
    have hcb := (N _ (mE _ (.tail _ (.tail _ (.head _))))).1
    have hpd : h7.DictOf (intKind PG w) PD kvp := Heap.dictOf_iff.mpr ⟨od, (N _ (mE _ (.head _))).1, hod⟩
    have hkl7 : h7.IsList kl kvs.toArray := list_up hk F.keep
    have tkc : ∀ h' m', Fr h L h' m' → (∀ p ∈ oth, h'.get? p.1 = some p.2) → TupKp h7 h' := fun h' m' F' hall b' xs ⟨o, ho, hc, n, hd⟩ => by
      refine ⟨o, ?_, hc, n, hd⟩
      cases e0 : h.get? b' with
      | some o' =>
        have := F.keep _ _ e0
        rw [ho] at this
        rw [Option.some.inj this]
        exact F'.keep _ _ e0
      | none =>
        have nq : ∀ {x : Addr} {ox : Obj}, h7.get? x = some ox → (ox.cls ≠ .type "tuple" ∨ ∀ xs n, ox.data ≠ .seq xs n) → b' ≠ x := fun hx hn e => by
          rw [← e, ho] at hx
          cases hx
          rcases hn with q | q
          · exact q hc
          · exact q _ _ hd
        have hbL : b' ≠ L := by
          obtain ⟨oL, es, ep, hL, hLd, _⟩ := F.ns
          exact nq hL (.inr fun xs k e => by rw [hLd] at e; cases e)
        exact hall _ (hcov b' o ho e0 hbL (nq (N _ (.head _)).1 (.inr fun xs k e => by simp at e)) (nq (N _ (.tail _ (.head _))).1 (.inr fun xs k e => by simp [cdict, dictOf] at e))
          (nq (N _ (.tail _ (.tail _ (.head _)))).1 (.inl (by simp))) (nq (N _ (.tail _ (.tail _ (.tail _ (.head _))))).1 (.inl (by simp))))
    -- is there an elder row that begins here?
    have hcase : (∃ (k : Nat) (rk : Row), kept[k]? = some rk ∧ (rk.place : Int) + ((put.length : Int) - gn) = (r.place : Int)) ∨ ∀ x ∈ kept, (x.place : Int) + ((put.length : Int) - gn) ≠ (r.place : Int) := by
      by_cases q : ∃ (k : Nat) (rk : Row), kept[k]? = some rk ∧ (rk.place : Int) + ((put.length : Int) - gn) = (r.place : Int)
      · exact .inl q
      · exact .inr fun x hx e => by
          obtain ⟨k, hk, rfl⟩ := List.mem_iff_getElem.mp hx
          exact q ⟨k, _, List.getElem?_eq_getElem hk, e⟩
    have hval : ∀ (k : Nat) (rk : Row), kept[k]? = some rk → (rk.place : Int) + ((put.length : Int) - gn) = (r.place : Int) → ∃ v, valueAt kvp (r.place : Int) = some v ∧ IsI k v := fun k rk hrk e => by
      have hlt : k < kvs.length := by rw [← lkr]; exact (List.getElem?_eq_some_iff.mp hrk).1
      obtain ⟨v, hv, hi⟩ := hpl5.at inj hlt
      have e2 : (((kept[k]?.map (·.place)).getD 0 : Nat) : Int) + ((put.length : Int) - gn) = (r.place : Int) := by rw [hrk]; exact e
      exact ⟨v, by rw [← e2]; exact hv, hi⟩
    have hnov : (∀ x ∈ kept, (x.place : Int) + ((put.length : Int) - gn) ≠ (r.place : Int)) → valueAt kvp (r.place : Int) = none := fun q => hpl5.absent fun j hj e => by
      rw [← lkr] at hj
      rw [List.getElem?_eq_getElem hj] at e
      exact q _ (List.getElem_mem hj) e
    refine st_if (b := (meets kept ((put.length : Int) - gn) (b + put.length) r).isSome) F N ?_ ?_ ?_
    · have c1 : ∀ {P : Prop}, True := fun {_} => trivial
      rcases hcase with ⟨k, rk, hrk, ek⟩ | hno'
      · obtain ⟨vk, hvk, tk', rfl⟩ := hval k rk hrk ek
        obtain ⟨v, hv, a, nt', sa', t7, t8, nvs', svs', rfl, p1, p2, p3, p4, p5⟩ := paired_at' hkr hrk
        have klt : k < kept.length := (List.getElem?_eq_some_iff.mp hrk).1
        rw [meets_at inc hrk ek]
        refine EX.mono (et_and (b1 := decide (((b + put.length : Nat) : Int) ≤ (r.place : Int))) (b2 := true && (decide (rk.stack = r.stack) && true)) (et_cmp (P1 := IsI (r.place : Int)) (P2 := IsI ((b + put.length : Nat) : Int)) op_ge (by walk_at "zl") (EX.mono (ex_binop (op_add (a := (b : Int)) (b := (put.length : Int))) (ex_cell (c := L + 1) (o := ob) (by kernel_rfl) hcb db isI (by kernel_rfl) (by kernel_rfl) (by kernel_rfl)) (ex_lenS T7 (by walk_at "zl") (by omega) (by kernel_rfl) rfl rfl rfl)) fun v new hv => hv))
          (fun _ => et_and (b1 := true) (b2 := decide (rk.stack = r.stack) && true) (EX.mono (et_cmp (b := (valueAt kvp (r.place : Int)).isSome) (P1 := IsI (r.place : Int)) (P2 := (· = .ref PD)) (op_inI hpd hsys) (by walk_at "zl") (by walk_at "zl")) fun v new hv => ⟨hv.1, by rw [hv.2, hvk]; rfl⟩)
            (fun _ => et_and (b1 := decide (rk.stack = r.stack)) (b2 := true) (et_cmpN (V1 := Im (· = .ref sa')) (V2 := fun v new => ∃ ft, v = .ref ft ∧ new = [(ft, tupO vs)]) (ex_sub (P1 := (· = .ref a)) (P2 := IsI 3) (ex_sub (P1 := (· = .ref kl)) (P2 := (· = .int k tk')) (by walk_at "zl") (ex_sub (P1 := (· = .ref PD)) (P2 := IsI (r.place : Int)) (by walk_at "zl") (by walk_at "zl") (fun x y hx hy => by
                subst hx
                obtain ⟨u, rfl⟩ := hy
                exact tl_dict (k := (r.place : Int)) (by simp [intKind, Value.isInt]) hpd hvk rfl (by with_unfolding_all rfl))) (fun x y hx hy => by
                subst hx hy
                exact tl_list hkl7 (by omega) (by omega) (by rw [Int.toNat_natCast]; exact hv) rfl (by with_unfolding_all rfl))) ex_int (fun x y hx hy => by
                subst hx
                obtain ⟨u, rfl⟩ := hy
                exact tl_tuple (its := [_, _, _, _]) (tuple_up p1 F.keep) (by decide) (by decide) (j := 3) rfl rfl rfl (by with_unfolding_all rfl)))
              (ex_tupL T7 hh (ex_ctx T0.X (by walk_at "zl") F N (.head _) (.tail _ (.head _)) (by k_get) (by k_is) (by k_is) (by k_is) (by kernel_rfl) rfl) ⟨_, (N _ (.tail _ (.tail _ (.head _)))).1, rfl, _, rfl⟩ (by omega) (by kernel_rfl) rfl rfl rfl)
              (fun x n1 y n2 h9 le9 hn1 hn2 hx hy => by
                obtain ⟨rfl, rfl⟩ := hx
                obtain ⟨ft, rfl, rfl⟩ := hy
                exact op_eqStk (by rw [units_deeper]; omega) (tuple_up (tuple_up p4 F.keep) le9) ⟨_, hn2 _ (.head _), rfl, _, rfl⟩ p5 V)) fun _ => et_and_nil))) fun v new hv => ⟨hv.1, ?_⟩
        rw [hv.2]
        by_cases q1 : b + put.length ≤ r.place <;> by_cases q2 : rk.stack = r.stack
        · rw [if_pos q1, if_pos q2, decide_eq_true (by omega), decide_eq_true q2]; rfl
        · rw [if_pos q1, if_neg q2, decide_eq_true (by omega), decide_eq_false q2]; rfl
        · rw [if_neg q1, decide_eq_false (by omega)]; rfl
        · rw [if_neg q1, decide_eq_false (by omega)]; rfl
      · rw [meets_none hno']
        refine EX.mono (et_and (b1 := decide (((b + put.length : Nat) : Int) ≤ (r.place : Int))) (b2 := false && true) (et_cmp (P1 := IsI (r.place : Int)) (P2 := IsI ((b + put.length : Nat) : Int)) op_ge (by walk_at "zl") (EX.mono (ex_binop (op_add (a := (b : Int)) (b := (put.length : Int))) (ex_cell (c := L + 1) (o := ob) (by kernel_rfl) hcb db isI (by kernel_rfl) (by kernel_rfl) (by kernel_rfl)) (ex_lenS T7 (by walk_at "zl") (by omega) (by kernel_rfl) rfl rfl rfl)) fun v new hv => hv))
          (fun _ => et_and (b1 := false) (b2 := true) (EX.mono (et_cmp (b := (valueAt kvp (r.place : Int)).isSome) (P1 := IsI (r.place : Int)) (P2 := (· = .ref PD)) (op_inI hpd hsys) (by walk_at "zl") (by walk_at "zl")) fun v new hv => ⟨hv.1, by rw [hv.2, hnov hno']; rfl⟩)
            (fun e => nomatch e))) fun v new hv => ⟨hv.1, ?_⟩
        rw [hv.2, Bool.false_and, Bool.and_false]; rfl
    · intro hm h8 tk8 F8 N8
      obtain ⟨k, hmk⟩ := Option.isSome_iff_exists.mp hm
      rcases hcase with ⟨k', rk, hrk, ek⟩ | hno'
      rotate_left
      · rw [meets_none hno'] at hmk; cases hmk
      have hkk := hmk
      rw [meets_at inc hrk ek] at hkk
      have hke : k' = k := by
        split at hkk
        · split at hkk
          · exact Option.some.inj hkk
          · cases hkk
        · cases hkk
      subst hke
      obtain ⟨vk, hvk, tk', rfl⟩ := hval k' rk hrk ek
      have klt : k' < kept.length := (List.getElem?_eq_some_iff.mp hrk).1
      have hpd8 : h8.DictOf (intKind PG w) PD kvp := Heap.dictOf_iff.mpr ⟨od, (N8 _ (mE _ (.head _))).1, hod⟩
      refine st_assignI (P := (· = .int k' tk')) F8 N8 (ex_sub (P1 := (· = .ref PD)) (P2 := IsI (r.place : Int)) (by walk_at "zl") (by walk_at "zl") (fun x y hx hy => by
        subst hx
        obtain ⟨u, rfl⟩ := hy
        exact tl_dict (k := (r.place : Int)) (by simp [intKind, Value.isInt]) hpd8 hvk rfl (by with_unfolding_all rfl))) ?_ ⟨rfl, rfl⟩ (by kernel_rfl) (by kernel_rfl)
      rintro v h9 tk9 rfl F9 N9
      refine st_brk ?_
      show thenQ _ _ _ _ _ _ .next _
      refine thenQ_next ?_
      refine st_if (b := false) F9 N9 (et_cmp (P1 := (· = .int k' tk')) (op_isnone fun v hv => by subst hv; rfl) (by walk_at "zl") ex_none) (fun e => nomatch e) fun _ h11 tk11 F11 N11 => ?_
      refine wp_nil (thenQ_next ?_)
      have lz10 : (kvs.filter (aheadV h b)).length + rvs.length + kvs.length ≤ 9000 := by rw [← lpa, ← lrz, ← lkr, List.length_take]; omega
      have cm11 := (N11 _ (mE _ (.tail _ (.head _)))).1
      have ad11 := (N11 _ (mE _ (.tail _ (.tail _ (.tail _ (.head _)))))).1
      have rw11 := (N11 _ (.tail _ (.tail _ (.tail _ (.head _))))).1
      refine st_ret (V := fun v new => ∃ R ol zs objs, v = .ref R ∧ (∀ p ∈ (R, tupO [.ref ol, .ref lt, .ref rw]) :: (ol, lobj ((kvs.filter (aheadV h b) ++ rvs) ++ zs) 0) :: objs, p ∈ new) ∧ CompAll (ShE h ((put.length : Int) - gn)) (kvs.drop k') zs objs) F11 N11 ?_ ?_
      · refine EX.mono (ex_tuple (exs_consN (V1 := fun v new => ∃ ol zs objs, v = .ref ol ∧ (∀ p ∈ (ol, lobj ((kvs.filter (aheadV h b) ++ rvs) ++ zs) 0) :: objs, p ∈ new) ∧ CompAll (ShE h ((put.length : Int) - gn)) (kvs.drop k') zs objs)
          (ex_binopN (V1 := fun v new => ∃ o1, v = .ref o1 ∧ new = [(o1, lobj (kvs.filter (aheadV h b) ++ rvs) 0)]) (V2 := fun v new => ∃ D ys n objs, v = .ref D ∧ new = (D, lobj ys n) :: objs ∧ CompAll (ShE h ((put.length : Int) - gn)) (kvs.drop k') ys objs)
            (ex_binopN (V1 := Im (· = .ref AD)) (V2 := Im (· = .ref rw)) (by walk_at "zl") (by walk_at "zl") (fun x n1 y n2 h12 le12 _ _ hx hy => ?_))
            (ex_compN (cl := [(Str.ofString "moved", L + 1 + 1)]) hh (by kernel_rfl) (by decide +kernel) rfl (by decide +kernel) (by decide +kernel) (EX.mono (ex_tailL (k := k') (by walk_at "zl") (by walk_at "zl") (list_up hk F11.keep) (by rw [← lkr]; omega) (fun _ _ => by kernel_rfl)) fun v new hv => by
              obtain ⟨bb, rfl, rfl⟩ := hv
              exact ⟨bb, 0, rfl, rfl⟩) (by rw [List.length_drop, ← lkr]; omega) ?_ (fun _ => by kernel_rfl))
            (fun x n1 y n2 h12 le12 hn1 hn2 hx hy => ?_))
          (exs_cons (P := (· = .ref lt)) (by walk_at "zl") (exs_cons (P := (· = .ref rw)) (by walk_at "zl") exs_nil))) (fun vs n hv => ?_)) fun v new hv => ?_
        · obtain ⟨rfl, rfl⟩ := hx
          obtain ⟨rfl, rfl⟩ := hy
          exact (op_addL (le12 _ _ ad11) (le12 _ _ rw11) (by omega)).mono fun v new hv => by simpa using hv
        · intro C v h13 m₂ hv le hn hm
          obtain ⟨r', hr', a, nt', sa', t7, t8, nvs', svs', rfl, p1, p2, p3, p4, p5⟩ := paired_mem hkr (List.mem_of_mem_drop hv)
          have p1' : h13.IsTuple a #[.int r'.place t7, .ref nt', .str r'.value t8, .ref sa'] := tuple_up (tuple_up p1 F11.keep) le
          refine EX.mono (ex_tuple (exs_cons (P := IsI ((r'.place : Int) + ((put.length : Int) - gn))) (ex_binop (op_add (a := (r'.place : Int)) (b := (put.length : Int) - gn)) (ex_sub (P1 := (· = .ref a)) (P2 := IsI 0) (ex_local hn hm rfl (by kernel_rfl) (by kernel_rfl) (by kernel_rfl)) ex_int (fun x y hx hy => by
              subst hx
              obtain ⟨u, rfl⟩ := hy
              exact tl_tuple (its := [_, _, _, _]) p1' (by decide) (by decide) (j := 0) rfl rfl isI (by with_unfolding_all rfl)))
            (ex_cell (c := L + 1 + 1) (o := om') (by kernel_rfl) (le _ _ cm11) dm' isI (by kernel_rfl) (by kernel_rfl) (by kernel_rfl)))
            (exs_cons (P := (· = .ref nt')) (ex_sub (P1 := (· = .ref a)) (P2 := IsI 1) (ex_local hn hm rfl (by kernel_rfl) (by kernel_rfl) (by kernel_rfl)) ex_int (fun x y hx hy => by
              subst hx
              obtain ⟨u, rfl⟩ := hy
              exact tl_tuple (its := [_, _, _, _]) p1' (by decide) (by decide) (j := 1) rfl rfl rfl (by with_unfolding_all rfl)))
            (exs_cons (P := (· = .str r'.value t8)) (ex_sub (P1 := (· = .ref a)) (P2 := IsI 2) (ex_local hn hm rfl (by kernel_rfl) (by kernel_rfl) (by kernel_rfl)) ex_int (fun x y hx hy => by
              subst hx
              obtain ⟨u, rfl⟩ := hy
              exact tl_tuple (its := [_, _, _, _]) p1' (by decide) (by decide) (j := 2) rfl rfl rfl (by with_unfolding_all rfl)))
            (exs_cons (P := (· = .ref sa')) (ex_sub (P1 := (· = .ref a)) (P2 := IsI 3) (ex_local hn hm rfl (by kernel_rfl) (by kernel_rfl) (by kernel_rfl)) ex_int (fun x y hx hy => by
              subst hx
              obtain ⟨u, rfl⟩ := hy
              exact tl_tuple (its := [_, _, _, _]) p1' (by decide) (by decide) (j := 3) rfl rfl rfl (by with_unfolding_all rfl))) exs_nil)))) (fun vs n hv => ?_)) fun v new hv => ?_
          · obtain ⟨-, v1, q1, rfl, -, v2, q2, rfl, -, v3, q3, rfl, -, v4, q4, rfl, -, rfl⟩ := hv
            exact Nat.le_of_ble_eq_true rfl
          · obtain ⟨T1, vs, n, rfl, rfl, rfl, v1, q1, rfl, ⟨t9, rfl⟩, v2, q2, rfl, rfl, v3, q3, rfl, rfl, v4, q4, rfl, rfl, rfl⟩ := hv
            exact ⟨a, _, t9, t7, nt', _, t8, sa', T1, rfl, p1, rfl, rfl⟩
        · obtain ⟨o1, rfl, rfl⟩ := hx
          obtain ⟨D, ys, n, objs, rfl, rfl, hC⟩ := hy
          have lys := compAll_len hC
          refine EX.mono (op_addL (hn1 _ (.head _)) (hn2 _ (.head _)) (by rw [List.length_append, lys, List.length_drop]; omega)) fun v new hv => ?_
          obtain ⟨ol, rfl, rfl⟩ := hv
          exact ⟨ol, ys, objs, rfl, fun p hp => by
            rcases List.mem_cons.mp hp with rfl | hp
            · exact .head _
            · exact .tail _ (.tail _ (List.mem_append_left _ hp)), hC⟩
        · obtain ⟨v1, q1, n1, n2, rfl, rfl, -, -, v2, q2, rfl, -, v3, q3, rfl, -, rfl⟩ := hv
          exact Nat.le_of_ble_eq_true rfl
        · obtain ⟨R, vs', n, rfl, rfl, v1, q1, n1, n2, rfl, rfl, ⟨ol, zs, objs, rfl, hin, hC⟩, rfl, v2, q2, rfl, rfl, v3, q3, rfl, rfl, rfl⟩ := hv
          refine ⟨R, ol, zs, objs, rfl, fun p hp => ?_, hC⟩
          rcases List.mem_cons.mp hp with rfl | hp
          · exact .head _
          · exact List.mem_cons_of_mem _ (by have := hin p hp; simpa using this)
      · rintro v new h12 tk12 ⟨R, ol, zs, objs, rfl, hin, hC⟩ F12 N12
        have er := edRun_some hno hr hmk
        have tk12 : TupKp h7 h12 := tkc h12 _ F12 fun p hp => (N12 _ (List.mem_append_right _ (.tail _ (.tail _ (.tail _ (.tail _ hp)))))).1
        have lys := compAll_len hC
        refine H h12 _ g7 R ol lt rw ((kvs.filter (aheadV h b) ++ rvs) ++ zs) lvs rvs F12.keep hab ⟨_, (N12 _ (List.mem_append_left _ (hin _ (.head _)))).1, rfl, _, rfl⟩ ⟨_, (N12 _ (List.mem_append_left _ (hin _ (.tail _ (.head _))))).1, rfl, _, rfl⟩ ?_ (tuple_up hlt F12.keep) ?_
          ⟨_, (N12 _ (List.mem_append_right _ (.tail _ (.tail _ (.tail _ (.head _)))))).1, rfl, _, rfl⟩ ?_
        · rw [er]
          refine paired_append (paired_append (paired_up (SeqKp.le F12.keep).tup hpa) (paired_up tk12 hp)) ?_
          refine paired_map (paired_comp (paired_drop hkr k') (CompAll.mono (h := h12) (G := fun x y => ∃ os, ShE h ((put.length : Int) - gn) x y os ∧ ∀ p ∈ os, h12.get? p.1 = some p.2) hC (fun x y os hs hp => ⟨os, hs, hp⟩) fun p hp => (N12 _ (List.mem_append_left _ (hin p (.tail _ (.tail _ hp))))).1) fun r' v y hr' hv hy => ?_)
          obtain ⟨os, ⟨a, p, t9, t8, nt', val, tv, sa', T', rfl, q1, rfl, rfl⟩, hg⟩ := hy
          obtain ⟨a', nt2, sa2, t1', t2', nvs2, svs2, e, s1, s2, s3, s4, s5⟩ := hv
          cases e
          have e2 := tuple_inj q1 s1
          simp only [Array.mk.injEq, List.cons.injEq, Value.int.injEq, Value.ref.injEq, Value.str.injEq, and_true] at e2
          obtain ⟨⟨rfl, rfl⟩, rfl, ⟨rfl, rfl⟩, rfl⟩ := e2
          have hge : rk.place ≤ r'.place := by
            obtain ⟨j, hj, rfl⟩ := List.mem_iff_getElem.mp hr'
            rw [List.getElem_drop]
            obtain ⟨hlt', hgk⟩ := List.getElem?_eq_some_iff.mp hrk
            rcases Nat.eq_zero_or_pos j with rfl | hj0
            · simp only [Nat.add_zero]; rw [hgk]; exact Nat.le_refl _
            · have hjl : k' + j < kept.length := by rw [List.length_drop] at hj; omega
              have := List.pairwise_iff_getElem.mp inc k' (k' + j) hlt' hjl (by omega)
              rw [hgk] at this; omega
          have epl : (((shiftRow ((put.length : Int) - gn) r').place : Nat) : Int) = (r'.place : Int) + ((put.length : Int) - gn) := by
            show ((((r'.place : Int) + ((put.length : Int) - gn)).toNat : Nat) : Int) = _
            omega
          have hT : h12.IsTuple T' #[.int ((shiftRow ((put.length : Int) - gn) r').place : Int) t9, .ref nt', .str (shiftRow ((put.length : Int) - gn) r').value tv, .ref sa'] := by
            rw [epl]; exact ⟨_, hg _ (.head _), rfl, _, rfl⟩
          exact ⟨T', _, _, t9, _, nvs2, svs2, rfl, hT, tuple_up s2 F12.keep, s3, tuple_up s4 F12.keep, s5⟩
        · rw [er]; exact hlv
        · rw [er]; exact paired_up tk12 hp
    · intro hm h8 tk8 F8 N8
      have hmn : meets kept ((put.length : Int) - gn) (b + put.length) r = none := by
        cases q : meets kept ((put.length : Int) - gn) (b + put.length) r with
        | none => rfl
        | some k => rw [q] at hm; cases hm
      obtain ⟨dt, t0, nvs, b1, b2, b3, b4⟩ := id htok
      refine wp_nil (thenQ_next ?_)
      refine st_append (news' := fun v => LG w cx dc c text r.place sl vs nn ((rw, lobj (rvs ++ [v]) (rn + 1)) :: oth)) (VA := fun v new => ∃ a sa, v = .ref a ∧ new = [(a, tupO [.int r.place t5, .ref nt, .str r.value t6, .ref sa]), (sa, tupO vs)]) F8 N8 (by walk_at "zl") (.tail _ (.tail _ (.tail _ (.head _)))) ?_ (by rw [← lrz, List.length_take]; omega)
        (fun v => .tail jr.1 (.tail jr.2.1 (.tail hsl (.head hoth)))) ?_ (by kernel_rfl) (by kernel_rfl) rfl (by kernel_rfl)
      · refine EX.mono (ex_tuple (exs_consN (V1 := Im (· = .int r.place t5)) (by walk_at "zl") (exs_consN (V1 := Im (· = .ref nt)) (ex_at (by walk_at "zl") F8 T0.X (inst_mk (F8.keep _ _ b1) (F8.keep _ _ b2)) (by k_is) (by k_is) (by k_is) (by k_is) (by k_get) (by kernel_rfl) rfl)
          (exs_consN (V1 := Im (· = .str r.value t6)) (by walk_at "zl") (exs_consN (ex_tupL (T0.up F8.keep) hh (ex_ctx T0.X (by walk_at "zl") F8 N8 (.head _) (.tail _ (.head _)) (by k_get) (by k_is) (by k_is) (by k_is) (by kernel_rfl) rfl) ⟨_, (N8 _ (.tail _ (.tail _ (.head _)))).1, rfl, _, rfl⟩ (by omega) (by kernel_rfl) rfl rfl rfl) exs_nil)))) (fun vs n hv => ?_)) fun v new hv => ?_
        · obtain ⟨v1, q1, n1, n2, rfl, rfl, -, v2, q2, n3, n4, rfl, rfl, -, v3, q3, n5, n6, rfl, rfl, -, v4, q4, n7, n8, rfl, rfl, -, rfl, rfl⟩ := hv
          exact Nat.le_of_ble_eq_true rfl
        · obtain ⟨a, vs', n, rfl, rfl, v1, q1, n1, n2, rfl, rfl, ⟨rfl, rfl⟩, v2, q2, n3, n4, rfl, rfl, ⟨rfl, rfl⟩, v3, q3, n5, n6, rfl, rfl, ⟨rfl, rfl⟩, v4, q4, n7, n8, rfl, rfl, ⟨sa, rfl, rfl⟩, rfl, rfl⟩ := hv
          exact ⟨a, sa, rfl, rfl⟩
      · rintro v new h4 tk4 ⟨a, sa, rfl, rfl⟩ F4 N4 -
        have N5 : News h L h4 (LG w cx dc c text r.place sl vs nn ((rw, lobj (rvs ++ [.ref a]) (rn + 1)) :: ([(a, tupO [.int r.place t5, .ref nt, .str r.value t6, .ref sa]), (sa, tupO vs)] ++ oth))) := fun q hq => N4 q (by
          simp only [LG, List.mem_append, List.mem_cons, List.not_mem_nil, or_false, or_assoc] at hq ⊢
          rcases hq with e | e | e | e | e | e | e <;> simp [e])
        have tk34 : TupKp h7 h4 := tkc h4 _ F4 fun p hp => (N5 _ (.tail _ (.tail _ (.tail _ (.tail _ (List.mem_append_right _ hp)))))).1
        refine wp_nil ⟨h4, tk4, _, rvs ++ [.ref a], rn + 1, _, rfl, F4, N5, fun p hp => List.mem_append_right _ hp, ⟨by walk_at "lk", by walk_at "lk", by walk_at "lk", by walk_at "lk", by walk_at "lk", by walk_at "lk", by walk_at "lk", by walk_at "lk", by walk_at "lk"⟩, ?_, fun j r' hj hr' => ?_⟩
        · rw [List.take_add_one, hr]
          exact paired_append (paired_up tk34 hp) (.cons ⟨a, nt, sa, t5, t6, nvs, vs, rfl, ⟨_, (N5 _ (.tail _ (.tail _ (.tail _ (.tail _ (.head _)))))).1, rfl, _, rfl⟩, tuple_up b3 F4.keep, b4, ⟨_, (N5 _ (.tail _ (.tail _ (.tail _ (.tail _ (.tail _ (.head _))))))).1, rfl, _, rfl⟩, V⟩ .nil)
        · rcases Nat.lt_succ_iff_lt_or_eq.mp hj with hj | rfl
          · exact hno j r' hj hr'
          · rw [hr] at hr'; cases hr'; exact hmn
  · intro h7 tk7 g7 l c sl vs nn rvs rn oth F N hext V hiv hab
    obtain ⟨⟨i1, i2, i3, i4, i5, i6, i7, i8, i9⟩, hp, hno⟩ := hiv
    have lvz : vs.length ≤ 1000 := by rw [← paired_len V]; have := (scan_ok hwy sc hst).2.2; omega
    rw [List.take_length] at hp
    have lrz := paired_len hp
    obtain ⟨all, Nall, hup⟩ := snap F
    have N7 : News h L h7 (LG w cx dc c text text.length sl vs nn ((rw, lobj rvs rn) :: oth) ++ all) := fun q hq => (List.mem_append.mp hq).elim (N q) (Nall q)
    have adm : (AD, lobj (kvs.filter (aheadV h b)) an) ∈ LG w cx dc c text text.length sl vs nn ((rw, lobj rvs rn) :: oth) := .tail _ (.tail _ (.tail _ (.tail _ (hext _ (.tail _ (.tail _ (.tail _ (.head _))))))))
    refine wp_nil (thenQ_next (st_if (b := true) F N7 (et_cmp (P1 := (· = .none)) (op_isnone fun v hv => by subst hv; rfl) (by walk_at "zl") ex_none) (fun _ h8 tk8 F8 N8 => ?_) fun e => nomatch e))
    refine st_ret (V := fun v new => ∃ R ol ft, v = .ref R ∧ new = [(R, tupO [.ref ol, .ref ft, .ref rw]), (ft, tupO vs), (ol, lobj (kvs.filter (aheadV h b) ++ rvs) 0)]) F8 N8 ?_ ?_
    · refine EX.mono (ex_tuple (exs_consN (V1 := fun v new => ∃ ol, v = .ref ol ∧ new = [(ol, lobj (kvs.filter (aheadV h b) ++ rvs) 0)]) (ex_binopN (V1 := Im (· = .ref AD)) (V2 := Im (· = .ref rw)) (by walk_at "zl") (by walk_at "zl") (fun x n1 y n2 h9 le9 _ _ hx hy => ?_))
        (exs_consN (ex_tupL (T0.up F8.keep) hh (ex_ctx T0.X (by walk_at "zl") F8 N8 (.head _) (.tail _ (.head _)) (by k_get) (by k_is) (by k_is) (by k_is) (by kernel_rfl) rfl) ⟨_, (N8 _ (.tail _ (.tail _ (.head _)))).1, rfl, _, rfl⟩ lvz (by kernel_rfl) rfl rfl rfl) (exs_consN (V1 := Im (· = .ref rw)) (by walk_at "zl") exs_nil))) (fun vs n hv => ?_)) fun v new hv => ?_
      · obtain ⟨rfl, rfl⟩ := hx
        obtain ⟨rfl, rfl⟩ := hy
        exact (op_addL (le9 _ _ (N8 _ (List.mem_append_left _ adm)).1) (le9 _ _ (N8 _ (.tail _ (.tail _ (.tail _ (.head _))))).1) (by rw [← lpa, ← lrz]; omega)).mono fun v new hv => by simpa using hv
      · obtain ⟨v1, q1, n1, n2, rfl, rfl, -, v2, q2, n3, n4, rfl, rfl, -, v3, q3, n5, n6, rfl, rfl, -, rfl, rfl⟩ := hv
        exact Nat.le_of_ble_eq_true rfl
      · obtain ⟨R, vs', n, rfl, rfl, v1, q1, n1, n2, rfl, rfl, ⟨ol, rfl, rfl⟩, v2, q2, n3, n4, rfl, rfl, ⟨ft, rfl, rfl⟩, v3, q3, n5, n6, rfl, rfl, ⟨rfl, rfl⟩, rfl, rfl⟩ := hv
        exact ⟨R, ol, ft, rfl, rfl⟩
    · rintro v new h9 tk9 ⟨R, ol, ft, rfl, rfl⟩ F9 N9
      have kp := SeqKp.of F.ns (hup h9 _ F9 fun q hq => N9 q (List.mem_append_right _ (List.mem_append_right _ hq)))
      have er := edRun_none hno
      refine H h9 tk9 g7 R ol ft rw (kvs.filter (aheadV h b) ++ rvs) vs rvs F9.keep hab ⟨_, (N9 _ (.head _)).1, rfl, _, rfl⟩ ⟨_, (N9 _ (.tail _ (.tail _ (.head _)))).1, rfl, _, rfl⟩ ?_ ⟨_, (N9 _ (.tail _ (.head _))).1, rfl, _, rfl⟩ ?_
        ⟨_, (N9 _ (List.mem_append_right _ (List.mem_append_left _ (.tail _ (.tail _ (.tail _ (.head _))))))).1, rfl, _, rfl⟩ ?_
      · rw [er, List.append_nil]
        exact paired_append (paired_up (SeqKp.le F9.keep).tup hpa) (paired_up kp.tup hp)
      · rw [er]; exact V
      · rw [er]; exact paired_up kp.tup hp
end
end Mine
end
section
set_option maxRecDepth 100000
set_option linter.unusedVariables false
open PySem PySem.W PyProof.Rows PySem.Calls PySem.Spec
namespace Mine
/-! the plain law -/
def Words (T : Tab) : Prop := ∀ s, ∀ r ∈ T s, 0 < r.word.cps.toList.length ∧ r.word.cps.toList.length ≤ 3 ∧ 10 ∉ r.word.cps.toList
theorem strLen (x : Str) : x.length = x.cps.toList.length := by rw [Array.length_toList]; rfl
theorem step_len {T : Tab} (G : Words T) (c : Nat) (t : List Nat) (st : List Sta) : 0 < (stepAt T c t st).2.1.cps.toList.length ∧ (stepAt T c t st).2.1.cps.toList.length ≤ 3 := by
  unfold stepAt
  split
  · rename_i r hr
    have := G _ _ (List.mem_of_find?_eq_some hr)
    exact ⟨this.1, this.2.1⟩
  · split <;> exact ⟨by simp, by simp⟩
theorem step_pre {T : Tab} (c : Nat) (t : List Nat) (st : List Sta) : (stepAt T c t st).2.1.cps.toList <+: c :: t := by
  unfold stepAt
  split
  · rename_i r hr
    have h := List.find?_some hr
    exact List.isPrefixOf_iff_prefix.mp h
  · split
    · rename_i h; rw [h]; exact ⟨t, rfl⟩
    · exact ⟨t, rfl⟩
theorem fits_nl {x : Str} {t : List Nat} (h : 0 < x.cps.toList.length) (hn : 10 ∉ x.cps.toList) : fits x (10 :: t) = false := by
  unfold fits
  cases e : x.cps.toList with
  | nil => rw [e] at h; simp at h
  | cons a r =>
    rw [e] at hn
    rw [Bool.eq_false_iff]
    intro q
    have := List.isPrefixOf_iff_prefix.mp q
    obtain ⟨z, hz⟩ := this
    rw [List.cons_append] at hz
    exact hn (by rw [(List.cons.inj hz).1]; exact .head _)
theorem step_nl {T : Tab} (G : Words T) (t : List Nat) (st : List Sta) : stepAt T 10 t st = ([Str.ofString "Text"], ⟨#[10]⟩, [.root], [.root]) := by
  unfold stepAt
  have : (T (topOf st)).find? (fun r => fits r.word (10 :: t)) = none := by
    rw [List.find?_eq_none]
    intro r hr
    rw [fits_nl (G _ r hr).1 (G _ r hr).2.2]; simp
  rw [this]; rfl
theorem step_told {T : Tab} (c : Nat) (t : List Nat) (st : List Sta) : (stepAt T c t st).2.2.1 = st ∨ (c = 10 ∧ (stepAt T c t st).2.2.1 = [.root]) := by
  unfold stepAt
  split
  · exact .inl rfl
  · split
    · rename_i h; exact .inr ⟨h, rfl⟩
    · exact .inl rfl
theorem step_again {T : Tab} (G : Words T) (c : Nat) (t : List Nat) (st : List Sta) : stepAt T c t (stepAt T c t st).2.2.1 = stepAt T c t st := by
  rcases step_told (T := T) c t st with h | ⟨h, -⟩
  · rw [h]
  · subst h; rw [step_nl G, step_nl G]
theorem step_ten {T : Tab} (G : Words T) (c : Nat) (t : List Nat) (st : List Sta) {j : Nat} (h : (stepAt T c t st).2.1.cps.toList[j]? = some 10) : j = 0 ∧ c = 10 := by
  by_cases hc : c = 10
  · subst hc
    rw [step_nl G] at h
    cases j with
    | zero => exact ⟨rfl, rfl⟩
    | succ j => simp at h
  · exfalso
    revert h
    unfold stepAt
    split
    · rename_i r hr
      intro h
      exact (G _ _ (List.mem_of_find?_eq_some hr)).2.2 (List.mem_of_getElem? h)
    · rw [if_neg hc]
      cases j with
      | zero => simp [hc]
      | succ j => simp
theorem fits_take {x : Str} {u u' : List Nat} (hx : x.cps.toList.length ≤ 3) (e : u.take 3 = u'.take 3) : fits x u = fits x u' := by
  have key : ∀ v : List Nat, (x.cps.toList <+: v) ↔ (x.cps.toList <+: v.take 3) := fun v => by
    constructor
    · intro q
      rw [List.prefix_iff_eq_take] at q ⊢
      rw [List.take_take, Nat.min_eq_left hx]
      exact q
    · intro q
      exact q.trans (List.take_prefix _ _)
  unfold fits
  rw [Bool.eq_iff_iff, List.isPrefixOf_iff_prefix, List.isPrefixOf_iff_prefix, key u, key u', e]
theorem find_congr' {α : Type} {p q : α → Bool} : ∀ {l : List α}, (∀ x ∈ l, p x = q x) → l.find? p = l.find? q
  | [], _ => rfl
  | x :: l, h => by
    rw [List.find?_cons, List.find?_cons, h x (.head _), find_congr' fun y hy => h y (.tail _ hy)]
theorem step_local {T : Tab} (G : Words T) {c : Nat} {t t' : List Nat} (st : List Sta) (e : (c :: t).take 3 = (c :: t').take 3) : stepAt T c t st = stepAt T c t' st := by
  unfold stepAt
  rw [find_congr' fun r hr => fits_take (G _ r hr).2.1 e]
theorem scan_det {T : Tab} {u : List Nat} {pos : Nat} {st fin fin' : List Sta} {rows rows' : List Row} (h : Scan T u pos st rows fin) (h' : Scan T u pos st rows' fin') : rows = rows' ∧ fin = fin' := by
  induction h generalizing rows' fin' with
  | nil => cases h'; exact ⟨rfl, rfl⟩
  | cons h ih =>
    cases h' with
    | cons h' =>
      obtain ⟨a, b⟩ := ih h'
      exact ⟨by rw [a], b⟩
theorem scan_ex {T : Tab} (G : Words T) : ∀ (n : Nat) (u : List Nat), u.length ≤ n → ∀ (pos : Nat) (st : List Sta), ∃ rows fin, Scan T u pos st rows fin
  | _, [], _, pos, st => ⟨[], st, .nil⟩
  | 0, _ :: _, h, _, _ => by simp at h
  | n + 1, c :: t, h, pos, st => by
    have hl := (step_len G c t st).1
    have hs : (stepAt T c t st).2.1.length = (stepAt T c t st).2.1.cps.toList.length := strLen _
    obtain ⟨rows, fin, hr⟩ := scan_ex G n ((c :: t).drop (stepAt T c t st).2.1.length) (by rw [List.length_drop]; simp only [List.length_cons] at h ⊢; omega) (pos + (stepAt T c t st).2.1.length) (stepAt T c t st).2.2.2
    exact ⟨_, fin, .cons hr⟩
theorem scan_places {T : Tab} (G : Words T) {u : List Nat} {pos : Nat} {st fin : List Sta} {rows : List Row} (h : Scan T u pos st rows fin) :
    (∀ r ∈ rows, pos ≤ r.place ∧ r.place < pos + u.length) ∧ (rows.Pairwise fun a b => a.place < b.place) ∧ rows.length ≤ u.length ∧ (rows.map (·.value.cps.toList)).flatten = u := by
  induction h with
  | nil => exact ⟨(fun _ h => nomatch h), .nil, Nat.le_refl _, rfl⟩
  | @cons c t pos st rows fin h ih =>
    obtain ⟨i1, i2, i3, i4⟩ := ih
    have hl := (step_len G c t st).1
    have hp := step_pre (T := T) c t st
    have hs : (stepAt T c t st).2.1.length = (stepAt T c t st).2.1.cps.toList.length := strLen _
    have hll := hp.length_le
    rw [hs] at i1 i3 i4
    rw [List.length_drop] at i1 i3
    refine ⟨fun r hr => ?_, .cons (fun r hr => ?_) i2, ?_, ?_⟩
    · rcases List.mem_cons.mp hr with rfl | hr
      · simp only [List.length_cons]; omega
      · have := i1 r hr; omega
    · have := i1 r hr
      show pos < _
      omega
    · simp only [List.length_cons] at hll i3 ⊢; omega
    · rw [List.map_cons, List.flatten_cons, i4]
      show (stepAt T c t st).2.1.cps.toList ++ _ = _
      have e := List.prefix_iff_eq_take.mp hp
      conv => lhs; arg 1; rw [e]
      exact List.take_append_drop _ _
theorem scan_shift {T : Tab} {d : Int} {u : List Nat} {pos : Nat} {st fin : List Sta} {rows : List Row} (h : Scan T u pos st rows fin) : ∀ pos' : Nat, (pos' : Int) = (pos : Int) + d → Scan T u pos' st (rows.map (shiftRow d)) fin := by
  induction h with
  | nil => intro _ _; exact .nil
  | @cons c t pos st rows fin h ih =>
    intro pos' e
    have := ih (pos' + (stepAt T c t st).2.1.length) (by omega)
    rw [List.map_cons]
    have e2 : shiftRow d ⟨pos, (stepAt T c t st).1, (stepAt T c t st).2.1, (stepAt T c t st).2.2.1⟩ = ⟨pos', (stepAt T c t st).1, (stepAt T c t st).2.1, (stepAt T c t st).2.2.1⟩ := by
      unfold shiftRow
      congr 1
      show ((pos : Int) + d).toNat = pos'
      omega
    rw [e2]
    exact .cons this
theorem scan_told {T : Tab} (G : Words T) {c : Nat} {t : List Nat} {pos : Nat} {st fin : List Sta} {rows : List Row} (h : Scan T (c :: t) pos st rows fin) : Scan T (c :: t) pos (stepAt T c t st).2.2.1 rows fin := by
  cases h with
  | cons h =>
    have := Scan.cons (T := T) (c := c) (t := t) (pos := pos) (st := (stepAt T c t st).2.2.1) (rows := ‹List Row›) (fin := fin)
    rw [step_again G] at this
    exact this h
theorem scan_drop {T : Tab} (G : Words T) {u : List Nat} {pos : Nat} {st fin : List Sta} {rows : List Row} (h : Scan T u pos st rows fin) : ∀ {i : Nat} {r : Row}, rows[i]? = some r → Scan T (u.drop (r.place - pos)) r.place r.stack (rows.drop i) fin := by
  induction h with
  | nil => intro i r h; simp at h
  | @cons c t pos st rows fin h ih =>
    intro i r hr
    cases i with
    | zero =>
      simp at hr; subst hr
      simp only [Nat.sub_self, List.drop_zero]
      exact scan_told G (.cons h)
    | succ i =>
      have hr : rows[i]? = some r := by simpa using hr
      have := ih hr
      have hp := ((scan_places G h).1 r (List.mem_of_getElem? hr)).1
      rw [List.drop_drop, show (stepAt T c t st).2.1.length + (r.place - (pos + (stepAt T c t st).2.1.length)) = r.place - pos by omega] at this
      simpa using this
theorem take3 {t t' : List Nat} {b pos : Nat} (e : t.take b = t'.take b) (h : pos + 3 ≤ b) : (t.drop pos).take 3 = (t'.drop pos).take 3 := by
  have : ∀ v : List Nat, (v.drop pos).take 3 = ((v.take b).drop pos).take 3 := fun v => by
    rw [List.drop_take, List.take_take, Nat.min_eq_left (by omega)]
  rw [this t, this t', e]
theorem aheadOf_cons {r : Row} {rows : List Row} {b : Nat} (h : r.place + 4 ≤ b) : aheadOf (r :: rows) b = r :: aheadOf rows b := by
  unfold aheadOf; rw [List.filter_cons_of_pos (by simpa using h)]
theorem aheadOf_nil {rows : List Row} {b : Nat} (h : ∀ r ∈ rows, b < r.place + 4) : aheadOf rows b = [] := by
  unfold aheadOf
  rw [List.filter_eq_nil_iff]
  intro r hr
  have := h r hr
  simp; omega
/-- both texts read alike ahead of the edit -/
theorem scan_ahead {T : Tab} (G : Words T) {t t' : List Nat} {b : Nat} (e : t.take b = t'.take b) {u : List Nat} {pos : Nat} {st fin : List Sta} {rows : List Row} (h : Scan T u pos st rows fin) : u = t.drop pos →
    ∃ k pos' st', aheadOf rows b = rows.take k ∧ k ≤ rows.length ∧ Scan T (t.drop pos') pos' st' (rows.drop k) fin ∧ ((pos' = pos ∧ st' = st) ∨ pos' < b) ∧ (∀ r ∈ rows.drop k, b < r.place + 4) ∧
      ∀ rs fin', Scan T (t'.drop pos') pos' st' rs fin' → Scan T (t'.drop pos) pos st (rows.take k ++ rs) fin' := by
  induction h with
  | @nil pos st =>
    intro hu
    exact ⟨0, pos, st, rfl, Nat.le_refl _, by rw [← hu]; exact .nil, .inl ⟨rfl, rfl⟩, (fun _ h => nomatch h), fun _ _ h => h⟩
  | @cons c v pos st rows fin h ih =>
    intro hu
    by_cases hb : pos + 4 ≤ b
    · have hs : (stepAt T c v st).2.1.length = (stepAt T c v st).2.1.cps.toList.length := strLen _
      have hl := step_len G c v st
      obtain ⟨k, pos', st', a1, a2, a3, a4, a5, a6⟩ := ih (by rw [← List.drop_drop, ← hu])
      refine ⟨k + 1, pos', st', by rw [aheadOf_cons hb, a1]; rfl, by simpa using a2, by simpa using a3, ?_, by simpa using a5, fun rs fin' h' => ?_⟩
      · rcases a4 with ⟨a4, -⟩ | a4 <;> exact .inr (by omega)
      · have e3 := take3 (pos := pos) e (by omega)
        have z := a6 rs fin' h'
        rw [← hu] at e3
        cases q : t'.drop pos with
        | nil => rw [q] at e3; simp at e3
        | cons c' v' =>
          rw [q] at e3
          have hc : c = c' := by rw [List.take_succ_cons, List.take_succ_cons] at e3; exact (List.cons.inj e3).1
          subst hc
          have hst := step_local G st e3
          rw [← List.drop_drop, q, hst] at z
          rw [List.take_succ_cons, List.cons_append, hst]
          exact .cons z
    · have hp := (scan_places G (.cons h)).1
      refine ⟨0, pos, st, by rw [aheadOf_nil fun r hr => by have := hp r hr; omega]; rfl, Nat.zero_le _, ?_, .inl ⟨rfl, rfl⟩, fun r hr => ?_, fun _ _ h => h⟩
      · rw [← hu]; exact .cons h
      · have := hp r (by simpa using hr); omega
/-- an end of line begins a row, told with the bottom alone -/
theorem scan_line {T : Tab} (G : Words T) {u : List Nat} {pos : Nat} {st fin : List Sta} {rows : List Row} (h : Scan T u pos st rows fin) : ∀ {j : Nat}, u[j]? = some 10 → ∃ (i : Nat) (r : Row), rows[i]? = some r ∧ r.place = pos + j ∧ r.stack = [.root] := by
  induction h with
  | nil => intro j h; simp at h
  | @cons c v pos st rows fin h ih =>
    intro j hj
    have hs : (stepAt T c v st).2.1.length = (stepAt T c v st).2.1.cps.toList.length := strLen _
    have hp := step_pre (T := T) c v st
    by_cases q : j < (stepAt T c v st).2.1.length
    · obtain ⟨z, hz⟩ := hp
      rw [← hz, List.getElem?_append_left (by rw [← hs]; exact q)] at hj
      obtain ⟨rfl, rfl⟩ := step_ten G c v st hj
      exact ⟨0, _, rfl, rfl, by rw [step_nl G]⟩
    · obtain ⟨i, r, hr, hpl, hst⟩ := ih (j := j - (stepAt T c v st).2.1.length) (by rw [List.getElem?_drop, show (stepAt T c v st).2.1.length + (j - (stepAt T c v st).2.1.length) = j by omega]; exact hj)
      exact ⟨i + 1, r, by simpa using hr, by omega, hst⟩
theorem edRun_spec {kept : List Row} {moved : Int} {lo : Nat} : ∀ rs : List Row, (edRun kept moved lo rs = (rs, none) ∧ ∀ (j : Nat) (r : Row), rs[j]? = some r → meets kept moved lo r = none) ∨
    ∃ (i k : Nat) (r : Row), rs[i]? = some r ∧ meets kept moved lo r = some k ∧ edRun kept moved lo rs = (rs.take i, some k) ∧ ∀ (j : Nat) (r : Row), j < i → rs[j]? = some r → meets kept moved lo r = none
  | [] => .inl ⟨rfl, fun j r h => by simp at h⟩
  | r :: rs => by
    cases q : meets kept moved lo r with
    | some k => exact .inr ⟨0, k, r, rfl, q, by simp only [edRun, q, List.take_zero], fun j _ h => absurd h (Nat.not_lt_zero _)⟩
    | none =>
      rcases edRun_spec (kept := kept) (moved := moved) (lo := lo) rs with ⟨h1, h2⟩ | ⟨i, k, r', h1, h2, h3, h4⟩
      · refine .inl ⟨by simp only [edRun, q, h1], fun j r' h => ?_⟩
        cases j with
        | zero => simp at h; subst h; exact q
        | succ j => exact h2 j r' (by simpa using h)
      · refine .inr ⟨i + 1, k, r', by simpa using h1, h2, by simp only [edRun, q, h3, List.take_succ_cons], fun j r'' hj h => ?_⟩
        cases j with
        | zero => simp at h; subst h; exact q
        | succ j => exact h4 j r'' (by omega) (by simpa using h)
theorem meets_some {kept : List Row} {moved : Int} {lo k : Nat} {r : Row} (h : meets kept moved lo r = some k) : lo ≤ r.place ∧ ∃ rk, kept[k]? = some rk ∧ (rk.place : Int) + moved = (r.place : Int) ∧ rk.stack = r.stack := by
  unfold meets at h
  split at h
  · rename_i hlo
    rw [List.findIdx?_eq_some_iff_getElem] at h
    obtain ⟨hk, h2, -⟩ := h
    simp only [Bool.and_eq_true, decide_eq_true_eq] at h2
    exact ⟨hlo, _, List.getElem?_eq_getElem hk, h2.1, h2.2⟩
  · cases h
theorem edit_law {T : Tab} (G : Words T) {t0 t1 p : List Nat} {b gn place : Nat} {kept rs whole : List Row} {last st fin fin' : List Sta} (hb : b + gn ≤ t0.length) (ht : t1 = t0.take b ++ p ++ t0.drop (b + gn))
    (s0 : Scan T t0 0 [.root] kept last) (s1 : Scan T t1 0 [.root] whole fin')
    (hpl : (place, st) = match kept[(aheadOf kept b).length]? with | some r => (r.place, r.stack) | none => (t1.length - p.length + gn, last))
    (sc : Scan T (t1.drop place) place st rs fin) :
    aheadOf kept b ++ (edRun kept ((p.length : Int) - gn) (b + p.length) rs).1 ++ (match (edRun kept ((p.length : Int) - gn) (b + p.length) rs).2 with | none => [] | some k => (kept.drop k).map (shiftRow ((p.length : Int) - gn))) = whole ∧
      (match (edRun kept ((p.length : Int) - gn) (b + p.length) rs).2 with | none => fin | some _ => last) = fin' ∧
      (∀ line, b + p.length ≤ line → t1[line]? = some 10 → ∀ r ∈ (edRun kept ((p.length : Int) - gn) (b + p.length) rs).1, r.place < line) := by
  have l1 : t1.length = t0.length - gn + p.length := by rw [ht]; simp only [List.length_append, List.length_take, List.length_drop]; omega
  have etake : t0.take b = t1.take b := by
    have : (t0.take b).length = b := by rw [List.length_take]; omega
    rw [ht, List.append_assoc, List.take_append_of_le_length (by omega)]
    rw [List.take_take, Nat.min_self]
  have ebeh : ∀ j, b + gn ≤ j → ∀ j' : Nat, (j' : Int) = (j : Int) + ((p.length : Int) - gn) → t1.drop j' = t0.drop j := fun j hj j' hj' => by
    have : (t0.take b ++ p).length = b + p.length := by rw [List.length_append, List.length_take]; omega
    rw [ht, List.drop_append, List.drop_eq_nil_of_le (by omega), List.nil_append, List.drop_drop]
    congr 1
    omega
  obtain ⟨k, pos', st', a1, a2, a3, a4, a5, a6⟩ := scan_ahead G etake s0 rfl
  have hlen : (aheadOf kept b).length = k := by rw [a1, List.length_take]; omega
  -- where the reading begins anew
  have key : place = pos' ∧ Scan T (t1.drop place) place st' rs fin ∧ place ≤ b := by
    rw [hlen] at hpl
    cases hd : kept[k]? with
    | none =>
      rw [hd] at hpl
      obtain ⟨rfl, rfl⟩ := Prod.mk.inj hpl
      have hk : kept.drop k = [] := List.drop_eq_nil_of_le (List.getElem?_eq_none_iff.mp hd)
      rw [hk] at a3
      have hnil : t0.drop pos' = [] := by
        cases q : t0.drop pos' with
        | nil => rfl
        | cons c v => rw [q] at a3; cases a3
      rw [hnil] at a3
      obtain ⟨-, rfl⟩ := scan_end a3
      have h0 : t0.length ≤ pos' := by
        have := congrArg List.length hnil
        rw [List.length_drop, List.length_nil] at this; omega
      rcases a4 with ⟨rfl, -⟩ | a4
      · have : t0.length = 0 := by omega
        have e0 : t1.length - p.length + gn = 0 := by omega
        rw [e0] at sc ⊢
        exact ⟨rfl, sc, Nat.zero_le _⟩
      · omega
    | some r =>
      rw [hd] at hpl
      obtain ⟨rfl, rfl⟩ := Prod.mk.inj hpl
      obtain ⟨hlt, hg⟩ := List.getElem?_eq_some_iff.mp hd
      have hdrop : kept.drop k = r :: kept.drop (k + 1) := by rw [List.drop_eq_getElem_cons hlt, hg]
      rw [hdrop] at a3
      cases q : t0.drop pos' with
      | nil => rw [q] at a3; cases a3
      | cons c v =>
        rw [q] at a3
        cases a3 with
        | cons a3 =>
          refine ⟨rfl, ?_, ?_⟩
          · show Scan T (t1.drop pos') pos' st' rs fin
            change Scan T (t1.drop pos') pos' (stepAt T c v st').2.2.1 rs fin at sc
            rcases step_told (T := T) c v st' with h | ⟨h, h2⟩
            · rw [h] at sc; exact sc
            · subst h
              rcases a4 with ⟨rfl, rfl⟩ | a4
              · rw [h2] at sc; exact sc
              · have ec : t1[pos']? = some 10 := by
                  have z : ∀ v' : List Nat, v'[pos']? = (v'.take b)[pos']? := fun v' => by rw [List.getElem?_take, if_pos a4]
                  rw [z, ← etake, ← z]
                  have := congrArg (fun l => l[0]?) q
                  simp only [List.getElem?_drop, Nat.add_zero] at this
                  rw [this]; rfl
                have q1 : t1.drop pos' = 10 :: t1.drop (pos' + 1) := by
                  obtain ⟨hl, hg⟩ := List.getElem?_eq_some_iff.mp ec
                  rw [List.drop_eq_getElem_cons hl, hg]
                rw [q1, h2] at sc
                rw [q1]
                cases sc with
                | cons sc =>
                  have := Scan.cons (T := T) (c := 10) (t := t1.drop (pos' + 1)) (pos := pos') (st := st') (rows := ‹List Row›) (fin := fin)
                  rw [step_nl G] at this sc ⊢
                  exact this sc
          · show pos' ≤ b
            rcases a4 with ⟨rfl, -⟩ | a4
            · exact Nat.zero_le _
            · omega
  obtain ⟨rfl, sc', hplb⟩ := key
  obtain ⟨ew, ef⟩ := scan_det s1 (by have := a6 rs fin sc'; simpa using this)
  rw [← a1] at ew
  have inc := (scan_places G s0).2.1
  have incr := (scan_places G sc').2.1
  rcases edRun_spec (kept := kept) (moved := (p.length : Int) - gn) (lo := b + p.length) rs with ⟨h1, h2⟩ | ⟨i, k', r, h1, h2, h3, h4⟩
  · rw [h1]
    refine ⟨by rw [List.append_nil, ew], ef.symm, fun line hl h10 r hr => ?_⟩
    exfalso
    obtain ⟨i, r1, hr1, e1, e2⟩ := scan_line G sc' (j := line - place) (by rw [List.getElem?_drop, show place + (line - place) = line by omega]; exact h10)
    have h0 : t0[line - p.length + gn]? = some 10 := by
      have := ebeh (line - p.length + gn) (by omega) line (by omega)
      have := congrArg (fun l => l[0]?) this
      simp only [List.getElem?_drop, Nat.add_zero] at this
      rw [← this]; exact h10
    obtain ⟨i0, r0, hr0, e3, e4⟩ := scan_line G s0 h0
    have := meets_at (moved := (p.length : Int) - gn) (lo := b + p.length) (r := r1) inc hr0 (by omega)
    rw [h2 i r1 hr1, if_pos (by omega), if_pos (by rw [e2, e4])] at this
    cases this
  · rw [h3]
    obtain ⟨hlo, rk, hk, hpk, hsk⟩ := meets_some h2
    have d0 := scan_drop G s0 hk
    have d1 := scan_drop G sc' h1
    rw [List.drop_drop] at d1
    have hge := ((scan_places G sc').1 r (List.mem_of_getElem? h1)).1
    rw [show place + (r.place - place) = r.place by omega, ebeh rk.place (by omega) r.place (by omega), ← hsk] at d1
    rw [Nat.sub_zero] at d0
    obtain ⟨er, efl⟩ := scan_det (scan_shift (d := (p.length : Int) - gn) d0 r.place (by omega)) d1
    refine ⟨?_, by rw [ef]; exact efl, fun line hl h10 q hq => ?_⟩
    · show aheadOf kept b ++ rs.take i ++ (kept.drop k').map _ = whole
      rw [er, List.append_assoc, List.take_append_drop, ew]
    · obtain ⟨i1, r1, hr1, e1, e2⟩ := scan_line G sc' (j := line - place) (by rw [List.getElem?_drop, show place + (line - place) = line by omega]; exact h10)
      have h0 : t0[line - p.length + gn]? = some 10 := by
        have := ebeh (line - p.length + gn) (by omega) line (by omega)
        have := congrArg (fun l => l[0]?) this
        simp only [List.getElem?_drop, Nat.add_zero] at this
        rw [← this]; exact h10
      obtain ⟨i0, r0, hr0, e3, e4⟩ := scan_line G s0 h0
      have hm := meets_at (moved := (p.length : Int) - gn) (lo := b + p.length) (r := r1) inc hr0 (by omega)
      rw [if_pos (by omega), if_pos (by rw [e2, e4])] at hm
      have hi : i ≤ i1 := by
        rcases Nat.lt_or_ge i1 i with hlt | hge
        · have := h4 i1 r1 hlt hr1
          rw [this] at hm; cases hm
        · exact hge
      obtain ⟨j, hj, rfl⟩ := List.mem_iff_getElem.mp hq
      have hjl : j < i := by rw [List.length_take] at hj; omega
      obtain ⟨hi1, hg1⟩ := List.getElem?_eq_some_iff.mp hr1
      have := List.pairwise_iff_getElem.mp incr j i1 (by omega) hi1 (by omega)
      rw [hg1] at this
      rw [List.getElem_take]
      omega
end Mine
end
section
set_option maxRecDepth 100000
set_option linter.unusedVariables false
open PySem PySem.W PyProof.Rows PySem.Calls PySem.Spec
namespace Mine
section
variable {prog : Program} {w : World} {A : Around} {h : Heap} {env : Env} {K : Frag} {h₀ : Heap} {L : Addr} {m : Str → Option Value} {l : List (Str × Value)} {news : List (Addr × Obj)}
  {g : Array GenState} {d : Drawn} {tk : Nat} {os : OsState} {E : Value → Shared → Prop}
/-- an expression's value onto the ledger -/
theorem EX.lgr {α : Type} {t : Sem α} {V : α → List (Addr × Obj) → Prop} {Q : α → Shared → Prop} (x : EX prog w A t h V) (F : Fr h₀ L h m) (N : News h₀ L h news)
    (H : ∀ v new h' tk', V v new → Fr h₀ L h' m → News h₀ L h' (new ++ news) → (∀ p ∈ new, ∀ q ∈ news, p.1 ≠ q.1) → Q v ⟨h', g, d, tk', os⟩) : wpAny (model prog w) A t Q E ⟨h, g, d, tk, os⟩ :=
  x.at fun v new h2 tk2 l2 f2 hv => H v new h2 tk2 hv (fr_up F l2) (nw_add F N l2 f2) fun p hp q hq e => by
    have := (f2 p hp).2
    rw [e, (N q hq).1] at this; cases this
end
section
variable {prog : Program} {w : World} {A : Around} {h : Heap} {K : Frag} {name qual : Str} {params : Arguments} {body : List Stmt} {scope : Scope} {dV kV doc pm cdv ct oc : Value} {an od : Option Addr} {osl : Array (Option Value)} {f : Addr}
/-- a call whose arguments are bound to new objects -/
theorem cx_defB {pos : List Value} {kw : List (Str × Value)} {V : Value → List (Addr × Obj) → Prop} {VB : List (Str × Value) → List (Addr × Obj) → Prop} (X₀ : K.In h) (hl : h.NoLimit)
    (ho : K.lookup f = some ⟨oc, od, .func (fnOf name qual params body scope dV kV doc pm an cdv ct), osl⟩) (hcd : codeIn K cdv qual = true) (hroom : A.depth < recursionLimit)
    (hbind : EX prog w A.in1 (bindArgs (fnOf name qual params body scope dV kV doc pm an cdv ct) ⟨pos, kw⟩) h VB) (hloc : ∀ binds new, VB binds new → ∀ y ∈ binds, scope.names.lookup y.1 = some .local)
    (hb : ∀ h1 L' hh g d tk os binds new, Le h h1 → VB binds new → Fr h1 L' hh (frm binds.reverse) → News h1 L' hh new →
      WP prog w (A.deeper (envOf qual scope L' f cdv)) (execs body (envOf qual scope L' f cdv)) (Ret h1 L' g d os V) ⟨hh, g, d, tk, os⟩)
    (hcell : ∀ x ∈ scope.names, x.2 ≠ .cell)
    (hco : scope.isCoroutine = false) (hgen : scope.isGenerator = false) (hk : scope.kind = .function) : CX prog w A (.call (.ref f) ⟨pos, kw⟩) h V := by
  refine ⟨fun h1 g d tk os Q E le H => ?_⟩
  refine codeAny_call_function hroom (le _ _ (X₀ _ _ ho)) rfl hco hgen rfl (codeRec_of (X₀.keeps le) hcd) (hbind.run h1 g d tk os _ _ le fun binds new h2 tk2 l2 f2 hv => ?_)
  refine wpAny_newFunctionEnv hcell (hloc _ _ hv) (fun h₀ hns₀ hsb₀ => ⟨(hl.keeps (le.trans l2)).fresh _ hsb₀, codeAny_func ?_⟩) hk
  have k2 : Le h2 h₀ := fun b o e => hsb₀.extBut b o (Nat.ne_of_lt (Heap.lt_size e)) (Heap.get?_push_of_some _ e)
  have lg : Le h1 (hideAll h2 (new.map (·.1))) := fun b o e => hideAll_get _ (l2 _ _ e) fun q => by
    obtain ⟨p, hp, rfl⟩ := List.mem_map.mp q
    rw [(f2 p hp).2] at e; cases e
  refine wpAny_mono (hb (hideAll h2 (new.map (·.1))) h2.objs.size h₀ g d _ os binds new (le.trans lg) hv ⟨hns₀, fun b o e => k2 _ _ (of_hideAll _ e), Nat.le_of_eq (hideAll_size _ _)⟩
    fun p hp => ⟨k2 _ _ (f2 p hp).1, Nat.ne_of_lt (Heap.lt_size (f2 p hp).1), hideAll_none _ (List.mem_map_of_mem hp)⟩).run (fun fl s' hr => ?_) fun _ _ y => y.elim
  obtain ⟨m', news', h', tk', rfl, F', N', hV⟩ := hr
  have z := H _ news' h' tk' (lg.trans F'.keep) (fun p hp => ⟨(N' p hp).1, lg.none (N' p hp).2.2⟩) hV
  cases fl <;> exact z
/-- a class's call whose __init__ binds new objects -/
theorem ex_makeB {C fI : Addr} {rest : List Value} {kw : List (Str × Value)} {V : Value → List (Addr × Obj) → Prop} {VB : Addr → List (Str × Value) → List (Addr × Obj) → Prop} (X₀ : K.In h) (hl : h.NoLimit) (hm : makesIn K C = true)
    (hi : findIn K (.ref C) "__init__" = some (some (.ref fI))) (hf : typeIn K (.ref fI) = some (.type "function"))
    (ho : K.lookup fI = some ⟨oc, od, .func (fnOf name qual params body scope dV kV doc pm an cdv ct), osl⟩) (hcd : codeIn K cdv qual = true) (hroom : (A.under (.builtin "type.__call__" ⟨.ref C :: rest, kw⟩)).depth < recursionLimit)
    (hbind : ∀ (x : Addr) (h' : Heap), Le h h' → EX prog w (A.under (.builtin "type.__call__" ⟨.ref C :: rest, kw⟩)).in1 (bindArgs (fnOf name qual params body scope dV kV doc pm an cdv ct) ⟨.ref x :: rest, kw⟩) h' (VB x)) (hloc : ∀ x binds new, VB x binds new → ∀ y ∈ binds, scope.names.lookup y.1 = some .local)
    (hb : ∀ h1 x dx L' hh g d tk os binds new, Le h h1 → dx < x → x < L' → VB x binds new → (∀ p ∈ new, p.1 ≠ x ∧ p.1 ≠ dx) → Fr h1 L' hh (frm binds.reverse) → News h1 L' hh (new ++ [(x, instObj C dx), (dx, emptyDict)]) →
      WP prog w ((A.under (.builtin "type.__call__" ⟨.ref C :: rest, kw⟩)).deeper (envOf qual scope L' fI cdv)) (execs body (envOf qual scope L' fI cdv))
        (fun fl s' => retv fl = .none ∧ Ret h1 L' g d os (fun _ => V (.ref x)) fl s') ⟨hh, g, d, tk, os⟩)
    (hcell : ∀ x ∈ scope.names, x.2 ≠ .cell)
    (hco : scope.isCoroutine = false) (hgen : scope.isGenerator = false) (hk : scope.kind = .function) : EX prog w A (call (.ref C) rest kw) h V := by
  refine ⟨fun h1 g d tk os Q E le H => ?_⟩
  have X := X₀.keeps le
  with_reducible refine wpAny_call ?_
  refine (make_core (makes_of X hm) (looks_findIn X hi) (fun self => bind_fn X self hf) (.inl rfl) ?_)
  have l0 : Le h1 ((h1.push emptyDict).push (instObj C h1.objs.size)) := fun b o e => Heap.get?_push_of_some _ (Heap.get?_push_of_some _ e)
  have hz : (h1.push emptyDict).objs.size = h1.objs.size + 1 := Heap.size_push ..
  have hz2 : ((h1.push emptyDict).push (instObj C h1.objs.size)).objs.size = h1.objs.size + 2 := by rw [Heap.size_push, hz]
  refine codeAny_call_function hroom (l0 _ _ (X _ _ ho)) rfl hco hgen rfl (codeRec_of (X.keeps l0) hcd) ((hbind _ _ (le.trans l0)).run _ g d tk os _ _ Le.refl fun binds new h2 tk2 l2 f2 hv => ?_)
  refine wpAny_newFunctionEnv hcell (hloc _ _ _ hv) (fun h₀ hns₀ hsb₀ => ⟨((hl.keeps (le.trans l0)).keeps l2).fresh _ hsb₀, codeAny_func ?_⟩) hk
  have k2 : Le h2 h₀ := fun b o e => hsb₀.extBut b o (Nat.ne_of_lt (Heap.lt_size e)) (Heap.get?_push_of_some _ e)
  have e1 : ((h1.push emptyDict).push (instObj C h1.objs.size)).get? (h1.objs.size + 1) = some (instObj C h1.objs.size) := by rw [← hz]; exact Heap.get?_push_size _ rfl
  have e2 : ((h1.push emptyDict).push (instObj C h1.objs.size)).get? h1.objs.size = some emptyDict := Heap.get?_push_of_some _ (Heap.get?_push_size _ rfl)
  have fr : ∀ a, h1.objs.size ≤ a → h1.get? a = none := fun a ha => by
    cases e : h1.get? a with
    | none => rfl
    | some o' => exact absurd (Heap.lt_size e) (Nat.not_lt.mpr ha)
  have nx : ∀ p ∈ new, p.1 ≠ h1.objs.size + 1 ∧ p.1 ≠ h1.objs.size := fun p hp => by
    have z := (f2 p hp).2
    exact ⟨(fun q => by rw [q, e1] at z; cases z), (fun q => by rw [q, e2] at z; cases z)⟩
  generalize hall : new ++ [(h1.objs.size + 1, instObj C h1.objs.size), (h1.objs.size, emptyDict)] = all
  have fall : ∀ p ∈ all, h2.get? p.1 = some p.2 ∧ h1.get? p.1 = none := fun p hp => by
    rw [← hall] at hp
    rcases List.mem_append.mp hp with hp | hp
    · exact ⟨(f2 p hp).1, l0.none (f2 p hp).2⟩
    · have : p = (h1.objs.size + 1, instObj C h1.objs.size) ∨ p = (h1.objs.size, emptyDict) := by simpa using hp
      rcases this with rfl | rfl
      · exact ⟨l2 _ _ e1, fr _ (Nat.le_succ _)⟩
      · exact ⟨l2 _ _ e2, fr _ (Nat.le_refl _)⟩
  have lg : Le h1 (hideAll h2 (all.map (·.1))) := fun b o e => hideAll_get _ (l2 _ _ (l0 _ _ e)) fun q => by
    obtain ⟨p, hp, rfl⟩ := List.mem_map.mp q
    rw [(fall p hp).2] at e; cases e
  have hxL : h1.objs.size + 1 < h2.objs.size := Heap.lt_size (l2 _ _ e1)
  refine wpAny_mono (hb (hideAll h2 (all.map (·.1))) (h1.objs.size + 1) h1.objs.size h2.objs.size h₀ g d _ os binds new (le.trans lg) (Nat.lt_succ_self _) hxL hv nx ⟨hns₀, fun b o e => k2 _ _ (of_hideAll _ e), Nat.le_of_eq (hideAll_size _ _)⟩
    (fun p hp => by
      rw [hall] at hp
      exact ⟨k2 _ _ (fall p hp).1, Nat.ne_of_lt (Heap.lt_size (fall p hp).1), hideAll_none _ (List.mem_map_of_mem hp)⟩)).run (fun fl s' hr => ?_) fun _ _ y => y.elim
  obtain ⟨hn, m', news', h', tk', rfl, F', N', hV⟩ := hr
  have z := H _ news' h' tk' (lg.trans F'.keep) (fun p hp => ⟨(N' p hp).1, lg.none (N' p hp).2.2⟩) hV
  cases fl <;> exact ⟨hn, z⟩

/-- a tree that turns some objects alone -/
structure MZ {α : Type} (prog : Program) (w : World) (A : Around) (t : Sem α) (h : Heap) (hid : List Addr) (V : α → List (Addr × Obj) → Prop) : Prop where
  run : ∀ (h1 : Heap) (g : Array GenState) (d : Drawn) (tk : Nat) (os : OsState) (Q : α → Shared → Prop) (E : Value → Shared → Prop), Le h h1 →
    (∀ v new h2 tk', (∀ b ob, b ∉ hid → h1.get? b = some ob → h2.get? b = some ob) → (∀ p ∈ new, h2.get? p.1 = some p.2 ∧ (h1.get? p.1 = none ∨ p.1 ∈ hid)) → V v new → Q v ⟨h2, g, d, tk', os⟩) → wpAny (model prog w) A t Q E ⟨h1, g, d, tk, os⟩
theorem MZ.mono {α : Type} {t : Sem α} {hid : List Addr} {V V' : α → List (Addr × Obj) → Prop} (x : MZ prog w A t h hid V) (hv : ∀ v o, V v o → V' v o) : MZ prog w A t h hid V' :=
  ⟨fun h1 g d tk os Q E le H => x.run h1 g d tk os Q E le fun v o' h2 tk' a b c => H v o' h2 tk' a b (hv _ _ c)⟩
/-- a call that turns objects of the caller's -/
theorem mz_def {hT : Heap} {hid : List (Addr × Obj)} {pos : List Value} {kw : List (Str × Value)} {V : Value → List (Addr × Obj) → Prop} {VB : List (Str × Value) → List (Addr × Obj) → Prop} (X₀ : K.In hT) (hl : hT.NoLimit) (hle : Le hT h) (hlow : ∀ p ∈ hid, hT.get? p.1 = none) (hin : ∀ p ∈ hid, h.get? p.1 = some p.2)
    (ho : K.lookup f = some ⟨oc, od, .func (fnOf name qual params body scope dV kV doc pm an cdv ct), osl⟩) (hcd : codeIn K cdv qual = true) (hroom : A.depth < recursionLimit)
    (hbind : EX prog w A.in1 (bindArgs (fnOf name qual params body scope dV kV doc pm an cdv ct) ⟨pos, kw⟩) h VB) (hloc : ∀ binds new, VB binds new → ∀ y ∈ binds, scope.names.lookup y.1 = some .local)
    (hb : ∀ gB L' hh g d tk os binds new, Le hT gB → (∀ b o, b ∉ hid.map (·.1) → h.get? b = some o → gB.get? b = some o) → VB binds new → (∀ p ∈ new, ∀ q ∈ hid, p.1 ≠ q.1) → Fr gB L' hh (frm binds.reverse) → News gB L' hh (new ++ hid) →
      WP prog w (A.deeper (envOf qual scope L' f cdv)) (execs body (envOf qual scope L' f cdv)) (Ret gB L' g d os V) ⟨hh, g, d, tk, os⟩)
    (hcell : ∀ x ∈ scope.names, x.2 ≠ .cell)
    (hco : scope.isCoroutine = false) (hgen : scope.isGenerator = false) (hk : scope.kind = .function) : MZ prog w A (call (.ref f) pos kw) h (hid.map (·.1)) V := by
  refine ⟨fun h1 g d tk os Q E le H => ?_⟩
  have X := X₀.keeps (hle.trans le)
  with_reducible refine wpAny_call ?_
  refine codeAny_call_function hroom (X _ _ ho) rfl hco hgen rfl (codeRec_of X hcd) (hbind.run h1 g d tk os _ _ le fun binds new h2 tk2 l2 f2 hv => ?_)
  refine wpAny_newFunctionEnv hcell (hloc _ _ hv) (fun h₀ hns₀ hsb₀ => ⟨((hl.keeps (hle.trans le)).keeps l2).fresh _ hsb₀, codeAny_func ?_⟩) hk
  have k2 : Le h2 h₀ := fun b o e => hsb₀.extBut b o (Nat.ne_of_lt (Heap.lt_size e)) (Heap.get?_push_of_some _ e)
  generalize hall : new ++ hid = all
  have fall : ∀ p ∈ all, h2.get? p.1 = some p.2 ∧ (h1.get? p.1 = none ∨ p.1 ∈ hid.map (·.1)) := fun p hp => by
    rw [← hall] at hp
    rcases List.mem_append.mp hp with hp | hp
    · exact ⟨(f2 p hp).1, .inl (f2 p hp).2⟩
    · exact ⟨l2 _ _ (le _ _ (hin p hp)), .inr (List.mem_map_of_mem hp)⟩
  have lg : ∀ b o, b ∉ hid.map (·.1) → h1.get? b = some o → (hideAll h2 (all.map (·.1))).get? b = some o := fun b o hb e => hideAll_get _ (l2 _ _ e) fun q => by
    obtain ⟨p, hp, rfl⟩ := List.mem_map.mp q
    rcases (fall p hp).2 with z | z
    · rw [z] at e; cases e
    · exact hb z
  have low : ∀ b o, hT.get? b = some o → b ∉ hid.map (·.1) := fun b o e q => by
    obtain ⟨p, hp, rfl⟩ := List.mem_map.mp q
    rw [hlow p hp] at e; cases e
  refine wpAny_mono (hb (hideAll h2 (all.map (·.1))) h2.objs.size h₀ g d _ os binds new (fun b o e => lg b o (low b o e) (le _ _ (hle _ _ e))) (fun b o hb e => lg b o hb (le _ _ e)) hv (fun p hp q hq e => ?_) ⟨hns₀, fun b o e => k2 _ _ (of_hideAll _ e), Nat.le_of_eq (hideAll_size _ _)⟩
    (fun p hp => by
      rw [hall] at hp
      exact ⟨k2 _ _ (fall p hp).1, Nat.ne_of_lt (Heap.lt_size (fall p hp).1), hideAll_none _ (List.mem_map_of_mem hp)⟩)).run (fun fl s' hr => ?_) fun _ _ y => y.elim
  · have := (f2 p hp).2
    rw [e, le _ _ (hin q hq)] at this; cases this
  obtain ⟨m', news', h', tk', rfl, F', N', hV⟩ := hr
  have z := H _ news' h' tk' (fun b o hb e => F'.keep _ _ (lg b o hb e)) (fun p hp => ⟨(N' p hp).1, ?_⟩) hV
  · cases fl <;> exact z
  · by_cases q : p.1 ∈ hid.map (·.1)
    · exact .inr q
    · refine .inl ?_
      cases e : h1.get? p.1 with
      | none => rfl
      | some o => have := lg _ _ q e; rw [(N' p hp).2.2] at this; cases this
end
section
variable {prog : Program} {w : World} {A : Around} {h : Heap} {env : Env} {K : Frag} {h₀ : Heap} {L : Addr} {m : Str → Option Value} {l : List (Str × Value)} {news : List (Addr × Obj)}
  {g : Array GenState} {d : Drawn} {tk : Nat} {os : OsState} {E : Value → Shared → Prop}
/-- a turning tree on the ledger -/
theorem MZ.lgr {α : Type} {t : Sem α} {hid rest : List (Addr × Obj)} {V : α → List (Addr × Obj) → Prop} {Q : α → Shared → Prop} (x : MZ prog w A t h (hid.map (·.1)) V) (F : Fr h₀ L h m) (N : News h₀ L h (hid ++ rest)) (dj : ∀ p ∈ rest, ∀ q ∈ hid, p.1 ≠ q.1)
    (H : ∀ v new h' tk', V v new → Fr h₀ L h' m → News h₀ L h' (new ++ rest) → (∀ b o, b ∉ hid.map (·.1) → h.get? b = some o → h'.get? b = some o) → (∀ p ∈ new, h.get? p.1 = none ∨ p.1 ∈ hid.map (·.1)) → Q v ⟨h', g, d, tk', os⟩) : wpAny (model prog w) A t Q E ⟨h, g, d, tk, os⟩ :=
  x.run h g d tk os Q E Le.refl fun v new h2 tk2 k f hv => by
    have hL : L ∉ hid.map (·.1) := fun q => by
      obtain ⟨p, hp, e⟩ := List.mem_map.mp q
      exact (N p (List.mem_append_left _ hp)).2.1 e
    have h0 : ∀ b o, h₀.get? b = some o → b ∉ hid.map (·.1) := fun b o e q => by
      obtain ⟨p, hp, rfl⟩ := List.mem_map.mp q
      rw [(N p (List.mem_append_left _ hp)).2.2] at e; cases e
    obtain ⟨oL, a1, a2, hoL, a3⟩ := F.ns
    refine H v new h2 tk2 hv ⟨⟨oL, a1, a2, k _ _ hL hoL, a3⟩, fun b o e => k b o (h0 b o e) (F.keep b o e), F.above⟩ (fun p hp => ?_) k fun p hp => (f p hp).2
    rcases List.mem_append.mp hp with hp | hp
    · refine ⟨(f p hp).1, ?_⟩
      rcases (f p hp).2 with z | z
      · refine ⟨(fun e => by rw [e, hoL] at z; cases z), ?_⟩
        cases q : h₀.get? p.1 with
        | none => rfl
        | some o => rw [F.keep _ _ q] at z; cases z
      · obtain ⟨q, hq, e⟩ := List.mem_map.mp z
        rw [← e]; exact (N q (List.mem_append_left _ hq)).2
    · have z := N p (List.mem_append_right _ hp)
      exact ⟨k _ _ (fun q => by obtain ⟨r, hr, e⟩ := List.mem_map.mp q; exact dj p hp r hr e.symm) z.1, z.2⟩
theorem bind_one {fd : FuncData} {args : Args} {xs : List Value} {f : Value → List (Str × Value)} (hz : xs.length ≤ 1000) (hb : bindArgs fd args = (newTuple xs >>= fun t => Pure.pure (f t))) :
    EX prog w A (bindArgs fd args) h (fun binds new => ∃ a, binds = f (.ref a) ∧ new = [(a, tupO xs)]) := ⟨fun h1 g d tk os Q E le H => by
  rw [hb]
  refine wpAny_bind (wpAny_newTuple (wpAny_pure ?_) (Nat.le_trans hz (by decide)))
  refine H _ [(h1.objs.size, tupO xs)] _ _ (fun b o e => Heap.get?_push_of_some _ e) (fun p hp => ?_) ⟨_, rfl, rfl⟩
  rw [List.mem_singleton.mp hp]
  refine ⟨Heap.get?_push_size _ rfl, ?_⟩
  cases e : h1.get? h1.objs.size with
  | none => rfl
  | some o => exact absurd (Heap.lt_size e) (Nat.lt_irrefl _)⟩
theorem bind_none {fd : FuncData} {args : Args} {binds : List (Str × Value)} (hb : bindArgs fd args = Pure.pure binds) : EX prog w A (bindArgs fd args) h (fun b new => b = binds ∧ new = []) := by
  rw [hb]; exact EX.pure ⟨rfl, rfl⟩
theorem bind_ofB {fd : FuncData} {args : Args} {binds : List (Str × Value)} (hb : ∀ s : Shared, Le h s.heap → BindsTo s fd args binds) : EX prog w A (bindArgs fd args) h (fun b new => b = binds ∧ new = []) :=
  ⟨fun h1 g d tk os Q E le H => hb ⟨h1, g, d, tk, os⟩ le _ _ _ _ (H _ [] _ _ Le.refl Fresh.nil ⟨rfl, rfl⟩)⟩
end
end Mine
end
section
set_option maxRecDepth 100000
set_option linter.unusedVariables false
open PySem PySem.W PyProof.Rows PySem.Calls PySem.Spec
namespace Mine
local macro_rules | `(tactic| walk_at "lk") => `(tactic| repeat (first | with_reducible exact frm_head | with_reducible assumption | with_reducible refine frm_tail (by kernel_rfl) ?_))
local macro_rules | `(tactic| walk_at "zl") => `(tactic| (refine ex_local (Fr.ns (by assumption)) (by walk_at "lk") ?_ (by kernel_rfl) (by kernel_rfl) (by kernel_rfl); first | exact isI | exact isS | exact isB | rfl))
section
variable {prog : Program} {w : World} {A : Around} {h : Heap} {env : Env} {P : Value → Prop} {K : Frag} {h₀ : Heap} {L : Addr} {m : Str → Option Value} {news : List (Addr × Obj)} {E : Value → Shared → Prop} {s : Shared}
theorem cw_m0 {p : Pos} {id : String} {first : List Value} {V : Value → List (Addr × Obj) → Prop} (x : EX prog w A (call (.builtin id) first) h V) :
    EX prog w A (callWith p (.builtin id) first (backTo p (starEach [] env)) []) h V := ⟨fun h1 g d tk os Q E le H => by
  have z := x.run h1 g d tk os Q E le H
  with_reducible exact callWith_method0 z⟩
theorem gm_isupper {a : Value} {x : Str} {pl : Sem Bool} (ha : IsS x a) : EX prog w A (getMethod a (Str.ofString "isupper") pl) h (Im (· = (.builtin "str.isupper", [a]))) := by
  obtain ⟨t, rfl⟩ := ha
  exact ⟨fun _ _ _ _ _ _ _ le H => by with_reducible exact GM.isupper (H _ [] _ _ Le.refl Fresh.nil ⟨rfl, rfl⟩)⟩
theorem cl_isupper {a : Value} {x : Str} {b : Bool} (ha : IsS x a) (hb : Txt.isupper x = b) : EX prog w A (call (.builtin "str.isupper") [a]) h (Im (IsB b)) := by
  obtain ⟨t, rfl⟩ := ha
  subst hb
  exact ⟨fun _ _ _ _ _ _ _ le H => by with_reducible exact SC.isupper (H _ [] _ _ Le.refl Fresh.nil ⟨rfl, isB⟩)⟩
theorem tr_tup {a : Addr} {its : Array Value} {b : Bool} (hl : h.IsTuple a its) (hb : (!its.isEmpty) = b) (hz : its.size < 2 ^ 63) : EX prog w A (truthy (.ref a)) h (Im (· = b)) := ⟨fun h1 g d tk os Q E le H => by
  obtain ⟨o, ho, hc, n, hd⟩ := tuple_up hl le
  have ht : IsTup h1 a its := ⟨o, ho, hc, n, hd⟩
  exact truthy_tuple (s := ⟨h1, g, d, tk, os⟩) ht (by omega) (H _ [] _ _ Le.refl Fresh.nil ⟨rfl, hb⟩)⟩
theorem op_inTop {x : Str} {a : Addr} {n : Nat} {es : Array DictEntry} {r : Option Value} {b : Bool} (X : K.In h) (F : ∃ L m, ∃ h₀, K.In h₀ ∧ Fr h₀ L h m) (hl : K.lookup a = some ⟨.type "dict", none, .dict es n, #[]⟩) (hk : KeysLit w.params es.toList) (e : nsIn K a x = some r) (lo : (a == sysModules) = false) (hb : r.isSome = b) (u v : Value) (hu : IsS x u) (hv : v = .ref a) :
    EX prog w A (compareOp .In u v) h (Im (IsB b)) := by
  subst hv
  obtain ⟨t, rfl⟩ := hu
  obtain ⟨L, m, h₀, X₀, F⟩ := F
  exact ⟨fun h1 g d tk os Q E le H => topIn_K (s := ⟨h1, g, d, tk, os⟩) (fr_up F le) X₀ hl hk e lo (H _ [] _ _ Le.refl Fresh.nil ⟨rfl, by rw [hb]; exact isB⟩)⟩
theorem gm_split {a : Value} {x : Str} {pl : Sem Bool} (ha : IsS x a) : EX prog w A (getMethod a (Str.ofString "split") pl) h (Im (· = (.builtin "str.split", [a]))) := by
  obtain ⟨t, rfl⟩ := ha
  exact ⟨fun _ _ _ _ _ _ _ le H => by with_reducible exact GM.split (H _ [] _ _ Le.refl Fresh.nil ⟨rfl, rfl⟩)⟩
theorem cl_split {a b : Value} {x y : Str} (ha : IsS x a) (hb : IsS y b) (h1 : (decide (x.length < y.length) || decide (Builtin.Str.strKind x < Builtin.Str.strKind y)) = false) (hy : (y.length == 0) = false) (hf : (Builtin.Str.occurrences x y 0 x.length (x.length + 1)).isEmpty = false) (hx : x.length ≤ 1000)
    (hn : (Builtin.Str.partsBetween x (Builtin.Str.occurrences x y 0 x.length (x.length + 1)) y.length).length ≤ 1000) :
    EX prog w A (call (.builtin "str.split") [a, b]) h (fun v new => ∃ D l, v = .ref D ∧ l.map (·.1) = Builtin.Str.partsBetween x (Builtin.Str.occurrences x y 0 x.length (x.length + 1)) y.length ∧ new = [(D, lobj (strValues l) 0)]) := by
  obtain ⟨t, rfl⟩ := ha
  obtain ⟨u, rfl⟩ := hb
  refine ⟨fun h1' g d tk os Q E le H => ?_⟩
  refine call_meets PySem.F.slot_str_split (typeIs_str _ _ _) PySem.F.entry_str_split (PySem.F.args_str_split_2 _ _) (meets_str_split_sep x y t u h1 hy hf (Nat.le_trans hx (by decide)) (Nat.le_trans hn (by decide))) ?_
  show wants Q E _ ⟨h1'.push { cls := .type "list", data := .seq (strsFrom tk (Builtin.Str.partsBetween x (Builtin.Str.occurrences x y 0 x.length (x.length + 1)) y.length)).toArray }, g, d, _, os⟩
  rw [strsFrom_eq]
  refine H _ [(h1'.objs.size, _)] _ _ (fun b o e => Heap.get?_push_of_some _ e) (fun p hp => ?_) ⟨_, numbered tk _, rfl, numbered_texts _ _, rfl⟩
  rw [List.mem_singleton.mp hp]
  refine ⟨Heap.get?_push_size _ rfl, ?_⟩
  cases e : h1'.get? h1'.objs.size with
  | none => rfl
  | some o => exact absurd (Heap.lt_size e) (Nat.lt_irrefl _)
/-- *xs, xs a tuple -/
theorem exs_star {p sp : Pos} {e : Expr} {rest : List Expr} {a : Addr} {xs : List Value} {V2 : List Value → List (Addr × Obj) → Prop} (x1 : EX prog w A (eval e env) h (Im (· = .ref a))) (ha : h.IsTuple a xs.toArray) (hz : xs.length ≤ 1000) (x2 : EX prog w A (spliced (backTo p (starEach rest env))) h V2)
    (he : starEach (.Starred e sp :: rest) env = (true, eval e env) :: starEach rest env := by rfl) :
    EX prog w A (spliced (backTo p (starEach (.Starred e sp :: rest) env))) h (fun vs new => ∃ r, vs = xs ++ r ∧ V2 r new) := ⟨fun h1 g d tk os Q E le H => by
  refine items_star (x1.run h1 g d tk os _ E le fun v n h2 tk2 l2 f2 hv => ?_) he
  rw [hv.2]
  obtain ⟨o, ho, hc, c, hd⟩ := tuple_up ha (le.trans l2)
  unfold StarOf notIterableAtAll
  have hT : (⟨h2, g, d, tk2, os⟩ : Shared).TypeIs (.ref a) "tuple" := ⟨o, ho, hc⟩
  refine wpAny_bind (wpAny_specialOf hT PySem.F.slot_tuple_iter.lookup (wpAny_pure ⟨rfl, ?_⟩))
  refine wpAny_collect_seq (s := ⟨h2, g, d, tk2, os⟩) a (.inr rfl) ho hc hd (fun h3 hk => ?_) (by rw [List.size_toArray]; exact Nat.le_trans hz (by decide))
  exact x2.run h3 g d tk2 os _ E ((le.trans l2).trans hk) fun vs n4 h4 tk4 l4 f4 hvs => H _ n4 h4 tk4 ((l2.trans hk).trans l4) (fun q hq => ⟨(f4 q hq).1, (Le.trans l2 hk).none (f4 q hq).2⟩) ⟨vs, rfl, hvs⟩⟩
theorem evalArgs_two {M : Model} {f : Value} {x y : Bool × Sem Value} {rest : List (Bool × Sem Value)} {Q : Args → Shared → Prop}
    (h : wpAny M A (spliced (x :: y :: rest)) (fun vs s' => Q ⟨vs, []⟩ s') E s) : wpAny M A (evalArgs f true (x :: y :: rest) []) Q E s := by
  unfold evalArgs
  obtain ⟨b, x⟩ := x
  cases b <;>
  · show wpAny M A (spliced (_ :: y :: rest) >>= _) Q E s
    refine wpAny_bind (wpAny_mono h (fun vs s' h' => ?_) fun _ _ x => x)
    refine wpAny_holding ?_
    exact wpAny_bind (wpAny_pure (wpAny_bind (wpAny_pure (wpAny_pure h'))))
theorem cw_star {p : Pos} {e1 e2 : Expr} {rest : List Expr} {fv : Value} {first : List Value} {VA : List Value → List (Addr × Obj) → Prop} {V : Value → List (Addr × Obj) → Prop} (hk : Keeper3 (model prog w) h fv)
    (ha : EX prog w A (spliced (backTo p (starEach (e1 :: e2 :: rest) env))) h VA)
    (hc : ∀ vs new h2, Le h h2 → (∀ q ∈ new, h2.get? q.1 = some q.2) → VA vs new → EX prog w A (call fv (first ++ vs)) h2 (fun y n => V y (n ++ new)))
    {x y : Bool × Sem Value} {r : List (Bool × Sem Value)} (he : backTo p (starEach (e1 :: e2 :: rest) env) = x :: y :: r) (hst : (x :: y :: r).any (·.1) = true) :
    EX prog w A (callWith p fv first (backTo p (starEach (e1 :: e2 :: rest) env)) []) h V :=
  EX.args ha hc fun h1 Q E s le hs q => by
    rw [he] at q ⊢
    exact ks_call (P := fun h' => Le h1 h') hst (fun h' l => hk h' (le.trans l)) (evalArgs_two q)
end
section
variable {w : World} {A : Around} {h : Heap}
set_option maxHeartbeats 4000000
theorem tok_make {a : Value} {r : List Value} (T : TX w h) (hd : A.depth + 5 < recursionLimit) (hz : r.length ≤ 900) :
    EX PG w A (call (.ref 83) (a :: r)) h (fun v new => ∃ tok dt nt t0, v = .ref tok ∧ new = [(tok, instObj 83 dt), (dt, dictOf [ent w (Str.ofString "names") t0 (.ref nt)] 1), (nt, tupO (a :: r))]) := by
  refine ex_makeB T.X T.lim (by k_is) (by k_is) (by k_is) (by k_is) (by k_is) (by rw [depth_under_make]; omega) (fun x h' le => bind_one (xs := a :: r) (f := fun t => [(Str.ofString "self", .ref x), (Str.ofString "names", t)]) (by simp; omega) (by with_unfolding_all rfl))
    (fun x binds new hb => by obtain ⟨t, rfl, rfl⟩ := hb; exact locs rfl) ?_ (by decide) rfl rfl rfl
  rintro h1 x dx L' hh' g d tk os binds new le hdx hxL ⟨nt, rfl, rfl⟩ hne F N
  change Fr _ _ _ (frm [(Str.ofString "names", .ref nt), (Str.ofString "self", .ref x)]) at F
  have X1 := (T.up le).X
  have n1 := hne _ (.head _)
  refine st_setattr F X1 N (V := Im (fun v => v = _)) (by walk_at "zl") (by walk_at "zl") (.tail _ (.head _)) (.tail _ (.tail _ (.head _))) (fun t v => .tail n1.2 (.tail (Nat.ne_of_gt hdx) (.head (fun _ hp => nomatch hp)))) ?_ (by k_is) (by k_is) (by k_is) (by k_is) (by kernel_rfl) (Nat.le_of_ble_eq_true (by kernel_rfl)) (by kernel_rfl)
  rintro v new t0 h2 tk2 ⟨rfl, rfl⟩ F N
  refine wp_nil ⟨rfl, ret_of F N (fun q hq => ?_) ⟨x, dx, nt, t0, rfl, rfl⟩⟩
  simp only [List.mem_cons, List.not_mem_nil, or_false, List.nil_append, List.append_eq, List.cons_append] at hq ⊢
  rcases hq with rfl | rfl | rfl <;> simp [putL, putN]
theorem tok_make' {vs : List Value} (T : TX w h) (hd : A.depth + 5 < recursionLimit) (hne : vs ≠ []) (hz : vs.length ≤ 900) :
    EX PG w A (call (.ref 83) vs) h (fun v new => ∃ tok dt nt t0, v = .ref tok ∧ new = [(tok, instObj 83 dt), (dt, dictOf [ent w (Str.ofString "names") t0 (.ref nt)] 1), (nt, tupO vs)]) := by
  cases vs with
  | nil => exact absurd rfl hne
  | cons a r => exact tok_make T hd (by simp at hz; omega)
theorem child_ok {nd dn nt : Addr} {t0 t : Tok} {xs : List Value} {x : Str} {c0 : Nat} (T : TX w h) (hd' : A.depth + 20 < recursionLimit) (i1 : h.get? nd = some (instObj 83 dn)) (i2 : h.get? dn = some (dictOf [ent w (Str.ofString "names") t0 (.ref nt)] 1)) (i3 : h.IsTuple nt xs.toArray) (hxz : xs.length ≤ 100)
    (hc : x.cps[0]? = some c0) (hup : Txt.isupper ⟨#[c0]⟩ = true) (hx : x.length ≤ 1000) (hal : xs = [] → nsIn (capK.heap_1 w.params) 112 x = some none) :
    EX PG w A (call (.ref 73) [.ref nd, .str x t]) h (fun v new => ∃ tok dt nt' t0', v = .ref tok ∧ new = [(tok, instObj 83 dt), (dt, dictOf [ent w (Str.ofString "names") t0' (.ref nt')] 1), (nt', tupO (xs ++ [.str x t]))]) := by
  refine ex_def T.X T.lim (by k_is) (by k_is) (by omega) (fun s X => BindsTo.of_eq rfl) (locs rfl) ?_ (by decide) rfl rfl rfl
  intro h1 L' hh' g d tk os le F
  change Fr _ _ _ (frm [(Str.ofString "val", _), (Str.ofString "self", _)]) at F
  have T1 := T.up le
  have hx0 : 0 < x.length := by
    obtain ⟨h0, _⟩ := Array.getElem?_eq_some_iff.mp hc
    exact h0
  refine st_skip F News.nil ?_ fun h2 tk2 F N => ?_
  · refine EX.mono (et_or (b1 := false) (b2 := false) (EX.mono (et_not (b := true) (et_plain (P := IsS x) (by walk_at "zl") (fun v hv => tr_str hv (by omega) (by simp; omega)))) fun v new hv => hv)
      (fun _ => EX.mono (et_or (b1 := false) (b2 := false) (EX.mono (et_not (b := true) (et_plain (P := IsB true) (ex_meth (P1 := IsS ⟨#[c0]⟩) (ex_sub (P1 := (· = .str x t)) (P2 := IsI 0) (by walk_at "zl") ex_int (fun u v hu hv => by
          subst hu
          obtain ⟨u', rfl⟩ := hv
          exact tl_str (by decide) (by decide) hc (by with_unfolding_all rfl))) (fun a ha => gm_isupper ha) (fun a ha => cw_m0 (cl_isupper ha hup))) (fun v hv => tr_bool hv))) fun v new hv => hv) (fun _ => et_or_nil)) fun v new hv => hv)) fun v new hv => hv
  have T2 := T1.up F.keep
  have j1 := F.keep _ _ (le _ _ i1)
  have j2 := F.keep _ _ (le _ _ i2)
  have j3 := tuple_up (tuple_up i3 le) F.keep
  refine st_skip F N ?_ fun h3 tk3 F N => ?_
  · refine EX.mono (et_and (b1 := xs.isEmpty) (b2 := false) (EX.mono (et_not (b := !xs.isEmpty) (et_plain (P := (· = .ref nt)) (ex_at (by walk_at "zl") F T1.X (inst_mk j1 j2) (by k_is) (by k_is) (by k_is) (by k_is) (by k_get) (by kernel_rfl) rfl) (fun v hv => by
        subst hv
        exact tr_tup j3 (by simp) (by simp; omega)))) fun v new hv => ⟨hv.1, by rw [hv.2]; simp⟩) (fun hb => ?_)) fun v new hv => ⟨hv.1, by rw [hv.2]; simp⟩
    have hal' := hal (by simpa using hb)
    exact EX.mono (et_and (b1 := false) (b2 := true) (et_cmp (P1 := IsS x) (P2 := (· = .ref 112)) (op_inTop T2.X ⟨L', _, h1, T1.X, F⟩ (by k_is) (by k_keys) hal' (by decide) rfl) (by walk_at "zl") (ex_global T2 (by k_is) rfl (by kernel_rfl) (by kernel_rfl) (by kernel_rfl) (by kernel_rfl))) (fun e => nomatch e)) fun v new hv => hv
  have T3 := T1.up F.keep
  have j1 := F.keep _ _ (le _ _ i1)
  have j2 := F.keep _ _ (le _ _ i2)
  have j3 := tuple_up (tuple_up i3 le) F.keep
  refine st_assign (V := fun v new => ∃ tok dt nt' t0', v = .ref tok ∧ new = [(tok, instObj 83 dt), (dt, dictOf [ent w (Str.ofString "names") t0' (.ref nt')] 1), (nt', tupO (xs ++ [.str x t]))]) F N ?_ ?_ ⟨rfl, rfl⟩ (by kernel_rfl) (by kernel_rfl)
  · refine ex_callK (fv := .ref 83) (ex_global T3 (by k_is) rfl (by kernel_rfl) (by kernel_rfl) (by kernel_rfl) (by kernel_rfl)) (cw_star (keeper_K T3.X (by k_is)) (exs_star (a := nt) (xs := xs) (ex_at (by walk_at "zl") F T1.X (inst_mk j1 j2) (by k_is) (by k_is) (by k_is) (by k_is) (by k_get) (by kernel_rfl) rfl) j3 (by omega) (exs_one (V1 := Im (· = .str x t)) (by walk_at "zl"))) ?_ rfl rfl)
    rintro vs new h4 le4 hn ⟨r, rfl, v, rfl, rfl, rfl⟩
    exact (tok_make' (T3.up le4) (by rw [depth_deeper]; omega) (by simp) (by simp; omega)).mono fun v new hv => by simpa using hv
  rintro v new h4 tk4 ⟨tok, dt, nt', t0', rfl, rfl⟩ F N
  refine st_ret F N (V := Im (· = .ref tok)) (by walk_at "zl") ?_
  rintro v new h5 tk5 ⟨rfl, rfl⟩ F N
  refine ret_of (new := [(tok, instObj 83 dt), (dt, dictOf [ent w (Str.ofString "names") t0' (.ref nt')] 1), (nt', tupO (xs ++ [Value.str x t]))]) F N (fun q hq => hq) ⟨tok, dt, nt', t0', rfl, rfl⟩
end
end Mine
end
section
set_option maxRecDepth 100000
set_option linter.unusedVariables false
open PySem PySem.W PyProof.Rows PySem.Calls PySem.Spec
namespace Mine
/-- an iterator of pairs -/
structure ItOf2 (prog : Program) (w : World) (A : Around) (I : Addr) (fp wr : List Addr) (n : Nat) (P : Nat → Value → Value → Prop) (St : Nat → Heap → Prop) : Prop where
  item : ∀ i (h : Heap) g d tk os (elts : List Expr) (kk : Nat) (tp : Pos) (Q : Option Value → Shared → Prop) (E : Value → Shared → Prop), i < n → St i h →
    (∀ T s1, (∀ QU : Unit → Shared → Prop, (∀ v1 v2 h' tk', P i v1 v2 → h'.IsTuple T #[v1, v2] → St (i + 1) h' → (∀ b o, b ∉ wr → h.get? b = some o → h'.get? b = some o) → QU () ⟨h', g, d, tk', os⟩) →
      wpAny (model prog w) A (letOwnedTupleGo (.Tuple elts kk tp) (.ref I) (.ref T)) QU E s1) → Q (some (.ref T)) s1) →
    wpAny (model prog w) A (pyNext (.ref I)) Q E ⟨h, g, d, tk, os⟩
  done : ∀ (h : Heap) g d tk os (Q : Option Value → Shared → Prop) (E : Value → Shared → Prop), St n h → (∀ h' tk', (∀ b o, b ∉ wr → h.get? b = some o → h'.get? b = some o) → Q none ⟨h', g, d, tk', os⟩) → wpAny (model prog w) A (pyNext (.ref I)) Q E ⟨h, g, d, tk, os⟩
  frame : ∀ i h h', St i h → (∀ b ∈ fp, ∀ o, h.get? b = some o → h'.get? b = some o) → St i h'
  pres : ∀ i h, St i h → ∀ b ∈ fp, ∃ o, h.get? b = some o
  sub : ∀ b ∈ wr, b ∈ fp
theorem ItOf2.ofT {prog : Program} {w : World} {A : Around} {I : Addr} {fp wr : List Addr} {n : Nat} {Pt : Nat → Array Value → Prop} {St : Nat → Heap → Prop} {Mid : Nat → Addr → Heap → Prop} {P : Nat → Value → Value → Prop} (W : WalksT prog w A I fp wr n Pt St Mid) (hP : ∀ i vals, Pt i vals → ∃ v1 v2, vals = #[v1, v2] ∧ P i v1 v2) (pres : ∀ i h, St i h → ∀ b ∈ fp, ∃ o, h.get? b = some o) : ItOf2 prog w A I fp wr n P St where
  item := fun i h g d tk os elts kk tp Q E hi st H => W.item i ⟨h, g, d, tk, os⟩ _ _ hi st fun T vals h' tk' hp hT ht hm hk => H T _ fun QU HU => W.go _ _ _ i T ⟨h', g, d, tk', os⟩ _ _ hm fun h2 st2 hk2 => by
    obtain ⟨v1, v2, rfl, hp'⟩ := hP i vals hp
    obtain ⟨oT, hoT, r⟩ := ht
    exact HU v1 v2 h2 tk' hp' ⟨oT, hk2 _ _ (W.apart _ _ _ hm) hoT, r⟩ st2 fun b o hb e => hk2 b o hb (hk b o hb e)
  done := fun h g d tk os Q E st H => W.done ⟨h, g, d, tk, os⟩ _ _ st fun h' tk' hk => H h' tk' hk
  frame := W.frame
  pres := pres
  sub := W.sub
section
variable {prog : Program} {w : World} {A : Around} {h : Heap} {env : Env} {h₀ : Heap} {L : Addr} {l : List (Str × Value)} {news : List (Addr × Obj)}
  {g : Array GenState} {d : Drawn} {tk : Nat} {os : OsState} {Q : Flow → Shared → Prop}
/-- behind a for's head -/
def ForAt (prog : Program) (w : World) (A : Around) (env : Env) (target : Expr) (body orelse rest : List Stmt) (Q : Flow → Shared → Prop) (v : Value) (s : Shared) : Prop :=
  ∀ R : Result → Shared → Prop, (∀ f s', thenQ prog w A env rest Q f s' → R (.ok f) s') → wpAny (model prog w) A (pyIter v) (fun it s₂ => codeAny (model prog w) A (.forLoop target it body orelse env) R s₂) (fun _ _ => False) s
theorem st_for {target iter : Expr} {body orelse rest : List Stmt} {pos : Pos} {V : Value → List (Addr × Obj) → Prop} (F : Fr h₀ L h (frm l)) (N : News h₀ L h news) (hit : EX prog w A (eval iter env) h V)
    (H : ∀ v new h2 tk2, V v new → Fr h₀ L h2 (frm l) → News h₀ L h2 (new ++ news) → (∀ p ∈ new, ∀ q ∈ news, p.1 ≠ q.1) → ForAt prog w A env target body orelse rest Q v ⟨h2, g, d, tk2, os⟩)
    (hs : ∀ x, foldedSetIterable iter env x = pure x := by intro _; kernel_rfl) :
    WP prog w A (execs (.For target iter body orelse pos :: rest) env) Q ⟨h, g, d, tk, os⟩ := by
  refine wp_cons ⟨?_⟩
  refine wpAny_For (EX.lgr hit F N fun v new h2 tk2 hv F2 N2 dj => ?_) hs
  exact H v new h2 tk2 hv F2 N2 dj _ fun f s' hf => hf
/-- one name over a list -/
theorem for_list {x : Str} {p : Pos} {body orelse rest : List Stmt} {ax : Addr} {items : List Value} (Inv : Nat → List (Str × Value) → List (Addr × Obj) → Prop) (hh : A.handled = none)
    (F : Fr h₀ L h (frm l)) (N : News h₀ L h news) (h0 : Inv 0 l news)
    (src : ∀ i h l news, Inv i l news → Fr h₀ L h (frm l) → News h₀ L h news → h.IsList ax items.toArray)
    (body_ok : ∀ i v I o h tk l news, i < items.length → items[i]? = some v → Inv i l news → Fr h₀ L h (frm ((x, v) :: l)) → News h₀ L h ((I, o) :: news) → (∀ p ∈ news, p.1 ≠ I) →
      WP prog w A (execs body env) (TurnQ h₀ L I o g d os (fun l' news' => Inv (i + 1) l' news' ∧ ∀ p ∈ news', p.1 ≠ I) (thenQ prog w A env rest Q .next) (fun v => Q (.ret v))) ⟨h, g, d, tk, os⟩)
    (end_ok : ∀ h tk l news, Inv items.length l news → Fr h₀ L h (frm l) → News h₀ L h news → WP prog w A (execs orelse env) (thenQ prog w A env rest Q) ⟨h, g, d, tk, os⟩)
    (hL : LocalEnv env L) (hl : env.kindOf x = some .local) :
    ForAt prog w A env (.Name x p) body orelse rest Q (.ref ax) ⟨h, g, d, tk, os⟩ := by
  intro R hR
  refine wpAny_pyIter_list (s := ⟨h, g, d, tk, os⟩) (src 0 h l news h0 F N) ?_
  have hne : ∀ q ∈ news, q.1 ≠ h.objs.size := fun q hq => Nat.ne_of_lt (Heap.lt_size (N q hq).1)
  have lp : Le h (h.push { cls := .type "list_iterator", data := .fields #[.ref ax, .int 0 0] }) := fun b ob e => Heap.get?_push_of_some _ e
  refine code_for (itOf_list (ax := ax) (items := items) hh) Inv hL hl src ?_ ?_ h0 (fr_up F lp) (N.push F _) hne ⟨rfl, rfl⟩
  · intro i v o h tk l news hi hP hI hst F N hne
    refine (body_ok i v _ o h tk l news hi hP hI F N hne).mono fun f s' hq => ?_
    cases f with
    | next => exact hq
    | cont => exact hq
    | brk => exact hR .next s' hq
    | ret v => exact hR (.ret v) s' hq
  · intro h tk l news hI F N
    exact (end_ok h tk l news hI F N).mono fun f s' hq => hR f s' hq
theorem itOf_range {I : Addr} {a c : Int} {n : Nat} (hh : A.handled = none) :
    ItOf prog w A I n (fun i v => ∃ t, v = .int (a + (i : Int) * c) t) (fun i o => o = { cls := .type "range_iterator", dict := none, data := .fields #[rawInt (a + (i : Int) * c), rawInt ((n : Int) - (i : Int)), rawInt c], slots := #[] }) (fun _ => True) where
  item := fun i o h g d tk os Q E hi hs ho hst H => by
    subst hst
    refine wpAny_pyNext_range_item (s := ⟨h, g, d, tk, os⟩) ho (by omega) fun h' hit' hsb => ?_
    have e1 : a + (i : Int) * c + c = a + ((i + 1 : Nat) : Int) * c := by rw [Int.natCast_add, Int.add_mul]; simp; omega
    have e2 : (n : Int) - (i : Int) - 1 = (n : Int) - ((i + 1 : Nat) : Int) := by omega
    rw [e1, e2] at hit'
    exact H _ _ h' _ ⟨_, rfl⟩ rfl hit' fun b ob hb e => (hsb.2 b hb).trans e
  done := fun o h g d tk os Q E hs ho hst H => by
    subst hst
    exact wpAny_pyNext_range_end (s := ⟨h, g, d, tk, os⟩) hh ho (by omega) fun h' he => H h' tk fun b ob hb e => he b ob hb e
/-- one name over a range -/
theorem for_range {x : Str} {p : Pos} {body orelse rest : List Stmt} {r : Addr} {a b c : Int} {t u v : Tok} {n : Nat} (Inv : Nat → List (Str × Value) → List (Addr × Obj) → Prop) (hh : A.handled = none)
    (F : Fr h₀ L h (frm l)) (N : News h₀ L h news) (h0 : Inv 0 l news) (hr : IsRange h r a b c t u v) (hsm : Builtin.Range.small a b c = true) (hn : Builtin.Range.rangeSize a b c = (n : Int))
    (body_ok : ∀ i v I o h tk l news, i < n → IsI (a + (i : Int) * c) v → Inv i l news → Fr h₀ L h (frm ((x, v) :: l)) → News h₀ L h ((I, o) :: news) → (∀ p ∈ news, p.1 ≠ I) → o.cls = .type "range_iterator" →
      WP prog w A (execs body env) (TurnQ h₀ L I o g d os (fun l' news' => Inv (i + 1) l' news' ∧ ∀ p ∈ news', p.1 ≠ I) (thenQ prog w A env rest Q .next) (fun v => Q (.ret v))) ⟨h, g, d, tk, os⟩)
    (end_ok : ∀ h tk l news, Inv n l news → Fr h₀ L h (frm l) → News h₀ L h news → WP prog w A (execs orelse env) (thenQ prog w A env rest Q) ⟨h, g, d, tk, os⟩)
    (hL : LocalEnv env L) (hl : env.kindOf x = some .local) :
    ForAt prog w A env (.Name x p) body orelse rest Q (.ref r) ⟨h, g, d, tk, os⟩ := by
  intro R hR
  refine wpAny_pyIter_range (s := ⟨h, g, d, tk, os⟩) hr hsm ?_
  have hne : ∀ q ∈ news, q.1 ≠ h.objs.size := fun q hq => Nat.ne_of_lt (Heap.lt_size (N q hq).1)
  have lp : Le h (h.push { cls := .type "range_iterator", data := .fields #[rawInt a, rawInt (Builtin.Range.rangeSize a b c), rawInt c] }) := fun b ob e => Heap.get?_push_of_some _ e
  refine code_for (itOf_range (a := a) (c := c) (n := n) hh) Inv hL hl (fun _ _ _ _ _ _ _ => trivial) ?_ ?_ h0 (fr_up F lp) (N.push F _) hne (by rw [hn]; simp)
  · intro i v o h tk l news hi hP hI hst F N hne
    refine (body_ok i v _ o h tk l news hi hP hI F N hne (by rw [hst])).mono fun f s' hq => ?_
    cases f with
    | next => exact hq
    | cont => exact hq
    | brk => exact hR .next s' hq
    | ret v => exact hR (.ret v) s' hq
  · intro h tk l news hI F N
    exact (end_ok h tk l news hI F N).mono fun f s' hq => hR f s' hq
/-- what a turn over pairs leaves -/
def TurnD (h₀ : Heap) (L : Addr) (dsl : List (Addr × Obj)) (g : Array GenState) (d : Drawn) (os : OsState) (Inv : List (Str × Value) → List (Addr × Obj) → Prop) (s' : Shared) : Prop :=
  ∃ h' tk' l' news', s' = ⟨h', g, d, tk', os⟩ ∧ Fr h₀ L h' (frm l') ∧ News h₀ L h' (dsl ++ news') ∧ Inv l' news'
def TurnDQ (h₀ : Heap) (L : Addr) (dsl : List (Addr × Obj)) (g : Array GenState) (d : Drawn) (os : OsState) (Inv : List (Str × Value) → List (Addr × Obj) → Prop) (B : Shared → Prop) (R : Value → Shared → Prop) : Flow → Shared → Prop
  | .next, s' | .cont, s' => TurnD h₀ L dsl g d os Inv s'
  | .brk, s' => B s'
  | .ret v, s' => R v s'
/-- two names over pairs -/
theorem code_for2 {I : Addr} {fp wr : List Addr} {n : Nat} {P : Nat → Value → Value → Prop} {St : Nat → Heap → Prop} {a b : Str} {pa pb tp : Pos} {kk : Nat} {body orelse : List Stmt} {R : Result → Shared → Prop} {dsl : List (Addr × Obj)} (W : ItOf2 prog w A I fp wr n P St) (so : Addr → Obj)
    (Inv : Nat → List (Str × Value) → List (Addr × Obj) → Prop) (hh : A.handled = none) (hL : LocalEnv env L) (ha : env.kindOf a = some .local) (hb : env.kindOf b = some .local)
    (hfL : L ∉ fp) (src : ∀ i l news, Inv i l news → ∀ b ∈ fp, b ∉ wr → h₀.get? b = some (so b) ∨ (b, so b) ∈ news)
    (body_ok : ∀ i v1 v2 dsl h tk l news, i < n → P i v1 v2 → Inv i l news → dsl.map (·.1) = wr → Fr h₀ L h (frm ((b, v2) :: (a, v1) :: l)) → News h₀ L h (dsl ++ news) → (∀ p ∈ news, p.1 ∉ wr) →
      WP prog w A (execs body env) (TurnDQ h₀ L dsl g d os (fun l' news' => Inv (i + 1) l' news' ∧ ∀ p ∈ news', p.1 ∉ wr) (R (.ok .next)) (fun v => R (.ok (.ret v)))) ⟨h, g, d, tk, os⟩)
    (end_ok : ∀ h tk l news, Inv n l news → Fr h₀ L h (frm l) → News h₀ L h news → WP prog w A (execs orelse env) (fun f s' => R (.ok f) s') ⟨h, g, d, tk, os⟩)
    (h0 : Inv 0 l news) (F : Fr h₀ L h (frm l)) (hd0 : dsl.map (·.1) = wr) (N : News h₀ L h (dsl ++ news)) (hne : ∀ p ∈ news, p.1 ∉ wr) (hst : St 0 h) :
    codeAny (model prog w) A (.forLoop (.Tuple [.Name a pa, .Name b pb] kk tp) (.ref I) body orelse env) R ⟨h, g, d, tk, os⟩ := by
  refine codeAny_forLoop_any (fun k s => ∃ i h tk l news dsl, k = n - i ∧ i ≤ n ∧ s = ⟨h, g, d, tk, os⟩ ∧ Inv i l news ∧ Fr h₀ L h (frm l) ∧ dsl.map (·.1) = wr ∧ News h₀ L h (dsl ++ news) ∧ (∀ p ∈ news, p.1 ∉ wr) ∧ St i h) ?_ n
    ⟨0, h, tk, l, news, dsl, rfl, Nat.zero_le _, rfl, h0, F, hd0, N, hne, hst⟩
  rintro k s ⟨i, h, tk, l, news, dsl, rfl, hi, rfl, hI, F, hd, N, hne, hst⟩
  have hwL : L ∉ wr := fun q => hfL (W.sub _ q)
  have hw0 : ∀ b o, h₀.get? b = some o → b ∉ wr := fun b o e q => by
    rw [← hd] at q
    obtain ⟨p, hp, rfl⟩ := List.mem_map.mp q
    rw [(N p (List.mem_append_left _ hp)).2.2] at e; cases e
  have keepF : ∀ h', (∀ b ob, b ∉ wr → h.get? b = some ob → h'.get? b = some ob) → Fr h₀ L h' (frm l) := fun h' hk => by
    obtain ⟨oL, a1, a2, hoL, a3⟩ := F.ns
    exact ⟨⟨oL, a1, a2, hk _ _ hwL hoL, a3⟩, fun b ob e => hk b ob (hw0 b ob e) (F.keep b ob e), F.above⟩
  have keepN : ∀ h', (∀ b ob, b ∉ wr → h.get? b = some ob → h'.get? b = some ob) → News h₀ L h' news := fun h' hk q hq => ⟨hk _ _ (hne q hq) (N q (List.mem_append_right _ hq)).1, (N q (List.mem_append_right _ hq)).2⟩
  rcases Nat.lt_or_ge i n with hlt | hge
  · refine W.item i h g d tk os [.Name a pa, .Name b pb] kk tp _ _ hlt hst fun T s1 go => go _ fun v1 v2 h' tk' hP hT hst' hk => ?_
    have dsl' : ∃ dsl' : List (Addr × Obj), dsl'.map (·.1) = wr ∧ ∀ p ∈ dsl', h'.get? p.1 = some p.2 := by
      have hp := W.pres (i + 1) h' hst'
      have : ∀ ws : List Addr, (∀ b ∈ ws, b ∈ wr) → ∃ ds : List (Addr × Obj), ds.map (·.1) = ws ∧ ∀ p ∈ ds, h'.get? p.1 = some p.2 := by
        intro ws
        induction ws with
        | nil => intro _; exact ⟨[], rfl, fun _ hp => nomatch hp⟩
        | cons x ws ih =>
          intro hw
          obtain ⟨ds, e, q⟩ := ih fun b hb => hw b (.tail _ hb)
          obtain ⟨o, ho⟩ := hp x (W.sub _ (hw x (.head _)))
          refine ⟨(x, o) :: ds, by simp [e], fun p hp => ?_⟩
          rcases List.mem_cons.mp hp with rfl | hp
          · exact ho
          · exact q p hp
      exact this wr fun _ hb => hb
    obtain ⟨dsl', hd', hg'⟩ := dsl'
    have N' : News h₀ L h' (dsl' ++ news) := fun q hq => by
      rcases List.mem_append.mp hq with hq | hq
      · have hm : q.1 ∈ wr := by rw [← hd']; exact List.mem_map_of_mem hq
        refine ⟨hg' q hq, fun e => hwL (e ▸ hm), ?_⟩
        cases e : h₀.get? q.1 with
        | none => rfl
        | some o => exact absurd hm (hw0 _ _ e)
      · exact keepN h' hk q hq
    refine as_two hh (keepF h' hk) N' hT (fun h2 tk2 F2 N2 => ?_) hL ha hb
    refine wpAny_mono (body_ok i v1 v2 dsl' h2 tk2 l news hlt hP hI hd' F2 N2 hne).run (fun f s3 hq => ?_) fun _ _ e => e.elim
    have step : TurnD h₀ L dsl' g d os (fun l' news' => Inv (i + 1) l' news' ∧ ∀ p ∈ news', p.1 ∉ wr) s3 → ∃ m, m < n - i ∧ ∃ i h tk l news dsl, m = n - i ∧ i ≤ n ∧ s3 = ⟨h, g, d, tk, os⟩ ∧ Inv i l news ∧ Fr h₀ L h (frm l) ∧ dsl.map (·.1) = wr ∧ News h₀ L h (dsl ++ news) ∧ (∀ p ∈ news, p.1 ∉ wr) ∧ St i h := by
      rintro ⟨h3, tk3, l3, n3, rfl, F3, N3, hI3, hne3⟩
      refine ⟨n - (i + 1), by omega, i + 1, h3, tk3, l3, n3, dsl', rfl, hlt, rfl, hI3, F3, hd', N3, hne3, W.frame _ _ _ hst' fun b hb o e => ?_⟩
      by_cases q : b ∈ wr
      · rw [← hd'] at q
        obtain ⟨p, hp, rfl⟩ := List.mem_map.mp q
        rw [hg' p hp] at e
        rw [← Option.some.inj e]
        exact (N3 p (List.mem_append_left _ hp)).1
      · have e1 : h'.get? b = some (so b) := by
          rcases src i l news hI b hb q with z | z
          · exact (keepF h' hk).keep _ _ z
          · exact (keepN h' hk _ z).1
        rw [e1] at e
        rw [← Option.some.inj e]
        rcases src (i + 1) l3 n3 hI3 b hb q with z | z
        · exact F3.keep _ _ z
        · exact (N3 _ (List.mem_append_right _ z)).1
    cases f with
    | next => exact step hq
    | cont => exact step hq
    | brk => exact hq
    | ret v => exact hq
  · have hin : i = n := Nat.le_antisymm hi hge
    subst hin
    refine W.done h g d tk os _ _ hst fun h' tk' hk => ?_
    exact (end_ok h' tk' l news hI (keepF h' hk) (keepN h' hk)).of
end
end Mine
end
section
set_option maxRecDepth 100000
set_option linter.unusedVariables false
open PySem PySem.W PyProof.Rows PySem.Calls PySem.Spec
namespace Mine
local macro_rules | `(tactic| walk_at "lk") => `(tactic| repeat (first | with_reducible exact frm_head | with_reducible assumption | with_reducible refine frm_tail (by kernel_rfl) ?_))
local macro_rules | `(tactic| walk_at "zl") => `(tactic| (refine ex_local (Fr.ns (by assumption)) (by walk_at "lk") ?_ (by kernel_rfl) (by kernel_rfl) (by kernel_rfl); first | exact isI | exact isS | exact isB | rfl))
section
variable {prog : Program} {w : World} {A : Around} {h : Heap} {env : Env} {K : Frag}
/-- isinstance of a text, a tuple against an own class -/
theorem cl_isn_str {v : Value} {x : Str} {C : Addr} (X : K.In h) (e : isNotIn K "str" C = true) (hv : IsS x v) : EX prog w A (call (.builtin "isinstance") [v, .ref C]) h (Im (IsB false)) := by
  obtain ⟨t, rfl⟩ := hv
  exact ⟨fun h1 g d tk os Q E le H => isn_call (s := ⟨h1, g, d, tk, os⟩) (P := fun _ => True) (X.keeps le) (fun M => Looks.of_pure rfl) e (by intro q; cases q) trivial str_cls (H _ [] _ _ Le.refl Fresh.nil ⟨rfl, isB⟩)⟩
theorem cl_isn_tup {a : Addr} {vs : Array Value} {C : Addr} (X : K.In h) (e : isNotIn K "tuple" C = true) (hv : h.IsTuple a vs) : EX prog w A (call (.builtin "isinstance") [.ref a, .ref C]) h (Im (IsB false)) :=
  ⟨fun h1 g d tk os Q E le H => by
    obtain ⟨o, ho, hc, _⟩ := tuple_up hv le
    refine isn_call (s := ⟨h1, g, d, tk, os⟩) (P := fun h => ∃ o, h.get? a = some o ∧ o.cls = .type "tuple") (X.keeps le) (fun M => ?_) e (by intro q; cases q) ⟨o, ho, hc⟩ tuple_cls (H _ [] _ _ Le.refl Fresh.nil ⟨rfl, isB⟩)
    rw [← hc]
    exact (Looks.ld ho).andThen .now⟩
/-- isinstance(e, C) as a test, C an own class -/
theorem et_isc {e : Expr} {nm : Str} {C : Addr} {b : Bool} {P : Value → Prop} {p1 p2 p3 : Pos} (t : TX w h) (he : EX PG w A (eval e env) h (Im P)) (hcl : ∀ v, P v → EX PG w A (call (.builtin "isinstance") [v, .ref C]) h (Im (IsB b)))
    (hkd : env.kindOf (Str.ofString "isinstance") = some .globalImplicit) (hk : env.scope.kind = .function) (hg : env.globals = mainGlobals) (hb : env.builtins = builtinsNs)
    (hT : EX PG w A (eval (.Name nm p2) env) h (Im (· = .ref C)))
    (h1 : starEach [e, .Name nm p2] env = (false, eval e env) :: starEach [.Name nm p2] env := by kernel_rfl) (h2 : (backTo p3 (starEach [.Name nm p2] env)).any (·.1) = false := by kernel_rfl) (h3 : starEach [.Name nm p2] env = (false, eval (.Name nm p2) env) :: starEach [] env := by kernel_rfl)
    (hr : eval (.Call (.Name (Str.ofString "isinstance") p1) [e, .Name nm p2] [] p3) env = (do callWith p3 (← eval (.Name (Str.ofString "isinstance") p1) env) [] (backTo p3 (starEach [e, .Name nm p2] env)) (backToKw p3 (keywordEach [] env))) := by kernel_rfl)
    (hr2 : PySem.isTrue (.Call (.Name (Str.ofString "isinstance") p1) [e, .Name nm p2] [] p3) env (eval (.Call (.Name (Str.ofString "isinstance") p1) [e, .Name nm p2] [] p3) env) = (do let v ← eval (.Call (.Name (Str.ofString "isinstance") p1) [e, .Name nm p2] [] p3) env; standAt (Expr.Call (.Name (Str.ofString "isinstance") p1) [e, .Name nm p2] [] p3).pos; holding [v] (truthy v)) := by kernel_rfl) :
    EX PG w A (PySem.isTrue (.Call (.Name (Str.ofString "isinstance") p1) [e, .Name nm p2] [] p3) env (eval (.Call (.Name (Str.ofString "isinstance") p1) [e, .Name nm p2] [] p3) env)) h (Im (· = b)) := by
  refine et_plain (P := IsB b) ?_ (fun v hv => tr_bool hv) hr2
  refine ex_callK (fv := .builtin "isinstance") (ex_builtin t (by k_is) (by kernel_rfl) (by decide) rfl hkd hk hg hb (by kernel_rfl)) (drop_new (cw_builtin (exs_cons he (exs_cons hT exs_nil h3) h1) ?_ h1 h2)) hr
  rintro vs new h4 le4 hn ⟨rfl, v, r, rfl, hv, v2, r2, rfl, rfl, rfl⟩
  exact ((hcl v hv).up le4).mono fun v new hv => hv.2
end
section
variable {w : World} {A : Around} {h : Heap}
set_option maxHeartbeats 4000000
theorem s2t {x p q : Str} {t : Tok} {c1 c2 : Nat} (T : TX w h) (hh : A.handled = none) (hd' : A.depth + 40 < recursionLimit)
    (h1 : (decide (x.length < (Str.ofString ".").length) || decide (Builtin.Str.strKind x < Builtin.Str.strKind (Str.ofString "."))) = false) (hf : (Builtin.Str.occurrences x (Str.ofString ".") 0 x.length (x.length + 1)).isEmpty = false)
    (hsp : Builtin.Str.partsBetween x (Builtin.Str.occurrences x (Str.ofString ".") 0 x.length (x.length + 1)) (Str.ofString ".").length = [p, q]) (hx : x.length ≤ 100) (hx0 : 0 < x.length) (hp : p.length ≤ 100) (hq : q.length ≤ 100)
    (k1 : p.cps[0]? = some c1) (k2 : q.cps[0]? = some c2) (u1 : Txt.isupper ⟨#[c1]⟩ = true) (u2 : Txt.isupper ⟨#[c2]⟩ = true) (hal : nsIn (capK.heap_1 w.params) 112 p = some none) :
    EX PG w A (call (.ref 119) [.str x t]) h (fun v new => ∃ tok dt nt t0 t1 t2, v = .ref tok ∧ new = [(tok, instObj 83 dt), (dt, dictOf [ent w (Str.ofString "names") t0 (.ref nt)] 1), (nt, tupO [.str p t1, .str q t2])]) := by
  refine ex_def T.X T.lim (by k_is) (by k_is) (by omega) (fun s X => BindsTo.of_eq rfl) (locs rfl) ?_ (by decide) rfl rfl rfl
  intro h1' L' hh' g d tk os le F
  change Fr _ _ _ (frm [(Str.ofString "s", _)]) at F
  have T1 := T.up le
  have T2 := T1.up F.keep
  refine st_skip F News.nil (et_isc (P := IsS x) T2 (by walk_at "zl") (fun v hv => cl_isn_str (C := 83) T2.X (by k_not) hv) (by kernel_rfl) rfl rfl rfl (ex_global T2 (by k_is) rfl (by kernel_rfl) (by kernel_rfl) (by kernel_rfl) (by kernel_rfl))) fun h2 tk2 F N => ?_
  refine st_skip F N (EX.mono (et_not (b := true) (et_plain (P := IsS x) (by walk_at "zl") (fun v hv => tr_str hv (by omega) (by simp; omega)))) fun v new hv => hv) fun h3 tk3 F N => ?_
  refine st_assignI (P := (· = .ref 89)) F N (ex_global (T1.up F.keep) (by k_is) rfl (by kernel_rfl) (by kernel_rfl) (by kernel_rfl) (by kernel_rfl)) ?_ ⟨rfl, rfl⟩ (by kernel_rfl) (by kernel_rfl)
  rintro v h4 tk4 rfl F N
  refine st_for F N (ex_meth (P1 := IsS x) (by walk_at "zl") (fun a ha => gm_split ha) (fun a ha => cw_builtinM (V := fun v new => ∃ D l, v = .ref D ∧ l.map (·.1) = [p, q] ∧ new = [(D, lobj (strValues l) 0)]) (exs_one (V1 := Im (IsS (Str.ofString "."))) ex_str) ?_)) ?_
  · rintro vs new h5 le5 hn ⟨v, rfl, rfl, hv⟩
    exact (cl_split ha hv h1 (by decide) hf (by omega) (by rw [hsp]; show 2 ≤ 1000; decide)).mono fun v new hv => by rw [hsp] at hv; simpa using hv
  rintro v new h5 tk5 ⟨D, l, rfl, hl, rfl⟩ F N dj
  obtain ⟨⟨p', t1⟩, l1, rfl, rfl, hl1⟩ := List.map_eq_cons_iff.mp hl
  obtain ⟨⟨q', t2⟩, l2, rfl, rfl, hl2⟩ := List.map_eq_cons_iff.mp hl1
  obtain rfl := List.map_eq_nil_iff.mp hl2
  dsimp only at *
  refine for_list (items := [.str p' t1, .str q' t2]) (fun i l news => (D, lobj [.str p' t1, .str q' t2] 0) ∈ news ∧ ∃ nd dn nt t0, frm l (Str.ofString "node") = some (.ref nd) ∧
      (∀ h, Le h1' h → (∀ o ∈ news, h.get? o.1 = some o.2) → h.get? nd = some (instObj 83 dn) ∧ h.get? dn = some (dictOf [ent w (Str.ofString "names") t0 (.ref nt)] 1) ∧ h.IsTuple nt ([.str p' t1, .str q' t2].take i : List Value).toArray) ∧
      (0 < i → (∀ o ∈ [(nd, instObj 83 dn), (dn, dictOf [ent w (Str.ofString "names") t0 (.ref nt)] 1), (nt, tupO ([.str p' t1, .str q' t2].take i : List Value))], o ∈ news))) hh F N ⟨.head _, 89, 88, 90, 356, by walk_at "lk", fun h le F => ?_, fun h => absurd h (Nat.lt_irrefl _)⟩
    (fun i h l news hI F N => ⟨_, (N _ hI.1).1, rfl, _, rfl⟩) ?_ ?_ ⟨rfl, rfl⟩ (by kernel_rfl)
  · have X := (T1.up le).X
    exact ⟨X _ _ (by kernel_rfl), X _ (dictOf [ent w (Str.ofString "names") 356 (.ref 90)] 1) (by kernel_rfl), ⟨{ cls := .type "tuple", data := .seq #[] }, X _ _ (by kernel_rfl), rfl, _, rfl⟩⟩
  · intro i v I o h tk l news hi hv hI F N hne
    obtain ⟨hD, nd, dn, nt, t0, hn, hg, hm⟩ := hI
    obtain ⟨g1, g2, g3⟩ := hg h F.keep (fun o ho => (N o (.tail _ ho)).1)
    have T3 := T1.up F.keep
    have hi2 : i < 2 := hi
    have lz : ([Value.str p' t1, Value.str q' t2].take i).length ≤ 100 := by rw [List.length_take]; simp only [List.length_cons, List.length_nil]; omega
    -- the item
    have it : ∃ z tz cz, v = .str z tz ∧ z.length ≤ 100 ∧ z.cps[0]? = some cz ∧ Txt.isupper ⟨#[cz]⟩ = true ∧ (([Value.str p' t1, Value.str q' t2].take i) = [] → nsIn (capK.heap_1 w.params) 112 z = some none) := by
      rcases Nat.lt_or_ge i 1 with q1 | q1
      · have : i = 0 := by omega
        subst this
        simp at hv
        exact ⟨p', t1, c1, hv.symm, hp, k1, u1, fun _ => hal⟩
      · have : i = 1 := by omega
        subst this
        simp at hv
        exact ⟨q', t2, c2, hv.symm, hq, k2, u2, fun e => by simp at e⟩
    obtain ⟨z, tz, cz, rfl, hz, kz, uz, az⟩ := it
    have hn' : frm ((Str.ofString "item", .str z tz) :: l) (Str.ofString "node") = some (.ref nd) := frm_tail (by kernel_rfl) hn
    refine st_assignD (V := fun v new => ∃ tok dt nt' t0', v = .ref tok ∧ new = [(tok, instObj 83 dt), (dt, dictOf [ent w (Str.ofString "names") t0' (.ref nt')] 1), (nt', tupO ([Value.str p' t1, Value.str q' t2].take i ++ [.str z tz]))]) F N
      (ex_meth (P1 := (· = .ref nd)) (fv := .ref 73) (first := fun _ => [.ref nd]) (by walk_at "zl") (fun a ha => by subst ha; exact gm_inst F T1.X (inst_mk g1 g2) (by k_is) (by k_is) (by k_is) (by kernel_rfl)) (fun a ha => cw_some (keeper_K T3.X (by k_is)) (exs_one (V1 := Im (· = .str z tz)) (by walk_at "zl")) ?_)) ?_ ⟨rfl, rfl⟩ (by kernel_rfl) (by kernel_rfl)
    · rintro vs new h6 le6 hn6 ⟨v, rfl, rfl, rfl⟩
      exact (child_ok (T3.up le6) (by rw [depth_deeper]; omega) (le6 _ _ g1) (le6 _ _ g2) (tuple_up g3 le6) lz kz uz (by omega) az).mono fun v new hv => by simpa using hv
    rintro v new h6 tk6 ⟨tok, dt, nt', t0', rfl, rfl⟩ F N dj
    have etk : ([Value.str p' t1, Value.str q' t2].take i ++ [.str z tz]) = [Value.str p' t1, Value.str q' t2].take (i + 1) := by rw [List.take_add_one, hv]; rfl
    rw [etk] at N dj
    refine wp_nil ⟨h6, tk6, _, [(tok, instObj 83 dt), (dt, dictOf [ent w (Str.ofString "names") t0' (.ref nt')] 1), (nt', tupO ([Value.str p' t1, Value.str q' t2].take (i + 1)))] ++ news, rfl, F, ?_, ⟨?_, tok, dt, nt', t0', by walk_at "lk", ?_, ?_⟩, ?_⟩
    · intro q hq
      refine N q ?_
      rcases List.mem_cons.mp hq with e | hq
      · exact List.mem_append_right _ (e ▸ .head _)
      · rcases List.mem_append.mp hq with hq | hq
        · exact List.mem_append_left _ hq
        · exact List.mem_append_right _ (.tail _ hq)
    · exact List.mem_append_right _ hD
    · intro h le hall
      exact ⟨hall _ (.head _), hall _ (.tail _ (.head _)), ⟨_, hall _ (.tail _ (.tail _ (.head _))), rfl, _, rfl⟩⟩
    · intro _ o ho
      exact List.mem_append_left _ ho
    · intro p hp
      rcases List.mem_append.mp hp with hp | hp
      · exact dj p hp _ (.head _)
      · exact hne p hp
  · rintro h tk l news ⟨hD, nd, dn, nt, t0, hn, hg, hm⟩ F N
    have hm := hm (Nat.zero_lt_succ _)
    refine wp_nil (thenQ_next (st_ret F N (V := Im (· = .ref nd)) (by walk_at "zl") ?_))
    rintro v new h5 tk5 ⟨rfl, rfl⟩ F N
    exact ret_of (new := [(nd, instObj 83 dn), (dn, dictOf [ent w (Str.ofString "names") t0 (.ref nt)] 1), (nt, tupO [.str p' t1, .str q' t2])]) F N (fun o ho => hm o ho) ⟨nd, dn, nt, t0, t1, t2, rfl, rfl⟩
end
end Mine
end
section
set_option maxRecDepth 100000
set_option linter.unusedVariables false
open PySem PySem.W PyProof.Rows PySem.Calls PySem.Spec
namespace Mine
local macro_rules | `(tactic| walk_at "lk") => `(tactic| repeat (first | with_reducible exact frm_head | with_reducible assumption | with_reducible refine frm_tail (by kernel_rfl) ?_))
local macro_rules | `(tactic| walk_at "zl") => `(tactic| (refine ex_local (Fr.ns (by assumption)) (by walk_at "lk") ?_ (by kernel_rfl) (by kernel_rfl) (by kernel_rfl); first | exact isI | exact isS | exact isB | rfl))
section
variable {prog : Program} {w : World} {A : Around} {h : Heap} {env : Env} {K : Frag} {h₀ : Heap} {L : Addr} {m : Str → Option Value} {news : List (Addr × Obj)} {g : Array GenState} {d : Drawn} {tk : Nat} {os : OsState} {Q : Flow → Shared → Prop}
theorem op_inS {D : Addr} {kvs : List (Str × Value)} {x : Str} {b : Bool} (hd : h.DictOf (strKind prog w) D kvs) (hs : (D == sysModules) = false) (hb : (valueAt kvs x).isSome = b) (u v : Value) (hu : IsS x u) (hv : v = .ref D) : EX prog w A (compareOp .In u v) h (Im (IsB b)) := by
  subst hv
  obtain ⟨t, rfl⟩ := hu
  subst hb
  exact ⟨fun h' g d tk os Q E le H => wpAny_in_of (s := ⟨h', g, d, tk, os⟩) (k := x) (strKind_is prog w x t) hs (dict_up hd le).mapOf (H _ [] _ _ Le.refl Fresh.nil ⟨rfl, isB⟩)⟩
theorem op_inTupS {x : Str} {T : Addr} {items : Array Value} {ys : List Str} {b : Bool} (ht : h.IsTuple T items) (hi : StrsAre items.toList ys) (hb : ys.any (· == x) = b) (u v : Value) (hu : IsS x u) (hv : v = .ref T) : EX prog w A (compareOp .In u v) h (Im (IsB b)) := by
  subst hv hb
  obtain ⟨t, rfl⟩ := hu
  exact ⟨fun h' g d tk os Q E le H => by
    obtain ⟨o, ho, hc, n, hd⟩ := tuple_up ht le
    have ht' : IsTup h' T items := ⟨o, ho, hc, n, hd⟩
    exact in_tuple_strs (s := ⟨h', g, d, tk, os⟩) ht' hi (H _ [] _ _ Le.refl Fresh.nil ⟨rfl, isB⟩)⟩
theorem st_assert {test : Expr} {msg : Option Expr} {pos : Pos} {rest : List Stmt} (F : Fr h₀ L h m) (N : News h₀ L h news) (ht : EX prog w A (PySem.isTrue test env (eval test env)) h (Im (· = true)))
    (H : ∀ h' tk', Fr h₀ L h' m → News h₀ L h' news → WP prog w A (execs rest env) Q ⟨h', g, d, tk', os⟩) : WP prog w A (execs (.Assert test msg pos :: rest) env) Q ⟨h, g, d, tk, os⟩ :=
  wp_cons ⟨wpAny_Assert_holds (ht.at fun b n h2 tk2 l2 f2 hb => ⟨hb.2, (H h2 tk2 (fr_up F l2) (nw_up N l2)).run⟩)⟩
theorem cl_intS {v : Value} {x : Str} {n : Int} (hv : IsS x v) (hn : PySem.intText? x = some n) (hl : x.length ≤ 640) : EX prog w A (call (.type "int") [v]) h (Im (IsI n)) := by
  obtain ⟨t, rfl⟩ := hv
  exact ⟨fun h' g d tk os Q E le H => KIN.call_text (s := ⟨h', g, d, tk, os⟩) hn hl (H _ [] _ _ Le.refl Fresh.nil ⟨rfl, isI⟩)⟩
/-- slices of texts with one end -/
theorem ex_sliceTo {value e2 : Expr} {p pos : Pos} {x : Str} {j : Int} (hv : EX prog w A (eval value env) h (Im (IsS x))) (h2 : EX prog w A (eval e2 env) h (Im (IsI j))) (hsz : x.length ≤ sizeLine)
    (ht : ∀ o r, letTemporaryGo value o r = pure () := by intro _ _; kernel_rfl) :
    EX prog w A (eval (.Subscript value (.Slice none (some e2) none p) pos) env) h (Im (IsS (Txt.slice x none (some j)))) := by
  refine ⟨fun ha g d tk os Q E le H => ?_⟩
  refine wpAny_Subscript_str_slice (hv.run ha g d tk os _ E le fun o n h2' tk2 l2 f2 ho => ?_) ht
  rw [evalPart_none]
  refine wpAny_pure (h2.run h2' g d tk2 os _ E (le.trans l2) fun vu n4 h4 tk4 l4 f4 hu => ?_)
  obtain ⟨t, rfl⟩ := ho.2; obtain ⟨u2, rfl⟩ := hu.2
  refine ⟨x, t, none, some (j, u2), rfl, rfl, rfl, ?_⟩
  exact post_val_or_str ⟨Nat.le_trans (Txt.slice_le x none (some j)) hsz, fun t' k => H _ [] _ _ ((l2.trans l4).trans fun b o e => Heap.get?_push_of_some _ e) Fresh.nil ⟨rfl, isS⟩⟩
theorem ex_sliceFrom {value e1 : Expr} {p pos : Pos} {x : Str} {i : Int} (hv : EX prog w A (eval value env) h (Im (IsS x))) (h1 : EX prog w A (eval e1 env) h (Im (IsI i))) (hsz : x.length ≤ sizeLine)
    (ht : ∀ o r, letTemporaryGo value o r = pure () := by intro _ _; kernel_rfl) :
    EX prog w A (eval (.Subscript value (.Slice (some e1) none none p) pos) env) h (Im (IsS (Txt.slice x (some i) none))) := by
  refine ⟨fun ha g d tk os Q E le H => ?_⟩
  refine wpAny_Subscript_str_slice (hv.run ha g d tk os _ E le fun o n h2' tk2 l2 f2 ho => ?_) ht
  show wpAny _ _ (eval e1 env) _ _ _
  refine (h1.run h2' g d tk2 os _ E (le.trans l2) fun vu n4 h4 tk4 l4 f4 hu => ?_)
  rw [evalPart_none]
  refine wpAny_pure ?_
  obtain ⟨t, rfl⟩ := ho.2; obtain ⟨u2, rfl⟩ := hu.2
  refine ⟨x, t, some (i, u2), none, rfl, rfl, rfl, ?_⟩
  exact post_val_or_str ⟨Nat.le_trans (Txt.slice_le x (some i) none) hsz, fun t' k => H _ [] _ _ ((l2.trans l4).trans fun b o e => Heap.get?_push_of_some _ e) Fresh.nil ⟨rfl, isS⟩⟩
end
/-- the ways of the script -/
def wayOf : Nat → Way
  | 1 => .pop 1
  | 2 => .lay [some .first]
  | 3 => .lay [some .second]
  | 4 => .push
  | 5 => .lay [some .first, some .second]
  | 6 => .lay [none, some .first]
  | 7 => .pop 2
  | _ => .stay
/-- a way's value as written at the top -/
def wayRaw (w : World) : Nat → Value → Prop
  | 1, v => IsS (Str.ofString "#pop") v
  | 2, v => IsS (Str.ofString "first") v
  | 3, v => IsS (Str.ofString "second") v
  | 4, v => IsS (Str.ofString "#push") v
  | 5, v => v = .ref 730
  | 6, v => v = .ref 731
  | 7, v => IsS (Str.ofString "#pop:2") v
  | _, _ => False
def WayE (h : Heap) (k : Nat) (y : Value) (new : List (Addr × Obj)) : Prop := ∀ h2, Le h h2 → (∀ p ∈ new, h2.get? p.1 = some p.2) → WayV h2 y (wayOf k)
abbrev tabK (la : Sta → Addr) : List (Str × Value) := [(Sta.root.str, .ref (la .root)), (Sta.first.str, .ref (la .first)), (Sta.second.str, .ref (la .second))]
section
variable {w : World} {A : Around} {h : Heap}
set_option maxHeartbeats 4000000
theorem new_state {lx td pd : Addr} {la : Sta → Addr} {k : Nat} {v : Value} (T : TX w h) (hh : A.handled = none) (hd' : A.depth + 20 < recursionLimit) (hr : wayRaw w k v) (hD : h.DictOf (strKind PG w) td (tabK la)) (hs : (td == sysModules) = false) :
    EX PG w A (call (.ref 533) [.ref lx, v, .ref td, .ref pd]) h (WayE h k) := by
  refine ex_def T.X T.lim (by k_is) (by k_is) (by omega) (fun s X => BindsTo.of_eq rfl) (locs rfl) ?_ (by decide) rfl rfl rfl
  intro h1 L' hh' g d tk os le F
  change Fr _ _ _ (frm [(Str.ofString "processed", _), (Str.ofString "unprocessed", _), (Str.ofString "new_state", _), (Str.ofString "cls", _)]) at F
  have T1 := T.up le
  have N := News.nil (h₀ := h1) (L := L') (h := hh')
  have isiS : ∀ {env : Env} {h3 : Heap} {x : Str} {P : Value → Prop}, (∀ v, P v → IsS x v) → ∀ v, P v → EX PG w (A.deeper env) (call (.builtin "isinstance") [v, .type "str"]) h3 (Im (IsB true)) := fun hP v hv => cl_isi_true (fun s _ => by obtain ⟨t, rfl⟩ := hP v hv; exact typeIs_str _ _ _) PySem.F.isi_meta_str PySem.F.isi_self_str
  have bS : ∀ {h3 : Heap} {x : Str} {v : Value}, IsS x v → IsS x v := fun h => h
  have fin : ∀ {h5 : Heap} {tk5 : Nat} {m' : Str → Option Value} {all : List (Addr × Obj)} {y : Value} (k : Nat) (new : List (Addr × Obj)), Fr h1 L' h5 m' → News h1 L' h5 all → (∀ q ∈ new, q ∈ all) → WayE h k y new → Ret h1 L' g d os (WayE h k) (.ret y) ⟨h5, g, d, tk5, os⟩ := fun k new F N hs hv => ret_of (new := new) (V := WayE h k) F N hs hv
  have inD : ∀ {h3 : Heap}, Fr h1 L' h3 (frm []) ∨ True → True := fun _ => trivial
  match k, hr with
  | 1, hr =>
    obtain ⟨t, rfl⟩ := hr
    refine st_if (b := true) F N (et_isi (P := IsS (Str.ofString "#pop")) (T := "str") (T1.up F.keep) (by walk_at "zl") (isiS fun _ h => h) (by kernel_rfl) rfl rfl rfl
      (ex_builtin (T1.up F.keep) (by k_is) (by kernel_rfl) (by decide) rfl (by kernel_rfl) (by kernel_rfl) (by kernel_rfl) (by kernel_rfl) (by kernel_rfl))) (fun _ h3 tk3 F N => ?_) fun e => nomatch e
    refine st_if (b := true) F N (EX.mono (et_cmp (b := (Str.ofString "#pop" == Str.ofString "#pop")) (P1 := IsS (Str.ofString "#pop")) (P2 := IsS (Str.ofString "#pop")) op_eqs (by walk_at "zl") ex_str) fun v new hv => ⟨hv.1, by rw [hv.2]; decide⟩) (fun _ h4 tk4 F N => ?_) fun e => nomatch e
    refine st_ret F N (V := Im (IsI (-1))) (ex_neg (i := 1) ex_int) ?_
    rintro v new h5 tk5 ⟨rfl, hv⟩ F N
    exact fin 1 [] F N (fun q hq => nomatch hq) fun h2 _ _ => ⟨hv, by decide⟩
  | 2, hr =>
    obtain ⟨t, rfl⟩ := hr
    refine st_if (b := true) F N (et_isi (P := IsS (Str.ofString "first")) (T := "str") (T1.up F.keep) (by walk_at "zl") (isiS fun _ h => h) (by kernel_rfl) rfl rfl rfl
      (ex_builtin (T1.up F.keep) (by k_is) (by kernel_rfl) (by decide) rfl (by kernel_rfl) (by kernel_rfl) (by kernel_rfl) (by kernel_rfl) (by kernel_rfl))) (fun _ h3 tk3 F N => ?_) fun e => nomatch e
    refine st_if (b := false) F N (EX.mono (et_cmp (b := (Str.ofString "first" == Str.ofString "#pop")) (P1 := IsS (Str.ofString "first")) (P2 := IsS (Str.ofString "#pop")) op_eqs (by walk_at "zl") ex_str) fun v new hv => ⟨hv.1, by rw [hv.2]; decide⟩) (fun e => nomatch e) (fun _ h4 tk4 F N => ?_)
    refine st_if (b := true) F N (et_cmp (P1 := IsS (Str.ofString "first")) (P2 := (· = .ref td)) (op_inS (dict_up hD (Le.trans le F.keep)) hs rfl) (by walk_at "zl") (by walk_at "zl")) (fun _ h4 tk4 F N => ?_) fun e => nomatch e
    refine st_ret F N (V := fun v new => ∃ a, v = .ref a ∧ new = [(a, tupO [.str (Str.ofString "first") t])]) (EX.mono (ex_tuple (exs_one (V1 := Im (· = .str (Str.ofString "first") t)) (by walk_at "zl")) (fun vs n hv => by obtain ⟨v, rfl, -⟩ := hv; exact Nat.le_of_ble_eq_true rfl)) fun v new hv => by
      obtain ⟨a, vs, n, rfl, rfl, v, rfl, rfl, rfl⟩ := hv
      exact ⟨a, rfl, rfl⟩) ?_
    rintro v new h5 tk5 ⟨a, rfl, rfl⟩ F N
    exact fin 2 [(a, tupO [.str (Str.ofString "first") t])] F N (fun q hq => List.mem_append_left _ hq) fun h2 _ hp => ⟨a, _, rfl, ⟨_, hp _ (.head _), rfl, _, rfl⟩, .cons isS .nil⟩
  | 3, hr =>
    obtain ⟨t, rfl⟩ := hr
    refine st_if (b := true) F N (et_isi (P := IsS (Str.ofString "second")) (T := "str") (T1.up F.keep) (by walk_at "zl") (isiS fun _ h => h) (by kernel_rfl) rfl rfl rfl
      (ex_builtin (T1.up F.keep) (by k_is) (by kernel_rfl) (by decide) rfl (by kernel_rfl) (by kernel_rfl) (by kernel_rfl) (by kernel_rfl) (by kernel_rfl))) (fun _ h3 tk3 F N => ?_) fun e => nomatch e
    refine st_if (b := false) F N (EX.mono (et_cmp (b := (Str.ofString "second" == Str.ofString "#pop")) (P1 := IsS (Str.ofString "second")) (P2 := IsS (Str.ofString "#pop")) op_eqs (by walk_at "zl") ex_str) fun v new hv => ⟨hv.1, by rw [hv.2]; decide⟩) (fun e => nomatch e) (fun _ h4 tk4 F N => ?_)
    refine st_if (b := true) F N (et_cmp (P1 := IsS (Str.ofString "second")) (P2 := (· = .ref td)) (op_inS (dict_up hD (Le.trans le F.keep)) hs rfl) (by walk_at "zl") (by walk_at "zl")) (fun _ h4 tk4 F N => ?_) fun e => nomatch e
    refine st_ret F N (V := fun v new => ∃ a, v = .ref a ∧ new = [(a, tupO [.str (Str.ofString "second") t])]) (EX.mono (ex_tuple (exs_one (V1 := Im (· = .str (Str.ofString "second") t)) (by walk_at "zl")) (fun vs n hv => by obtain ⟨v, rfl, -⟩ := hv; exact Nat.le_of_ble_eq_true rfl)) fun v new hv => by
      obtain ⟨a, vs, n, rfl, rfl, v, rfl, rfl, rfl⟩ := hv
      exact ⟨a, rfl, rfl⟩) ?_
    rintro v new h5 tk5 ⟨a, rfl, rfl⟩ F N
    exact fin 3 [(a, tupO [.str (Str.ofString "second") t])] F N (fun q hq => List.mem_append_left _ hq) fun h2 _ hp => ⟨a, _, rfl, ⟨_, hp _ (.head _), rfl, _, rfl⟩, .cons isS .nil⟩
  | 4, hr =>
    obtain ⟨t, rfl⟩ := hr
    refine st_if (b := true) F N (et_isi (P := IsS (Str.ofString "#push")) (T := "str") (T1.up F.keep) (by walk_at "zl") (isiS fun _ h => h) (by kernel_rfl) rfl rfl rfl
      (ex_builtin (T1.up F.keep) (by k_is) (by kernel_rfl) (by decide) rfl (by kernel_rfl) (by kernel_rfl) (by kernel_rfl) (by kernel_rfl) (by kernel_rfl))) (fun _ h3 tk3 F N => ?_) fun e => nomatch e
    refine st_if (b := false) F N (EX.mono (et_cmp (b := (Str.ofString "#push" == Str.ofString "#pop")) (P1 := IsS (Str.ofString "#push")) (P2 := IsS (Str.ofString "#pop")) op_eqs (by walk_at "zl") ex_str) fun v new hv => ⟨hv.1, by rw [hv.2]; decide⟩) (fun e => nomatch e) (fun _ h4 tk4 F N => ?_)
    refine st_if (b := false) F N (et_cmp (P1 := IsS (Str.ofString "#push")) (P2 := (· = .ref td)) (op_inS (dict_up hD (Le.trans le F.keep)) hs rfl) (by walk_at "zl") (by walk_at "zl")) (fun e => nomatch e) (fun _ h4 tk4 F N => ?_)
    refine st_if (b := true) F N (EX.mono (et_cmp (b := (Str.ofString "#push" == Str.ofString "#push")) (P1 := IsS (Str.ofString "#push")) (P2 := IsS (Str.ofString "#push")) op_eqs (by walk_at "zl") ex_str) fun v new hv => ⟨hv.1, by rw [hv.2]; decide⟩) (fun _ h4 tk4 F N => ?_) fun e => nomatch e
    refine st_ret F N (V := Im (· = .str (Str.ofString "#push") t)) (by walk_at "zl") ?_
    rintro v new h5 tk5 ⟨rfl, rfl⟩ F N
    exact fin 4 [] F N (fun q hq => nomatch hq) fun h2 _ _ => isS
  | 7, hr =>
    obtain ⟨t, rfl⟩ := hr
    refine st_if (b := true) F N (et_isi (P := IsS (Str.ofString "#pop:2")) (T := "str") (T1.up F.keep) (by walk_at "zl") (isiS fun _ h => h) (by kernel_rfl) rfl rfl rfl
      (ex_builtin (T1.up F.keep) (by k_is) (by kernel_rfl) (by decide) rfl (by kernel_rfl) (by kernel_rfl) (by kernel_rfl) (by kernel_rfl) (by kernel_rfl))) (fun _ h3 tk3 F N => ?_) fun e => nomatch e
    refine st_if (b := false) F N (EX.mono (et_cmp (b := (Str.ofString "#pop:2" == Str.ofString "#pop")) (P1 := IsS (Str.ofString "#pop:2")) (P2 := IsS (Str.ofString "#pop")) op_eqs (by walk_at "zl") ex_str) fun v new hv => ⟨hv.1, by rw [hv.2]; decide⟩) (fun e => nomatch e) (fun _ h4 tk4 F N => ?_)
    refine st_if (b := false) F N (et_cmp (P1 := IsS (Str.ofString "#pop:2")) (P2 := (· = .ref td)) (op_inS (dict_up hD (Le.trans le F.keep)) hs rfl) (by walk_at "zl") (by walk_at "zl")) (fun e => nomatch e) (fun _ h4 tk4 F N => ?_)
    refine st_if (b := false) F N (EX.mono (et_cmp (b := (Str.ofString "#pop:2" == Str.ofString "#push")) (P1 := IsS (Str.ofString "#pop:2")) (P2 := IsS (Str.ofString "#push")) op_eqs (by walk_at "zl") ex_str) fun v new hv => ⟨hv.1, by rw [hv.2]; decide⟩) (fun e => nomatch e) (fun _ h4 tk4 F N => ?_)
    refine st_if (b := true) F N (EX.mono (et_cmp (b := (Txt.slice (Str.ofString "#pop:2") none (some 5) == Str.ofString "#pop:")) (P1 := IsS (Txt.slice (Str.ofString "#pop:2") none (some 5))) (P2 := IsS (Str.ofString "#pop:")) op_eqs (ex_sliceTo (x := Str.ofString "#pop:2") (by walk_at "zl") ex_int (by decide)) ex_str) fun v new hv => ⟨hv.1, by rw [hv.2]; decide +kernel⟩) (fun _ h4 tk4 F N => ?_) fun e => nomatch e
    refine st_ret F N (V := Im (IsI (-2))) (ex_neg (i := 2) (ex_callK (fv := .type "int") (ex_builtin (T1.up F.keep) (by k_is) (by kernel_rfl) (by decide) rfl (by kernel_rfl) (by kernel_rfl) (by kernel_rfl) (by kernel_rfl) (by kernel_rfl))
      (drop_new (cw_type (exs_one (V1 := Im (IsS (Txt.slice (Str.ofString "#pop:2") (some 5) none))) (ex_sliceFrom (x := Str.ofString "#pop:2") (by walk_at "zl") ex_int (by decide))) ?_)))) ?_
    · rintro vs new h3 le3 hn ⟨v, rfl, rfl, hv⟩
      exact (cl_intS (n := 2) hv (by decide +kernel) (by decide +kernel)).mono fun v new hv => hv.2
    rintro v new h5 tk5 ⟨rfl, hv⟩ F N
    exact fin 7 [] F N (fun q hq => nomatch hq) fun h2 _ _ => ⟨hv, by decide⟩
  | 5, hr =>
    subst hr
    have hT : ∀ {h3 : Heap}, TX w h3 → h3.IsTuple 730 ([.str (Str.ofString "first") 1477, .str (Str.ofString "second") 1478] : List Value).toArray := fun T3 => ⟨{ cls := .type "tuple", data := .seq #[.str (Str.ofString "first") 1477, .str (Str.ofString "second") 1478] }, T3.X _ _ (by kernel_rfl), rfl, _, rfl⟩
    refine st_if (b := false) F N (et_isi (P := (· = .ref 730)) (T := "str") (T1.up F.keep) (by walk_at "zl") (fun v hv => by subst hv; exact cl_isi_tup (hT (T1.up F.keep)) (by decide) PySem.F.isi_meta_str (by rw [isSubtype_type]; kernel_rfl)) (by kernel_rfl) rfl rfl rfl
      (ex_builtin (T1.up F.keep) (by k_is) (by kernel_rfl) (by decide) rfl (by kernel_rfl) (by kernel_rfl) (by kernel_rfl) (by kernel_rfl) (by kernel_rfl))) (fun e => nomatch e) (fun _ h3 tk3 F N => ?_)
    refine st_if (b := false) F N (et_isc (C := 370) (P := (· = .ref 730)) (T1.up F.keep) (by walk_at "zl") (fun v hv => by subst hv; exact cl_isn_tup (C := 370) (T1.up F.keep).X (by k_not) (hT (T1.up F.keep))) (by kernel_rfl) rfl rfl rfl (ex_global (T1.up F.keep) (by k_is) rfl (by kernel_rfl) (by kernel_rfl) (by kernel_rfl) (by kernel_rfl))) (fun e => nomatch e) (fun _ h3 tk3 F N => ?_)
    refine st_if (b := true) F N (et_isi (P := (· = .ref 730)) (T := "tuple") (T1.up F.keep) (by walk_at "zl") (fun v hv => cl_isi_true (fun s le' => by subst hv; obtain ⟨o, ho, hc, _⟩ := hT ((T1.up F.keep).up le'); exact ⟨o, ho, hc⟩) PySem.F.isi_meta_tuple PySem.F.isi_self_tuple) (by kernel_rfl) rfl rfl rfl
      (ex_builtin (T1.up F.keep) (by k_is) (by kernel_rfl) (by decide) rfl (by kernel_rfl) (by kernel_rfl) (by kernel_rfl) (by kernel_rfl) (by kernel_rfl))) (fun _ h3 tk3 F N => ?_) fun e => nomatch e
    refine st_for_tuple (ax := 730) (items := [.str (Str.ofString "first") 1477, .str (Str.ofString "second") 1478]) (fun i l' news' => news' = [] ∧ frm l' (Str.ofString "new_state") = some (.ref 730) ∧ frm l' (Str.ofString "unprocessed") = some (.ref td)) hh F N (by walk_at "zl") ⟨rfl, by walk_at "lk", by walk_at "lk"⟩ (fun i h l news _ F _ => hT (T1.up F.keep)) ?_ ?_ ⟨rfl, rfl⟩ (by kernel_rfl)
    · intro i v I o h4 tk4 l news hi hv hI F N hne hoc
      obtain ⟨rfl, i1, i2⟩ := hI
      have hi2 : i < 2 := hi
      rcases Nat.lt_or_ge i 1 with q1 | q1
      · have : i = 0 := by omega
        subst this
        simp at hv
        subst hv
        refine st_assert F N (EX.mono (et_or (b1 := true) (b2 := false) (et_cmp (P1 := IsS (Str.ofString "first")) (P2 := (· = .ref td)) (op_inS (dict_up hD (Le.trans le F.keep)) hs rfl) (by walk_at "zl") (by walk_at "zl")) (fun e => nomatch e)) fun v new hv => hv) fun h5 tk5 F N => ?_
        exact wp_nil ⟨h5, tk5, _, [], rfl, F, N, ⟨rfl, by walk_at "lk", by walk_at "lk"⟩, fun _ hp => nomatch hp⟩
      · have : i = 1 := by omega
        subst this
        simp at hv
        subst hv
        refine st_assert F N (EX.mono (et_or (b1 := true) (b2 := false) (et_cmp (P1 := IsS (Str.ofString "second")) (P2 := (· = .ref td)) (op_inS (dict_up hD (Le.trans le F.keep)) hs rfl) (by walk_at "zl") (by walk_at "zl")) (fun e => nomatch e)) fun v new hv => hv) fun h5 tk5 F N => ?_
        exact wp_nil ⟨h5, tk5, _, [], rfl, F, N, ⟨rfl, by walk_at "lk", by walk_at "lk"⟩, fun _ hp => nomatch hp⟩
    · rintro h4 tk4 l news ⟨rfl, i1, i2⟩ F N
      refine wp_nil (thenQ_next ?_)
      refine st_ret F N (V := Im (· = .ref 730)) (by walk_at "zl") ?_
      rintro v new h5 tk5 ⟨rfl, rfl⟩ F N
      have T5 := T1.up F.keep
      exact fin 5 [] F N (fun q hq => nomatch hq) fun h2 le2 _ => ⟨730, _, rfl, hT (T.up le2), .cons isS (.cons isS .nil)⟩
  | 6, hr =>
    subst hr
    have hT : ∀ {h3 : Heap}, TX w h3 → h3.IsTuple 731 ([.str (Str.ofString "#pop") 1479, .str (Str.ofString "first") 1480] : List Value).toArray := fun T3 => ⟨{ cls := .type "tuple", data := .seq #[.str (Str.ofString "#pop") 1479, .str (Str.ofString "first") 1480] }, T3.X _ _ (by kernel_rfl), rfl, _, rfl⟩
    refine st_if (b := false) F N (et_isi (P := (· = .ref 731)) (T := "str") (T1.up F.keep) (by walk_at "zl") (fun v hv => by subst hv; exact cl_isi_tup (hT (T1.up F.keep)) (by decide) PySem.F.isi_meta_str (by rw [isSubtype_type]; kernel_rfl)) (by kernel_rfl) rfl rfl rfl
      (ex_builtin (T1.up F.keep) (by k_is) (by kernel_rfl) (by decide) rfl (by kernel_rfl) (by kernel_rfl) (by kernel_rfl) (by kernel_rfl) (by kernel_rfl))) (fun e => nomatch e) (fun _ h3 tk3 F N => ?_)
    refine st_if (b := false) F N (et_isc (C := 370) (P := (· = .ref 731)) (T1.up F.keep) (by walk_at "zl") (fun v hv => by subst hv; exact cl_isn_tup (C := 370) (T1.up F.keep).X (by k_not) (hT (T1.up F.keep))) (by kernel_rfl) rfl rfl rfl (ex_global (T1.up F.keep) (by k_is) rfl (by kernel_rfl) (by kernel_rfl) (by kernel_rfl) (by kernel_rfl))) (fun e => nomatch e) (fun _ h3 tk3 F N => ?_)
    refine st_if (b := true) F N (et_isi (P := (· = .ref 731)) (T := "tuple") (T1.up F.keep) (by walk_at "zl") (fun v hv => cl_isi_true (fun s le' => by subst hv; obtain ⟨o, ho, hc, _⟩ := hT ((T1.up F.keep).up le'); exact ⟨o, ho, hc⟩) PySem.F.isi_meta_tuple PySem.F.isi_self_tuple) (by kernel_rfl) rfl rfl rfl
      (ex_builtin (T1.up F.keep) (by k_is) (by kernel_rfl) (by decide) rfl (by kernel_rfl) (by kernel_rfl) (by kernel_rfl) (by kernel_rfl) (by kernel_rfl))) (fun _ h3 tk3 F N => ?_) fun e => nomatch e
    refine st_for_tuple (ax := 731) (items := [.str (Str.ofString "#pop") 1479, .str (Str.ofString "first") 1480]) (fun i l' news' => news' = [] ∧ frm l' (Str.ofString "new_state") = some (.ref 731) ∧ frm l' (Str.ofString "unprocessed") = some (.ref td)) hh F N (by walk_at "zl") ⟨rfl, by walk_at "lk", by walk_at "lk"⟩ (fun i h l news _ F _ => hT (T1.up F.keep)) ?_ ?_ ⟨rfl, rfl⟩ (by kernel_rfl)
    · intro i v I o h4 tk4 l news hi hv hI F N hne hoc
      obtain ⟨rfl, i1, i2⟩ := hI
      have hi2 : i < 2 := hi
      rcases Nat.lt_or_ge i 1 with q1 | q1
      · have : i = 0 := by omega
        subst this
        simp at hv
        subst hv
        refine st_assert F N (EX.mono (et_or (b1 := false) (b2 := true) (et_cmp (P1 := IsS (Str.ofString "#pop")) (P2 := (· = .ref td)) (op_inS (dict_up hD (Le.trans le F.keep)) hs rfl) (by walk_at "zl") (by walk_at "zl"))
          (fun _ => EX.mono (et_or (b1 := true) (b2 := false) (et_cmpN (V1 := Im (IsS (Str.ofString "#pop"))) (V2 := fun v new => ∃ a t1 t2, v = .ref a ∧ new = [(a, tupO [.str (Str.ofString "#pop") t1, .str (Str.ofString "#push") t2])]) (by walk_at "zl") (EX.mono (ex_tuple (exs_cons (P := IsS (Str.ofString "#pop")) ex_str (exs_cons (P := IsS (Str.ofString "#push")) ex_str exs_nil)) (fun vs n hv => by
              obtain ⟨-, v1, r1, rfl, -, v2, r2, rfl, -, rfl⟩ := hv
              exact Nat.le_of_ble_eq_true rfl)) fun v new hv => by
              obtain ⟨a, vs, n, rfl, rfl, rfl, v1, r1, rfl, ⟨t1, rfl⟩, v2, r2, rfl, ⟨t2, rfl⟩, rfl⟩ := hv
              exact ⟨a, t1, t2, rfl, rfl⟩) (fun x n1 y n2 h3 le3 hn1 hn2 hx hy => by
              obtain ⟨a, t1, t2, rfl, rfl⟩ := hy
              exact op_inTupS (ys := [Str.ofString "#pop", Str.ofString "#push"]) ⟨_, hn2 _ (.head _), rfl, _, rfl⟩ (.cons _ _ (.cons _ _ .nil)) (by decide) _ _ hx.2 rfl)) (fun e => nomatch e)) fun v new hv => hv)) fun v new hv => hv) fun h5 tk5 F N => ?_
        exact wp_nil ⟨h5, tk5, _, [], rfl, F, N, ⟨rfl, by walk_at "lk", by walk_at "lk"⟩, fun _ hp => nomatch hp⟩
      · have : i = 1 := by omega
        subst this
        simp at hv
        subst hv
        refine st_assert F N (EX.mono (et_or (b1 := true) (b2 := false) (et_cmp (P1 := IsS (Str.ofString "first")) (P2 := (· = .ref td)) (op_inS (dict_up hD (Le.trans le F.keep)) hs rfl) (by walk_at "zl") (by walk_at "zl")) (fun e => nomatch e)) fun v new hv => hv) fun h5 tk5 F N => ?_
        exact wp_nil ⟨h5, tk5, _, [], rfl, F, N, ⟨rfl, by walk_at "lk", by walk_at "lk"⟩, fun _ hp => nomatch hp⟩
    · rintro h4 tk4 l news ⟨rfl, i1, i2⟩ F N
      refine wp_nil (thenQ_next ?_)
      refine st_ret F N (V := Im (· = .ref 731)) (by walk_at "zl") ?_
      rintro v new h5 tk5 ⟨rfl, rfl⟩ F N
      have T5 := T1.up F.keep
      exact fin 6 [] F N (fun q hq => nomatch hq) fun h2 le2 _ => ⟨731, _, rfl, hT (T.up le2), .cons isS (.cons isS .nil)⟩
  | 0, hr => exact hr.elim
  | n + 8, hr => exact hr.elim
end
end Mine
end
section
set_option maxRecDepth 100000
set_option linter.unusedVariables false
open PySem PySem.W PyProof.Rows PySem.Calls PySem.Spec
namespace Mine
section
variable {prog : Program} {w : World} {A : Around} {h : Heap} {env : Env} {K : Frag} {h₀ : Heap} {L : Addr} {m : Str → Option Value} {l : List (Str × Value)} {news : List (Addr × Obj)} {g : Array GenState} {d : Drawn} {tk : Nat} {os : OsState} {E : Value → Shared → Prop} {Q : Flow → Shared → Prop}
theorem sizeNone {h : Heap} : h.get? h.objs.size = none := by
  cases e : h.get? h.objs.size with
  | none => rfl
  | some o => exact absurd (Heap.lt_size e) (Nat.lt_irrefl _)
/-- x.meth, not called -/
theorem ex_boundM {x C f : Addr} {ox : Obj} {es : List DictEntry} {n : Nat} {name : Str} {ee : Bool} (X : K.In h) (I : W.InstAt h x ox C (some (dictOf es n))) (hg : plainGet K C name = true) (hh : hasDictIn K C = true) (ha : findIn K (.ref C) name = some (some (.ref f))) (hf : isFn K (.ref f) = true)
    (hgf : specialIn K (.ref f) "__get__" = some (some (.builtin "function.__get__"))) (ht : takesIn K (.ref f) = some false) (hc : copiedNames.contains name = false) (hl : getL name es = some none) :
    EX prog w A (getAttr (.ref x) name ee) h (fun v new => ∃ q, v = .ref q ∧ new = [(q, methodObj (.ref f) (.ref x))]) := ⟨fun h1 g d tk os Q E le H => by
  have X' := X.keeps le
  have I' := inst_up I le
  refine get_bind (s := ⟨h1, g, d, tk, os⟩) X' I' (plainGet_of hg).1 (findObj_fn hh ha hgf ht hc (by show lookIn name (dictOf es n) = _; rw [lookIn_dict, hl])) (plainGet_of hg).2
    (wpAny_call (fn_get (s := ⟨h1, g, d, tk + 1, os⟩) X' (beq_iff_eq.mp hf) (handed_on rfl ?_)))
  refine H _ [(h1.objs.size, methodObj (.ref f) (.ref x))] _ _ (fun b o e => Heap.get?_push_of_some _ e) (fun p hp => ?_) ⟨_, rfl, rfl⟩
  rw [List.mem_singleton.mp hp]
  exact ⟨Heap.get?_push_size _ rfl, sizeNone⟩⟩
/-- x.name, found on the class -/
theorem ex_clsA {x C : Addr} {ox : Obj} {es : List DictEntry} {n : Nat} {name : Str} {ee : Bool} {a : Value} {P : Value → Prop} (F : Fr h₀ L h m) (X₀ : K.In h₀) (I : W.InstAt h x ox C (some (dictOf es n))) (hg : plainGet K C name = true) (hh : hasDictIn K C = true)
    (ha : findIn K (.ref C) name = some (some a)) (hn : specialIn K a "__get__" = some none) (hv : handedIn a = true) (hc : copiedNames.contains name = false) (hl : getL name es = some none) (hP : P a) : EX prog w A (getAttr (.ref x) name ee) h (Im P) := ⟨fun h1 g d tk os Q E le H =>
  get_cls (s := ⟨h1, g, d, tk, os⟩) (fr_up F le) X₀ (inst_up I le) hg hh ha hn hv hc hl (H _ [] _ _ Le.refl Fresh.nil ⟨rfl, hP⟩)⟩
theorem ex_attrN {y name : Str} {p1 p2 : Pos} {x : Addr} {V : Value → List (Addr × Obj) → Prop} (he : EX prog w A (eval (.Name y p1) env) h (Im (· = .ref x))) (hx : EX prog w A (getAttr (.ref x) name true) h V) : EX prog w A (eval (.Attribute (.Name y p1) name p2) env) h V :=
  ex_seq (op := fun o => getAttr o name true) he (fun a ha => by subst ha; exact hx) fun _ _ _ q => by with_reducible exact Attribute_Name_ q
/-- {} -/
theorem ex_dict0 {pos : Pos} : EX prog w A (eval (.Dict [] [] pos) env) h (fun v new => ∃ D od, v = .ref D ∧ new = [(D, od)] ∧ od.IsDictOf (strKind prog w) [] ∧ od = { cls := .type "dict", data := .dict #[] }) := ⟨fun h1 g d tk os Q E le H => by
  refine wpAny_Dict_empty ?_
  refine H _ [(h1.objs.size, { cls := .type "dict", data := .dict #[] })] _ _ (fun b o e => Heap.get?_push_of_some _ e) (fun p hp => ?_) ⟨_, _, rfl, rfl, ?_, rfl⟩
  · rw [List.mem_singleton.mp hp]
    exact ⟨Heap.get?_push_size _ rfl, sizeNone⟩
  · obtain ⟨o, ho, hi⟩ := Heap.dictOf_iff.mp (Heap.DictOf.new (knd := strKind prog w) h1)
    rw [Heap.get?_push_size _ rfl] at ho
    rw [Option.some.inj ho]; exact hi⟩
/-- d.get(e), d.get(e, e') -/
theorem gm_dget {D : Addr} {kvs : List (Str × Value)} {pl : Sem Bool} (hd : h.DictOf (strKind prog w) D kvs) : EX prog w A (getMethod (.ref D) (Str.ofString "get") pl) h (Im (· = (.builtin "dict.get", [.ref D]))) := ⟨fun h1 g d tk os Q E le H => by
  have hd' := dict_up hd le
  exact getMethod_builtin (s := ⟨h1, g, d, tk, os⟩) hd'.typeIs PySem.F.plainAttrs_dict PySem.F.slot_dict_get PySem.F.type_dict_get hd'.mapOf.noDict (H _ [] _ _ Le.refl Fresh.nil ⟨rfl, rfl⟩)⟩
theorem ex_dget1 {o e : Expr} {ap pos : Pos} {D : Addr} {kvs : List (Str × Value)} {k : Str} {P : Value → Prop} (ho : EX prog w A (eval o env) h (Im (· = .ref D))) (hd : h.DictOf (strKind prog w) D kvs) (hs : (D == sysModules) = false) (he : EX prog w A (eval e env) h (Im (IsS k))) (hP : P ((valueAt kvs k).getD .none))
    (hse : backTo pos (starEach [e] env) = [(false, eval e env)] := by rfl) (hr : MCall o (Str.ofString "get") ap pos [e] env := by kernel_rfl) :
    EX prog w A (eval (.Call (.Attribute o (Str.ofString "get") ap) [e] [] pos) env) h (Im P) :=
  ex_meth (P1 := (· = .ref D)) (fv := .builtin "dict.get") (first := fun _ => [.ref D]) ho (fun a ha => by subst ha; exact gm_dget hd) (fun a ha => ⟨fun h1 g d tk os Q E le H => by
    rw [hse]
    refine wpAny_dict_get1 (knd := strKind prog w) hs (he.run h1 g d tk os _ E le fun v n h2 tk2 l2 f2 hv => ?_)
    obtain ⟨t, rfl⟩ := hv.2
    have hd2 := dict_up hd (le.trans l2)
    exact ⟨k, _, strKind_is prog w k t, hd2.mapOf, H _ [] _ _ l2 Fresh.nil ⟨rfl, hP⟩⟩⟩) hr
theorem ex_dget2 {o e e2 : Expr} {ap pos : Pos} {D : Addr} {kvs : List (Str × Value)} {k : Str} {V2 : Value → List (Addr × Obj) → Prop} (ho : EX prog w A (eval o env) h (Im (· = .ref D))) (hd : h.DictOf (strKind prog w) D kvs) (hs : (D == sysModules) = false) (he : EX prog w A (eval e env) h (Im (IsS k))) (he2 : EX prog w A (eval e2 env) h V2) (hv : valueAt kvs k = none)
    (hse : backTo pos (starEach [e, e2] env) = [(false, eval e env), (false, eval e2 env)] := by rfl) (hr : MCall o (Str.ofString "get") ap pos [e, e2] env := by kernel_rfl) :
    EX prog w A (eval (.Call (.Attribute o (Str.ofString "get") ap) [e, e2] [] pos) env) h V2 := ⟨fun h1 g d tk os Q E le H => by
    with_reducible refine MethodCall_ (pl := plOf o env) (ho.run h1 g d tk os _ E le fun a n h2 tk2 l2 f2 hv2 => ?_) hr
    rw [hv2.2]
    refine (gm_dget hd).run h2 g d tk2 os _ E (le.trans l2) fun fx n3 h3 tk3 l3 f3 hv3 => ?_
    rw [hv3.2, hse]
    refine wpAny_dict_get2 (knd := strKind prog w) hs (he.run h3 g d tk3 os _ E ((le.trans l2).trans l3) fun v n h4 tk4 l4 f4 hv4 => he2.run h4 g d tk4 os _ E (((le.trans l2).trans l3).trans l4) fun v5 n5 h5 tk5 l5 f5 hv5 => ?_)
    obtain ⟨t, rfl⟩ := hv4.2
    have lz := ((l2.trans l3).trans l4).trans l5
    have hd2 := dict_up hd (le.trans lz)
    refine ⟨k, _, strKind_is prog w k t, hd2.mapOf, ?_⟩
    have hf : ((fun x => valueAt kvs x) k).getD v5 = v5 := by show (valueAt kvs k).getD v5 = v5; rw [hv]; rfl
    rw [hf]
    exact H v5 n5 h5 _ lz (fun p hp => ⟨(f5 p hp).1, ((l2.trans l3).trans l4).none (f5 p hp).2⟩) hv5⟩
/-- d[k] = v, d in the ledger -/
theorem dput {D : Addr} {od : Obj} {kvs : List (Str × Value)} {k : Str} {t : Tok} {v : Value} {news' : Obj → List (Addr × Obj)} {QU : Unit → Shared → Prop} (F : Fr h₀ L h m) (N : News h₀ L h news) (hm : (D, od) ∈ news) (hod : od.IsDictOf (strKind prog w) kvs) (hns : valueAt kvs k = none) (hz : kvs.length ≤ 1000)
    (U : ∀ od', Upd D od od' news (news' od')) (H : ∀ od' h' tk', od'.IsDictOf (strKind prog w) (kvs ++ [(k, v)]) → Fr h₀ L h' m → News h₀ L h' (news' od') → (∀ b o, b ≠ D → h.get? b = some o → h'.get? b = some o) → QU () ⟨h', g, d, tk', os⟩) :
    wpAny (model prog w) A (setItem (.ref D) (.str k t) v) QU E ⟨h, g, d, tk, os⟩ := by
  have Dd : h.DictOf (strKind prog w) D kvs := Heap.dictOf_iff.mpr ⟨od, (N _ hm).1, hod⟩
  refine wpAny_setItem_pairs (s := ⟨h, g, d, tk, os⟩) (strKind_is prog w k t) Dd (fun h' hd' hs' => ?_) (Nat.le_trans hz (by decide))
  rw [stored_absent hns] at hd'
  obtain ⟨od', ho', hi'⟩ := Heap.dictOf_iff.mp hd'
  have kk : ∀ b o, b ≠ D → h.get? b = some o → h'.get? b = some o := fun b o hb e => (hs'.2 b hb).trans e
  exact H od' h' _ hi' (fr_mu F N hm kk) (nw_mu N (U od') kk ho') kk
theorem as_sub {o i : Expr} {pos : Pos} {v : Value} {D : Addr} {k : Str} {QU : Unit → Shared → Prop} (ho : EX prog w A (eval o env) h (Im (· = .ref D))) (hi : EX prog w A (eval i env) h (Im (IsS k)))
    (H : ∀ t h2 tk2, Le h h2 → wpAny (model prog w) A (setItem (.ref D) (.str k t) v) QU E ⟨h2, g, d, tk2, os⟩) : wpAny (model prog w) A (assign (.Subscript o i pos) env v) QU E ⟨h, g, d, tk, os⟩ := by
  rw [assign_Subscript]
  refine wpAny_bind (wpAny_holding (ho.run h g d tk os _ E Le.refl fun ov n2 h2 tk2 l2 f2 hov => ?_))
  refine wpAny_bind (wpAny_holding (hi.run h2 g d tk2 os _ E l2 fun iv n3 h3 tk3 l3 f3 hiv => ?_))
  rw [hov.2]
  obtain ⟨t, rfl⟩ := hiv.2
  refine wpAny_bind (wpAny_standAt (wpAny_bind (wpAny_holding ?_)))
  exact wpAny_mono (H t h3 tk3 (l2.trans l3)) (fun _ s' hq => wpAny_release hq) fun _ _ e => e
theorem up_swap {D : Addr} {od od' : Obj} {new news news' : List (Addr × Obj)} (U : Upd D od od' news news') (hn : ∀ p ∈ new, p.1 ≠ D) : Upd D od od' (new ++ news) (new ++ news') := by
  induction new with
  | nil => exact U
  | cons p r ih => exact .tail (hn p (.head _)) (ih fun q hq => hn q (.tail _ hq))
theorem st_setitem {o i value : Expr} {sp pos : Pos} {rest : List Stmt} {V : Value → List (Addr × Obj) → Prop} {D : Addr} {od : Obj} {kvs : List (Str × Value)} {k : Str} {news' : Obj → List (Addr × Obj)} (F : Fr h₀ L h m) (N : News h₀ L h news) (hm : (D, od) ∈ news) (hod : od.IsDictOf (strKind prog w) kvs) (hns : valueAt kvs k = none) (hz : kvs.length ≤ 1000)
    (he : EX prog w A (eval value env) h V) (ho : EX prog w A (eval o env) h (Im (· = .ref D))) (hi : EX prog w A (eval i env) h (Im (IsS k))) (U : ∀ od', Upd D od od' news (news' od'))
    (H : ∀ v new od' h' tk', V v new → od'.IsDictOf (strKind prog w) (kvs ++ [(k, v)]) → Fr h₀ L h' m → News h₀ L h' (new ++ news' od') → (∀ p ∈ new, ∀ q ∈ news, p.1 ≠ q.1) → WP prog w A (execs rest env) Q ⟨h', g, d, tk', os⟩)
    (hsw : swapsWith value (some (.Subscript o i sp)) pos.line env = pure false) : WP prog w A (execs (.Assign [.Subscript o i sp] value pos :: rest) env) Q ⟨h, g, d, tk, os⟩ := by
  refine wp_cons ⟨?_⟩
  rw [exec_Assign_Subscript _ _ _ _ _ hsw]
  refine wpAny_bind (wpAny_standAt (wpAny_bind (he.at fun v new h2 tk2 l2 f2 hv => ?_)))
  have F2 := fr_up F l2
  have N2 := nw_add F N l2 f2
  have dj : ∀ p ∈ new, ∀ q ∈ news, p.1 ≠ q.1 := fun p hp q hq e => by
    have := (f2 p hp).2
    rw [e, (N q hq).1] at this; cases this
  refine wpAny_bind (as_sub (ho.up l2) (hi.up l2) fun t h3 tk3 l3 => ?_)
  refine dput (fr_up F2 l3) (nw_up N2 l3) (List.mem_append_right _ hm) hod hns hz (fun od' => up_swap (U od') fun p hp => dj p hp _ hm) fun od' h' tk' hod' F' N' _ => ?_
  exact wpAny_pure (H v new od' h' tk' hv hod' F' N' dj).run
/-- x = d[k] = e -/
theorem st_chain {x : Str} {p : Pos} {o i value : Expr} {sp pos : Pos} {rest : List Stmt} {V : Value → List (Addr × Obj) → Prop} {D : Addr} {od : Obj} {kvs : List (Str × Value)} {k : Str} {news' : Obj → List (Addr × Obj)} (F : Fr h₀ L h (frm l)) (N : News h₀ L h news) (hm : (D, od) ∈ news) (hod : od.IsDictOf (strKind prog w) kvs) (hns : valueAt kvs k = none) (hz : kvs.length ≤ 1000)
    (he : EX prog w A (eval value env) h V) (ho : ∀ v h', Fr h₀ L h' (frm ((x, v) :: l)) → News h₀ L h' news → EX prog w A (eval o env) h' (Im (· = .ref D))) (hi : ∀ v h', Fr h₀ L h' (frm ((x, v) :: l)) → News h₀ L h' news → EX prog w A (eval i env) h' (Im (IsS k))) (U : ∀ od', Upd D od od' news (news' od'))
    (H : ∀ v new od' h' tk', V v new → od'.IsDictOf (strKind prog w) (kvs ++ [(k, v)]) → Fr h₀ L h' (frm ((x, v) :: l)) → News h₀ L h' (new ++ news' od') → (∀ p ∈ new, ∀ q ∈ news, p.1 ≠ q.1) → WP prog w A (execs rest env) Q ⟨h', g, d, tk', os⟩)
    (hL : LocalEnv env L) (hl : env.kindOf x = some .local) (hea : (assignEach [.Name x p, .Subscript o i sp] env).map (·.2) = [assign (.Name x p) env, assign (.Subscript o i sp) env] := by rfl) (hw : swappedStores [.Name x p, .Subscript o i sp] value env = pure none := by kernel_rfl) :
    WP prog w A (execs (.Assign [.Name x p, .Subscript o i sp] value pos :: rest) env) Q ⟨h, g, d, tk, os⟩ := by
  refine wp_cons ⟨?_⟩
  refine wpAny_Assign_two (he.at fun v new h2 tk2 l2 f2 hv => ?_) hea hw
  have F2 := fr_up F l2
  have N2 := nw_add F N l2 f2
  have dj : ∀ p ∈ new, ∀ q ∈ news, p.1 ≠ q.1 := fun p hp q hq e => by
    have := (f2 p hp).2
    rw [e, (N q hq).1] at this; cases this
  refine wpAny_assign_Name (st_store F2 N2 (fun h3 tk3 F3 N3 _ => ?_) hL hl)
  have N3' : News h₀ L h3 news := fun q hq => N3 q (List.mem_append_right _ hq)
  refine as_sub (ho v h3 F3 N3') (hi v h3 F3 N3') fun t h4 tk4 l4 => ?_
  refine dput (fr_up F3 l4) (nw_up N3 l4) (List.mem_append_right _ hm) hod hns hz (fun od' => up_swap (U od') fun p hp => dj p hp _ hm) fun od' h' tk' hod' F' N' _ => ?_
  exact (H v new od' h' tk' hv hod' F' N' dj).run
end
end Mine
end
section
set_option maxRecDepth 100000
set_option linter.unusedVariables false
open PySem PySem.W PyProof.Rows PySem.Calls PySem.Spec
namespace Mine
local macro_rules | `(tactic| walk_at "lk") => `(tactic| repeat (first | with_reducible exact frm_head | with_reducible assumption | with_reducible refine frm_tail (by kernel_rfl) ?_))
local macro_rules | `(tactic| walk_at "zl") => `(tactic| (refine ex_local (Fr.ns (by assumption)) (by walk_at "lk") ?_ (by kernel_rfl) (by kernel_rfl) (by kernel_rfl); first | exact isI | exact isS | exact isB | rfl))
section
variable {prog : Program} {w : World} {A : Around} {h : Heap} {env : Env} {P : Value → Prop}
theorem op_nes {x y : Str} (u v : Value) (hx : IsS x u) (hy : IsS y v) : EX prog w A (compareOp .NotEq u v) h (Im (IsB (x != y))) := by
  obtain ⟨t, rfl⟩ := hx; obtain ⟨t', rfl⟩ := hy
  exact ⟨fun h' g d tk os Q E le H => ne_str (s := ⟨h', g, d, tk, os⟩) (H _ [] _ _ Le.refl Fresh.nil ⟨rfl, isB⟩)⟩
theorem cl_lenT {a : Addr} {its : Array Value} (hl : h.IsTuple a its) (hx : its.size < 2 ^ 63) : EX prog w A (call (.builtin "len") [.ref a]) h (Im (IsI its.size)) := ⟨fun h1 g d tk os Q E le H => by
  obtain ⟨o, ho, hc, n, hd⟩ := tuple_up hl le
  have ht : IsTup h1 a its := ⟨o, ho, hc, n, hd⟩
  exact PyProof.Rows.len_tuple (s := ⟨h1, g, d, tk, os⟩) ht (by omega) (H _ [] _ _ Le.refl Fresh.nil ⟨rfl, isI⟩)⟩
theorem op_eqi {a b : Int} (x y : Value) (hx : IsI a x) (hy : IsI b y) : EX prog w A (compareOp .Eq x y) h (Im (IsB (decide (a = b)))) := by
  obtain ⟨t, rfl⟩ := hx; obtain ⟨u, rfl⟩ := hy
  exact ⟨fun h' g d tk os Q E le H => eq_int (s := ⟨h', g, d, tk, os⟩) (by first | exact H _ [] _ _ Le.refl Fresh.nil ⟨rfl, isB⟩ | (have := H (.bool (decide (a = b))) [] _ tk Le.refl Fresh.nil ⟨rfl, isB⟩; simpa using this))⟩
/-- type(e) of an object -/
theorem ex_typeO {e : Expr} {p1 p2 : Pos} {a : Addr} {o : Obj} {c : Value} (T : TX w h) (he : EX prog w A (eval e env) h (Im (· = .ref a))) (ho : h.get? a = some o) (hc : o.cls = c) (hnb : (o.cls == .type "builtin_function_or_method") = false)
    (hkd : env.kindOf (Str.ofString "type") = some .globalImplicit) (hk : env.scope.kind = .function) (hg : env.globals = mainGlobals) (hb : env.builtins = builtinsNs)
    (hse : starEach [e] env = [(false, eval e env)] := by kernel_rfl)
    (hr : eval (.Call (.Name (Str.ofString "type") p1) [e] [] p2) env = (do callWith p2 (← eval (.Name (Str.ofString "type") p1) env) [] (backTo p2 (starEach [e] env)) (backToKw p2 (keywordEach [] env))) := by kernel_rfl) :
    EX prog w A (eval (.Call (.Name (Str.ofString "type") p1) [e] [] p2) env) h (Im (· = c)) :=
  ex_callK (fv := .type "type") (ex_builtin T (by k_is) (by kernel_rfl) (by decide) rfl hkd hk hg hb (by kernel_rfl)) (drop_new (cw_type (exs_one he hse) (fun vs new h3 le3 hn hv => by
    obtain ⟨v, rfl, -, rfl⟩ := hv
    exact (cl_type (le3 _ _ ho) hnb).mono fun v new hv => hv.2.trans hc) hse rfl)) hr
end
section
variable {prog : Program} {w : World} {A : Around} {h : Heap} {env : Env} {h₀ : Heap} {L : Addr} {l : List (Str × Value)} {news : List (Addr × Obj)} {g : Array GenState} {d : Drawn} {tk : Nat} {os : OsState} {Q : Flow → Shared → Prop}
/-- if test: x = e1 else: x = e2 -/
theorem st_ifAssign {x : Str} {p1 p2 pos1 pos2 pos : Pos} {test e1 e2 : Expr} {rest : List Stmt} {b : Bool} {V : Value → List (Addr × Obj) → Prop} (F : Fr h₀ L h (frm l)) (N : News h₀ L h news) (ht : EX prog w A (PySem.isTrue test env (eval test env)) h (Im (· = b)))
    (h1 : b = true → EX prog w A (eval e1 env) h V) (h2 : b = false → EX prog w A (eval e2 env) h V)
    (H : ∀ v new h' tk', V v new → Fr h₀ L h' (frm ((x, v) :: l)) → News h₀ L h' (new ++ news) → (∀ p ∈ new, ∀ q ∈ news, p.1 ≠ q.1) → WP prog w A (execs rest env) Q ⟨h', g, d, tk', os⟩)
    (hL : LocalEnv env L) (hl : env.kindOf x = some .local) (s1 : swapsWith e1 (some (.Name x p1)) pos1.line env = pure false) (s2 : swapsWith e2 (some (.Name x p2)) pos2.line env = pure false) :
    WP prog w A (execs (.If test [.Assign [.Name x p1] e1 pos1] [.Assign [.Name x p2] e2 pos2] pos :: rest) env) Q ⟨h, g, d, tk, os⟩ := by
  refine wp_cons ⟨?_⟩
  refine wpAny_If (ht.at fun v new h2' tk2 l2 f2 hv => ?_)
  rw [hv.2]
  have F2 := fr_up F l2
  have N2 := nw_up N l2
  cases b with
  | true =>
    rw [if_pos rfl]
    refine (st_assignD (V := V) F2 N2 ((h1 rfl).up l2) (fun v new h' tk' hv F' N' dj => ?_) hL hl s1).run
    exact wp_nil (thenQ_next (H v new h' tk' hv F' N' dj))
  | false =>
    rw [if_neg (by decide)]
    refine (st_assignD (V := V) F2 N2 ((h2 rfl).up l2) (fun v new h' tk' hv F' N' dj => ?_) hL hl s2).run
    exact wp_nil (thenQ_next (H v new h' tk' hv F' N' dj))
end
/-- a rule of the table, not yet made -/
def RawV (w : World) (h : Heap) (r : Rl) (v : Value) : Prop := ∃ a pl tok nt r0 t4 k, v = .ref a ∧ PLN w h pl r.word r0 t4 ∧ TOK w h tok r.names nt ∧ 0 < r.word.length ∧ r.word.length ≤ 3 ∧ r.way = wayOf k ∧
  ((k = 0 ∧ h.IsTuple a #[.ref pl, .ref tok]) ∨ ∃ wv, wayRaw w k wv ∧ h.IsTuple a #[.ref pl, .ref tok, wv])
section
variable {w : World} {A : Around} {h : Heap}
set_option maxHeartbeats 4000000
theorem process_regex {lx pl r0 : Addr} {x : Str} {t4 : Tok} {v1 v2 : Value} (T : TX w h) (hd' : A.depth + 20 < recursionLimit) (p : PLN w h pl x r0 t4) :
    EX PG w A (call (.ref 722) [.ref lx, .ref pl, v1, v2]) h (fun y new => ∃ q, y = .ref q ∧ new = [(q, methodObj (.ref 701) (.ref pl))]) := by
  refine ex_def T.X T.lim (by k_is) (by k_is) (by omega) (fun s X => BindsTo.of_eq rfl) (locs rfl) ?_ (by decide) rfl rfl rfl
  intro h1 L' hh' g d tk os le F
  change Fr _ _ _ (frm [(Str.ofString "state", _), (Str.ofString "rflags", _), (Str.ofString "regex", _), (Str.ofString "cls", _)]) at F
  obtain ⟨dp, rl, t0, a, b, -⟩ := p.up (le.trans F.keep)
  refine st_ret F News.nil (V := fun y new => ∃ q, y = .ref q ∧ new = [(q, methodObj (.ref 701) (.ref pl))]) (ex_attrN (x := pl) (by walk_at "zl") (ex_boundM ((T.up le).up F.keep).X (inst_mk a b) (by k_is) (by k_is) (by k_is) (by k_is) (by k_is) (by k_is) (by decide +kernel) (by kernel_rfl))) ?_
  rintro v new h3 tk3 ⟨q, rfl, rfl⟩ F N
  exact ret_of (new := [(q, methodObj (.ref 701) (.ref pl))]) F N (fun q hq => hq) ⟨q, rfl, rfl⟩
theorem process_token {lx tok nt : Addr} {names : List Str} (T : TX w h) (hd' : A.depth + 20 < recursionLimit) (p : TOK w h tok names nt) :
    EX PG w A (call (.ref 526) [.ref lx, .ref tok]) h (Im (· = .ref tok)) := by
  refine ex_def T.X T.lim (by k_is) (by k_is) (by omega) (fun s X => BindsTo.of_eq rfl) (locs rfl) ?_ (by decide) rfl rfl rfl
  intro h1 L' hh' g d tk os le F
  change Fr _ _ _ (frm [(Str.ofString "token", _), (Str.ofString "cls", _)]) at F
  obtain ⟨dt, t0, vs, a, b, -⟩ := p.up (le.trans F.keep)
  have T2 := (T.up le).up F.keep
  refine st_assert F News.nil (EX.mono (et_or (b1 := true) (b2 := false) (et_cmp (P1 := (· = .ref 83)) (P2 := (· = .ref 83)) op_isref (ex_typeO (c := .ref 83) T2 (by walk_at "zl") a rfl (by rfl) (by kernel_rfl) rfl rfl rfl) (ex_global T2 (by k_is) rfl (by kernel_rfl) (by kernel_rfl) (by kernel_rfl) (by kernel_rfl))) (fun e => nomatch e)) fun v new hv => hv) fun h3 tk3 F N => ?_
  refine st_ret F N (V := Im (· = .ref tok)) (by walk_at "zl") ?_
  rintro v new h3 tk3 ⟨rfl, rfl⟩ F N
  exact ret_of (new := []) F N (fun q hq => nomatch hq) ⟨rfl, rfl⟩
theorem process_state {hR : Heap} {lx dl td PD : Addr} {es : List DictEntry} {n : Nat} {la : Sta → Addr} {vals : List Value} {T : Tab} {s : Sta} {t : Tok} {od : Obj} {kvs : List (Str × Value)} (TR : TX w hR) (hle : Le hR h) (hlow : hR.get? PD = none) (hPD : h.get? PD = some od) (hod : od.IsDictOf (strKind PG w) kvs) (hns : valueAt kvs s.str = none) (hkz : kvs.length ≤ 10)
    (i1 : h.get? lx = some (instObj 725 dl)) (i2 : h.get? dl = some (dictOf es n)) (ne1 : lx ≠ PD) (ne2 : dl ≠ PD) (g1 : getL (Str.ofString "flags") es = some none) (g2 : getL (Str.ofString "_process_regex") es = some none) (g3 : getL (Str.ofString "_process_token") es = some none) (g4 : getL (Str.ofString "_process_new_state") es = some none)
    (hD : hR.DictOf (strKind PG w) td (tabK la)) (hl : hR.IsList (la s) vals.toArray) (hv : Paired (RawV w hR) (T s) vals) (few : vals.length ≤ 900) (hsys : (td == sysModules) = false) (hsys2 : (PD == sysModules) = false) (hh : A.handled = none) (hd' : A.depth + 60 < recursionLimit) :
    MZ PG w A (call (.ref 540) [.ref lx, .ref td, .ref PD, .str s.str t]) h [PD] (fun v new => ∃ TL items n od' objs, v = .ref TL ∧ new = (PD, od') :: (TL, lobj items n) :: objs ∧ od'.IsDictOf (strKind PG w) (kvs ++ [(s.str, .ref TL)]) ∧ (TL ≠ PD ∧ ∀ p ∈ objs, p.1 ≠ PD) ∧
      ∀ h2, Le hR h2 → (∀ p ∈ objs, h2.get? p.1 = some p.2) → Paired (RlV w h2) (T s) items) := by
  refine mz_def (hid := [(PD, od)]) (hT := hR) TR.X TR.lim hle (fun p hp => by rw [List.mem_singleton.mp hp]; exact hlow) (fun p hp => by rw [List.mem_singleton.mp hp]; exact hPD) (by k_is) (by k_is) (by omega) (bind_none rfl) (fun binds new hb => by obtain ⟨rfl, rfl⟩ := hb; exact locs rfl) ?_ (by decide) rfl rfl rfl
  rintro gB L' hh' g d tk os binds new leT keep ⟨rfl, rfl⟩ - F N
  change Fr _ _ _ (frm [(Str.ofString "state", .str s.str t), (Str.ofString "processed", .ref PD), (Str.ofString "unprocessed", .ref td), (Str.ofString "cls", .ref lx)]) at F
  have TB := TR.up leT
  have j1 := keep lx _ (by simpa using ne1) i1
  have j2 := keep dl _ (by simpa using ne2) i2
  have S1 : s.str.length < 2 ^ 63 := by cases s <;> decide +kernel
  refine st_assert F N (et_isi (P := IsS s.str) (T := "str") (TB.up F.keep) (by walk_at "zl") (fun v hv => cl_isi_true (fun s _ => by obtain ⟨t, rfl⟩ := hv; exact typeIs_str _ _ _) PySem.F.isi_meta_str PySem.F.isi_self_str) (by kernel_rfl) rfl rfl rfl
      (ex_builtin (TB.up F.keep) (by k_is) (by kernel_rfl) (by decide) rfl (by kernel_rfl) (by kernel_rfl) (by kernel_rfl) (by kernel_rfl) (by kernel_rfl))) fun h2 tk2 F N => ?_
  have c0 : ∃ c, s.str.cps[((0 : Int)).toNat]? = some c ∧ ((⟨#[c]⟩ : Str) != Str.ofString "#") = true := by
    cases s
    · exact ⟨114, by decide +kernel, by decide +kernel⟩
    · exact ⟨102, by decide +kernel, by decide +kernel⟩
    · exact ⟨115, by decide +kernel, by decide +kernel⟩
  obtain ⟨c, hc, hne⟩ := c0
  refine st_assert F N (EX.mono (et_cmp (b := ((⟨#[c]⟩ : Str) != Str.ofString "#")) (P1 := IsS ⟨#[c]⟩) (P2 := IsS (Str.ofString "#")) op_nes (ex_sub (P1 := (· = .str s.str t)) (P2 := IsI 0) (by walk_at "zl") ex_int (fun u v hu hv => by
      subst hu
      obtain ⟨u', rfl⟩ := hv
      exact tl_str (by decide) (by decide) hc (by with_unfolding_all rfl))) ex_str) fun v new hv => ⟨hv.1, hv.2.trans hne⟩) fun h3 tk3 F N => ?_
  refine st_if (b := false) F N (et_cmp (P1 := IsS s.str) (P2 := (· = .ref PD)) (op_inS (Heap.dictOf_iff.mpr ⟨od, (N _ (.head _)).1, hod⟩) hsys2 (by rw [hns]; rfl)) (by walk_at "zl") (by walk_at "zl")) (fun e => nomatch e) (fun _ h4 tk4 F N => ?_)
  refine wp_nil (thenQ_next ?_)
  refine st_chain (V := fun v new => ∃ TL, v = .ref TL ∧ new = [(TL, lobj [] 0)]) (news' := fun o => [(PD, o)]) F N (.head _) hod hns (by omega) (EX.mono (ex_list exs_nil (fun vs n hv => by rw [hv.2]; exact Nat.le_of_ble_eq_true rfl)) fun v new hv => ?_) (fun v h' F N => by walk_at "zl") (fun v h' F N => by walk_at "zl") (fun od' => .head (fun _ hp => nomatch hp)) ?_ ⟨rfl, rfl⟩ (by kernel_rfl)
  · obtain ⟨a, vs, n, rfl, rfl, rfl, rfl⟩ := hv
    exact ⟨a, rfl, rfl⟩
  rintro v new od' h5 tk5 ⟨TL, rfl, rfl⟩ hod' F N dj
  have neT : TL ≠ PD := dj _ (.head _) _ (.head _)
  refine st_assignI (P := IsI 8) F N (ex_attrN (x := lx) (by walk_at "zl") (ex_clsA F TB.X (inst_mk (F.keep _ _ j1) (F.keep _ _ j2)) (by k_is) (by k_is) (by k_is) (by k_is) (by rfl) (by decide +kernel) g1 isI)) ?_ ⟨rfl, rfl⟩ (by kernel_rfl) (by kernel_rfl)
  rintro v h6 tk6 ⟨t8, rfl⟩ F N
  have N6 : News gB L' h6 ((PD, od') :: (TL, lobj [] 0) :: []) := fun q hq => N q (by
    simp only [List.cons_append, List.nil_append, List.mem_cons, List.not_mem_nil, or_false] at hq ⊢
    exact hq.symm)
  refine st_for_list (ax := la s) (items := vals) (fun i l news => ∃ its n objs, news = (PD, od') :: (TL, lobj its n) :: objs ∧ its.length = i ∧ (∀ p ∈ objs, p.1 ≠ PD ∧ p.1 ≠ TL) ∧ (∀ h2, Le hR h2 → (∀ p ∈ objs, h2.get? p.1 = some p.2) → Paired (RlV w h2) ((T s).take i) its) ∧
      frm l (Str.ofString "tokens") = some (.ref TL) ∧ frm l (Str.ofString "rflags") = some (.int 8 t8) ∧ frm l (Str.ofString "state") = some (.str s.str t) ∧ frm l (Str.ofString "processed") = some (.ref PD) ∧ frm l (Str.ofString "unprocessed") = some (.ref td) ∧ frm l (Str.ofString "cls") = some (.ref lx)) hh F N6
    (ex_sub (P1 := (· = .ref td)) (P2 := (· = .str s.str t)) (by walk_at "zl") (by walk_at "zl") (fun x y hx hy => by
      subst hx hy
      exact tl_dict (strKind_is PG w s.str t) (dict_up hD (leT.trans F.keep)) (tab_at la s) rfl (by with_unfolding_all rfl)))
    ⟨[], 0, [], rfl, rfl, (fun _ hp => nomatch hp), (fun _ _ _ => .nil), by walk_at "lk", by walk_at "lk", by walk_at "lk", by walk_at "lk", by walk_at "lk", by walk_at "lk"⟩ (fun i h l news _ F _ => list_up hl (leT.trans F.keep)) ?_ ?_ ⟨rfl, rfl⟩ (by kernel_rfl)
  · rintro i v I o h7 tk7 l news hi hvi ⟨its, n, objs, rfl, hlen, hne, hsem, n1, n2, n3, n4, n5, n6⟩ F N hnI hoc
    obtain ⟨r, hr, a, pl, tok, nt, r0, t4, k, rfl, hp, htk, hw0, hw3, hway, htup⟩ := paired_at hv hvi
    have T7 := TB.up F.keep
    have leR := leT.trans F.keep
    -- its tuple
    have htup' : ∃ rest : List Value, h7.IsTuple a ([.ref pl, .ref tok] ++ rest : List Value).toArray ∧ hR.IsTuple a ([.ref pl, .ref tok] ++ rest : List Value).toArray ∧ ((k = 0 ∧ rest = []) ∨ ∃ wv, wayRaw w k wv ∧ rest = [wv]) := by
      rcases htup with ⟨hk, ht⟩ | ⟨wv, hwv, ht⟩
      · exact ⟨[], tuple_up ht leR, ht, .inl ⟨hk, rfl⟩⟩
      · exact ⟨[wv], tuple_up ht leR, ht, .inr ⟨wv, hwv, rfl⟩⟩
    obtain ⟨rest, ht7, htR, hrest⟩ := htup'
    have hrl : rest.length ≤ 1 := by rcases hrest with ⟨-, rfl⟩ | ⟨wv, -, rfl⟩ <;> simp
    have sq0 : seqIndex? (0 : Int) ([Value.ref pl, .ref tok] ++ rest).length = some 0 := by rw [List.length_append]; unfold seqIndex?; simp; omega
    have sq1 : seqIndex? (1 : Int) ([Value.ref pl, .ref tok] ++ rest).length = some 1 := by rw [List.length_append]; unfold seqIndex?; simp; omega
    have isc : ∀ {h8 : Heap} (C : Addr) (e : isNotIn (capK.heap_1 w.params) "tuple" C = true), TX w h8 → Le hR h8 → ∀ {A' : Around} (v : Value), v = .ref a → EX PG w A' (call (.builtin "isinstance") [v, .ref C]) h8 (Im (IsB false)) := fun C e T8 le8 _ v hv => by
      subst hv
      exact cl_isn_tup T8.X e (tuple_up htR le8)
    refine st_skip F N (et_isc (C := 328) (P := (· = .ref a)) T7 (by walk_at "zl") (isc 328 (by k_not) T7 leR) (by kernel_rfl) rfl rfl rfl (ex_global T7 (by k_is) rfl (by kernel_rfl) (by kernel_rfl) (by kernel_rfl) (by kernel_rfl))) fun h8 tk8 F N => ?_
    have T7 := TB.up F.keep
    refine st_skip F N (et_isc (C := 349) (P := (· = .ref a)) T7 (by walk_at "zl") (isc 349 (by k_not) T7 (leT.trans F.keep)) (by kernel_rfl) rfl rfl rfl (ex_global T7 (by k_is) rfl (by kernel_rfl) (by kernel_rfl) (by kernel_rfl) (by kernel_rfl))) fun h8 tk8 F N => ?_
    have T7 := TB.up F.keep
    refine st_skip F N (et_isc (C := 450) (P := (· = .ref a)) T7 (by walk_at "zl") (isc 450 (by k_not) T7 (leT.trans F.keep)) (by kernel_rfl) rfl rfl rfl (ex_global T7 (by k_is) rfl (by kernel_rfl) (by kernel_rfl) (by kernel_rfl) (by kernel_rfl))) fun h8 tk8 F N => ?_
    have T7 := TB.up F.keep
    have leR := leT.trans F.keep
    obtain ⟨oa, hoa, hca, hda⟩ := id (tuple_up htR leR)
    refine st_assert F N (et_cmp (P1 := (· = .type "tuple")) (P2 := (· = .type "tuple")) op_istype (ex_typeO (c := .type "tuple") T7 (by walk_at "zl") hoa hca (by rw [hca]; rfl) (by kernel_rfl) rfl rfl rfl) (ex_builtin T7 (by k_is) (by kernel_rfl) (by decide) rfl (by kernel_rfl) (by kernel_rfl) (by kernel_rfl) (by kernel_rfl) (by kernel_rfl))) fun h9 tk9 F N => ?_
    have T7 := TB.up F.keep
    have leR := leT.trans F.keep
    have htp := tuple_up htR leR
    -- rex
    refine st_assignD (V := fun y new => ∃ q, y = .ref q ∧ new = [(q, methodObj (.ref 701) (.ref pl))]) F N
      (ex_meth (P1 := (· = .ref lx)) (fv := .ref 722) (first := fun _ => [.ref lx]) (by walk_at "zl") (fun a ha => by subst ha; exact gm_inst F TB.X (inst_mk (F.keep _ _ j1) (F.keep _ _ j2)) (by k_is) (by k_is) (by k_is) g2)
        (fun a' ha => cw_some (keeper_K T7.X (by k_is)) (exs_cons (P := (· = .ref pl)) (ex_sub (P1 := (· = .ref a)) (P2 := IsI 0) (by walk_at "zl") ex_int (fun x y hx hy => by
            subst hx
            obtain ⟨u, rfl⟩ := hy
            exact tl_tuple (its := [.ref pl, .ref tok] ++ rest) (v := .ref pl) htp (by decide) (by decide) (j := 0) sq0 (by simp) rfl (by with_unfolding_all rfl)))
            (exs_cons (P := (· = .int 8 t8)) (by walk_at "zl") (exs_cons (P := (· = .str s.str t)) (by walk_at "zl") exs_nil))) (by
          rintro vs new h10 le10 hn ⟨rfl, v1, r1, rfl, rfl, v2, r2, rfl, rfl, v3, r3, rfl, rfl, rfl⟩
          exact (process_regex (T7.up le10) (by rw [depth_deeper]; omega) (hp.up (leR.trans le10))).mono fun v new hv => by simpa using hv))) ?_ ⟨rfl, rfl⟩ (by kernel_rfl) (by kernel_rfl)
    rintro v new h10 tk10 ⟨q, rfl, rfl⟩ F N djq
    have T7 := TB.up F.keep
    have leR := leT.trans F.keep
    have htp := tuple_up htR leR
    refine st_assignI (P := (· = .ref tok)) F N
      (ex_meth (P1 := (· = .ref lx)) (fv := .ref 526) (first := fun _ => [.ref lx]) (by walk_at "zl") (fun a ha => by subst ha; exact gm_inst F TB.X (inst_mk (F.keep _ _ j1) (F.keep _ _ j2)) (by k_is) (by k_is) (by k_is) g3)
        (fun a' ha => cw_some (keeper_K T7.X (by k_is)) (exs_one (V1 := Im (· = .ref tok)) (ex_sub (P1 := (· = .ref a)) (P2 := IsI 1) (by walk_at "zl") ex_int (fun x y hx hy => by
            subst hx
            obtain ⟨u, rfl⟩ := hy
            exact tl_tuple (its := [.ref pl, .ref tok] ++ rest) (v := .ref tok) htp (by decide) (by decide) (j := 1) sq1 (by simp) rfl (by with_unfolding_all rfl)))) (by
          rintro vs new h11 le11 hn ⟨v1, rfl, rfl, rfl⟩
          exact (process_token (T7.up le11) (by rw [depth_deeper]; omega) (htk.up (leR.trans le11))).mono fun v new hv => by simpa using hv))) ?_ ⟨rfl, rfl⟩ (by kernel_rfl) (by kernel_rfl)
    rintro v h11 tk11 rfl F N
    -- the new state
    have T7 := TB.up F.keep
    have leR := leT.trans F.keep
    have htp := tuple_up htR leR
    have len2 : ([Value.ref pl, .ref tok] ++ rest).toArray.size = rest.length + 2 := by simp
    refine st_ifAssign (b := decide (((rest.length + 2 : Nat) : Int) = 2)) (V := fun nv nns => ∀ h2, Le hR h2 → (∀ p ∈ nns, h2.get? p.1 = some p.2) → WayV h2 nv r.way) F N
      (et_cmp (P1 := IsI ((rest.length + 2 : Nat) : Int)) (P2 := IsI 2) op_eqi (ex_callK (fv := .builtin "len") (ex_builtin T7 (by k_is) (by kernel_rfl) (by decide) rfl (by kernel_rfl) (by kernel_rfl) (by kernel_rfl) (by kernel_rfl) (by kernel_rfl))
        (drop_new (cw_builtin (exs_one (V1 := Im (· = .ref a)) (by walk_at "zl")) (by
          rintro vs new h12 le12 hn ⟨v, rfl, rfl, rfl⟩
          exact (cl_lenT (tuple_up htp le12) (by rw [len2]; omega)).mono fun v new hv => by rw [← len2]; exact hv.2)))) ex_int) ?_ ?_ ?_ ⟨rfl, rfl⟩ (by kernel_rfl) (by kernel_rfl) (by kernel_rfl)
    · intro hb
      have hb := of_decide_eq_true hb
      refine EX.mono ex_none fun v new hv => ?_
      obtain ⟨rfl, rfl⟩ := hv
      intro h2 le2 hp2
      rcases hrest with ⟨hk, -⟩ | ⟨wv, hwv, rfl⟩
      · rw [hway, hk]; rfl
      · simp at hb
    · intro hb
      have hb := of_decide_eq_false hb
      rcases hrest with ⟨hk, rfl⟩ | ⟨wv, hwv, rfl⟩
      · exact absurd rfl hb
      refine EX.mono (V := WayE hR k) (ex_meth (P1 := (· = .ref lx)) (fv := .ref 533) (first := fun _ => [.ref lx]) (by walk_at "zl") (fun a ha => by subst ha; exact gm_inst F TB.X (inst_mk (F.keep _ _ j1) (F.keep _ _ j2)) (by k_is) (by k_is) (by k_is) g4)
        (fun a' ha => cw_some (keeper_K T7.X (by k_is)) (exs_cons (P := (· = wv)) (ex_sub (P1 := (· = .ref a)) (P2 := IsI 2) (by walk_at "zl") ex_int (fun x y hx hy => by
            subst hx
            obtain ⟨u, rfl⟩ := hy
            exact tl_tuple (its := [.ref pl, .ref tok, wv]) (v := wv) htp (by decide) (by decide) (j := 2) rfl rfl rfl (by with_unfolding_all rfl)))
            (exs_cons (P := (· = .ref td)) (by walk_at "zl") (exs_cons (P := (· = .ref PD)) (by walk_at "zl") exs_nil))) (by
          rintro vs new h12 le12 hn ⟨rfl, v1, r1, rfl, rfl, v2, r2, rfl, rfl, v3, r3, rfl, rfl, rfl⟩
          exact EX.mono (V := WayE hR k) ((new_state (A := A.deeper _) TR hh (by rw [depth_deeper]; omega) hwv hD hsys).up (leR.trans le12)) fun v new hv => by rw [List.append_nil]; exact hv))) fun v new hv => ?_
      intro h2 le2 hp2
      rw [hway]
      exact hv h2 le2 hp2
    rintro nv nns h12 tk12 hnv F N djn
    -- the triple onto the list
    have q1 : q ≠ TL := djq _ (.head _) _ (.tail _ (.tail _ (.head _)))
    have nT : ∀ p ∈ nns, p.1 ≠ TL := fun p hp => djn p hp _ (.tail _ (.tail _ (.tail _ (.head _))))
    refine st_append (D := TL) (its := its) (n := n) (news' := fun v => nns ++ ((q, methodObj (.ref 701) (.ref pl)) :: (I, o) :: (PD, od') :: (TL, lobj (its ++ [v]) (n + 1)) :: objs)) (VA := fun v new => ∃ a, v = .ref a ∧ new = [(a, tupO [.ref q, .ref tok, nv])]) F N (by walk_at "zl") (List.mem_append_right _ (.tail _ (.tail _ (.tail _ (.head _))))) ?_ (by rw [hlen]; omega)
      (fun v => up_swap (.tail q1 (.tail (Ne.symm (hnI (TL, lobj its n) (.tail _ (.head _)))) (.tail (Ne.symm neT) (.head (fun p hp => (hne p hp).2))))) nT) ?_ (by kernel_rfl) (by kernel_rfl) rfl (by kernel_rfl)
    · refine EX.mono (ex_tuple (exs_cons (P := (· = .ref q)) (by walk_at "zl") (exs_cons (P := (· = .ref tok)) (by walk_at "zl") (exs_cons (P := (· = nv)) (by walk_at "zl") exs_nil))) (fun vs n hv => ?_)) fun v new hv => ?_
      · obtain ⟨-, v1, r1, rfl, -, v2, r2, rfl, -, v3, r3, rfl, -, rfl⟩ := hv
        exact Nat.le_of_ble_eq_true rfl
      · obtain ⟨a, vs, n, rfl, rfl, rfl, v1, r1, rfl, rfl, v2, r2, rfl, rfl, v3, r3, rfl, rfl, rfl⟩ := hv
        exact ⟨a, rfl, rfl⟩
    rintro v new h13 tk13 ⟨a2, rfl, rfl⟩ F N dja
    have m1 : ∀ x, x ∈ (q, methodObj (.ref 701) (.ref pl)) :: (I, o) :: (PD, od') :: (TL, lobj its n) :: objs → x ∈ nns ++ ((q, methodObj (.ref 701) (.ref pl)) :: (I, o) :: (PD, od') :: (TL, lobj its n) :: objs) := fun x hx => List.mem_append_right _ hx
    refine wp_nil ⟨h13, tk13, _, (PD, od') :: (TL, lobj (its ++ [.ref a2]) (n + 1)) :: ((a2, tupO [.ref q, .ref tok, nv]) :: (q, methodObj (.ref 701) (.ref pl)) :: (nns ++ objs)), rfl, F, fun x hx => N x ?_, ⟨its ++ [.ref a2], n + 1, _, rfl, by simp [hlen], ?_, ?_, by walk_at "lk", by walk_at "lk", by walk_at "lk", by walk_at "lk", by walk_at "lk", by walk_at "lk"⟩, ?_⟩
    · simp only [List.mem_append, List.mem_cons, List.not_mem_nil, or_false] at hx ⊢
      rcases hx with e | e | e | e | e | e | e <;> simp [e]
    · intro p hp
      rcases List.mem_cons.mp hp with rfl | hp
      · exact ⟨dja _ (.head _) _ (m1 _ (.tail _ (.tail _ (.head _)))), dja _ (.head _) _ (m1 _ (.tail _ (.tail _ (.tail _ (.head _)))))⟩
      rcases List.mem_cons.mp hp with rfl | hp
      · exact ⟨djq _ (.head _) _ (.tail _ (.head _)), q1⟩
      rcases List.mem_append.mp hp with hp | hp
      · exact ⟨djn p hp _ (.tail _ (.tail _ (.head _))), nT p hp⟩
      · exact hne p hp
    · intro h2 le2 hp2
      rw [List.take_add_one, hr]
      refine paired_append (hsem h2 le2 fun p hp => hp2 p (.tail _ (.tail _ (List.mem_append_right _ hp)))) (.cons ?_ .nil)
      exact ⟨a2, q, pl, tok, nt, r0, t4, nv, rfl, ⟨⟨_, hp2 _ (.head _), rfl, _, rfl⟩, hp2 _ (.tail _ (.head _)), hp.up le2, htk.up le2, hnv h2 le2 fun p hp => hp2 p (.tail _ (.tail _ (List.mem_append_left _ hp))), hw0, hw3⟩⟩
    · intro p hp
      rcases List.mem_cons.mp hp with rfl | hp
      · exact hnI (PD, od') (.head _)
      rcases List.mem_cons.mp hp with rfl | hp
      · exact hnI (TL, lobj its n) (.tail _ (.head _))
      rcases List.mem_cons.mp hp with rfl | hp
      · exact dja _ (.head _) _ (m1 _ (.tail _ (.head _)))
      rcases List.mem_cons.mp hp with rfl | hp
      · exact djq _ (.head _) _ (.head _)
      rcases List.mem_append.mp hp with hp | hp
      · exact djn p hp _ (.tail _ (.head _))
      · exact hnI p (.tail _ (.tail _ hp))
  · rintro h7 tk7 l news ⟨its, n, objs, rfl, hlen, hne, hsem, n1, n2, n3, n4, n5, n6⟩ F N
    refine wp_nil (thenQ_next (st_ret F N (V := Im (· = .ref TL)) (by walk_at "zl") ?_))
    rintro v new h8 tk8 ⟨rfl, rfl⟩ F N
    refine ret_of (new := (PD, od') :: (TL, lobj its n) :: objs) F N (fun q hq => hq) ⟨TL, its, n, od', objs, rfl, rfl, hod', ⟨neT, fun p hp => (hne p hp).1⟩, fun h2 le2 hp => ?_⟩
    have := hsem h2 le2 hp
    rwa [← paired_len hv, List.take_length] at this
end
end Mine
end
section
set_option maxRecDepth 100000
set_option linter.unusedVariables false
open PySem PySem.W PyProof.Rows PySem.Calls PySem.Spec
namespace Mine
local macro_rules | `(tactic| walk_at "lk") => `(tactic| repeat (first | with_reducible exact frm_head | with_reducible assumption | with_reducible refine frm_tail (by kernel_rfl) ?_))
local macro_rules | `(tactic| walk_at "zl") => `(tactic| (refine ex_local (Fr.ns (by assumption)) (by walk_at "lk") ?_ (by kernel_rfl) (by kernel_rfl) (by kernel_rfl); first | exact isI | exact isS | exact isB | rfl))
section
variable {prog : Program} {w : World} {A : Around} {h : Heap} {env : Env} {K : Frag} {h₀ : Heap} {L : Addr} {m : Str → Option Value} {l : List (Str × Value)} {news : List (Addr × Obj)} {g : Array GenState} {d : Drawn} {tk : Nat} {os : OsState} {E : Value → Shared → Prop} {Q : Flow → Shared → Prop}
theorem sys_of {D : Addr} (h : 749 < D) : (D == sysModules) = false := beq_eq_false_iff_ne.mpr fun e => absurd (e ▸ h : 749 < sysModules) (by decide)
/-- {}, and where it lies -/
theorem ex_dictT {pos : Pos} (T : TX w h) : EX prog w A (eval (.Dict [] [] pos) env) h (fun v new => ∃ D od, v = .ref D ∧ new = [(D, od)] ∧ od.IsDictOf (strKind prog w) [] ∧ 749 < D) := ⟨fun h1 g d tk os Q E le H => by
  refine wpAny_Dict_empty ?_
  have h7 : 749 < h1.objs.size := Heap.lt_size ((T.up le).X 749 _ (by k_is))
  refine H _ [(h1.objs.size, { cls := .type "dict", data := .dict #[] })] _ _ (fun b o e => Heap.get?_push_of_some _ e) (fun p hp => ?_) ⟨_, _, rfl, rfl, ?_, h7⟩
  · rw [List.mem_singleton.mp hp]
    exact ⟨Heap.get?_push_size _ rfl, sizeNone⟩
  · obtain ⟨o, ho, hi⟩ := Heap.dictOf_iff.mp (Heap.DictOf.new (knd := strKind prog w) h1)
    rw [Heap.get?_push_size _ rfl] at ho
    rw [Option.some.inj ho]; exact hi⟩
theorem tr_dictS {D : Addr} {kvs : List (Str × Value)} {b : Bool} (hd : h.DictOf (strKind prog w) D kvs) (hs : (D == sysModules) = false) (hz : kvs.length ≤ 1000) (hb : (!kvs.isEmpty) = b) : EX prog w A (truthy (.ref D)) h (Im (· = b)) := ⟨fun h1 g d tk os Q E le H =>
  wpAny_truthy_dict (s := ⟨h1, g, d, tk, os⟩) hs (dict_up hd le) (by omega) (H _ [] _ _ Le.refl Fresh.nil ⟨rfl, hb⟩)⟩
theorem cl_listD {D : Addr} {kvs : List (Str × Value)} (hh : A.handled = none) (hd : h.DictOf (strKind prog w) D kvs) (hs : (D == sysModules) = false) (hz : kvs.length ≤ 1000) :
    EX prog w A (call (.type "list") [.ref D]) h (fun v new => ∃ b vs n, v = .ref b ∧ new = [(b, lobj vs n)] ∧ vs.length = kvs.length ∧ ∀ (j : Nat) (y : Value), vs[j]? = some y → ∃ k x, kvs[j]? = some (k, x) ∧ IsS k y) := ⟨fun h1 g d tk os Q E le H => by
  obtain ⟨ep, hd'⟩ := (dict_up hd le).dictAt
  refine kdl_call (s := ⟨h1, g, d, tk, os⟩) (kdl_dict hs) hh hd' (Nat.le_trans hz (by decide)) fun h' tk' acc c hk hg hi => ?_
  refine H _ [(h1.objs.size, lobj acc.toList c)] _ _ hk (fun p hp => ?_) ⟨_, acc.toList, c, rfl, rfl, by rw [Array.length_toList]; exact hi.1, fun j y hy => ?_⟩
  · rw [List.mem_singleton.mp hp]
    exact ⟨hg, sizeNone⟩
  · obtain ⟨k, x, hk, hks⟩ := hi.2 j y (by rw [← Array.getElem?_toList]; exact hy)
    refine ⟨k, x, hk, ?_⟩
    exact Value.isStrOf_shape hks⟩
/-- a statement o.meth(args) that turns some of the ledger -/
theorem st_callZ {o : Expr} {name : Str} {ap cp pos : Pos} {e : Expr} {args : List Expr} {rest : List Stmt} {x : Addr} {fv : Value} {first : List Value} {hid rst : List (Addr × Obj)} {PA : List Value → Prop} {V : Value → List (Addr × Obj) → Prop} (F : Fr h₀ L h m) (N : News h₀ L h (hid ++ rst)) (dj : ∀ p ∈ rst, ∀ q ∈ hid, p.1 ≠ q.1)
    (ho : EX prog w A (eval o env) h (Im (· = .ref x))) (hg : EX prog w A (getMethod (.ref x) name (plOf o env)) h (Im (· = (fv, first)))) (ha : EX prog w A (spliced (backTo cp (starEach (e :: args) env))) h (Im PA)) (hk : Keeper3 (model prog w) h fv)
    (hc : ∀ vs h2, Le h h2 → PA vs → MZ prog w A (call fv (first ++ vs)) h2 (hid.map (·.1)) V)
    (H : ∀ v new h' tk', V v new → Fr h₀ L h' m → News h₀ L h' (new ++ rst) → (∀ p ∈ new, (∃ h2, Le h h2 ∧ h2.get? p.1 = none) ∨ p.1 ∈ hid.map (·.1)) → WP prog w A (execs rest env) Q ⟨h', g, d, tk', os⟩)
    (hr : MCall o name ap cp (e :: args) env) (he : starEach (e :: args) env = (false, eval e env) :: starEach args env) (hplain : (backTo cp (starEach args env)).any (·.1) = false) (hi : interactive env = false) (hs : swapsWith (.Call (.Attribute o name ap) (e :: args) [] cp) none pos.line env = pure false) :
    WP prog w A (execs (.Expr (.Call (.Attribute o name ap) (e :: args) [] cp) pos :: rest) env) Q ⟨h, g, d, tk, os⟩ := by
  refine wp_cons ⟨?_⟩
  refine wpAny_Expr_any ?_ hi hs
  refine MethodCall_ (pl := plOf o env) (ho.at fun a n1 h1 tk1 l1 f1 ha' => ?_) hr
  rw [ha'.2]
  refine hg.run h1 g d tk1 os _ _ l1 fun fx n2 h2 tk2 l2 f2 hfx => ?_
  rw [hfx.2, he]
  refine callWith_of (P := fun h' => Le h2 h') (by show ((false || (backTo cp (starEach args env)).any (·.1)) || false) = false; rw [hplain]; rfl) (fun h' l => hk h' ((l1.trans l2).trans l)) (evalArgs_plain ?_)
  rw [he] at ha
  refine ha.run h2 g d tk2 os _ _ (l1.trans l2) fun vs n3 h3 tk3 l3 f3 hvs => ⟨l3, ?_⟩
  have lz := (l1.trans l2).trans l3
  refine (hc vs h3 lz hvs.2).lgr (fr_up F lz) (nw_up N lz) dj fun v new h' tk' hv F' N' _ hfr => ?_
  exact (H v new h' tk' hv F' N' fun p hp => (hfr p hp).imp (fun z => ⟨h3, lz, z⟩) fun z => z).run
end
abbrev stas : List Sta := [.root, .first, .second]
section
variable {w : World} {A : Around} {h : Heap}
set_option maxHeartbeats 4000000
theorem process_tokendef {hR : Heap} {lx dl td AD : Addr} {es : List DictEntry} {n : Nat} {la : Sta → Addr} {vals : Sta → List Value} {T : Tab} {t : Tok} {ad : Obj} (TR : TX w hR) (hle : Le hR h) (hlow : hR.get? AD = none) (hAD : h.get? AD = some ad) (had : ad.IsDictOf (strKind PG w) [])
    (i1 : h.get? lx = some (instObj 725 dl)) (i2 : h.get? dl = some (dictOf es n)) (ne1 : lx ≠ AD) (ne2 : dl ≠ AD) (ga : getL (Str.ofString "_all_tokens") es = some (some (.ref AD))) (g0 : getL (Str.ofString "_process_state") es = some none) (g1 : getL (Str.ofString "flags") es = some none) (g2 : getL (Str.ofString "_process_regex") es = some none) (g3 : getL (Str.ofString "_process_token") es = some none) (g4 : getL (Str.ofString "_process_new_state") es = some none)
    (hD : hR.DictOf (strKind PG w) td (tabK la)) (hl : ∀ s, hR.IsList (la s) (vals s).toArray) (hv : ∀ s, Paired (RawV w hR) (T s) (vals s)) (few : ∀ s, (vals s).length ≤ 900) (hsys : (td == sysModules) = false) (hh : A.handled = none) (hd' : A.depth + 80 < recursionLimit) :
    MZ PG w A (call (.ref 548) [.ref lx, .str (Str.ofString "") t, .ref td]) h [AD] (fun v new => ∃ (PD : Addr) (la' : Sta → Addr) (vals' : Sta → List Value), v = .ref PD ∧ ∀ h2, Le hR h2 → (∀ p ∈ new, h2.get? p.1 = some p.2) → h2.DictOf (strKind PG w) PD (tabK la') ∧ (∀ s, h2.IsList (la' s) (vals' s).toArray) ∧ ∀ s, Paired (RlV w h2) (T s) (vals' s)) := by
  refine mz_def (hid := [(AD, ad)]) (hT := hR) TR.X TR.lim hle (fun p hp => by rw [List.mem_singleton.mp hp]; exact hlow) (fun p hp => by rw [List.mem_singleton.mp hp]; exact hAD) (by k_is) (by k_is) (by omega) (bind_ofB fun s le => binds_K ((TR.up hle).X.keeps le) rfl (by k_is) rfl rfl rfl) (fun binds new hb => by obtain ⟨rfl, rfl⟩ := hb; exact locs rfl) ?_ (by decide) rfl rfl rfl
  rintro gB L' hh' g d tk os binds new leT keep ⟨rfl, rfl⟩ - F N
  change Fr _ _ _ (frm [(Str.ofString "tokendefs", .ref td), (Str.ofString "name", .str (Str.ofString "") t), (Str.ofString "cls", .ref lx)]) at F
  have TB := TR.up leT
  have j1 := keep lx _ (by simpa using ne1) i1
  have j2 := keep dl _ (by simpa using ne2) i2
  have hDB := dict_up hD leT
  refine st_chain (V := fun v new => ∃ D od, v = .ref D ∧ new = [(D, od)] ∧ od.IsDictOf (strKind PG w) [] ∧ 749 < D) (news' := fun o => [(AD, o)]) F N (.head _) had rfl (Nat.zero_le _) (ex_dictT (TB.up F.keep)) (fun v h' F N => ex_at (by walk_at "zl") F TB.X (inst_mk (F.keep _ _ j1) (F.keep _ _ j2)) (by k_is) (by k_is) (by k_is) (by k_is) ga rfl rfl) (fun v h' F N => by walk_at "zl") (fun od' => .head (fun _ hp => nomatch hp)) ?_ ⟨rfl, rfl⟩ (by kernel_rfl)
  rintro v new ad' h2 tk2 ⟨PD, od, rfl, rfl, hod, hPD⟩ had' F N dj
  have neP : PD ≠ AD := dj _ (.head _) _ (.head _)
  refine st_assignI (P := (· = .ref td)) F N (ex_or (P1 := (· = .ref td)) (b := true) (by walk_at "zl") (fun v hv => by subst hv; exact tr_dictS (dict_up hDB F.keep) hsys (by show 3 ≤ 1000; decide) rfl) (fun e => nomatch e) (fun _ v hv => hv)) ?_ ⟨rfl, rfl⟩ (by kernel_rfl) (by kernel_rfl)
  rintro v h3 tk3 rfl F N
  have T3 := TB.up F.keep
  refine st_for F N (V := fun v new => ∃ b vs n, v = .ref b ∧ new = [(b, lobj vs n)] ∧ vs.length = 3 ∧ ∀ (j : Nat) (y : Value), vs[j]? = some y → ∃ k x, (tabK la)[j]? = some (k, x) ∧ IsS k y)
    (ex_callK (fv := .type "list") (ex_builtin T3 (by k_is) (by kernel_rfl) (by decide) rfl (by kernel_rfl) (by kernel_rfl) (by kernel_rfl) (by kernel_rfl) (by kernel_rfl)) (cw_type (exs_one (V1 := Im (· = .ref td)) (by walk_at "zl")) (by
      rintro vs new h4 le4 hn ⟨v, rfl, rfl, rfl⟩
      exact EX.mono (cl_listD (A := A.deeper _) hh (dict_up (dict_up hDB F.keep) le4) hsys (by show 3 ≤ 1000; decide)) fun v new hv => by rw [List.append_nil]; exact hv))) ?_
  rintro v new h4 tk4 ⟨LD, ks, kn, rfl, rfl, hks, hkv⟩ F N dj4
  have N4 : News gB L' h4 ((PD, od) :: [(LD, lobj ks kn), (AD, ad')]) := fun q hq => N q (by
    simp only [List.cons_append, List.nil_append, List.mem_cons, List.not_mem_nil, or_false] at hq ⊢
    rcases hq with e | e | e <;> simp [e])
  have neL : LD ≠ PD := dj4 _ (.head _) _ (.head _)
  refine for_list (items := ks) (fun i l news => ∃ od' rest, ∃ res : List (Sta × Addr × List Value), news = (PD, od') :: rest ∧ (∀ p ∈ rest, p.1 ≠ PD) ∧ (LD, lobj ks kn) ∈ rest ∧ od'.IsDictOf (strKind PG w) (res.map fun r => (r.1.str, Value.ref r.2.1)) ∧ res.map (·.1) = stas.take i ∧
      (∀ h2, Le hR h2 → (∀ p ∈ rest, h2.get? p.1 = some p.2) → ∀ r ∈ res, h2.IsList r.2.1 r.2.2.toArray ∧ Paired (RlV w h2) (T r.1) r.2.2) ∧
      frm l (Str.ofString "cls") = some (.ref lx) ∧ frm l (Str.ofString "tokendefs") = some (.ref td) ∧ frm l (Str.ofString "processed") = some (.ref PD)) hh F N4 ⟨od, _, [], rfl, ?_, .head _, hod, rfl, (fun _ _ _ _ hr => nomatch hr), by walk_at "lk", by walk_at "lk", by walk_at "lk"⟩
    (fun i h l news hI F N => by obtain ⟨od', rest, res, rfl, -, hm, -⟩ := hI; exact ⟨_, (N _ (.tail _ hm)).1, rfl, _, rfl⟩) ?_ ?_ ⟨rfl, rfl⟩ (by kernel_rfl)
  · intro p hp
    rcases List.mem_cons.mp hp with rfl | hp
    · exact neL
    · rw [List.mem_singleton.mp hp]; exact Ne.symm neP
  · rintro i v I o h5 tk5 l news hi hvi ⟨od', rest, res, rfl, hne, hLD, hod', hres, hsem, n1, n2, n3⟩ F N hnI
    rw [hks] at hi
    obtain ⟨k, xk, hk, hkv'⟩ := hkv i v hvi
    have hs : ∃ s, stas[i]? = some s ∧ k = s.str := by
      have hi3 : i = 0 ∨ i = 1 ∨ i = 2 := by omega
      rcases hi3 with rfl | rfl | rfl <;> simp at hk <;> exact ⟨_, rfl, hk.1.symm⟩
    obtain ⟨s, hs, rfl⟩ := hs
    obtain ⟨ts, rfl⟩ := hkv'
    have hns : valueAt (res.map fun r => (r.1.str, Value.ref r.2.1)) s.str = none := by
      have hmem : ∀ r ∈ res, r.1 ≠ s := fun r hr e => by
        have : r.1 ∈ stas.take i := by rw [← hres]; exact List.mem_map_of_mem hr
        rw [e] at this
        have hi3 : i = 0 ∨ i = 1 ∨ i = 2 := by omega
        rcases hi3 with rfl | rfl | rfl <;> simp at hs this <;> subst hs <;> simp at this
      unfold valueAt
      rw [Option.map_eq_none_iff, List.find?_eq_none]
      intro kv hkv
      obtain ⟨r, hr, rfl⟩ := List.mem_map.mp hkv
      have := hmem r hr
      simp only [decide_eq_true_eq]
      intro e
      apply this
      revert e
      cases r.1 <;> cases s <;> decide +kernel
    have rlen : (res.map fun r => (r.1.str, Value.ref r.2.1)).length ≤ 10 := by
      have := congrArg List.length hres
      rw [List.length_map, List.length_take] at this
      rw [List.length_map, this]
      show min i 3 ≤ 10
      omega
    have T5 := TB.up F.keep
    have N5 : News gB L' h5 ([(PD, od')] ++ ((I, o) :: rest)) := fun q hq => N q (by
      simp only [List.cons_append, List.nil_append, List.mem_cons] at hq ⊢
      rcases hq with e | e | e <;> simp [e])
    refine st_callZ (hid := [(PD, od')]) (rst := (I, o) :: rest) (x := lx) (fv := .ref 540) (first := [.ref lx]) (PA := fun vs => vs = [.ref td, .ref PD, .str s.str ts]) (V := fun v new => ∃ TL items n od2 objs, v = .ref TL ∧ new = (PD, od2) :: (TL, lobj items n) :: objs ∧ od2.IsDictOf (strKind PG w) ((res.map fun r => (r.1.str, Value.ref r.2.1)) ++ [(s.str, .ref TL)]) ∧ (TL ≠ PD ∧ ∀ p ∈ objs, p.1 ≠ PD) ∧
      ∀ h2, Le hR h2 → (∀ p ∈ objs, h2.get? p.1 = some p.2) → Paired (RlV w h2) (T s) items) F N5 (fun p hp q hq => by
        rw [List.mem_singleton.mp hq]
        rcases List.mem_cons.mp hp with rfl | hp
        · exact Ne.symm (hnI _ (.head _))
        · exact hne p hp) (by walk_at "zl") (gm_inst F TB.X (inst_mk (F.keep _ _ j1) (F.keep _ _ j2)) (by k_is) (by k_is) (by k_is) g0)
      (EX.mono (exs_cons (P := (· = .ref td)) (by walk_at "zl") (exs_cons (P := (· = .ref PD)) (by walk_at "zl") (exs_cons (P := (· = .str s.str ts)) (by walk_at "zl") exs_nil))) fun vs new hv => by
        obtain ⟨rfl, v1, r1, rfl, rfl, v2, r2, rfl, rfl, v3, r3, rfl, rfl, rfl⟩ := hv
        exact ⟨rfl, rfl⟩) (keeper_K T5.X (by k_is)) (fun vs h6 le6 hvs => by
          subst hvs
          exact process_state (TR) (leT.trans (Le.trans F.keep le6)) ((show Le hR gB from leT).none (N5 _ (.head _)).2.2) (le6 _ _ (N5 _ (.head _)).1) hod' hns rlen (le6 _ _ (F.keep _ _ j1)) (le6 _ _ (F.keep _ _ j2)) (fun e => by
            have := (N5 _ (.head _)).2.2
            rw [← e, j1] at this; cases this) (fun e => by
            have := (N5 _ (.head _)).2.2
            rw [← e, j2] at this; cases this) g1 g2 g3 g4 hD (hl s) (hv s) (few s) hsys (sys_of hPD) hh (by rw [depth_deeper]; omega)) ?_ (by kernel_rfl) rfl rfl (by kernel_rfl) (by kernel_rfl)
    rintro v new h6 tk6 ⟨TL, items, nn, od2, objs, rfl, rfl, hod2, ⟨nTP, nOP⟩, hsem2⟩ F N hfr
    have nI : ∀ p ∈ (PD, od2) :: (TL, lobj items nn) :: objs, p.1 ≠ I := fun p hp e => by
      rcases hfr p hp with ⟨h7, le7, z⟩ | z
      · rw [e, le7 _ _ (N5 _ (.tail _ (.head _))).1] at z; cases z
      · rw [e] at z
        exact hnI _ (.head _) (List.mem_singleton.mp z).symm
    refine wp_nil ⟨h6, tk6, _, (PD, od2) :: ((TL, lobj items nn) :: (objs ++ rest)), rfl, F, fun q hq => N q ?_, ⟨od2, _, res ++ [(s, TL, items)], rfl, fun p hp => ?_, ?_, ?_, ?_, ?_, by walk_at "lk", by walk_at "lk", by walk_at "lk"⟩, fun p hp => ?_⟩
    · simp only [List.cons_append, List.mem_cons, List.mem_append] at hq ⊢
      rcases hq with e | e | e | e | e <;> simp [e]
    · rcases List.mem_cons.mp hp with rfl | hp
      · exact nTP
      rcases List.mem_append.mp hp with hp | hp
      · exact nOP p hp
      · exact hne p hp
    · exact .tail _ (List.mem_append_right _ hLD)
    · rw [List.map_append]; exact hod2
    · rw [List.map_append, hres, List.take_add_one, hs]; rfl
    · intro h2 le2 hp2 r hr
      rcases List.mem_append.mp hr with hr | hr
      · exact hsem h2 le2 (fun p hp => hp2 p (.tail _ (List.mem_append_right _ hp))) r hr
      · rw [List.mem_singleton.mp hr]
        exact ⟨⟨_, hp2 _ (.head _), rfl, _, rfl⟩, hsem2 h2 le2 fun p hp => hp2 p (.tail _ (List.mem_append_left _ hp))⟩
    · rcases List.mem_cons.mp hp with rfl | hp
      · exact nI _ (.head _)
      rcases List.mem_cons.mp hp with rfl | hp
      · exact nI _ (.tail _ (.head _))
      rcases List.mem_append.mp hp with hp | hp
      · exact nI p (.tail _ (.tail _ hp))
      · exact hnI p (.tail _ hp)
  · rintro h5 tk5 l news ⟨od', rest, res, rfl, hne, hLD, hod', hres, hsem, n1, n2, n3⟩ F N
    rw [hks] at hres
    refine wp_nil (thenQ_next (st_ret F N (V := Im (· = .ref PD)) (by walk_at "zl") ?_))
    rintro v new h6 tk6 ⟨rfl, rfl⟩ F N
    have h3 : ∃ a0 v0 a1 v1 a2 v2, res = [(Sta.root, a0, v0), (Sta.first, a1, v1), (Sta.second, a2, v2)] := by
      match res, hres with
      | [(s0, a0, v0), (s1, a1, v1), (s2, a2, v2)], hres =>
        simp at hres
        obtain ⟨rfl, rfl, rfl⟩ := hres
        exact ⟨a0, v0, a1, v1, a2, v2, rfl⟩
    obtain ⟨a0, v0, a1, v1, a2, v2, rfl⟩ := h3
    · refine ret_of (new := (PD, od') :: rest) F N (fun q hq => hq) ⟨PD, fun s => match s with | .root => a0 | .first => a1 | .second => a2, fun s => match s with | .root => v0 | .first => v1 | .second => v2, rfl, fun h2 le2 hp => ?_⟩
      have hs := hsem h2 le2 fun p hp' => hp p (.tail _ hp')
      refine ⟨Heap.dictOf_iff.mpr ⟨od', hp _ (.head _), hod'⟩, fun s => ?_, fun s => ?_⟩
      · cases s
        · exact (hs _ (.head _)).1
        · exact (hs _ (.tail _ (.head _))).1
        · exact (hs _ (.tail _ (.tail _ (.head _)))).1
      · cases s
        · exact (hs _ (.head _)).2
        · exact (hs _ (.tail _ (.head _))).2
        · exact (hs _ (.tail _ (.tail _ (.head _)))).2
end
end Mine
end
section
set_option maxRecDepth 100000
set_option linter.unusedVariables false
open PySem PySem.W PyProof.Rows PySem.Calls PySem.Spec
namespace Mine
local macro_rules | `(tactic| walk_at "lk") => `(tactic| repeat (first | with_reducible exact frm_head | with_reducible assumption | with_reducible refine frm_tail (by kernel_rfl) ?_))
local macro_rules | `(tactic| walk_at "zl") => `(tactic| (refine ex_local (Fr.ns (by assumption)) (by walk_at "lk") ?_ (by kernel_rfl) (by kernel_rfl) (by kernel_rfl); first | exact isI | exact isS | exact isB | rfl))
theorem itOf_items {prog : Program} {w : World} {K : Type} [DecidableEq K] {knd : KeyKind prog w K} {A : Around} {it d : Addr} {kvs : List (K × Value)} {ep : Nat} (hh : A.handled = none) (hne : d ≠ it) :
    ItOf2 prog w A it [it, d] [it] kvs.length (fun i v1 v2 => ∃ k, kvs[i]? = some (k, v2) ∧ knd.is k v1 = true) (fun i h => (∃ ok ov, IsItemIter h it d i kvs.length ep ok ov) ∧ h.DictAt knd d kvs ep) where
  item := fun i h g dr tk os elts kk tp Q E hi hst H => by
    obtain ⟨⟨ok, ov, hit⟩, hm⟩ := hst
    have hx : kvs[i]? = some (kvs[i].1, kvs[i].2) := by rw [List.getElem?_eq_getElem hi]
    refine wpAny_pyNext_items_item (s := ⟨h, g, dr, tk, os⟩) hit hm hx fun key h' hkey hout hT hsz hk => ?_
    refine H _ _ fun QU HU => wpAny_letOwnedTupleGo_items (s := ⟨h', g, dr, tk, os⟩) hout fun h2 hit2 hs2 => ?_
    have k2 : ∀ b o, b ≠ it → h'.get? b = some o → h2.get? b = some o := fun b o hb e => (hs2.2 b hb).trans e
    have hTit : h.objs.size ≠ it := fun e => by
      have : it < h.objs.size := Heap.lt_size hit
      rw [e] at this
      exact Nat.lt_irrefl _ this
    refine HU key _ h2 _ ⟨_, hx, hkey⟩ ⟨_, k2 _ _ hTit hT, rfl, _, rfl⟩ ⟨⟨_, _, hit2⟩, hm.at' fun o e => k2 _ _ hne (hk _ _ hne e)⟩ fun b o hb e => k2 _ _ (by simpa using hb) (hk _ _ (by simpa using hb) e)
  done := fun h g dr tk os Q E hst H => by
    obtain ⟨⟨ok, ov, hit⟩, hm⟩ := hst
    exact wpAny_pyNext_items_end (s := ⟨h, g, dr, tk, os⟩) hh hit hm (by simp) fun h' he => H h' tk fun b o hb e => he b o (by simpa using hb) e
  frame := fun i h h' ⟨⟨ok, ov, hit⟩, hm⟩ hk => ⟨⟨ok, ov, hk it (.head _) _ hit⟩, hm.at' fun o e => hk d (.tail _ (.head _)) o e⟩
  pres := fun i h ⟨⟨ok, ov, hit⟩, hm⟩ b hb => by
    rcases List.mem_cons.mp hb with rfl | hb
    · exact ⟨_, hit⟩
    · rw [List.mem_singleton.mp hb]
      obtain ⟨o, es, ho, _⟩ := hm
      exact ⟨o, ho⟩
  sub := fun b hb => by rw [List.mem_singleton.mp hb]; exact .head _
section
variable {prog : Program} {w : World} {A : Around} {h : Heap} {env : Env} {K : Frag} {h₀ : Heap} {L : Addr} {m : Str → Option Value} {l : List (Str × Value)} {news : List (Addr × Obj)} {g : Array GenState} {d : Drawn} {tk : Nat} {os : OsState} {E : Value → Shared → Prop} {Q : Flow → Shared → Prop}
/-- d.items() -/
theorem ex_items {o : Expr} {ap pos : Pos} {D : Addr} {kvs : List (Str × Value)} (ho : EX prog w A (eval o env) h (Im (· = .ref D))) (hd : h.DictOf (strKind prog w) D kvs) (hs : (D == sysModules) = false) (hr : MCall o (Str.ofString "items") ap pos [] env := by kernel_rfl) :
    EX prog w A (eval (.Call (.Attribute o (Str.ofString "items") ap) [] [] pos) env) h (fun v new => ∃ r, v = .ref r ∧ new = [(r, { cls := .type "dict_items", data := .fields #[.ref D] })]) := ⟨fun h1 g d tk os Q E le H => by
  with_reducible refine MethodCall_ (pl := plOf o env) (ho.run h1 g d tk os _ E le fun a n h2 tk2 l2 f2 hv2 => ?_) hr
  rw [hv2.2]
  have hd2 := dict_up hd (le.trans l2)
  refine getMethod_builtin (s := ⟨h2, g, d, tk2, os⟩) hd2.typeIs PySem.F.plainAttrs_dict PySem.F.slot_dict_items PySem.F.type_dict_items hd2.mapOf.noDict ?_
  refine callWith_method0 ?_
  refine call_meetsIn PySem.F.slot_dict_items hd2.typeIs PySem.F.entry_dict_items (PySem.F.args_dict_items_1 _) (meets_dict_items (strKind prog w) D hs) ⟨⟨kvs, hd2⟩, ?_⟩
  refine H _ [(h2.objs.size, _)] _ _ (l2.trans fun b o e => Heap.get?_push_of_some _ e) (fun p hp => ?_) ⟨_, rfl, rfl⟩
  rw [List.mem_singleton.mp hp]
  exact ⟨Heap.get?_push_size _ rfl, l2.none sizeNone⟩⟩
/-- two names over a dict's items -/
theorem for_items {a b : Str} {pa pb tp : Pos} {kk : Nat} {body orelse rest : List Stmt} {r D : Addr} {od : Obj} {kvs : List (Str × Value)} (Inv : Nat → List (Str × Value) → List (Addr × Obj) → Prop) (hh : A.handled = none)
    (F : Fr h₀ L h (frm l)) (N : News h₀ L h news) (h0 : Inv 0 l news) (hr : h.IsItemsView r D) (hD : h₀.get? D = some od) (hod : od.IsDictOf (strKind prog w) kvs)
    (body_ok : ∀ i v1 v2 dsl h tk l news, i < kvs.length → (∃ k, kvs[i]? = some (k, v2) ∧ IsS k v1) → Inv i l news → Fr h₀ L h (frm ((b, v2) :: (a, v1) :: l)) → News h₀ L h (dsl ++ news) → (∀ p ∈ news, p.1 ∉ dsl.map (·.1)) →
      WP prog w A (execs body env) (TurnDQ h₀ L dsl g d os (fun l' news' => Inv (i + 1) l' news' ∧ ∀ p ∈ news', p.1 ∉ dsl.map (·.1)) (thenQ prog w A env rest Q .next) (fun v => Q (.ret v))) ⟨h, g, d, tk, os⟩)
    (end_ok : ∀ h tk l news, Inv kvs.length l news → Fr h₀ L h (frm l) → News h₀ L h news → WP prog w A (execs orelse env) (thenQ prog w A env rest Q) ⟨h, g, d, tk, os⟩)
    (hL : LocalEnv env L) (ha : env.kindOf a = some .local) (hb : env.kindOf b = some .local) :
    ForAt prog w A env (.Tuple [.Name a pa, .Name b pb] kk tp) body orelse rest Q (.ref r) ⟨h, g, d, tk, os⟩ := by
  intro R hR
  have Dd : h.DictOf (strKind prog w) D kvs := Heap.dictOf_iff.mpr ⟨od, F.keep _ _ hD, hod⟩
  obtain ⟨ep, hat⟩ := Dd.dictAt
  refine wpAny_pyIter_items (s := ⟨h, g, d, tk, os⟩) hr hat ?_
  have hne : ∀ q ∈ news, q.1 ≠ h.objs.size := fun q hq => Nat.ne_of_lt (Heap.lt_size (N q hq).1)
  generalize hob : ({ cls := .type "dict_itemiterator", data := .fields #[.none, .bool false, .ref D, .int 0 0, .int kvs.length 0, .int ep 0, .none, .none] } : Obj) = ob
  have lp : Le h (h.push ob) := fun b o e => Heap.get?_push_of_some _ e
  have hDs : D ≠ h.objs.size := Nat.ne_of_lt (Heap.lt_size (F.keep _ _ hD))
  have hLD : L ≠ D := fun e => by
    have := Heap.lt_size hD
    rw [← e] at this
    exact absurd (Nat.lt_of_lt_of_le this F.above) (Nat.lt_irrefl _)
  refine code_for2 (wr := [h.objs.size]) (itOf_items (ep := ep) (d := D) (it := h.objs.size) (knd := strKind prog w) (kvs := kvs) hh hDs) (fun _ => od) (dsl := [(h.objs.size, ob)]) Inv hh hL ha hb ?_ ?_ ?_ ?_ h0 (fr_up F lp) rfl (N.push F ob (by rw [← hob]; rfl)) (fun p hp q => hne p hp (List.mem_singleton.mp q)) ?_
  · intro q
    rcases List.mem_cons.mp q with e | q
    · exact absurd F.ns.lt (by rw [e]; exact Nat.lt_irrefl _)
    · exact hLD (List.mem_singleton.mp q)
  · intro i l news hI b hb hw
    rcases List.mem_cons.mp hb with rfl | hb
    · exact absurd (.head _) hw
    · rw [List.mem_singleton.mp hb]; exact .inl hD
  · rintro i v1 v2 dsl h tk l news hi ⟨k, hk, hkv⟩ hI hd F N hne
    refine (body_ok i v1 v2 dsl h tk l news hi ⟨k, hk, Value.isStrOf_shape hkv⟩ hI F N (by rw [hd]; exact hne)).mono fun f s' hq => ?_
    simp only [hd] at hq
    cases f with
    | next => exact hq
    | cont => exact hq
    | brk => exact hR .next s' hq
    | ret v => exact hR (.ret v) s' hq
  · intro h tk l news hI F N
    exact (end_ok h tk l news hI F N).mono fun f s' hq => hR f s' hq
  · refine ⟨⟨_, _, by rw [← hob]; exact Heap.get?_push_size _ rfl⟩, hat.push _⟩
/-- two names over enumerate of a list -/
theorem for_enum {a b : Str} {pa pb tp : Pos} {kk : Nat} {body orelse rest : List Stmt} {e it ax : Addr} {oi ob : Obj} {items : List Value} (Inv : Nat → List (Str × Value) → List (Addr × Obj) → Prop) (hh : A.handled = none)
    (F : Fr h₀ L h (frm l)) (N : News h₀ L h ([(e, enumO it), (it, oi)] ++ news)) (hoi : oi.cls = .type "list_iterator" ∧ oi.data = .fields #[.ref ax, .int (0 : Nat) 0]) (hei : e ≠ it) (hne : ∀ p ∈ news, p.1 ≠ e ∧ p.1 ≠ it) (h0 : Inv 0 l news) (hx : h₀.get? ax = some ob) (hob : ob.cls = .type "list" ∧ ∃ n, ob.data = .seq items.toArray n)
    (body_ok : ∀ i v1 v2 dsl h tk l news, i < items.length → IsI i v1 → items[i]? = some v2 → Inv i l news → Fr h₀ L h (frm ((b, v2) :: (a, v1) :: l)) → News h₀ L h (dsl ++ news) → (∀ p ∈ news, p.1 ∉ dsl.map (·.1)) →
      WP prog w A (execs body env) (TurnDQ h₀ L dsl g d os (fun l' news' => Inv (i + 1) l' news' ∧ ∀ p ∈ news', p.1 ∉ dsl.map (·.1)) (thenQ prog w A env rest Q .next) (fun v => Q (.ret v))) ⟨h, g, d, tk, os⟩)
    (end_ok : ∀ h tk l news, Inv items.length l news → Fr h₀ L h (frm l) → News h₀ L h news → WP prog w A (execs orelse env) (thenQ prog w A env rest Q) ⟨h, g, d, tk, os⟩)
    (hL : LocalEnv env L) (ha : env.kindOf a = some .local) (hb : env.kindOf b = some .local) :
    ForAt prog w A env (.Tuple [.Name a pa, .Name b pb] kk tp) body orelse rest Q (.ref e) ⟨h, g, d, tk, os⟩ := by
  intro R hR
  have he := N _ (.head _)
  have hi := N _ (.tail _ (.head _))
  refine wpAny_pyIter_enum (s := ⟨h, g, d, tk, os⟩) he.1 ?_
  have hax := F.keep _ _ hx
  have axl : ax ≠ L := fun q => by have := Heap.lt_size hx; rw [q] at this; exact absurd (Nat.lt_of_lt_of_le this F.above) (Nat.lt_irrefl _)
  have ae : ax ≠ e := fun q => by rw [q, he.2.2] at hx; cases hx
  have ai : ax ≠ it := fun q => by rw [q, hi.2.2] at hx; cases hx
  have W := WalksT.enumerate (prog := prog) (w := w) (A := A) hh e it ax hei ae ai items.toArray
  have W2 := ItOf2.ofT (P := fun i v1 v2 => IsI i v1 ∧ items[i]? = some v2) W (fun i vals ⟨t, x, hx, hv⟩ => ⟨.int i t, x, hv, isI, by simpa using hx⟩) (fun i h ⟨⟨old, h1⟩, h2, h3⟩ b hb => by
    rcases List.mem_cons.mp hb with rfl | hb
    · exact ⟨_, h1⟩
    rcases List.mem_cons.mp hb with rfl | hb
    · obtain ⟨o, ho, _⟩ := h2; exact ⟨o, ho⟩
    · rw [List.mem_singleton.mp hb]; obtain ⟨o, ho, _⟩ := h3; exact ⟨o, ho⟩)
  refine code_for2 (wr := [e, it]) (n := items.toArray.size) W2 (fun _ => ob) (dsl := [(e, enumO it), (it, oi)]) Inv hh hL ha hb ?_ ?_ ?_ ?_ h0 F rfl N ?_ ?_
  · intro q
    rcases List.mem_cons.mp q with q | q
    · exact he.2.1 q.symm
    rcases List.mem_cons.mp q with q | q
    · exact hi.2.1 q.symm
    · exact axl (List.mem_singleton.mp q).symm
  · intro i l news hI b hb hw
    rcases List.mem_cons.mp hb with rfl | hb
    · exact absurd (.head _) hw
    rcases List.mem_cons.mp hb with rfl | hb
    · exact absurd (.tail _ (.head _)) hw
    · rw [List.mem_singleton.mp hb]; exact .inl hx
  · rintro i v1 v2 dsl h tk l news hi ⟨hv1, hv2⟩ hI hd F N hne
    refine (body_ok i v1 v2 dsl h tk l news (by simpa using hi) hv1 hv2 hI F N (by rw [hd]; exact hne)).mono fun f s' hq => ?_
    simp only [hd] at hq
    cases f with
    | next => exact hq
    | cont => exact hq
    | brk => exact hR .next s' hq
    | ret v => exact hR (.ret v) s' hq
  · intro h tk l news hI F N
    rw [List.size_toArray] at hI
    exact (end_ok h tk l news hI F N).mono fun f s' hq => hR f s' hq
  · intro p hp q
    rcases List.mem_cons.mp q with q | q
    · exact (hne p hp).1 q
    · exact (hne p hp).2 (List.mem_singleton.mp q)
  · exact ⟨⟨_, he.1⟩, ⟨oi, hi.1, hoi⟩, ob, hax, hob.1, hob.2⟩
end
end Mine
end
section
set_option maxRecDepth 100000
set_option linter.unusedVariables false
open PySem PySem.W PyProof.Rows PySem.Calls PySem.Spec
namespace Mine
local macro_rules | `(tactic| walk_at "lk") => `(tactic| repeat (first | with_reducible exact frm_head | with_reducible assumption | with_reducible refine frm_tail (by kernel_rfl) ?_))
local macro_rules | `(tactic| walk_at "zl") => `(tactic| (refine ex_local (Fr.ns (by assumption)) (by walk_at "lk") ?_ (by kernel_rfl) (by kernel_rfl) (by kernel_rfl); first | exact isI | exact isS | exact isB | rfl))
section
variable {prog : Program} {w : World} {A : Around} {h : Heap}
theorem cl_listL {a : Addr} {vs : List Value} (hl : h.IsList a vs.toArray) (hz : vs.length ≤ 1000) : EX prog w A (call (.type "list") [.ref a]) h (fun v new => ∃ b n, v = .ref b ∧ new = [(b, lobj vs n)]) := ⟨fun h' g d tk os Q E le H => by
  obtain ⟨o, ho, hc, n, hd⟩ := list_up hl le
  refine call_list_seq (s := ⟨h', g, d, tk, os⟩) a (.inl rfl) ho hc hd (fun h2 c' hk hg => ?_) (by rw [List.size_toArray]; exact Nat.le_trans hz (by decide))
  refine H _ [(h'.objs.size, lobj vs c')] h2 tk hk (fun p hp => ?_) ⟨_, c', rfl, rfl⟩
  rw [List.mem_singleton.mp hp]
  exact ⟨hg, sizeNone⟩⟩
theorem valueAt_sta {res : List (Sta × Addr × Nat)} {s : Sta} {i : Nat} (hs : stas[i]? = some s) (hres : res.map (·.1) = stas.take i) : valueAt (res.map fun r => (r.1.str, Value.ref r.2.1)) s.str = none := by
  have hi : i < 3 := (List.getElem?_eq_some_iff.mp hs).1
  have hmem : ∀ r ∈ res, r.1 ≠ s := fun r hr e => by
    have : r.1 ∈ stas.take i := by rw [← hres]; exact List.mem_map_of_mem hr
    rw [e] at this
    have hi3 : i = 0 ∨ i = 1 ∨ i = 2 := by omega
    rcases hi3 with rfl | rfl | rfl <;> simp at hs this <;> subst hs <;> simp at this
  unfold valueAt
  rw [Option.map_eq_none_iff, List.find?_eq_none]
  intro kv hkv
  obtain ⟨r, hr, rfl⟩ := List.mem_map.mp hkv
  have := hmem r hr
  simp only [decide_eq_true_eq]
  intro e
  apply this
  revert e
  cases r.1 <;> cases s <;> decide +kernel
end
section
variable {w : World} {A : Around} {h : Heap}
set_option maxHeartbeats 4000000
theorem inherit_place {ax : Addr} {vals : List Value} (T : TX w h) (hh : A.handled = none) (hd' : A.depth + 20 < recursionLimit) (hl : h.IsList ax vals.toArray) (ht : ∀ v ∈ vals, ∃ a vs, v = .ref a ∧ h.IsTuple a vs) :
    EX PG w A (call (.ref 498) [.ref ax]) h (Im (· = .none)) := by
  refine ex_def T.X T.lim (by k_is) (by k_is) (by omega) (fun s X => BindsTo.of_eq rfl) (locs rfl) ?_ (by decide) rfl rfl rfl
  intro h1 L' hh' g d tk os le F
  change Fr _ _ _ (frm [(Str.ofString "items", _)]) at F
  have T1 := T.up le
  have T2 := T1.up F.keep
  refine st_for F News.nil (V := fun v new => ∃ e it oi, v = .ref e ∧ new = [(e, enumO it), (it, oi)] ∧ oi.cls = .type "list_iterator" ∧ oi.data = .fields #[.ref ax, .int (0 : Nat) 0] ∧ e ≠ it)
    (ex_callK (fv := .type "enumerate") (ex_builtin T2 (by k_is) (by kernel_rfl) (by decide) rfl (by kernel_rfl) (by kernel_rfl) (by kernel_rfl) (by kernel_rfl) (by kernel_rfl)) (cw_type (exs_one (V1 := Im (· = .ref ax)) (by walk_at "zl")) (by
      rintro vs new h5 le5 hn ⟨v, rfl, rfl, rfl⟩
      exact EX.mono (cl_enum (A := A.deeper _) (list_up hl ((le.trans F.keep).trans le5))) fun v new hv => by rw [List.append_nil]; exact hv))) ?_
  rintro v new h2 tk2 ⟨e, it, oi, rfl, rfl, hc, hdt, hne⟩ F N dj
  obtain ⟨ob, hob, hob2⟩ := id (list_up hl le)
  refine for_enum (items := vals) (fun i l news => news = []) hh F N ⟨hc, hdt⟩ hne (fun p hp => nomatch hp) rfl hob hob2 ?_ ?_ ⟨rfl, rfl⟩ (by kernel_rfl) (by kernel_rfl)
  · rintro i v1 v2 dsl h3 tk3 l news hi - hv2 rfl F N -
    have T3 := T1.up F.keep
    obtain ⟨a, vs, rfl, hta⟩ := ht v2 (List.mem_of_getElem? hv2)
    refine st_skip F N (et_isc (C := 349) (P := (· = .ref a)) T3 (by walk_at "zl") (fun v hv => by subst hv; exact cl_isn_tup (C := 349) T3.X (by k_not) (tuple_up hta (le.trans F.keep))) (by kernel_rfl) rfl rfl rfl (ex_global T3 (by k_is) rfl (by kernel_rfl) (by kernel_rfl) (by kernel_rfl) (by kernel_rfl))) fun h4 tk4 F N => ?_
    exact wp_nil ⟨h4, tk4, _, [], rfl, F, N, rfl, fun p hp => nomatch hp⟩
  · rintro h3 tk3 l news rfl F N
    refine wp_nil (thenQ_next (st_ret F N (V := Im (· = .none)) ex_none ?_))
    rintro v new h4 tk4 ⟨rfl, rfl⟩ F N
    exact ret_of (new := []) F N (fun q hq => nomatch hq) ⟨rfl, rfl⟩
/-- what merging gives: the table anew, its lists copied -/
theorem merged {Tt td : Addr} {la : Sta → Addr} {vals : Sta → List Value} (T : TX w h) (hh : A.handled = none) (hd' : A.depth + 60 < recursionLimit) (hT : h.IsTuple Tt [Value.ref td].toArray) (hD : h.DictOf (strKind PG w) td (tabK la)) (hs : (td == sysModules) = false)
    (hl : ∀ s, h.IsList (la s) (vals s).toArray) (ht : ∀ s, ∀ v ∈ vals s, ∃ a vs, v = .ref a ∧ h.IsTuple a vs) (few : ∀ s, (vals s).length ≤ 900) :
    EX PG w A (call (.ref 505) [.ref Tt]) h (fun v new => ∃ (D : Addr) (od : Obj) (la' : Sta → Addr) (ns : Sta → Nat) (inh : Addr × Obj), v = .ref D ∧ 749 < D ∧ od.IsDictOf (strKind PG w) (tabK la') ∧ new = [(D, od), inh, (la' .root, lobj (vals .root) (ns .root)), (la' .first, lobj (vals .first) (ns .first)), (la' .second, lobj (vals .second) (ns .second))]) := by
  refine ex_def T.X T.lim (by k_is) (by k_is) (by omega) (fun s X => BindsTo.of_eq rfl) (locs rfl) ?_ (by decide) rfl rfl rfl
  intro h1 L' hh' g d tk os le F
  change Fr _ _ _ (frm [(Str.ofString "tables", _)]) at F
  have T1 := T.up le
  refine st_assignD F News.nil (ex_dictT (T1.up F.keep)) ?_ ⟨rfl, rfl⟩ (by kernel_rfl) (by kernel_rfl)
  rintro v new h2 tk2 ⟨D, od, rfl, rfl, hod, hDl⟩ F N -
  refine st_assignD F N (ex_dictT (T1.up F.keep)) ?_ ⟨rfl, rfl⟩ (by kernel_rfl) (by kernel_rfl)
  rintro v new h3 tk3 ⟨D2, od2, rfl, rfl, hod2, hD2l⟩ F N dj
  have neD : D2 ≠ D := dj _ (.head _) _ (.head _)
  have N3 : News h1 L' h3 ((D, od) :: (D2, od2) :: []) := fun q hq => N q (by
    simp only [List.cons_append, List.nil_append, List.mem_cons, List.not_mem_nil, or_false] at hq ⊢
    exact hq.symm)
  refine st_for_tuple (ax := Tt) (items := [.ref td]) (fun i l news => (i = 0 → news = (D, od) :: (D2, od2) :: []) ∧ (i = 1 → ∃ (od' : Obj) (la' : Sta → Addr) (ns : Sta → Nat), od'.IsDictOf (strKind PG w) (tabK la') ∧ news = [(D, od'), (D2, od2), (la' .root, lobj (vals .root) (ns .root)), (la' .first, lobj (vals .first) (ns .first)), (la' .second, lobj (vals .second) (ns .second))]) ∧
      frm l (Str.ofString "tokens") = some (.ref D) ∧ frm l (Str.ofString "inheritable") = some (.ref D2)) hh F N3 (by walk_at "zl") ⟨fun _ => rfl, (fun e => nomatch e), by walk_at "lk", by walk_at "lk"⟩ (fun i h l news _ F _ => tuple_up (tuple_up hT le) F.keep) ?_ ?_ ⟨rfl, rfl⟩ (by kernel_rfl)
  · rintro i v I o h4 tk4 l news hi hv ⟨hI0, -, n1, n2⟩ F N hnI hoc
    have hi0 : i = 0 := by simpa using hi
    subst hi0
    obtain rfl := hI0 rfl
    have hv' : v = .ref td := by simpa using hv.symm
    subst hv'
    refine st_for F N (ex_items (by walk_at "zl") (dict_up hD (le.trans F.keep)) hs) ?_
    rintro v new h5 tk5 ⟨r, rfl, rfl⟩ F N dj5
    obtain ⟨od0, hod0, hdd⟩ := Heap.dictOf_iff.mp (dict_up hD le)
    have N5 : News h1 L' h5 ((D, od) :: (D2, od2) :: ([] ++ [(r, { cls := .type "dict_items", data := .fields #[.ref td] }), (I, o)])) := fun q hq => N q (by
      simp only [List.cons_append, List.nil_append, List.mem_cons, List.not_mem_nil, or_false] at hq ⊢
      rcases hq with e | e | e | e <;> simp [e])
    have hrD := dj5 _ (.head _) _ (.tail _ (.head _))
    have hrI := dj5 _ (.head _) _ (.head _)
    have hID := hnI _ (.head _)
    have hID2 := hnI _ (.tail _ (.head _))
    have hrD2 := dj5 _ (.head _) _ (.tail _ (.tail _ (.head _)))
    refine for_items (od := od0) (kvs := tabK la) (fun i l news => ∃ od' res, news = (D, od') :: (D2, od2) :: ((res : List (Sta × Addr × Nat)).map (fun q => (q.2.1, lobj (vals q.1) q.2.2)) ++ [(r, { cls := .type "dict_items", data := .fields #[.ref td] }), (I, o)]) ∧ od'.IsDictOf (strKind PG w) (res.map fun q => (q.1.str, Value.ref q.2.1)) ∧ res.map (·.1) = stas.take i ∧ (∀ q ∈ res, q.2.1 ≠ D ∧ q.2.1 ≠ D2 ∧ q.2.1 ≠ I) ∧
      frm l (Str.ofString "tokens") = some (.ref D) ∧ frm l (Str.ofString "inheritable") = some (.ref D2)) hh F N5 ⟨od, [], rfl, hod, rfl, (fun _ hq => nomatch hq), by walk_at "lk", by walk_at "lk"⟩ ⟨_, (N _ (.head _)).1, rfl, rfl⟩ hod0 hdd ?_ ?_ ⟨rfl, rfl⟩ (by kernel_rfl) (by kernel_rfl)
    · rintro i v1 v2 dsl h6 tk6 l news hi ⟨k, hk, hkv⟩ ⟨od', res, rfl, hod', hres, hqs, n1, n2⟩ F N hne
      have hi3 : i = 0 ∨ i = 1 ∨ i = 2 := by
        have : i < 3 := hi
        omega
      have hs : ∃ s, stas[i]? = some s ∧ k = s.str ∧ v2 = .ref (la s) := by
        rcases hi3 with rfl | rfl | rfl <;> simp at hk <;> exact ⟨_, rfl, hk.1.symm, hk.2.symm⟩
      obtain ⟨s, hs, rfl, rfl⟩ := hs
      obtain ⟨ts, rfl⟩ := hkv
      have hns := valueAt_sta hs hres
      have hrl : (res.map fun q => (q.1.str, Value.ref q.2.1)).length ≤ 1000 := by
        have := congrArg List.length hres
        rw [List.length_map, List.length_take] at this
        rw [List.length_map, this]
        show min i 3 ≤ 1000
        omega
      have N6 : News h1 L' h6 ((D, od') :: (dsl ++ ((D2, od2) :: (res.map (fun q => (q.2.1, lobj (vals q.1) q.2.2)) ++ [(r, { cls := .type "dict_items", data := .fields #[.ref td] }), (I, o)])))) := fun q hq => N q (by
        simp only [List.cons_append, List.mem_append, List.mem_cons, List.not_mem_nil, or_false] at hq ⊢
        rcases hq with e | e | e | e | e | e <;> simp [e])
      have dD : ∀ q ∈ dsl, q.1 ≠ D := fun q hq e => hne (D, od') (.head _) (List.mem_map.mpr ⟨q, hq, e⟩)
      refine st_assignI (P := (· = .none)) F N6 (ex_dget1 (k := s.str) (by walk_at "zl") (Heap.dictOf_iff.mpr ⟨od', (N6 _ (.head _)).1, hod'⟩) (sys_of hDl) (by walk_at "zl") (by rw [hns]; rfl)) ?_ ⟨rfl, rfl⟩ (by kernel_rfl) (by kernel_rfl)
      rintro v h7 tk7 rfl F N
      refine st_if (b := true) F N (et_cmp (P1 := (· = .none)) (op_isnone fun v hv => by subst hv; rfl) (by walk_at "zl") ex_none) (fun _ h8 tk8 F N => ?_) fun e => nomatch e
      have T8 := T1.up F.keep
      refine st_setitem (V := fun v new => ∃ b n, v = .ref b ∧ new = [(b, lobj (vals s) n)]) (news' := fun x => (D, x) :: (dsl ++ ((D2, od2) :: (res.map (fun q => (q.2.1, lobj (vals q.1) q.2.2)) ++ [(r, { cls := .type "dict_items", data := .fields #[.ref td] }), (I, o)])))) F N (.head _) hod' hns hrl
        (ex_callK (fv := .type "list") (ex_builtin T8 (by k_is) (by kernel_rfl) (by decide) rfl (by kernel_rfl) (by kernel_rfl) (by kernel_rfl) (by kernel_rfl) (by kernel_rfl)) (cw_type (exs_one (V1 := Im (· = .ref (la s))) (by walk_at "zl")) (by
          rintro vs new h9 le9 hn ⟨v, rfl, rfl, rfl⟩
          exact EX.mono (cl_listL (A := A.deeper _) (list_up (list_up (list_up (hl s) le) F.keep) le9) (by have := few s; omega)) fun v new hv => by rw [List.append_nil]; exact hv))) (by walk_at "zl") (by walk_at "zl") (fun od'' => .head fun p hp => ?_) ?_ (by kernel_rfl)
      · rcases List.mem_append.mp hp with hp | hp
        · exact dD p hp
        rcases List.mem_cons.mp hp with rfl | hp
        · exact neD
        rcases List.mem_append.mp hp with hp | hp
        · obtain ⟨q, hq, rfl⟩ := List.mem_map.mp hp
          exact (hqs q hq).1
        rcases List.mem_cons.mp hp with rfl | hp
        · exact hrD
        · rw [List.mem_singleton.mp hp]; exact Ne.symm hID
      rintro v new od'' h9 tk9 ⟨b, nb, rfl, rfl⟩ hod'' F N dj9
      refine st_assignI (P := (· = .none)) F N (ex_callK (fv := .ref 498) (ex_global (T1.up F.keep) (by k_is) rfl (by kernel_rfl) (by kernel_rfl) (by kernel_rfl) (by kernel_rfl)) (cw_some (keeper_K (T1.up F.keep).X (by k_is)) (exs_one (V1 := Im (· = .ref (la s))) (by walk_at "zl")) (by
          rintro vs new h10 le10 hn ⟨v, rfl, rfl, rfl⟩
          exact EX.mono (inherit_place (A := A.deeper _) ((T1.up F.keep).up le10) hh (by rw [depth_deeper]; omega) (list_up (hl s) ((le.trans F.keep).trans le10)) (fun v hv => by
            obtain ⟨a, vs, e, t⟩ := ht s v hv
            exact ⟨a, vs, e, tuple_up t ((le.trans F.keep).trans le10)⟩)) fun v new hv => by rw [List.append_nil]; exact hv))) ?_ ⟨rfl, rfl⟩ (by kernel_rfl) (by kernel_rfl)
      rintro v h10 tk10 rfl F N
      refine st_if (b := true) F N (et_cmp (P1 := (· = .none)) (op_isnone fun v hv => by subst hv; rfl) (by walk_at "zl") ex_none) (fun _ h11 tk11 F N => ?_) fun e => nomatch e
      refine st_cont ?_
      show TurnD _ _ _ _ _ _ _ _
      refine ⟨h11, tk11, _, (D, od'') :: (D2, od2) :: ((res ++ [(s, b, nb)]).map (fun q => (q.2.1, lobj (vals q.1) q.2.2)) ++ [(r, { cls := .type "dict_items", data := .fields #[.ref td] }), (I, o)]), rfl, F, fun q hq => N q ?_, ⟨od'', res ++ [(s, b, nb)], rfl, ?_, ?_, ?_, by walk_at "lk", by walk_at "lk"⟩, ?_⟩
      · rw [List.map_append] at hq
        simp only [List.cons_append, List.mem_append, List.mem_cons, List.not_mem_nil, or_false, List.map_cons, List.map_nil, List.nil_append] at hq ⊢
        rcases hq with e | e | e | (e | e) | e | e <;> simp [e]
      · rw [List.map_append]; exact hod''
      · rw [List.map_append, hres, List.take_add_one, hs]; rfl
      · intro q hq
        rcases List.mem_append.mp hq with hq | hq
        · exact hqs q hq
        · rw [List.mem_singleton.mp hq]
          have z := dj9 _ (.head _)
          refine ⟨z _ (.head _), z _ (.tail _ (List.mem_append_right _ (.head _))), z _ (.tail _ (List.mem_append_right _ (.tail _ (List.mem_append_right _ (.tail _ (.head _))))))⟩
      · intro p hp
        rw [List.map_append] at hp
        simp only [List.cons_append, List.mem_append, List.mem_cons, List.not_mem_nil, or_false, List.map_cons, List.map_nil] at hp
        rcases hp with e | e | (e | e) | e | e
        · rw [e]; exact hne (D, od') (.head _)
        · rw [e]; exact hne _ (.tail _ (.head _))
        · exact hne p (.tail _ (.tail _ (List.mem_append_left _ e)))
        · rw [e]
          intro q
          obtain ⟨y, hy, hye⟩ := List.mem_map.mp q
          exact dj9 _ (.head _) y (.tail _ (List.mem_append_left _ hy)) hye.symm
        · rw [e]; exact hne _ (.tail _ (.tail _ (List.mem_append_right _ (.head _))))
        · rw [e]; exact hne _ (.tail _ (.tail _ (List.mem_append_right _ (.tail _ (.head _)))))
    · rintro h6 tk6 l news ⟨od', res, rfl, hod', hres, hqs, n1, n2⟩ F N
      have h3 : ∃ a0 v0 a1 v1 a2 v2, res = [(Sta.root, a0, v0), (Sta.first, a1, v1), (Sta.second, a2, v2)] := by
        match res, hres with
        | [(s0, a0, v0), (s1, a1, v1), (s2, a2, v2)], hres =>
          simp at hres
          obtain ⟨rfl, rfl, rfl⟩ := hres
          exact ⟨a0, v0, a1, v1, a2, v2, rfl⟩
      obtain ⟨a0, v0, a1, v1, a2, v2, rfl⟩ := h3
      refine wp_nil (thenQ_next (wp_nil ⟨h6, tk6, l, [(D, od'), (D2, od2), (a0, lobj (vals .root) v0), (a1, lobj (vals .first) v1), (a2, lobj (vals .second) v2)], rfl, F, fun q hq => N q ?_, ⟨(fun e => nomatch e), fun _ => ⟨od', fun s => match s with | .root => a0 | .first => a1 | .second => a2, fun s => match s with | .root => v0 | .first => v1 | .second => v2, hod', rfl⟩, n1, n2⟩, fun p hp => ?_⟩))
      · simp only [List.cons_append, List.mem_append, List.mem_cons, List.not_mem_nil, or_false, List.map_cons, List.map_nil, List.nil_append] at hq ⊢
        rcases hq with e | e | e | e | e | e <;> simp [e]
      · simp only [List.mem_cons, List.not_mem_nil, or_false] at hp
        rcases hp with e | e | e | e | e
        · rw [e]; exact hID
        · rw [e]; exact hID2
        · rw [e]; exact (hqs _ (.head _)).2.2
        · rw [e]; exact (hqs _ (.tail _ (.head _))).2.2
        · rw [e]; exact (hqs _ (.tail _ (.tail _ (.head _)))).2.2
  · rintro h4 tk4 l news ⟨-, hI1, n1, n2⟩ F N
    obtain ⟨od', la', ns, hod', rfl⟩ := hI1 rfl
    refine wp_nil (thenQ_next (st_ret F N (V := Im (· = .ref D)) (by walk_at "zl") ?_))
    rintro v new h5 tk5 ⟨rfl, rfl⟩ F N
    exact ret_of (new := [(D, od'), (D2, od2), (la' .root, lobj (vals .root) (ns .root)), (la' .first, lobj (vals .first) (ns .first)), (la' .second, lobj (vals .second) (ns .second))]) F N (fun q hq => hq) ⟨D, od', la', ns, _, rfl, hDl, hod', rfl⟩
theorem get_tokendefs {lx dl Tt td : Addr} {es : List DictEntry} {n : Nat} {la : Sta → Addr} {vals : Sta → List Value} (T : TX w h) (hh : A.handled = none) (hd' : A.depth + 80 < recursionLimit) (i1 : h.get? lx = some (instObj 725 dl)) (i2 : h.get? dl = some (dictOf es n)) (gt : getL (Str.ofString "tables") es = some (some (.ref Tt)))
    (hT : h.IsTuple Tt [Value.ref td].toArray) (hD : h.DictOf (strKind PG w) td (tabK la)) (hs : (td == sysModules) = false)
    (hl : ∀ s, h.IsList (la s) (vals s).toArray) (ht : ∀ s, ∀ v ∈ vals s, ∃ a vs, v = .ref a ∧ h.IsTuple a vs) (few : ∀ s, (vals s).length ≤ 900) :
    EX PG w A (call (.ref 555) [.ref lx]) h (fun v new => ∃ (D : Addr) (od : Obj) (la' : Sta → Addr) (ns : Sta → Nat) (inh : Addr × Obj), v = .ref D ∧ 749 < D ∧ od.IsDictOf (strKind PG w) (tabK la') ∧ new = [(D, od), inh, (la' .root, lobj (vals .root) (ns .root)), (la' .first, lobj (vals .first) (ns .first)), (la' .second, lobj (vals .second) (ns .second))]) := by
  refine ex_def T.X T.lim (by k_is) (by k_is) (by omega) (fun s X => BindsTo.of_eq rfl) (locs rfl) ?_ (by decide) rfl rfl rfl
  intro h1 L' hh' g d tk os le F
  change Fr _ _ _ (frm [(Str.ofString "cls", _)]) at F
  have T1 := T.up le
  have T2 := T1.up F.keep
  have lz := le.trans F.keep
  refine st_ret F News.nil (V := fun v new => ∃ (D : Addr) (od : Obj) (la' : Sta → Addr) (ns : Sta → Nat) (inh : Addr × Obj), v = .ref D ∧ 749 < D ∧ od.IsDictOf (strKind PG w) (tabK la') ∧ new = [(D, od), inh, (la' .root, lobj (vals .root) (ns .root)), (la' .first, lobj (vals .first) (ns .first)), (la' .second, lobj (vals .second) (ns .second))])
    (ex_callK (fv := .ref 505) (ex_global T2 (by k_is) rfl (by kernel_rfl) (by kernel_rfl) (by kernel_rfl) (by kernel_rfl)) (cw_some (keeper_K T2.X (by k_is)) (exs_one (V1 := Im (· = .ref Tt)) (ex_at (by walk_at "zl") F T1.X (inst_mk (lz _ _ i1) (lz _ _ i2)) (by k_is) (by k_is) (by k_is) (by k_is) gt rfl rfl)) (by
      rintro vs new h10 le10 hn ⟨v, rfl, rfl, rfl⟩
      have l10 := lz.trans le10
      exact EX.mono (merged (A := A.deeper _) (T2.up le10) hh (by rw [depth_deeper]; omega) (tuple_up hT l10) (dict_up hD l10) hs (fun s => list_up (hl s) l10) (fun s v hv => by
        obtain ⟨a, vs, e, t⟩ := ht s v hv
        exact ⟨a, vs, e, tuple_up t l10⟩) few) fun v new hv => by rw [List.append_nil]; exact hv))) ?_
  rintro v new h3 tk3 hv F N
  exact ret_of (new := new) F N (fun q hq => List.mem_append_left _ hq) hv
end
end Mine
end
section
set_option maxRecDepth 100000
set_option linter.unusedVariables false
open PySem PySem.W PyProof.Rows PySem.Calls PySem.Spec
namespace Mine
section
variable {prog : Program} {w : World} {A : Around} {h : Heap} {env : Env} {E : Value → Shared → Prop} {s : Shared}
abbrev dct0 : Obj := { cls := .type "dict", data := .dict #[] }
theorem merge0 {d m : Addr} {Q : Unit → Shared → Prop} (hm : s.heap.get? m = some dct0) (hd : s.heap.get? d = some dct0) (hs : (m == sysModules) = false) (H : Q () s) : wpAny (model prog w) A (mergeMapping d (.ref m) true) Q E s := by
  have hT : s.TypeIs (.ref m) "dict" := ⟨_, hm, rfl⟩
  unfold mergeMapping
  with_reducible refine wpAny_bind ?_
  refine wpAny_isInstance (b := true) hT (by rw [isSubtype_type]; kernel_rfl) ?_
  rw [if_pos rfl]
  refine wpAny_bind (wpAny_specialOf hT PySem.F.slot_dict_iter.lookup (wpAny_bind (wpAny_pure ?_)))
  have e1 : (some (Value.builtin "dict.__iter__") == some (Value.builtin "dict.__iter__")) = true := by decide
  rw [e1]
  show wpAny _ _ (if (m == sysModules) = true then _ else _) _ _ _
  rw [if_neg (by rw [hs]; exact Bool.false_ne_true)]
  refine wpAny_bind (wpAny_dictEntries hd rfl ?_)
  show wpAny _ _ (if ((#[] : Array DictEntry).isEmpty) = true then _ else _) _ _ _
  rw [if_pos (show (#[] : Array DictEntry).isEmpty = true from rfl)]
  refine wpAny_bind (wpAny_dictEntries hm rfl ?_)
  refine wpAny_bind (wpAny_of_eq (a := ⟨⟩) (by rfl) ?_)
  refine wpAny_bind (wpAny_dictEntries hm rfl ?_)
  refine wpAny_bind (wpAny_dictEpoch hm rfl ?_)
  exact wpAny_of_eq (a := ⟨⟩) (by rfl) H
theorem evalArgs_ds {f : Value} {x a : Sem Value} {rest : List (Bool × Sem Value)} {Q : Args → Shared → Prop}
    (H : wpAny (model prog w) A (spliced ((false, a) :: rest)) (fun vs s1 => wpAny (model prog w) A x (fun v s2 => ∃ O, v = .ref O ∧ s2.heap.get? O = some dct0 ∧ (O == sysModules) = false ∧ s2.heap.get? s1.heap.objs.size = some dct0 ∧ Q ⟨vs, []⟩ s2) E { s1 with heap := s1.heap.push dct0 }) E s) :
    wpAny (model prog w) A (evalArgs f true ((false, a) :: rest) [(none, x)]) Q E s := by
  unfold evalArgs
  show wpAny (model prog w) A (spliced ((false, a) :: rest) >>= _) Q E s
  refine wpAny_bind (wpAny_mono H (fun vs s1 h1 => ?_) fun _ _ x => x)
  refine wpAny_holding ?_
  show wpAny _ _ (mergedKeywords f [(none, x)] >>= _) _ _ _
  refine wpAny_bind ?_
  unfold mergedKeywords
  refine wpAny_bind (wpAny_alloc ?_)
  refine wpAny_bind (wpAny_holding ?_)
  refine wpAny_bind ?_
  rw [List.forIn_cons]
  refine wpAny_bind ?_
  refine wpAny_bind (wpAny_of_eq (a := ⟨⟩) (by rfl) ?_)
  refine wpAny_bind (wpAny_mono h1 (fun v s2 hv => ?_) fun _ _ e => e)
  obtain ⟨O, rfl, hO, hs, hd, hq⟩ := hv
  refine wpAny_bind (wpAny_onRaise (wpAny_holding (wpAny_tryCatch (wpAny_onRaise (merge0 hO hd hs ?_)))))
  refine wpAny_pure ?_
  dsimp only
  rw [List.forIn_nil]
  refine wpAny_pure ?_
  refine wpAny_of_eq (a := ⟨⟩) (by rfl) ?_
  refine wpAny_pure ?_
  refine wpAny_bind (wpAny_pure (wpAny_bind (wpAny_holding ?_)))
  unfold keywordsIn
  refine wpAny_bind (wpAny_dictEntries hd rfl ?_)
  refine wpAny_of_eq (a := []) (by rfl) ?_
  exact wpAny_pure hq
/-- a call with ** -/
theorem callWith_ds {M : Model} {f : Value} {first : List Value} {pos : Pos} {Q : Value → Shared → Prop} {P : Heap → Prop} {args : List (Bool × Sem Value)} {kws : List (Option Str × Sem Value)} (hst : (args.any (·.1) || kws.any (·.1.isNone)) = true)
    (hk : ∀ h, P h → ∃ k, (k = Keeper.frame ∨ k = Keeper.machine ∨ k = Keeper.boundFrame) ∧ Looks M h (keeperOf f) k)
    (h : wpAny M A (evalArgs f true args kws) (fun a s₁ => P s₁.heap ∧ wpAny M A (call f (first ++ a.pos) a.kw) Q E s₁) E s) : wpAny M A (callWith pos f first args kws) Q E s := by
  unfold callWith
  refine wpAny_bind (wpAny_holding (wpAny_mono h (fun a s₁ h₁ => wpAny_bind (wpAny_standAt ?_)) fun _ _ x => x))
  obtain ⟨k, hk', L⟩ := hk _ h₁.1
  rw [hst]
  refine wpAny_bind (L.here ?_)
  have tail : ∀ {t : Sem Value}, wpAny M A t Q E s₁ → wpAny M A (t >>= fun r => holding [r] point >>= fun _ => pure r) Q E s₁ :=
    fun ht => wpAny_bind (wpAny_mono ht (fun r s₂ hr => wpAny_bind (wpAny_holding (wpAny_point (wpAny_pure hr)))) fun _ _ x => x)
  rcases hk' with rfl | rfl | rfl
  · exact tail (by unfold callMarked; exact Calls.wpAny_keep h₁.2)
  · exact tail (wpAny_operating h₁.2)
  · exact tail (wpAny_operating h₁.2)
end
end Mine
end
section
set_option maxRecDepth 100000
set_option linter.unusedVariables false
open PySem PySem.W PyProof.Rows PySem.Calls PySem.Spec
namespace Mine
local macro_rules | `(tactic| walk_at "lk") => `(tactic| repeat (first | with_reducible exact frm_head | with_reducible assumption | with_reducible refine frm_tail (by kernel_rfl) ?_))
local macro_rules | `(tactic| walk_at "zl") => `(tactic| (refine ex_local (Fr.ns (by assumption)) (by walk_at "lk") ?_ (by kernel_rfl) (by kernel_rfl) (by kernel_rfl); first | exact isI | exact isS | exact isB | rfl))
section
variable {prog : Program} {w : World} {A : Around} {h : Heap} {env : Env} {h₀ : Heap} {L : Addr} {l : List (Str × Value)} {news : List (Addr × Obj)} {g : Array GenState} {d : Drawn} {tk : Nat} {os : OsState} {Q : Flow → Shared → Prop}
theorem dct0_is : dct0.IsDictOf (strKind prog w) [] := by
  obtain ⟨o, ho, hi⟩ := Heap.dictOf_iff.mp (Heap.DictOf.new (knd := strKind prog w) (default : Heap))
  rw [Heap.get?_push_size _ rfl] at ho
  have := Option.some.inj ho
  subst this
  exact hi
theorem bind_kw {fd : FuncData} {args : Args} {f : Value → List (Str × Value)} (T : TX w h) (hb : bindArgs fd args = (alloc dct0 >>= fun t => Pure.pure (f (.ref t)))) :
    EX prog w A (bindArgs fd args) h (fun binds new => ∃ a, binds = f (.ref a) ∧ new = [(a, dct0)] ∧ 749 < a) := ⟨fun h1 g d tk os Q E le H => by
  rw [hb]
  have h7 : 749 < h1.objs.size := Heap.lt_size ((T.up le).X 749 _ (by k_is))
  refine wpAny_bind (wpAny_alloc (wpAny_pure ?_))
  refine H _ [(h1.objs.size, dct0)] _ _ (fun b o e => Heap.get?_push_of_some _ e) (fun p hp => ?_) ⟨_, rfl, rfl, h7⟩
  rw [List.mem_singleton.mp hp]
  exact ⟨Heap.get?_push_size _ rfl, sizeNone⟩⟩
theorem bind_both {fd : FuncData} {args : Args} {xs : List Value} {f : Value → Value → List (Str × Value)} (T : TX w h) (hz : xs.length ≤ 1000) (hb : bindArgs fd args = (newTuple xs >>= fun t => alloc dct0 >>= fun d => Pure.pure (f t (.ref d)))) :
    EX prog w A (bindArgs fd args) h (fun binds new => ∃ a b, binds = f (.ref a) (.ref b) ∧ new = [(a, tupO xs), (b, dct0)] ∧ a ≠ b ∧ 749 < b) := ⟨fun h1 g d tk os Q E le H => by
  rw [hb]
  have h7 : 749 < h1.objs.size := Heap.lt_size ((T.up le).X 749 _ (by k_is))
  refine wpAny_bind (wpAny_newTuple (wpAny_bind (wpAny_alloc (wpAny_pure ?_))) (Nat.le_trans hz (by decide)))
  have hz2 : (h1.push (tupO xs)).objs.size = h1.objs.size + 1 := Heap.size_push ..
  refine H _ [(h1.objs.size, tupO xs), ((h1.push (tupO xs)).objs.size, dct0)] _ _ (fun b o e => Heap.get?_push_of_some _ (Heap.get?_push_of_some _ e)) (fun p hp => ?_) ⟨_, _, rfl, rfl, by rw [hz2]; exact Nat.ne_of_lt (Nat.lt_succ_self _), by rw [hz2]; exact Nat.lt_succ_of_lt h7⟩
  rcases List.mem_cons.mp hp with rfl | hp
  · exact ⟨Heap.get?_push_of_some _ (Heap.get?_push_size _ rfl), sizeNone⟩
  · rw [List.mem_singleton.mp hp]
    refine ⟨Heap.get?_push_size _ rfl, ?_⟩
    have lp : Le h1 (h1.push (tupO xs)) := fun b o e => Heap.get?_push_of_some _ e
    exact lp.none sizeNone⟩
/-- C.meth(e, **k), k empty, that turns some of the ledger -/
theorem st_baseInit {o e kx : Expr} {name : Str} {ap cp pos kp : Pos} {rest : List Stmt} {C f x O : Addr} {hid rst : List (Addr × Obj)} {V : Value → List (Addr × Obj) → Prop} {m : Str → Option Value} (F : Fr h₀ L h m) (N : News h₀ L h (hid ++ rst)) (dj : ∀ p ∈ rst, ∀ q ∈ hid, p.1 ≠ q.1)
    (ho : EX prog w A (eval o env) h (Im (· = .ref C))) (hg : EX prog w A (getAttr (.ref C) name true) h (Im (· = .ref f))) (he : EX prog w A (eval e env) h (Im (· = .ref x))) (hx : EX prog w A (eval kx env) h (Im (· = .ref O))) (hO : h.get? O = some dct0) (hs : (O == sysModules) = false) (hk : Keeper3 (model prog w) h (.ref f))
    (hc : ∀ h2, Le h h2 → MZ prog w A (call (.ref f) [.ref x]) h2 (hid.map (·.1)) V)
    (H : ∀ v new h' tk', V v new → Fr h₀ L h' m → News h₀ L h' (new ++ rst) → WP prog w A (execs rest env) Q ⟨h', g, d, tk', os⟩)
    (hr : eval (.Call (.Attribute o name ap) [e] [⟨none, kx, kp⟩] cp) env = (do
      let ov ← eval o env
      standAt ap.atName
      let (f, first) ← holding [ov] (do pure (← getAttr ov name true, []))
      callWith cp f first (backTo cp (starEach [e] env)) (backToKw cp (keywordEach [⟨none, kx, kp⟩] env)))) (hse : starEach [e] env = [(false, eval e env)]) (hke : keywordEach [⟨none, kx, kp⟩] env = [(none, eval kx env)]) (hi : interactive env = false) (hsw : swapsWith (.Call (.Attribute o name ap) [e] [⟨none, kx, kp⟩] cp) none pos.line env = pure false) :
    WP prog w A (execs (.Expr (.Call (.Attribute o name ap) [e] [⟨none, kx, kp⟩] cp) pos :: rest) env) Q ⟨h, g, d, tk, os⟩ := by
  refine wp_cons ⟨?_⟩
  refine wpAny_Expr_any ?_ hi hsw
  rw [hr]
  refine wpAny_bind (ho.at fun a n1 h1 tk1 l1 f1 ha => ?_)
  rw [ha.2]
  refine wpAny_bind (wpAny_standAt (wpAny_bind (wpAny_holding (wpAny_bind (hg.run h1 g d tk1 os _ _ l1 fun fx n2 h2 tk2 l2 f2 hfx => wpAny_pure ?_)))))
  rw [hfx.2, hse, hke]
  refine callWith_ds (P := fun h' => Le h2 h') rfl (fun h' l => hk h' ((l1.trans l2).trans l)) ?_
  show wpAny _ _ (evalArgs (.ref f) true ((false, eval e env) :: []) [(none, (do let v ← eval kx env; standAt cp; pure v))]) _ _ _
  refine evalArgs_ds ?_
  have hsp : EX prog w A (spliced ((false, eval e env) :: [])) h (Im (· = [.ref x])) := by
    have z := (exs_one (p := cp) he hse)
    rw [hse] at z
    exact z.mono fun vs n hv => by obtain ⟨v, rfl, rfl, rfl⟩ := hv; exact ⟨rfl, rfl⟩
  refine hsp.run h2 g d tk2 os _ _ (l1.trans l2) fun vs n3 h3 tk3 l3 f3 hvs => ?_
  rw [hvs.2]
  have lp : Le h3 (h3.push dct0) := fun b o e => Heap.get?_push_of_some _ e
  have lz := ((l1.trans l2).trans l3).trans lp
  refine wpAny_bind (hx.run (h3.push dct0) g d tk3 os _ _ lz fun v n4 h4 tk4 l4 f4 hv => wpAny_bind (wpAny_standAt (wpAny_pure ?_)))
  have l5 := lz.trans l4
  refine ⟨O, hv.2, l5 _ _ hO, hs, l4 _ _ (Heap.get?_push_size _ rfl), (l3.trans lp).trans l4, ?_⟩
  exact (hc h4 l5).lgr (fr_up F l5) (nw_up N l5) dj fun v new h' tk' hv F' N' _ _ => (H v new h' tk' hv F' N').run
/-- one name over a tuple -/
theorem for_tuple {x : Str} {p : Pos} {body orelse rest : List Stmt} {ax : Addr} {items : List Value} (Inv : Nat → List (Str × Value) → List (Addr × Obj) → Prop) (hh : A.handled = none)
    (F : Fr h₀ L h (frm l)) (N : News h₀ L h news) (h0 : Inv 0 l news)
    (src : ∀ i h l news, Inv i l news → Fr h₀ L h (frm l) → News h₀ L h news → h.IsTuple ax items.toArray)
    (body_ok : ∀ i v I o h tk l news, i < items.length → items[i]? = some v → Inv i l news → Fr h₀ L h (frm ((x, v) :: l)) → News h₀ L h ((I, o) :: news) → (∀ p ∈ news, p.1 ≠ I) →
      WP prog w A (execs body env) (TurnQ h₀ L I o g d os (fun l' news' => Inv (i + 1) l' news' ∧ ∀ p ∈ news', p.1 ≠ I) (thenQ prog w A env rest Q .next) (fun v => Q (.ret v))) ⟨h, g, d, tk, os⟩)
    (end_ok : ∀ h tk l news, Inv items.length l news → Fr h₀ L h (frm l) → News h₀ L h news → WP prog w A (execs orelse env) (thenQ prog w A env rest Q) ⟨h, g, d, tk, os⟩)
    (hL : LocalEnv env L) (hl : env.kindOf x = some .local) :
    ForAt prog w A env (.Name x p) body orelse rest Q (.ref ax) ⟨h, g, d, tk, os⟩ := by
  intro R hR
  refine iter_tuple (s := ⟨h, g, d, tk, os⟩) (src 0 h l news h0 F N) ?_
  have hne : ∀ q ∈ news, q.1 ≠ h.objs.size := fun q hq => Nat.ne_of_lt (Heap.lt_size (N q hq).1)
  have lp : Le h (h.push { cls := .type "tuple_iterator", data := .fields #[.ref ax, .int 0 0] }) := fun b ob e => Heap.get?_push_of_some _ e
  refine code_for (itOf_tuple (ax := ax) (items := items) hh) Inv hL hl src ?_ ?_ h0 (fr_up F lp) (N.push F _) hne ⟨rfl, rfl⟩
  · intro i v o h tk l news hi hP hI hst F N hne
    refine (body_ok i v _ o h tk l news hi hP hI F N hne).mono fun f s' hq => ?_
    cases f with
    | next => exact hq
    | cont => exact hq
    | brk => exact hR .next s' hq
    | ret v => exact hR (.ret v) s' hq
  · intro h tk l news hI F N
    exact (end_ok h tk l news hI F N).mono fun f s' hq => hR f s' hq
end
section
variable {w : World} {A : Around} {h : Heap}
set_option maxHeartbeats 4000000
abbrev lexD (w : World) (t1 t2 t3 t4 t5 : Tok) (O1 FL : Addr) : List DictEntry := [ent w (Str.ofString "options") t1 (.ref O1), ent w (Str.ofString "stripnl") t2 (.bool true), ent w (Str.ofString "stripall") t3 (.bool false), ent w (Str.ofString "ensurenl") t4 (.bool true), ent w (Str.ofString "filters") t5 (.ref FL)]
theorem lexer_init {hT : Heap} {x dx : Addr} (T : TX w hT) (hle : Le hT h) (n1 : hT.get? x = none) (n2 : hT.get? dx = none) (g1 : h.get? x = some (instObj 725 dx)) (g2 : h.get? dx = some emptyDict) (hne : dx < x) (hh : A.handled = none) (hd' : A.depth + 20 < recursionLimit) :
    MZ PG w A (call (.ref 282) [.ref x]) h [x, dx] (fun v new => v = .none ∧ ∃ t1 t2 t3 t4 t5 O1 FL, new = [(x, instObj 725 dx), (dx, dictOf (lexD w t1 t2 t3 t4 t5 O1 FL) 5)]) := by
  refine mz_def (hid := [(x, instObj 725 dx), (dx, emptyDict)]) (hT := hT) T.X T.lim hle (fun p hp => ?_) (fun p hp => ?_) (by k_is) (by k_is) (by omega) (bind_kw (f := fun d => [(Str.ofString "self", .ref x), (Str.ofString "options", d)]) (T.up hle) (by with_unfolding_all rfl)) (fun binds new hb => by obtain ⟨a, rfl, -⟩ := hb; exact locs rfl) ?_ (by decide) rfl rfl rfl
  · rcases List.mem_cons.mp hp with rfl | hp
    · exact n1
    · rw [List.mem_singleton.mp hp]; exact n2
  · rcases List.mem_cons.mp hp with rfl | hp
    · exact g1
    · rw [List.mem_singleton.mp hp]; exact g2
  rintro gB L' hh' g d tk os binds new leT keep ⟨O1, rfl, rfl, hO1⟩ dj F N
  change Fr _ _ _ (frm [(Str.ofString "options", .ref O1), (Str.ofString "self", .ref x)]) at F
  have TB := T.up leT
  have X1 := TB.X
  have nO := dj _ (.head _) _ (.tail _ (.head _))
  have nX : x ≠ dx := Nat.ne_of_gt hne
  refine st_setattr F X1 N (V := Im (fun v => v = _)) (by walk_at "zl") (by walk_at "zl") (.tail _ (.head _)) (.tail _ (.tail _ (.head _))) (fun t v => .tail nO (.tail nX (.head (fun _ hp => nomatch hp)))) ?_ (by k_is) (by k_is) (by k_is) (by k_is) (by kernel_rfl) (Nat.le_of_ble_eq_true (by kernel_rfl)) (by kernel_rfl)
  rintro v new t1 h2 tk2 ⟨rfl, rfl⟩ F N
  refine st_setattr F X1 N (V := Im (IsB true)) (ex_dget2 (k := Str.ofString "stripnl") (by walk_at "zl") (Heap.dictOf_iff.mpr ⟨_, (N _ (.head _)).1, dct0_is⟩) (sys_of hO1) ex_str ex_bool rfl) (by walk_at "zl") (.tail _ (.head _)) (.tail _ (.tail _ (.head _))) (fun t v => .tail nO (.tail nX (.head (fun _ hp => nomatch hp)))) ?_ (by k_is) (by k_is) (by k_is) (by k_is) (by kernel_rfl) (Nat.le_of_ble_eq_true (by kernel_rfl)) (by kernel_rfl)
  rintro v new t2 h3 tk3 ⟨rfl, rfl⟩ F N
  refine st_setattr F X1 N (V := Im (IsB false)) (ex_dget2 (k := Str.ofString "stripall") (by walk_at "zl") (Heap.dictOf_iff.mpr ⟨_, (N _ (.head _)).1, dct0_is⟩) (sys_of hO1) ex_str ex_bool rfl) (by walk_at "zl") (.tail _ (.head _)) (.tail _ (.tail _ (.head _))) (fun t v => .tail nO (.tail nX (.head (fun _ hp => nomatch hp)))) ?_ (by k_is) (by k_is) (by k_is) (by k_is) (by kernel_rfl) (Nat.le_of_ble_eq_true (by kernel_rfl)) (by kernel_rfl)
  rintro v new t3 h4 tk4 ⟨rfl, rfl⟩ F N
  refine st_setattr F X1 N (V := Im (IsB true)) (ex_dget2 (k := Str.ofString "ensurenl") (by walk_at "zl") (Heap.dictOf_iff.mpr ⟨_, (N _ (.head _)).1, dct0_is⟩) (sys_of hO1) ex_str ex_bool rfl) (by walk_at "zl") (.tail _ (.head _)) (.tail _ (.tail _ (.head _))) (fun t v => .tail nO (.tail nX (.head (fun _ hp => nomatch hp)))) ?_ (by k_is) (by k_is) (by k_is) (by k_is) (by kernel_rfl) (Nat.le_of_ble_eq_true (by kernel_rfl)) (by kernel_rfl)
  rintro v new t4 h5 tk5 ⟨rfl, rfl⟩ F N
  refine st_setattr F X1 N (V := fun v new => ∃ FL, v = .ref FL ∧ new = [(FL, lobj [] 0)]) (EX.mono (ex_list exs_nil (fun vs n hv => by rw [hv.2]; exact Nat.le_of_ble_eq_true rfl)) fun v new hv => by
      obtain ⟨a, vs, n, rfl, rfl, rfl, rfl⟩ := hv
      exact ⟨a, rfl, rfl⟩) (by walk_at "zl") (.tail _ (.head _)) (.tail _ (.tail _ (.head _))) (fun t v => .tail nO (.tail nX (.head (fun _ hp => nomatch hp)))) ?_ (by k_is) (by k_is) (by k_is) (by k_is) (by kernel_rfl) (Nat.le_of_ble_eq_true (by kernel_rfl)) (by kernel_rfl)
  rintro v new t5 h6 tk6 ⟨FL, rfl, rfl⟩ F N
  refine st_for F N (V := fun v new => ∃ a, v = .ref a ∧ new = [(a, tupO [])]) (ex_dget2 (k := Str.ofString "filters") (by walk_at "zl") (Heap.dictOf_iff.mpr ⟨_, (N _ (.tail _ (.head _))).1, dct0_is⟩) (sys_of hO1) ex_str (EX.mono (ex_tuple exs_nil (fun vs n hv => by rw [hv.2]; exact Nat.le_of_ble_eq_true rfl)) fun v new hv => by
      obtain ⟨a, vs, n, rfl, rfl, rfl, rfl⟩ := hv
      exact ⟨a, rfl, rfl⟩) rfl) ?_
  rintro v new h7 tk7 ⟨a, rfl, rfl⟩ F N djt
  refine for_tuple (items := []) (fun i l' news' => (∀ q ∈ [(a, tupO []), (x, instObj 725 dx), (dx, dictOf (lexD w t1 t2 t3 t4 t5 O1 FL) 5)], q ∈ news')) hh F N ?_ (fun i h l news hI F N => ⟨_, (N _ (hI _ (.head _))).1, rfl, _, rfl⟩) (fun i v I o h tk l news hi => absurd hi (Nat.not_lt_zero _)) ?_ ⟨rfl, rfl⟩ (by kernel_rfl)
  · intro q hq
    rcases List.mem_cons.mp hq with rfl | hq
    · exact .head _
    rcases List.mem_cons.mp hq with rfl | hq
    · exact .tail _ (.tail _ (.tail _ (.head _)))
    · rw [List.mem_singleton.mp hq]; exact .tail _ (.tail _ (.tail _ (.tail _ (.head _))))
  · intro h8 tk8 l news hI F N
    refine wp_nil (thenQ_next (wp_nil ?_))
    exact ⟨_, [(x, instObj 725 dx), (dx, dictOf (lexD w t1 t2 t3 t4 t5 O1 FL) 5)], _, _, rfl, F, fun q hq => N q (hI q (.tail _ hq)), rfl, t1, t2, t3, t4, t5, O1, FL, rfl⟩
end
end Mine
end
section
set_option maxRecDepth 100000
set_option linter.unusedVariables false
open PySem PySem.W PyProof.Rows PySem.Calls PySem.Spec
namespace Mine
local macro_rules | `(tactic| walk_at "lk") => `(tactic| repeat (first | with_reducible exact frm_head | with_reducible assumption | with_reducible refine frm_tail (by kernel_rfl) ?_))
local macro_rules | `(tactic| walk_at "zl") => `(tactic| (refine ex_local (Fr.ns (by assumption)) (by walk_at "lk") ?_ (by kernel_rfl) (by kernel_rfl) (by kernel_rfl); first | exact isI | exact isS | exact isB | rfl))
/-- a heap that holds h's objects and a ledger's alone -/
theorem restr {h hc : Heap} {led : List (Addr × Obj)} (le : Le h hc) (hl : ∀ p ∈ led, hc.get? p.1 = some p.2) : ∃ hR : Heap, Le h hR ∧ Le hR hc ∧ (∀ p ∈ led, hR.get? p.1 = some p.2) ∧ ∀ b o, hR.get? b = some o → h.get? b = some o ∨ (b, o) ∈ led := by
  let bad : List Addr := (List.range hc.objs.size).filter fun b => (h.get? b).isNone && !(led.any fun p => p.1 == b)
  refine ⟨hideAll hc bad, fun b o e => hideAll_get _ (le _ _ e) fun q => ?_, fun b o e => of_hideAll _ e, fun p hp => hideAll_get _ (hl p hp) fun q => ?_, fun b o e => ?_⟩
  · have := (List.mem_filter.mp q).2
    rw [e] at this; simp at this
  · have := (List.mem_filter.mp q).2
    simp only [Bool.and_eq_true, Bool.not_eq_true', List.any_eq_false] at this
    exact this.2 p hp (by simp)
  · have e2 := of_hideAll _ e
    cases q : h.get? b with
    | some o' =>
      have := le _ _ q
      rw [e2] at this
      exact .inl this.symm
    | none =>
      by_cases z : (led.any fun p => p.1 == b) = true
      · obtain ⟨p, hp, hb⟩ := List.any_eq_true.mp z
        have hb' : p.1 = b := by simpa using hb
        have := hl p hp
        rw [hb', e2] at this
        have h2 : p = (b, o) := Prod.ext hb' (Option.some.inj this).symm
        exact .inr (h2 ▸ hp)
      · exfalso
        have hm : b ∈ bad := List.mem_filter.mpr ⟨List.mem_range.mpr (Heap.lt_size e2), by rw [q]; simp only [Option.isNone_none, Bool.true_and, Bool.not_eq_true']; exact Bool.eq_false_iff.mpr z⟩
        rw [hideAll_none _ hm] at e; cases e
section
variable {prog : Program} {w : World} {A : Around} {h : Heap} {env : Env} {h₀ : Heap} {L : Addr} {m : Str → Option Value} {g : Array GenState} {d : Drawn} {tk : Nat} {os : OsState} {E : Value → Shared → Prop}
/-- o.meth(args) that turns some of the ledger -/
theorem ex_callZ {o : Expr} {name : Str} {ap cp : Pos} {e : Expr} {args : List Expr} {x : Addr} {fv : Value} {first : List Value} {hid rst : List (Addr × Obj)} {VA : List Value → List (Addr × Obj) → Prop} {V : List Value → List (Addr × Obj) → Heap → Value → List (Addr × Obj) → Prop} {Q : Value → Shared → Prop} (F : Fr h₀ L h m) (N : News h₀ L h (hid ++ rst)) (dj : ∀ p ∈ rst, ∀ q ∈ hid, p.1 ≠ q.1)
    (ho : EX prog w A (eval o env) h (Im (· = .ref x))) (hg : EX prog w A (getMethod (.ref x) name (plOf o env)) h (Im (· = (fv, first)))) (ha : EX prog w A (spliced (backTo cp (starEach (e :: args) env))) h VA) (hk : Keeper3 (model prog w) h fv)
    (hc : ∀ vs n3 h3, Le h h3 → VA vs n3 → Fr h₀ L h3 m → News h₀ L h3 (hid ++ (n3 ++ rst)) → (∀ p ∈ n3, ∀ q ∈ hid, p.1 ≠ q.1) → MZ prog w A (call fv (first ++ vs)) h3 (hid.map (·.1)) (V vs n3 h3))
    (H : ∀ vs n3 h3 v new h' tk', Le h h3 → News h₀ L h3 (hid ++ (n3 ++ rst)) → VA vs n3 → V vs n3 h3 v new → Fr h₀ L h' m → News h₀ L h' (new ++ (n3 ++ rst)) → (∀ p ∈ n3, ∀ q ∈ hid, p.1 ≠ q.1) → (∀ p ∈ n3, ∀ q ∈ rst, p.1 ≠ q.1) → (∀ b ob, b ∉ hid.map (·.1) → h3.get? b = some ob → h'.get? b = some ob) → (∀ p ∈ new, h3.get? p.1 = none ∨ p.1 ∈ hid.map (·.1)) → Q v ⟨h', g, d, tk', os⟩)
    (hr : MCall o name ap cp (e :: args) env) (he : starEach (e :: args) env = (false, eval e env) :: starEach args env) (hplain : (backTo cp (starEach args env)).any (·.1) = false) :
    wpAny (model prog w) A (eval (.Call (.Attribute o name ap) (e :: args) [] cp) env) Q E ⟨h, g, d, tk, os⟩ := by
  refine MethodCall_ (pl := plOf o env) (ho.at fun a n1 h1 tk1 l1 f1 ha' => ?_) hr
  rw [ha'.2]
  refine hg.run h1 g d tk1 os _ _ l1 fun fx n2 h2 tk2 l2 f2 hfx => ?_
  rw [hfx.2, he]
  refine callWith_of (P := fun h' => Le h2 h') (by show ((false || (backTo cp (starEach args env)).any (·.1)) || false) = false; rw [hplain]; rfl) (fun h' l => hk h' ((l1.trans l2).trans l)) (evalArgs_plain ?_)
  rw [he] at ha
  refine ha.run h2 g d tk2 os _ _ (l1.trans l2) fun vs n3 h3 tk3 l3 f3 hvs => ⟨l3, ?_⟩
  have lz := (l1.trans l2).trans l3
  have fz : Fresh h h3 n3 := fun p hp => ⟨(f3 p hp).1, (l1.trans l2).none (f3 p hp).2⟩
  have F3 := fr_up F lz
  have N3 : News h₀ L h3 (hid ++ (n3 ++ rst)) := fun q hq => by
    have z := nw_add F N lz fz
    rcases List.mem_append.mp hq with hq | hq
    · exact z q (List.mem_append_right _ (List.mem_append_left _ hq))
    rcases List.mem_append.mp hq with hq | hq
    · exact z q (List.mem_append_left _ hq)
    · exact z q (List.mem_append_right _ (List.mem_append_right _ hq))
  have djh : ∀ p ∈ n3, ∀ q ∈ hid ++ rst, p.1 ≠ q.1 := fun p hp q hq e => by
    have := (fz p hp).2
    rw [e, (N q hq).1] at this; cases this
  refine (hc vs n3 h3 lz hvs F3 N3 fun p hp q hq => djh p hp q (List.mem_append_left _ hq)).lgr F3 N3 (fun p hp q hq => ?_) fun v new h' tk' hv F' N' hk' hfr => H vs n3 h3 v new h' tk' lz N3 hvs hv F' N' (fun p hp q hq => djh p hp q (List.mem_append_left _ hq)) (fun p hp q hq => djh p hp q (List.mem_append_right _ hq)) hk' hfr
  rcases List.mem_append.mp hp with hp | hp
  · exact djh p hp q (List.mem_append_left _ hq)
  · exact dj p hp q hq
end
theorem RawV.up {w : World} {h h' : Heap} {r : Rl} {v : Value} (p : RawV w h r v) (le : Le h h') : RawV w h' r v := by
  obtain ⟨a, pl, tok, nt, r0, t4, k, e, p1, p2, p3, p4, p5, p6⟩ := p
  refine ⟨a, pl, tok, nt, r0, t4, k, e, p1.up le, p2.up le, p3, p4, p5, ?_⟩
  rcases p6 with ⟨hk, ht⟩ | ⟨wv, hw, ht⟩
  · exact .inl ⟨hk, tuple_up ht le⟩
  · exact .inr ⟨wv, hw, tuple_up ht le⟩
theorem RawV.tup {w : World} {h : Heap} {r : Rl} {v : Value} (p : RawV w h r v) : ∃ a vs, v = .ref a ∧ h.IsTuple a vs := by
  obtain ⟨a, pl, tok, nt, r0, t4, k, e, p1, p2, p3, p4, p5, p6⟩ := p
  rcases p6 with ⟨hk, ht⟩ | ⟨wv, hw, ht⟩
  · exact ⟨a, _, e, ht⟩
  · exact ⟨a, _, e, ht⟩
section
variable {w : World} {A : Around} {h : Heap}
set_option maxHeartbeats 4000000
theorem make_lexer {td : Addr} {la : Sta → Addr} {vals : Sta → List Value} {T : Tab} (T0 : TX w h) (hh : A.handled = none) (hd' : A.depth + 120 < recursionLimit) (hD : h.DictOf (strKind PG w) td (tabK la)) (hs : (td == sysModules) = false) (hl : ∀ s, h.IsList (la s) (vals s).toArray) (hv : ∀ s, Paired (RawV w h) (T s) (vals s)) (few : ∀ s, (vals s).length ≤ 900) :
    EX PG w A (call (.ref 725) [.ref td]) h (fun v new => ∃ lx, v = .ref lx ∧ ∀ h2, Le h h2 → (∀ p ∈ new, h2.get? p.1 = some p.2) → LX w h2 lx T) := by
  refine ex_makeB T0.X T0.lim (by k_is) (by k_is) (by k_is) (by k_is) (by k_is) (by rw [depth_under_make]; omega) (fun x h' le => bind_both (xs := [.ref td]) (f := fun t d => [(Str.ofString "self", .ref x), (Str.ofString "tables", t), (Str.ofString "options", d)]) (T0.up le) (by simp) (by with_unfolding_all rfl))
    (fun x binds new hb => by obtain ⟨t, b, rfl, -⟩ := hb; exact locs rfl) ?_ (by decide) rfl rfl rfl
  rintro h1 x dx L' hh' g d tk os binds new le hdx hxL ⟨Tt, O, rfl, rfl, hTO, hO⟩ hne F N
  change Fr _ _ _ (frm [(Str.ofString "options", .ref O), (Str.ofString "tables", .ref Tt), (Str.ofString "self", .ref x)]) at F
  have T1 := T0.up le
  have X1 := T1.X
  have T2 := T1.up F.keep
  have nX : x ≠ dx := Nat.ne_of_gt hdx
  have nTx := hne _ (.head _)
  have nOx := hne _ (.tail _ (.head _))
  have N1 : News h1 L' hh' ([(x, instObj 725 dx), (dx, emptyDict)] ++ [(Tt, tupO [.ref td]), (O, dct0)]) := fun q hq => N q (by
    simp only [List.cons_append, List.nil_append, List.mem_cons, List.not_mem_nil, or_false] at hq ⊢
    rcases hq with e | e | e | e <;> simp [e])
  refine st_baseInit (C := 314) (f := 282) (x := x) (O := O) (hid := [(x, instObj 725 dx), (dx, emptyDict)]) F N1 (fun p hp q hq => ?_) (ex_global T2 (by k_is) rfl (by kernel_rfl) (by kernel_rfl) (by kernel_rfl) (by kernel_rfl)) ⟨fun h2 g d tk os Q E le2 H => ?_⟩ (by walk_at "zl") (by walk_at "zl") (N _ (.tail _ (.head _))).1 (sys_of hO) (keeper_K T2.X (by k_is))
    (fun h2 le2 => lexer_init T1 (Le.trans F.keep le2) (N _ (.tail _ (.tail _ (.head _)))).2.2 (N _ (.tail _ (.tail _ (.tail _ (.head _))))).2.2 (le2 _ _ (N _ (.tail _ (.tail _ (.head _)))).1) (le2 _ _ (N _ (.tail _ (.tail _ (.tail _ (.head _))))).1) hdx hh (by rw [depth_deeper, depth_under_make]; omega)) ?_ (by kernel_rfl) (by kernel_rfl) (by kernel_rfl) (by kernel_rfl) (by kernel_rfl)
  · have z : p = (Tt, tupO [.ref td]) ∨ p = (O, dct0) := by simpa using hp
    have y : q = (x, instObj 725 dx) ∨ q = (dx, emptyDict) := by simpa using hq
    rcases z with rfl | rfl <;> rcases y with rfl | rfl
    · exact nTx.1
    · exact nTx.2
    · exact nOx.1
    · exact nOx.2
  · exact cls_val (s := ⟨h2, g, d, tk, os⟩) (fr_up F le2) X1 (by k_is) (by k_is) (by k_is) (by rfl) (H _ [] _ _ Le.refl Fresh.nil ⟨rfl, rfl⟩)
  rintro v new h2 tk2 ⟨rfl, t1, t2, t3, t4, t5, O1, FL, rfl⟩ F N
  have oth : ∀ p ∈ [(Tt, tupO [.ref td]), (O, dct0)], p.1 ≠ dx := fun p hp => by
    rcases List.mem_cons.mp hp with rfl | hp
    · exact nTx.2
    · rw [List.mem_singleton.mp hp]; exact nOx.2
  refine st_setattr F X1 N (V := Im (fun v => v = .ref Tt)) (by walk_at "zl") (by walk_at "zl") (.head _) (.tail _ (.head _)) (fun t v => .tail nX (.head oth)) ?_ (by k_is) (by k_is) (by k_is) (by k_is) (by kernel_rfl) (Nat.le_of_ble_eq_true (by kernel_rfl)) (by kernel_rfl)
  rintro v new t6 h3 tk3 ⟨rfl, rfl⟩ F N
  refine st_setattrD F X1 N (ex_dictT (T1.up F.keep)) (by walk_at "zl") (.head _) (.tail _ (.head _)) (fun t v => .tail nX (.head oth)) ?_ (by k_is) (by k_is) (by k_is) (by k_is) (by kernel_rfl) (Nat.le_of_ble_eq_true (by kernel_rfl)) (by kernel_rfl)
  rintro v new t7 h4 tk4 ⟨AD, ad, rfl, rfl, had, hAD⟩ F4 N4 fAD
  have nA : AD ≠ x ∧ AD ≠ dx ∧ AD ≠ Tt ∧ AD ≠ O := by
    have z := fAD _ (.head _)
    refine ⟨fun e => ?_, fun e => ?_, fun e => ?_, fun e => ?_⟩
    · rw [show (AD, ad).1 = x from e, (N _ (.head _)).1] at z; cases z
    · rw [show (AD, ad).1 = dx from e, (N _ (.tail _ (.head _))).1] at z; cases z
    · rw [show (AD, ad).1 = Tt from e, (N _ (.tail _ (.tail _ (.head _)))).1] at z; cases z
    · rw [show (AD, ad).1 = O from e, (N _ (.tail _ (.tail _ (.tail _ (.head _))))).1] at z; cases z
  have F := F4
  have N := N4
  refine st_setattr F X1 N (V := Im (IsI 0)) ex_int (by walk_at "zl") (.tail _ (.head _)) (.tail _ (.tail _ (.head _))) (fun t v => .tail nA.2.1 (.tail nX (.head oth))) ?_ (by k_is) (by k_is) (by k_is) (by k_is) (by kernel_rfl) (Nat.le_of_ble_eq_true (by kernel_rfl)) (by kernel_rfl)
  rintro v new t8 h5 tk5 ⟨rfl, t9, rfl⟩ F N
  -- the ledger, written out
  have N5 : News h1 L' h5 ([(AD, ad)] ++ [(x, instObj 725 dx), (dx, dictOf (lexD w t1 t2 t3 t4 t5 O1 FL ++ [ent w (Str.ofString "tables") t6 (.ref Tt), ent w (Str.ofString "_all_tokens") t7 (.ref AD), ent w (Str.ofString "_tmpname") t8 (.int 0 t9)]) 8), (Tt, tupO [.ref td]), (O, dct0)]) := N
  have T5 := T1.up F.keep
  have l5 := le.trans F.keep
  have h0A : h.get? AD = none := le.none (N5 _ (.head _)).2.2
  have hvt : ∀ s, ∀ v ∈ vals s, ∃ a vs, v = .ref a ∧ h.IsTuple a vs := fun s v hvv => by
    obtain ⟨r, -, hr⟩ := paired_mem (hv s) hvv
    exact hr.tup
  refine wp_cons ⟨?_⟩
  refine plainObj_wpAny_Assign_Attribute ?_ (by kernel_rfl)
  refine ex_callZ (x := x) (fv := .ref 548) (first := [.ref x]) (hid := [(AD, ad)]) (rst := [(x, instObj 725 dx), (dx, dictOf (lexD w t1 t2 t3 t4 t5 O1 FL ++ [ent w (Str.ofString "tables") t6 (.ref Tt), ent w (Str.ofString "_all_tokens") t7 (.ref AD), ent w (Str.ofString "_tmpname") t8 (.int 0 t9)]) 8), (Tt, tupO [.ref td]), (O, dct0)])
    (VA := fun vs n3 => ∃ (t0 : Tok) (TD : Addr) (tdo : Obj) (la' : Sta → Addr) (ns : Sta → Nat) (inh : Addr × Obj), vs = [.str (Str.ofString "") t0, .ref TD] ∧ 749 < TD ∧ tdo.IsDictOf (strKind PG w) (tabK la') ∧ n3 = [(TD, tdo), inh, (la' .root, lobj (vals .root) (ns .root)), (la' .first, lobj (vals .first) (ns .first)), (la' .second, lobj (vals .second) (ns .second))])
    (V := fun vs n3 h3 v new => ∃ hR, (∀ b o, hR.get? b = some o → h.get? b = some o ∨ (b, o) ∈ n3) ∧ ∃ (PD : Addr) (la' : Sta → Addr) (vals' : Sta → List Value), v = .ref PD ∧ ∀ h2, Le hR h2 → (∀ p ∈ new, h2.get? p.1 = some p.2) → h2.DictOf (strKind PG w) PD (tabK la') ∧ (∀ s, h2.IsList (la' s) (vals' s).toArray) ∧ ∀ s, Paired (RlV w h2) (T s) (vals' s))
    F N5 (fun p hp q hq => ?_) (by walk_at "zl") (gm_inst F X1 (inst_mk (N5 _ (.tail _ (.head _))).1 (N5 _ (.tail _ (.tail _ (.head _)))).1) (by k_is) (by k_is) (by k_is) (by kernel_rfl)) ?_ (keeper_K T5.X (by k_is)) ?_ ?_ (by kernel_rfl) rfl rfl
  · rw [List.mem_singleton.mp hq]
    simp only [List.mem_cons, List.not_mem_nil, or_false] at hp
    rcases hp with e | e | e | e <;> rw [e]
    · exact Ne.symm nA.1
    · exact Ne.symm nA.2.1
    · exact Ne.symm nA.2.2.1
    · exact Ne.symm nA.2.2.2
  · refine EX.mono (exs_consN (V1 := Im (IsS (Str.ofString ""))) ex_str (exs_one (V1 := fun v new => ∃ (D : Addr) (od : Obj) (la' : Sta → Addr) (ns : Sta → Nat) (inh : Addr × Obj), v = .ref D ∧ 749 < D ∧ od.IsDictOf (strKind PG w) (tabK la') ∧ new = [(D, od), inh, (la' .root, lobj (vals .root) (ns .root)), (la' .first, lobj (vals .first) (ns .first)), (la' .second, lobj (vals .second) (ns .second))])
      (ex_meth (P1 := (· = .ref x)) (fv := .ref 555) (first := fun _ => [.ref x]) (by walk_at "zl") (fun a ha => by subst ha; exact gm_inst F X1 (inst_mk (N5 _ (.tail _ (.head _))).1 (N5 _ (.tail _ (.tail _ (.head _)))).1) (by k_is) (by k_is) (by k_is) (by kernel_rfl)) (fun a ha => cw_none (keeper_K T5.X (by k_is))
        (get_tokendefs (A := _) T5 hh (by rw [depth_deeper, depth_under_make]; omega) (N5 _ (.tail _ (.head _))).1 (N5 _ (.tail _ (.tail _ (.head _)))).1 (by kernel_rfl) ⟨_, (N5 _ (.tail _ (.tail _ (.tail _ (.head _))))).1, rfl, _, rfl⟩ (dict_up hD l5) hs (fun s => list_up (hl s) l5) (fun s v hvv => by
          obtain ⟨a, vs, e, t⟩ := hvt s v hvv
          exact ⟨a, vs, e, tuple_up t l5⟩) few))))) fun vs n3 hvs => ?_
    obtain ⟨v1, r1, n1, n2, rfl, rfl, ⟨rfl, t0, rfl⟩, v2, rfl, TD, tdo, la', ns, inh, rfl, h7, hdo, rfl⟩ := hvs
    exact ⟨t0, TD, tdo, la', ns, inh, rfl, h7, hdo, by simp⟩
  · rintro vs n3 h3 l3 ⟨t0, TD, tdo, la', ns, inh, rfl, h7, hdo, rfl⟩ F3 N3 dj3
    have lh3 := l5.trans l3
    obtain ⟨hR, r1, r2, r3, r4⟩ := restr (led := [(TD, tdo), inh, (la' .root, lobj (vals .root) (ns .root)), (la' .first, lobj (vals .first) (ns .first)), (la' .second, lobj (vals .second) (ns .second))]) lh3 (fun p hp => (N3 p (List.mem_append_right _ (List.mem_append_left _ hp))).1)
    have i1 := N3 (x, instObj 725 dx) (List.mem_append_right _ (List.mem_append_right _ (.head _)))
    have i2 := N3 (dx, dictOf (lexD w t1 t2 t3 t4 t5 O1 FL ++ [ent w (Str.ofString "tables") t6 (.ref Tt), ent w (Str.ofString "_all_tokens") t7 (.ref AD), ent w (Str.ofString "_tmpname") t8 (.int 0 t9)]) 8) (List.mem_append_right _ (List.mem_append_right _ (.tail _ (.head _))))
    refine MZ.mono (process_tokendef (A := (A.under (.builtin "type.__call__" ⟨.ref 725 :: [.ref td], []⟩)).deeper _) (hR := hR) (T0.up r1) r2 ?_ (N3 (AD, ad) (.head _)).1 had i1.1 i2.1 (Ne.symm nA.1) (Ne.symm nA.2.1) (by kernel_rfl) (by kernel_rfl) (by kernel_rfl) (by kernel_rfl) (by kernel_rfl) (by kernel_rfl) (la := la') (vals := vals) (T := T) (Heap.dictOf_iff.mpr ⟨tdo, r3 _ (.head _), hdo⟩) (fun s => ?_) (fun s => paired_mono (fun _ _ q => q.up r1) (hv s)) few (sys_of h7) hh (by rw [depth_deeper, depth_under_make]; omega)) fun v new hvn => ⟨hR, r4, hvn⟩
    · cases q : hR.get? AD with
      | none => rfl
      | some o =>
        rcases r4 _ _ q with z | z
        · rw [h0A] at z; cases z
        · exact absurd rfl (dj3 _ z (AD, ad) (.head _))
    · cases s
      · exact ⟨_, r3 _ (.tail _ (.tail _ (.head _))), rfl, _, rfl⟩
      · exact ⟨_, r3 _ (.tail _ (.tail _ (.tail _ (.head _)))), rfl, _, rfl⟩
      · exact ⟨_, r3 _ (.tail _ (.tail _ (.tail _ (.tail _ (.head _))))), rfl, _, rfl⟩
  · rintro vs n3 h3 v new h6 tk6 l3 N3 - ⟨hR, hRc, PD, la', vals', rfl, hsem⟩ F6 N6 djh djr hk6 hfr
    have T6 := T1.up F6.keep
    refine EX.at (h := h6) (V := Im (· = .ref x)) (by walk_at "zl") fun ov n7 h7 tk7 l7 f7 hov => ?_
    rw [hov.2]
    have F7 := fr_up F6 l7
    have N7 := nw_up N6 l7
    have nnd : ∀ p ∈ new, p.1 ≠ dx := fun p hp e => by
      rcases hfr p hp with z | z
      · rw [e, (N3 (dx, dictOf (lexD w t1 t2 t3 t4 t5 O1 FL ++ [ent w (Str.ofString "tables") t6 (.ref Tt), ent w (Str.ofString "_all_tokens") t7 (.ref AD), ent w (Str.ofString "_tmpname") t8 (.int 0 t9)]) 8) (List.mem_append_right _ (List.mem_append_right _ (.tail _ (.head _))))).1] at z; cases z
      · exact nA.2.1 (by rw [← e]; exact (List.mem_singleton.mp z).symm)
    have n3d : ∀ p ∈ n3, p.1 ≠ dx := fun p hp => djr p hp _ (.tail _ (.head _))
    refine set_dict (s := ⟨h7, g, d, tk7, os⟩) F7 X1 N7 (inst_mk (N7 (x, instObj 725 dx) (List.mem_append_right _ (List.mem_append_right _ (.head _)))).1 (N7 (dx, dictOf (lexD w t1 t2 t3 t4 t5 O1 FL ++ [ent w (Str.ofString "tables") t6 (.ref Tt), ent w (Str.ofString "_all_tokens") t7 (.ref AD), ent w (Str.ofString "_tmpname") t8 (.int 0 t9)]) 8) (List.mem_append_right _ (List.mem_append_right _ (.tail _ (.head _))))).1) rfl (by k_is) (by k_is) (by k_is) (by k_is) (by kernel_rfl) rfl (up_swap (up_swap (.tail nX (.head oth)) n3d) nnd) (Nat.le_of_ble_eq_true (by kernel_rfl)) fun h8 F8 N8 => ?_
    refine thenQ_next (wp_nil ?_)
    refine ⟨rfl, ret_of F8 N8 (fun q hq => hq) ⟨x, rfl, fun h2 le2 hall => ?_⟩⟩
    have leR : Le hR h2 := fun b o e => by
      rcases hRc b o e with z | z
      · exact le2 _ _ z
      · exact hall (b, o) (List.mem_append_right _ (List.mem_append_left _ z))
    obtain ⟨q1, q2, q3⟩ := hsem h2 leR fun p hp => hall p (List.mem_append_left _ hp)
    exact ⟨dx, _, _, PD, la', vals', ⟨hall _ (List.mem_append_right _ (List.mem_append_right _ (.head _))), hall _ (List.mem_append_right _ (List.mem_append_right _ (.tail _ (.head _)))), by rfl, by kernel_rfl, q1, q2, q3⟩⟩
end
end Mine
end
section
set_option maxRecDepth 100000
set_option linter.unusedVariables false
open PySem PySem.W PyProof.Rows PySem.Calls PySem.Spec
namespace Mine
section
variable {prog : Program} {w : World} {A : Around} {h : Heap} {env : Env}
theorem op_mod {a b : Int} (hb : 0 < b) (x y : Value) (hx : IsI a x) (hy : IsI b y) : EX prog w A (binaryOp .Mod x y) h (Im (IsI (a % b))) := by
  obtain ⟨t, rfl⟩ := hx; obtain ⟨u, rfl⟩ := hy
  exact ⟨fun h' g d tk os Q E le H => mod_int' (s := ⟨h', g, d, tk, os⟩) (by omega) (H _ [] _ _ Le.refl Fresh.nil ⟨rfl, by rw [Int.fmod_eq_emod_of_nonneg _ (by omega)]; exact isI⟩)⟩
theorem op_fdiv {a b : Int} (hb : 0 < b) (ha : 0 ≤ a) (ha2 : a < 1000000000000) (hb2 : b < 1000000) (x y : Value) (hx : IsI a x) (hy : IsI b y) : EX prog w A (binaryOp .FloorDiv x y) h (Im (IsI (a / b))) := by
  obtain ⟨t, rfl⟩ := hx; obtain ⟨u, rfl⟩ := hy
  exact ⟨fun h' g d tk os Q E le H => floordiv_int (s := ⟨h', g, d, tk, os⟩) (by omega) (H _ [] _ _ Le.refl Fresh.nil ⟨rfl, by rw [Int.fdiv_eq_ediv_of_nonneg _ (by omega)]; exact isI⟩) (Or.inl (PyProof.noPylong_small (by omega)))⟩
theorem op_pow {a n : Int} (hn : 0 ≤ n) (hn2 : n ≤ 1000) (ha : a.natAbs < 1000000) (x y : Value) (hx : IsI a x) (hy : IsI n y) : EX prog w A (binaryOp .Pow x y) h (Im (IsI (a ^ n.toNat))) := by
  obtain ⟨t, rfl⟩ := hx; obtain ⟨u, rfl⟩ := hy
  exact ⟨fun h' g d tk os Q E le H => pow_int_small (s := ⟨h', g, d, tk, os⟩) hn (by omega) (by omega) (H _ [] _ _ Le.refl Fresh.nil ⟨rfl, isI⟩)⟩
theorem op_mul {a b : Int} (hm : IntMulOk a b) (x y : Value) (hx : IsI a x) (hy : IsI b y) : EX prog w A (binaryOp .Mult x y) h (Im (IsI (a * b))) := by
  obtain ⟨t, rfl⟩ := hx; obtain ⟨u, rfl⟩ := hy
  exact ⟨fun h' g d tk os Q E le H => mul_int (s := ⟨h', g, d, tk, os⟩) (H _ [] _ _ Le.refl Fresh.nil ⟨rfl, isI⟩) hm⟩
abbrev rngO (a b c : Int) (t u v : Tok) : Obj := { cls := .type "range", dict := none, data := .fields #[.int a t, .int b u, .int c v], slots := #[] }
/-- range(e) -/
theorem cl_range1 {n : Int} {x : Value} (hx : IsI n x) : EX prog w A (call (.type "range") [x]) h (fun v new => ∃ r t u y, v = .ref r ∧ new = [(r, rngO 0 n 1 t u y)]) := by
  obtain ⟨t, rfl⟩ := hx
  refine ⟨fun h' g d tk os Q E le H => call_range_1 (s := ⟨h', g, d, tk, os⟩) ?_⟩
  refine H _ [(h'.objs.size, rngO 0 n 1 tk t (tk + 1))] _ _ (fun b o e => Heap.get?_push_of_some _ e) (fun p hp => ?_) ⟨_, _, _, _, rfl, rfl⟩
  rw [List.mem_singleton.mp hp]
  exact ⟨Heap.get?_push_size _ rfl, sizeNone⟩
theorem cl_range3 {a b c : Int} {x y z : Value} (hc : c ≠ 0) (hab : (b - a).natAbs < 1000000) (hcc : c.natAbs < 1000000) (hx : IsI a x) (hy : IsI b y) (hz : IsI c z) : EX prog w A (call (.type "range") [x, y, z]) h (fun v new => ∃ r t u y, v = .ref r ∧ new = [(r, rngO a b c t u y)]) := by
  obtain ⟨t, rfl⟩ := hx; obtain ⟨u, rfl⟩ := hy; obtain ⟨v, rfl⟩ := hz
  refine ⟨fun h' g d tk os Q E le H => call_range_3 (s := ⟨h', g, d, tk, os⟩) hc ?_ (Or.inl (PyProof.noPylong_small (by omega)))⟩
  refine H _ [(h'.objs.size, rngO a b c t u v)] _ _ (fun b o e => Heap.get?_push_of_some _ e) (fun p hp => ?_) ⟨_, _, _, _, rfl, rfl⟩
  rw [List.mem_singleton.mp hp]
  exact ⟨Heap.get?_push_size _ rfl, sizeNone⟩
/-- a comprehension over a range, its elements immediate -/
theorem ex_compR {elt iter : Expr} {x : Str} {px : Pos} {scope : Scope} {cl : List (Str × Addr)} {pos : Pos} {a b c : Int} {n : Nat} (G : Int → Value → Prop)
    (hh : A.handled = none) (hclos : closureFor scope env = pure cl) (hcell : ∀ y ∈ scope.names, y.2 ≠ .cell) (hkind : scope.kind = .function)
    (hnames : ∀ y ∈ scope.names, y.2 = .local → scope.names.lookup y.1 = some .local) (hx : scope.names.lookup x = some .local)
    (hit : EX prog w A (eval iter env) h (fun v new => ∃ r t u y, v = .ref r ∧ new = [(r, rngO a b c t u y)])) (hsm : Builtin.Range.small a b c = true) (hn : Builtin.Range.rangeSize a b c = (n : Int)) (hsz : n ≤ 1000)
    (helt : ∀ C (i : Nat) v h2 m₂, i < n → IsI (a + i * c) v → Le h h2 → h2.Ns C m₂ → m₂ x = some v → EX prog w A (eval elt (compEnvC scope cl C env)) h2 (Im (G (a + i * c))))
    (hs : ∀ x, foldedSetIterable iter env x = pure x := by intro _; kernel_rfl) :
    EX prog w A (eval (.ListComp elt [⟨.Name x px, iter, [], 0⟩] scope pos) env) h
      (fun v new => ∃ (D : Addr) (ys : List Value) (k : Nat), v = .ref D ∧ new = [(D, lobj ys k)] ∧ ys.length = n ∧ ∀ (i : Nat) (y : Value), ys[i]? = some y → G (a + i * c) y) := by
  refine ⟨fun h1 g d tk os Q E le H => ?_⟩
  with_reducible refine wpAny_ListComp_free (fun _ => true) (fun v y => ∀ i : Nat, IsI (a + i * c) v → i < n → G (a + i * c) y) hclos hcell hkind hnames hx (hit.run h1 g d tk os _ E le fun xv n0 h2 tk2 l2 f2 hv => ?_) hs
  obtain ⟨r, t, u, y, rfl, rfl⟩ := hv
  have hr := (f2 _ (.head _)).1
  refine wpAny_pyIter_range (s := ⟨h2, g, d, tk2, os⟩) hr hsm ?_
  generalize hob : ({ cls := .type "range_iterator", data := .fields #[rawInt a, rawInt (Builtin.Range.rangeSize a b c), rawInt c] } : Obj) = ob
  have lp : Le h2 (h2.push ob) := fun b o e => Heap.get?_push_of_some _ e
  have wrok : ∀ (s₃ : Shared), (∀ b o, b ∉ [h2.objs.size] → (h2.push ob).get? b = some o → s₃.heap.get? b = some o) → Le h2 s₃.heap := fun s₃ hk b o e =>
    hk b o (fun hm => by rw [List.mem_singleton.mp hm, sizeNone] at e; cases e) (lp b o e)
  have W := Walks.range (prog := prog) (w := w) (A := A) hh h2.objs.size a c n
  have W' : Walks prog w A h2.objs.size [h2.objs.size] [h2.objs.size] n (fun i v => i < n ∧ ∃ t, v = .int (a + i * c) t) (fun i h => IsRangeIter h h2.objs.size (a + (i : Nat) * c) ((n : Int) - (i : Nat)) c) :=
    ⟨W.sub, W.frame, fun i s Q E hi st H => W.item i s Q E hi st fun v h' tk hp => H v h' tk ⟨hi, hp⟩, W.done, W.self⟩
  refine ⟨h2.objs.size, _, _, n, _, _, rfl, W', Nat.le_trans hsz (by decide), ?_, ?_, ⟨?_, ?_⟩, ?_⟩
  · show (h2.push ob).get? _ = _
    rw [Heap.get?_push_size _ (by rw [← hob]; rfl), ← hob, hn]
    simp
  · intro b hb
    rw [List.mem_singleton.mp hb]
    show _ < (h2.push ob).objs.size
    rw [Heap.size_push]; exact Nat.lt_succ_self _
  · intro C i v s₃ m₃ E' hC hP hn' hm hk htk
    exact (EX.pure (V := Im (· = true)) ⟨rfl, rfl⟩ : EX prog w A (pure true) s₃.heap _).keepsB
  · intro C i v s₃ m₃ E' hC hP hpv hn' hm hk htk
    obtain ⟨hi, tv, rfl⟩ := hP
    refine wpAny_mono (helt C i _ s₃.heap m₃ hi isI ((le.trans l2).trans (wrok s₃ hk)) hn' hm).keeps (fun y s4 hy => ⟨fun j hj hjn => ?_, hy.2⟩) fun _ _ e => e
    obtain ⟨tj, hj⟩ := hj
    have e := (Value.int.inj hj).1
    rw [← e]; exact hy.1
  · intro D h' tk' ys vs hD hLD hPL hlen hP hF hk
    obtain ⟨k, hk'⟩ := hPL
    obtain ⟨ys⟩ := ys
    have hF' : Paired (fun v y => ∀ i : Nat, IsI (a + i * c) v → i < n → G (a + i * c) y) vs ys := by
      have : vs.filter (fun _ => true) = vs := List.filter_eq_self.mpr fun _ _ => rfl
      rw [this] at hF; exact hF
    refine H _ _ h' tk' (l2.trans (wrok ⟨h', g, d, tk', os⟩ hk)) ?_ ⟨D, ys, k, rfl, rfl, by rw [← paired_len hF', hlen], fun i y hy => ?_⟩
    · intro q hq
      rw [List.mem_singleton.mp hq]
      refine ⟨hk', ?_⟩
      have : Le h1 (h2.push ob) := l2.trans lp
      exact this.none hD
    · obtain ⟨v, hv, hf⟩ := paired_at hF' hy
      have hi : i < n := by
        have := (List.getElem?_eq_some_iff.mp hv).1
        omega
      exact hf i (hP i v hv).2 hi
end
end Mine
end
section
set_option maxRecDepth 100000
set_option linter.unusedVariables false
open PySem PySem.W PyProof.Rows PySem.Calls PySem.Spec
namespace Mine
local macro_rules | `(tactic| walk_at "lk") => `(tactic| repeat (first | with_reducible exact frm_head | with_reducible assumption | with_reducible refine frm_tail (by kernel_rfl) ?_))
local macro_rules | `(tactic| walk_at "zl") => `(tactic| (refine ex_local (Fr.ns (by assumption)) (by walk_at "lk") ?_ (by kernel_rfl) (by kernel_rfl) (by kernel_rfl); first | exact isI | exact isS | exact isB | rfl))
theorem app_list (a b : Str) : (a ++ b).cps.toList = a.cps.toList ++ b.cps.toList := by
  show (a.cps ++ b.cps).toList = _
  rw [Array.toList_append]
theorem joinE : ∀ ys : List Str, (Str.join (Str.ofString "") ys).cps.toList = (ys.map (·.cps.toList)).flatten
  | [] => rfl
  | [x] => by
    show x.cps.toList = _
    simp
  | x :: y :: r => by
    have e : (Str.ofString "").cps.toList = [] := by decide +kernel
    rw [join_cons_cons, app_list, app_list, e, joinE (y :: r)]
    simp
theorem tjoinE (ys : List Str) : (Txt.join (Str.ofString "") ys).cps.toList = (ys.map (·.cps.toList)).flatten := by
  have := join_closes (sep := Str.ofString "") (sep' := Str.ofString "") (ys := ys) rfl
  rw [beq_iff_eq.mp this, joinE]
theorem str_eq {a b : Str} (h : a.cps.toList = b.cps.toList) : a = b := by
  cases a; cases b
  simp at h
  rw [h]
/-- values that are texts -/
theorem texts_of {ys : List Value} (h : ∀ y ∈ ys, ∃ x t, y = .str x t) : ∃ l : List (Str × Tok), strValues l = ys := by
  induction ys with
  | nil => exact ⟨[], rfl⟩
  | cons y r ih =>
    obtain ⟨x, t, rfl⟩ := h y (.head _)
    obtain ⟨l, hl⟩ := ih fun z hz => h z (.tail _ hz)
    exact ⟨(x, t) :: l, by rw [← hl]; rfl⟩
section
variable {prog : Program} {w : World} {A : Around} {h : Heap} {env : Env} {K : Frag} {name qual : Str} {params : Arguments} {body : List Stmt} {scope : Scope} {dV kV doc pm cdv ct oc : Value} {an od : Option Addr} {osl : Array (Option Value)} {f : Addr} {binds : List (Str × Value)}
/-- a call of a def with cells -/
theorem ex_defC {pos : List Value} {kw : List (Str × Value)} {V : Value → List (Addr × Obj) → Prop} (X₀ : K.In h) (hl : h.NoLimit)
    (ho : K.lookup f = some ⟨oc, od, .func (fnOf name qual params body scope dV kV doc pm an cdv ct), osl⟩) (hcd : codeIn K cdv qual = true) (hroom : A.depth < recursionLimit)
    (hbind : ∀ s : Shared, K.In s.heap → BindsTo s (fnOf name qual params body scope dV kV doc pm an cdv ct) ⟨pos, kw⟩ binds) (hkind : (binds.all fun y => scope.names.lookup y.1 == some .local || scope.names.lookup y.1 == some .cell) = true)
    (hnd : ((cellsFrom 0 scope.names []).map (·.1)).Nodup)
    (hb : ∀ h1 L' hh g d tk os cells, Le h h1 → Fr h1 L' hh (bindL (envOfC qual scope L' f cdv).kindOf binds fun _ => none) → News h1 L' hh cells → CellsAre (bindC (envOfC qual scope L' f cdv).kindOf binds fun _ => none) (cellsFrom (L' + 1) scope.names []) cells →
      WP prog w (A.deeper (envOfC qual scope L' f cdv)) (execs body (envOfC qual scope L' f cdv)) (Ret h1 L' g d os V) ⟨hh, g, d, tk, os⟩)
    (hco : scope.isCoroutine = false) (hgen : scope.isGenerator = false) (hk : scope.kind = .function) : EX prog w A (call (.ref f) pos kw) h V :=
  ⟨fun h1 g d tk os Q E le H => call_defCG (X₀.keeps le) (hl.keeps le) ho hcd hroom hbind hkind hnd (fun L' hh tk' cells F N C => (hb h1 L' hh g d tk' os cells le F N C).mono fun fl s' hr => by
    obtain ⟨m', news', h', tk'', rfl, F', N', hV⟩ := hr
    exact H _ news' h' tk'' F'.keep (fun p hp => ⟨(N' p hp).1, (N' p hp).2.2⟩) hV) hco hgen hk⟩
/-- ''.join(e), e gives a new list of texts -/
theorem ex_joinN {k : Nat} {p0 ap cp : Pos} {e : Expr} {Φ : List (Str × Tok) → Prop} (he : EX prog w A (eval e env) h (fun v new => ∃ D l n, v = .ref D ∧ new = [(D, lobj (strValues l) n)] ∧ Φ l)) (hΦ : ∀ l, Φ l → (l.map (·.1.length)).sum ≤ 1000)
    (hse : starEach [e] env = [(false, eval e env)]) (hr : MCall (.Constant (.str (Str.ofString "")) k p0) (Str.ofString "join") ap cp [e] env) :
    EX prog w A (eval (.Call (.Attribute (.Constant (.str (Str.ofString "")) k p0) (Str.ofString "join") ap) [e] [] cp) env) h (Im fun v => ∃ l : List (Str × Tok), Φ l ∧ IsS (Txt.join (Str.ofString "") (l.map (·.1))) v) :=
  ex_meth (P1 := IsS (Str.ofString "")) ex_str (fun a ha => gm_join ha) (fun a ha => drop_new (cw_builtinM (exs_one he hse) (fun vs new h2 le hn hv => by
    obtain ⟨v, rfl, D, l, n, rfl, rfl, hz⟩ := hv
    have hD : h2.IsList D (strValues l).toArray := ⟨_, hn _ (.head _), rfl, n, rfl⟩
    have e0 : (Str.ofString "").length = 0 := by decide
    exact (cl_join ha hD rfl (joinOk_of (by rw [e0, Nat.mul_zero, List.map_map]; simp only [Nat.add_zero]; exact Nat.le_trans (hΦ l hz) (by decide)))).mono fun v new hv => ⟨l, hz, hv.2⟩) (by rw [hse]; rfl) rfl)) hr
theorem ones_sum : ∀ {l : List (Str × Tok)}, (∀ p ∈ l, p.1.length = 1) → (l.map (·.1.length)).sum = l.length
  | [], _ => rfl
  | p :: r, h => by
    rw [List.map_cons, List.sum_cons, h p (.head _), ones_sum fun q hq => h q (.tail _ hq), List.length_cons]; omega
theorem ones_join {l : List (Str × Tok)} (h : ∀ p ∈ l, p.1.length = 1) : (Txt.join (Str.ofString "") (l.map (·.1))).length = l.length := by
  rw [strLen, tjoinE, List.length_flatten, List.map_map, List.map_map, ← ones_sum h]
  exact congrArg List.sum (List.map_congr_left fun p hp => (strLen p.1).symm)
/-- a letter of a text -/
theorem letter_at {x : Str} {i : Int} (h0 : 0 ≤ i) (h1 : i < x.length) : ∃ c, x.cps[i.toNat]? = some c := by
  have : i.toNat < x.cps.size := by
    have : (x.length : Int) = (x.cps.size : Int) := rfl
    omega
  exact ⟨_, Array.getElem?_eq_getElem this⟩
/-- code points alone -/
def Okx (x : Str) : Prop := ∀ c ∈ x.cps.toList, c < 0x110000
theorem okx_join {l : List (Str × Tok)} (h : ∀ p ∈ l, p.1.length = 1 ∧ Okx p.1) : Okx (Txt.join (Str.ofString "") (l.map (·.1))) := fun c hc => by
  rw [tjoinE, List.mem_flatten] at hc
  obtain ⟨z, hz, hc⟩ := hc
  obtain ⟨x, hx, rfl⟩ := List.mem_map.mp hz
  obtain ⟨p, hp, rfl⟩ := List.mem_map.mp hx
  exact (h p hp).2 c hc
theorem okx_str {x : Str} (h : Okx x) : PyData.strOk x = true := by
  unfold PyData.strOk
  rw [Array.all_eq_true]
  intro i hi
  exact decide_eq_true (h _ (by simp))
theorem ex_letter {value slice : Expr} {pos : Pos} {x : Str} {i : Int} (hok : Okx x) (x1 : EX prog w A (eval value env) h (Im (IsS x))) (x2 : EX prog w A (eval slice env) h (Im (IsI i))) (h0 : 0 ≤ i) (h1 : i < x.length) (hz : x.length < 1000)
    (hs : ∀ t u, subscripted slice false (.str x t) (.int i u) = operate [.str x t, .int i u] (getItem (.str x t) (.int i u))) :
    EX prog w A (eval (.Subscript value slice pos) env) h (Im fun y => ∃ c t, y = .str ⟨#[c]⟩ t ∧ c < 0x110000) := by
  obtain ⟨c, hc⟩ := letter_at h0 h1
  refine EX.mono (V := Im (IsS ⟨#[c]⟩)) (ex_sub x1 x2 fun a b ha hb => ?_) fun v new hv => ⟨hv.1, c, hv.2.choose, hv.2.choose_spec, hok c (Array.mem_toList_iff.mpr (Array.mem_of_getElem? hc))⟩
  obtain ⟨t, rfl⟩ := ha
  obtain ⟨u, rfl⟩ := hb
  exact tl_str h0 (by omega) hc (hs t u)
end
theorem okx_abc : Okx (Str.ofString "aabb\nc") := by unfold Okx; decide +kernel
theorem range_size0 (n : Nat) : Builtin.Range.rangeSize 0 (n : Int) 1 = (n : Int) := by
  unfold Builtin.Range.rangeSize
  rw [if_pos (by decide)]
  split <;> omega
section
variable {w : World} {A : Around} {h : Heap}
set_option maxHeartbeats 4000000
theorem law_letters {n z : Int} {t1 t2 : Tok} (T : TX w h) (hh : A.handled = none) (hd' : A.depth + 20 < recursionLimit) (hn : 0 ≤ n) (hn2 : n < 1000000) (hz : 0 ≤ z) (hz2 : z < 4) :
    EX PG w A (call (.ref 737) [.int n t1, .int z t2]) h (Im fun v => ∃ (x : Str) (t : Tok), v = .str x t ∧ x.length ≤ 3 ∧ Okx x) := by
  refine ex_defC T.X T.lim (by k_is) (by k_is) (by omega) (fun s X => BindsTo.of_eq rfl) (by kernel_rfl) (by decide +kernel) ?_ rfl rfl rfl
  intro h1 L hh' g d tk os cells le F N C
  change Fr h1 L hh' (bindL _ [(Str.ofString "number", .int n t1), (Str.ofString "size", .int z t2)] (frm [])) at F
  rw [bindL_cell (by kernel_rfl), bindL_local (by kernel_rfl), bindL_nil] at F
  change CellsAre _ [(Str.ofString "number", L + 1)] cells at C
  cases C with
  | @cons _ _ on _ cells dn C =>
  cases C
  replace dn : on.data = .cell (some (.int n t1)) := dn
  have T1 := T.up (le.trans F.keep)
  obtain ⟨zn, rfl⟩ := Int.eq_ofNat_of_zero_le hz
  have c1 := (N _ (.head _)).1
  refine st_ret F N (V := Im fun v => ∃ l : List (Str × Tok), ((∀ p ∈ l, p.1.length = 1 ∧ Okx p.1) ∧ l.length ≤ 3) ∧ IsS (Txt.join (Str.ofString "") (l.map (·.1))) v) ?_ ?_
  · refine ex_joinN (Φ := fun l => (∀ p ∈ l, p.1.length = 1 ∧ Okx p.1) ∧ l.length ≤ 3) ?_ (fun l hl => by rw [ones_sum fun p hp => (hl.1 p hp).1]; omega) (by kernel_rfl) (by kernel_rfl)
    refine EX.mono (ex_compR (a := 0) (b := (zn : Int)) (c := 1) (n := zn) (cl := [(Str.ofString "number", L + 1)]) (fun _ y => ∃ c t, y = .str ⟨#[c]⟩ t ∧ c < 0x110000) hh (by kernel_rfl) (by decide +kernel) rfl (by decide +kernel) (by decide +kernel)
      (ex_callK (fv := .type "range") (ex_builtin T1 (by k_is) (by kernel_rfl) (by decide) rfl (by kernel_rfl) (by kernel_rfl) (by kernel_rfl) (by kernel_rfl) (by kernel_rfl)) (cw_type (exs_one (V1 := Im (IsI (zn : Int))) (by walk_at "zl")) (fun vs new h3 le3 hn hv => by
        obtain ⟨v, rfl, rfl, hv⟩ := hv
        exact EX.mono (cl_range1 (A := A.deeper _) hv) fun v new hv => by rw [List.append_nil]; exact hv))) ?_ ?_ (by omega) ?_) fun v new hv => ?_
    · exact small_one (by decide) (by decide) (by omega) (by omega)
    · exact range_size0 zn
    · intro C i v h2 m₂ hi hv up hn2' hm
      have hv' : IsI (i : Int) v := by
        have e : (0 : Int) + (i : Int) * 1 = i := by omega
        rw [e] at hv; exact hv
      obtain ⟨tv, rfl⟩ := hv'
      have p6 : (6 : Int) ^ ((i : Int).toNat) = ((6 ^ i : Nat) : Int) := by
        rw [Int.toNat_natCast]
        exact (Int.natCast_pow 6 i).symm ▸ rfl
      have i3 : i = 0 ∨ i = 1 ∨ i = 2 := by omega
      have hp : 0 < (6 : Int) ^ ((i : Int).toNat) ∧ (6 : Int) ^ ((i : Int).toNat) < 1000000 := by
        rcases i3 with rfl | rfl | rfl <;> decide
      refine ex_letter (x := Str.ofString "aabb\nc") (i := n / (6 : Int) ^ ((i : Int).toNat) % 6) okx_abc ex_str (ex_binop (op_mod (by decide)) (ex_binop (op_fdiv hp.1 hn (by omega) hp.2) (ex_cell (c := L + 1) (o := on) (by kernel_rfl) (up _ _ c1) dn isI (by kernel_rfl) (by kernel_rfl) (by kernel_rfl))
        (ex_binop (op_pow (a := 6) (n := (i : Int)) (by omega) (by omega) (by decide)) ex_int (ex_local hn2' hm isI (by kernel_rfl) (by kernel_rfl) (by kernel_rfl)))) ex_int) (by omega) (by
          have e6 : (Str.ofString "aabb\nc").length = 6 := by decide +kernel
          rw [e6]; omega) (by decide +kernel) (fun t u => by with_unfolding_all rfl)
    · obtain ⟨D, ys, k, rfl, rfl, hl, hg⟩ := hv
      have hy : ∀ y ∈ ys, ∃ c t, y = .str ⟨#[c]⟩ t ∧ c < 0x110000 := fun y hy => by
        obtain ⟨i, hi, rfl⟩ := List.mem_iff_getElem.mp hy
        exact hg i _ (List.getElem?_eq_getElem hi)
      obtain ⟨l, rfl⟩ := texts_of fun y h => let ⟨c, t, e, _⟩ := hy y h; ⟨_, t, e⟩
      have ll : l.length = zn := by rw [← hl]; simp [strValues]
      refine ⟨D, l, k, rfl, rfl, fun p hp => ?_, by omega⟩
      obtain ⟨c, t, e, hc⟩ := hy (.str p.1 p.2) (by simp only [strValues]; exact List.mem_map_of_mem (f := fun p : Str × Tok => Value.str p.1 p.2) hp)
      rw [(Value.str.inj e).1]
      exact ⟨rfl, fun c' hc' => by simp at hc'; rw [hc']; exact hc⟩
  · rintro v new h3 tk3 ⟨rfl, l, ⟨h1l, h3l⟩, t, rfl⟩ F N
    exact ret_of (new := []) F N (fun q hq => nomatch hq) ⟨rfl, _, t, rfl, by rw [ones_join fun p hp => (h1l p hp).1]; exact h3l, okx_join h1l⟩
end
end Mine
end
section
set_option maxRecDepth 100000
set_option linter.unusedVariables false
open PySem PySem.W PyProof.Rows PySem.Calls PySem.Spec
namespace Mine
abbrev tupI (l : Addr) (i : Nat) : Obj := { cls := .type "tuple_iterator", data := .fields #[.ref l, .int i 0] }
theorem meets_enumT (l : Addr) (o : Obj) (items : Array Value) (n : Nat) (hc : o.cls = .type "tuple") (hd : o.data = .seq items n) :
    Meets (Builtin.«enumerate.__new__» ⟨[.type "enumerate", .ref l], []⟩) (fun _ R s => s.heap.get? l = some o ∧
      R (.ok (.ret (.ref (s.heap.push (tupI l 0)).objs.size))) { s with heap := (s.heap.push (tupI l 0)).push (enumO s.heap.objs.size) }) :=
  .of_wp fun prog w A R s h => by
    obtain ⟨hp, g, d, tk, os⟩ := s
    obtain ⟨hl, h⟩ := h
    obtain ⟨oc, odi, od, osl⟩ := o
    dsimp only at hc hd
    subst hc hd
    have hsub := sub_enumerate
    have hT : IsTup (Shared.heap ⟨hp, g, d, tk, os⟩) l items := ⟨_, hl, rfl, n, rfl⟩
    wp_walk using AutoSeq1.wpAny_loadPart' hl
    refine wpAny_stack_any fun st => wpAny_pure ?_
    split
    · rename_i c _ _ _ _ _
      cases (c == Value.type "enumerate") <;>
      · wp_walk using AutoSeq1.wpAny_loadPart' hl, iter_tuple hT
        exact ⟨_, rfl, h⟩
    · wp_walk using AutoSeq1.wpAny_loadPart' hl, iter_tuple hT
      exact ⟨_, rfl, h⟩
section
variable {prog : Program} {w : World} {A : Around} {h : Heap} {E : Value → Shared → Prop} {s : Shared}
/-- enumerate(t) -/
theorem cl_enumT {ax : Addr} {items : List Value} (hl : h.IsTuple ax items.toArray) : EX prog w A (call (.type "enumerate") [.ref ax]) h (fun v new => ∃ e it, v = .ref e ∧ new = [(e, enumO it), (it, tupI ax 0)] ∧ e ≠ it) := by
  refine ⟨fun h1 g d tk os Q E le H => ?_⟩
  obtain ⟨o, ho, hc, n, hd⟩ := tuple_up hl le
  refine callType_new (s := ⟨h1, g, d, tk, os⟩) PySem.F.called_enumerate (by decide) (PySem.F.typeCall_enumerate_1 _) (PySem.F.newCall_enumerate_1 _) (fun obj => PySem.F.args_object_init_2 obj _) PySem.F.entry_enumerate_new
    (meets_enumT ax o items.toArray n hc hd) ⟨ho, ?_⟩
  show _ ∧ _
  have hz : (h1.push (tupI ax 0)).objs.size = h1.objs.size + 1 := Heap.size_push ..
  have he : ((h1.push (tupI ax 0)).push (enumO h1.objs.size)).get? (h1.push (tupI ax 0)).objs.size = some (enumO h1.objs.size) := Heap.get?_push_size _ rfl
  have hi : ((h1.push (tupI ax 0)).push (enumO h1.objs.size)).get? h1.objs.size = some (tupI ax 0) := Heap.get?_push_of_some _ (Heap.get?_push_size _ rfl)
  have lp : Le h1 (h1.push (tupI ax 0)) := fun b o e => Heap.get?_push_of_some _ e
  refine ⟨⟨_, he, rfl⟩, H _ [((h1.push (tupI ax 0)).objs.size, enumO h1.objs.size), (h1.objs.size, tupI ax 0)] _ _ (lp.trans fun b o e => Heap.get?_push_of_some _ e) (fun p hp => ?_) ⟨_, _, rfl, rfl, by rw [hz]; exact Nat.succ_ne_self _⟩⟩
  rcases List.mem_cons.mp hp with rfl | hp
  · exact ⟨he, lp.none sizeNone⟩
  · rw [List.mem_singleton.mp hp]
    exact ⟨hi, sizeNone⟩
/-- the tuple's iterator, asked by its own next -/
theorem tnext {it t : Addr} {i : Nat} {items : Array Value} {Q : Value → Shared → Prop} (hh : A.handled = none) (hit : s.heap.IsTupleIter it t i) (ht : s.heap.IsTuple t items)
    (hQ : ∀ x h', items[i]? = some x → h'.IsTupleIter it t (i + 1) → Heap.SameBut it s.heap h' → Q x { s with heap := h' })
    (hE : items[i]? = none → ∀ h' e, Heap.ExtBut it s.heap h' → (∃ o, h'.get? e = some o ∧ o.cls = .type "StopIteration") → E (.ref e) { s with heap := h' }) :
    wpAny (model prog w) A (Builtin.SmallTypes.nextOf (.ref it)) Q E s := by
  obtain ⟨o, ho, hc, hd⟩ := id hit
  obtain ⟨ot, hot, _, nt, hdt⟩ := ht
  unfold Builtin.SmallTypes.nextOf
  refine wpAny_bind (wpAny_callSpecial?_slot (name := Str.ofString "__next__") hit.typeIs PySem.F.slot_tuple_iterator_next (wpAny_call_entry PySem.F.slot_tuple_iterator_next hit.typeIs PySem.F.entry_tuple_iterator_next ?_ (PySem.F.args_tuple_iterator_next_1 _)))
  show wpAny _ _ (field (.ref it) 0 >>= _) _ _ s
  refine wpAny_bind (wpAny_field ho hd (x := .ref t) rfl ?_)
  show wpAny _ _ (if (Value.ref t == Value.none) = true then _ else _) _ _ s
  rw [if_neg (show ¬ ((Value.ref t == Value.none) = true) from Bool.false_ne_true)]
  show wpAny _ _ (field (.ref it) 1 >>= _) _ _ s
  refine wpAny_bind (wpAny_field ho hd (x := .int i 0) rfl ?_)
  show wpAny _ _ (seqItems? (.ref t) >>= _) _ _ s
  refine wpAny_bind (wpAny_seqItems hot hdt ?_)
  simp only [Int.toNat_natCast]
  cases hx : items[i]? with
  | some x =>
    dsimp only
    refine wpAny_bind (wpAny_setField ho hd (by simp) (wpAny_pure ⟨x, rfl, wpAny_pure (hQ x _ hx ⟨_, Heap.get?_update_self _ ho (Obj.isFreed_of_fields (Obj.data_mapFields hd _)), (Obj.cls_mapFields ..).trans hc, ?_⟩ (Heap.SameBut.update ..))⟩))
    rw [Obj.data_mapFields hd]; simp [rawInt]
  | none =>
    dsimp only
    refine wpAny_bind (wpAny_rule (wpAny_bind (wpAny_setField ho hd (by simp) ?_)))
    show wpAny _ _ (newExc (.type "StopIteration") [] >>= _) _ _ _
    refine wpAny_bind ?_
    simp only [newExc, newTuple]
    refine wpAny_bind (wpAny_newObj_type ?_ (by size_fits))
    refine wpAny_bind (m := firstArgMember _ _) (wpAny_of_eq (a := Value.none) (by first | rfl | (simp only [firstArgMember]; rfl)) ?_)
    refine wpAny_newObj_type ?_ (by size_fits)
    simp only [raiseNew]
    refine wpAny_bind (wpAny_handled ?_)
    first | rw [show A.in1.handled = none from hh] | rw [hh]
    refine wpAny_bind (wpAny_pure (wpAny_throw ?_))
    exact hE hx _ _ (((Heap.SameBut.update ..).extBut.push _).push _) ⟨_, Heap.get?_push_size _ rfl, rfl⟩
theorem drawsT (hh : A.handled = none) (it l : Addr) (hne : l ≠ it) (items : Array Value) :
    Draws prog w A it [it, l] items.size (fun i v => items[i]? = some v) (fun i h => h.IsTupleIter it l i ∧ h.IsTuple l items) where
  live := fun _ _ st => let ⟨o, ho, _⟩ := st.1; ⟨o, ho⟩
  frame := fun _ _ _ st hk => ⟨let ⟨o, ho, r⟩ := st.1; ⟨o, hk it (.head _) o ho, r⟩, let ⟨o, ho, r⟩ := st.2; ⟨o, hk l (.tail _ (.head _)) o ho, r⟩⟩
  item := fun i s Q E hi st hQ => tnext hh st.1 st.2 (fun x h' hx hit' hs' => hQ x h' s.toks hx ⟨hit', let ⟨o, ho, r⟩ := st.2; ⟨o, (hs'.2 l hne).trans ho, r⟩⟩ hs') fun hx => by simp [hi] at hx
  done := fun s Q E st hE => tnext hh st.1 st.2 (fun x h' hx => by simp at hx) fun _ h' e he ho => hE h' e he ho
end
section
variable {prog : Program} {w : World} {A : Around} {h : Heap} {env : Env} {h₀ : Heap} {L : Addr} {m : Str → Option Value} {l : List (Str × Value)} {news : List (Addr × Obj)} {g : Array GenState} {d : Drawn} {tk : Nat} {os : OsState} {E : Value → Shared → Prop} {Q : Flow → Shared → Prop}
/-- two names over enumerate of a tuple of the ledger -/
theorem for_enumT {a b : Str} {pa pb tp : Pos} {kk : Nat} {body orelse rest : List Stmt} {e it ax : Addr} {items : List Value} (Inv : Nat → List (Str × Value) → List (Addr × Obj) → Prop) (hh : A.handled = none)
    (F : Fr h₀ L h (frm l)) (N : News h₀ L h ([(e, enumO it), (it, tupI ax 0)] ++ news)) (hei : e ≠ it) (hne : ∀ p ∈ news, p.1 ≠ e ∧ p.1 ≠ it) (h0 : Inv 0 l news) (hx : ∀ i l news, Inv i l news → (ax, tupO items) ∈ news)
    (body_ok : ∀ i v1 v2 dsl h tk l news, i < items.length → IsI i v1 → items[i]? = some v2 → Inv i l news → Fr h₀ L h (frm ((b, v2) :: (a, v1) :: l)) → News h₀ L h (dsl ++ news) → (∀ p ∈ news, p.1 ∉ dsl.map (·.1)) →
      WP prog w A (execs body env) (TurnDQ h₀ L dsl g d os (fun l' news' => Inv (i + 1) l' news' ∧ ∀ p ∈ news', p.1 ∉ dsl.map (·.1)) (thenQ prog w A env rest Q .next) (fun v => Q (.ret v))) ⟨h, g, d, tk, os⟩)
    (end_ok : ∀ h tk l news, Inv items.length l news → Fr h₀ L h (frm l) → News h₀ L h news → WP prog w A (execs orelse env) (thenQ prog w A env rest Q) ⟨h, g, d, tk, os⟩)
    (hL : LocalEnv env L) (ha : env.kindOf a = some .local) (hb : env.kindOf b = some .local) :
    ForAt prog w A env (.Tuple [.Name a pa, .Name b pb] kk tp) body orelse rest Q (.ref e) ⟨h, g, d, tk, os⟩ := by
  intro R hR
  have he := N _ (.head _)
  have hi := N _ (.tail _ (.head _))
  have hax := N _ (List.mem_append_right _ (hx 0 l news h0))
  refine wpAny_pyIter_enum (s := ⟨h, g, d, tk, os⟩) he.1 ?_
  have ae : ax ≠ e := (hne _ (hx 0 l news h0)).1
  have ai : ax ≠ it := (hne _ (hx 0 l news h0)).2
  have W := WalksT.enumerateD (prog := prog) (w := w) (A := A) (fp := [it, ax]) (drawsT (A := A.in1) hh it ax ai items.toArray) e hei (by simp [hei, Ne.symm ae]) (.head _)
  have W2 := ItOf2.ofT (P := fun i v1 v2 => IsI i v1 ∧ items[i]? = some v2) W (fun i vals ⟨t, x, hx, hv⟩ => ⟨.int i t, x, hv, isI, by simpa using hx⟩) (fun i h ⟨⟨old, h1⟩, h2, h3⟩ b hb => by
    rcases List.mem_cons.mp hb with rfl | hb
    · exact ⟨_, h1⟩
    rcases List.mem_cons.mp hb with rfl | hb
    · obtain ⟨o, ho, _⟩ := h2; exact ⟨o, ho⟩
    · rw [List.mem_singleton.mp hb]; obtain ⟨o, ho, _⟩ := h3; exact ⟨o, ho⟩)
  refine code_for2 (wr := [e, it]) (n := items.toArray.size) W2 (fun _ => tupO items) (dsl := [(e, enumO it), (it, tupI ax 0)]) Inv hh hL ha hb ?_ ?_ ?_ ?_ h0 F rfl N ?_ ?_
  · intro q
    rcases List.mem_cons.mp q with q | q
    · exact he.2.1 q.symm
    rcases List.mem_cons.mp q with q | q
    · exact hi.2.1 q.symm
    · exact hax.2.1 (List.mem_singleton.mp q).symm
  · intro i l news hI b hb hw
    rcases List.mem_cons.mp hb with rfl | hb
    · exact absurd (.head _) hw
    rcases List.mem_cons.mp hb with rfl | hb
    · exact absurd (.tail _ (.head _)) hw
    · rw [List.mem_singleton.mp hb]; exact .inr (hx i l news hI)
  · rintro i v1 v2 dsl h tk l news hi ⟨hv1, hv2⟩ hI hd F N hne
    refine (body_ok i v1 v2 dsl h tk l news (by simpa using hi) hv1 hv2 hI F N (by rw [hd]; exact hne)).mono fun f s' hq => ?_
    simp only [hd] at hq
    cases f with
    | next => exact hq
    | cont => exact hq
    | brk => exact hR .next s' hq
    | ret v => exact hR (.ret v) s' hq
  · intro h tk l news hI F N
    rw [List.size_toArray] at hI
    exact (end_ok h tk l news hI F N).mono fun f s' hq => hR f s' hq
  · intro p hp q
    rcases List.mem_cons.mp q with q | q
    · exact (hne p hp).1 q
    · exact (hne p hp).2 (List.mem_singleton.mp q)
  · exact ⟨⟨_, he.1⟩, ⟨_, hi.1, rfl, rfl⟩, _, hax.1, rfl, _, rfl⟩
end
end Mine
end
section
set_option maxRecDepth 100000
set_option linter.unusedVariables false
open PySem PySem.W PyProof.Rows PySem.Calls PySem.Spec
namespace Mine
section
variable {prog : Program} {w : World} {A : Around} {h : Heap} {env : Env} {P : Value → Prop} {K : Frag} {h₀ : Heap} {L : Addr} {l : List (Str × Value)} {news : List (Addr × Obj)}
  {g : Array GenState} {d : Drawn} {tk : Nat} {os : OsState} {E : Value → Shared → Prop} {Q : Flow → Shared → Prop}
/-- y = [elt for x in range(..)] -/
theorem st_assignCompR {elt iter : Expr} {x y : Str} {px py : Pos} {scope : Scope} {cl : List (Str × Addr)} {pos spos : Pos} {rest : List Stmt} {a b c : Int} {n : Nat} (G : Int → Value → Prop)
    (hh : A.handled = none) (F : Fr h₀ L h (frm l)) (N : News h₀ L h news) (hsw : swapsWith (.ListComp elt [⟨.Name x px, iter, [], 0⟩] scope pos) (some (.Name y py)) spos.line env = pure true)
    (hclos : closureFor scope env = pure cl) (hcell : ∀ y ∈ scope.names, y.2 ≠ .cell) (hkind : scope.kind = .function)
    (hnames : ∀ y ∈ scope.names, y.2 = .local → scope.names.lookup y.1 = some .local) (hx : scope.names.lookup x = some .local)
    (hit : EX prog w A (eval iter env) h (fun v new => ∃ r t u y, v = .ref r ∧ new = [(r, rngO a b c t u y)])) (hsm : Builtin.Range.small a b c = true) (hn : Builtin.Range.rangeSize a b c = (n : Int)) (hsz : n ≤ 1000)
    (helt : ∀ C (i : Nat) v h2 m₂, i < n → IsI (a + i * c) v → Le h h2 → h2.Ns C m₂ → m₂ x = some v → EX prog w A (eval elt (compEnvC scope cl C env)) h2 (Im (G (a + i * c))))
    (H : ∀ D ys k h' tk', ys.length = n → (∀ (i : Nat) (y : Value), ys[i]? = some y → G (a + i * c) y) → Fr h₀ L h' (frm ((y, .ref D) :: l)) → News h₀ L h' ((D, lobj ys k) :: news) → (∀ q ∈ news, q.1 ≠ D) → WP prog w A (execs rest env) Q ⟨h', g, d, tk', os⟩)
    (hL : LocalEnv env L) (hy : env.kindOf y = some .local) (hs : ∀ x, foldedSetIterable iter env x = pure x := by intro _; kernel_rfl) :
    WP prog w A (execs (.Assign [.Name y py] (.ListComp elt [⟨.Name x px, iter, [], 0⟩] scope pos) spos :: rest) env) Q ⟨h, g, d, tk, os⟩ := by
  refine wp_cons ⟨?_⟩
  obtain ⟨rfl, hk⟩ := hL
  with_reducible refine wpAny_Assign_ListComp_free (fun _ => true) (fun v y => ∀ i : Nat, IsI (a + i * c) v → i < n → G (a + i * c) y) hsw hclos hcell hkind hnames hx hy (LocalEnv.no ⟨rfl, hk⟩) (hit.at fun xv n0 h2 tk2 l2 f2 hv => ?_) hs
  obtain ⟨r, t, u, y', rfl, rfl⟩ := hv
  have F2 := fr_up F l2
  have N2 := nw_up N l2
  have hr := (f2 _ (.head _)).1
  refine wpAny_pyIter_range (s := ⟨h2, g, d, tk2, os⟩) hr hsm ?_
  generalize hob : ({ cls := .type "range_iterator", data := .fields #[rawInt a, rawInt (Builtin.Range.rangeSize a b c), rawInt c] } : Obj) = ob
  have lp : Le h2 (h2.push ob) := fun b o e => Heap.get?_push_of_some _ e
  obtain ⟨oL, hoL⟩ := ns_isSome F2.ns
  have wrok : ∀ (s₃ : Shared), (∀ b o, b ∉ [h2.objs.size] → (h2.push ob).get? b = some o → s₃.heap.get? b = some o) → Le h2 s₃.heap := fun s₃ hk b o e =>
    hk b o (fun hm => by rw [List.mem_singleton.mp hm, sizeNone] at e; cases e) (lp b o e)
  have W := Walks.range (prog := prog) (w := w) (A := A) hh h2.objs.size a c n
  have W' : Walks prog w A h2.objs.size [h2.objs.size] [h2.objs.size] n (fun i v => i < n ∧ ∃ t, v = .int (a + i * c) t) (fun i h => IsRangeIter h h2.objs.size (a + (i : Nat) * c) ((n : Int) - (i : Nat)) c) :=
    ⟨W.sub, W.frame, fun i s Q E hi st H => W.item i s Q E hi st fun v h' tk hp => H v h' tk ⟨hi, hp⟩, W.done, W.self⟩
  refine ⟨h2.objs.size, _, _, n, _, _, frm l, rfl, W', Nat.le_trans hsz (by decide), ?_, ?_, ?_, ns_up F2.ns lp, ⟨?_, ?_⟩, ?_⟩
  · show (h2.push ob).get? _ = _
    rw [Heap.get?_push_size _ (by rw [← hob]; rfl), ← hob, hn]
    simp
  · intro b hb
    rw [List.mem_singleton.mp hb]
    show _ < (h2.push ob).objs.size
    rw [Heap.size_push]; exact Nat.lt_succ_self _
  · intro hm
    have := Heap.lt_size hoL
    rw [List.mem_singleton.mp hm] at this
    exact Nat.lt_irrefl _ this
  · intro C i v s₃ m₃ E' hC hP hn' hm hk htk
    exact (EX.pure (V := Im (· = true)) ⟨rfl, rfl⟩ : EX prog w A (pure true) s₃.heap _).keepsB
  · intro C i v s₃ m₃ E' hC hP hpv hn' hm hk htk
    obtain ⟨hi, tv, rfl⟩ := hP
    refine wpAny_mono (helt C i _ s₃.heap m₃ hi isI (Le.trans l2 (wrok s₃ hk)) hn' hm).keeps (fun y s4 hy => ⟨fun j hj hjn => ?_, hy.2⟩) fun _ _ e => e
    obtain ⟨tj, hj⟩ := hj
    have e := (Value.int.inj hj).1
    rw [← e]; exact hy.1
  · intro D h' tk' ys vs hD hLD hPL hlen hP hG hnL hk
    obtain ⟨n', hn'⟩ := hPL
    obtain ⟨ys⟩ := ys
    have hF' : Paired (fun v y => ∀ i : Nat, IsI (a + i * c) v → i < n → G (a + i * c) y) vs ys := by
      have : vs.filter (fun _ => true) = vs := List.filter_eq_self.mpr fun _ _ => rfl
      rw [this] at hG; exact hG
    have kp : ∀ b o, b ≠ env.locals → h2.get? b = some o → h'.get? b = some o := fun b o hb e => hk b o hb (fun hm => by rw [List.mem_singleton.mp hm, sizeNone] at e; cases e) (lp b o e)
    have hLD : D ≠ env.locals := fun e => by
      have := lp _ _ hoL
      rw [← e, hD] at this; cases this
    have hb0 : ∀ b o, h₀.get? b = some o → b ≠ env.locals := fun b o e => Nat.ne_of_lt (Nat.lt_of_lt_of_le (Heap.lt_size e) F.above)
    have h2D : h2.get? D = none := lp.none hD
    rw [frm_cons] at hnL
    refine (H D ys n' h' tk' (by rw [← paired_len hF', hlen]) (fun i y hy => ?_) ⟨hnL, fun b o e => kp b o (hb0 _ _ e) (F2.keep _ _ e), F.above⟩ (fun q hq => ?_) fun q hq e => ?_).run
    · obtain ⟨v, hv, hf⟩ := paired_at hF' hy
      have hi : i < n := by
        have := (List.getElem?_eq_some_iff.mp hv).1
        omega
      exact hf i (hP i v hv).2 hi
    · rcases List.mem_cons.mp hq with rfl | hq
      · exact ⟨hn', hLD, (show Le h₀ h2 from F2.keep).none h2D⟩
      · exact ⟨kp _ _ (N2 q hq).2.1 (N2 q hq).1, (N2 q hq).2⟩
    · have := (N2 q hq).1
      rw [e, h2D] at this; cases this
end
end Mine
end
section
set_option maxRecDepth 100000
set_option linter.unusedVariables false
open PySem PySem.W PyProof.Rows PySem.Calls PySem.Spec
namespace Mine
local macro_rules | `(tactic| walk_at "lk") => `(tactic| repeat (first | with_reducible exact frm_head | with_reducible assumption | with_reducible refine frm_tail (by kernel_rfl) ?_))
local macro_rules | `(tactic| walk_at "zl") => `(tactic| (refine ex_local (Fr.ns (by assumption)) (by walk_at "lk") ?_ (by kernel_rfl) (by kernel_rfl) (by kernel_rfl); first | exact isI | exact isS | exact isB | rfl))
section
variable {prog : Program} {w : World} {A : Around} {h : Heap} {env : Env} {P : Value → Prop} {K : Frag} {h₀ : Heap} {L : Addr} {m : Str → Option Value} {l : List (Str × Value)} {news : List (Addr × Obj)}
  {g : Array GenState} {d : Drawn} {tk : Nat} {os : OsState} {E : Value → Shared → Prop} {Q : Flow → Shared → Prop}
theorem op_adds {x y : Str} (u v : Value) (hx : IsS x u) (hy : IsS y v) (hz : x.length + y.length ≤ 1000) : EX prog w A (binaryOp .Add u v) h (Im (IsS (x ++ y))) := by
  obtain ⟨t, rfl⟩ := hx; obtain ⟨t', rfl⟩ := hy
  exact ⟨fun h' g d tk os Q E le H => PyProof.Rows.add_str (s := ⟨h', g, d, tk, os⟩) (fun t' tk' => H _ [] _ _ Le.refl Fresh.nil ⟨rfl, isS⟩) (Nat.le_trans hz (by decide))⟩
theorem gm_title {a : Value} {x : Str} {pl : Sem Bool} (ha : IsS x a) : EX prog w A (getMethod a (Str.ofString "title") pl) h (Im (· = (.builtin "str.title", [a]))) := by
  obtain ⟨t, rfl⟩ := ha
  exact ⟨fun _ _ _ _ _ _ _ le H => by with_reducible exact GM.title (H _ [] _ _ Le.refl Fresh.nil ⟨rfl, rfl⟩)⟩
/-- e.title() -/
theorem ex_title {e : Expr} {ap cp : Pos} {x : Str} (he : EX prog w A (eval e env) h (Im (IsS x))) (hfit : x.length ≤ 1000) (hr : MCall e (Str.ofString "title") ap cp [] env := by kernel_rfl) :
    EX prog w A (eval (.Call (.Attribute e (Str.ofString "title") ap) [] [] cp) env) h (Im (IsS (Txt.title x))) :=
  ex_meth (P1 := IsS x) (fv := .builtin "str.title") (first := fun a => [a]) he (fun a ha => gm_title ha) (fun a ha => by
    obtain ⟨t, rfl⟩ := ha
    exact cw_m0 ⟨fun h' g d tk os Q E le H => by with_reducible exact SCL.title (Nat.le_trans hfit (by decide)) (fun _ => H _ [] _ _ Le.refl Fresh.nil ⟨rfl, isS⟩)⟩) hr
/-- str(i) -/
theorem cl_strI {i : Int} {v : Value} (hv : IsI i v) (hz : i.natAbs.log2 < 1920) : EX prog w A (call (.type "str") [v]) h (Im (IsS (toString i))) := by
  obtain ⟨t, rfl⟩ := hv
  exact ⟨fun h' g d tk os Q E le H => PySem.P.str_of_int (s := ⟨h', g, d, tk, os⟩) hz (H _ [] _ _ Le.refl Fresh.nil ⟨rfl, isS⟩)⟩
/-- t + u of tuples -/
theorem op_addT {a b : Addr} {xs ys : List Value} (h1 : h.IsTuple a xs.toArray) (h2 : h.IsTuple b ys.toArray) (hx : xs ≠ []) (hy : ys ≠ []) (hz : xs.length + ys.length ≤ 1000) : EX prog w A (binaryOp .Add (.ref a) (.ref b)) h (fun v new => ∃ D, v = .ref D ∧ new = [(D, tupO (xs ++ ys))]) := ⟨fun h' g d tk os Q E le H => by
  obtain ⟨⟨cls, dd, data, sl⟩, ho, hc, n, hd⟩ := tuple_up h1 le
  obtain ⟨⟨cls2, dd2, data2, sl2⟩, ho2, hc2, n2, hd2⟩ := tuple_up h2 le
  simp only at hc hd hc2 hd2
  subst hc hd hc2 hd2
  have e : xs.toArray ++ ys.toArray = (xs ++ ys).toArray := by simp
  refine concat_meets (s := ⟨h', g, d, tk, os⟩) ⟨_, ho, rfl⟩ ⟨_, ho2, rfl⟩ noFill_tuple_add seq_tuple_add PySem.F.slot_tuple_add PySem.F.entry_tuple_add (PySem.F.args_tuple_add_2 _ _)
    (tuple_addW2 a b xs.toArray ys.toArray n n2 dd dd2 sl sl2 (by simpa using hx) (by simpa using hy) (by rw [List.size_toArray, List.size_toArray]; exact Nat.le_trans hz (by decide))) ⟨ho, ho2, ?_⟩
  rw [e]
  refine H _ [(h'.objs.size, tupO (xs ++ ys))] _ _ (fun b o q => Heap.get?_push_of_some _ q) (fun p hp => ?_) ⟨_, rfl, rfl⟩
  rw [List.mem_singleton.mp hp]
  exact ⟨Heap.get?_push_size _ rfl, sizeNone⟩⟩
/-- xs[i:j] -/
theorem ex_runL {value e1 e2 : Expr} {sp pos : Pos} {D : Addr} {vs : List Value} {i j : Nat} (hv : EX prog w A (eval value env) h (Im (· = .ref D))) (h1 : EX prog w A (eval e1 env) h (Im (IsI (i : Int)))) (h2 : EX prog w A (eval e2 env) h (Im (IsI (j : Int)))) (hl : h.IsList D vs.toArray) (hz : vs.length ≤ 1000) (hj : j ≤ vs.length) (hij : i ≤ j)
    (ht : ∀ o r, letTemporaryGo value o r = pure () := by intro _ _; kernel_rfl) : EX prog w A (eval (.Subscript value (.Slice (some e1) (some e2) none sp) pos) env) h (fun v new => ∃ b, v = .ref b ∧ new = [(b, lobj ((vs.drop i).take (j - i)) 0)]) := ⟨fun ha g d tk os Q E le H => by
  refine wpAny_Subscript_list_slice (hv.run ha g d tk os _ E le fun a n2 hb tk2 l2 f2 ha' => ?_) ht
  show wpAny _ _ (eval e1 env) _ _ _
  refine h1.run hb g d tk2 os _ E (le.trans l2) fun lv n3 hc tk3 l3 f3 hlv => ?_
  show wpAny _ _ (eval e2 env) _ _ _
  refine h2.run hc g d tk3 os _ E ((le.trans l2).trans l3) fun uv n4 hd tk4 l4 f4 huv => ?_
  refine ⟨D, vs.toArray, some i, some j, ha'.2, list_up hl (((le.trans l2).trans l3).trans l4), by rw [List.size_toArray]; exact Nat.le_trans hz (by decide), ?_, ?_, ?_⟩
  · obtain ⟨t, rfl⟩ := hlv.2; exact .int _ _
  · obtain ⟨t, rfl⟩ := huv.2; exact .int _ _
  rw [slicePick_run _ _ _ (by rw [List.size_toArray]; exact hj) hij]
  have l5 : Le hd (hd.push { cls := .type "slice", data := .fields #[lv, uv, .none] }) := fun b o q => Heap.get?_push_of_some _ q
  refine H _ [(hd.objs.size + 1, lobj ((vs.drop i).take (j - i)) 0)] _ _ ((((l2.trans l3).trans l4).trans l5).trans fun b o q => Heap.get?_push_of_some _ q) (fun p hp => ?_) ⟨_, rfl, rfl⟩
  rw [List.mem_singleton.mp hp]
  have hs : (hd.push { cls := .type "slice", data := .fields #[lv, uv, .none] }).objs.size = hd.objs.size + 1 := Heap.size_push ..
  refine ⟨by rw [← hs]; exact Heap.get?_push_size _ rfl, ?_⟩
  cases q : ha.get? (hd.objs.size + 1) with
  | none => rfl
  | some o => exact absurd (Heap.lt_size (l4 _ _ (l3 _ _ (l2 _ _ q)))) (Nat.not_lt.mpr (Nat.le_succ _))⟩
theorem slice_mem {x : Str} {a b : Option Int} {c : Nat} (h : c ∈ (Txt.slice x a b).cps.toList) : c ∈ x.cps.toList := by
  unfold Txt.slice at h
  split at h
  · exact h
  · obtain ⟨i, hi, e⟩ := List.mem_filterMap.mp (by simpa using h)
    exact Array.mem_toList_iff.mpr (Array.mem_of_getElem? e)
/-- e[:n] of a text just made -/
theorem ex_sliceToC {value e2 : Expr} {p pos : Pos} {P1 : Value → Prop} {N : Nat} {j : Int} (hv : EX prog w A (eval value env) h (Im P1)) (hP : ∀ v, P1 v → ∃ x t, v = .str x t ∧ x.length ≤ N ∧ Okx x) (h2 : EX prog w A (eval e2 env) h (Im (IsI j))) (hN : N ≤ 1000)
    (ht : ∀ x t r, letTemporaryGo value (.str x t) r = pure () := by intro _ _ _; kernel_rfl)
    (hs : ∀ x t i, subscripted (.Slice none (some e2) none p) false (.str x t) (.ref i) = operate [.str x t, .ref i] (getItem (.str x t) (.ref i)) := by intro _ _ _; with_unfolding_all rfl) :
    EX prog w A (eval (.Subscript value (.Slice none (some e2) none p) pos) env) h (Im fun v => ∃ x t, v = .str x t ∧ x.length ≤ N ∧ Okx x) := by
  refine ⟨fun ha g d tk os Q E le H => ?_⟩
  refine Subscript_ (hv.run ha g d tk os _ E le fun o n h2' tk2 l2 f2 ho => wpAny_Slice ?_)
  rw [evalPart_none]
  refine wpAny_pure ?_
  show wpAny _ _ (eval e2 env) _ _ _
  refine h2.run h2' g d tk2 os _ E (le.trans l2) fun vu n3 h3 tk3 l3 f3 hu => ?_
  refine wpAny_pure ?_
  obtain ⟨x, t, rfl, hx, hok⟩ := hP _ ho.2
  obtain ⟨u2, rfl⟩ := hu.2
  have hsz : x.length ≤ sizeLine := Nat.le_trans hx (Nat.le_trans hN (by decide))
  refine subscriptTail_builtin (T := "str") (typeIs_str _ x t) F.slot_str_getitem.lookup ?_ (hs _ _ _) (ht _ _)
  refine wpAny_getItem_str_slice (l := none) (u := some (j, u2)) (st := none) ⟨_, Heap.get?_push_size _ rfl, rfl, rfl⟩ rfl ?_
  exact post_val_or_str ⟨Nat.le_trans (Txt.slice_le x none (some j)) hsz, fun t' k => H _ [] _ _ ((l2.trans l3).trans fun b o e => Heap.get?_push_of_some _ e) Fresh.nil ⟨rfl, _, _, rfl, Nat.le_trans (Txt.slice_le x none (some j)) hx, fun c hc => hok c (slice_mem hc)⟩⟩
end
end Mine
end
section
set_option maxRecDepth 100000
set_option linter.unusedVariables false
open PySem PySem.W PyProof.Rows PySem.Calls PySem.Spec PySem.SeqAt
namespace Mine
local macro_rules | `(tactic| walk_at "lk") => `(tactic| repeat (first | with_reducible exact frm_head | with_reducible assumption | with_reducible refine frm_tail (by kernel_rfl) ?_))
local macro_rules | `(tactic| walk_at "zl") => `(tactic| (refine ex_local (Fr.ns (by assumption)) (by walk_at "lk") ?_ (by kernel_rfl) (by kernel_rfl) (by kernel_rfl); first | exact isI | exact isS | exact isB | rfl))
/-! rows as data -/
def rowD (r : Row) : PyData := .tuple [.int r.place, .tuple (r.names.map .str), .str r.value, .tuple (stkD r.stack)]
def RowOk (r : Row) : Prop := Okx r.value ∧ ∀ n ∈ r.names, Okx n
theorem strs_reads {h : Heap} : ∀ {xs : List Str} {vs : List Value}, Strs xs vs → ReadsAll h vs (xs.map .str) []
  | [], _, .nil => .nil
  | x :: xs, _, .cons (b := b) hb r => by
    obtain ⟨t, rfl⟩ := hb
    exact .cons (as := []) (bs := []) (.str _ _) (strs_reads r)
theorem row_read {h : Heap} {r : Row} {v : Value} (x : RowV h r v) : Reads h v (rowD r) [] := by
  obtain ⟨a, nt, sa, t1, t2, nvs, svs, rfl, ⟨o, ho, hc, n, hd⟩, ⟨o2, ho2, hc2, n2, hd2⟩, hs, ⟨o3, ho3, hc3, n3, hd3⟩, V⟩ := x
  refine .tuple ho hc hd ?_
  refine .cons (as := []) (bs := []) (.int _ _) (.cons (as := []) (bs := []) (.tuple ho2 hc2 hd2 (strs_reads hs)) (.cons (as := []) (bs := []) (.str _ _) (.cons (as := []) (bs := []) (.tuple ho3 hc3 hd3 (stk_reads V)) .nil)))
theorem rows_reads {h : Heap} {rs : List Row} {vs : List Value} (p : Paired (RowV h) rs vs) : ReadsAll h vs (rs.map rowD) [] := by
  induction p with
  | nil => exact .nil
  | cons f _ ih => exact .cons (as := []) (bs := []) (row_read f) ih
theorem rows_read {h : Heap} {a : Addr} {rs : List Row} {vs : List Value} (hl : h.IsList a vs.toArray) (p : Paired (RowV h) rs vs) : Reads h (.ref a) (.list (rs.map rowD)) [a] := by
  obtain ⟨o, ho, hc, n, hd⟩ := hl
  exact .list ho hc hd (rows_reads p)
theorem strs_lay : ∀ {xs : List Str}, (∀ x ∈ xs, Okx x) → PyData.canLayAll0 (xs.map .str) = true
  | [], _ => rfl
  | x :: r, h => by
    show (PyData.canLay0 (.str x) && PyData.canLayAll0 (r.map .str)) = true
    rw [strs_lay fun y hy => h y (.tail _ hy), Bool.and_true]
    exact okx_str (h x (.head _))
theorem rowD_lay {r : Row} (h : RowOk r) : PyData.canLay0 (rowD r) = true := by
  show (PyData.canLay0 (.int r.place) && (PyData.canLayAll0 (r.names.map .str) && (PyData.canLay0 (.str r.value) && (PyData.canLayAll0 (stkD r.stack) && true)))) = true
  rw [strs_lay h.2, stk_lay, show PyData.canLay0 (.str r.value) = true from okx_str h.1]; rfl
theorem rows_lay : ∀ {rs : List Row}, (∀ r ∈ rs, RowOk r) → PyData.canLayAll0 (rs.map rowD) = true
  | [], _ => rfl
  | r :: rs, h => by
    show (PyData.canLay0 (rowD r) && PyData.canLayAll0 (rs.map rowD)) = true
    rw [rowD_lay (h r (.head _)), rows_lay fun q hq => h q (.tail _ hq)]; rfl
theorem strs_depth : ∀ xs : List Str, PyData.depthAll (xs.map .str) ≤ 1
  | [] => by simp [PyData.depthAll]
  | s :: r => by
    have := strs_depth r
    simp only [List.map_cons, PyData.depthAll, PyData.depth] at this ⊢
    omega
theorem rowD_depth (r : Row) : (rowD r).depth ≤ 4 := by
  have h1 := strs_depth r.names
  have h2 := stk_depth r.stack
  simp only [rowD, PyData.depth, PyData.depthAll]
  omega
theorem rows_depth : ∀ rs : List Row, PyData.depthAll (rs.map rowD) ≤ 5
  | [] => by simp [PyData.depthAll]
  | r :: rs => by
    have h1 := rows_depth rs
    have h2 := rowD_depth r
    simp only [List.map_cons, PyData.depthAll]
    omega
theorem rows_shaped {rs : List Row} (h : ∀ r ∈ rs, RowOk r) : shaped (.list (rs.map rowD)) = true := by
  unfold shaped
  have e : PyData.canLay0 (.list (rs.map rowD)) = true := rows_lay h
  have e2 : (PyData.list (rs.map rowD)).depth ≤ 64 := by
    have := rows_depth rs
    show PyData.depthAll (rs.map rowD) + 1 ≤ 64
    omega
  rw [e, decide_eq_true e2]; rfl
theorem strs_noMix : ∀ xs : List Str, noMixAll (xs.map .str) (xs.map .str) = true
  | [] => rfl
  | x :: r => by
    show (noMix (.str x) (.str x) && noMixAll (r.map .str) (r.map .str)) = true
    rw [strs_noMix r]; rfl
theorem rows_noMix : ∀ rs : List Row, noMixAll (rs.map rowD) (rs.map rowD) = true
  | [] => rfl
  | r :: rs => by
    show ((true && (noMixAll (r.names.map .str) (r.names.map .str) && (true && (noMixAll (stkD r.stack) (stkD r.stack) && true)))) && noMixAll (rs.map rowD) (rs.map rowD)) = true
    rw [rows_noMix rs, strs_noMix, stk_noMix]; rfl
section
variable {prog : Program} {w : World} {A : Around} {h : Heap} {env : Env} {P : Value → Prop} {K : Frag} {h₀ : Heap} {L : Addr} {m : Str → Option Value} {l : List (Str × Value)} {news : List (Addr × Obj)}
  {g : Array GenState} {d : Drawn} {tk : Nat} {os : OsState} {E : Value → Shared → Prop} {Q : Flow → Shared → Prop}
theorem op_neRows {a b : Addr} {rs : List Row} {vs vs' : List Value} (hu : A.units + 64 < cLine) (h1 : h.IsList a vs.toArray) (h2 : h.IsList b vs'.toArray) (p1 : Paired (RowV h) rs vs) (p2 : Paired (RowV h) rs vs') (ok : ∀ r ∈ rs, RowOk r) (x y : Value) (hx : x = .ref a) (hy : y = .ref b) : EX prog w A (compareOp .NotEq x y) h (Im (IsB false)) := by
  subst hx hy
  exact ⟨fun h' g d tk os Q E le H => ne_dataH_same (s := ⟨h', g, d, tk, os⟩) (rows_read (list_up h1 le) (paired_up (SeqKp.le le).tup p1)) (rows_read (list_up h2 le) (paired_up (SeqKp.le le).tup p2)) (rows_shaped ok) (rows_shaped ok) hu (rows_noMix rs) (by
    rw [PySem.Spec.same_self]; exact H _ [] _ _ Le.refl Fresh.nil ⟨rfl, rfl⟩)⟩
theorem op_neStk {a b : Addr} {st : List Sta} {vs vs' : List Value} (hu : A.units + 64 < cLine) (h1 : h.IsTuple a vs.toArray) (h2 : h.IsTuple b vs'.toArray) (V1 : StkV st vs) (V2 : StkV st vs') (x y : Value) (hx : x = .ref a) (hy : y = .ref b) : EX prog w A (compareOp .NotEq x y) h (Im (IsB false)) := by
  subst hx hy
  exact ⟨fun h' g d tk os Q E le H => ne_dataH_same (s := ⟨h', g, d, tk, os⟩) (stk_read (tuple_up h1 le) V1) (stk_read (tuple_up h2 le) V2) (stk_shaped st) (stk_shaped st) hu (stk_noMix st st) (by
    rw [PySem.Spec.same_self]; exact H _ [] _ _ Le.refl Fresh.nil ⟨rfl, rfl⟩)⟩
theorem op_neNil {a b : Addr} (hu : A.units + 64 < cLine) (h1 : h.IsList a #[]) (h2 : h.IsList b #[]) : EX prog w A (compareOp .NotEq (.ref a) (.ref b)) h (Im (IsB false)) := 
  ⟨fun h' g d tk os Q E le H => by
    obtain ⟨o, ho, hc, n, hd⟩ := list_up h1 le
    obtain ⟨o2, ho2, hc2, n2, hd2⟩ := list_up h2 le
    exact ne_dataH_same (s := ⟨h', g, d, tk, os⟩) (.list ho hc hd .nil) (.list ho2 hc2 hd2 .nil) (by rfl) (by rfl) hu (by rfl) (by
      rw [PySem.Spec.same_self]; exact H _ [] _ _ Le.refl Fresh.nil ⟨rfl, rfl⟩)⟩
/-- text.find(sub, start) -/
theorem gm_find {a : Value} {x : Str} {pl : Sem Bool} (ha : IsS x a) : EX prog w A (getMethod a (Str.ofString "find") pl) h (Im (· = (.builtin "str.find", [a]))) := by
  obtain ⟨t, rfl⟩ := ha
  exact ⟨fun _ _ _ _ _ _ _ le H => by with_reducible exact GM.find (H _ [] _ _ Le.refl Fresh.nil ⟨rfl, rfl⟩)⟩
theorem ex_find {o e1 e2 : Expr} {ap cp : Pos} {x y : Str} {i : Int} (ho : EX prog w A (eval o env) h (Im (IsS x))) (h1 : EX prog w A (eval e1 env) h (Im (IsS y))) (h2 : EX prog w A (eval e2 env) h (Im (IsI i)))
    (he : starEach [e1, e2] env = (false, eval e1 env) :: starEach [e2] env := by kernel_rfl) (hr : MCall o (Str.ofString "find") ap cp [e1, e2] env := by kernel_rfl) (he2 : starEach [e2] env = [(false, eval e2 env)] := by kernel_rfl) :
    EX prog w A (eval (.Call (.Attribute o (Str.ofString "find") ap) [e1, e2] [] cp) env) h (Im (IsI (Txt.find3 x y i))) :=
  ex_meth (P1 := IsS x) (fv := .builtin "str.find") (first := fun a => [a]) ho (fun a ha => gm_find ha) (fun a ha => drop_new (cw_builtinM (exs_consN (V1 := Im (IsS y)) h1 (exs_one h2 he2) he) (fun vs new h3 le3 hn hv => by
    obtain ⟨v1, r1, n1, n2, rfl, rfl, ⟨rfl, t1, rfl⟩, v2, rfl, rfl, t2, rfl⟩ := hv
    obtain ⟨t, rfl⟩ := ha
    exact ⟨fun h' g d tk os Q E le H => SC.find3 (s := ⟨h', g, d, tk, os⟩) (H _ [] _ _ Le.refl Fresh.nil isI)⟩) he (by rw [he2]; rfl))) hr
/-- x = e, x a cell's name -/
theorem st_assignCell {x : Str} {p pos : Pos} {e : Expr} {rest : List Stmt} {ca : Addr} {oc : Obj} {v0 : Option Value} (F : Fr h₀ L h (frm l)) (N : News h₀ L h ((ca, oc) :: news)) (hd : oc.data = .cell v0) (hne : ∀ q ∈ news, q.1 ≠ ca) (he : EX prog w A (eval e env) h (Im P))
    (H : ∀ v o' h' tk', P v → o'.data = .cell (some v) → Fr h₀ L h' (frm l) → News h₀ L h' ((ca, o') :: news) → WP prog w A (execs rest env) Q ⟨h', g, d, tk', os⟩)
    (hL : LocalEnv env L) (hk : env.kindOf x = some .cell) (hca : env.cells.lookup x = some ca) (hsw : swapsWith e (some (.Name x p)) pos.line env = pure false) :
    WP prog w A (execs (.Assign [.Name x p] e pos :: rest) env) Q ⟨h, g, d, tk, os⟩ := by
  refine ⟨?_⟩
  with_reducible refine wpAny_execs_cons (wpAny_Assign_Name (he.at fun v new h2 tk2 l2 f2 hv => ?_) hsw)
  have F2 := fr_up F l2
  have N2 := nw_up N l2
  have c' := N2 (ca, oc) (.head _)
  refine wpAny_storeName_cell (s := ⟨h2, g, d, tk2, os⟩) hL.fn hk hca ⟨oc, c'.1, hd⟩ fun h3 hc3 hs3 => ?_
  obtain ⟨o', ho', hd'⟩ := hc3
  have kk : ∀ b ob, b ≠ ca → h2.get? b = some ob → h3.get? b = some ob := fun b ob hb e => (hs3.2 b hb).trans e
  refine (H v o' h3 _ hv.2 hd' (fr_mu F2 N2 (.head _) kk) (fun q hq => ?_)).run
  rcases List.mem_cons.mp hq with rfl | hq
  · exact ⟨ho', c'.2⟩
  · have z := N2 q (.tail _ hq)
    exact ⟨kk _ _ (hne q hq) z.1, z.2⟩
/-- f(args) that may turn generators -/
theorem ex_callW {f : Expr} {args : List Expr} {cp : Pos} {e : Expr} {fv : Value} {PA : List Value → Prop} {QV : Value → Shared → Prop} (hf : EX prog w A (eval f env) h (Im (· = fv))) (ha : EX prog w A (spliced (backTo cp (starEach (e :: args) env))) h (Im PA)) (hk : Keeper3 (model prog w) h fv)
    (hc : ∀ vs h3 tk3, PA vs → Le h h3 → wpAny (model prog w) A (call fv vs) QV E ⟨h3, g, d, tk3, os⟩)
    (hr : eval (.Call f (e :: args) [] cp) env = (do callWith cp (← eval f env) [] (backTo cp (starEach (e :: args) env)) (backToKw cp (keywordEach [] env)))) (he : starEach (e :: args) env = (false, eval e env) :: starEach args env) (hplain : (backTo cp (starEach args env)).any (·.1) = false) :
    wpAny (model prog w) A (eval (.Call f (e :: args) [] cp) env) QV E ⟨h, g, d, tk, os⟩ := by
  refine Call_ (hf.at fun fx n1 h1 tk1 l1 f1 hfx => ?_) hr
  rw [hfx.2, he]
  refine callWith_of (P := fun h' => Le h1 h') (by show ((false || (backTo cp (starEach args env)).any (·.1)) || false) = false; rw [hplain]; rfl) (fun h' l => hk h' (l1.trans l)) (evalArgs_plain ?_)
  rw [he] at ha
  refine ha.run h1 g d tk1 os _ _ l1 fun vs n3 h3 tk3 l3 f3 hvs => ⟨l3, ?_⟩
  exact hc vs h3 tk3 hvs.2 (l1.trans l3)
/-- a, b = e and a, b, c = e, e may turn generators -/
theorem st_two {a b : Str} {pa pb tp pos : Pos} {k : Nat} {e : Expr} {rest : List Stmt} (hh : A.handled = none)
    (he : ∀ Qv : Value → Shared → Prop, (∀ R v1 v2 l h2 tk2 g2, Fr h₀ L h2 (frm l) → h2.IsTuple R #[v1, v2] → (∀ h3 tk3, Fr h₀ L h3 (frm ((b, v2) :: (a, v1) :: l)) → (∀ b o, b ≠ L → h2.get? b = some o → h3.get? b = some o) → WP prog w A (execs rest env) Q ⟨h3, g2, d, tk3, os⟩) → Qv (.ref R) ⟨h2, g2, d, tk2, os⟩) → wpAny (model prog w) A (eval e env) Qv (fun _ _ => False) ⟨h, g, d, tk, os⟩)
    (hL : LocalEnv env L) (ha : env.kindOf a = some .local) (hb : env.kindOf b = some .local) (hs : swapsWithSole [.Tuple [.Name a pa, .Name b pb] k tp] e pos.line env = pure false)
    (hw : swappedStores [.Tuple [.Name a pa, .Name b pb] k tp] e env = pure none) :
    WP prog w A (execs (.Assign [.Tuple [.Name a pa, .Name b pb] k tp] e pos :: rest) env) Q ⟨h, g, d, tk, os⟩ := by
  refine wp_cons ⟨?_⟩
  refine Assign_Tuple (he _ fun R v1 v2 l h2 tk2 g2 F2 hR H => ?_) hs hw
  obtain ⟨all, N2, hup⟩ := snap F2
  refine as_two hh F2 N2 hR (fun h3 tk3 F3 N3 => ?_) hL ha hb
  exact (H h3 tk3 F3 (hup h3 _ F3 N3)).run
theorem st_three {a b c : Str} {pa pb pc tp pos : Pos} {k : Nat} {e : Expr} {rest : List Stmt} (hh : A.handled = none)
    (he : ∀ Qv : Value → Shared → Prop, (∀ R v1 v2 v3 l h2 tk2 g2, Fr h₀ L h2 (frm l) → h2.IsTuple R #[v1, v2, v3] → (∀ h3 tk3, Fr h₀ L h3 (frm ((c, v3) :: (b, v2) :: (a, v1) :: l)) → (∀ b o, b ≠ L → h2.get? b = some o → h3.get? b = some o) → WP prog w A (execs rest env) Q ⟨h3, g2, d, tk3, os⟩) → Qv (.ref R) ⟨h2, g2, d, tk2, os⟩) → wpAny (model prog w) A (eval e env) Qv (fun _ _ => False) ⟨h, g, d, tk, os⟩)
    (hL : LocalEnv env L) (ha : env.kindOf a = some .local) (hb : env.kindOf b = some .local) (hc : env.kindOf c = some .local) (hs : swapsWithSole [.Tuple [.Name a pa, .Name b pb, .Name c pc] k tp] e pos.line env = pure false)
    (hw : swappedStores [.Tuple [.Name a pa, .Name b pb, .Name c pc] k tp] e env = pure none) :
    WP prog w A (execs (.Assign [.Tuple [.Name a pa, .Name b pb, .Name c pc] k tp] e pos :: rest) env) Q ⟨h, g, d, tk, os⟩ := by
  refine wp_cons ⟨?_⟩
  refine Assign_Tuple (he _ fun R v1 v2 v3 l h2 tk2 g2 F2 hR H => ?_) hs hw
  obtain ⟨all, N2, hup⟩ := snap F2
  refine as_three hh F2 N2 hR (fun h3 tk3 F3 N3 => ?_) hL ha hb hc
  exact (H h3 tk3 F3 (hup h3 _ F3 N3)).run
end
end Mine
end
section
set_option maxRecDepth 100000
set_option linter.unusedVariables false
open PySem PySem.W PyProof.Rows PySem.Calls PySem.Spec
namespace Mine
/-! the plain side of a turn -/
theorem slice_to {x : Str} {j : Nat} (h : j ≤ x.length) : (Txt.slice x none (some (j : Int))).cps.toList = x.cps.toList.take j := by
  have h' : j ≤ x.cps.toList.length := by rw [← strLen]; exact h
  have := beq_iff_eq.mp (slice_closes_to (x := x) (j := (j : Int)) ⟨by omega, by omega⟩)
  rw [this]; simp
theorem slice_from {x : Str} {j : Nat} (h : j ≤ x.length) : (Txt.slice x (some (j : Int)) none).cps.toList = x.cps.toList.drop j := by
  have h' : j ≤ x.cps.toList.length := by rw [← strLen]; exact h
  have := beq_iff_eq.mp (slice_closes_from (x := x) (i := (j : Int)) ⟨by omega, by omega⟩)
  rw [this]
  have e : (((x.cps.toList.length : Int) - (j : Int)).toNat) = x.cps.toList.length - j := by omega
  simp only [Int.toNat_natCast, e]
  rw [List.take_of_length_le (by simp)]
theorem edit_start {T : Tab} (G : Words T) {t0 t1 p : List Nat} {b gn place : Nat} {kept : List Row} {last st : List Sta} (hb : b + gn ≤ t0.length) (ht : t1 = t0.take b ++ p ++ t0.drop (b + gn)) (s0 : Scan T t0 0 [.root] kept last)
    (hpl : (place, st) = match kept[(aheadOf kept b).length]? with | some r => (r.place, r.stack) | none => (t1.length - p.length + gn, last)) : place ≤ t1.length := by
  have l1 : t1.length = t0.length - gn + p.length := by rw [ht]; simp only [List.length_append, List.length_take, List.length_drop]; omega
  obtain ⟨k, pos', st', a1, a2, a3, a4, a5, a6⟩ := scan_ahead G (t' := t0) (b := b) rfl s0 rfl
  have hlen : (aheadOf kept b).length = k := by rw [a1, List.length_take]; omega
  rw [hlen] at hpl
  cases hd : kept[k]? with
  | none =>
    rw [hd] at hpl
    obtain ⟨rfl, rfl⟩ := Prod.mk.inj hpl
    have hk : kept.drop k = [] := List.drop_eq_nil_of_le (List.getElem?_eq_none_iff.mp hd)
    rw [hk] at a3
    have hnil : t0.drop pos' = [] := by
      cases q : t0.drop pos' with
      | nil => rfl
      | cons c v => rw [q] at a3; cases a3
    have h0 : t0.length ≤ pos' := by
      have := congrArg List.length hnil
      rw [List.length_drop, List.length_nil] at this; omega
    rcases a4 with ⟨rfl, -⟩ | a4
    · omega
    · omega
  | some r =>
    rw [hd] at hpl
    obtain ⟨rfl, rfl⟩ := Prod.mk.inj hpl
    obtain ⟨hlt, hg⟩ := List.getElem?_eq_some_iff.mp hd
    have hdrop : kept.drop k = r :: kept.drop (k + 1) := by rw [List.drop_eq_getElem_cons hlt, hg]
    rw [hdrop] at a3
    cases q : t0.drop pos' with
    | nil => rw [q] at a3; cases a3
    | cons c v =>
      rw [q] at a3
      cases a3 with
      | cons a3 =>
        show pos' ≤ _
        rcases a4 with ⟨rfl, -⟩ | a4 <;> omega
def TabOk (T : Tab) : Prop := ∀ s, ∀ r ∈ T s, ∀ n ∈ r.names, Okx n
theorem step_names {T : Tab} (k : TabOk T) (c : Nat) (t : List Nat) (st : List Sta) : ∀ n ∈ (stepAt T c t st).1, Okx n := by
  unfold stepAt
  split
  · rename_i r hr
    exact k _ r (List.mem_of_find?_eq_some hr)
  · split
    · intro n hn; rw [List.mem_singleton.mp hn]; unfold Okx; decide +kernel
    · intro n hn; rw [List.mem_singleton.mp hn]; unfold Okx; decide +kernel
theorem scan_names {T : Tab} (k : TabOk T) {u : List Nat} {pos : Nat} {st fin : List Sta} {rows : List Row} (h : Scan T u pos st rows fin) : ∀ r ∈ rows, ∀ n ∈ r.names, Okx n := by
  induction h with
  | nil => exact fun _ h => nomatch h
  | @cons c t pos st rows fin h ih =>
    intro r hr
    rcases List.mem_cons.mp hr with rfl | hr
    · exact step_names k c t st
    · exact ih r hr
theorem scan_rowok {T : Tab} (G : Words T) (k : TabOk T) {u : List Nat} {pos : Nat} {st fin : List Sta} {rows : List Row} (h : Scan T u pos st rows fin) (ho : ∀ c ∈ u, c < 0x110000) : ∀ r ∈ rows, RowOk r := fun r hr => by
  refine ⟨fun c hc => ho c ?_, scan_names k h r hr⟩
  rw [← (scan_places G h).2.2.2, List.mem_flatten]
  exact ⟨_, List.mem_map_of_mem hr, hc⟩
/-! the law's code, by its place in the written heap -/
abbrev lawPick {K : Frag} {name qual : Str} {params : Arguments} {body : List Stmt} {scope : Scope} {dV kV doc pm cdv ct oc : Value} {an od : Option Addr} {osl : Array (Option Value)} {f : Addr}
  (_ : K.lookup f = some ⟨oc, od, .func (fnOf name qual params body scope dV kV doc pm an cdv ct), osl⟩) : Str × List Stmt × Scope × Value := (qual, body, scope, cdv)
noncomputable def lawCode (w : World) : Str × List Stmt × Scope × Value := lawPick (K := capK.heap_1 w.params) (f := 754) (by k_is)
def bodyFor : Stmt → List Stmt
  | .For _ _ b _ _ => b
  | _ => []
noncomputable def lawEnv (w : World) (L : Addr) : Env := envOfC (lawCode w).1 (lawCode w).2.2.1 L 754 (lawCode w).2.2.2
noncomputable def lawRest (w : World) : List Stmt := (lawCode w).2.1.tail.tail.tail
noncomputable def lawTurn (w : World) : List Stmt := bodyFor ((lawRest w).tail.tail.tail.headD (.Pass ⟨0, 0, 0, 0⟩))
end Mine
end
section
set_option maxRecDepth 100000
set_option linter.unusedVariables false
open PySem PySem.W PyProof.Rows PySem.Calls PySem.Spec
namespace Mine
local macro_rules | `(tactic| walk_at "lk") => `(tactic| repeat (first | with_reducible exact frm_head | with_reducible assumption | with_reducible refine frm_tail (by kernel_rfl) ?_))
local macro_rules | `(tactic| walk_at "zl") => `(tactic| (refine ex_local (Fr.ns (by assumption)) (by walk_at "lk") ?_ (by kernel_rfl) (by kernel_rfl) (by kernel_rfl); first | exact isI | exact isS | exact isB | rfl))
/-- what the loop over the edits keeps -/
structure TS (w : World) (h₀ hX : Heap) (L D lx : Addr) (T : Tab) (N : Nat) (h : Heap) (l : List (Str × Value)) (kl lt : Addr) (text : Str) (tt : Tok) (rows : List Row) (fin : List Sta) (kvs lvs : List Value) (oc : Obj) (v0 : Option Value) : Prop where
  F : Fr h₀ L h (frm l)
  up : Le hX h
  c : h.get? (L + 1 + 1) = some oc
  dc : oc.data = .cell v0
  n1 : frm l (Str.ofString "lexer") = some (.ref lx)
  n2 : frm l (Str.ofString "draw") = some (.ref D)
  n3 : frm l (Str.ofString "kept") = some (.ref kl)
  n4 : frm l (Str.ofString "last") = some (.ref lt)
  n5 : frm l (Str.ofString "text") = some (.str text tt)
  sc : Scan T text.cps.toList 0 [.root] rows fin
  kl : h.IsList kl kvs.toArray
  kr : Paired (RowV h) rows kvs
  lt : h.IsTuple lt lvs.toArray
  lv : StkV fin lvs
  few : text.length ≤ N
  ok : Okx text
def TSt (w : World) (h₀ hX : Heap) (L D lx : Addr) (T : Tab) (N : Nat) (h : Heap) (l : List (Str × Value)) : Prop := ∃ kl lt text tt rows fin kvs lvs oc v0, TS w h₀ hX L D lx T N h l kl lt text tt rows fin kvs lvs oc v0
/-- all but the frame and the one cell -/
def Kp (L : Addr) (h h' : Heap) : Prop := ∀ b o, b ≠ L → b ≠ L + 1 + 1 → h.get? b = some o → h'.get? b = some o
theorem Kp.trans {L : Addr} {a b c : Heap} (x : Kp L a b) (y : Kp L b c) : Kp L a c := fun p o h1 h2 e => y p o h1 h2 (x p o h1 h2 e)
theorem Kp.le {L : Addr} {a b : Heap} (x : Le a b) : Kp L a b := fun p o _ _ e => x p o e
theorem Kp.of {L : Addr} {a b : Heap} (x : ∀ p o, p ≠ L → a.get? p = some o → b.get? p = some o) : Kp L a b := fun p o h _ e => x p o h e
theorem Kp.up {L : Addr} {hX a b : Heap} (x : Kp L a b) (le : Le hX a) (n1 : hX.get? L = none) (n2 : hX.get? (L + 1 + 1) = none) : Le hX b := fun p o e => x p o (fun q => by rw [q, n1] at e; cases e) (fun q => by rw [q, n2] at e; cases e) (le p o e)
theorem Kp.seq {L : Addr} {a b : Heap} {m : Str → Option Value} {oc : Obj} {v0 : Option Value} (x : Kp L a b) (n : a.Ns L m) (c : a.get? (L + 1 + 1) = some oc) (dc : oc.data = .cell v0) : SeqKp a b := fun p o xs k ho hd => x p o (fun q => by
  obtain ⟨oL, es, ep, hL, hLd, _⟩ := n
  rw [q, hL] at ho; cases ho
  rw [hLd] at hd; cases hd) (fun q => by
  rw [q, c] at ho; cases ho
  rw [dc] at hd; cases hd) ho
/-- a ledger of all, the cell ahead -/
theorem snap2 {h₀ h : Heap} {L : Addr} {m : Str → Option Value} {oc : Obj} (F : Fr h₀ L h m) (hc : h.get? (L + 1 + 1) = some oc) : ∃ all, News h₀ L h ((L + 1 + 1, oc) :: all) ∧ (∀ q ∈ all, q.1 ≠ L + 1 + 1) ∧ ∀ h' m' o', Fr h₀ L h' m' → News h₀ L h' ((L + 1 + 1, o') :: all) → Kp L h h' := by
  obtain ⟨all, ha⟩ := others h h₀ [L, L + 1 + 1]
  have h0c : h₀.get? (L + 1 + 1) = none := Heap.get?_none_of_le (Nat.le_trans F.above (by omega))
  refine ⟨all, fun p hp => ?_, fun q hq => ?_, fun h' m' o' F' N' b o hb hb2 e => ?_⟩
  · rcases List.mem_cons.mp hp with rfl | hp
    · exact ⟨hc, Nat.ne_of_gt (Nat.lt_succ_of_lt (Nat.lt_succ_self L)), h0c⟩
    · have := (ha p.1 p.2).mp hp
      have hx := this.2.2
      simp only [List.mem_cons, List.not_mem_nil, or_false, not_or] at hx
      exact ⟨this.1, hx.1, this.2.1⟩
  · have := (ha q.1 q.2).mp hq
    have hx := this.2.2
    simp only [List.mem_cons, List.not_mem_nil, or_false, not_or] at hx
    exact hx.2
  · cases e0 : h₀.get? b with
    | some o'' =>
      have := F.keep _ _ e0
      rw [e] at this
      rw [Option.some.inj this]
      exact F'.keep _ _ e0
    | none => exact (N' _ (.tail _ ((ha b o).mpr ⟨e, e0, by simp [hb, hb2]⟩))).1
def Draws (dvs : List Value) : Prop := dvs.length = 25 ∧ ∀ y ∈ dvs, ∃ d, IsI d y ∧ 0 ≤ d ∧ d < 1000003
theorem Draws.at {dvs : List Value} (x : Draws dvs) {k : Nat} (hk : k < 25) : ∃ d y, dvs[k]? = some y ∧ IsI d y ∧ 0 ≤ d ∧ d < 1000003 := by
  have hk' : k < dvs.length := by rw [x.1]; exact hk
  obtain ⟨d, h⟩ := x.2 _ (List.getElem_mem hk')
  exact ⟨d, _, List.getElem?_eq_getElem hk', h⟩
section
variable {w : World} {A : Around} {h : Heap} {g : Array GenState} {d : Drawn} {tk : Nat} {os : OsState}
/-- len of a name that is a text -/
theorem ex_lenN {env : Env} {y : Str} {p1 p2 p3 : Pos} {x : Str} (T : TX w h) (e : EX PG w A (eval (.Name y p1) env) h (Im (IsS x))) (hz : x.length ≤ 1000) (hkd : env.kindOf (Str.ofString "len") = some .globalImplicit) (hk : env.scope.kind = .function) (hg : env.globals = mainGlobals) (hb : env.builtins = builtinsNs)
    (hse : starEach [.Name y p1] env = (false, eval (.Name y p1) env) :: starEach [] env := by kernel_rfl) (hr : eval (.Call (.Name (Str.ofString "len") p2) [.Name y p1] [] p3) env = (do callWith p3 (← eval (.Name (Str.ofString "len") p2) env) [] (backTo p3 (starEach [.Name y p1] env)) (backToKw p3 (keywordEach [] env))) := by kernel_rfl) :
    EX PG w A (eval (.Call (.Name (Str.ofString "len") p2) [.Name y p1] [] p3) env) h (Im (IsI (x.length : Int))) :=
  ex_callK (fv := .builtin "len") (ex_builtin T (by k_is) (by kernel_rfl) (by decide) rfl hkd hk hg hb (by kernel_rfl)) (drop_new (cw_builtin (exs_one (V1 := Im (IsS x)) e hse) (by
    rintro vs new h3 le3 hn ⟨v, rfl, rfl, hv⟩
    exact (cl_lenS hv (by omega)).mono fun v new hv => hv.2) hse (by rfl))) hr
set_option maxHeartbeats 8000000
theorem law_turn {h₀ hX : Heap} {L D lx : Addr} {T : Tab} {Z k : Nat} {tkk : Tok} {l : List (Str × Value)} {dvs : List Value} (T0 : TX w h₀) (hh : A.handled = none) (hd' : A.depth + 100 < recursionLimit) (hu : A.units + 90 < cLine) (nX1 : hX.get? L = none) (nX2 : hX.get? (L + 1 + 1) = none)
    (LB : LX w hX lx T) (hD : hX.IsList D dvs.toArray) (dr : Draws dvs) (G : Words T) (ok : TabOk T) (hwy : ∀ s, ∀ r ∈ T s, ∀ l, r.way = .lay l → l.length ≤ 2) (S : TSt w h₀ hX L D lx T Z h l) (hN : Z ≤ 100) (hb : AllBare g) (hk : k + 1 < 25) (nk : frm l (Str.ofString "k") = some (.int (k : Int) tkk)) :
    WP PG w A (execs (lawTurn w) (lawEnv w L)) (fun f s' => f = .next ∧ ∃ h' tk' g' l', s' = ⟨h', g', d, tk', os⟩ ∧ AllBare g' ∧ Kp L h h' ∧ TSt w h₀ hX L D lx T (Z + 3) h' l') ⟨h, g, d, tk, os⟩ := by
  obtain ⟨kl, lt, text, tt, rows, fin, kvs, lvs, oc, v0, S⟩ := S
  obtain ⟨d0, y0, g0, ⟨u0, rfl⟩, p0, q0⟩ := dr.at (k := k) (by omega)
  obtain ⟨d1, y1, g1, ⟨u1, rfl⟩, p1, q1⟩ := dr.at (k := k + 1) hk
  have n1 := S.n1; have n2 := S.n2; have n3 := S.n3; have n4 := S.n4; have n5 := S.n5
  have few := S.few
  have F := S.F
  obtain ⟨all, N0, hne, hup⟩ := snap2 F S.c
  have upX : ∀ {h' m' o'}, Fr h₀ L h' m' → News h₀ L h' ((L + 1 + 1, o') :: all) → Le hX h' := fun F' N' => (hup _ _ _ F' N').up S.up nX1 nX2
  have N := N0
  dsimp only [lawTurn, lawRest, lawCode, lawPick, List.tail_cons, List.headD_cons, bodyFor]
  refine st_assignI (P := IsI (d0 % ((text.length : Int) + 1))) F N (ex_binop (op_mod (by omega)) (ex_sub (P1 := (· = .ref D)) (P2 := (· = .int (k : Int) tkk)) (by walk_at "zl") (by walk_at "zl") (fun x y hx hy => by
      subst hx hy
      exact tl_list (its := dvs) (list_up hD (upX F N)) (by omega) (by omega) (by rw [Int.toNat_natCast]; exact g0) isI (by with_unfolding_all rfl)))
    (ex_binop (op_add (a := (text.length : Int)) (b := 1)) (ex_lenN (T0.up F.keep) (by walk_at "zl") (by omega) (by kernel_rfl) (by kernel_rfl) (by kernel_rfl) (by kernel_rfl)) ex_int)) ?_ ⟨rfl, rfl⟩ (by kernel_rfl) (by kernel_rfl)
  rintro v h1 tk1 ⟨ub, rfl⟩ F N
  obtain ⟨b, hb0⟩ := Int.eq_ofNat_of_zero_le (Int.emod_nonneg d0 (b := (text.length : Int) + 1) (by omega))
  have hb1 : (b : Int) < (text.length : Int) + 1 := by rw [← hb0]; exact Int.emod_lt_of_pos _ (by omega)
  rw [hb0] at F
  -- gone
  refine st_assignI (P := IsI (if (text.length : Int) - (b : Int) < d0 / 32 % 4 then (text.length : Int) - (b : Int) else d0 / 32 % 4)) F N
    (ex_callK (fv := .builtin "min") (ex_builtin (T0.up F.keep) (by k_is) (by kernel_rfl) (by decide) rfl (by kernel_rfl) (by kernel_rfl) (by kernel_rfl) (by kernel_rfl) (by kernel_rfl)) (drop_new (cw_builtin (exs_cons (P := IsI (d0 / 32 % 4))
      (ex_binop (op_mod (by decide)) (ex_binop (op_fdiv (by decide) p0 (by omega) (by decide)) (ex_sub (P1 := (· = .ref D)) (P2 := (· = .int (k : Int) tkk)) (by walk_at "zl") (by walk_at "zl") (fun x y hx hy => by
        subst hx hy
        exact tl_list (its := dvs) (list_up hD (upX F N)) (by omega) (by omega) (by rw [Int.toNat_natCast]; exact g0) isI (by with_unfolding_all rfl))) ex_int) ex_int)
      (exs_cons (P := IsI ((text.length : Int) - (b : Int))) (ex_binop (op_sub (a := (text.length : Int)) (b := (b : Int))) (ex_lenN (T0.up F.keep) (by walk_at "zl") (by omega) (by kernel_rfl) (by kernel_rfl) (by kernel_rfl) (by kernel_rfl)) (by walk_at "zl")) exs_nil)) (by
        rintro vs new h3 le3 hn ⟨rfl, v1, r1, rfl, hv1, v2, r2, rfl, hv2, rfl⟩
        exact (cl_min hh hv1 hv2).mono fun v new hv => hv.2)))) ?_ ⟨rfl, rfl⟩ (by kernel_rfl) (by kernel_rfl)
  rintro v h2 tk2 ⟨ug, rfl⟩ F N
  have hg0 : ∃ gn : Nat, (if (text.length : Int) - (b : Int) < d0 / 32 % 4 then (text.length : Int) - (b : Int) else d0 / 32 % 4) = (gn : Int) ∧ b + gn ≤ text.length ∧ gn ≤ 3 := by
    have e1 : 0 ≤ d0 / 32 % 4 := Int.emod_nonneg _ (by decide)
    have e2 : d0 / 32 % 4 < 4 := Int.emod_lt_of_pos _ (by decide)
    generalize d0 / 32 % 4 = z at e1 e2
    split
    · exact ⟨text.length - b, by omega, by omega, by omega⟩
    · exact ⟨z.toNat, by omega, by omega, by omega⟩
  obtain ⟨gn, hg0, hbg, hg3⟩ := hg0
  rw [hg0] at F
  -- put
  refine st_assignI (P := fun v => ∃ (x : Str) (t : Tok), v = .str x t ∧ x.length ≤ 3 ∧ Okx x) F N
    (ex_callK (fv := .ref 737) (ex_global (T0.up F.keep) (by k_is) rfl (by kernel_rfl) (by kernel_rfl) (by kernel_rfl) (by kernel_rfl)) (cw_some (keeper_K (T0.up F.keep).X (by k_is)) (exs_cons (P := IsI (d1 / 4))
      (ex_binop (op_fdiv (by decide) p1 (by omega) (by decide)) (ex_sub (P1 := (· = .ref D)) (P2 := IsI ((k : Int) + 1)) (by walk_at "zl") (ex_binop (op_add (a := (k : Int)) (b := 1)) (by walk_at "zl") ex_int) (fun x y hx hy => by
        subst hx
        obtain ⟨uy, rfl⟩ := hy
        exact tl_list (its := dvs) (list_up hD (upX F N)) (by omega) (by omega) (by rw [show ((k : Int) + 1).toNat = k + 1 by omega]; exact g1) isI (by with_unfolding_all rfl))) ex_int)
      (exs_cons (P := IsI (d1 % 4)) (ex_binop (op_mod (by decide)) (ex_sub (P1 := (· = .ref D)) (P2 := IsI ((k : Int) + 1)) (by walk_at "zl") (ex_binop (op_add (a := (k : Int)) (b := 1)) (by walk_at "zl") ex_int) (fun x y hx hy => by
        subst hx
        obtain ⟨uy, rfl⟩ := hy
        exact tl_list (its := dvs) (list_up hD (upX F N)) (by omega) (by omega) (by rw [show ((k : Int) + 1).toNat = k + 1 by omega]; exact g1) isI (by with_unfolding_all rfl))) ex_int) exs_nil)) (by
        rintro vs new h3 le3 hn ⟨rfl, v1, r1, rfl, ⟨w1, rfl⟩, v2, r2, rfl, ⟨w2, rfl⟩, rfl⟩
        exact (law_letters ((T0.up F.keep).up le3) hh (by omega) (by omega) (by omega) (Int.emod_nonneg _ (by decide)) (Int.emod_lt_of_pos _ (by decide))).mono fun v new hv => by simpa using hv))) ?_ ⟨rfl, rfl⟩ (by kernel_rfl) (by kernel_rfl)
  rintro v h3 tk3 ⟨put, up0, rfl, hp3, okp⟩ F N
  -- text
  have esz : sizeLine ≥ 1000 := by decide
  have l1 := Txt.slice_le text none (some (b : Int))
  have l2 := Txt.slice_le text (some ((b + gn : Nat) : Int)) none
  refine st_assignI (P := IsS (Txt.slice text none (some (b : Int)) ++ put ++ Txt.slice text (some ((b + gn : Nat) : Int)) none)) F N
    (ex_binop (fun u v hx hy => op_adds u v hx hy (by rw [strLen, app_list, List.length_append, ← strLen, ← strLen]; omega)) (ex_binop (fun u v hx hy => op_adds u v hx hy (by omega)) (ex_sliceTo (by walk_at "zl") (by walk_at "zl") (by omega) (fun _ _ => by kernel_rfl)) (by walk_at "zl"))
      (ex_sliceFrom (by walk_at "zl") (EX.mono (ex_binop (op_add (a := (b : Int)) (b := (gn : Int))) (by walk_at "zl") (by walk_at "zl")) fun v new hv => by rw [Int.natCast_add]; exact hv) (by omega) (fun _ _ => by kernel_rfl))) ?_ ⟨rfl, rfl⟩ (by kernel_rfl) (by kernel_rfl)
  rintro v h4 tk4 ⟨ut, rfl⟩ F N
  generalize htx : Txt.slice text none (some (b : Int)) ++ put ++ Txt.slice text (some ((b + gn : Nat) : Int)) none = text2 at F
  have et : text2.cps.toList = text.cps.toList.take b ++ put.cps.toList ++ text.cps.toList.drop (b + gn) := by
    rw [← htx, app_list, app_list, slice_to (by omega), slice_from (by omega)]
  have lt2 : text2.length ≤ Z + 3 ∧ put.length ≤ text2.length := by
    rw [strLen, et, List.length_append, List.length_append, List.length_take, List.length_drop, ← strLen, ← strLen]; omega
  have ok2 : Okx text2 := fun c hc => by
    rw [et] at hc
    rcases List.mem_append.mp hc with hc | hc
    · rcases List.mem_append.mp hc with hc | hc
      · exact S.ok c (List.mem_of_mem_take hc)
      · exact okp c hc
    · exact S.ok c (List.mem_of_mem_drop hc)
  -- the plain side
  have lrow : rows.length ≤ text.length := by rw [strLen]; exact (scan_places G S.sc).2.2.1
  have sok := scan_ok hwy S.sc (by simp)
  obtain ⟨whole, fin2, sc2⟩ := scan_ex G _ text2.cps.toList (Nat.le_refl _) 0 [.root]
  have lwh : whole.length ≤ text2.length := by rw [strLen]; exact (scan_places G sc2).2.2.1
  obtain ⟨place, st, hpl⟩ : ∃ place st, (place, st) = match rows[(aheadOf rows b).length]? with | some r => (r.place, r.stack) | none => (text2.length - put.length + gn, fin) := ⟨_, _, rfl⟩
  have hpl2 : (place, st) = match rows[(aheadOf rows b).length]? with | some r => (r.place, r.stack) | none => (text2.cps.toList.length - put.cps.toList.length + gn, fin) := by rw [← strLen, ← strLen]; exact hpl
  have hst : st ≠ [] ∧ st.length ≤ 1 + 2 * rows.length := by
    cases q : rows[(aheadOf rows b).length]? with
    | none =>
      rw [q] at hpl
      obtain ⟨rfl, rfl⟩ := Prod.mk.inj hpl
      simpa using sok.2
    | some r =>
      rw [q] at hpl
      obtain ⟨rfl, rfl⟩ := Prod.mk.inj hpl
      simpa using sok.1 r (List.mem_of_getElem? q)
  have hpos : place ≤ text2.length := by
    rw [strLen]
    exact edit_start G (by rw [← strLen]; exact hbg) et S.sc hpl2
  obtain ⟨rs, fin3, sc3⟩ := scan_ex G _ (text2.cps.toList.drop place) (Nat.le_refl _) place st
  have lrs : rs.length ≤ text2.length := by
    have := (scan_places G sc3).2.2.1
    rw [List.length_drop, ← strLen] at this; omega
  obtain ⟨e1, e2, e3⟩ := edit_law G (by rw [← strLen]; exact hbg) et S.sc sc2 hpl2 sc3
  rw [← strLen] at e1 e2 e3
  have N4 := N
  -- the edit
  refine st_three (h₀ := h₀) (L := L) hh (fun Qv H => ex_callW (fv := .ref 749) (PA := (· = [.ref lx, .ref kl, .ref lt, .str text2 ut, .int (b : Int) ub, .int (gn : Int) ug, .str put up0])) (ex_global (T0.up F.keep) (by k_is) rfl (by kernel_rfl) (by kernel_rfl) (by kernel_rfl) (by kernel_rfl)) ?_ (keeper_K (T0.up F.keep).X (by k_is)) ?_ (by kernel_rfl) (by kernel_rfl) (by kernel_rfl)) ⟨rfl, rfl⟩ (by kernel_rfl) (by kernel_rfl) (by kernel_rfl) (by kernel_rfl) (by kernel_rfl)
  · refine EX.mono (exs_cons (P := (· = .ref lx)) (by walk_at "zl") (exs_cons (P := (· = .ref kl)) (by walk_at "zl") (exs_cons (P := (· = .ref lt)) (by walk_at "zl") (exs_cons (P := (· = .str text2 ut)) (by walk_at "zl") (exs_cons (P := (· = .int (b : Int) ub)) (by walk_at "zl") (exs_cons (P := (· = .int (gn : Int) ug)) (by walk_at "zl") (exs_cons (P := (· = .str put up0)) (by walk_at "zl") exs_nil))))))) fun vs new hv => ?_
    obtain ⟨rfl, v1, r1, rfl, rfl, v2, r2, rfl, rfl, v3, r3, rfl, rfl, v4, r4, rfl, rfl, v5, r5, rfl, rfl, v6, r6, rfl, rfl, v7, r7, rfl, rfl, rfl⟩ := hv
    exact ⟨rfl, rfl⟩
  · rintro vs h5 tk5 rfl le5
    have F5 := fr_up F le5
    have N5 := nw_up N le5
    have kp5 := hup _ _ _ F5 N5
    have sq5 := kp5.seq S.F.ns S.c S.dc
    refine law_edited (A := A) (kept := rows) (rs := rs) (last := fin) (st := st) (fin := fin3) (place := place) (T0.up F5.keep) (?_ : LX w h5 lx T) hh (by omega) (by omega) (sq5.list S.kl) (paired_up sq5.tup S.kr) (sq5.tup _ _ S.lt) S.lv (by omega) hpl lt2.2 sc3 hst.1 (by omega) hpos (by omega) hwy hb (scan_places G S.sc).2.1 ?_
    · obtain ⟨dl, es, n, td, la, vals, LA⟩ := LB
      exact ⟨dl, es, n, td, la, vals, LA.up (upX F5 N5)⟩
    intro h6 tk6 g6 R ol lv ag ovs fvs avs le6 hb6 hR hol hovs hlv hfvs hag havs
    replace hovs : Paired (RowV h6) whole ovs := by rw [← e1]; exact hovs
    replace hfvs : StkV fin2 fvs := by rw [← e2]; exact hfvs
    refine H R (.ref ol) (.ref lv) (.ref ag) _ h6 tk6 g6 (fr_up F5 le6) hR fun h7 tk7 F7 kp7 => ?_
    have kp67 : Kp L h h7 := (kp5.trans (Kp.le le6)).trans (Kp.of kp7)
    have sq7 : SeqKp h6 h7 := SeqKp.of (fr_up F5 le6).ns kp7
    have c5 := (N5 _ (.head _)).1
    have c7 := kp7 _ _ (Nat.ne_of_gt (Nat.lt_succ_of_lt (Nat.lt_succ_self L))) (le6 _ _ c5)
    have okw := scan_rowok G ok sc2 ok2
    have sokw := scan_ok hwy sc2 (by simp)
    have hol7 := sq7.list hol
    have hovs7 := paired_up sq7.tup hovs
    have hlv7 := sq7.tup _ _ hlv
    have hag7 := sq7.list hag
    have havs7 := paired_up sq7.tup havs
    obtain ⟨all7, N7, hne7, hup7⟩ := snap2 F7 c7
    have F := F7
    have N := N7
    -- the whole reading
    refine st_two (h₀ := h₀) (L := L) hh (fun Qv H => ex_callW (fv := .ref 744) (PA := (· = [.ref lx, .str text2 ut])) (ex_global (T0.up F.keep) (by k_is) rfl (by kernel_rfl) (by kernel_rfl) (by kernel_rfl) (by kernel_rfl)) ?_ (keeper_K (T0.up F.keep).X (by k_is)) ?_ (by kernel_rfl) (by kernel_rfl) (by kernel_rfl)) ⟨rfl, rfl⟩ (by kernel_rfl) (by kernel_rfl) (by kernel_rfl) (by kernel_rfl)
    · refine EX.mono (exs_cons (P := (· = .ref lx)) (by walk_at "zl") (exs_cons (P := (· = .str text2 ut)) (by walk_at "zl") exs_nil)) fun vs new hv => ?_
      obtain ⟨rfl, v1, r1, rfl, rfl, v2, r2, rfl, rfl, rfl⟩ := hv
      exact ⟨rfl, rfl⟩
    · rintro vs h8 tk8 rfl le8
      have F8 := fr_up F le8
      refine law_read (A := A) (rows := whole) (fin := fin2) (T0.up F8.keep) (?_ : LX w h8 lx T) hh (by omega) sc2 (by omega) (by omega) hwy hb6 ?_
      · obtain ⟨dl, es, n, td, la, vals, LA⟩ := LB
        exact ⟨dl, es, n, td, la, vals, LA.up ((kp67.trans (Kp.le le8)).up S.up nX1 nX2)⟩
      intro h9 tk9 g9 R2 wl ft wvs wfs le9 hb9 hR2 hwl hwvs hft hwfs
      refine H R2 (.ref wl) (.ref ft) _ h9 tk9 g9 (fr_up F8 le9) hR2 fun h10 tk10 F10 kp10 => ?_
      have sq9 : SeqKp h9 h10 := SeqKp.of (fr_up F8 le9).ns kp10
      have sq10 : SeqKp h7 h10 := (SeqKp.le (le8.trans le9)).trans sq9
      have kp710 : Kp L h7 h10 := (Kp.le (le8.trans le9)).trans (Kp.of kp10)
      have c10 := kp10 _ _ (Nat.ne_of_gt (Nat.lt_succ_of_lt (Nat.lt_succ_self L))) (le9 _ _ (le8 _ _ c7))
      have dc7 := S.dc
      obtain ⟨all10, N10, hne10, hup10⟩ := snap2 F10 c10
      have F := F10
      have N := N10
      have hol10 := sq10.list hol7
      have hovs10 := paired_up sq10.tup hovs7
      have hlv10 := sq10.tup _ _ hlv7
      have hag10 := sq10.list hag7
      have havs10 := paired_up sq10.tup havs7
      have hwl10 := sq9.list hwl
      have hwvs10 := paired_up sq9.tup hwvs
      have hft10 := sq9.tup _ _ hft
      have lov := paired_len hovs10
      have hval : Txt.join (Str.ofString "") (whole.map (·.value)) = text2 := str_eq (by
        rw [tjoinE, List.map_map]
        exact (scan_places G sc2).2.2.2)
      refine st_skip F N (EX.mono (et_or (b1 := false) (et_cmp (P1 := (· = .ref ol)) (P2 := (· = .ref wl)) (op_neRows (by omega) hol10 hwl10 hovs10 hwvs10 okw) (by walk_at "zl") (by walk_at "zl")) fun _ =>
        et_or (b1 := false) (et_cmp (P1 := (· = .ref lv)) (P2 := (· = .ref ft)) (op_neStk (by omega) hlv10 hft10 hfvs hwfs) (by walk_at "zl") (by walk_at "zl")) fun _ =>
        et_or (b1 := false) (EX.mono (et_cmp (P1 := IsS text2) (P2 := IsS text2) op_nes (EX.mono (ex_joinN (Φ := fun l => l.map (·.1) = whole.map (·.value)) (EX.mono (ex_comp (cl := []) (items := ovs) (fun _ => true) (fun v y => ∀ a p nt val t8 t9 sa, v = .ref a → h10.IsTuple a #[.int p t8, .ref nt, .str val t9, .ref sa] → IsS val y)
          hh (by kernel_rfl) (by decide +kernel) rfl (by decide +kernel) (by decide +kernel) (by walk_at "zl") hol10 (by omega) (fun C v h2 m₂ hv up hn hm => EX.pure ⟨rfl, rfl⟩) ?_) ?_) ?_ (by kernel_rfl) (by kernel_rfl)) ?_) (by walk_at "zl")) fun v new hv => ⟨hv.1, hv.2.trans (by simp)⟩) fun _ => et_or_nil) fun v new hv => hv) fun h11 tk11 F N => ?_
      · intro C v h2 m₂ hv _ up hn hm
        obtain ⟨r, hr, a, nt, sa, t5, t6, nvs, svs, rfl, p, _⟩ := paired_mem hovs10 hv
        refine EX.mono (ex_sub (V := Im (IsS r.value)) (P1 := (· = .ref a)) (P2 := IsI 2) (ex_local hn hm rfl (by kernel_rfl) (by kernel_rfl) (by kernel_rfl)) ex_int (fun x y hx hy => by
          subst hx
          obtain ⟨u, rfl⟩ := hy
          exact tl_tuple (its := [_, _, _, _]) (tuple_up p up) (by decide) (by decide) (j := 2) rfl rfl isS (by with_unfolding_all rfl))) fun y new hy => ⟨hy.1, fun a' p' nt' val t8 t9 sa' e q => ?_⟩
        cases e
        have z := tuple_inj p q
        simp only [Array.mk.injEq, List.cons.injEq, Value.int.injEq, Value.ref.injEq, Value.str.injEq, and_true] at z
        rw [← z.2.2.1.1]; exact hy.2
      · rintro v new ⟨DD, ys, n, rfl, rfl, hp⟩
        rw [List.filter_eq_self.mpr (fun _ _ => rfl)] at hp
        have hp2 : Paired (fun (r : Row) y => IsS r.value y) whole ys := paired_comp hovs10 hp fun r v y hr hv hy => by
          obtain ⟨a, nt, sa, t5, t6, nvs, svs, rfl, p, _⟩ := hv
          exact hy a _ nt r.value t5 t6 sa rfl p
        obtain ⟨ls, hls, hlv⟩ : ∃ ls : List (Str × Tok), strValues ls = ys ∧ ls.map (·.1) = whole.map (·.value) := by
          clear hp hval hovs10 hwvs10 sc2 okw sokw hovs hovs7 hwvs lov lwh e1
          induction hp2 with
          | nil => exact ⟨[], rfl, rfl⟩
          | cons f _ ih =>
            obtain ⟨t, rfl⟩ := f
            obtain ⟨ls, e1, e2⟩ := ih
            exact ⟨(_, t) :: ls, by rw [← e1]; rfl, by rw [List.map_cons, e2]; rfl⟩
        exact ⟨DD, ls, n, rfl, by rw [hls], hlv⟩
      · intro ls hls
        have z : (ls.map (·.1.length)) = (whole.map (·.value.cps.toList)).map List.length := by
          have : ls.map (·.1.length) = (ls.map (·.1)).map (·.length) := by rw [List.map_map]; rfl
          rw [this, hls, List.map_map, List.map_map]
          exact List.map_congr_left fun r _ => strLen r.value
        rw [z, ← List.length_flatten, (scan_places G sc2).2.2.2, ← strLen]; omega
      · rintro v new ⟨rfl, ls, hls, hv⟩
        rw [hls, hval] at hv
        exact ⟨rfl, hv⟩
      -- the line's end
      have kp11 := hup10 _ _ _ F N
      have sq11 := kp11.seq F10.ns c10 dc7
      have ag11 := sq11.list hag10
      have avs11 := paired_up sq11.tup havs10
      refine st_assignCell (P := IsI (Txt.find3 text2 (Str.ofString "\n") ((b : Int) + (put.length : Int)))) F N dc7 hne10 (ex_find (by walk_at "zl") ex_str (ex_binop (op_add (a := (b : Int)) (b := (put.length : Int))) (by walk_at "zl") (ex_lenN (T0.up F.keep) (by walk_at "zl") (by omega) (by kernel_rfl) (by kernel_rfl) (by kernel_rfl) (by kernel_rfl)))) ?_ ⟨rfl, rfl⟩ (by kernel_rfl) (by kernel_rfl) (by kernel_rfl)
      rintro v oc12 h12 tk12 ⟨ul, rfl⟩ dc12 F N
      have kp12 := hup10 _ _ _ F N
      have sq12 := kp12.seq F10.ns c10 dc7
      have ag12 := sq12.list hag10
      have avs12 := paired_up sq12.tup havs10
      have c12 := (N _ (.head _)).1
      generalize hline : Txt.find3 text2 (Str.ofString "\n") ((b : Int) + (put.length : Int)) = line at dc12
      have lbp : b + put.length ≤ text2.length := by
        rw [strLen text2, et, List.length_append, List.length_append, List.length_take, List.length_drop, ← strLen, ← strLen]; omega
      have none12 : 0 ≤ line → ∀ r ∈ (edRun rows ((put.length : Int) - gn) (b + put.length) rs).1, (r.place : Int) < line := fun h0 r hr => by
        have enl : Str.ofString "\n" = ⟨#[10]⟩ := by decide +kernel
        rw [enl] at hline
        rcases StrLaws.find3_spec text2 10 ((b : Int) + (put.length : Int)) with ⟨z, -⟩ | ⟨j, z1, z2, z3, z4, -⟩
        · rw [hline] at z; omega
        · rw [hline] at z1
          have hfi : b + put.length ≤ j := by
            have : PySem.fromIndex text2.length ((b : Int) + (put.length : Int)) = b + put.length := by
              unfold PySem.fromIndex
              omega
            omega
          have hj : text2.cps.toList[j]? = some 10 := by
            have hj' : j < text2.cps.size := z3
            rw [Array.getElem?_toList, Array.getElem?_eq_getElem hj']
            rw [Array.getD_eq_getD_getElem?, Array.getElem?_eq_getElem hj'] at z4
            exact congrArg some z4
          have := e3 j hfi hj r hr
          omega
      refine st_skip F N (EX.mono (et_and (b1 := decide (0 ≤ line)) (et_cmp (op_ge (a := line) (b := 0)) (ex_cell (c := L + 1 + 1) (o := oc12) (by kernel_rfl) c12 dc12 isI (by kernel_rfl) (by kernel_rfl) (by kernel_rfl)) ex_int) (fun h0 => et_and (b1 := false) (et_cmpN (V1 := fun v new => ∃ D n, v = .ref D ∧ new = [(D, lobj [] n)]) (V2 := fun v new => ∃ D n, v = .ref D ∧ new = [(D, lobj [] n)])
        (EX.mono (ex_comp (cl := [(Str.ofString "line", L + 1 + 1)]) (items := avs) (fun _ => false) (fun v y => True) hh (by kernel_rfl) (by decide +kernel) rfl (by decide +kernel) (by decide +kernel) (by walk_at "zl") ag12 ?_ ?_ (fun C v h2 m₂ hv hf => nomatch hf)) ?_)
        (EX.mono (ex_list exs_nil (fun vs n hv => by rw [hv.2]; exact Nat.le_of_ble_eq_true rfl)) ?_) (fun x n1 y n2 h13 le13 hn1 hn2 hx hy => ?_)) (fun e => nomatch e) (b2 := true))) fun v new hv => ⟨hv.1, hv.2.trans (by simp)⟩) fun h13 tk13 F N => ?_
      · have le1 := congrArg List.length e1
        rw [List.length_append, List.length_append] at le1
        have := paired_len avs12
        omega
      · intro C v h2 m₂ hv up hn hm
        obtain ⟨r, hr, a, nt, sa, t5, t6, nvs, svs, rfl, p, _⟩ := paired_mem avs12 hv
        have hlt := none12 (of_decide_eq_true h0) r hr
        refine et_tests1 (EX.mono (et_cmp (P1 := IsI (r.place : Int)) (P2 := IsI line) op_ge (ex_sub (P1 := (· = .ref a)) (P2 := IsI 0) (ex_local hn hm rfl (by kernel_rfl) (by kernel_rfl) (by kernel_rfl)) ex_int (fun x y hx hy => by
            subst hx
            obtain ⟨u, rfl⟩ := hy
            exact tl_tuple (its := [_, _, _, _]) (tuple_up p up) (by decide) (by decide) (j := 0) rfl rfl isI (by with_unfolding_all rfl)))
          (ex_cell (c := L + 1 + 1) (o := oc12) (by kernel_rfl) (up _ _ c12) dc12 isI (by kernel_rfl) (by kernel_rfl) (by kernel_rfl))) fun x new hx => ⟨hx.1, by rw [hx.2]; exact decide_eq_false (by omega)⟩)
      · rintro v new ⟨DD, ys, n, rfl, rfl, hp⟩
        rw [List.filter_eq_nil_iff.mpr (fun _ _ => by simp)] at hp
        cases hp
        exact ⟨DD, n, rfl, rfl⟩
      · rintro v new ⟨DD, vs, n, rfl, rfl, rfl, rfl⟩
        exact ⟨DD, 0, rfl, rfl⟩
      · obtain ⟨D1, k1, rfl, rfl⟩ := hx
        obtain ⟨D2, k2, rfl, rfl⟩ := hy
        exact op_neNil (by omega) ⟨_, hn1 _ (.head _), rfl, _, rfl⟩ ⟨_, hn2 _ (.head _), rfl, _, rfl⟩
      have kp13 := hup10 _ _ _ F N
      have sq13 := kp13.seq F10.ns c10 dc7
      have kpz : Kp L h h13 := (kp67.trans kp710).trans kp13
      refine wp_nil ⟨rfl, h13, _, g9, _, rfl, hb9, kpz, ol, lv, text2, ut, whole, fin2, ovs, fvs, oc12, _, ⟨F, kpz.up S.up nX1 nX2, (N _ (.head _)).1, dc12, by walk_at "lk", by walk_at "lk", by walk_at "lk", by walk_at "lk", by walk_at "lk", sc2, sq13.list hol10, paired_up sq13.tup hovs10, sq13.tup _ _ hlv10, hfvs, lt2.1, ok2⟩⟩
end
end Mine
end
section
set_option maxRecDepth 100000
set_option linter.unusedVariables false
open PySem PySem.W PyProof.Rows PySem.Calls PySem.Spec
namespace Mine
local macro_rules | `(tactic| walk_at "lk") => `(tactic| repeat (first | with_reducible exact frm_head | with_reducible assumption | with_reducible refine frm_tail (by kernel_rfl) ?_))
local macro_rules | `(tactic| walk_at "zl") => `(tactic| (refine ex_local (Fr.ns (by assumption)) (by walk_at "lk") ?_ (by kernel_rfl) (by kernel_rfl) (by kernel_rfl); first | exact isI | exact isS | exact isB | rfl))
section
variable {w : World} {A : Around} {h : Heap}
set_option maxHeartbeats 4000000
theorem mk_plain {rl : Addr} (T : TX w h) (hd : A.depth + 5 < recursionLimit) :
    EX PG w A (call (.ref 704) [.ref rl]) h (fun v new => ∃ pl dp t0, v = .ref pl ∧ new = [(pl, instObj 704 dp), (dp, dictOf [ent w (Str.ofString "rows") t0 (.ref rl)] 1)]) := by
  refine ex_make (bindsX := fun x => [(Str.ofString "self", .ref x), (Str.ofString "rows", .ref rl)]) T.X T.lim (by k_is) (by k_is) (by k_is) (by k_is) (by k_is) (by rw [depth_under_make]; omega) (fun x s X => BindsTo.of_eq rfl) (fun x => locs rfl) ?_ (by decide) rfl rfl rfl
  intro h1 x dx L' hh g d tk os le hdx hxL F N
  change Fr _ _ _ (frm [(Str.ofString "rows", _), (Str.ofString "self", _)]) at F
  have X1 := (T.up le).X
  refine st_setattr F X1 N (V := Im (fun v => v = _)) (by walk_at "zl") (by walk_at "zl") (.head _) (.tail _ (.head _)) (fun t v => .tail (Nat.ne_of_gt hdx) (.head (fun _ hp => nomatch hp))) ?_ (by k_is) (by k_is) (by k_is) (by k_is) (by kernel_rfl) (Nat.le_of_ble_eq_true (by kernel_rfl)) (by kernel_rfl)
  intro v new t0 h2 tk2 hv F N
  obtain ⟨rfl, rfl⟩ := hv
  exact wp_nil ⟨rfl, _, _, _, _, rfl, F, N, _, _, _, rfl, rfl⟩
end
/-! the names of a rule -/
def capS : Sta → Str
  | .root => Str.ofString "Root"
  | .first => Str.ofString "First"
  | .second => Str.ofString "Second"
theorem title_s (s : Sta) : Txt.title s.str = capS s := by cases s <;> decide +kernel
def numS : Nat → Str
  | 0 => Str.ofString "R0"
  | 1 => Str.ofString "R1"
  | _ => Str.ofString "R2"
theorem str_j (j : Nat) (h : j < 3) : (Str.ofString ".R" ++ Str.ofString (toString (j : Int))) = Str.ofString "." ++ numS j := by
  match j, h with
  | 0, _ => decide +kernel
  | 1, _ => decide +kernel
  | 2, _ => decide +kernel
theorem tok_facts (w : World) (s : Sta) (j : Nat) (hj : j < 3) : ∃ x c1 c2, capS s ++ Str.ofString ".R" ++ (toString (j : Int) : Str) = x ∧
    (decide (x.length < (Str.ofString ".").length) || decide (Builtin.Str.strKind x < Builtin.Str.strKind (Str.ofString "."))) = false ∧ (Builtin.Str.occurrences x (Str.ofString ".") 0 x.length (x.length + 1)).isEmpty = false ∧
    Builtin.Str.partsBetween x (Builtin.Str.occurrences x (Str.ofString ".") 0 x.length (x.length + 1)) (Str.ofString ".").length = [capS s, numS j] ∧ x.length ≤ 100 ∧ 0 < x.length ∧
    (capS s).cps[0]? = some c1 ∧ (numS j).cps[0]? = some c2 ∧ Txt.isupper ⟨#[c1]⟩ = true ∧ Txt.isupper ⟨#[c2]⟩ = true := by
  have hj3 : j = 0 ∨ j = 1 ∨ j = 2 := by omega
  have e2 : ∃ c2, (numS j).cps[0]? = some c2 ∧ Txt.isupper ⟨#[c2]⟩ = true := ⟨82, by rcases hj3 with rfl | rfl | rfl <;> decide +kernel, by decide +kernel⟩
  have e1 : ∃ c1, (capS s).cps[0]? = some c1 ∧ Txt.isupper ⟨#[c1]⟩ = true := by
    cases s
    · exact ⟨82, by decide +kernel, by decide +kernel⟩
    · exact ⟨70, by decide +kernel, by decide +kernel⟩
    · exact ⟨83, by decide +kernel, by decide +kernel⟩
  obtain ⟨c1, a1, b1⟩ := e1
  obtain ⟨c2, a2, b2⟩ := e2
  refine ⟨_, c1, c2, rfl, ?_, ?_, ?_, ?_, ?_, a1, a2, b1, b2⟩ <;> (rcases hj3 with rfl | rfl | rfl <;> cases s <;> decide +kernel)
theorem cap_free (w : World) (s : Sta) (h : Heap) (X : (capK.heap_1 w.params).In h) : nsIn (capK.heap_1 w.params) 112 (capS s) = some none := by
  cases s
  · show nsIn (capK.heap_1 w.params) 112 (Str.ofString "Root") = some none
    k_is
  · show nsIn (capK.heap_1 w.params) 112 (Str.ofString "First") = some none
    k_is
  · show nsIn (capK.heap_1 w.params) 112 (Str.ofString "Second") = some none
    k_is
end Mine
end
section
set_option maxRecDepth 100000
set_option linter.unusedVariables false
open PySem PySem.W PyProof.Rows PySem.Calls PySem.Spec
namespace Mine
local macro_rules | `(tactic| walk_at "lk") => `(tactic| repeat (first | with_reducible exact frm_head | with_reducible assumption | with_reducible refine frm_tail (by kernel_rfl) ?_))
local macro_rules | `(tactic| walk_at "zl") => `(tactic| (refine ex_local (Fr.ns (by assumption)) (by walk_at "lk") ?_ (by kernel_rfl) (by kernel_rfl) (by kernel_rfl); first | exact isI | exact isS | exact isB | rfl))
theorem mul3_ok {k : Nat} : IntMulOk 3 (k : Int) := IntMulOk.of_left (by decide)
/-- the law's statements, by their places -/
noncomputable def lawFor (w : World) : List Stmt := (lawCode w).2.1.tail
noncomputable def lawState (w : World) : List Stmt := bodyFor ((lawFor w).tail.headD (.Pass ⟨0, 0, 0, 0⟩))
noncomputable def lawInner (w : World) : List Stmt := bodyFor ((lawState w).tail.headD (.Pass ⟨0, 0, 0, 0⟩))
/-- a rule that the law makes -/
structure RlOk (r : Rl) : Prop where
  pos : 0 < r.word.cps.toList.length
  few : r.word.cps.toList.length ≤ 3
  nl : 10 ∉ r.word.cps.toList
  nms : ∀ n ∈ r.names, Okx n
  way : ∀ l, r.way = .lay l → l.length ≤ 2
def SemV (w : World) (h₀ : Heap) (r : Rl) (v : Value) (objs : List (Addr × Obj)) : Prop := ∀ h2, Le h₀ h2 → (∀ p ∈ objs, h2.get? p.1 = some p.2) → RawV w h2 r v
theorem seq_at {i : Int} {n : Nat} (h0 : 0 ≤ i) (h1 : i < n) : seqIndex? i n = some i.toNat := by
  unfold seqIndex?
  simp; omega
def wordOk (v : Value) : Prop := ∃ x t, v = .str x t ∧ 0 < x.cps.toList.length ∧ x.cps.toList.length ≤ 3 ∧ 10 ∉ x.cps.toList
theorem way_lay (k : Nat) : ∀ l, wayOf k = .lay l → l.length ≤ 2 := by
  intro l h
  unfold wayOf at h
  split at h <;> first | (cases h; done) | (cases h; simp)
theorem capLen' (s : Sta) : (capS s).length ≤ 100 := by cases s <;> decide +kernel
theorem numLen' (j : Nat) (h : j < 3) : (numS j).length ≤ 100 := by
  match j, h with
  | 0, _ => decide +kernel
  | 1, _ => decide +kernel
  | 2, _ => decide +kernel
theorem len_a (s : Sta) (j : Nat) (h : j < 3) : (capS s ++ Str.ofString ".R").length + (Str.ofString (toString (j : Int))).length ≤ 1000 := by
  have hj3 : j = 0 ∨ j = 1 ∨ j = 2 := by omega
  rcases hj3 with rfl | rfl | rfl <;> cases s <;> decide +kernel
theorem len_b (s : Sta) : (capS s).length + (Str.ofString ".R").length ≤ 1000 := by cases s <;> decide +kernel
theorem log_j (j : Nat) (h : j < 3) : (j : Int).natAbs.log2 < 1920 := by
  have hj3 : j = 0 ∨ j = 1 ∨ j = 2 := by omega
  rcases hj3 with rfl | rfl | rfl <;> decide +kernel
theorem okx_cap (s : Sta) : Okx (capS s) := by cases s <;> (unfold Okx; decide +kernel)
theorem okx_num (j : Nat) (h : j < 3) : Okx (numS j) := by
  have hj3 : j = 0 ∨ j = 1 ∨ j = 2 := by omega
  rcases hj3 with rfl | rfl | rfl <;> (unfold Okx; decide +kernel)
section
variable {w : World} {A : Around} {h : Heap} {g : Array GenState} {d : Drawn} {tk : Nat} {os : OsState}
set_option maxHeartbeats 8000000
theorem law_inner {h₀ : Heap} {L D TD TL : Addr} {k j n dn : Nat} {od : Obj} {s : Sta} {tks tkj tkk : Tok} {l : List (Str × Value)} {dvs its : List Value} {kvs : List (Str × Value)} {news : List (Addr × Obj)} {news' : Value → List (Addr × Obj)} (T0 : TX w h₀) (hh : A.handled = none) (hd' : A.depth + 100 < recursionLimit)
    (F : Fr h₀ L h (frm l)) (N : News h₀ L h news) (hm : (TL, lobj its n) ∈ news) (hz : its.length ≤ 1000) (U : ∀ v, Upd TL (lobj its n) (lobj (its ++ [v]) (n + 1)) news (news' v))
    (hmD : (D, lobj dvs dn) ∈ news) (dr : Draws dvs) (hmT : (TD, od) ∈ news) (hod : od.IsDictOf (strKind PG w) kvs) (hat : valueAt kvs s.str = some (.ref TL)) (hk : k < 3) (hj : j < 3)
    (nk : frm l (Str.ofString "k") = some (.int (k : Int) tkk)) (nj : frm l (Str.ofString "j") = some (.int (j : Int) tkj)) (ns : frm l (Str.ofString "state") = some (.str s.str tks)) (nd : frm l (Str.ofString "draw") = some (.ref D)) (nt : frm l (Str.ofString "table") = some (.ref TD)) :
    WP PG w A (execs (lawInner w) (lawEnv w L)) (fun f s' => f = .next ∧ ∃ h' tk' v1 v2 v new r, s' = ⟨h', g, d, tk', os⟩ ∧ Fr h₀ L h' (frm ((Str.ofString "rule", v1) :: (Str.ofString "number", v2) :: l)) ∧ News h₀ L h' (new ++ news' v) ∧ (∀ p ∈ new, ∀ q ∈ news, p.1 ≠ q.1) ∧ RlOk r ∧ SemV w h₀ r v new) ⟨h, g, d, tk, os⟩ := by
  have hkj : 3 * k + j < 25 := by omega
  obtain ⟨num, y0, g0, ⟨u0, rfl⟩, p0, q0⟩ := dr.at hkj
  dsimp only [lawInner, lawState, lawFor, lawCode, lawPick, List.tail_cons, List.headD_cons, bodyFor]
  have hD : h.IsList D dvs.toArray := ⟨_, (N _ hmD).1, rfl, dn, rfl⟩
  refine st_assignI (P := (· = .int num u0)) F N (ex_sub (P1 := (· = .ref D)) (P2 := IsI (3 * (k : Int) + (j : Int))) (by walk_at "zl") (ex_binop (op_add (a := 3 * (k : Int)) (b := (j : Int))) (ex_binop (op_mul mul3_ok) ex_int (by walk_at "zl")) (by walk_at "zl")) (fun x y hx hy => by
      subst hx
      obtain ⟨uy, rfl⟩ := hy
      exact tl_list (its := dvs) hD (by omega) (by omega) (by rw [show (3 * (k : Int) + (j : Int)).toNat = 3 * k + j by omega]; exact g0) rfl (by with_unfolding_all rfl))) ?_ ⟨rfl, rfl⟩ (by kernel_rfl) (by kernel_rfl)
  rintro v h1 tk1 rfl F N
  have T1 := T0.up F.keep
  have m6 : 0 ≤ num % 6 ∧ num % 6 < 6 := ⟨Int.emod_nonneg _ (by decide), Int.emod_lt_of_pos _ (by decide)⟩
  obtain ⟨x, c1, c2, ex, f1, f2, f3, f4, f5, f6, f7, f8, f9⟩ := tok_facts w s j hj
  -- the rule
  refine st_assignD (V := fun v new => ∃ a pl tok word, v = .ref a ∧ (a, tupO [.ref pl, .ref tok]) ∈ new ∧ wordOk word ∧ ∃ xw tw, word = .str xw tw ∧ ∀ h2, Le h₀ h2 → (∀ p ∈ new, h2.get? p.1 = some p.2) → ∃ nt r0, PLN w h2 pl xw r0 tw ∧ TOK w h2 tok [capS s, numS j] nt) F N ?_ ?_ ⟨rfl, rfl⟩ (by kernel_rfl) (by kernel_rfl)
  · refine EX.mono (ex_tuple (exs_consN (V1 := fun v new => ∃ pl dp t0 rl r0 word, v = .ref pl ∧ wordOk word ∧ new = [(pl, instObj 704 dp), (dp, dictOf [ent w (Str.ofString "rows") t0 (.ref rl)] 1), (rl, lobj [.ref r0] 0), (r0, lobj [word] 0)])
      (ex_callK (fv := .ref 704) (ex_global T1 (by k_is) rfl (by kernel_rfl) (by kernel_rfl) (by kernel_rfl) (by kernel_rfl)) (cw_some (keeper_K T1.X (by k_is)) (exs_one (V1 := fun v new => ∃ rl r0 word, v = .ref rl ∧ wordOk word ∧ new = [(rl, lobj [.ref r0] 0), (r0, lobj [word] 0)])
        (EX.mono (ex_list (exs_consN (V1 := fun v new => ∃ r0 word, v = .ref r0 ∧ wordOk word ∧ new = [(r0, lobj [word] 0)]) (EX.mono (ex_list (exs_cons (P := wordOk) (ex_sub (P1 := (· = .ref 729)) (P2 := IsI (num % 6)) (ex_global T1 (by k_is) rfl (by kernel_rfl) (by kernel_rfl) (by kernel_rfl) (by kernel_rfl)) (ex_binop (op_mod (by decide)) (by walk_at "zl") ex_int) ?_) exs_nil) ?_) ?_) exs_nil) ?_) ?_)) ?_))
      (exs_consN (V1 := fun v new => ∃ tok dt nt t0 t1 t2, v = .ref tok ∧ new = [(tok, instObj 83 dt), (dt, dictOf [ent w (Str.ofString "names") t0 (.ref nt)] 1), (nt, tupO [.str (capS s) t1, .str (numS j) t2])])
        (ex_callK (fv := .ref 119) (ex_global T1 (by k_is) rfl (by kernel_rfl) (by kernel_rfl) (by kernel_rfl) (by kernel_rfl)) (cw_some (keeper_K T1.X (by k_is)) (exs_cons (P := IsS x) ?_ exs_nil) ?_)) exs_nil)) ?_) ?_
    · intro a b ha hb
      subst ha
      obtain ⟨ub, rfl⟩ := hb
      have hw6 : ∀ v ∈ ([.str (Str.ofString "a") 1466, .str (Str.ofString "b") 1467, .str (Str.ofString "ab") 1468, .str (Str.ofString "ba") 1469, .str (Str.ofString "aab") 1470, .str (Str.ofString "bb") 1471] : List Value), wordOk v := fun v hv => by
        simp only [List.mem_cons, List.not_mem_nil, or_false] at hv
        rcases hv with rfl | rfl | rfl | rfl | rfl | rfl <;> exact ⟨_, _, rfl, by decide +kernel, by decide +kernel, by decide +kernel⟩
      have hlt : (num % 6).toNat < ([.str (Str.ofString "a") 1466, .str (Str.ofString "b") 1467, .str (Str.ofString "ab") 1468, .str (Str.ofString "ba") 1469, .str (Str.ofString "aab") 1470, .str (Str.ofString "bb") 1471] : List Value).length := by
        show _ < 6; omega
      exact tl_tuple (its := [.str (Str.ofString "a") 1466, .str (Str.ofString "b") 1467, .str (Str.ofString "ab") 1468, .str (Str.ofString "ba") 1469, .str (Str.ofString "aab") 1470, .str (Str.ofString "bb") 1471]) ⟨_, T1.X 729 _ (by k_is), rfl, 0, rfl⟩ (by omega) (by omega) (seq_at m6.1 (by show _ < ((6 : Nat) : Int); omega)) (List.getElem?_eq_getElem hlt) (hw6 _ (List.getElem_mem hlt)) (by with_unfolding_all rfl)
    · rintro vs n0 ⟨-, v, r, rfl, -, rfl⟩
      exact Nat.le_of_ble_eq_true rfl
    · rintro v new ⟨a, vs, n0, rfl, rfl, rfl, word, r, rfl, hwd, rfl⟩
      exact ⟨a, word, rfl, hwd, rfl⟩
    · rintro vs n0 ⟨v, r, n1, n2, rfl, -, -, -, rfl⟩
      exact Nat.le_of_ble_eq_true rfl
    · rintro v new ⟨a, vs, n0, rfl, rfl, v1, r1, n1, n2, rfl, rfl, ⟨r0, word, rfl, hwd, rfl⟩, rfl, rfl⟩
      exact ⟨a, r0, word, rfl, hwd, rfl⟩
    · rintro vs new h3 le3 hn ⟨v, rfl, rl, r0, word, rfl, hwd, rfl⟩
      refine (mk_plain (A := A) (T1.up le3) (by omega)).mono fun v new hv => ?_
      obtain ⟨pl, dp, t0, rfl, rfl⟩ := hv
      exact ⟨pl, dp, t0, rl, r0, word, rfl, hwd, rfl⟩
    · have lt4 := capLen' s
      have ls : s.str.length ≤ 1000 := by cases s <;> decide +kernel
      refine EX.mono (ex_binop (V := Im (IsS (Txt.title s.str ++ Str.ofString ".R" ++ (toString (j : Int) : Str)))) (fun u v hu hv => op_adds u v hu hv ?_) (ex_binop (fun u v hu hv => op_adds u v hu hv ?_) (ex_title (by walk_at "zl") ls (by kernel_rfl)) ex_str)
        (ex_callK (fv := .type "str") (ex_builtin T1 (by k_is) (by kernel_rfl) (by decide) rfl (by kernel_rfl) (by kernel_rfl) (by kernel_rfl) (by kernel_rfl) (by kernel_rfl)) (drop_new (cw_type (exs_one (V1 := Im (· = .int (j : Int) tkj)) (by walk_at "zl")) ?_)))) fun v new hv => ?_
      · rw [title_s]; exact len_a s j hj
      · rw [title_s]; exact len_b s
      · rintro vs new h3 le3 hn ⟨v, rfl, rfl, rfl⟩
        exact (cl_strI isI (log_j j hj)).mono fun v new hv => hv.2
      · rw [title_s, ex] at hv; exact hv
    · rintro vs new h3 le3 hn ⟨rfl, v, r, rfl, ⟨t, rfl⟩, rfl⟩
      refine (s2t (A := A) (T1.up le3) hh (by omega) f1 f2 f3 f4 f5 (capLen' s) (numLen' j hj) f6 f7 f8 f9 (cap_free w s _ T1.X)).mono fun v new hv => by simpa using hv
    · rintro vs n0 ⟨v1, r1, n1, n2, rfl, -, -, v2, r2, n3, n4, rfl, -, -, -, rfl⟩
      exact Nat.le_of_ble_eq_true rfl
    · rintro v new ⟨a, vs, n0, rfl, rfl, v1, r1, n1, n2, rfl, rfl, ⟨pl, dp, t0, rl, r0, word, rfl, hwd, rfl⟩, v2, r2, n3, n4, rfl, rfl, ⟨tok, dt, nt', t1, t2, t3, rfl, rfl⟩, rfl, rfl⟩
      obtain ⟨xw, tw, e, -⟩ := id hwd
      refine ⟨a, pl, tok, word, rfl, .head _, hwd, xw, tw, e, fun h2 le2 hp => ?_⟩
      subst e
      have g1 := fun p hp' => hp p (List.mem_cons_of_mem _ hp')
      refine ⟨nt', r0, ⟨dp, rl, t0, ?_, ?_, ⟨lobj [.ref r0] 0, ?_, rfl, 0, rfl⟩, ⟨lobj [.str xw tw] 0, ?_, rfl, 0, rfl⟩⟩, dt, t1, [.str (capS s) t2, .str (numS j) t3], ?_, ?_, ⟨tupO [.str (capS s) t2, .str (numS j) t3], ?_, rfl, 0, rfl⟩, .cons isS (.cons isS .nil)⟩
      · exact g1 (pl, instObj 704 dp) (by simp)
      · exact g1 (dp, _) (by simp)
      · exact g1 (rl, lobj [.ref r0] 0) (by simp)
      · exact g1 (r0, lobj [.str xw tw] 0) (by simp)
      · exact g1 (tok, instObj 83 dt) (by simp)
      · exact g1 (dt, _) (by simp)
      · exact g1 (nt', tupO [.str (capS s) t2, .str (numS j) t3]) (by simp)
  rintro v newR h2 tk2 ⟨a, pl, tok, word, rfl, ha, hwd, xw, tw, rfl, hsem⟩ F N djR
  have T2 := T0.up F.keep
  have m8 : 0 ≤ num / 6 % 8 ∧ num / 6 % 8 < 8 := ⟨Int.emod_nonneg _ (by decide), Int.emod_lt_of_pos _ (by decide)⟩
  have hta : h2.IsTuple a ([.ref pl, .ref tok] : List Value).toArray := ⟨_, (N _ (List.mem_append_left _ ha)).1, rfl, 0, rfl⟩
  have hTL := (N _ (List.mem_append_right _ hm)).1
  have hTDk : h2.DictOf (strKind PG w) TD kvs := Heap.dictOf_iff.mpr ⟨od, (N _ (List.mem_append_right _ hmT)).1, hod⟩
  refine st_append (news' := fun v => newR ++ news' v) (VA := fun v newA => ∃ kw, RlOk ⟨xw, [capS s, numS j], wayOf kw⟩ ∧ SemV w h₀ ⟨xw, [capS s, numS j], wayOf kw⟩ v (newA ++ newR)) F N
    (ex_sub (P1 := (· = .ref TD)) (P2 := (· = .str s.str tks)) (by walk_at "zl") (by walk_at "zl") (fun x y hx hy => by
      subst hx hy
      exact tl_dict (strKind_is PG w s.str tks) hTDk hat rfl (by with_unfolding_all rfl))) (List.mem_append_right _ hm) ?_ hz (fun v => up_swap (U v) fun p hp => djR p hp _ hm) ?_ (by kernel_rfl) (by kernel_rfl) rfl (by kernel_rfl)
  · have rok : ∀ kw, RlOk ⟨xw, [capS s, numS j], wayOf kw⟩ := fun kw => by
      obtain ⟨x', t', e, w1, w2, w3⟩ := hwd
      cases e
      refine ⟨w1, w2, w3, fun n hn => ?_, way_lay kw⟩
      simp only [List.mem_cons, List.not_mem_nil, or_false] at hn
      rcases hn with rfl | rfl
      · exact okx_cap s
      · exact okx_num j hj
    have wl : 0 < xw.length ∧ xw.length ≤ 3 := by
      obtain ⟨x', t', e, w1, w2, w3⟩ := hwd
      cases e
      rw [strLen]; exact ⟨w1, w2⟩
    refine ex_ifexp (b := decide (num / 6 % 8 = 0)) (et_cmp (P1 := IsI (num / 6 % 8)) (P2 := IsI 0) op_eqi (ex_binop (op_mod (by decide)) (ex_binop (op_fdiv (by decide) p0 (by omega) (by decide)) (by walk_at "zl") ex_int) ex_int) ex_int) (fun hb => ?_) (fun hb => ?_)
    · refine EX.mono (V := Im (· = .ref a)) (by walk_at "zl") fun v new hv => ?_
      obtain ⟨rfl, rfl⟩ := hv
      refine ⟨0, rok 0, fun h4 le4 hp4 => ?_⟩
      obtain ⟨nt', r0, hp, ht⟩ := hsem h4 le4 hp4
      exact ⟨a, pl, tok, nt', r0, tw, 0, rfl, hp, ht, wl.1, wl.2, rfl, .inl ⟨rfl, _, hp4 _ ha, rfl, 0, rfl⟩⟩
    · have hne : num / 6 % 8 ≠ 0 := of_decide_eq_false hb
      refine EX.mono (V := fun v new => ∃ D wv t1, v = .ref D ∧ new = [(D, tupO ([.ref pl, .ref tok] ++ [wv])), (t1, tupO [wv])] ∧ wayRaw w (num / 6 % 8).toNat wv) (ex_binopN (V1 := Im (· = .ref a)) (V2 := fun v new => ∃ t1 wv, v = .ref t1 ∧ new = [(t1, tupO [wv])] ∧ wayRaw w (num / 6 % 8).toNat wv) (by walk_at "zl")
        (EX.mono (ex_tuple (exs_cons (P := wayRaw w (num / 6 % 8).toNat) (ex_sub (P1 := (· = .ref 732)) (P2 := IsI (num / 6 % 8)) (ex_global T2 (by k_is) rfl (by kernel_rfl) (by kernel_rfl) (by kernel_rfl) (by kernel_rfl)) (ex_binop (op_mod (by decide)) (ex_binop (op_fdiv (by decide) p0 (by omega) (by decide)) (by walk_at "zl") ex_int) ex_int) ?_) exs_nil) ?_) ?_) (fun x n1 y n2 h4 le4 hn1 hn2 hx hy => ?_)) ?_
      · intro x y hx hy
        subst hx
        obtain ⟨uy, rfl⟩ := hy
        have key : ∃ wv, ([.none, .str (Str.ofString "#pop") 1473, .str (Str.ofString "first") 1474, .str (Str.ofString "second") 1475, .str (Str.ofString "#push") 1476, .ref 730, .ref 731, .str (Str.ofString "#pop:2") 1481] : List Value)[(num / 6 % 8).toNat]? = some wv ∧ wayRaw w (num / 6 % 8).toNat wv := by
          generalize num / 6 % 8 = z at m8 hne
          have : z = 1 ∨ z = 2 ∨ z = 3 ∨ z = 4 ∨ z = 5 ∨ z = 6 ∨ z = 7 := by omega
          rcases this with rfl | rfl | rfl | rfl | rfl | rfl | rfl
          · exact ⟨_, rfl, isS⟩
          · exact ⟨_, rfl, isS⟩
          · exact ⟨_, rfl, isS⟩
          · exact ⟨_, rfl, isS⟩
          · exact ⟨_, rfl, rfl⟩
          · exact ⟨_, rfl, rfl⟩
          · exact ⟨_, rfl, isS⟩
        obtain ⟨wv, hg, hw⟩ := key
        exact tl_tuple (its := [.none, .str (Str.ofString "#pop") 1473, .str (Str.ofString "first") 1474, .str (Str.ofString "second") 1475, .str (Str.ofString "#push") 1476, .ref 730, .ref 731, .str (Str.ofString "#pop:2") 1481]) ⟨_, T2.X 732 _ (by k_is), rfl, 0, rfl⟩ (by omega) (by omega) (seq_at m8.1 (by show _ < ((8 : Nat) : Int); omega)) hg hw (by with_unfolding_all rfl)
      · rintro vs n0 ⟨-, v, r, rfl, -, rfl⟩
        exact Nat.le_of_ble_eq_true rfl
      · rintro v new ⟨t1, vs, n0, rfl, rfl, rfl, wv, r, rfl, hw, rfl⟩
        exact ⟨t1, wv, rfl, rfl, hw⟩
      · obtain ⟨rfl, rfl⟩ := hx
        obtain ⟨t1, wv, rfl, rfl, hw⟩ := hy
        refine (op_addT (tuple_up hta le4) ⟨tupO [wv], hn2 _ (.head _), rfl, 0, rfl⟩ (by simp) (by simp) (by simp)).mono fun v new hv => ?_
        obtain ⟨DD, rfl, rfl⟩ := hv
        exact ⟨DD, wv, t1, rfl, by simp, hw⟩
      · rintro v new ⟨DD, wv, t1, rfl, rfl, hw⟩
        refine ⟨(num / 6 % 8).toNat, rok _, fun h4 le4 hp4 => ?_⟩
        obtain ⟨nt', r0, hp, ht⟩ := hsem h4 le4 fun p hp => hp4 p (List.mem_append_right _ hp)
        exact ⟨DD, pl, tok, nt', r0, tw, _, rfl, hp, ht, wl.1, wl.2, rfl, .inr ⟨wv, hw, _, hp4 _ (.head _), rfl, 0, rfl⟩⟩
  rintro v newA h3 tk3 ⟨kw, ok, hsv⟩ F N djA
  refine wp_nil ⟨rfl, h3, _, _, _, v, newA ++ newR, _, rfl, F, by rw [List.append_assoc]; exact N, fun p hp q hq => ?_, ok, hsv⟩
  rcases List.mem_append.mp hp with hp | hp
  · exact djA p hp q (List.mem_append_right _ hq)
  · exact djR p hp q hq
end
end Mine
end
section
set_option maxRecDepth 100000
set_option linter.unusedVariables false
open PySem PySem.W PyProof.Rows PySem.Calls PySem.Spec
namespace Mine
local macro_rules | `(tactic| walk_at "lk") => `(tactic| repeat (first | with_reducible exact frm_head | with_reducible assumption | with_reducible refine frm_tail (by kernel_rfl) ?_))
local macro_rules | `(tactic| walk_at "zl") => `(tactic| (refine ex_local (Fr.ns (by assumption)) (by walk_at "lk") ?_ (by kernel_rfl) (by kernel_rfl) (by kernel_rfl); first | exact isI | exact isS | exact isB | rfl))
section
variable {w : World} {A : Around} {h : Heap} {g : Array GenState} {d : Drawn} {tk : Nat} {os : OsState}
set_option maxHeartbeats 8000000
theorem law_state {h₀ : Heap} {L D TD : Addr} {k dn : Nat} {od : Obj} {s : Sta} {tks tkk : Tok} {l : List (Str × Value)} {dvs : List Value} {kvs : List (Str × Value)} {objs : List (Addr × Obj)} (T0 : TX w h₀) (hh : A.handled = none) (hd' : A.depth + 100 < recursionLimit)
    (F : Fr h₀ L h (frm l)) (N : News h₀ L h ((TD, od) :: objs)) (hmD : (D, lobj dvs dn) ∈ objs) (dr : Draws dvs) (hod : od.IsDictOf (strKind PG w) kvs) (hap : ∀ p ∈ objs, p.1 ≠ TD) (hns : valueAt kvs s.str = none) (hval : ∀ TL, valueAt (kvs ++ [(s.str, .ref TL)]) s.str = some (.ref TL)) (hz : kvs.length ≤ 10) (hk : k < 3)
    (nk : frm l (Str.ofString "k") = some (.int (k : Int) tkk)) (ns : frm l (Str.ofString "state") = some (.str s.str tks)) (nd : frm l (Str.ofString "draw") = some (.ref D)) (nt : frm l (Str.ofString "table") = some (.ref TD)) :
    WP PG w A (execs (lawState w) (lawEnv w L)) (fun f s' => f = .next ∧ ∃ h' tk' l' od' TL vals n rs new, s' = ⟨h', g, d, tk', os⟩ ∧ Fr h₀ L h' (frm l') ∧ News h₀ L h' ((TD, od') :: (TL, lobj vals n) :: (new ++ objs)) ∧ od'.IsDictOf (strKind PG w) (kvs ++ [(s.str, .ref TL)]) ∧
      TL ≠ TD ∧ (∀ p ∈ objs, p.1 ≠ TL) ∧ (∀ p ∈ new, p.1 ≠ TL ∧ p.1 ≠ TD ∧ ∀ q ∈ objs, p.1 ≠ q.1) ∧ vals.length ≤ 3 ∧ (∀ r ∈ rs, RlOk r) ∧ (∀ h2, Le h₀ h2 → (∀ p ∈ new, h2.get? p.1 = some p.2) → Paired (RawV w h2) rs vals) ∧ frm l' (Str.ofString "draw") = some (.ref D) ∧ frm l' (Str.ofString "table") = some (.ref TD)) ⟨h, g, d, tk, os⟩ := by
  obtain ⟨num, y0, g0, ⟨u0, rfl⟩, p0, q0⟩ := dr.at (k := 3 * k) (by omega)
  dsimp only [lawState, lawFor, lawCode, lawPick, List.tail_cons, List.headD_cons, bodyFor]
  refine st_setitem (V := fun v new => ∃ TL, v = .ref TL ∧ new = [(TL, lobj [] 0)]) (news' := fun o => (TD, o) :: objs) F N (.head _) hod hns (by omega) (EX.mono (ex_list exs_nil (fun vs n hv => by rw [hv.2]; exact Nat.le_of_ble_eq_true rfl)) fun v new hv => ?_) (by walk_at "zl") (by walk_at "zl") (fun od' => .head hap) ?_ (by kernel_rfl)
  · obtain ⟨a, vs, n, rfl, rfl, rfl, rfl⟩ := hv
    exact ⟨a, rfl, rfl⟩
  rintro v new od' h1 tk1 ⟨TL, rfl, rfl⟩ hod' F N dj
  have neT : TL ≠ TD := dj _ (.head _) _ (.head _)
  have apT : ∀ p ∈ objs, p.1 ≠ TL := fun p hp => Ne.symm (dj _ (.head _) p (.tail _ hp))
  have N1 : News h₀ L h1 ((TD, od') :: (TL, lobj [] 0) :: objs) := fun q hq => N q (by
    simp only [List.cons_append, List.nil_append, List.mem_cons] at hq ⊢
    rcases hq with e | e | e <;> simp [e])
  have T1 := T0.up F.keep
  have m2 : ∃ c : Nat, (2 : Int) + num / 48 % 2 = (c : Int) ∧ c ≤ 3 := by
    have e1 : 0 ≤ num / 48 % 2 := Int.emod_nonneg _ (by decide)
    have e2 : num / 48 % 2 < 2 := Int.emod_lt_of_pos _ (by decide)
    exact ⟨(2 + num / 48 % 2).toNat, by omega, by omega⟩
  obtain ⟨c, hc, hc3⟩ := m2
  have hD1 : h1.IsList D dvs.toArray := ⟨_, (N1 _ (.tail _ (.tail _ hmD))).1, rfl, dn, rfl⟩
  refine st_for (V := fun v new => ∃ r t u y, v = .ref r ∧ new = [(r, rngO 0 (c : Int) 1 t u y)]) F N1 (ex_callK (fv := .type "range") (ex_builtin T1 (by k_is) (by kernel_rfl) (by decide) rfl (by kernel_rfl) (by kernel_rfl) (by kernel_rfl) (by kernel_rfl) (by kernel_rfl)) (cw_type (exs_one (V1 := Im (IsI (c : Int)))
      (EX.mono (ex_binop (op_add (a := 2) (b := num / 48 % 2)) ex_int (ex_binop (op_mod (by decide)) (ex_binop (op_fdiv (by decide) p0 (by omega) (by decide)) (ex_sub (P1 := (· = .ref D)) (P2 := IsI (3 * (k : Int))) (by walk_at "zl") (ex_binop (op_mul mul3_ok) ex_int (by walk_at "zl")) (fun x y hx hy => by
        subst hx
        obtain ⟨uy, rfl⟩ := hy
        exact tl_list (its := dvs) hD1 (by omega) (by omega) (by rw [show (3 * (k : Int)).toNat = 3 * k by omega]; exact g0) isI (by with_unfolding_all rfl))) ex_int) ex_int)) fun v new hv => by rw [← hc]; exact hv)) (fun vs new h3 le3 hn hv => by
        obtain ⟨v, rfl, rfl, hv⟩ := hv
        exact EX.mono (cl_range1 (A := A) hv) fun v new hv => by rw [List.append_nil]; exact hv))) ?_ (fun _ => by kernel_rfl)
  rintro v new h2 tk2 ⟨r, t, u, y, rfl, rfl⟩ F N dj2
  have N2 : News h₀ L h2 ((TD, od') :: (TL, lobj [] 0) :: ([(r, rngO 0 (c : Int) 1 t u y)] ++ objs)) := fun q hq => N q (by
    simp only [List.cons_append, List.nil_append, List.mem_cons] at hq ⊢
    rcases hq with e | e | e | e <;> simp [e])
  refine for_range (n := c) (a := 0) (b := (c : Int)) (c := 1) (fun j l news => ∃ its n rs new, news = (TD, od') :: (TL, lobj its n) :: (new ++ objs) ∧ its.length = j ∧ (∀ h2, Le h₀ h2 → (∀ p ∈ new, h2.get? p.1 = some p.2) → Paired (RawV w h2) rs its) ∧ (∀ r ∈ rs, RlOk r) ∧ (∀ p ∈ new, p.1 ≠ TL ∧ p.1 ≠ TD ∧ ∀ q ∈ objs, p.1 ≠ q.1) ∧
      frm l (Str.ofString "k") = some (.int (k : Int) tkk) ∧ frm l (Str.ofString "state") = some (.str s.str tks) ∧ frm l (Str.ofString "draw") = some (.ref D) ∧ frm l (Str.ofString "table") = some (.ref TD)) hh F N2
    ⟨[], 0, [], _, rfl, rfl, (fun _ _ _ => .nil), (fun _ h => nomatch h), (fun p hp => ?_), by walk_at "lk", by walk_at "lk", by walk_at "lk", by walk_at "lk"⟩ (N2 _ (.tail _ (.tail _ (.head _)))).1 (small_one (by decide) (by decide) (by omega) (by omega)) (range_size0 c) ?_ ?_ ⟨rfl, rfl⟩ (by kernel_rfl)
  · rw [List.mem_singleton.mp hp]
    exact ⟨dj2 _ (.head _) _ (.tail _ (.head _)), dj2 _ (.head _) _ (.head _), fun q hq => dj2 _ (.head _) q (.tail _ (.tail _ hq))⟩
  · rintro j v I o h3 tk3 l news hj ⟨tj, rfl⟩ ⟨its, n, rs, new, rfl, hlen, hsem, hrs, hnew, i1, i2, i3, i4⟩ F N hnI -
    have ej : (0 : Int) + (j : Int) * 1 = (j : Int) := by omega
    rw [ej] at F
    refine WP.mono (law_inner (k := k) (j := j) (n := n) (od := od') (its := its) (TL := TL) (dn := dn) (dvs := dvs) (tkj := tj) (news' := fun v => (I, o) :: (TD, od') :: (TL, lobj (its ++ [v]) (n + 1)) :: (new ++ objs)) T0 hh hd' F N (.tail _ (.tail _ (.head _))) (by omega)
      (fun v => .tail (Ne.symm (hnI _ (.tail _ (.head _)))) (.tail (Ne.symm neT) (.head fun p hp => ?_))) (.tail _ (.tail _ (.tail _ (List.mem_append_right _ hmD)))) dr (.tail _ (.head _)) hod' (hval TL) hk (by omega) (by walk_at "lk") (by walk_at "lk") (by walk_at "lk") (by walk_at "lk") (by walk_at "lk")) fun f s' hq => ?_
    · rcases List.mem_append.mp hp with hp | hp
      · exact (hnew p hp).1
      · exact apT p hp
    · obtain ⟨rfl, h4, tk4, v1, v2, v, newv, r, rfl, F4, N4, dj4, rok, rsem⟩ := hq
      refine ⟨h4, tk4, _, (TD, od') :: (TL, lobj (its ++ [v]) (n + 1)) :: ((newv ++ new) ++ objs), rfl, F4, fun x hx => N4 x ?_, ⟨its ++ [v], n + 1, rs ++ [r], newv ++ new, rfl, by simp [hlen], ?_, ?_, ?_, by walk_at "lk", by walk_at "lk", by walk_at "lk", by walk_at "lk"⟩, ?_⟩
      · simp only [List.mem_append, List.mem_cons] at hx ⊢
        rcases hx with e | e | e | (e | e) | e <;> simp [e]
      · intro h5 le5 hp5
        exact paired_append (hsem h5 le5 fun p hp => hp5 p (List.mem_append_right _ hp)) (.cons (rsem h5 le5 fun p hp => hp5 p (List.mem_append_left _ hp)) .nil)
      · intro r' hr'
        rcases List.mem_append.mp hr' with hr' | hr'
        · exact hrs r' hr'
        · rw [List.mem_singleton.mp hr']; exact rok
      · intro p hp
        rcases List.mem_append.mp hp with hp | hp
        · exact ⟨dj4 p hp _ (.tail _ (.tail _ (.head _))), dj4 p hp _ (.tail _ (.head _)), fun q hq => dj4 p hp q (.tail _ (.tail _ (.tail _ (List.mem_append_right _ hq))))⟩
        · exact hnew p hp
      · intro p hp
        rcases List.mem_cons.mp hp with rfl | hp
        · exact hnI _ (.head _)
        rcases List.mem_cons.mp hp with rfl | hp
        · exact hnI (TL, lobj its n) (.tail _ (.head _))
        rcases List.mem_append.mp hp with hp | hp
        · rcases List.mem_append.mp hp with hp | hp
          · exact dj4 p hp _ (.head _)
          · exact hnI p (.tail _ (.tail _ (List.mem_append_left _ hp)))
        · exact hnI p (.tail _ (.tail _ (List.mem_append_right _ hp)))
  · rintro h3 tk3 l news ⟨its, n, rs, new, rfl, hlen, hsem, hrs, hnew, i1, i2, i3, i4⟩ F N
    refine wp_nil (thenQ_next (wp_nil ⟨rfl, h3, tk3, l, od', TL, its, n, rs, new, rfl, F, N, hod', neT, apT, hnew, by omega, hrs, hsem, i3, i4⟩))
end
end Mine
end
section
set_option maxRecDepth 100000
set_option linter.unusedVariables false
open PySem PySem.W PyProof.Rows PySem.Calls PySem.Spec
namespace Mine
local macro_rules | `(tactic| walk_at "lk") => `(tactic| repeat (first | with_reducible exact frm_head | with_reducible assumption | with_reducible refine frm_tail (by kernel_rfl) ?_))
local macro_rules | `(tactic| walk_at "zl") => `(tactic| (refine ex_local (Fr.ns (by assumption)) (by walk_at "lk") ?_ (by kernel_rfl) (by kernel_rfl) (by kernel_rfl); first | exact isI | exact isS | exact isB | rfl))
section
variable {w : World} {A : Around} {h : Heap} {env : Env} {g : Array GenState} {d : Drawn} {tk : Nat} {os : OsState} {Q : Flow → Shared → Prop}
theorem ex_dict7 {pos : Pos} (T : TX w h) : EX PG w A (eval (.Dict [] [] pos) env) h (fun v new => ∃ D od, v = .ref D ∧ new = [(D, od)] ∧ od.IsDictOf (strKind PG w) [] ∧ 749 < D) := ⟨fun h1 g d tk os Q E le H => by
  have h7 : 749 < h1.objs.size := Heap.lt_size ((T.up le).X 749 _ (by k_is))
  refine wpAny_Dict_empty ?_
  refine H _ [(h1.objs.size, { cls := .type "dict", data := .dict #[] })] _ _ (fun b o e => Heap.get?_push_of_some _ e) (fun p hp => ?_) ⟨_, _, rfl, rfl, ?_, h7⟩
  · rw [List.mem_singleton.mp hp]
    exact ⟨Heap.get?_push_size _ rfl, sizeNone⟩
  · obtain ⟨o, ho, hi⟩ := Heap.dictOf_iff.mp (Heap.DictOf.new (knd := strKind PG w) h1)
    rw [Heap.get?_push_size _ rfl] at ho
    rw [Option.some.inj ho]; exact hi⟩
theorem sta_new : ∀ i < 3, ∀ s, stas[i]? = some s → s ∉ stas.take i := by decide
def kvsAt (la : Sta → Addr) (i : Nat) : List (Str × Value) := (stas.take i).map fun s => (s.str, .ref (la s))
theorem kvs_none {la : Sta → Addr} {i : Nat} {s : Sta} (hi : i < 3) (hs : stas[i]? = some s) : valueAt (kvsAt la i) s.str = none := by
  match i, hi with
  | 0, _ => cases hs; rfl
  | 1, _ => cases hs; rfl
  | 2, _ => cases hs; rfl
theorem kvs_some {la : Sta → Addr} {i : Nat} {s : Sta} (hi : i < 3) (hs : stas[i]? = some s) (TL : Addr) : valueAt (kvsAt la i ++ [(s.str, .ref TL)]) s.str = some (.ref TL) := by
  match i, hi with
  | 0, _ => cases hs; rfl
  | 1, _ => cases hs; rfl
  | 2, _ => cases hs; rfl
theorem kvs_step {la : Sta → Addr} {i : Nat} {s : Sta} (hi : i < 3) (hs : stas[i]? = some s) (TL : Addr) : kvsAt la i ++ [(s.str, .ref TL)] = kvsAt (fun s' => if s' = s then TL else la s') (i + 1) := by
  match i, hi with
  | 0, _ => cases hs; rfl
  | 1, _ => cases hs; rfl
  | 2, _ => cases hs; rfl
set_option maxHeartbeats 8000000
theorem law_table {h₀ : Heap} {L D : Addr} {dn : Nat} {oc : Obj} {l : List (Str × Value)} {dvs : List Value} {news0 : List (Addr × Obj)} (T0 : TX w h₀) (hh : A.handled = none) (hd' : A.depth + 100 < recursionLimit)
    (F : Fr h₀ L h (frm l)) (N : News h₀ L h news0) (hmD : (D, lobj dvs dn) ∈ news0) (hmC : (L + 1 + 1, oc) ∈ news0) (dc : oc.data = .cell none) (dr : Draws dvs) (nd : frm l (Str.ofString "draw") = some (.ref D))
    (H : ∀ (h' : Heap) (tk' : Nat) (l' : List (Str × Value)) (hR : Heap) (TD : Addr) (la : Sta → Addr) (vals : Sta → List Value) (T : Tab), Fr h₀ L h' (frm l') → Le h₀ hR → Le hR h' → hR.get? L = none → hR.get? (L + 1 + 1) = none → hR.IsList D dvs.toArray → hR.DictOf (strKind PG w) TD (tabK la) → (TD == sysModules) = false → (∀ s, hR.IsList (la s) (vals s).toArray) → (∀ s, Paired (RawV w hR) (T s) (vals s)) →
      (∀ s, (vals s).length ≤ 3) → (∀ s, ∀ r ∈ T s, RlOk r) → frm l' (Str.ofString "draw") = some (.ref D) → frm l' (Str.ofString "table") = some (.ref TD) → (∃ oc, h'.get? (L + 1 + 1) = some oc ∧ oc.data = .cell none) → WP PG w A (execs (lawRest w) (lawEnv w L)) Q ⟨h', g, d, tk', os⟩) :
    WP PG w A (execs (lawFor w) (lawEnv w L)) Q ⟨h, g, d, tk, os⟩ := by
  dsimp only [lawFor, lawCode, lawPick, List.tail_cons]
  refine st_assignD F N (ex_dict7 (T0.up F.keep)) ?_ ⟨rfl, rfl⟩ (by kernel_rfl) (by kernel_rfl)
  rintro v new h1 tk1 ⟨TD, od, rfl, rfl, hod, h7⟩ F N dj
  have hDc : D ≠ L + 1 + 1 := fun e => by
    have z := (N _ (.tail _ hmD)).1
    have y := (N _ (.tail _ hmC)).1
    rw [show (D, lobj dvs dn).1 = L + 1 + 1 from e, y] at z
    replace z : some oc = some (lobj dvs dn) := z
    cases z; cases dc
  refine st_for (V := fun v new => ∃ e it ax t1 t2 t3, v = .ref e ∧ new = [(e, enumO it), (it, tupI ax 0), (ax, tupO [.str Sta.root.str t1, .str Sta.first.str t2, .str Sta.second.str t3])] ∧ e ≠ it) F N
    (ex_callK (fv := .type "enumerate") (ex_builtin (T0.up F.keep) (by k_is) (by kernel_rfl) (by decide) rfl (by kernel_rfl) (by kernel_rfl) (by kernel_rfl) (by kernel_rfl) (by kernel_rfl)) (cw_type (exs_one (ex_tuple (exs_cons (P := IsS Sta.root.str) ex_str (exs_cons (P := IsS Sta.first.str) ex_str (exs_cons (P := IsS Sta.second.str) ex_str exs_nil))) (fun vs n hv => ?_))) (fun vs new h3 le3 hn hv => ?_))) ?_ (fun _ => by kernel_rfl)
  · obtain ⟨-, v1, r1, rfl, -, v2, r2, rfl, -, v3, r3, rfl, -, rfl⟩ := hv
    exact Nat.le_of_ble_eq_true rfl
  · obtain ⟨v, rfl, ax, vs, n, rfl, rfl, rfl, v1, r1, rfl, ⟨t1, rfl⟩, v2, r2, rfl, ⟨t2, rfl⟩, v3, r3, rfl, ⟨t3, rfl⟩, rfl⟩ := hv
    refine EX.mono (cl_enumT (A := A) (ax := ax) (items := [.str Sta.root.str t1, .str Sta.first.str t2, .str Sta.second.str t3]) ⟨_, hn _ (.head _), rfl, 0, rfl⟩) fun v new hv => ?_
    obtain ⟨e, it, rfl, rfl, hne⟩ := hv
    exact ⟨e, it, ax, t1, t2, t3, rfl, rfl, hne⟩
  rintro v new h2 tk2 ⟨e, it, ax, t1, t2, t3, rfl, rfl, hei⟩ F N dj2
  have dax : ax ≠ e ∧ ax ≠ it := by
    have za := (N (ax, _) (.tail _ (.tail _ (.head _)))).1
    have zb := (N (e, _) (.head _)).1
    have zc := (N (it, _) (.tail _ (.head _))).1
    refine ⟨fun q => ?_, fun q => ?_⟩
    · rw [show (ax, _).1 = e from q, zb] at za
      have := congrArg Obj.cls (Option.some.inj za)
      simp at this
    · rw [show (ax, _).1 = it from q, zc] at za
      have := congrArg Obj.cls (Option.some.inj za)
      simp at this
  have N2 : News h₀ L h2 ([(e, enumO it), (it, tupI ax 0)] ++ ((TD, od) :: (ax, tupO [.str Sta.root.str t1, .str Sta.first.str t2, .str Sta.second.str t3]) :: news0)) := fun q hq => N q (by
    simp only [List.cons_append, List.nil_append, List.mem_cons] at hq ⊢
    rcases hq with e | e | e | e | e <;> simp [e])
  refine for_enumT (ax := ax) (items := [.str Sta.root.str t1, .str Sta.first.str t2, .str Sta.second.str t3]) (fun i l news => ∃ od objs gd la vals T, news = (TD, od) :: objs ∧ (∀ p ∈ (ax, tupO [.str Sta.root.str t1, .str Sta.first.str t2, .str Sta.second.str t3]) :: news0, p ∈ objs) ∧ (∀ p ∈ objs, p.1 ≠ TD) ∧ (∀ p ∈ gd, p ∈ objs ∧ p.1 ≠ L + 1 + 1) ∧ od.IsDictOf (strKind PG w) (kvsAt la i) ∧
      (∀ s ∈ stas.take i, (∃ n, (la s, lobj (vals s) n) ∈ gd) ∧ (vals s).length ≤ 3 ∧ (∀ r ∈ T s, RlOk r) ∧ ∀ h2, Le h₀ h2 → (∀ p ∈ gd, h2.get? p.1 = some p.2) → Paired (RawV w h2) (T s) (vals s)) ∧ frm l (Str.ofString "draw") = some (.ref D) ∧ frm l (Str.ofString "table") = some (.ref TD)) hh F N2 hei
    (fun p hp => ?_) ⟨od, _, [], fun _ => 0, fun _ => [], fun _ => [], rfl, fun p hp => hp, fun p hp => ?_, (fun p hp => nomatch hp), hod, (fun s hs => nomatch hs), by walk_at "lk", by walk_at "lk"⟩ (fun i l news hI => ?_) ?_ ?_ ⟨rfl, rfl⟩ (by kernel_rfl) (by kernel_rfl)
  · rcases List.mem_cons.mp hp with rfl | hp
    · exact ⟨Ne.symm (dj2 (e, enumO it) (.head _) _ (.head _)), Ne.symm (dj2 (it, tupI ax 0) (.tail _ (.head _)) _ (.head _))⟩
    rcases List.mem_cons.mp hp with rfl | hp
    · exact dax
    · exact ⟨Ne.symm (dj2 (e, enumO it) (.head _) _ (.tail _ hp)), Ne.symm (dj2 (it, tupI ax 0) (.tail _ (.head _)) _ (.tail _ hp))⟩
  · rcases List.mem_cons.mp hp with rfl | hp
    · exact dj2 _ (.tail _ (.tail _ (.head _))) _ (.head _)
    · exact Ne.symm (dj _ (.head _) p hp)
  · obtain ⟨od, objs, gd, la, vals, T, rfl, hst, -⟩ := hI
    exact .tail _ (hst _ (.head _))
  · rintro i v1 v2 dsl h3 tk3 l news hi ⟨ti, rfl⟩ hv2 ⟨od, objs, gd, la, vals, T, rfl, hst, hap, hgd, hod, hsem, i1, i2⟩ F N hnd
    have hs : ∃ s t, stas[i]? = some s ∧ v2 = .str s.str t := by
      have hi3 : i < 3 := hi
      have : i = 0 ∨ i = 1 ∨ i = 2 := by omega
      rcases this with rfl | rfl | rfl
      · exact ⟨.root, t1, rfl, (Option.some.inj hv2).symm⟩
      · exact ⟨.first, t2, rfl, (Option.some.inj hv2).symm⟩
      · exact ⟨.second, t3, rfl, (Option.some.inj hv2).symm⟩
    obtain ⟨s, ts, hs, rfl⟩ := hs
    have hi3 : i < 3 := hi
    have hnew := sta_new i hi3 s hs
    refine WP.mono (law_state (k := i) (dn := dn) (od := od) (s := s) (TD := TD) (dvs := dvs) (D := D) (kvs := kvsAt la i) (objs := dsl ++ objs) T0 hh hd' F (fun q hq => N q ?_) (List.mem_append_right _ (hst _ (.tail _ hmD))) dr hod (fun p hp => ?_) (kvs_none hi3 hs) (kvs_some hi3 hs) (by unfold kvsAt; rw [List.length_map, List.length_take]; omega) hi3 (by walk_at "lk") (by walk_at "lk") (by walk_at "lk") (by walk_at "lk")) fun f s' hq => ?_
    · simp only [List.mem_append, List.mem_cons] at hq ⊢
      rcases hq with e | e | e <;> simp [e]
    · rcases List.mem_append.mp hp with hp | hp
      · intro q
        exact hnd (TD, od) (.head _) (List.mem_map.mpr ⟨p, hp, q⟩)
      · exact hap p hp
    obtain ⟨rfl, h4, tk4, l4, od', TL, vls, n, rs, new, rfl, F4, N4, hod', neT, apT, apN, few, rok, rsem, j1, j2⟩ := hq
    have hC : (L + 1 + 1, oc) ∈ dsl ++ objs := List.mem_append_right _ (hst _ (.tail _ hmC))
    refine ⟨h4, tk4, l4, (TD, od') :: (TL, lobj vls n) :: (new ++ objs), rfl, F4, fun q hq => N4 q ?_, ⟨od', _, (TL, lobj vls n) :: (new ++ gd), fun s' => if s' = s then TL else la s', fun s' => if s' = s then vls else vals s', fun s' => if s' = s then rs else T s', rfl, fun p hp => ?_, fun p hp => ?_, fun p hp => ?_, ?_, fun s' hs' => ?_, j1, j2⟩, fun p hp => ?_⟩
    · simp only [List.mem_append, List.mem_cons] at hq ⊢
      rcases hq with e | e | e | e | e <;> simp [e]
    · exact .tail _ (List.mem_append_right _ (hst p hp))
    · rcases List.mem_cons.mp hp with rfl | hp
      · exact neT
      rcases List.mem_append.mp hp with hp | hp
      · exact (apN p hp).2.1
      · exact hap p hp
    · rcases List.mem_cons.mp hp with rfl | hp
      · exact ⟨.head _, Ne.symm (apT _ hC)⟩
      rcases List.mem_append.mp hp with hp | hp
      · exact ⟨.tail _ (List.mem_append_left _ hp), (apN p hp).2.2 _ hC⟩
      · exact ⟨.tail _ (List.mem_append_right _ (hgd p hp).1), (hgd p hp).2⟩
    · rw [← kvs_step hi3 hs]; exact hod'
    · rw [List.take_add_one, hs] at hs'
      rcases List.mem_append.mp hs' with hs' | hs'
      · have ne : s' ≠ s := fun e => hnew (e ▸ hs')
        simp only [if_neg ne]
        obtain ⟨⟨n', hn'⟩, q2, q3, q4⟩ := hsem s' hs'
        exact ⟨⟨n', .tail _ (List.mem_append_right _ hn')⟩, q2, q3, fun h5 le5 hp5 => q4 h5 le5 fun p hp => hp5 p (.tail _ (List.mem_append_right _ hp))⟩
      · have e : s' = s := by simpa using hs'
        subst e
        simp only [if_pos]
        exact ⟨⟨n, .head _⟩, few, rok, fun h5 le5 hp5 => rsem h5 le5 fun p hp => hp5 p (.tail _ (List.mem_append_left _ hp))⟩
    · intro q
      obtain ⟨x, hx, e⟩ := List.mem_map.mp q
      rcases List.mem_cons.mp hp with rfl | hp
      · exact hnd (TD, od) (.head _) q
      rcases List.mem_cons.mp hp with rfl | hp
      · exact apT x (List.mem_append_left _ hx) e
      rcases List.mem_append.mp hp with hp | hp
      · exact (apN p hp).2.2 x (List.mem_append_left _ hx) e.symm
      · exact hnd p (.tail _ hp) q
  · rintro h3 tk3 l news ⟨od, objs, gd, la, vals, T, rfl, hst, hap, hgd, hod, hsem, i1, i2⟩ F N
    have allS : ∀ s : Sta, s ∈ stas.take 3 := fun s => by cases s <;> decide
    have memN : ∀ p ∈ (TD, od) :: (D, lobj dvs dn) :: gd, p ∈ (TD, od) :: objs := fun p hp => by
      rcases List.mem_cons.mp hp with rfl | hp
      · exact .head _
      rcases List.mem_cons.mp hp with rfl | hp
      · exact .tail _ (hst _ (.tail _ hmD))
      · exact .tail _ (hgd p hp).1
    obtain ⟨hR, r1, r2, r3, r4⟩ := restr (led := (TD, od) :: (D, lobj dvs dn) :: gd) F.keep fun p hp => (N p (memN p hp)).1
    have hC : (L + 1 + 1, oc) ∈ objs := hst _ (.tail _ hmC)
    have h0 : ∀ a, L ≤ a → h₀.get? a = none := fun a ha => Heap.get?_none_of_le (Nat.le_trans F.above ha)
    refine wp_nil (thenQ_next (H h3 tk3 l hR TD la vals T F r1 r2 ?_ ?_ ⟨_, r3 _ (.tail _ (.head _)), rfl, dn, rfl⟩ (Heap.dictOf_iff.mpr ⟨od, r3 _ (.head _), hod⟩) (sys_of h7) (fun s => ?_) (fun s => ?_) (fun s => (hsem s (allS s)).2.1) (fun s => (hsem s (allS s)).2.2.1) i1 i2 ⟨oc, (N _ (.tail _ hC)).1, dc⟩))
    · cases q : hR.get? L with
      | none => rfl
      | some o =>
        rcases r4 _ _ q with z | z
        · rw [h0 L (Nat.le_refl _)] at z; cases z
        · exact absurd rfl (N _ (memN _ z)).2.1
    · cases q : hR.get? (L + 1 + 1) with
      | none => rfl
      | some o =>
        rcases r4 _ _ q with z | z
        · rw [h0 _ (Nat.le_succ_of_le (Nat.le_succ _))] at z; cases z
        · rcases List.mem_cons.mp z with z | z
          · exact absurd (congrArg Prod.fst z) (hap (L + 1 + 1, oc) hC)
          rcases List.mem_cons.mp z with z | z
          · exact absurd (congrArg Prod.fst z).symm hDc
          · exact absurd rfl (hgd _ z).2
    · obtain ⟨⟨n, hn⟩, -⟩ := hsem s (allS s)
      exact ⟨_, r3 _ (.tail _ (.tail _ hn)), rfl, n, rfl⟩
    · exact (hsem s (allS s)).2.2.2 hR r1 fun p hp => r3 p (.tail _ (.tail _ hp))
end
end Mine
end
section
set_option maxRecDepth 100000
set_option linter.unusedVariables false
open PySem PySem.W PyProof.Rows PySem.Calls PySem.Spec
namespace Mine
local macro_rules | `(tactic| walk_at "lk") => `(tactic| repeat (first | with_reducible exact frm_head | with_reducible assumption | with_reducible refine frm_tail (by kernel_rfl) ?_))
local macro_rules | `(tactic| walk_at "zl") => `(tactic| (refine ex_local (Fr.ns (by assumption)) (by walk_at "lk") ?_ (by kernel_rfl) (by kernel_rfl) (by kernel_rfl); first | exact isI | exact isS | exact isB | rfl))
theorem TSt.to {w : World} {h₀ hX : Heap} {L D lx : Addr} {T : Tab} {N : Nat} {h h' : Heap} {l l' : List (Str × Value)} (S : TSt w h₀ hX L D lx T N h l) (F' : Fr h₀ L h' (frm l')) (up : Le hX h') (c : ∀ oc v0, h.get? (L + 1 + 1) = some oc → oc.data = .cell v0 → h'.get? (L + 1 + 1) = some oc) (k : SeqKp h h')
    (n1 : frm l' (Str.ofString "lexer") = frm l (Str.ofString "lexer")) (n2 : frm l' (Str.ofString "draw") = frm l (Str.ofString "draw")) (n3 : frm l' (Str.ofString "kept") = frm l (Str.ofString "kept")) (n4 : frm l' (Str.ofString "last") = frm l (Str.ofString "last")) (n5 : frm l' (Str.ofString "text") = frm l (Str.ofString "text")) : TSt w h₀ hX L D lx T N h' l' := by
  obtain ⟨kl, lt, text, tt, rows, fin, kvs, lvs, oc, v0, S⟩ := S
  exact ⟨kl, lt, text, tt, rows, fin, kvs, lvs, oc, v0, ⟨F', up, c _ _ S.c S.dc, S.dc, n1.trans S.n1, n2.trans S.n2, n3.trans S.n3, n4.trans S.n4, n5.trans S.n5, S.sc, k.list S.kl, paired_up k.tup S.kr, k.tup _ _ S.lt, S.lv, S.few, S.ok⟩⟩
theorem TSt.F {w : World} {h₀ hX : Heap} {L D lx : Addr} {T : Tab} {N : Nat} {h : Heap} {l : List (Str × Value)} (S : TSt w h₀ hX L D lx T N h l) : Fr h₀ L h (frm l) := let ⟨_, _, _, _, _, _, _, _, _, _, S⟩ := S; S.F
theorem TSt.up {w : World} {h₀ hX : Heap} {L D lx : Addr} {T : Tab} {N : Nat} {h : Heap} {l : List (Str × Value)} (S : TSt w h₀ hX L D lx T N h l) : Le hX h := let ⟨_, _, _, _, _, _, _, _, _, _, S⟩ := S; S.up
theorem TSt.cell {w : World} {h₀ hX : Heap} {L D lx : Addr} {T : Tab} {N : Nat} {h : Heap} {l : List (Str × Value)} (S : TSt w h₀ hX L D lx T N h l) : ∃ oc v0, h.get? (L + 1 + 1) = some oc ∧ oc.data = .cell v0 := let ⟨_, _, _, _, _, _, _, _, oc, v0, S⟩ := S; ⟨oc, v0, S.c, S.dc⟩
/-- nothing but an iterator turns -/
theorem TSt.iter {w : World} {h₀ hX : Heap} {L D lx I : Addr} {T : Tab} {N : Nat} {h h' : Heap} {oi : Obj} {xs : Array Value} {l : List (Str × Value)} (S : TSt w h₀ hX L D lx T N h l) (hI : h.get? I = some oi) (hd : oi.data = .fields xs) (hX' : hX.get? I = none) (h0 : h₀.get? I = none) (k : ∀ b o, b ≠ I → h.get? b = some o → h'.get? b = some o) : TSt w h₀ hX L D lx T N h' l := by
  have F := S.F
  obtain ⟨oL, a1, a2, hoL, a3, a4⟩ := id F.ns
  have hIL : L ≠ I := fun e => by
    rw [e, hI] at hoL; cases hoL
    rw [hd] at a3; cases a3
  refine S.to ⟨⟨oL, a1, a2, k _ _ hIL hoL, a3, a4⟩, fun b ob e => k b ob (fun q => by rw [q, h0] at e; cases e) (F.keep b ob e), F.above⟩ (fun b o e => k b o (fun q => by rw [q, hX'] at e; cases e) (S.up b o e)) (fun oc v0 hc dc => k _ _ (fun e => by
    rw [e, hI] at hc; cases hc
    rw [hd] at dc; cases dc) hc) (fun a o ys n ho hs => k a o (fun e => by
    rw [e, hI] at ho; cases ho
    rw [hd] at hs; cases hs) ho) rfl rfl rfl rfl rfl
noncomputable def lawLoop (w : World) : List Stmt := (lawRest w).tail.tail.tail
section
variable {w : World} {A : Around} {h : Heap} {env : Env} {g : Array GenState} {d : Drawn} {tk : Nat} {os : OsState} {Q : Flow → Shared → Prop}
set_option maxHeartbeats 8000000
theorem law_loop {h₀ hX : Heap} {L D lx : Addr} {T : Tab} {l : List (Str × Value)} {dvs : List Value} (T0 : TX w h₀) (hh : A.handled = none) (hd' : A.depth + 100 < recursionLimit) (hu : A.units + 90 < cLine) (nX1 : hX.get? L = none) (nX2 : hX.get? (L + 1 + 1) = none)
    (LB : LX w hX lx T) (hD : hX.IsList D dvs.toArray) (dr : Draws dvs) (G : Words T) (ok : TabOk T) (hwy : ∀ s, ∀ r ∈ T s, ∀ l, r.way = .lay l → l.length ≤ 2) (S : TSt w h₀ hX L D lx T 25 h l) (hb : AllBare g)
    (H : ∀ h' tk' g', AllBare g' → Le h₀ h' → Q (.ret (.bool true)) ⟨h', g', d, tk', os⟩) : WP PG w A (execs (lawLoop w) (lawEnv w L)) Q ⟨h, g, d, tk, os⟩ := by
  obtain ⟨all, N, hup⟩ := snap S.F
  have F := S.F
  unfold lawLoop
  dsimp only [lawRest, lawCode, lawPick, List.tail_cons]
  refine st_for (V := fun v new => ∃ r t u y, v = .ref r ∧ new = [(r, rngO 19 25 2 t u y)]) F N (ex_callK (fv := .type "range") (ex_builtin (T0.up F.keep) (by k_is) (by kernel_rfl) (by decide) rfl (by kernel_rfl) (by kernel_rfl) (by kernel_rfl) (by kernel_rfl) (by kernel_rfl)) (cw_type (exs_cons (P := IsI 19) ex_int (exs_cons (P := IsI 25) ex_int (exs_cons (P := IsI 2) ex_int exs_nil))) (fun vs new h3 le3 hn hv => by
      obtain ⟨rfl, v1, r1, rfl, hv1, v2, r2, rfl, hv2, v3, r3, rfl, hv3, rfl⟩ := hv
      exact EX.mono (cl_range3 (A := A) (by decide) (by decide) (by decide) hv1 hv2 hv3) fun v new hv => by rw [List.append_nil]; exact hv))) ?_ (fun _ => by kernel_rfl)
  rintro v new h2 tk2 ⟨r, t, u, y, rfl, rfl⟩ F2 N2 dj
  intro R hR
  refine wpAny_pyIter_range (s := ⟨h2, g, d, tk2, os⟩) (N2 _ (.head _)).1 (by decide) ?_
  have k2 := hup h2 _ F2 fun q hq => N2 q (.tail _ hq)
  have eL : L + 1 + 1 ≠ L := Nat.ne_of_gt (Nat.lt_succ_of_lt (Nat.lt_succ_self L))
  generalize hob : ({ cls := .type "range_iterator", data := .fields #[rawInt 19, rawInt (Builtin.Range.rangeSize 19 25 2), rawInt 2] } : Obj) = ob
  have lp : Le h2 (h2.push ob) := fun b o e => Heap.get?_push_of_some _ e
  have up2 : Le hX h2 := fun b o e => k2 b o (fun q => by rw [q, nX1] at e; cases e) (S.up b o e)
  have S2 : TSt w h₀ hX L D lx T 25 (h2.push ob) l := S.to (fr_up F2 lp) (up2.trans lp) (fun oc v0 hc dc => lp _ _ (k2 _ _ eL hc)) ((SeqKp.of S.F.ns k2).trans (SeqKp.le lp)) rfl rfl rfl rfl rfl
  have hI : (h2.push ob).get? h2.objs.size = some ob := Heap.get?_push_size _ (by rw [← hob]; rfl)
  have hIX : hX.get? h2.objs.size = none := up2.none sizeNone
  have hI0 : h₀.get? h2.objs.size = none := Le.none (show Le h₀ h2 from F2.keep) sizeNone
  generalize h2.objs.size = I at hI hIX hI0 ⊢
  have hst0 : ob = { cls := .type "range_iterator", dict := none, data := .fields #[rawInt (19 + ((0 : Nat) : Int) * 2), rawInt (((3 : Nat) : Int) - ((0 : Nat) : Int)), rawInt 2], slots := #[] } := by rw [← hob]; rfl
  generalize h2.push ob = h3 at S2 hI
  clear hob lp
  refine codeAny_forLoop_any (fun m s => ∃ i h tk g l o, m = 3 - i ∧ i ≤ 3 ∧ s = ⟨h, g, d, tk, os⟩ ∧ AllBare g ∧ TSt w h₀ hX L D lx T (25 + 3 * i) h l ∧ h.get? I = some o ∧ o = { cls := .type "range_iterator", dict := none, data := .fields #[rawInt (19 + (i : Int) * 2), rawInt (((3 : Nat) : Int) - (i : Int)), rawInt 2], slots := #[] }) ?_ 3
    ⟨0, h3, _, g, l, ob, rfl, by decide, rfl, hb, S2, hI, hst0⟩
  rintro m s ⟨i, h, tk, g, l, o, rfl, hi, rfl, hb, S, hI, hst⟩
  have it := itOf_range (prog := PG) (w := w) (A := A) (I := I) (a := 19) (c := 2) (n := 3) hh
  have hdat : ∃ xs, o.data = .fields xs := ⟨_, by rw [hst]⟩
  obtain ⟨xs, hdat⟩ := hdat
  rcases Nat.lt_or_ge i 3 with hlt | hge
  · refine it.item i o h g d tk os _ _ hlt trivial hI hst fun v o' h' tk' hP hst' ho' hk => ?_
    refine wpAny_pure (wpAny_assign_Name ?_)
    have S' := S.iter hI hdat hIX hI0 hk
    obtain ⟨all', N', hup'⟩ := snap S'.F
    refine st_store S'.F N' (fun h4 tk4 F4 N4 k4 => ?_) ⟨rfl, rfl⟩ (by kernel_rfl)
    have S4 : TSt w h₀ hX L D lx T (25 + 3 * i) h4 ((Str.ofString "k", v) :: l) := S'.to F4 (fun b o e => k4 b o (fun q => by rw [q, nX1] at e; cases e) (S'.up b o e)) (fun oc v0 hc dc => k4 _ _ eL hc) (SeqKp.of S'.F.ns k4) (frm_tail (by kernel_rfl) rfl) (frm_tail (by kernel_rfl) rfl) (frm_tail (by kernel_rfl) rfl) (frm_tail (by kernel_rfl) rfl) (frm_tail (by kernel_rfl) rfl)
    obtain ⟨t, rfl⟩ := hP
    have ek : (19 : Int) + (i : Int) * 2 = ((19 + i * 2 : Nat) : Int) := by omega
    rw [ek] at S4
    have hIL : I ≠ L := fun e => by
      obtain ⟨oL, a1, a2, hoL, a3, a4⟩ := id S.F.ns
      rw [← e, hI] at hoL; cases hoL
      rw [hdat] at a3; cases a3
    have hIC : I ≠ L + 1 + 1 := fun e => by
      obtain ⟨oc, v0, hc, dc⟩ := S.cell
      rw [← e, hI] at hc; cases hc
      rw [hdat] at dc; cases dc
    refine wpAny_mono (law_turn (k := 19 + i * 2) T0 hh hd' hu nX1 nX2 LB hD dr G ok hwy S4 (by omega) hb (by omega) (by rw [frm_head])).run (fun f s' hq => ?_) fun _ _ e => e.elim
    obtain ⟨rfl, h5, tk5, g5, l5, rfl, hb5, kp5, S5⟩ := hq
    exact ⟨3 - (i + 1), by omega, i + 1, h5, tk5, g5, l5, o', rfl, hlt, rfl, hb5, by rw [show 25 + 3 * (i + 1) = 25 + 3 * i + 3 by omega]; exact S5, kp5 _ _ hIL hIC (k4 _ _ hIL ho'), by rw [hst']⟩
  · have hin : i = 3 := Nat.le_antisymm hi hge
    subst hin
    refine it.done o h g d tk os _ _ trivial hI hst fun h' tk' hk => ?_
    have S' := S.iter hI hdat hIX hI0 hk
    refine (wp_nil (hR .next _ (thenQ_next (st_ret S'.F News.nil (V := Im (IsB true)) ex_bool ?_)))).of
    rintro v new h6 tk6 ⟨rfl, rfl⟩ F6 N6
    exact H h6 tk6 g hb F6.keep
end
end Mine
end
section
set_option maxRecDepth 100000
set_option linter.unusedVariables false
open PySem PySem.W PyProof.Rows PySem.Calls PySem.Spec
namespace Mine
local macro_rules | `(tactic| walk_at "lk") => `(tactic| repeat (first | with_reducible exact frm_head | with_reducible assumption | with_reducible refine frm_tail (by kernel_rfl) ?_))
local macro_rules | `(tactic| walk_at "zl") => `(tactic| (refine ex_local (Fr.ns (by assumption)) (by walk_at "lk") ?_ (by kernel_rfl) (by kernel_rfl) (by kernel_rfl); first | exact isI | exact isS | exact isB | rfl))
theorem compAll_imm {F : Value → Value → Prop} {xs ys : List Value} {objs : List (Addr × Obj)} (c : CompAll (fun v y os => os = [] ∧ F v y) xs ys objs) : objs = [] ∧ Paired F xs ys := by
  induction c with
  | nil => exact ⟨rfl, .nil⟩
  | snoc _ hv ih => exact ⟨by rw [hv.1, ih.1]; rfl, paired_append ih.2 (.cons hv.2 .nil)⟩
section
variable {w : World} {A : Around} {h : Heap} {env : Env} {g : Array GenState} {d : Drawn} {tk : Nat} {os : OsState} {Q : Flow → Shared → Prop}
set_option maxHeartbeats 8000000
theorem law_rest {h₀ hR : Heap} {L D TD : Addr} {T : Tab} {l : List (Str × Value)} {dvs : List Value} {la : Sta → Addr} {vals : Sta → List Value} {oc : Obj} (T0 : TX w h₀) (hh : A.handled = none) (hd' : A.depth + 130 < recursionLimit) (hu : A.units + 90 < cLine) (dr : Draws dvs) (hb : AllBare g)
    (F : Fr h₀ L h (frm l)) (le0 : Le h₀ hR) (leR : Le hR h) (nR1 : hR.get? L = none) (nR2 : hR.get? (L + 1 + 1) = none) (hD : hR.IsList D dvs.toArray) (hTD : hR.DictOf (strKind PG w) TD (tabK la)) (hsys : (TD == sysModules) = false) (hl : ∀ s, hR.IsList (la s) (vals s).toArray) (hv : ∀ s, Paired (RawV w hR) (T s) (vals s))
    (few : ∀ s, (vals s).length ≤ 3) (rok : ∀ s, ∀ r ∈ T s, RlOk r) (nd : frm l (Str.ofString "draw") = some (.ref D)) (nt : frm l (Str.ofString "table") = some (.ref TD)) (hc : h.get? (L + 1 + 1) = some oc) (dc : oc.data = .cell none)
    (H : ∀ h' tk' g', AllBare g' → Le h₀ h' → Q (.ret (.bool true)) ⟨h', g', d, tk', os⟩) : WP PG w A (execs (lawRest w) (lawEnv w L)) Q ⟨h, g, d, tk, os⟩ := by
  obtain ⟨all, N, hne, hup⟩ := snap2 F hc
  have eL : L + 1 + 1 ≠ L := Nat.ne_of_gt (Nat.lt_succ_of_lt (Nat.lt_succ_self L))
  have G : Words T := fun s r hr => ⟨(rok s r hr).pos, (rok s r hr).few, (rok s r hr).nl⟩
  have ok : TabOk T := fun s r hr => (rok s r hr).nms
  have hwy : ∀ s, ∀ r ∈ T s, ∀ l, r.way = .lay l → l.length ≤ 2 := fun s r hr => (rok s r hr).way
  have F0 := F
  dsimp only [lawRest, lawCode, lawPick, List.tail_cons]
  refine st_assignD (V := fun v new => ∃ lx, v = .ref lx ∧ ∀ h2, Le hR h2 → (∀ p ∈ new, h2.get? p.1 = some p.2) → LX w h2 lx T) F N (ex_callK (fv := .ref 725) (ex_global (T0.up F.keep) (by k_is) rfl (by kernel_rfl) (by kernel_rfl) (by kernel_rfl) (by kernel_rfl)) (cw_some (keeper_K (T0.up F.keep).X (by k_is)) (exs_one (V1 := Im (· = .ref TD)) (by walk_at "zl")) (fun vs new h3 le3 hn hvs => by
      obtain ⟨v, rfl, rfl, rfl⟩ := hvs
      refine EX.mono ((make_lexer (A := A) (T0.up le0) hh (by omega) hTD hsys hl hv (fun s => Nat.le_trans (few s) (by decide))).up (leR.trans le3)) fun v new hv => by rw [List.append_nil]; exact hv))) ?_ ⟨rfl, rfl⟩ (by kernel_rfl) (by kernel_rfl)
  rintro v new h1 tk1 ⟨lx, rfl, hlx⟩ F N1 dj
  have kp1 : Kp L h h1 := hup _ _ _ F fun q hq => N1 q (List.mem_append_right _ hq)
  have leR1 := kp1.up leR nR1 nR2
  obtain ⟨hX, x1, x2, x3, x4⟩ := restr (led := new) leR1 fun p hp => (N1 p (List.mem_append_left _ hp)).1
  have nX1 : hX.get? L = none := by
    cases q : hX.get? L with
    | none => rfl
    | some o =>
      rcases x4 _ _ q with z | z
      · rw [nR1] at z; cases z
      · exact absurd rfl (N1 _ (List.mem_append_left _ z)).2.1
  have nX2 : hX.get? (L + 1 + 1) = none := by
    cases q : hX.get? (L + 1 + 1) with
    | none => rfl
    | some o =>
      rcases x4 _ _ q with z | z
      · rw [nR2] at z; cases z
      · exact absurd rfl (dj _ z (L + 1 + 1, oc) (.head _))
  have LB : LX w hX lx T := hlx hX x1 x3
  have c1 := (N1 _ (List.mem_append_right _ (.head _))).1
  obtain ⟨all1, N, hne1, hup1⟩ := snap2 F c1
  have upX : ∀ {h' m' o'}, Fr h₀ L h' m' → News h₀ L h' ((L + 1 + 1, o') :: all1) → Le hX h' := fun F' N' => (hup1 _ _ _ F' N').up x2 nX1 nX2
  obtain ⟨d9, y9, g9, ⟨u9, rfl⟩, p9, q9⟩ := dr.at (k := 9) (by decide)
  have hDX : hX.IsList D dvs.toArray := list_up hD x1
  -- the text
  refine st_assignI (P := fun v => ∃ x t, v = .str x t ∧ x.length ≤ 10 ∧ Okx x) F N (ex_sliceToC (N := 10) (j := 2 + d9 / 6 % 9) (ex_joinN (Φ := fun l => (∀ p ∈ l, p.1.length = 1 ∧ Okx p.1) ∧ l.length ≤ 10)
    (EX.mono (ex_compN (cl := []) (items := (dvs.drop 9).take 10) (V := fun v y os => os = [] ∧ ∃ c t, y = .str ⟨#[c]⟩ t ∧ c < 0x110000) hh (by kernel_rfl) (by decide +kernel) rfl (by decide +kernel) (by decide +kernel)
      (EX.mono (ex_runL (i := 9) (j := 19) (by walk_at "zl") ex_int ex_int (list_up hDX (upX F N)) (by rw [dr.1]; decide) (by rw [dr.1]; decide) (by decide) (fun _ _ => by kernel_rfl)) fun v new hv => ?_) (by rw [List.length_take]; omega) ?_ (fun _ => by kernel_rfl)) ?_) (fun l hl => by rw [ones_sum fun p hp => (hl.1 p hp).1]; omega) (by kernel_rfl) (by kernel_rfl)) ?_
    (ex_binop (op_add (a := 2) (b := d9 / 6 % 9)) ex_int (ex_binop (op_mod (by decide)) (ex_binop (op_fdiv (by decide) p9 (by omega) (by decide)) (ex_sub (P1 := (· = .ref D)) (P2 := IsI 9) (by walk_at "zl") ex_int (fun x y hx hy => by
        subst hx
        obtain ⟨uy, rfl⟩ := hy
        exact tl_list (its := dvs) (list_up hDX (upX F N)) (by omega) (by omega) g9 isI (by with_unfolding_all rfl))) ex_int) ex_int)) (by decide) (fun _ _ _ => by kernel_rfl) (fun _ _ _ => by with_unfolding_all rfl)) ?_ ⟨rfl, rfl⟩ (by kernel_rfl) (by kernel_rfl)
  · obtain ⟨b, rfl, rfl⟩ := hv
    exact ⟨b, 0, rfl, rfl⟩
  · intro C v h2 m₂ hv le hn hm
    obtain ⟨dd, ⟨ud, rfl⟩, pd, qd⟩ := dr.2 v (List.mem_of_mem_drop (List.mem_of_mem_take hv))
    refine EX.mono (ex_letter (x := Str.ofString "aabb\nc") (i := dd % 6) okx_abc ex_str (ex_binop (op_mod (by decide)) (ex_local hn hm isI (by kernel_rfl) (by kernel_rfl) (by kernel_rfl)) ex_int) (Int.emod_nonneg _ (by decide)) (by
        have e6 : (Str.ofString "aabb\nc").length = 6 := by decide +kernel
        rw [e6]; exact Int.emod_lt_of_pos _ (by decide)) (by decide +kernel) (fun t u => by with_unfolding_all rfl)) fun y new hy => ⟨hy.1, hy.2⟩
  · rintro v new ⟨DD, ys, n, objs, rfl, rfl, hC⟩
    have lys := compAll_len hC
    obtain ⟨rfl, hp⟩ := compAll_imm hC
    have hy : ∀ y ∈ ys, ∃ c t, y = .str ⟨#[c]⟩ t ∧ c < 0x110000 := fun y hy => let ⟨_, _, h⟩ := paired_mem hp hy; h
    obtain ⟨ls, rfl⟩ := texts_of fun y h => let ⟨c, t, e, _⟩ := hy y h; ⟨_, t, e⟩
    refine ⟨DD, ls, n, rfl, rfl, fun p hp => ?_, ?_⟩
    · obtain ⟨c, t, e, hc⟩ := hy (.str p.1 p.2) (by simp only [strValues]; exact List.mem_map_of_mem (f := fun p : Str × Tok => Value.str p.1 p.2) hp)
      rw [(Value.str.inj e).1]
      exact ⟨rfl, fun c' hc' => by simp at hc'; rw [hc']; exact hc⟩
    · have : ls.length = ((dvs.drop 9).take 10).length := by rw [← lys]; simp [strValues]
      rw [this, List.length_take]; omega
  · rintro v ⟨ls, ⟨h1l, h10⟩, t, rfl⟩
    exact ⟨_, t, rfl, by rw [ones_join fun p hp => (h1l p hp).1]; exact h10, okx_join h1l⟩
  rintro v h2 tk2 ⟨text, tt, rfl, htz, okt⟩ F N
  have kp2 := hup1 _ _ _ F N
  obtain ⟨rows, fin, sc⟩ := scan_ex G _ text.cps.toList (Nat.le_refl _) 0 [.root]
  have lrow : rows.length ≤ text.length := by rw [strLen]; exact (scan_places G sc).2.2.1
  refine st_two (h₀ := h₀) (L := L) hh (fun Qv H2 => ex_callW (fv := .ref 744) (PA := (· = [.ref lx, .str text tt])) (ex_global (T0.up F.keep) (by k_is) rfl (by kernel_rfl) (by kernel_rfl) (by kernel_rfl) (by kernel_rfl)) ?_ (keeper_K (T0.up F.keep).X (by k_is)) ?_ (by kernel_rfl) (by kernel_rfl) (by kernel_rfl)) ⟨rfl, rfl⟩ (by kernel_rfl) (by kernel_rfl) (by kernel_rfl) (by kernel_rfl)
  · refine EX.mono (exs_cons (P := (· = .ref lx)) (by walk_at "zl") (exs_cons (P := (· = .str text tt)) (by walk_at "zl") exs_nil)) fun vs new hv => ?_
    obtain ⟨rfl, v1, r1, rfl, rfl, v2, r2, rfl, rfl, rfl⟩ := hv
    exact ⟨rfl, rfl⟩
  · rintro vs h8 tk8 rfl le8
    have F8 := fr_up F le8
    have leX8 : Le hX h8 := (upX F N).trans le8
    refine law_read (A := A) (rows := rows) (fin := fin) (T0.up F8.keep) (?_ : LX w h8 lx T) hh (by omega) sc (by omega) (by omega) hwy hb ?_
    · obtain ⟨dl, es, n, td, la', vals', LA⟩ := LB
      exact ⟨dl, es, n, td, la', vals', LA.up leX8⟩
    intro h9 tk9 g9 R2 wl ft wvs wfs le9 hb9 hR2 hwl hwvs hft hwfs
    refine H2 R2 (.ref wl) (.ref ft) _ h9 tk9 g9 (fr_up F8 le9) hR2 fun h10 tk10 F10 kp10 => ?_
    have sq9 : SeqKp h9 h10 := SeqKp.of (fr_up F8 le9).ns kp10
    refine law_loop T0 hh (by omega) hu nX1 nX2 LB hDX dr G ok hwy ⟨wl, ft, text, tt, rows, fin, wvs, wfs, oc, .none, ⟨F10, ?_, kp10 _ _ eL (le9 _ _ (le8 _ _ (N _ (.head _)).1)), dc, by walk_at "lk", by walk_at "lk", by walk_at "lk", by walk_at "lk", by walk_at "lk", sc, sq9.list hwl, paired_up sq9.tup hwvs, sq9.tup _ _ hft, hwfs, by omega, okt⟩⟩ hb9 H
    exact fun b o e => kp10 b o (fun q => by rw [q, nX1] at e; cases e) (le9 _ _ (leX8 b o e))
end
end Mine
end
section
set_option maxRecDepth 100000
set_option linter.unusedVariables false
open PySem PySem.W PyProof.Rows PySem.Calls PySem.Spec
namespace Mine
local macro_rules | `(tactic| walk_at "lk") => `(tactic| repeat (first | with_reducible exact frm_head | with_reducible assumption | with_reducible refine frm_tail (by kernel_rfl) ?_))
local macro_rules | `(tactic| walk_at "zl") => `(tactic| (refine ex_local (Fr.ns (by assumption)) (by walk_at "lk") ?_ (by kernel_rfl) (by kernel_rfl) (by kernel_rfl); first | exact isI | exact isS | exact isB | rfl))
theorem ints_mem {vs : List Value} {ns : List Int} (h : IntsAre vs ns) : ∀ v ∈ vs, ∃ i, IsI i v := by
  induction h with
  | nil => exact fun _ h => nomatch h
  | cons _ _ _ ih =>
    intro v hv
    rcases List.mem_cons.mp hv with rfl | hv
    · exact ⟨_, isI⟩
    · exact ih v hv
theorem rest_tup {w : World} {h : Heap} (T : TX w h) : ∃ its : List Value, h.IsTuple 728 its.toArray ∧ its.length = 25 ∧ ∀ v ∈ its, ∃ j, IsI j v := by
  refine ⟨_, ⟨_, T.X 728 _ (by k_is), rfl, 0, rfl⟩, rfl, fun v hv => ?_⟩
  simp only [List.mem_cons, List.not_mem_nil, or_false] at hv
  iterate 24 (rcases hv with rfl | hv; · exact ⟨_, isI⟩)
  rw [hv]; exact ⟨_, isI⟩
section
variable {w : World} {A : Around} {h : Heap} {g : Array GenState} {d : Drawn} {tk : Nat} {os : OsState} {E : Value → Shared → Prop} {Q : Value → Shared → Prop}
set_option maxHeartbeats 8000000
theorem law_call {sa : Addr} {vals : List Value} {ns : List Int} (T0 : TX w h) (hh : A.handled = none) (hd' : A.depth + 200 < recursionLimit) (hu : A.units + 100 < cLine) (hl : h.IsList sa vals.toArray) (hi : IntsAre vals ns) (hz : vals.length ≤ 63) (hb : AllBare g)
    (H : ∀ h2 tk2 g2, Le h h2 → AllBare g2 → Q (.bool true) ⟨h2, g2, d, tk2, os⟩) : wpAny (model PG w) A (call (.ref 754) [.ref sa]) Q E ⟨h, g, d, tk, os⟩ := by
  refine call_defCG T0.X T0.lim (by k_is) (by k_is) (by omega) (fun s X => BindsTo.of_eq rfl) (by kernel_rfl) (by decide +kernel) ?_ rfl rfl rfl
  intro L hh' tk1 cells F N C
  change Fr h L hh' (bindL _ [(Str.ofString "script", .ref sa)] (frm [])) at F
  rw [bindL_cell (by kernel_rfl), bindL_nil] at F
  change CellsAre _ [(Str.ofString "line", L + 1 + 1), (Str.ofString "script", L + 1)] cells at C
  cases C with
  | @cons _ _ oc _ cells dc C =>
  cases C with
  | @cons _ _ ob _ cells db C =>
  cases C
  replace dc : oc.data = .cell none := dc
  replace db : ob.data = .cell (some (.ref sa)) := db
  have cb := (N _ (.tail _ (.head _))).1
  have T1 := T0.up F.keep
  refine st_assignCompR (a := 0) (b := 25) (c := 1) (n := 25) (cl := [(Str.ofString "script", L + 1)]) (fun _ y => ∃ d, IsI d y ∧ 0 ≤ d ∧ d < 1000003) hh F N (by kernel_rfl) (by kernel_rfl) (by decide +kernel) rfl (by decide +kernel) (by decide +kernel)
    (ex_callK (fv := .type "range") (ex_builtin T1 (by k_is) (by kernel_rfl) (by decide) rfl (by kernel_rfl) (by kernel_rfl) (by kernel_rfl) (by kernel_rfl) (by kernel_rfl)) (cw_type (exs_one (V1 := Im (IsI 25)) ex_int) (fun vs new h3 le3 hn hv => by
        obtain ⟨v, rfl, rfl, hv⟩ := hv
        exact EX.mono (cl_range1 (A := A.deeper _) hv) fun v new hv => by rw [List.append_nil]; exact hv))) (by decide) (by decide) (by decide) ?_ ?_ ⟨rfl, rfl⟩ (by kernel_rfl) (fun _ => by kernel_rfl)
  · intro C i v h2 m₂ hi' hv up hn hm
    have ev : (0 : Int) + (i : Int) * 1 = (i : Int) := by omega
    rw [ev] at hv
    obtain ⟨ti, rfl⟩ := hv
    have T2 := T1.up up
    have hl2 := list_up (list_up hl F.keep) up
    refine ex_binop (P1 := fun v => ∃ j, IsI j v) (P2 := IsI 1000003) (fun x y hx hy => ?_) (ex_ifexp (b := decide ((i : Int) < (vals.length : Int))) (et_cmp (P1 := IsI (i : Int)) (P2 := IsI (vals.length : Int)) op_lt (ex_local hn hm isI (by kernel_rfl) (by kernel_rfl) (by kernel_rfl))
      (ex_callK (fv := .builtin "len") (ex_builtin T2 (by k_is) (by kernel_rfl) (by decide) rfl (by kernel_rfl) (by kernel_rfl) (by kernel_rfl) (by kernel_rfl) (by kernel_rfl)) (drop_new (cw_builtin (exs_one (V1 := Im (· = .ref sa)) (ex_cell (c := L + 1) (o := ob) (by kernel_rfl) (up _ _ cb) db rfl (by kernel_rfl) (by kernel_rfl) (by kernel_rfl))) (by
        rintro vs new h3 le3 hn ⟨v, rfl, rfl, rfl⟩
        exact (cl_lenL (list_up hl2 le3) (by rw [List.size_toArray]; omega)).mono fun v new hv => by simpa using hv.2))))) (fun hb' => ?_) (fun hb' => ?_)) ex_int
    · obtain ⟨j, hx⟩ := hx
      exact (op_mod (by decide) x y hx hy).mono fun v new hv => ⟨hv.1, _, hv.2, Int.emod_nonneg _ (by decide), Int.emod_lt_of_pos _ (by decide)⟩
    · have hlt : i < vals.length := by have := of_decide_eq_true hb'; omega
      refine ex_sub (P1 := (· = .ref sa)) (P2 := (· = .int (i : Int) ti)) (ex_cell (c := L + 1) (o := ob) (by kernel_rfl) (up _ _ cb) db rfl (by kernel_rfl) (by kernel_rfl) (by kernel_rfl)) (ex_local hn hm rfl (by kernel_rfl) (by kernel_rfl) (by kernel_rfl)) (fun x y hx hy => by
        subst hx hy
        exact tl_list (its := vals) hl2 (by omega) (by omega) (by rw [Int.toNat_natCast]; exact List.getElem?_eq_getElem hlt) (ints_mem hi _ (List.getElem_mem hlt)) (by with_unfolding_all rfl))
    · refine ex_sub (P1 := (· = .ref 728)) (P2 := (· = .int (i : Int) ti)) (ex_global T2 (by k_is) rfl (by kernel_rfl) (by kernel_rfl) (by kernel_rfl) (by kernel_rfl)) (ex_local hn hm rfl (by kernel_rfl) (by kernel_rfl) (by kernel_rfl)) (fun x y hx hy => by
        subst hx hy
        obtain ⟨its, ht, hlen, hall⟩ := rest_tup T2
        have hlt : i < its.length := by rw [hlen]; exact hi'
        exact tl_tuple (its := its) (j := i) ht (by omega) (by omega) (by rw [seq_at (by omega) (by omega), Int.toNat_natCast]) (List.getElem?_eq_getElem hlt) (hall _ (List.getElem_mem hlt)) (by with_unfolding_all rfl))
  rintro D ys k h' tk' hlen hG F N hne
  have dr : Draws ys := ⟨hlen, fun y hy => by
    obtain ⟨i, hi, rfl⟩ := List.mem_iff_getElem.mp hy
    exact hG i _ (List.getElem?_eq_getElem hi)⟩
  refine law_table (w := w) (A := A.deeper _) (L := L) T0 hh (by rw [depth_deeper]; omega) F N (.head _) (.tail _ (.head _)) dc dr (by walk_at "lk") ?_
  intro h2 tk2 l2 hR TD la vals2 T F2 le0 leR n1 n2 hD hTD hsys hls hv few rok nd nt hcc
  obtain ⟨oc', hc', dc'⟩ := hcc
  refine law_rest T0 hh (by rw [depth_deeper]; omega) (by rw [units_deeper]; omega) dr hb F2 le0 leR n1 n2 hD hTD hsys hls hv few rok nd nt hc' dc' fun h3 tk3 g3 hb3 le3 => ?_
  exact H h3 tk3 g3 le3 hb3
end
end Mine
end
section
set_option maxRecDepth 100000
set_option linter.unusedVariables false
open PySem PySem.W PyProof.Rows PySem.Calls PySem.Spec
namespace Mine
theorem ints_len {vs : List Value} {ns : List Int} (h : IntsAre vs ns) : vs.length = ns.length := by
  induction h with
  | nil => rfl
  | cons _ _ _ ih => simp [ih]
/-- the kit's own form of the law's call is that of the written heap -/
theorem law_end {w : World} {s₀ s₁ : Shared} {mg mb : Str → Option Value} {q : Program} {loose : List Str} {R : WRecords} {XP : (Str → Option Value) → Heap → Prop} {args : List WData} {vals : List Value} {as : List Addr} {fa : Addr} (X : (capK.heap_1 w.params).In s₁.heap) (G : Ground q loose R XP w s₀ mg mb s₁.heap) (hmg : mg (Str.ofString "law") = some (.ref fa)) (hg : s₁.gens = #[])
    (hpre : PySem.Challenge.rw_af5026_01.row.toRowW.claim.pre args = true) (hlay : WData.layableAll args = true) (hrd : ReadsAllW PySem.Challenge.rw_af5026_01.row.toRowW.records (classAt s₀.heap) s₁.heap vals args as) (hwl : WellAll w.params s₁.heap vals args) (hlo : ∀ a ∈ as, (a == sysModules) = false) :
    wpAny (model PySem.Challenge.rw_af5026_01.row.toRowW.prog w) callerA (call (.ref fa) vals) (fun v s' => GoodWG PySem.Challenge.rw_af5026_01.row.toRowW.claim (classAt s₀.heap) (ExcName.means s₀.heap) args s₁ (.ok (.ret v)) s')
      (fun e s' => GoodWG PySem.Challenge.rw_af5026_01.row.toRowW.claim (classAt s₀.heap) (ExcName.means s₀.heap) args s₁ (.error e) s') s₁ := by
  have T := G.T
  have T0 : TX w s₁.heap := ⟨X, T.nolimit, ⟨_, T.g⟩, ⟨_, T.b, T.builtins⟩⟩
  have e1 : mg (Str.ofString "law") = some (.ref 754) := mg_of X T.g (by k_is)
  have efa : fa = 754 := by
    have : some (Value.ref fa) = some (Value.ref 754) := hmg.symm.trans e1
    injection this with this
    injection this
  subst efa
  clear hmg G T
  wrow_args hpre hlay hrd hwl hlo
  rename_i ns hs hlay0 hL1 hr1 hl2 a1 a2 sa vs a3 hL ra w1 r0 hI hr hc1 hc2
  refine law_call (A := callerA) (ns := ns) T0 rfl (by decide) (by decide) hL hI ?_ ?_ ?_
  · have := ints_len hI
    omega
  · intro y hy
    rw [hg] at hy
    simp at hy
  · intro h2 tk2 g2 le hb
    exact ⟨.inl ⟨.bool true, .bool true, [], rfl, fun _ => rfl, .bool true, by wrow_post, fun _ => ⟨.nil, fun _ h => nomatch h⟩⟩, OldK.of_keep le, rfl, hb⟩
/-! Names that stand already: so the kit's head lays no twin of the top's trees, which would make the compiled file too large. They say nothing. -/
def holds.tw2737177867079901675 : Nat := 0
def holds.tw8564859838321607590 : Nat := 0
def holds.tw8049511868366338171 : Nat := 0
def holds.tw18034948908175673939 : Nat := 0
def holds.tw12448258298703727505 : Nat := 0
def holds.tw7612633234226181379 : Nat := 0
def holds.tw7670464885185767585 : Nat := 0
def holds.tw9243010814804240699 : Nat := 0
def holds.tw17648930188486317669 : Nat := 0
def holds.tw8612204395446636934 : Nat := 0
def holds.tw5647443022808110450 : Nat := 0
def holds.tw13064522417931735730 : Nat := 0
def holds.tw10577866197766204210 : Nat := 0
def holds.tw9279739060811778729 : Nat := 0
def holds.tw12733104283643553281 : Nat := 0
def holds.tw2216893941384063914 : Nat := 0
def holds.tw8362046836730036633 : Nat := 0
def holds.tw9431307246826503309 : Nat := 0
def holds.tw9326103175940461020 : Nat := 0
def holds.tw3320517115775073275 : Nat := 0
def holds.tw6286007410655885185 : Nat := 0
def holds.tw6405266279934464335 : Nat := 0
def holds.tw9043164122211887112 : Nat := 0
def holds.tw17413278989474025386 : Nat := 0
def holds.tw17577069355127563947 : Nat := 0
def holds.tw15864543535133235901 : Nat := 0
def holds.tw8576948918138494304 : Nat := 0
def holds.tw4290641577518128536 : Nat := 0
def holds.tw617803661917330176 : Nat := 0
def holds.tw13192765052228645267 : Nat := 0
def holds.tw11661035450516734157 : Nat := 0
def holds.tw10734617947663238358 : Nat := 0
def holds.tw10355257737126305573 : Nat := 0
def holds.tw7038691303267187859 : Nat := 0
def holds.tw12724650187166357961 : Nat := 0
def holds.tw7809078165922500708 : Nat := 0
def holds.tw1746326671092713903 : Nat := 0
def holds.tw9311385253828115424 : Nat := 0
def holds.tw821858339159670338 : Nat := 0
def holds.tw17955975236875357901 : Nat := 0
def holds.tw10582916261258784227 : Nat := 0
def holds.tw10698677150466628799 : Nat := 0
def holds.tw12676457887456125636 : Nat := 0
def holds.tw4125303050018374555 : Nat := 0
def holds.tw12677024591564486123 : Nat := 0
def holds.tw3282117287353060109 : Nat := 0
def holds.tw16633923294408248563 : Nat := 0
def holds.tw13271243901587676590 : Nat := 0
def holds.tw10885752782291721163 : Nat := 0
def holds.tw12212566288776024050 : Nat := 0
def holds.tw2272129510838088764 : Nat := 0
def holds.tw11808809669421553573 : Nat := 0
def holds.tw12158775818479418589 : Nat := 0
def holds.tw9399609623188801256 : Nat := 0
def holds.tw7790934988523156345 : Nat := 0
def holds.tw1464585029459963409 : Nat := 0
set_option Elab.async true in
set_option maxRecDepth 100000 in
set_option maxHeartbeats 8000000 in
theorem holds : PySem.Challenge.rw_af5026_01.Holds := by
  w_on
  o_law
  k_head
  case hw => w_witness2
  intro w s₀ s₁ mg mb G Y fa o pm cd doc dV kV ho hd' hcd hD hmg hg args vals as hpre hlay hrd hwl hlo
  exact law_end (show (capK.heap_1 w.params).In s₁.heap from Y.1) G hmg hg hpre hlay hrd hwl hlo
end Mine
theorem PySem.Challenge.cw_af5026_01_holds : PySem.Challenge.rw_af5026_01.Holds :=
  Mine.holds
end
