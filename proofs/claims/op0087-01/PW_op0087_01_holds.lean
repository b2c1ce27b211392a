import PyProof.Rows.All
import Wide.All
import OpenK.AllK
import Wide.FinOn
import Lean
import PySem.Challenge.RW_op0087_01
open PySem PySem.W PyProof.Rows PySem.Calls
set_option Elab.async false
set_option maxRecDepth 100000
set_option maxHeartbeats 8000000
set_option pp.deepTerms false
set_option linter.all false
set_option compiler.extract_closed false
namespace Mine
noncomputable def pick (l : List Stmt) (is : List Nat) : List Stmt := is.filterMap fun i => l[i]?
noncomputable def viewQ : Program := { PySem.Challenge.pw_op0087_01 with main := { PySem.Challenge.pw_op0087_01.main with body := pick PySem.Challenge.pw_op0087_01.main.body [0, 2, 3, 4, 5, 6, 8, 9, 11, 12, 13, 14, 15, 16, 23, 25, 26, 27, 28, 29, 30, 31] } }
section
local macro_rules | `(tactic| o_head $H) => `(tactic| (refine holds_open (q := Mine.viewQ) (loose := [Str.ofString "bytes_types", Str.ofString "a2b_base64", Str.ofString "b2a_base64", Str.ofString "b64encode", Str.ofString "b64decode"]) (Xt := fun s => xlAt Mine.viewQ [] s && recOk (RowW.records (OpenRow.toRowW PySem.Challenge.rw_op0087_01.row)) s) (XP := XL Mine.viewQ []) (Yf := Hook.obs $H) (Ya := Hook.val $H) (YP := Hook.says $H) (N := 1976) ?hl (Hook.of $H) (Hook.keeps $H) (fun s e => xl_of s (Bool.and_eq_true_iff.mp e).1) XL.keeps (by rfl) (by rfl) (by rfl) (fun s e => recFacts_of (Bool.and_eq_true_iff.mp e).2) (by rfl) (by first | assumption | decide +kernel) (by decide +kernel) ⟨rfl, rfl, rfl, rfl, rfl, by decide +kernel⟩ ?hw ?hc; (case hl => intro w; kernel_rfl)))
local macro_rules | `(tactic| o_law) => `(tactic| (refine holds_law (by decide +kernel) fun said => ?_))
open_top hd for PySem.Challenge.rw_op0087_01
end
end Mine
open PySem PySem.W PyProof.Rows PySem.Calls
namespace Mine
theorem fillAll : PySem.Challenge.rw_op0087_01.foot = 7 ∧ hd.heap_1 = hd.heap_1 := by
  w_top off
  k_fill
  exact ⟨rfl, rfl⟩
theorem sub_step {k i n : Nat} (h : k - i = n + 1) : k - (i + 1) = n := by rw [Nat.sub_add_eq, h]; rfl
theorem wd_l {E A i k n : Nat} (hn : n = E - i + A) (h1 : i + 1 ≤ k) (h2 : k < E) : E - k + A < n := hn ▸ Nat.add_lt_add_right (Nat.sub_lt_sub_left (Nat.lt_trans h1 h2) h1) _
theorem wd_r {E A i k n : Nat} (hn : n = A + (E - i)) (h1 : i + 1 ≤ k) (h2 : k < E) : A + (E - k) < n := hn ▸ Nat.add_lt_add_left (Nat.sub_lt_sub_left (Nat.lt_trans h1 h2) h1) _
theorem last_nat {n m : Nat} (h : 0 < m) (e : n = m) : ((-1 : Int) + (n : Int)).toNat = m - 1 := by subst e; omega
theorem fm_c {α : Type} {P : α → Prop} {a : α} {l : List α} (h : P a) (t : ∀ x ∈ l, P x) : ∀ x ∈ a :: l, P x := List.forall_mem_cons.mpr (And.intro h t)
theorem fm_h {α : Type} {P : α → Prop} {a : α} {l : List α} (h : ∀ x ∈ a :: l, P x) : P a := (List.forall_mem_cons.mp h).1
theorem fm_t {α : Type} {P : α → Prop} {a : α} {l : List α} (h : ∀ x ∈ a :: l, P x) : ∀ x ∈ l, P x := (List.forall_mem_cons.mp h).2
theorem sub_c {α : Type} {a : α} {l r : List α} (h : a ∈ r) (t : ∀ x ∈ l, x ∈ r) : ∀ x ∈ a :: l, x ∈ r := fm_c h t
theorem sub_n {α : Type} {r : List α} : ∀ x ∈ ([] : List α), x ∈ r := fun _ h => nomatch h
theorem sub_d {α : Type} {r : List α} (n : Nat) : ∀ x ∈ r.drop n, x ∈ r := fun _ h => List.mem_of_mem_drop h
theorem mem0 {α : Type} {a : α} {l : List α} : a ∈ a :: l := List.mem_cons_self
theorem mem1 {α : Type} {x0 a : α} {l : List α} : a ∈ x0 :: a :: l := .tail _ mem0
theorem mem2 {α : Type} {x0 x1 a : α} {l : List α} : a ∈ x0 :: x1 :: a :: l := .tail _ mem1
theorem mem3 {α : Type} {x0 x1 x2 a : α} {l : List α} : a ∈ x0 :: x1 :: x2 :: a :: l := .tail _ mem2
theorem mem4 {α : Type} {x0 x1 x2 x3 a : α} {l : List α} : a ∈ x0 :: x1 :: x2 :: x3 :: a :: l := .tail _ mem3
theorem mem5 {α : Type} {x0 x1 x2 x3 x4 a : α} {l : List α} : a ∈ x0 :: x1 :: x2 :: x3 :: x4 :: a :: l := .tail _ mem4
theorem mem6 {α : Type} {x0 x1 x2 x3 x4 x5 a : α} {l : List α} : a ∈ x0 :: x1 :: x2 :: x3 :: x4 :: x5 :: a :: l := .tail _ mem5
theorem mem7 {α : Type} {x0 x1 x2 x3 x4 x5 x6 a : α} {l : List α} : a ∈ x0 :: x1 :: x2 :: x3 :: x4 :: x5 :: x6 :: a :: l := .tail _ mem6
theorem mem_t {α : Type} {x0 x1 x2 x3 x4 x5 x6 x7 a : α} {l : List α} (h : a ∈ l) : a ∈ x0 :: x1 :: x2 :: x3 :: x4 :: x5 :: x6 :: x7 ::  l := .tail _ (.tail _ (.tail _ (.tail _ (.tail _ (.tail _ (.tail _ (.tail _ h)))))))
noncomputable def stmtBody : Stmt → List Stmt
  | .FunctionDef _ _ b _ _ _ _ _ _ _ => b
  | .For _ _ b _ _ => b
  | .While _ b _ _ => b
  | _ => []
noncomputable def stmtIter : Stmt → Expr
  | .For _ it _ _ _ => it
  | _ => .Constant .none 0 ⟨0, 0, 0, 0⟩
noncomputable def stmtTest : Stmt → Expr
  | .While t _ _ _ => t
  | .If t _ _ _ => t
  | _ => .Constant .none 0 ⟨0, 0, 0, 0⟩
noncomputable def stmtPos : Stmt → Pos
  | .For _ _ _ _ p => p
  | _ => ⟨0, 0, 0, 0⟩
noncomputable def stmtVal : Stmt → Expr
  | .Assign _ v _ => v
  | _ => .Constant .none 0 ⟨0, 0, 0, 0⟩
noncomputable def compElt : Expr → Expr
  | .ListComp e _ _ _ => e
  | e => e
noncomputable def compScope : Expr → Scope
  | .ListComp _ _ sc _ => sc
  | _ => default
noncomputable def stmtScope : Stmt → Scope
  | .FunctionDef _ _ _ _ _ _ sc _ _ _ => sc
  | _ => default
noncomputable def topSt (n : Nat) : Stmt := PySem.Challenge.pw_op0087_01.main.body.getD n (.Pass ⟨0, 0, 0, 0⟩)
noncomputable def RetAt (R : Result → Shared → Prop) (v : Value) (s : Shared) : Prop := R (.ok (.ret v)) s
theorem ret_at {R : Result → Shared → Prop} {v : Value} {s : Shared} (h : R (.ok (.ret v)) s) : RetAt R v s := h
noncomputable abbrev AA (dp un : Nat) (gd : Option (List Code)) (fr : List Env) : Around := { handled := none, depth := dp, frames := some fr, guards := gd, units := un }
theorem rs_00_1 {M : Model} {A : Around} {Q : Value → Shared → Prop} {E : Value → Shared → Prop} {s : Shared} (h : wpAny M A (call .none [.none]) Q E s) : wpAny M A (call .none [.none]) Q E s := by first | (walk1; fail "") | exact h
section
variable {prog : Program} {w : World} {A : Around} {s : Shared} {base : Heap} {fr : List Env} {K : Frag} {p : Program} {loose : List Str} {mean : ExcName → Option Value} {mg mb : Str → Option Value}
  {R : Result → Shared → Prop} {name qual : Str} {params : Arguments} {body : List Stmt} {scope : Scope} {dV kV doc pm cdv ct oc : Value} {an od : Option Addr} {osl : Array (Option Value)} {f : Addr} {args : Args} {binds : List (Str × Value)}
theorem enterP (X : K.In s.heap) (T : Top p loose mean mg mb s.heap)
    (ho : K.lookup f = some ⟨oc, od, .func (fnOf name qual params body scope dV kV doc pm an cdv ct), osl⟩) (hcd : codeIn K cdv qual = true) (hroom : A.depth < recursionLimit)
    (hbind : BindsTo s (fnOf name qual params body scope dV kV doc pm an cdv ct) args binds) (hloc : ∀ y ∈ binds, scope.names.lookup y.1 = some .local)
    (h : ∀ L' h₁ tk, Fr s.heap L' h₁ (fun y => binds.reverse.lookup y) → News s.heap L' h₁ [] →
      wpAny (model prog w) (A.deeper (envOf qual scope L' f cdv)) (execs body (envOf qual scope L' f cdv))
        (fun fl s' => RetAt R (match fl with | .ret v => v | _ => .none) s')
        (fun e s' => wpAny (model prog w) (A.deeper (envOf qual scope L' f cdv)) (leaving (envOf qual scope L' f cdv) e) (fun _ s'' => R (.error e) s'') (fun e' s'' => R (.error e') s'') s')
        { s with heap := h₁, toks := tk })
    (hcell : ∀ x ∈ scope.names, x.2 ≠ .cell) (hco : scope.isCoroutine = false) (hgen : scope.isGenerator = false) (hk : scope.kind = .function) :
    codeAny (model prog w) A (.call (.ref f) args) R s :=
  codeAny_call_def (fd := fnOf name qual params body scope dV kV doc pm an cdv ct) (body := body) (binds := binds) hroom (X _ _ ho) rfl T.nolimit (codeRec_of X hcd) rfl hbind hcell hloc
    (fun h₁ hns hk₁ => h s.heap.objs.size h₁ _ ⟨hns, hk₁, Nat.le_refl _⟩ News.nil) hco hgen hk
theorem enterC (X : K.In s.heap) (T : Top p loose mean mg mb s.heap)
    (ho : K.lookup f = some ⟨oc, od, .func (fnOf name qual params body scope dV kV doc pm an cdv ct), osl⟩) (hcd : codeIn K cdv qual = true) (hroom : A.depth < recursionLimit)
    (hbind : BindsTo s (fnOf name qual params body scope dV kV doc pm an cdv ct) args binds)
    (hkind : (binds.all fun y => scope.names.lookup y.1 == some .local || scope.names.lookup y.1 == some .cell) = true)
    (hnd : ((cellsFrom 0 scope.names []).map (·.1)).Nodup)
    (h : ∀ L' h₁ tk cells, Fr s.heap L' h₁ (bindL (envOfC qual scope L' f cdv).kindOf binds fun _ => none) → News s.heap L' h₁ cells →
      CellsAre (bindC (envOfC qual scope L' f cdv).kindOf binds fun _ => none) (cellsFrom (L' + 1) scope.names []) cells →
      wpAny (model prog w) (A.deeper (envOfC qual scope L' f cdv)) (execs body (envOfC qual scope L' f cdv))
        (fun fl s' => RetAt R (match fl with | .ret v => v | _ => .none) s')
        (fun e s' => wpAny (model prog w) (A.deeper (envOfC qual scope L' f cdv)) (leaving (envOfC qual scope L' f cdv) e) (fun _ s'' => R (.error e) s'') (fun e' s'' => R (.error e') s'') s')
        { s with heap := h₁, toks := tk })
    (hco : scope.isCoroutine = false) (hgen : scope.isGenerator = false) (hk : scope.kind = .function) :
    codeAny (model prog w) A (.call (.ref f) args) R s := by
  refine codeAny_call_function hroom (X _ _ ho) rfl hco hgen rfl (codeRec_of X hcd) (hbind _ _ _ _ ?_)
  refine wpAny_newFunctionEnv_cells hk (kindsX hkind _) fun env' he s' x => ?_
  subst he
  refine ⟨T.nolimit.keeps x.toInCall.keep, codeAny_func ?_⟩
  obtain ⟨h₁, tk, rfl, _⟩ := x.done
  have hk₁ := x.toInCall.keep
  obtain ⟨cells, NC, Y⟩ := Cl.news (h₀ := s.heap) (Nat.le_refl _) fun n c hm => ⟨x.cell n c (lookup_of_mem_nodup (cellsFrom_names scope.names 0 (s.heap.objs.size + 1) [] [] rfl ▸ hnd) hm), x.above n c hm⟩
  exact h s.heap.objs.size h₁ tk cells ⟨x.toInCall.ns, hk₁, Nat.le_refl _⟩ NC Y
end
noncomputable abbrev CVk (w : World) (loose : List Str) (mean : ExcName → Option Value) (mg mb : Str → Option Value) (f : Addr) (need : Nat) (pre : Heap → Prop) (vs : List Value) (kw : List (Str × Value)) (R : Tok → Value) : Prop :=
  ∀ (dp un : Nat) (gd : Option (List Code)) (fr : List Env) (base : Heap) (s : Shared) (Q E : Value → Shared → Prop),
    Below (AA dp un gd fr) base fr s.heap → (hd.heap_1 w.params).In s.heap → Top viewQ loose mean mg mb s.heap →
    pre s.heap → dp + need < recursionLimit → un + 8 * need < cLine →
    (∀ (t : Tok) (h' : Heap) (tk' : Nat), s.heap.StaysIn h' → Q (R t) { s with heap := h', toks := tk' }) →
      wpAny (model PySem.Challenge.rw_op0087_01.row.prog w) (AA dp un gd fr) (call (.ref f) vs kw) Q E s
noncomputable abbrev CV (w : World) (loose : List Str) (mean : ExcName → Option Value) (mg mb : Str → Option Value) (f : Addr) (need : Nat) (pre : Heap → Prop) (vs : List Value) (R : Tok → Value) : Prop :=
  CVk w loose mean mg mb f need pre vs [] R
noncomputable abbrev CEk (w : World) (loose : List Str) (mean : ExcName → Option Value) (mg mb : Str → Option Value) (f : Addr) (need : Nat) (pre : Heap → Prop) (vs : List Value) (kw : List (Str × Value)) (ok : Prop) (R : Tok → Value) : Prop :=
  ∀ (dp un : Nat) (gd : Option (List Code)) (fr : List Env) (base : Heap) (s : Shared) (Q E : Value → Shared → Prop),
    Below (AA dp un gd fr) base fr s.heap → (hd.heap_1 w.params).In s.heap → Top viewQ loose mean mg mb s.heap →
    pre s.heap → dp + need < recursionLimit → un + 8 * need < cLine →
    (ok → ∀ (t : Tok) (h' : Heap) (tk' : Nat), s.heap.StaysIn h' → Q (R t) { s with heap := h', toks := tk' }) →
    (¬ ok → ∀ (e t : Addr) (xs : List Value) (h' : Heap) (tk' : Nat), RaisedS base s.heap fr e (.ref 53) t xs [] h' → s.heap.UpToSlots h' → E (.ref e) { s with heap := h', toks := tk' }) →
      wpAny (model PySem.Challenge.rw_op0087_01.row.prog w) (AA dp un gd fr) (call (.ref f) vs kw) Q E s
theorem raisedS_drop {base G h : Heap} {l : List Env} {e t : Addr} {cls : Value} {vs : List Value} {news : List (Addr × Obj)} (R : RaisedS base G l e cls t vs news h) : RaisedS base G l e cls t vs [] h := by
  obtain ⟨⟨B, h1, h2, _, h4, h5⟩, h6⟩ := R
  refine ⟨⟨B, h1, h2, ?_, h4, h5⟩, h6⟩
  intro q hq
  cases hq
theorem rs_00_2 {M : Model} {A : Around} {Q : Value → Shared → Prop} {E : Value → Shared → Prop} {s : Shared} (h : wpAny M A (call .none [.none]) Q E s) : wpAny M A (call .none [.none]) Q E s := by first | (walk1; fail "") | exact h
section
variable {s : Shared} {Q : Value → Shared → Prop} {h' : Heap} {t : Tok} {tk : Nat}
theorem endI {x y : Int} (hret : ∀ (t : Tok) (h' : Heap) (tk' : Nat), s.heap.StaysIn h' → Q (.int y t) { s with heap := h', toks := tk' }) (e : x = y) (st : ∀ b o, s.heap.get? b = some o → h'.get? b = some o) : Q (.int x t) { s with heap := h', toks := tk } := by
  subst e; exact hret t h' tk st
theorem endS {x y : Str} (hret : ∀ (t : Tok) (h' : Heap) (tk' : Nat), s.heap.StaysIn h' → Q (.str y t) { s with heap := h', toks := tk' }) (e : x = y) (st : ∀ b o, s.heap.get? b = some o → h'.get? b = some o) : Q (.str x t) { s with heap := h', toks := tk } := by
  subst e; exact hret t h' tk st
theorem endY {x y : Array UInt8} (hret : ∀ (t : Tok) (h' : Heap) (tk' : Nat), s.heap.StaysIn h' → Q (.bytes y t) { s with heap := h', toks := tk' }) (e : x = y) (st : ∀ b o, s.heap.get? b = some o → h'.get? b = some o) : Q (.bytes x t) { s with heap := h', toks := tk } := by
  subst e; exact hret t h' tk st
theorem endB {x y : Bool} (hret : ∀ (t : Tok) (h' : Heap) (tk' : Nat), s.heap.StaysIn h' → Q (.bool y) { s with heap := h', toks := tk' }) (e : x = y) (st : ∀ b o, s.heap.get? b = some o → h'.get? b = some o) : Q (.bool x) { s with heap := h', toks := tk } := by
  subst e; exact hret 0 h' tk st
end
theorem top_at {h₀ h : Heap} {L : Addr} {m : Str → Option Value} {p : Program} {loose : List Str} {mean : ExcName → Option Value} {mg mb : Str → Option Value} (F : Fr h₀ L h m) (T : Top p loose mean mg mb h₀) : Top p loose mean mg mb h := T.keeps F.keep
theorem in_at {h₀ h : Heap} {L : Addr} {m : Str → Option Value} {K : Frag} (F : Fr h₀ L h m) (X : K.In h₀) : K.In h := X.keeps F.keep
noncomputable def Stop (P : Prop) : Prop := P
theorem stop_here {P : Prop} (h : Stop P) : P := h
noncomputable def Mark (_ : Nat) : Prop := True
theorem mark (n : Nat) : Mark n := trivial
theorem below_at {A A' : Around} {base h₀ h : Heap} {outer : List Env} {L : Addr} {m : Str → Option Value} {env : Env} (B : Below A base outer h₀) (F : Fr h₀ L h m) (hA : A'.frames = some (env :: outer)) (hf : env.frame = some L) (hk : env.scope.kind = .function) : Below A' base (env :: outer) h :=
  ⟨hA, (pushX B F hf hk).stays, (pushX B F hf hk).frames⟩
theorem use_CV {w : World} {loose : List Str} {mean : ExcName → Option Value} {mg mb : Str → Option Value} {f : Addr} {need : Nat} {pre : Heap → Prop} {vs : List Value} {kw : List (Str × Value)} {R : Tok → Value} (C : CVk w loose mean mg mb f need pre vs kw R)
    {dp un : Nat} {gd : Option (List Code)} {fr : List Env} {base h₀ : Heap} {L : Addr} {m : Str → Option Value} {news : List (Addr × Obj)} {s : Shared} {Q E : Value → Shared → Prop}
    (B : Below (AA dp un gd fr) base fr s.heap) (F : Fr h₀ L s.heap m) (N : News h₀ L s.heap news) (X : (hd.heap_1 w.params).In h₀) (T : Top viewQ loose mean mg mb h₀) (hp : pre s.heap) (hd : dp + need < recursionLimit) (hu : un + 8 * need < cLine)
    (h : ∀ (t : Tok) (h' : Heap) (tk' : Nat), Fr h₀ L h' m → News h₀ L h' news → Q (R t) { s with heap := h', toks := tk' }) : wpAny (model PySem.Challenge.rw_op0087_01.row.prog w) (AA dp un gd fr) (call (.ref f) vs kw) Q E s :=
  C dp un gd fr base s Q E B (X.keeps F.keep) (T.keeps F.keep) hp hd hu fun t h' tk' st => h t h' tk' (F.keeps st) (N.grown st)
theorem stop_m (n : Nat) {P : Prop} (_ : Mark n) (h : Stop P) : P := h
theorem execs_go {M : Model} {A : Around} {E : Value → Shared → Prop} {env : Env} {st : Stmt} {rest : List Stmt} {Q : Flow → Shared → Prop} {h : Heap} {tk : Nat} {g : Array GenState} {d : Drawn} {o : OsState}
    (H : ∀ tk, wpAny M A (exec st env) (fun f s' => match f with | .next => wpAny M A (execs rest env) Q E s' | f => Q f s') E ⟨h, g, d, tk, o⟩) : wpAny M A (execs (st :: rest) env) Q E ⟨h, g, d, tk, o⟩ := wpAny_execs_cons (H tk)
theorem execs_goW {M : Model} {A : Around} {E : Value → Shared → Prop} {env : Env} {e : Expr} {b o : List Stmt} {p : Pos} {rest : List Stmt} {Q : Flow → Shared → Prop} {h : Heap} {tk : Nat} {g : Array GenState} {d : Drawn} {os : OsState}
    (H : ∀ tk, wpAny M A (exec (.While e b o p) env) (fun f s' => match f with | .next => wpAny M A (execs rest env) Q E s' | f => Q f s') E ⟨h, g, d, tk, os⟩) : wpAny M A (execs (.While e b o p :: rest) env) Q E ⟨h, g, d, tk, os⟩ := wpAny_execs_cons (H tk)
theorem execs_goF {M : Model} {A : Around} {E : Value → Shared → Prop} {env : Env} {x e : Expr} {b o : List Stmt} {p : Pos} {rest : List Stmt} {Q : Flow → Shared → Prop} {h : Heap} {tk : Nat} {g : Array GenState} {d : Drawn} {os : OsState}
    (H : ∀ tk, wpAny M A (exec (.For x e b o p) env) (fun f s' => match f with | .next => wpAny M A (execs rest env) Q E s' | f => Q f s') E ⟨h, g, d, tk, os⟩) : wpAny M A (execs (.For x e b o p :: rest) env) Q E ⟨h, g, d, tk, os⟩ := wpAny_execs_cons (H tk)
theorem fr_let {h₀ h : Heap} {L : Addr} {m : Str → Option Value} {C : Prop} (F : Fr h₀ L h m) (k : let mk := m; Fr h₀ L h mk → C) : C := k F
local macro_rules | `(tactic| walk_at "execs cons") => `(tactic| ((try k_unmd); (try k_fold); first | ((with_reducible refine execs_goW ?_); intro tk''; try dsimp only) | ((with_reducible refine execs_goF ?_); intro tk''; try dsimp only) | ((try ((with_reducible rename Fr _ _ _ _ => lFq); (try dsimp only at lFq); (refine fr_let lFq ?_); clear lFq; intro mq lFq)); (with_reducible refine execs_go ?_); intro tk''; try dsimp only)))
local macro_rules | `(tactic| walk_at "RetAt") => `(tactic| (k_dflt (refine ret_at ?_); (try dsimp only)))
local macro_rules | `(tactic| walk_at $s) => let i := ("call ref|CompSrc|CompSrcT|call builtin:sum|call builtin:sorted|compareOp NotEq ref ref|compareOp Eq ref ref|pyIter ref|exec For Name Call cons nil|compareOp NotIn str ref|exec Try|exec Try cons nil|subscriptTail|exec If|call builtin:list.append|subscriptTail Name Name ref int|subscriptTail Name BinOp ref int|subscriptTail Name UnaryOp ref int|exec While|exec For Name Subscript cons nil|exec For Name Name cons nil|compareOp In|exec Assign cons ListComp|subscriptTail Name Slice ref ref|subscriptTail Name Slice str ref|leaving ref|call type:type|getMethod str|call builtin:str.encode|binaryOp LShift int int|binaryOp BitOr int int|binaryOp RShift int int|binaryOp BitAnd int int|CompEnd|subscriptTail Name Constant ref int|eval Subscript|isTrue Compare|exec Assign cons BinOp|pyIter bytes|isTrue Call|exec While Compare|WhlRest|exec Assign cons Constant|binaryOp Mod str int".splitOn "|").idxOf s.getString; if i < 8 then `(tactic| refine stop_here ?_) else if i < 44 then `(tactic| refine stop_m $(Lean.quote i) (by with_reducible assumption) ?_) else Lean.Macro.throwUnsupported

open Builtin Builtin._codecs in
theorem encode_tree2 (x : Str) (t u : Tok) : «str.encode» ⟨[.str x t, .str (Str.ofString "ascii") u], []⟩ = ((encodeNarrow "str.encode" asciiCodec none (.str x t) x >>= fun b => mkBytes b) >>= fun v => ret v) := by
  kernel_rfl
theorem find_none {p : Nat → Bool} {a : Array Nat} (h : ∀ c ∈ a.toList, p c = false) : a.findIdx? p = none := by
  rw [Array.findIdx?_eq_none_iff]
  intro x hx
  exact h x (by simpa using hx)
theorem fold_push (l : List Nat) (out : Array UInt8) : l.foldl (fun acc y => acc ++ ([y.toUInt8] : List UInt8).toArray) out = out ++ (l.map (·.toUInt8)).toArray := by
  induction l generalizing out with
  | nil => simp
  | cons c l ih => simp only [List.foldl_cons, ih, List.map_cons]; simp
theorem sem_pure_bind {α β : Type} (a : α) (f : α → Sem β) : (pure a >>= f) = f a := rfl
theorem bind_eq {α β : Type} {a b : Sem α} {f : α → Sem β} (h : a = b) : (a >>= f) = (b >>= f) := h ▸ rfl
theorem forIn_none {σ : Type} (f : Nat → σ → Sem (ForInStep σ)) (a : σ) : (forIn ([:0] : Std.Legacy.Range) a f) = pure a := by
  simp [Std.Legacy.Range.forIn_eq_forIn_range', Std.Legacy.Range.size]
theorem forIn_once {σ : Type} {f : Nat → σ → Sem (ForInStep σ)} {n : Nat} {a b : σ} (h0 : f 0 a = pure (.yield b)) (h1 : ∀ k, f k b = pure (.done b)) : (forIn ([:n + 1] : Std.Legacy.Range) a f) = pure b := by
  simp only [Std.Legacy.Range.forIn_eq_forIn_range', Std.Legacy.Range.size, Nat.sub_zero, Nat.add_sub_cancel, Nat.div_one]
  rw [List.range'_succ, List.forIn_cons, h0, sem_pure_bind]
  cases n with
  | zero => rfl
  | succ n =>
    rw [List.range'_succ]
    simp only [List.forIn_cons, h1]
    rfl
theorem if_bad {α : Type} {b : Bool} (h : b = false) (x y : α) : (if (!b) = true then x else y) = x := by rw [h]; rfl
open Builtin._codecs in
theorem enc_state {l : List Nat} {st : Faults} (hf : Array.findIdx? asciiCodec.bad (l.toArray.extract 0 l.toArray.size) = none) :
    (0 + (Array.findIdx? asciiCodec.bad (l.toArray.extract 0 l.toArray.size)).getD (l.toArray.extract 0 l.toArray.size).size, Array.foldl (fun acc y => acc ++ (asciiCodec.bytesOf y).toArray) #[] ((l.toArray.extract 0 l.toArray.size).extract 0 ((Array.findIdx? asciiCodec.bad (l.toArray.extract 0 l.toArray.size)).getD (l.toArray.extract 0 l.toArray.size).size)), st)
      = (0 + l.length, (l.map (·.toUInt8)).toArray, st) := by
  rw [hf, Option.getD_none]
  have e1 : l.toArray.extract 0 l.toArray.size = l.toArray := by simp
  rw [e1, e1, List.foldl_toArray' _ _ _ rfl]
  have := fold_push l #[]
  rw [List.size_toArray]
  refine congrArg (fun z => (0 + l.length, z, st)) ?_
  simpa [asciiCodec] using this
open Builtin._codecs in
theorem encNarrow (id : String) (self : Value) (x : Str) (hx : ∀ c ∈ x.cps.toList, c < 128) (hz : x.length ≤ 64) :
    encodeNarrow id asciiCodec none self x = pure (x.cps.map (·.toUInt8)) := by
  obtain ⟨a⟩ := x
  rcases a with ⟨l⟩
  have hb : ∀ c ∈ l, asciiCodec.bad c = false := fun c hc => by
    have := hx c hc
    simp only [asciiCodec, ge_iff_le, decide_eq_false_iff_not]; lia
  delta encodeNarrow
  cases l with
  | nil => exact (bind_eq (forIn_none _ _)).trans (congrArg (pure (f := Sem)) (show (#[] : Array UInt8) = Array.map (fun c : Nat => c.toUInt8) #[] by simp))
  | cons c l =>
    have hc : asciiCodec.bad c = false := hb c (.head _)
    have hf : Array.findIdx? asciiCodec.bad ((c :: l).toArray.extract 0 (c :: l).toArray.size) = none := find_none (by simpa using hb)
    refine (bind_eq (forIn_once (n := l.length) (b := (0 + (c :: l).length, ((c :: l).map (·.toUInt8)).toArray, {})) ?h0 ?h1)).trans ?_
    case h0 =>
      refine (if_bad hc _ _).trans ?_
      exact congrArg (fun z => pure (ForInStep.yield z)) (enc_state hf)
    case h1 =>
      intro k
      refine (if_neg ?s).trans ?m
      case s =>
        show ¬ ((c :: l).map (·.toUInt8)).toArray.size > sizeLine
        have : (c :: l).length ≤ 64 := hz
        rw [List.size_toArray, List.length_map]; simp only [sizeLine]; lia
      case m =>
        have e3 : (c :: l).toArray[0 + (c :: l).length]? = none := by simp
        dsimp only
        rw [e3]
    · exact (sem_pure_bind _ _).trans (congrArg (pure (f := Sem)) <| show ((c :: l).map (·.toUInt8)).toArray = Array.map (·.toUInt8) (c :: l).toArray by simp)
open Builtin Builtin._codecs in
theorem gives_encode (x : Str) (t u : Tok) (hx : ∀ c ∈ x.cps.toList, c < 128) (hz : x.length ≤ 64) : Gives («str.encode» ⟨[.str x t, .str (Str.ofString "ascii") u], []⟩) (.bytes (x.cps.map (·.toUInt8))) := by
  rw [encode_tree2, encNarrow _ _ _ hx hz]
  exact .of_eq rfl
theorem encode_call {prog : Program} {w : World} {A : Around} {E : Value → Shared → Prop} {s : Shared} {x : Str} {t u : Tok} {Q : Value → Shared → Prop} (hx : ∀ c ∈ x.cps.toList, c < 128) (hz : x.length ≤ 64)
    (h : Q (.bytes (x.cps.map (·.toUInt8)) s.toks) { s with toks := s.toks + 1 }) : wpAny (model prog w) A (call (.builtin "str.encode") [.str x t, .str (Str.ofString "ascii") u]) Q E s :=
  call_gives F.slot_str_encode (typeIs_str _ _ _) F.entry_str_encode (F.args_str_encode_2 _ _) (gives_encode x t u hx hz) ⟨by
    have : (x.cps.map (·.toUInt8)).size = x.length := by simp [Str.length]
    rw [this]; simp only [sizeLine]; lia, h⟩

noncomputable def TEnd (h₀ : Heap) (L : Addr) (J : (Str → Option Value) → List (Addr × Obj) → Prop) (own : List (Addr × Obj)) (adr : List Addr) (s₁ s₂ : Shared) : Prop := InvEndN h₀ L J own adr s₁ s₂
noncomputable def TPost (h₀ : Heap) (L : Addr) (J : (Str → Option Value) → List (Addr × Obj) → Prop) (own : List (Addr × Obj)) (adr : List Addr) (s₁ : Shared) (Q : Flow → Shared → Prop) (f : Flow) (s₂ : Shared) : Prop :=
  match f with
  | .ret v => Q (.ret v) s₂
  | .brk => Q .next s₂
  | _ => TEnd h₀ L J own adr s₁ s₂
theorem TPost.inv {h₀ : Heap} {L : Addr} {J : (Str → Option Value) → List (Addr × Obj) → Prop} {own : List (Addr × Obj)} {adr : List Addr} {s₁ : Shared} {Q : Flow → Shared → Prop} {f : Flow} {s₂ : Shared} (h : TPost h₀ L J own adr s₁ Q f s₂) : InvPostN h₀ L J own adr s₁ Q f s₂ := by
  cases f <;> exact h
theorem tend {h₀ : Heap} {L : Addr} {J : (Str → Option Value) → List (Addr × Obj) → Prop} {own : List (Addr × Obj)} {adr : List Addr} {s₁ : Shared} {h' : Heap} {tk : Nat} {m' : Str → Option Value} {news' : List (Addr × Obj)} (nx : List (Addr × Obj))
    (F : Fr h₀ L h' m') (N : News h₀ L h' news') (ha : nx.map (·.1) = adr) (hn : ∀ p ∈ nx, p ∈ news') (ho : ∀ p ∈ own, p ∈ news') (hJ : J m' nx) : TEnd h₀ L J own adr s₁ { s₁ with heap := h', toks := tk } :=
  ⟨h', tk, m', news', nx, rfl, F, N, hn, ho, ha, hJ⟩
local macro_rules | `(tactic| walk_at "TPost") => `(tactic| (dsimp only [TPost]))
theorem fr_B {h₀ h : Heap} {L : Addr} {m₀ m₁ : Str → Option Value} (ps : List (Str × Value)) (h1 : ∀ p ∈ ps, m₁ p.1 = some p.2) (h2 : ∀ z, (∀ p ∈ ps, z ≠ p.1) → m₁ z = m₀ z) (F : Fr h₀ L h m₁) : Fr h₀ L h (kstB m₀ ps) := by
  have e : kstB m₀ ps = m₁ := by
    funext y
    exact kstB_eq h1 fun hn => (h2 y hn).symm
  rw [e]; exact F
noncomputable def HsL (m : Str → Option Value) : List (Str × Value) → Prop
  | [] => True
  | p :: r => m p.1 = some p.2 ∧ HsL m r
noncomputable def OffL (z : Str) : List (Str × Value) → Prop
  | [] => True
  | p :: r => z ≠ p.1 ∧ OffL z r
theorem HsL.all {m : Str → Option Value} : ∀ {ps : List (Str × Value)}, HsL m ps → ∀ p ∈ ps, m p.1 = some p.2
  | [], _, _, h => nomatch h
  | _ :: r, x, p, h => by
    rcases List.mem_cons.mp h with rfl | h
    · exact x.1
    · exact HsL.all (ps := r) x.2 p h
theorem OffL.of {z : Str} : ∀ {ps : List (Str × Value)}, (∀ p ∈ ps, z ≠ p.1) → OffL z ps
  | [], _ => True.intro
  | p :: r, h => ⟨h p (.head _), OffL.of (ps := r) fun x hx => h x (.tail _ hx)⟩
theorem fr_Bl {h₀ h : Heap} {L : Addr} {m₀ m₁ : Str → Option Value} (ps : List (Str × Value)) (h1 : HsL m₁ ps) (h2 : ∀ z, OffL z ps → m₁ z = m₀ z) (F : Fr h₀ L h m₁) : Fr h₀ L h (kstB m₀ ps) :=
  fr_B ps h1.all (fun z hz => h2 z (OffL.of hz)) F
theorem fr_gen {h₀ h : Heap} {L : Addr} {m₁ : Str → Option Value} {C : Prop} (ps : List (Str × Value)) (h1 : HsL m₁ ps) (F : Fr h₀ L h m₁) (k : ∀ M, Fr h₀ L h (kstB M ps) → C) : C := k m₁ (fr_Bl ps h1 (fun _ _ => rfl) F)
theorem fr_keep {h₀ h : Heap} {L : Addr} {m : Str → Option Value} {C : Prop} (F : Fr h₀ L h m) (ps : List (Str × Value)) (h1 : HsL m ps) (k : ∀ M, HsL M ps → (∀ z, M z = m z) → Fr h₀ L h (kstB M ps) → C) : C := k m h1 (fun _ => rfl) (fr_Bl ps h1 (fun _ _ => rfl) F)
noncomputable def HsK (m : Str → Option Value) (C : Prop) : List (Str × Value) → Prop
  | [] => C
  | (x, v) :: r => m x = some v → HsK m C r
theorem HsK.use {m : Str → Option Value} {C : Prop} : ∀ {ps : List (Str × Value)}, HsL m ps → HsK m C ps → C
  | [], _, k => k
  | (_, _) :: r, h, k => HsK.use (ps := r) h.2 (k h.1)
theorem fr_facts {h₀ h : Heap} {L : Addr} {m : Str → Option Value} {C : Prop} (F : Fr h₀ L h m) (ps : List (Str × Value)) (h1 : HsL m ps) (k : ∀ M, (∀ z, M z = m z) → Fr h₀ L h M → HsK M C ps) : C := HsK.use h1 (k m (fun _ => rfl) F)
theorem news_eq {h₀ h : Heap} {L : Addr} {nx nx' own : List (Addr × Obj)} (e : nx = nx') (N : News h₀ L h (nx ++ own)) : News h₀ L h (nx' ++ own) := e ▸ N
theorem news_is {h₀ h : Heap} {L : Addr} {nx nx' : List (Addr × Obj)} (e : nx = nx') (N : News h₀ L h nx) : News h₀ L h nx' := e ▸ N
theorem kstB_same {m₁ : Str → Option Value} {ps : List (Str × Value)} (h1 : HsL m₁ ps) (z : Str) : kstB m₁ ps z = m₁ z := kstB_eq h1.all fun _ => rfl
theorem off_ite {α : Type} {c : Prop} [Decidable c] {a e m : α} (h : ¬ c) (r : e = m) : (if c then a else e) = m := (if_neg h).trans r
theorem kst_off {M : Str → Option Value} {ps : List (Str × Value)} {x z : Str} {v : Value} {e : Option Value} (h : ¬ z = x) (r : kstB M ps z = e) : kstB M ((x, v) :: ps) z = e := (if_neg h).trans r
theorem kst_nil {M : Str → Option Value} {z : Str} {e : Option Value} (r : M z = e) : kstB M [] z = e := r
theorem rs_09_1 {M : Model} {A : Around} {Q : Value → Shared → Prop} {E : Value → Shared → Prop} {s : Shared} (h : wpAny M A (call .none [.none]) Q E s) : wpAny M A (call .none [.none]) Q E s := by first | (walk1; fail "") | exact h
section
variable {prog : Program} {w : World} {A : Around} {E : Value → Shared → Prop} {s : Shared} {env : Env} {h₀ : Heap} {x : Str} {body : List Stmt} {Q : Flow → Shared → Prop} {m₀ : Str → Option Value} {news : List (Addr × Obj)}
theorem iter_bytes_T {b : Array UInt8} {tb : Tok} {ks : List Int} (R : List Int → (Str → Option Value) → List (Addr × Obj) → Prop)
    (hk : KBw.bInts b = ks) (hh : A.handled = none) (F : Fr h₀ env.locals s.heap m₀) (N : News h₀ env.locals s.heap news) (hR : R [] m₀ news)
    (turn : ∀ k t pre post m₁ nx h tk own, ks = pre ++ k :: post → 0 ≤ k → k < 256 → OwnOff own (news.map (·.1)) → R pre m₁ nx → Fr h₀ env.locals h (fun y => if y = x then some (.int k t) else m₁ y) → News h₀ env.locals h (nx ++ own) →
      wpAny (model prog w) A (execs body env) (TPost h₀ env.locals (R (pre ++ [k])) own (news.map (·.1)) { s with heap := h, toks := tk } Q) E { s with heap := h, toks := tk })
    (done : ∀ m₁ nx h tk, R ks m₁ nx → Fr h₀ env.locals h m₁ → News h₀ env.locals h nx → Q .next { s with heap := h, toks := tk }) :
    wpAny (model prog w) A (pyIter (.bytes b tb)) (fun it s₂ => LoopAtV prog w A h₀ env x body Q E it s₂) E s := by
  subst hk
  refine KBw.pyIter_bytes ?_
  have W := KBw.walks (prog := prog) (w := w) hh s.heap.objs.size b tb
  have hI : ∀ p ∈ news, p.1 ∉ [s.heap.objs.size] := fun p hp hm => absurd (Heap.lt_size (N p hp).1) ((List.mem_singleton.mp hm) ▸ Nat.lt_irrefl _)
  refine loop_invN (fun i m nx => R ((KBw.bInts b).take i) m nx) W ?_ ?_ ?_ ?_ ⟨_, Heap.get?_push_size _ rfl, rfl, rfl⟩ (F.push _) (fun p hp => ⟨Heap.get?_push_of_some _ (N p hp).1, (N p hp).2⟩) (by simpa using hR) ?_ ?_
  · exact fun hm => absurd F.ns.lt ((List.mem_singleton.mp hm) ▸ Nat.lt_irrefl _)
  · intro b' hb
    rw [List.mem_singleton.mp hb]
    exact next_is_new F
  · exact hI
  · exact hI
  · rintro i v m₁ nx h tk own hi ⟨n, u, hn, rfl⟩ _ hoff hR' F₁ N₁
    have hn' := KBw.ints_get hn
    have hb := KBw.ints_in (List.mem_of_getElem? hn')
    have hs : (KBw.bInts b).take (i + 1) = (KBw.bInts b).take i ++ [(n.toNat : Int)] := by simp [List.take_add_one, hn']
    have e : KBw.bInts b = (KBw.bInts b).take i ++ (n.toNat : Int) :: (KBw.bInts b).drop (i + 1) := by
      have ht := List.take_append_drop (i + 1) (KBw.bInts b)
      rw [hs, List.append_assoc] at ht
      exact ht.symm
    rw [hs]
    exact wpAny_mono (turn (n.toNat : Int) u _ _ m₁ nx h tk own e hb.1 hb.2 hoff hR' F₁ N₁) (fun f s₂ q => TPost.inv q) fun _ _ x => x
  · rintro m₁ nx h tk hR' F₁ N₁
    have h8 : b.size = (KBw.bInts b).length := (KBw.ints_length b).symm
    rw [h8, List.take_length] at hR'
    exact done m₁ nx h tk hR' F₁ N₁
end
noncomputable def WEnd (h₀ : Heap) (L : Addr) (s : Shared) (J : Nat → (Str → Option Value) → List (Addr × Obj) → Prop) (n : Nat) (s₂ : Shared) : Prop :=
  ∃ h' tk m' news' k, s₂ = { s with heap := h', toks := tk } ∧ Fr h₀ L h' m' ∧ News h₀ L h' news' ∧ k < n ∧ J k m' news'
noncomputable def WPost (h₀ : Heap) (L : Addr) (s : Shared) (J : Nat → (Str → Option Value) → List (Addr × Obj) → Prop) (Q : Flow → Shared → Prop) (n : Nat) (f : Flow) (s₂ : Shared) : Prop :=
  match f with
  | .ret v => Q (.ret v) s₂
  | .brk => Q .next s₂
  | _ => WEnd h₀ L s J n s₂
theorem wend {h₀ h' : Heap} {L : Addr} {s : Shared} {J : Nat → (Str → Option Value) → List (Addr × Obj) → Prop} {n tk : Nat} {m' : Str → Option Value} {news' : List (Addr × Obj)} (k : Nat) (F : Fr h₀ L h' m') (N : News h₀ L h' news') (hk : k < n) (hJ : J k m' news') :
    WEnd h₀ L s J n { s with heap := h', toks := tk } := ⟨h', tk, m', news', k, rfl, F, N, hk, hJ⟩
local macro_rules | `(tactic| walk_at "WPost") => `(tactic| (dsimp only [WPost]))
theorem while_T {prog : Program} {w : World} {A : Around} {E : Value → Shared → Prop} {s : Shared} {env : Env} {h₀ : Heap} {L : Addr} {Q : Flow → Shared → Prop} {test : Expr} {body : List Stmt} {pos : Pos} {m : Str → Option Value} {news : List (Addr × Obj)} (J : Nat → (Str → Option Value) → List (Addr × Obj) → Prop) (n₀ : Nat)
    (F : Fr h₀ L s.heap m) (N : News h₀ L s.heap news) (hJ : J n₀ m news)
    (turn : ∀ n m₁ news₁ h₁ tk₁, Fr h₀ L h₁ m₁ → News h₀ L h₁ news₁ → J n m₁ news₁ →
      wpAny (model prog w) A (isTrue test env (eval test env)) (fun b s₂ =>
        if b = true then wpAny (model prog w) A (execs body env) (WPost h₀ L s J Q n) E s₂ else Q .next s₂) E { s with heap := h₁, toks := tk₁ })
    (hE : PassesOwn (model prog w) A env E) :
    wpAny (model prog w) A (exec (.While test body [] pos) env) Q E s := by
  refine While_inv2 J F N hJ (fun n m₁ news₁ h₁ tk₁ F₁ N₁ J₁ => wpAny_mono (turn n m₁ news₁ h₁ tk₁ F₁ N₁ J₁) (fun b s₂ p => ?_) fun _ _ x => x) hE
  cases b with
  | false => simpa using p
  | true =>
    simp only [if_true] at p ⊢
    exact wpAny_mono p (fun f s₃ q => by cases f <;> exact q) fun _ _ x => x
noncomputable def CutN (h₀ : Heap) (L : Addr) (s : Shared) (J : (Str → Option Value) → List (Addr × Obj) → Prop) (f : Flow) (s₂ : Shared) : Prop :=
  f = .next ∧ ∃ h tk m' news', s₂ = { s with heap := h, toks := tk } ∧ Fr h₀ L h m' ∧ News h₀ L h news' ∧ J m' news'
theorem cutN {h₀ h : Heap} {L : Addr} {s : Shared} {J : (Str → Option Value) → List (Addr × Obj) → Prop} {tk : Nat} {m' : Str → Option Value} {news' : List (Addr × Obj)} (F : Fr h₀ L h m') (N : News h₀ L h news') (hJ : J m' news') : CutN h₀ L s J .next { s with heap := h, toks := tk } :=
  ⟨rfl, h, tk, m', news', rfl, F, N, hJ⟩
theorem cut_T {prog : Program} {w : World} {A : Around} {E : Value → Shared → Prop} {s : Shared} {env : Env} {h₀ : Heap} {L : Addr} {Q : Flow → Shared → Prop} {st : Stmt} {m₀ : Str → Option Value} (J : (Str → Option Value) → (Str → Option Value) → List (Addr × Obj) → Prop) (_F : Fr h₀ L s.heap m₀)
    (h : wpAny (model prog w) A (exec st env) (CutN h₀ L s (J m₀)) E s) (k : ∀ h tk m' news', Fr h₀ L h m' → News h₀ L h news' → J m₀ m' news' → Q .next { s with heap := h, toks := tk }) : wpAny (model prog w) A (exec st env) Q E s :=
  wpAny_mono h (fun f s₂ ⟨hf, h', tk, m', news', e, F, N, hJ⟩ => by subst hf e; exact k h' tk m' news' F N hJ) fun _ _ x => x
noncomputable def VCut (h₀ : Heap) (L : Addr) (m : Str → Option Value) (news : List (Addr × Obj)) (s : Shared) (P : Value → Prop) (v : Value) (s₂ : Shared) : Prop :=
  ∃ h tk, s₂ = { s with heap := h, toks := tk } ∧ Fr h₀ L h m ∧ News h₀ L h news ∧ P v
theorem vcut {h₀ h : Heap} {L : Addr} {m : Str → Option Value} {news : List (Addr × Obj)} {s : Shared} {P : Value → Prop} {v : Value} {tk : Nat} (F : Fr h₀ L h m) (N : News h₀ L h news) (hP : P v) : VCut h₀ L m news s P v { s with heap := h, toks := tk } := ⟨h, tk, rfl, F, N, hP⟩
theorem val_T {prog : Program} {w : World} {A : Around} {E : Value → Shared → Prop} {s : Shared} {env : Env} {h₀ : Heap} {L : Addr} {m : Str → Option Value} {news : List (Addr × Obj)} {Q : Value → Shared → Prop} {e : Expr} (P : Value → Prop) (_F : Fr h₀ L s.heap m) (_N : News h₀ L s.heap news)
    (h : wpAny (model prog w) A (eval e env) (VCut h₀ L m news s P) E s) (k : ∀ v h tk, Fr h₀ L h m → News h₀ L h news → P v → Q v { s with heap := h, toks := tk }) : wpAny (model prog w) A (eval e env) Q E s :=
  wpAny_mono h (fun v s₂ ⟨h', tk, e, F, N, hP⟩ => by subst e; exact k v h' tk F N hP) fun _ _ x => x
theorem rs_09_2 {M : Model} {A : Around} {Q : Value → Shared → Prop} {E : Value → Shared → Prop} {s : Shared} (h : wpAny M A (call .none [.none]) Q E s) : wpAny M A (call .none [.none]) Q E s := by first | (walk1; fail "") | exact h
section
variable {prog : Program} {w : World} {A : Around} {E : Value → Shared → Prop} {s : Shared} {env : Env} {h₀ : Heap} {x : Str} {body : List Stmt} {Q : Flow → Shared → Prop} {m₀ : Str → Option Value} {news : List (Addr × Obj)}
theorem iter_range_T {r : Addr} {a b : Int} {t u v : Tok} (n : Nat) (R : Nat → (Str → Option Value) → List (Addr × Obj) → Prop) (hr : IsRange s.heap r a b 1 t u v) (hsm : Builtin.Range.small a b 1 = true) (hn : Builtin.Range.rangeSize a b 1 = ((n : Nat) : Int))
    (hh : A.handled = none) (F : Fr h₀ env.locals s.heap m₀) (N : News h₀ env.locals s.heap news) (hR : R 0 m₀ news)
    (turn : ∀ i t m₁ nx h tk own, i < n → OwnOff own (news.map (·.1)) → R i m₁ nx → Fr h₀ env.locals h (fun y => if y = x then some (.int (a + (i : Int)) t) else m₁ y) → News h₀ env.locals h (nx ++ own) →
      wpAny (model prog w) A (execs body env) (TPost h₀ env.locals (R (i + 1)) own (news.map (·.1)) { s with heap := h, toks := tk } Q) E { s with heap := h, toks := tk })
    (done : ∀ m₁ nx h tk, R n m₁ nx → Fr h₀ env.locals h m₁ → News h₀ env.locals h nx → Q .next { s with heap := h, toks := tk }) :
    wpAny (model prog w) A (pyIter (.ref r)) (fun it s₂ => LoopAtV prog w A h₀ env x body Q E it s₂) E s := by
  refine wpAny_pyIter_range hr hsm ?_
  have W := LCg.range_walks (prog := prog) (w := w) (I := s.heap.objs.size) hh a n
  have hI : ∀ p ∈ news, p.1 ∉ [s.heap.objs.size] := fun p hp hm => absurd (Heap.lt_size (N p hp).1) ((List.mem_singleton.mp hm) ▸ Nat.lt_irrefl _)
  refine loop_invN R W ?_ ?_ hI hI ?_ (F.push _) (fun p hp => ⟨Heap.get?_push_of_some _ (N p hp).1, (N p hp).2⟩) hR ?_ ?_
  · exact fun hm => absurd F.ns.lt ((List.mem_singleton.mp hm) ▸ Nat.lt_irrefl _)
  · intro b' hb
    rw [List.mem_singleton.mp hb]
    exact next_is_new F
  · show IsRangeIter _ _ _ _ _
    rw [hn]
    simpa using Heap.get?_push_size _ rfl
  · rintro i v m₁ nx h tk own hi ⟨t', rfl⟩ _ hoff hR' F₁ N₁
    exact wpAny_mono (turn i t' m₁ nx h tk own hi hoff hR' F₁ N₁) (fun f s₂ q => TPost.inv q) fun _ _ x => x
  · rintro m₁ nx h tk hR' F₁ N₁
    exact done m₁ nx h tk hR' F₁ N₁
theorem iter_range0_T {r : Addr} {b : Int} {t u v : Tok} (n : Nat) (R : Nat → (Str → Option Value) → List (Addr × Obj) → Prop) (hr : IsRange s.heap r 0 b 1 t u v) (hsm : Builtin.Range.small 0 b 1 = true) (hn : Builtin.Range.rangeSize 0 b 1 = ((n : Nat) : Int))
    (hh : A.handled = none) (F : Fr h₀ env.locals s.heap m₀) (N : News h₀ env.locals s.heap news) (hR : R 0 m₀ news)
    (turn : ∀ i t m₁ nx h tk own, i < n → OwnOff own (news.map (·.1)) → R i m₁ nx → Fr h₀ env.locals h (fun y => if y = x then some (.int (i : Int) t) else m₁ y) → News h₀ env.locals h (nx ++ own) →
      wpAny (model prog w) A (execs body env) (TPost h₀ env.locals (R (i + 1)) own (news.map (·.1)) { s with heap := h, toks := tk } Q) E { s with heap := h, toks := tk })
    (done : ∀ m₁ nx h tk, R n m₁ nx → Fr h₀ env.locals h m₁ → News h₀ env.locals h nx → Q .next { s with heap := h, toks := tk }) :
    wpAny (model prog w) A (pyIter (.ref r)) (fun it s₂ => LoopAtV prog w A h₀ env x body Q E it s₂) E s :=
  iter_range_T n R hr hsm hn hh F N hR (fun i t m₁ nx h tk own hi ho hJ F₁ N₁ => turn i t m₁ nx h tk own hi ho hJ (Int.zero_add (i : Int) ▸ F₁) N₁) done
end
noncomputable def At (h₀ : Heap) (L : Addr) (h : Heap) (ps : List (Str × Value)) (news : List (Addr × Obj)) : Prop := ∃ m₀, Fr h₀ L h (kstB m₀ ps) ∧ News h₀ L h news
theorem At.use {h₀ h : Heap} {L : Addr} {ps : List (Str × Value)} {news : List (Addr × Obj)} {C : Prop} (S : At h₀ L h ps news) (k : ∀ m₀, let mq := kstB m₀ ps; Fr h₀ L h mq → News h₀ L h news → C) : C := by
  obtain ⟨m₀, F, N⟩ := S
  exact k m₀ F N
noncomputable def Hs (m : Str → Option Value) : List (Str × Value) → Prop
  | [] => True
  | p :: ps => m p.1 = some p.2 ∧ Hs m ps
theorem Hs.all {m : Str → Option Value} : ∀ {ps : List (Str × Value)}, Hs m ps → ∀ p ∈ ps, m p.1 = some p.2
  | [], _, _, h => nomatch h
  | _ :: _, x, p, h => by
    rcases List.mem_cons.mp h with rfl | h
    · exact x.1
    · exact Hs.all x.2 p h
theorem At.mk {h₀ h : Heap} {L : Addr} {m : Str → Option Value} {ps : List (Str × Value)} {news nx : List (Addr × Obj)} (F : Fr h₀ L h m) (N : News h₀ L h news) (hp : Hs m ps) (hn : ∀ p ∈ nx, p ∈ news) : At h₀ L h ps nx :=
  ⟨m, fr_B ps hp.all (fun _ _ => rfl) F, fun p hp => N p (hn p hp)⟩
theorem At.sub {h₀ h : Heap} {L : Addr} {ps qs : List (Str × Value)} {news nx : List (Addr × Obj)} (S : At h₀ L h ps news) (hp : ∀ m₀, Hs (kstB m₀ ps) qs) (hn : ∀ p ∈ nx, p ∈ news) : At h₀ L h qs nx := by
  refine At.use S ?_
  clear S
  intro m₀ mq F N
  exact At.mk F N (hp m₀) hn
theorem news_sub {h₀ h : Heap} {L : Addr} {news nx : List (Addr × Obj)} (N : News h₀ L h news) (hn : ∀ p ∈ nx, p ∈ news) : News h₀ L h nx := fun p hp => N p (hn p hp)

theorem rs_02_1 {M : Model} {A : Around} {Q : Value → Shared → Prop} {E : Value → Shared → Prop} {s : Shared} (h : wpAny M A (call .none [.none]) Q E s) : wpAny M A (call .none [.none]) Q E s := by first | (walk1; fail "") | exact h
section
variable {w : World} {loose : List Str} {mean : ExcName → Option Value} {mg mb : Str → Option Value}
noncomputable def scost (a b : Str) : Int := if a = b then 0 else if Txt.lower a = Txt.lower b then 1 else 2
theorem subst_spec {a b : Str} {ta tb : Tok} :
    CV w loose mean mg mb 28 1 (fun _ => a.length ≤ 64 ∧ b.length ≤ 64) [.str a ta, .str b tb] (fun t => .int (scost a b) t) := by
  intro dp un gd fr base s Q E hB hX hT hpre hd hu hret
  ((refine wpAny_call ?_; (k_dflt (refine' enterP ?k3 ?k5 ?k6 ?k7 ?k8 ?k9 ?kB ?_ ?c5 ?c2 ?c3 ?c4; (case k3 => k_asm); (case k5 => k_asm); (case k6 => k_is); (case k7 => k_is); (case k8 => ktr_room); (case k9 => first | exact BindsTo.of_eq rfl | exact binds_K (by k_in) rfl (by k_is) rfl rfl rfl | (refine' kp_binds ?kx ?ke; (case kx => k_in); (case ke => exact fun _ => rfl))); (case c5 => decide); (case kB => exact locs rfl); (case c2 => exact rfl); (case c3 => exact rfl); (case c4 => exact rfl); k_whole)); intro L' h' tk' F' N'; (try dsimp only); (try k_fold)))
  k_steps
  all_goals (refine endI hret ?_ (Fr.keep (by assumption)); unfold scost)
  · rename (a == b) = true => h
    rw [if_pos (eq_of_beq h)]
  · rename (a == b) = false => h
    rename (_ == _) = true => h'
    rw [if_neg (ne_of_beq_false h), if_pos (eq_of_beq h')]
  · rename (a == b) = false => h
    rename (Txt.lower _ == _) = false => h'
    rw [if_neg (ne_of_beq_false h), if_neg (ne_of_beq_false h')]
noncomputable def lcost (x y : Int) : Int := if x = y then 0 else if x < 52 ∧ y < 52 ∧ (x - y = 26 ∨ y - x = 26) then 1 else 2
theorem abs_26 {x y : Int} : (if x - y < 0 then -(x - y) else x - y) = 26 ↔ (x - y = 26 ∨ y - x = 26) := by
  by_cases h : x - y < 0
  · rw [if_pos h, Int.neg_sub]
    exact ⟨Or.inr, fun e => e.elim (fun e => absurd (e ▸ h) (by decide)) id⟩
  · rw [if_neg h]
    exact ⟨Or.inl, fun e => e.elim id fun e => absurd (show x - y < 0 by rw [← Int.neg_sub, e]; decide) h⟩
theorem cost_spec {x y : Int} {tx ty : Tok} :
    CV w loose mean mg mb 142 1 (fun _ => True) [.int x tx, .int y ty] (fun t => .int (lcost x y) t) := by
  intro dp un gd fr base s Q E hB hX hT hpre hd hu hret
  ((refine wpAny_call ?_; (k_dflt (refine' enterP ?k3 ?k5 ?k6 ?k7 ?k8 ?k9 ?kB ?_ ?c5 ?c2 ?c3 ?c4; (case k3 => k_asm); (case k5 => k_asm); (case k6 => k_is); (case k7 => k_is); (case k8 => ktr_room); (case k9 => first | exact BindsTo.of_eq rfl | exact binds_K (by k_in) rfl (by k_is) rfl rfl rfl | (refine' kp_binds ?kx ?ke; (case kx => k_in); (case ke => exact fun _ => rfl))); (case c5 => decide); (case kB => exact locs rfl); (case c2 => exact rfl); (case c3 => exact rfl); (case c4 => exact rfl); k_whole)); intro L' h' tk' F' N'; (try dsimp only); (try k_fold)))
  k_steps
  all_goals (refine endI hret ?_ (Fr.keep (by assumption)); unfold lcost)
  · rw [if_pos (by assumption)]
  · rw [if_neg (by assumption), if_pos ⟨by assumption, by assumption, abs_26.mp (by assumption)⟩]
  · rw [if_neg (by assumption), if_neg fun h => absurd (abs_26.mpr h.2.2) (by assumption)]
  · rw [if_neg (by assumption), if_neg fun h => absurd h.2.1 (by assumption)]
  · rw [if_neg (by assumption), if_neg fun h => absurd h.1 (by assumption)]
noncomputable def bval (c : Int) : Int := if 65 ≤ c ∧ c ≤ 90 then c - 65 else if 97 ≤ c ∧ c ≤ 122 then c - 71 else if 48 ≤ c ∧ c ≤ 57 then c + 4 else if c = 43 then 62 else if c = 47 then 63 else 64
theorem bval_chain {x lo hi : Int} {tx : Tok} {A : Around} {Q : Bool → Shared → Prop} {E : Value → Shared → Prop} {s : Shared} {h₀ : Heap} {L f : Addr} {cd : Value} {k0 k2 : Nat} {p0 p1 p2 p3 : Pos} {m : Str → Option Value} (F : Fr h₀ L s.heap m) (hm : m (Str.ofString "c") = some (.int x tx))
    (h1 : lo ≤ x → x ≤ hi → ∀ tk, Q true { s with toks := tk }) (h0 : ¬ (lo ≤ x ∧ x ≤ hi) → ∀ tk, Q false { s with toks := tk }) :
    wpAny (model PySem.Challenge.rw_op0087_01.row.prog w) (A.deeper (envOf (Str.ofString "_b64_value") (stmtScope (topSt 16)) L f cd)) (isTrue (.Compare (.Constant (.int lo) k0 p0) [.LtE, .LtE] [.Name (Str.ofString "c") p1, .Constant (.int hi) k2 p2] p3) (envOf (Str.ofString "_b64_value") (stmtScope (topSt 16)) L f cd) (eval (.Compare (.Constant (.int lo) k0 p0) [.LtE, .LtE] [.Name (Str.ofString "c") p1, .Constant (.int hi) k2 p2] p3) (envOf (Str.ofString "_b64_value") (stmtScope (topSt 16)) L f cd))) Q E s := by
  have F₂ := fr_Bl [(Str.ofString "c", .int x tx)] ⟨hm, trivial⟩ (fun _ _ => rfl) F
  clear F
  k_steps
  · by_cases hh : x ≤ hi
    · rw [decide_eq_true hh]
      exact h1 (by assumption) hh _
    · rw [decide_eq_false hh]
      exact h0 (fun h => hh h.2) _
  · exact h0 (fun h => absurd h.1 (by assumption)) _
theorem bval_spec {x : Int} {tx : Tok} :
    CV w loose mean mg mb 84 1 (fun _ => True) [.int x tx] (fun t => .int (bval x) t) := by
  intro dp un gd fr base s Q E hB hX hT hpre hd hu hret
  ((refine wpAny_call ?_; (k_dflt (refine' enterP ?k3 ?k5 ?k6 ?k7 ?k8 ?k9 ?kB ?_ ?c5 ?c2 ?c3 ?c4; (case k3 => k_asm); (case k5 => k_asm); (case k6 => k_is); (case k7 => k_is); (case k8 => ktr_room); (case k9 => first | exact BindsTo.of_eq rfl | exact binds_K (by k_in) rfl (by k_is) rfl rfl rfl | (refine' kp_binds ?kx ?ke; (case kx => k_in); (case ke => exact fun _ => rfl))); (case c5 => decide); (case kB => exact locs rfl); (case c2 => exact rfl); (case c3 => exact rfl); (case c4 => exact rfl); k_whole)); intro L' h' tk' F' N'; (try dsimp only); (try k_fold)))
  have mk1 := mark 36
  k_steps
  delta Stop
  rename Fr _ _ _ _ => F
  refine bval_chain F rfl (fun a1 a2 tk => ?_) fun a tk => ?_
  · k_steps
    refine endI hret ?_ (Fr.keep (by assumption))
    unfold bval
    rw [if_pos ⟨a1, a2⟩]
  k_steps
  delta Stop
  rename Fr _ _ _ _ => F
  refine bval_chain F rfl (fun b1 b2 tk => ?_) fun b tk => ?_
  · k_steps
    refine endI hret ?_ (Fr.keep (by assumption))
    unfold bval
    rw [if_neg a, if_pos ⟨b1, b2⟩]
  k_steps
  delta Stop
  rename Fr _ _ _ _ => F
  refine bval_chain F rfl (fun c1 c2 tk => ?_) fun c tk => ?_
  · k_steps
    refine endI hret ?_ (Fr.keep (by assumption))
    unfold bval
    rw [if_neg a, if_neg b, if_pos ⟨c1, c2⟩]
  clear mk1
  k_steps
  all_goals
    refine endI hret ?_ (Fr.keep (by assumption))
    unfold bval
    rw [if_neg a, if_neg b, if_neg c]
  · rw [if_pos (by assumption)]
  · rw [if_neg (by assumption), if_pos (by assumption)]
  · rw [if_neg (by assumption), if_neg (by assumption)]
theorem truth_spec {x : Bool} :
    CV w loose mean mg mb 77 1 (fun _ => True) [.bool x] (fun t => .bool x) := by
  intro dp un gd fr base s Q E hB hX hT hpre hd hu hret
  ((refine wpAny_call ?_; (k_dflt (refine' enterP ?k3 ?k5 ?k6 ?k7 ?k8 ?k9 ?kB ?_ ?c5 ?c2 ?c3 ?c4; (case k3 => k_asm); (case k5 => k_asm); (case k6 => k_is); (case k7 => k_is); (case k8 => ktr_room); (case k9 => first | exact BindsTo.of_eq rfl | exact binds_K (by k_in) rfl (by k_is) rfl rfl rfl | (refine' kp_binds ?kx ?ke; (case kx => k_in); (case ke => exact fun _ => rfl))); (case c5 => decide); (case kB => exact locs rfl); (case c2 => exact rfl); (case c3 => exact rfl); (case c4 => exact rfl); k_whole)); intro L' h' tk' F' N'; (try dsimp only); (try k_fold)))
  k_steps
  all_goals (refine endB hret ?_ (Fr.keep (by assumption)); rename x = _ => h; exact h.symm)
end

theorem type_bytes {prog : Program} {w : World} {A : Around} {E : Value → Shared → Prop} {s : Shared} {b : Array UInt8} {t : Tok} {Q : Value → Shared → Prop} (hq : Q (.type "bytes") s) :
    wpAny (model prog w) A (call (.type "type") [.bytes b t]) Q E s := call_type_of (PySem.W.typeIs_bytes _ _ _) (by decide +kernel) hq
theorem gm_encode {M : Model} {A : Around} {E : Value → Shared → Prop} {s : Shared} {x : Str} {t : Tok} {pl : Sem Bool} {Q : Value × List Value → Shared → Prop} (h : Q (.builtin "str.encode", [.str x t]) s) : wpAny M A (getMethod (.str x t) (Str.ofString "encode") pl) Q E s :=
  GM.of (.str x t) (typeIs_str _ _ _) F.slot_str_encode F.type_str_encode GM.noRef h
theorem rs_03_1 {M : Model} {A : Around} {Q : Value → Shared → Prop} {E : Value → Shared → Prop} {s : Shared} (h : wpAny M A (call .none [.none]) Q E s) : wpAny M A (call .none [.none]) Q E s := by first | (walk1; fail "") | exact h
section
variable {w : World} {loose : List Str} {mean : ExcName → Option Value} {mg mb : Str → Option Value}
theorem asciibuf_spec {b : Array UInt8} {t : Tok} :
    CV w loose mean mg mb 63 1 (fun _ => True) [.bytes b t] (fun _ => .bytes b t) := by
  intro dp un gd fr base s Q E hB hX hT hpre hd hu hret
  ((refine wpAny_call ?_; (k_dflt (refine' enterP ?k3 ?k5 ?k6 ?k7 ?k8 ?k9 ?kB ?_ ?c5 ?c2 ?c3 ?c4; (case k3 => k_asm); (case k5 => k_asm); (case k6 => k_is); (case k7 => k_is); (case k8 => ktr_room); (case k9 => first | exact BindsTo.of_eq rfl | exact binds_K (by k_in) rfl (by k_is) rfl rfl rfl | (refine' kp_binds ?kx ?ke; (case kx => k_in); (case ke => exact fun _ => rfl))); (case c5 => decide); (case kB => exact locs rfl); (case c2 => exact rfl); (case c3 => exact rfl); (case c4 => exact rfl); k_whole)); intro L' h' tk' F' N'; (try dsimp only); (try k_fold)))
  have mk1 := mark 26
  k_steps
  delta Stop
  refine type_bytes ?_
  k_steps
  all_goals exact hret 0 _ _ (Fr.keep (by assumption))
theorem buffer_spec {b : Array UInt8} {t : Tok} :
    CV w loose mean mg mb 70 1 (fun _ => True) [.bytes b t] (fun _ => .bytes b t) := by
  intro dp un gd fr base s Q E hB hX hT hpre hd hu hret
  ((refine wpAny_call ?_; (k_dflt (refine' enterP ?k3 ?k5 ?k6 ?k7 ?k8 ?k9 ?kB ?_ ?c5 ?c2 ?c3 ?c4; (case k3 => k_asm); (case k5 => k_asm); (case k6 => k_is); (case k7 => k_is); (case k8 => ktr_room); (case k9 => first | exact BindsTo.of_eq rfl | exact binds_K (by k_in) rfl (by k_is) rfl rfl rfl | (refine' kp_binds ?kx ?ke; (case kx => k_in); (case ke => exact fun _ => rfl))); (case c5 => decide); (case kB => exact locs rfl); (case c2 => exact rfl); (case c3 => exact rfl); (case c4 => exact rfl); k_whole)); intro L' h' tk' F' N'; (try dsimp only); (try k_fold)))
  have mk1 := mark 26
  k_steps
  delta Stop
  refine type_bytes ?_
  k_steps
  all_goals exact hret 0 _ _ (Fr.keep (by assumption))
theorem decodeData_spec {x : Str} {t : Tok} :
    CV w loose mean mg mb 43 1 (fun _ => (∀ c ∈ x.cps.toList, c < 128) ∧ x.length ≤ 64) [.str x t] (fun t => .bytes (x.cps.map (·.toUInt8)) t) := by
  intro dp un gd fr base s Q E hB hX hT hpre hd hu hret
  obtain ⟨hp1, hp2⟩ := hpre
  ((refine wpAny_call ?_; (k_dflt (refine' enterP ?k3 ?k5 ?k6 ?k7 ?k8 ?k9 ?kB ?_ ?c5 ?c2 ?c3 ?c4; (case k3 => k_asm); (case k5 => k_asm); (case k6 => k_is); (case k7 => k_is); (case k8 => ktr_room); (case k9 => first | exact BindsTo.of_eq rfl | exact binds_K (by k_in) rfl (by k_is) rfl rfl rfl | (refine' kp_binds ?kx ?ke; (case kx => k_in); (case ke => exact fun _ => rfl))); (case c5 => decide); (case kB => exact locs rfl); (case c2 => exact rfl); (case c3 => exact rfl); (case c4 => exact rfl); k_whole)); intro L' h' tk' F' N'; (try dsimp only); (try k_fold)))
  have mk1 := mark 27
  have mk2 := mark 28
  k_steps
  delta Stop
  refine gm_encode ?_
  k_steps
  delta Stop
  refine encode_call hp1 (by lia) ?_
  k_steps
  all_goals exact hret _ _ _ (Fr.keep (by assumption))
end

theorem dv {x y c : Int} (h0 : 0 ≤ y) (h1 : y < c) : (x * c + y) / c = x ∧ (x * c + y) % c = y := by
  have hc : c ≠ 0 := fun h => absurd h1 (by rw [h]; exact Int.not_lt.mpr h0)
  rw [Int.add_comm, Int.add_mul_ediv_right _ _ hc, Int.add_mul_emod_self_right, Int.ediv_eq_zero_of_lt h0 h1, Int.emod_eq_of_lt h0 h1]
  exact ⟨Int.zero_add _, rfl⟩
theorem pack {a b m k : Int} (a0 : 0 ≤ a) (a1 : a < m) (b0 : 0 ≤ b) (b1 : b < k) : 0 ≤ a * k + b ∧ a * k + b < m * k := by
  have k0 : 0 ≤ k := Int.le_of_lt (Int.lt_of_le_of_lt b0 b1)
  refine ⟨Int.add_nonneg (Int.mul_nonneg a0 k0) b0, Int.lt_of_lt_of_le (Int.add_lt_add_left b1 _) ?_⟩
  have := Int.mul_le_mul_of_nonneg_right (Int.add_one_le_of_lt a1) k0
  rwa [Int.add_mul, Int.one_mul] at this
noncomputable def octN (w0 w1 w2 w3 : Int) : Int := ((w0 * 64 + w1) * 64 + w2) * 64 + w3
noncomputable def octL (w0 w1 w2 w3 : Int) : List Int := [(octN w0 w1 w2 w3).fdiv 65536, ((octN w0 w1 w2 w3).fdiv 256).fmod 256, (octN w0 w1 w2 w3).fmod 256]
theorem halves {w m k : Int} (hk : 0 < k) (h0 : 0 ≤ w) (h1 : w < m * k) : ∃ a b, w = a * k + b ∧ w / k = a ∧ w % k = b ∧ 0 ≤ a ∧ a < m ∧ 0 ≤ b ∧ b < k :=
  ⟨w / k, w % k, (Int.ediv_mul_add_emod w k).symm, rfl, rfl, Int.ediv_nonneg h0 (Int.le_of_lt hk), Int.ediv_lt_of_lt_mul hk h1, Int.emod_nonneg _ (Int.ne_of_gt hk), Int.emod_lt_of_pos _ hk⟩
theorem oct_dig {w0 w1 w2 w3 : Int} (h : 0 ≤ w0 ∧ w0 < 64 ∧ 0 ≤ w1 ∧ w1 < 64 ∧ 0 ≤ w2 ∧ w2 < 64 ∧ 0 ≤ w3 ∧ w3 < 64) : octL w0 w1 w2 w3 = [w0 * 4 + w1 / 16, w1 % 16 * 16 + w2 / 4, w2 % 4 * 64 + w3] := by
  obtain ⟨-, -, h2, h3, h4, h5, h6, h7⟩ := h
  obtain ⟨a, b, e1, e2, e3, -, -, b0, b1⟩ := halves (m := 4) (k := 16) (by decide) h2 h3
  obtain ⟨c, d, e4, e5, e6, c0, c1, d0, d1⟩ := halves (m := 16) (k := 4) (by decide) h4 h5
  have y : 0 ≤ b * 16 + c ∧ b * 16 + c < 256 := pack b0 b1 c0 c1
  have z : 0 ≤ d * 64 + w3 ∧ d * 64 + w3 < 256 := pack d0 d1 h6 h7
  unfold octL
  have e : octN w0 w1 w2 w3 = ((w0 * 4 + a) * 256 + (b * 16 + c)) * 256 + (d * 64 + w3) := by
    unfold octN
    omega
  rw [e2, e3, e5, e6, e, Int.fdiv_eq_ediv_of_nonneg _ (by decide), Int.fdiv_eq_ediv_of_nonneg _ (by decide), Int.fmod_eq_emod_of_nonneg _ (by decide), Int.fmod_eq_emod_of_nonneg _ (by decide), (dv z.1 z.2).2, show (65536 : Int) = 256 * 256 from rfl, ← Int.ediv_ediv_of_nonneg (by decide), (dv z.1 z.2).1, (dv y.1 y.2).1, (dv y.1 y.2).2]

theorem octL_in {w0 w1 w2 w3 : Int} (h : 0 ≤ w0 ∧ w0 < 64 ∧ 0 ≤ w1 ∧ w1 < 64 ∧ 0 ≤ w2 ∧ w2 < 64 ∧ 0 ≤ w3 ∧ w3 < 64) : ∀ n ∈ octL w0 w1 w2 w3, 0 ≤ n ∧ n < 256 := by
  rw [oct_dig h]
  obtain ⟨h0, h1, h2, h3, h4, h5, h6, h7⟩ := h
  obtain ⟨a, b, -, e2, e3, a0, a1, b0, b1⟩ := halves (m := 4) (k := 16) (by decide) h2 h3
  obtain ⟨c, d, -, e5, e6, c0, c1, d0, d1⟩ := halves (m := 16) (k := 4) (by decide) h4 h5
  rw [e2, e3, e5, e6]
  exact fm_c (pack (m := 64) h0 h1 a0 a1) (fm_c (pack (m := 16) b0 b1 c0 c1) (fm_c (pack (m := 4) d0 d1 h6 h7) (List.forall_mem_nil _)))
noncomputable def octB (w0 w1 w2 w3 : Int) : Array UInt8 := ((octL w0 w1 w2 w3).map fun n => n.toNat.toUInt8).toArray
theorem rs_04_1 {M : Model} {A : Around} {Q : Value → Shared → Prop} {E : Value → Shared → Prop} {s : Shared} (h : wpAny M A (call .none [.none]) Q E s) : wpAny M A (call .none [.none]) Q E s := by first | (walk1; fail "") | exact h
section
variable {w : World} {loose : List Str} {mean : ExcName → Option Value} {mg mb : Str → Option Value}
theorem octets_spec {l : Addr} {w0 w1 w2 w3 : Int} {t0 t1 t2 t3 : Tok} :
    CV w loose mean mg mb 135 1 (fun h => h.IsList l [.int w0 t0, .int w1 t1, .int w2 t2, .int w3 t3].toArray ∧ 0 ≤ w0 ∧ w0 < 64 ∧ 0 ≤ w1 ∧ w1 < 64 ∧ 0 ≤ w2 ∧ w2 < 64 ∧ 0 ≤ w3 ∧ w3 < 64) [.ref l] (fun t => .bytes (octB w0 w1 w2 w3) t) := by
  intro dp un gd fr base s Q E hB hX hT hpre hd hu hret
  obtain ⟨hp1, hp2⟩ := hpre
  ((refine wpAny_call ?_; (k_dflt (refine' enterP ?k3 ?k5 ?k6 ?k7 ?k8 ?k9 ?kB ?_ ?c5 ?c2 ?c3 ?c4; (case k3 => k_asm); (case k5 => k_asm); (case k6 => k_is); (case k7 => k_is); (case k8 => ktr_room); (case k9 => first | exact BindsTo.of_eq rfl | exact binds_K (by k_in) rfl (by k_is) rfl rfl rfl | (refine' kp_binds ?kx ?ke; (case kx => k_in); (case ke => exact fun _ => rfl))); (case c5 => decide); (case kB => exact locs rfl); (case c2 => exact rfl); (case c3 => exact rfl); (case c4 => exact rfl); k_whole)); intro L' h' tk' F' N'; (try dsimp only); (try k_fold)))
  k_steps
  refine bytes_K (ns := octL w0 w1 w2 w3) (by assumption) (by assumption) (by is_list) ?i (octL_in hp2) (by simp [sizeLine]) rfl ?_
  case i => exact .cons _ _ (.cons _ _ (.cons _ _ .nil))
  intro h' t' k' F' N' hB'
  k_steps
  exact hret _ _ _ (Fr.keep (by assumption))
end

theorem rs_05_1 {M : Model} {A : Around} {Q : Value → Shared → Prop} {E : Value → Shared → Prop} {s : Shared} (h : wpAny M A (call .none [.none]) Q E s) : wpAny M A (call .none [.none]) Q E s := by first | (walk1; fail "") | exact h
section
variable {prog : Program} {w : World} {A : Around} {E : Value → Shared → Prop} {s : Shared} {a b n : Int} {t u : Tok} {Q : Value → Shared → Prop}
theorem and_shift_zero (x : Nat) {y k : Nat} (h : y < 2 ^ k) : (x * 2 ^ k) &&& y = 0 := by
  apply Nat.eq_of_testBit_eq
  intro i
  simp only [Nat.testBit_and, Nat.zero_testBit, Nat.mul_comm x, Nat.testBit_two_pow_mul]
  by_cases hi : k ≤ i
  · have : y.testBit i = false := Nat.testBit_lt_two_pow (Nat.lt_of_lt_of_le h (Nat.pow_le_pow_right (by decide) hi))
    simp [this]
  · simp [hi]
theorem bitOr_shift (k : Nat) (ha : 0 ≤ a) (hb : 0 ≤ b) (hb' : b < 2 ^ k) : Builtin.bitOr (a * 2 ^ k) b = a * 2 ^ k + b := by
  rw [bitOr_and]
  have h0 : (0 : Int) ≤ a * 2 ^ k := Int.mul_nonneg ha (Int.pow_nonneg (by decide))
  have e : Builtin.bitAnd (a * 2 ^ k) b = 0 := by
    unfold Builtin.bitAnd
    simp only [h0, hb, decide_true]
    obtain ⟨x, rfl⟩ := Int.eq_ofNat_of_zero_le ha
    obtain ⟨y, rfl⟩ := Int.eq_ofNat_of_zero_le hb
    have hy : y < 2 ^ k := by exact_mod_cast hb'
    have : ((x : Int) * 2 ^ k).toNat = x * 2 ^ k := by
      have : ((x : Int) * 2 ^ k) = ((x * 2 ^ k : Nat) : Int) := by push_cast; rfl
      rw [this]; rfl
    rw [this]
    have := and_shift_zero x hy
    show ((x * 2 ^ k &&& y : Nat) : Int) = 0
    rw [this]; rfl
  rw [e]; lia
theorem shl_k (k : Nat) (c : Int) (hc : c = 2 ^ k) (hk : k ≤ 1000) (hn : n = (k : Int)) (ha0 : 0 ≤ a) (ha : a < 4294967296) (h : Q (.int (a * c) s.toks) { s with toks := s.toks + 1 }) :
    wpAny (model prog w) A (binaryOp .LShift (.int a t) (.int n u)) Q E s := by
  subst hn hc
  refine lshift_int_small (by lia) (by lia) (by lia) ?_
  exact h
theorem shr_k (k : Nat) (c : Int) (hc : c = 2 ^ k) (hn : n = (k : Int)) (h : Q (.int (a / c) s.toks) { s with toks := s.toks + 1 }) :
    wpAny (model prog w) A (binaryOp .RShift (.int a t) (.int n u)) Q E s := by
  subst hn hc
  refine rshift_int (by lia) ?_
  rw [Int.fdiv_eq_ediv_of_nonneg _ (Int.pow_nonneg (by decide))]
  exact h
theorem or_c (k : Nat) {c : Int} (hc : c = 2 ^ k) (ha : 0 ≤ a) (hb0 : 0 ≤ b) (hb : b < c) (h : Q (.int (a * c + b) s.toks) { s with toks := s.toks + 1 }) :
    wpAny (model prog w) A (binaryOp .BitOr (.int (a * c) t) (.int b u)) Q E s := by
  subst hc
  refine or_int ?_
  rw [bitOr_shift k ha hb0 hb]
  exact h
theorem and_3 (h : Q (.int (a % 4) s.toks) { s with toks := s.toks + 1 }) : wpAny (model prog w) A (binaryOp .BitAnd (.int a t) (.int 3 u)) Q E s := and_int (by rw [bitAnd_m2]; exact h)
theorem and_15 (h : Q (.int (a % 16) s.toks) { s with toks := s.toks + 1 }) : wpAny (model prog w) A (binaryOp .BitAnd (.int a t) (.int 15 u)) Q E s := and_int (by rw [bitAnd_m4]; exact h)
theorem and_63 (h : Q (.int (a % 64) s.toks) { s with toks := s.toks + 1 }) : wpAny (model prog w) A (binaryOp .BitAnd (.int a t) (.int 63 u)) Q E s := and_int (by rw [bitAnd_m6]; exact h)
theorem and_65535 (h : Q (.int (a % 65536) s.toks) { s with toks := s.toks + 1 }) : wpAny (model prog w) A (binaryOp .BitAnd (.int a t) (.int 65535 u)) Q E s := and_int (by rw [bitAnd_m16]; exact h)
end

noncomputable def b64c (i : Int) : Int := if i < 26 then i + 65 else if i < 52 then i + 71 else if i < 62 then i - 4 else if i = 62 then 43 else 47
noncomputable def b64tbl : List UInt8 := [65, 66, 67, 68, 69, 70, 71, 72, 73, 74, 75, 76, 77, 78, 79, 80, 81, 82, 83, 84, 85, 86, 87, 88, 89, 90, 97, 98, 99, 100, 101, 102, 103, 104, 105, 106, 107, 108, 109, 110, 111, 112, 113, 114, 115, 116, 117, 118, 119, 120, 121, 122, 48, 49, 50, 51, 52, 53, 54, 55, 56, 57, 43, 47]
theorem b64tbl_c : ∀ k : Nat, k < 64 → (((b64tbl.getD k 0).toNat : Nat) : Int) = b64c (k : Int) := by decide +kernel
theorem b64c_in {i : Int} (h0 : 0 ≤ i) (h1 : i < 64) : 0 ≤ b64c i ∧ b64c i < 256 := by
  have h : ∀ k : Nat, k < 64 → 0 ≤ b64c (k : Int) ∧ b64c (k : Int) < 256 := by decide +kernel
  have := h i.toNat ((Int.toNat_lt h0).mpr h1)
  rwa [Int.toNat_of_nonneg h0] at this
theorem b64_item {prog : Program} {w : World} {A : Around} {E : Value → Shared → Prop} {xh : Heap} {xg : Array GenState} {xd : Drawn} {xt : Nat} {xo : OsState} {i : Int} {t ui : Tok} {value slice : Expr} {Q : Value → Shared → Prop} (h0 : 0 ≤ i) (h1 : i < 64) (h : Q (.int (b64c i) xt) ⟨xh, xg, xd, xt + 1, xo⟩)
    (hs : subscripted slice false (.bytes b64tbl.toArray t) (.int i ui) = operate [.bytes b64tbl.toArray t, .int i ui] (getItem (.bytes b64tbl.toArray t) (.int i ui)))
    (ht : ∀ r, letTemporaryGo value (.bytes b64tbl.toArray t) r = pure ()) : wpAny (model prog w) A (subscriptTail value slice (.bytes b64tbl.toArray t) (.int i ui)) Q E ⟨xh, xg, xd, xt, xo⟩ := by
  refine KBy.item_N (by decide) h0 h1 ?_ hs ht
  have := b64tbl_c i.toNat ((Int.toNat_lt h0).mpr h1)
  rw [this, Int.toNat_of_nonneg h0]
  exact h
noncomputable def lcN (lc b : Int) : Int := (lc * 256 + b) % 65536
theorem lcN_in {lc b : Int} : 0 ≤ lcN lc b ∧ lcN lc b < 65536 := ⟨Int.emod_nonneg _ (by decide), Int.emod_lt_of_pos _ (by decide)⟩
noncomputable abbrev b2E (L f : Addr) (cd : Value) : Env := envOf (Str.ofString "b2a_base64") (stmtScope (topSt 18)) L f cd
noncomputable def b2For (n : Nat) : Stmt := (stmtBody ((stmtBody (topSt 18)).getD 5 (.Pass ⟨0, 0, 0, 0⟩))).getD n (.Pass ⟨0, 0, 0, 0⟩)
theorem rs_06_1 {M : Model} {A : Around} {Q : Value → Shared → Prop} {E : Value → Shared → Prop} {s : Shared} (h : wpAny M A (call .none [.none]) Q E s) : wpAny M A (call .none [.none]) Q E s := by first | (walk1; fail "") | exact h
section
variable {w : World} {loose : List Str} {mean : ExcName → Option Value} {mg mb : Str → Option Value} {dp un : Nat} {gd : Option (List Code)} {fr : List Env} {base h₀ : Heap} {xh : Heap} {xg : Array GenState} {xd : Drawn} {xt : Nat} {xo : OsState} {Q : Flow → Shared → Prop} {E : Value → Shared → Prop} {L f lo : Addr} {cd : Value} {lb lc b : Int} {t0 t1 t2 : Tok} {vs : List Value} {n : Nat} {rest : List (Addr × Obj)}
theorem b2_in (S : At h₀ L xh [(Str.ofString "leftchar", .int lc t1), (Str.ofString "b", .int b t0), (Str.ofString "leftbits", .int lb t2), (Str.ofString "out", .ref lo), (Str.ofString "newline", .bool false)] rest) (h0 : 0 ≤ lc) (h1 : lc < 65536) (hb : 0 ≤ b) (hb' : b < 256)
    (k : ∀ h tk t1, At h₀ L h [(Str.ofString "leftchar", .int (lcN lc b) t1), (Str.ofString "leftbits", .int lb t2), (Str.ofString "out", .ref lo), (Str.ofString "newline", .bool false)] rest → Q .next ⟨h, xg, xd, tk, xo⟩) :
    wpAny (model PySem.Challenge.rw_op0087_01.row.prog w) ((AA dp un gd fr).deeper (b2E L f cd)) (exec (b2For 0) (b2E L f cd)) Q E ⟨xh, xg, xd, xt, xo⟩ := by
  refine At.use S ?_
  clear S
  intro m₀ mq F N
  conv in b2For 0 => whnf
  have mk1 := mark 29
  have mk2 := mark 30
  have mk3 := mark 32
  k_steps
  delta Stop
  refine shl_k 8 256 (by decide) (by decide) rfl h0 (Int.lt_trans h1 (by decide)) ?_
  k_steps
  delta Stop
  refine or_c 8 (c := 256) (by decide) h0 hb hb' ?_
  k_steps
  delta Stop
  refine and_65535 ?_
  k_steps
  exact k _ _ _ (At.mk (by assumption) (by assumption) ⟨rfl, rfl, rfl, rfl, trivial⟩ fun p hp => hp)
theorem b2_add {lb' : Int} (he : lb + 8 = lb') (S : At h₀ L xh [(Str.ofString "leftchar", .int lc t1), (Str.ofString "leftbits", .int lb t2), (Str.ofString "out", .ref lo), (Str.ofString "newline", .bool false)] rest)
    (k : ∀ h tk t2, At h₀ L h [(Str.ofString "leftchar", .int lc t1), (Str.ofString "leftbits", .int lb' t2), (Str.ofString "out", .ref lo), (Str.ofString "newline", .bool false)] rest → Q .next ⟨h, xg, xd, tk, xo⟩) :
    wpAny (model PySem.Challenge.rw_op0087_01.row.prog w) ((AA dp un gd fr).deeper (b2E L f cd)) (exec (b2For 1) (b2E L f cd)) Q E ⟨xh, xg, xd, xt, xo⟩ := by
  subst he
  refine At.use S ?_
  clear S
  intro m₀ mq F N
  conv in b2For 1 => whnf
  k_steps
  exact k _ _ _ (At.mk (by assumption) (by assumption) ⟨rfl, rfl, rfl, rfl, trivial⟩ fun p hp => hp)
theorem b2_exit {j : Nat} (hE : PassesOwn (model PySem.Challenge.rw_op0087_01.row.prog w) ((AA dp un gd fr).deeper (b2E L f cd)) (b2E L f cd) E) (hlb : lb < 6)
    (S : At h₀ L xh [(Str.ofString "leftchar", .int lc t1), (Str.ofString "leftbits", .int lb t2), (Str.ofString "out", .ref lo), (Str.ofString "newline", .bool false)] rest)
    (q : ∀ tk, Q .next ⟨xh, xg, xd, tk, xo⟩) :
    WhlRest PySem.Challenge.rw_op0087_01.row.prog w ((AA dp un gd fr).deeper (b2E L f cd)) E (b2E L f cd) (stmtTest (b2For 2)) (stmtBody (b2For 2)) [] Q (j + 1) ⟨xh, xg, xd, xt, xo⟩ := by
  refine At.use S ?_
  clear S
  intro m₀ mq F N
  refine whl_turn hE ?_
  conv in stmtTest (b2For 2) => whnf
  k_steps
  refine WhlIf.no (decide_eq_false (Int.not_le.mpr hlb)) ?_
  k_steps
  exact q _
theorem b2_turn {j : Nat} (hE : PassesOwn (model PySem.Challenge.rw_op0087_01.row.prog w) ((AA dp un gd fr).deeper (b2E L f cd)) (b2E L f cd) E) (k : Nat) (c : Int) (hc : c = 2 ^ k) (hB : Below (AA dp un gd fr) base fr h₀) (hX : (hd.heap_1 w.params).In h₀) (hT : Top viewQ loose mean mg mb h₀) (hlb : lb = 6 + (k : Int)) {lb' : Int} (he : lb - 6 = lb') (h0 : 0 ≤ lc) (h1 : lc < 65536) (hn : vs.length ≤ 8) (hr : ∀ p ∈ rest, p.1 ≠ lo)
    (S : At h₀ L xh [(Str.ofString "leftchar", .int lc t1), (Str.ofString "leftbits", .int lb t2), (Str.ofString "out", .ref lo), (Str.ofString "newline", .bool false)] ((lo, listOf vs.toArray n) :: rest))
    (q : ∀ h tk t1 t2 t3, At h₀ L h [(Str.ofString "leftchar", .int lc t1), (Str.ofString "leftbits", .int lb' t2), (Str.ofString "out", .ref lo), (Str.ofString "newline", .bool false)] ((lo, listOf (vs ++ [Value.int (b64c (lc / c % 64)) t3]).toArray (n + 1)) :: rest) →
      WhlRest PySem.Challenge.rw_op0087_01.row.prog w ((AA dp un gd fr).deeper (b2E L f cd)) E (b2E L f cd) (stmtTest (b2For 2)) (stmtBody (b2For 2)) [] Q j ⟨h, xg, xd, tk, xo⟩) :
    WhlRest PySem.Challenge.rw_op0087_01.row.prog w ((AA dp un gd fr).deeper (b2E L f cd)) E (b2E L f cd) (stmtTest (b2For 2)) (stmtBody (b2For 2)) [] Q (j + 1) ⟨xh, xg, xd, xt, xo⟩ := by
  refine At.use S ?_
  clear S
  intro m₀ mq F N
  refine whl_turn hE ?_
  conv in stmtTest (b2For 2) => whnf
  conv in stmtBody (b2For 2) => whnf
  have mk1 := mark 31
  have mk2 := mark 32
  have mk3 := mark 12
  have mk4 := mark 14
  have hc0 : 0 ≤ lc / c := Int.ediv_nonneg h0 (hc ▸ Int.pow_nonneg (by decide))
  k_steps
  refine WhlIf.yes (decide_eq_true (hlb ▸ Int.le_add_of_nonneg_right (Int.natCast_nonneg k))) ?_
  k_steps
  delta Stop
  refine shr_k k c hc (by rw [hlb, Int.add_comm, Int.add_sub_cancel]) ?_
  k_steps
  delta Stop
  refine and_63 ?_
  k_steps
  delta Stop
  k_dflt (refine b64_item (hs := by with_unfolding_all rfl) (ht := by intro _; with_unfolding_all rfl) (Int.emod_nonneg _ (by decide)) (Int.emod_lt_of_pos _ (by decide)) ?_)
  k_steps
  delta Stop
  rename Fr _ _ _ _ => F
  rename News _ _ _ _ => N
  refine append_K F N (Upd.head hr) ?_ (by simp [sizeLine]; lia)
  intro h F N
  rw [List.push_toArray] at N
  have mk5 := mark 41
  k_steps
  delta Stop
  subst he
  exact q _ _ _ _ _ (At.mk (by assumption) (by assumption) ⟨rfl, rfl, rfl, rfl, trivial⟩ fun p hp => hp)
end
theorem rs_06_2 {M : Model} {A : Around} {Q : Value → Shared → Prop} {E : Value → Shared → Prop} {s : Shared} (h : wpAny M A (call .none [.none]) Q E s) : wpAny M A (call .none [.none]) Q E s := by first | (walk1; fail "") | exact h
section
variable {w : World} {loose : List Str} {mean : ExcName → Option Value} {mg mb : Str → Option Value}
noncomputable def encL (x y z : Int) : List Int := [b64c (lcN 0 x / 4 % 64), b64c (lcN (lcN 0 x) y / 16 % 64), b64c (lcN (lcN (lcN 0 x) y) z / 64 % 64), b64c (lcN (lcN (lcN 0 x) y) z / 1 % 64)]
theorem b64c_m {i : Int} : 0 ≤ b64c (i % 64) ∧ b64c (i % 64) < 256 := b64c_in (Int.emod_nonneg _ (by decide)) (Int.emod_lt_of_pos _ (by decide))
theorem b2a_spec {b : Array UInt8} {x y z : Int} {t : Tok} (hb : KBw.bInts b = [x, y, z]) :
    CVk w loose mean mg mb 100 2 (fun _ => True) [.bytes b t] [(Str.ofString "newline", .bool false)] (fun t => .bytes (byteArr (encL x y z)) t) := by
  intro dp un gd fr base s Q E hB hX hT hpre hd hu hret
  have hx := KBw.ints_in (b := b) (k := x) (by rw [hb]; exact .head _)
  have hy := KBw.ints_in (b := b) (k := y) (by rw [hb]; exact .tail _ (.head _))
  have hz := KBw.ints_in (b := b) (k := z) (by rw [hb]; exact .tail _ (.tail _ (.head _)))
  ((refine wpAny_call ?_; (k_dflt (refine' enterP ?k3 ?k5 ?k6 ?k7 ?k8 ?k9 ?kB ?_ ?c5 ?c2 ?c3 ?c4; (case k3 => k_asm); (case k5 => k_asm); (case k6 => k_is); (case k7 => k_is); (case k8 => ktr_room); (case k9 => first | exact BindsTo.of_eq rfl | exact binds_K (by k_in) rfl (by k_is) rfl rfl rfl | (refine' kp_binds ?kx ?ke; (case kx => k_in); (case ke => exact fun _ => rfl))); (case c5 => decide); (case kB => exact locs rfl); (case c2 => exact rfl); (case c3 => exact rfl); (case c4 => exact rfl); k_whole)); intro L' h' tk' F' N'; (try dsimp only); (try k_fold)))
  have mk1 := mark 37
  have mk2 := mark 40
  have mk3 := mark 38
  k_steps
  delta Stop
  (k_dflt (refine' use_CV buffer_spec (by (exact below_at (by assumption) (by assumption) rfl rfl rfl)) (by assumption) (by assumption) (by assumption) (by assumption) (by trivial) (by ktr_room) (by ktr_units) ?_; k_whole))
  (((intro t' h' tk' lF' lN'; k_sweep; try dsimp only)))
  k_steps
  delta Stop
  (k_dflt (refine' use_CV truth_spec (by (exact below_at (by assumption) (by assumption) rfl rfl rfl)) (by assumption) (by assumption) (by assumption) (by assumption) (by trivial) (by ktr_room) (by ktr_units) ?_; k_whole))
  (((intro t' h' tk' lF' lN'; k_sweep; try dsimp only)))
  k_steps
  delta Stop
  k_bytesUnr
  k_steps
  delta Stop
  rename Fr _ _ _ _ => F
  rename News _ _ _ _ => N
  refine b2_in (At.mk F N ⟨rfl, rfl, rfl, rfl, rfl, trivial⟩ (nx := [(_, listOf [].toArray 0), _]) (fm_c (.tail _ (.head _)) (fm_c (.head _) (List.forall_mem_nil _)))) (by decide) (by decide) hx.1 hx.2 fun h tk t1 S => ?_
  clear F N
  k_steps
  delta Stop
  refine b2_add (lb' := 8) rfl S fun h tk t2 S' => ?_
  clear S
  rename At _ _ _ _ _ => S
  k_steps
  delta Stop
  k_dflt (refine whl_start 3 ?_)
  refine b2_turn ?hE 2 4 (by decide) hB hX hT rfl (lb' := 2) rfl lcN_in.1 lcN_in.2 ?hn ?hr S fun h tk t1 t2 t3 S => ?_
  case hn => exact Nat.le_of_ble_eq_true rfl
  case hE => with_unfolding_all passes_own
  case hr => exact fm_c (Nat.ne_of_gt (by assumption)) (List.forall_mem_nil _)
  refine b2_exit ?hE (by decide) S fun tk => ?_
  case hE => with_unfolding_all passes_own
  refine At.use S ?_
  clear S
  intro m₀ mq F N
  k_steps
  delta Stop
  rename Fr _ _ _ _ => F
  rename News _ _ _ _ => N
  refine b2_in (At.mk F N ⟨rfl, rfl, rfl, rfl, rfl, trivial⟩ (nx := [(_, listOf _ _), _]) (fm_c (.tail _ (.head _)) (fm_c (.head _) (List.forall_mem_nil _)))) lcN_in.1 lcN_in.2 hy.1 hy.2 fun h tk t1 S => ?_
  clear F N
  k_steps
  delta Stop
  refine b2_add (lb' := 10) rfl S fun h tk t2 S' => ?_
  clear S
  rename At _ _ _ _ _ => S
  k_steps
  delta Stop
  k_dflt (refine whl_start 3 ?_)
  refine b2_turn ?hE 4 16 (by decide) hB hX hT rfl (lb' := 4) rfl lcN_in.1 lcN_in.2 ?hn ?hr S fun h tk t1 t2 t3 S => ?_
  case hn => exact Nat.le_of_ble_eq_true rfl
  case hE => with_unfolding_all passes_own
  case hr => exact fm_c (Nat.ne_of_gt (by assumption)) (List.forall_mem_nil _)
  refine b2_exit ?hE (by decide) S fun tk => ?_
  case hE => with_unfolding_all passes_own
  refine At.use S ?_
  clear S
  intro m₀ mq F N
  k_steps
  delta Stop
  rename Fr _ _ _ _ => F
  rename News _ _ _ _ => N
  refine b2_in (At.mk F N ⟨rfl, rfl, rfl, rfl, rfl, trivial⟩ (nx := [(_, listOf _ _), _]) (fm_c (.tail _ (.head _)) (fm_c (.head _) (List.forall_mem_nil _)))) lcN_in.1 lcN_in.2 hz.1 hz.2 fun h tk t1 S => ?_
  clear F N
  k_steps
  delta Stop
  refine b2_add (lb' := 12) rfl S fun h tk t2 S' => ?_
  clear S
  rename At _ _ _ _ _ => S
  k_steps
  delta Stop
  k_dflt (refine whl_start 3 ?_)
  refine b2_turn ?hE 6 64 (by decide) hB hX hT rfl (lb' := 6) rfl lcN_in.1 lcN_in.2 ?hn ?hr S fun h tk t1 t2 t3 S => ?_
  case hn => exact Nat.le_of_ble_eq_true rfl
  case hE => with_unfolding_all passes_own
  case hr => exact fm_c (Nat.ne_of_gt (by assumption)) (List.forall_mem_nil _)
  refine b2_turn ?hE 0 1 (by decide) hB hX hT rfl (lb' := 0) rfl lcN_in.1 lcN_in.2 ?hn ?hr S fun h tk t1 t2 t3 S => ?_
  case hn => exact Nat.le_of_ble_eq_true rfl
  case hE => with_unfolding_all passes_own
  case hr => exact fm_c (Nat.ne_of_gt (by assumption)) (List.forall_mem_nil _)
  refine b2_exit ?hE (by decide) S fun tk => ?_
  case hE => with_unfolding_all passes_own
  refine At.use S ?_
  clear S
  intro m₀ mq F N
  clear mk1
  k_steps
  refine bytes_K (ns := encL x y z) (by assumption) (by assumption) (by is_list) (.cons _ _ (.cons _ _ (.cons _ _ (.cons _ _ .nil)))) (fm_c b64c_m (fm_c b64c_m (fm_c b64c_m (fm_c b64c_m (List.forall_mem_nil _))))) (Nat.le_of_ble_eq_true rfl) rfl ?_
  intro h' t' k' F' N' hB'
  k_steps
  exact hret _ _ _ (Fr.keep (by assumption))
end

theorem rs_07_1 {M : Model} {A : Around} {Q : Value → Shared → Prop} {E : Value → Shared → Prop} {s : Shared} (h : wpAny M A (call .none [.none]) Q E s) : wpAny M A (call .none [.none]) Q E s := by first | (walk1; fail "") | exact h
section
variable {w : World} {loose : List Str} {mean : ExcName → Option Value} {mg mb : Str → Option Value}
theorem b64encode_spec {b : Array UInt8} {x y z : Int} {t : Tok} (hb : KBw.bInts b = [x, y, z]) :
    CV w loose mean mg mb 108 3 (fun _ => True) [.bytes b t] (fun t => .bytes (byteArr (encL x y z)) t) := by
  intro dp un gd fr base s Q E hB hX hT hpre hd hu hret
  ((refine wpAny_call ?_; (k_dflt (refine' enterP ?k3 ?k5 ?k6 ?k7 ?k8 ?k9 ?kB ?_ ?c5 ?c2 ?c3 ?c4; (case k3 => k_asm); (case k5 => k_asm); (case k6 => k_is); (case k7 => k_is); (case k8 => ktr_room); (case k9 => first | exact BindsTo.of_eq rfl | exact binds_K (by k_in) rfl (by k_is) rfl rfl rfl | (refine' kp_binds ?kx ?ke; (case kx => k_in); (case ke => exact fun _ => rfl))); (case c5 => decide); (case kB => exact locs rfl); (case c2 => exact rfl); (case c3 => exact rfl); (case c4 => exact rfl); k_whole)); intro L' h' tk' F' N'; (try dsimp only); (try k_fold)))
  k_steps
  delta Stop
  (k_dflt (refine' use_CV (b2a_spec hb) (by (exact below_at (by assumption) (by assumption) rfl rfl rfl)) (by assumption) (by assumption) (by assumption) (by assumption) (by trivial) (by ktr_room) (by ktr_units) ?_; k_whole))
  (((intro t' h' tk' lF' lN'; k_sweep; try dsimp only)))
  k_steps
  all_goals exact hret _ _ _ (Fr.keep (by assumption))
end

noncomputable def signC (n : Int) : Nat := if n < 26 then n.toNat + 65 else if n < 52 then n.toNat + 71 else if n < 62 then n.toNat - 4 else if n = 62 then 43 else if n = 63 then 47 else if n = 64 then 33 else if n = 65 then 45 else if n = 66 then 95 else 46
noncomputable def signsT : Str := Str.ofString "ABCDEFGHIJKLMNOPQRSTUVWXYZabcdefghijklmnopqrstuvwxyz0123456789+/!-_."
theorem signsT_c : ∀ k : Nat, k < 68 → (seqIndex? (k : Int) signsT.length).bind (signsT.cps[·]?) = some (signC (k : Int)) := by decide +kernel
theorem signs_item {prog : Program} {w : World} {A : Around} {E : Value → Shared → Prop} {s : Shared} {i : Int} {t ui : Tok} {value slice : Expr} {Q : Value → Shared → Prop} (h01 : 0 ≤ i ∧ i < 68) (h : Q (.str ⟨#[signC i]⟩ s.toks) { s with toks := s.toks + 1 })
    (hs : subscripted slice false (.str signsT t) (.int i ui) = operate [.str signsT t, .int i ui] (getItem (.str signsT t) (.int i ui)))
    (ht : ∀ r, letTemporaryGo value (.str signsT t) r = pure ()) : wpAny (model prog w) A (subscriptTail value slice (.str signsT t) (.int i ui)) Q E s := by
  refine tail_of_ItemOn ⟨"str", _, slot_str_getitem.lookup, typeIs_str _ _ _, getItem_str (c := signC i) ?_ ?_ h⟩ hs ht
  · simp only [Bool.or_eq_false_iff, decide_eq_false_iff_not]; lia
  · have := signsT_c i.toNat (by lia)
    rwa [Int.toNat_of_nonneg h01.1] at this
noncomputable def ElS (news : List (Addr × Obj)) (r : Str) (y : Value) (news' : List (Addr × Obj)) : Prop := news' = news ∧ ∃ t : Tok, y = .str r t
theorem strsAre_snoc {y : Str} {t : Tok} {vs : List Value} {ys : List Str} (h : StrsAre vs ys) : StrsAre (vs ++ [.str y t]) (ys ++ [y]) := by
  induction h with
  | nil => exact .cons y t .nil
  | cons z u _ ih => exact .cons z u ih
theorem rs_08_1 {M : Model} {A : Around} {Q : Value → Shared → Prop} {E : Value → Shared → Prop} {s : Shared} (h : wpAny M A (call .none [.none]) Q E s) : wpAny M A (call .none [.none]) Q E s := by first | (walk1; fail "") | exact h
section
variable {prog : Program} {w : World} {A : Around} {h₀ : Heap} {L : Addr} {m : Str → Option Value} {env : Env} {elt : Expr} {x : Str} {scope : Scope} {cl : List (Str × Addr)} {s : Shared} {S : List (Addr × Obj) → Prop} {Fin : List Value → List (Addr × Obj) → Prop} {news : List (Addr × Obj)}
theorem comp_IS {vs : List Value} {ns : List Int} (g : Int → Str) (hi : IntsAre vs ns)
    (turn : ∀ k t I oI C oC D m₂ ys h tk (E' : Value → Shared → Prop), k ∈ ns → LCg.NsObj oC m₂ → m₂ x = some (.int k t) → Fr h₀ L h m → News h₀ L h ((I, oI) :: (C, oC) :: (D, LCg.lst ys) :: news) → LCg.Off3 I C D news → ((@Ne Nat I C) ∧ (@Ne Nat I D) ∧ (@Ne Nat C D)) →
      wpAny (model prog w) A (eval elt (compEnvC scope cl C env)) (LCg.CompEnd h₀ L m { s with heap := h, toks := tk } I oI C oC D (LCg.lst ys) S (fun y news' => ElS news (g k) y news')) E' { s with heap := h, toks := tk })
    (fin : ∀ ys, StrsAre ys (ns.map g) → Fin ys news) : LCg.CompRest prog w A h₀ L m env elt x scope cl s S (fun i v => vs.toArray[i]? = some v) Fin vs.toArray.size 0 [] news := by
  suffices key : ∀ (k i : Nat) (ys : List Value), i + k = vs.length → StrsAre ys ((ns.take i).map g) → LCg.CompRest prog w A h₀ L m env elt x scope cl s S (fun i v => vs.toArray[i]? = some v) Fin k i ys news by
    refine key _ 0 [] (by simp) ?_
    simpa using StrsAre.nil
  intro k
  induction k with
  | zero =>
    intro i ys hik hy
    have : (ns.take i) = ns := List.take_of_length_le (by have := hi.length; lia)
    rw [this] at hy
    exact LCg.CompRest.zero (fin ys hy)
  | succ k ih =>
    intro i ys hik hy
    refine LCg.CompRest.succ ?_
    intro v I oI C oC D m₂ h tk E' hv hC hx F N off ne
    have hlt : i < ns.length := by have := hi.length; lia
    obtain ⟨t, ht⟩ := hi.get i ns[i] (by simp [hlt])
    have hv' : v = .int ns[i] t := by
      have : vs[i]? = some v := by simpa using hv
      rw [ht] at this
      exact (Option.some.inj this).symm
    subst hv'
    refine wpAny_mono (turn ns[i] t I oI C oC D m₂ ys h tk E' (List.getElem_mem hlt) hC hx F N off ne) (fun y s₂ hq => ?_) fun _ _ e => e
    obtain ⟨h', tk', nw, e, F', N', off', hS, hn, t', hy'⟩ := hq
    subst hn hy'
    refine ⟨h', tk', _, e, F', N', off', hS, ?_⟩
    refine ih (i + 1) _ (by lia) ?_
    have e2 : (ns.take (i + 1)).map g = (ns.take i).map g ++ [g ns[i]] := by
      rw [List.take_add_one, List.map_append]
      simp only [List.getElem?_eq_getElem hlt, Option.toList_some, List.map_cons, List.map_nil]
    rw [e2]
    exact strsAre_snoc hy
end
theorem rs_08_2 {M : Model} {A : Around} {Q : Value → Shared → Prop} {E : Value → Shared → Prop} {s : Shared} (h : wpAny M A (call .none [.none]) Q E s) : wpAny M A (call .none [.none]) Q E s := by first | (walk1; fail "") | exact h
section
variable {w : World} {loose : List Str} {mean : ExcName → Option Value} {mg mb : Str → Option Value}
noncomputable def textOf (ns : List Int) : Str := ⟨(ns.map signC).toArray⟩
theorem join_signs (ns : List Int) : Txt.join (Str.ofString "") (ns.map fun k => (⟨#[signC k]⟩ : Str)) = textOf ns := by
  have e0 : Str.ofString "" = (⟨#[]⟩ : Str) := by decide +kernel
  show Builtin.Str.glued _ _ = _
  rw [e0]
  unfold Builtin.Str.glued textOf
  have key : ∀ (l : List Int) (acc : Array Nat), (l.map fun k => (⟨#[signC k]⟩ : Str)).foldl (fun acc p => acc ++ #[] ++ p.cps) acc = acc ++ (l.map signC).toArray := by
    intro l
    induction l with
    | nil => intro acc; simp
    | cons a l ih => intro acc; simp only [List.map_cons, List.foldl_cons, ih]; simp
  cases ns with
  | nil => rfl
  | cons a l =>
    simp only [List.map_cons, List.drop_succ_cons, List.drop_zero, List.headD_cons, key]
    simp
theorem join_len (ns : List Int) : ((ns.map fun k => (⟨#[signC k]⟩ : Str)).map (·.length)).sum = ns.length := by
  induction ns with
  | nil => rfl
  | cons a l ih => simp only [List.map_cons, List.sum_cons, ih, List.length_cons]; simp only [Str.length]; simp; lia
theorem text_spec {l : Addr} {vs : List Value} {ns : List Int} :
    CV w loose mean mg mb 128 1 (fun h => h.IsList l vs.toArray ∧ IntsAre vs ns ∧ (∀ n ∈ ns, 0 ≤ n ∧ n < 68) ∧ ns.length ≤ 16) [.ref l] (fun t => .str (textOf ns) t) := by
  intro dp un gd fr base s Q E hB hX hT hpre hd hu hret
  obtain ⟨hp1, hp2, hp3, hp4⟩ := hpre
  ((refine wpAny_call ?_; (k_dflt (refine' enterC ?k3 ?k5 ?k6 ?k7 ?k8 ?k9 ?kB ?kD ?_ ?c2 ?c3 ?c4; (case k3 => k_asm); (case k5 => k_asm); (case k6 => k_is); (case k7 => k_is); (case k8 => ktr_room); (case k9 => first | exact BindsTo.of_eq rfl | exact binds_K (by k_in) rfl (by k_is) rfl rfl rfl | (refine' kp_binds ?kx ?ke; (case kx => k_in); (case ke => exact fun _ => rfl))); (case kB => exact rfl); (case kD => decide +kernel); (case c2 => exact rfl); (case c3 => exact rfl); (case c4 => exact rfl); k_whole)); intro L' h' tk' cells' F' N' Y'; k_cells Y'; (try simp only [List.cons_append, List.nil_append] at N'); (try dsimp only); (try k_fold)))
  have mkT := mark 12
  have mkE := mark 33
  k_steps
  delta Stop
  refine LCg.CompSrc.base rfl (by assumption) (by assumption) (by assumption) (by have hzz := IntsAre.length (by assumption); simp only [List.size_toArray, sizeLine]; lia) ?_
  intro g'
  refine comp_IS (fun k => ⟨#[signC k]⟩) (by assumption) ?_ ?_
  · intro k' t' I' oI' C' oC' D' m₂' ys' h' tk' E' hk' hC' hx' F' N' off' ne'
    k_steps
    delta Stop
    k_dflt (refine signs_item (hs := by with_unfolding_all rfl) (ht := by intro _; with_unfolding_all rfl) (hp3 _ hk') ?_)
    k_steps
    delta Stop
    exact LCg.CompEnd.intro (by assumption) (by assumption) _ (fun p hp => hp) (by assumption) (Or.inl (by assumption)) ⟨rfl, _, rfl⟩
  clear mkT mkE
  k_steps
  refine join_listW (ys := ns.map fun k => (⟨#[signC k]⟩ : Str)) (by is_list) (by assumption) (by decide) ?w ?_
  case w => rw [join_len, List.length_map]; lia
  intro t' k'
  k_steps
  exact endS hret (join_signs ns) (Fr.keep (by assumption))
end

noncomputable abbrev A2S := List Int × Int × Int
noncomputable def a2bStep (st : A2S) (c : Int) : A2S :=
  if 64 ≤ bval c then st
  else if st.2.1 = 0 then (st.1, 1, bval c)
  else if st.2.1 = 1 then (st.1 ++ [st.2.2 * 4 + bval c / 16], 2, bval c % 16)
  else if st.2.1 = 2 then (st.1 ++ [st.2.2 * 16 + bval c / 4], 3, bval c % 4)
  else (st.1 ++ [st.2.2 * 64 + bval c], 0, 0)
noncomputable def a2bF (cs : List Int) : A2S := cs.foldl a2bStep ([], 0, 0)
noncomputable def A2Ok (n : Nat) (st : A2S) : Prop :=
  st.1.length ≤ n ∧ (∀ x ∈ st.1, 0 ≤ x ∧ x < 256) ∧ 0 ≤ st.2.2 ∧ ((st.2.1 = 0 ∧ st.2.2 < 64) ∨ (st.2.1 = 1 ∧ st.2.2 < 64) ∨ (st.2.1 = 2 ∧ st.2.2 < 16) ∨ (st.2.1 = 3 ∧ st.2.2 < 4))
theorem bval_in (c : Int) : 0 ≤ bval c ∧ bval c ≤ 64 := by
  unfold bval; repeat' split
  all_goals lia
theorem a2_s0 {out : List Int} {l c : Int} (h : ¬ 64 ≤ bval c) : a2bStep (out, 0, l) c = (out, 1, bval c) := if_neg h
theorem a2_s1 {out : List Int} {l c : Int} (h : ¬ 64 ≤ bval c) : a2bStep (out, 1, l) c = (out ++ [l * 4 + bval c / 16], 2, bval c % 16) := if_neg h
theorem a2_s2 {out : List Int} {l c : Int} (h : ¬ 64 ≤ bval c) : a2bStep (out, 2, l) c = (out ++ [l * 16 + bval c / 4], 3, bval c % 4) := if_neg h
theorem a2_s3 {out : List Int} {l c : Int} (h : ¬ 64 ≤ bval c) : a2bStep (out, 3, l) c = (out ++ [l * 64 + bval c], 0, 0) := if_neg h
theorem a2_mem {out : List Int} {y : Int} (h : ∀ x ∈ out, 0 ≤ x ∧ x < 256) (hy : 0 ≤ y ∧ y < 256) : ∀ x ∈ out ++ [y], 0 ≤ x ∧ x < 256 := fun x hx =>
  (List.mem_append.mp hx).elim (h x) fun hx => List.mem_singleton.mp hx ▸ hy
theorem a2_len {out : List Int} {y : Int} {n : Nat} (h : out.length ≤ n) : (out ++ [y]).length ≤ n + 1 := by rw [List.length_append]; exact Nat.succ_le_succ h
theorem a2bStep_ok {n : Nat} {st : A2S} {c : Int} (h : A2Ok n st) : A2Ok (n + 1) (a2bStep st c) := by
  obtain ⟨out, q, l⟩ := st
  obtain ⟨h1, h2, h3, h4⟩ := h
  dsimp only at h1 h2 h3 h4
  by_cases h64 : 64 ≤ bval c
  · rw [show a2bStep (out, q, l) c = (out, q, l) from if_pos h64]; exact ⟨Nat.le_succ_of_le h1, h2, h3, h4⟩
  have v0 := (bval_in c).1
  have v1 := Int.not_le.mp h64
  rcases h4 with ⟨rfl, h4⟩ | ⟨rfl, h4⟩ | ⟨rfl, h4⟩ | ⟨rfl, h4⟩
  · rw [a2_s0 h64]; exact ⟨Nat.le_succ_of_le h1, h2, v0, .inr (.inl ⟨rfl, v1⟩)⟩
  · rw [a2_s1 h64]; exact ⟨a2_len h1, a2_mem h2 (pack (m := 64) h3 h4 (Int.ediv_nonneg v0 (by decide)) (Int.ediv_lt_of_lt_mul (by decide) v1)), Int.emod_nonneg _ (by decide), .inr (.inr (.inl ⟨rfl, Int.emod_lt_of_pos _ (by decide)⟩))⟩
  · rw [a2_s2 h64]; exact ⟨a2_len h1, a2_mem h2 (pack (m := 16) h3 h4 (Int.ediv_nonneg v0 (by decide)) (Int.ediv_lt_of_lt_mul (by decide) v1)), Int.emod_nonneg _ (by decide), .inr (.inr (.inr ⟨rfl, Int.emod_lt_of_pos _ (by decide)⟩))⟩
  · rw [a2_s3 h64]; exact ⟨a2_len h1, a2_mem h2 (pack (m := 4) h3 h4 v0 v1), Int.le_refl 0, .inl ⟨rfl, (by decide : (0 : Int) < 64)⟩⟩
theorem a2bF_snoc (cs : List Int) (c : Int) : a2bF (cs ++ [c]) = a2bStep (a2bF cs) c := by unfold a2bF; rw [List.foldl_append]; rfl
theorem a2bF_ok (cs : List Int) : A2Ok cs.length (a2bF cs) := by
  suffices h : ∀ (l pre : List Int), A2Ok pre.length (a2bF pre) → A2Ok (pre ++ l).length (a2bF (pre ++ l)) by
    have := h cs [] ⟨Nat.le_refl _, (fun _ h => nomatch h), Int.le_refl 0, .inl ⟨rfl, (by decide : (0 : Int) < 64)⟩⟩
    simpa using this
  intro l
  induction l with
  | nil => intro pre h; simpa using h
  | cons a l ih =>
    intro pre h
    have := ih (pre ++ [a]) (by rw [a2bF_snoc, List.length_append]; exact a2bStep_ok h)
    simpa using this
noncomputable abbrev a2N (lo : Addr) (q l i : Int) (tq tl tp ti : Tok) (st : Bool) : List (Str × Value) := [(Str.ofString "out", .ref lo), (Str.ofString "quad_pos", .int q tq), (Str.ofString "leftchar", .int l tl), (Str.ofString "pads", .int 0 tp), (Str.ofString "i", .int i ti), (Str.ofString "strict_mode", .bool st)]
noncomputable def A2R (strict : Bool) (lo : Addr) (pre : List Int) (m : Str → Option Value) (nx : List (Addr × Obj)) : Prop :=
  ∀ C : Prop, (∀ (vs : List Value) (n : Nat) (i : Int) (tq tl tp ti : Tok), Hs m (a2N lo (a2bF pre).2.1 (a2bF pre).2.2 i tq tl tp ti strict) → nx = [(lo, listOf vs.toArray n)] → IntsAre vs (a2bF pre).1 → (strict = true → ∀ c ∈ pre, bval c < 64) → C) → C
theorem a2_hst {strict : Bool} {pre : List Int} {k : Int} (h : strict = true → ∀ c ∈ pre, bval c < 64) (hk : strict = true → bval k < 64) : strict = true → ∀ c ∈ pre ++ [k], bval c < 64 := fun hs c hc =>
  (List.mem_append.mp hc).elim (h hs c) fun hc => by rw [List.mem_singleton.mp hc]; exact hk hs
noncomputable def A2Good (strict : Bool) (cs : List Int) : Prop := (strict = true → ∀ c ∈ cs, bval c < 64) ∧ (a2bF cs).2.1 = 0
noncomputable abbrev a2E (L f : Addr) (cd : Value) : Env := envOf (Str.ofString "a2b_base64") (stmtScope (topSt 17)) L f cd
noncomputable def a2For (n : Nat) : Stmt := (stmtBody ((stmtBody (topSt 17)).getD 7 (.Pass ⟨0, 0, 0, 0⟩))).getD n (.Pass ⟨0, 0, 0, 0⟩)
theorem rs_10_1 {M : Model} {A : Around} {Q : Value → Shared → Prop} {E : Value → Shared → Prop} {s : Shared} (h : wpAny M A (call .none [.none]) Q E s) : wpAny M A (call .none [.none]) Q E s := by first | (walk1; fail "") | exact h
section
variable {w : World} {loose : List Str} {mean : ExcName → Option Value} {mg mb : Str → Option Value} {dp un : Nat} {gd : Option (List Code)} {fr : List Env} {base h₀ : Heap} {xh : Heap} {xg : Array GenState} {xd : Drawn} {xt : Nat} {xo : OsState} {Q : Flow → Shared → Prop} {E : Value → Shared → Prop} {L f lo : Addr} {cd : Value} {q l i c v : Int} {t tq tl tp ti : Tok} {st : Bool} {rest : List (Addr × Obj)} {rst : List Stmt}
theorem a2_fig (hB : Below (AA dp un gd fr) base fr h₀) (hX : (hd.heap_1 w.params).In h₀) (hT : Top viewQ loose mean mg mb h₀) (hd : dp + 2 < recursionLimit) (hu : un + 16 < cLine) (hc : c ≠ 61)
    (S : At h₀ L xh ((Str.ofString "this_ch", .int c t) :: a2N lo q l i tq tl tp ti st) rest)
    (k : ∀ h tk t, At h₀ L h ((Str.ofString "this_ch", .int (bval c) t) :: a2N lo q l i tq tl tp ti st) rest → wpAny (model PySem.Challenge.rw_op0087_01.row.prog w) ((AA dp un gd fr).deeper (a2E L f cd)) (execs rst (a2E L f cd)) Q E ⟨h, xg, xd, tk, xo⟩) :
    wpAny (model PySem.Challenge.rw_op0087_01.row.prog w) ((AA dp un gd fr).deeper (a2E L f cd)) (execs (a2For 0 :: a2For 1 :: rst) (a2E L f cd)) Q E ⟨xh, xg, xd, xt, xo⟩ := by
  refine At.use S ?_
  clear S
  intro m₀ mq F N
  conv in a2For 0 => whnf
  conv in a2For 1 => whnf
  have hc' : (c == 61) = false := beq_eq_false_iff_ne.mpr hc
  k_steps
  delta Stop
  (k_dflt (refine' use_CV bval_spec (by (exact below_at (by assumption) (by assumption) rfl rfl rfl)) (by assumption) (by assumption) (by assumption) (by assumption) (by trivial) (by ktr_room) (by ktr_units) ?_; k_whole))
  (((intro t' h' tk' lF' lN'; k_sweep; try dsimp only)))
  k_steps
  exact k _ _ _ (At.mk (by assumption) (by assumption) ⟨rfl, rfl, rfl, rfl, rfl, rfl, rfl, trivial⟩ fun p hp => hp)
theorem a2_on (hX : (hd.heap_1 w.params).In h₀) (hc : v < 64) (S : At h₀ L xh ((Str.ofString "this_ch", .int v t) :: a2N lo q l i tq tl tp ti st) rest)
    (k : ∀ h tk tp, At h₀ L h ((Str.ofString "this_ch", .int v t) :: a2N lo q l i tq tl tp ti st) rest → wpAny (model PySem.Challenge.rw_op0087_01.row.prog w) ((AA dp un gd fr).deeper (a2E L f cd)) (execs rst (a2E L f cd)) Q E ⟨h, xg, xd, tk, xo⟩) :
    wpAny (model PySem.Challenge.rw_op0087_01.row.prog w) ((AA dp un gd fr).deeper (a2E L f cd)) (execs (a2For 2 :: a2For 3 :: a2For 4 :: rst) (a2E L f cd)) Q E ⟨xh, xg, xd, xt, xo⟩ := by
  refine At.use S ?_
  clear S
  intro m₀ mq F N
  conv in a2For 2 => whnf
  conv in a2For 3 => whnf
  conv in a2For 4 => whnf
  k_steps
  exact k _ _ _ (At.mk (by assumption) (by assumption) ⟨rfl, rfl, rfl, rfl, rfl, rfl, rfl, trivial⟩ fun p hp => hp)
theorem a2_off (hB : Below (AA dp un gd fr) base fr h₀) (hX : (hd.heap_1 w.params).In h₀) (hT : Top viewQ loose mean mg mb h₀) (hd : dp + 2 < recursionLimit) (hu : un + 16 < cLine) (hc : 64 ≤ v) (S : At h₀ L xh ((Str.ofString "this_ch", .int v t) :: a2N lo q l i tq tl tp ti st) rest)
    (k : st = false → ∀ h tk ti, At h₀ L h ((Str.ofString "this_ch", .int v t) :: a2N lo q l (i + 1) tq tl tp ti st) rest → Q .cont ⟨h, xg, xd, tk, xo⟩)
    (ke : st = true → ∀ h h' e vs tk m, Fr h₀ L h m → News h₀ L h rest → Heap.MadeExcOf h h' e (.ref 53) vs → E (.ref e) ⟨h', xg, xd, tk, xo⟩) :
    wpAny (model PySem.Challenge.rw_op0087_01.row.prog w) ((AA dp un gd fr).deeper (a2E L f cd)) (execs (a2For 2 :: rst) (a2E L f cd)) Q E ⟨xh, xg, xd, xt, xo⟩ := by
  refine At.use S ?_
  clear S
  intro m₀ mq F N
  conv in a2For 2 => whnf
  k_steps
  · exact ke (by assumption) _ _ _ _ _ _ (by assumption) (by assumption) (by assumption)
  · exact k (by assumption) _ _ _ (At.mk (by assumption) (by assumption) ⟨rfl, rfl, rfl, rfl, rfl, rfl, rfl, trivial⟩ fun p hp => hp)
theorem a2_is {x n : Int} {A : Around} {Q : Bool → Shared → Prop} {m : Str → Option Value} {kk : Nat} {p1 p2 p3 : Pos} {b : Bool} (F : Fr h₀ L xh m) (hm : m (Str.ofString "quad_pos") = some (.int x tq)) (e : (x == n) = b) (h : ∀ tk, Q b ⟨xh, xg, xd, tk, xo⟩) :
    wpAny (model PySem.Challenge.rw_op0087_01.row.prog w) (A.deeper (a2E L f cd)) (isTrue (.Compare (.Name (Str.ofString "quad_pos") p1) [.Eq] [.Constant (.int n) kk p2] p3) (a2E L f cd) (eval (.Compare (.Name (Str.ofString "quad_pos") p1) [.Eq] [.Constant (.int n) kk p2] p3) (a2E L f cd))) Q E ⟨xh, xg, xd, xt, xo⟩ := by
  subst e
  have F₂ := fr_Bl [(Str.ofString "quad_pos", .int x tq)] ⟨hm, trivial⟩ (fun _ _ => rfl) F
  clear F
  k_steps
  exact h _
theorem rs_10_2 {M : Model} {A : Around} {Q : Value → Shared → Prop} {E : Value → Shared → Prop} {s : Shared} (h : wpAny M A (call .none [.none]) Q E s) : wpAny M A (call .none [.none]) Q E s := by first | (walk1; fail "") | exact h
section
variable {vs : List Value} {n : Nat}
theorem a2_q0 (hX : (hd.heap_1 w.params).In h₀) (S : At h₀ L xh ((Str.ofString "this_ch", .int v t) :: a2N lo 0 l i tq tl tp ti st) ((lo, listOf vs.toArray n) :: rest))
    (k : ∀ h tk tq tl ti, At h₀ L h (a2N lo 1 (v) (i + 1) tq tl tp ti st) ((lo, listOf vs.toArray n) :: rest) → Q .next ⟨h, xg, xd, tk, xo⟩) :
    wpAny (model PySem.Challenge.rw_op0087_01.row.prog w) ((AA dp un gd fr).deeper (a2E L f cd)) (execs [a2For 5, a2For 6] (a2E L f cd)) Q E ⟨xh, xg, xd, xt, xo⟩ := by
  refine At.use S ?_
  clear S
  intro m₀ mq F N
  conv in a2For 5 => whnf
  conv in a2For 6 => whnf
  have mkQ := mark 36
  k_steps
  delta Stop
  refine a2_is (b := true) (by assumption) rfl rfl fun tk => ?_
  clear mkQ
  k_steps
  exact k _ _ _ _ _ (At.mk (by assumption) (by assumption) ⟨rfl, rfl, rfl, rfl, rfl, rfl, trivial⟩ fun p hp => hp)
theorem a2_q1 (hX : (hd.heap_1 w.params).In h₀) (h0 : 0 ≤ v) (h64 : v < 64) (l0 : 0 ≤ l) (l64 : l < 64) (S : At h₀ L xh ((Str.ofString "this_ch", .int v t) :: a2N lo 1 l i tq tl tp ti st) ((lo, listOf vs.toArray n) :: rest)) (hr : ∀ p ∈ rest, p.1 ≠ lo) (hn : vs.length ≤ 16)
    (k : ∀ h tk tq tl ti tv, At h₀ L h (a2N lo 2 (v % 16) (i + 1) tq tl tp ti st) ((lo, listOf (vs ++ [Value.int (l * 4 + v / 16) tv]).toArray (n + 1)) :: rest) → Q .next ⟨h, xg, xd, tk, xo⟩) :
    wpAny (model PySem.Challenge.rw_op0087_01.row.prog w) ((AA dp un gd fr).deeper (a2E L f cd)) (execs [a2For 5, a2For 6] (a2E L f cd)) Q E ⟨xh, xg, xd, xt, xo⟩ := by
  refine At.use S ?_
  clear S
  intro m₀ mq F N
  conv in a2For 5 => whnf
  conv in a2For 6 => whnf
  have mkQ := mark 36
  have mk1 := mark 31
  have mk2 := mark 32
  have mk3 := mark 29
  have mk4 := mark 30
  have mk5 := mark 14
  k_steps
  delta Stop
  refine a2_is (b := false) (by assumption) rfl rfl fun tk => ?_
  k_steps
  delta Stop
  refine a2_is (b := true) (by assumption) rfl rfl fun tk => ?_
  clear mkQ
  k_steps
  delta Stop
  refine shl_k 2 4 (by decide) (by decide) rfl l0 (Int.lt_trans l64 (by decide)) ?_
  k_steps
  delta Stop
  refine shr_k 4 16 (by decide) rfl ?_
  k_steps
  delta Stop
  refine or_c 2 (c := 4) (by decide) l0 (Int.ediv_nonneg h0 (by decide)) (Int.ediv_lt_of_lt_mul (by decide) h64) ?_
  k_steps
  delta Stop
  rename Fr _ _ _ _ => F
  rename News _ _ _ _ => N
  refine append_K F N (Upd.head hr) ?_ (by simp [sizeLine]; lia)
  intro h F N
  rw [List.push_toArray] at N
  k_steps
  delta Stop
  refine and_15 ?_
  k_steps
  exact k _ _ _ _ _ _ (At.mk (by assumption) (by assumption) ⟨rfl, rfl, rfl, rfl, rfl, rfl, trivial⟩ fun p hp => hp)
theorem a2_q2 (hX : (hd.heap_1 w.params).In h₀) (h0 : 0 ≤ v) (h64 : v < 64) (l0 : 0 ≤ l) (l64 : l < 64) (S : At h₀ L xh ((Str.ofString "this_ch", .int v t) :: a2N lo 2 l i tq tl tp ti st) ((lo, listOf vs.toArray n) :: rest)) (hr : ∀ p ∈ rest, p.1 ≠ lo) (hn : vs.length ≤ 16)
    (k : ∀ h tk tq tl ti tv, At h₀ L h (a2N lo 3 (v % 4) (i + 1) tq tl tp ti st) ((lo, listOf (vs ++ [Value.int (l * 16 + v / 4) tv]).toArray (n + 1)) :: rest) → Q .next ⟨h, xg, xd, tk, xo⟩) :
    wpAny (model PySem.Challenge.rw_op0087_01.row.prog w) ((AA dp un gd fr).deeper (a2E L f cd)) (execs [a2For 5, a2For 6] (a2E L f cd)) Q E ⟨xh, xg, xd, xt, xo⟩ := by
  refine At.use S ?_
  clear S
  intro m₀ mq F N
  conv in a2For 5 => whnf
  conv in a2For 6 => whnf
  have mkQ := mark 36
  have mk1 := mark 31
  have mk2 := mark 32
  have mk3 := mark 29
  have mk4 := mark 30
  have mk5 := mark 14
  k_steps
  delta Stop
  refine a2_is (b := false) (by assumption) rfl rfl fun tk => ?_
  k_steps
  delta Stop
  refine a2_is (b := false) (by assumption) rfl rfl fun tk => ?_
  k_steps
  delta Stop
  refine a2_is (b := true) (by assumption) rfl rfl fun tk => ?_
  clear mkQ
  k_steps
  delta Stop
  refine shl_k 4 16 (by decide) (by decide) rfl l0 (Int.lt_trans l64 (by decide)) ?_
  k_steps
  delta Stop
  refine shr_k 2 4 (by decide) rfl ?_
  k_steps
  delta Stop
  refine or_c 4 (c := 16) (by decide) l0 (Int.ediv_nonneg h0 (by decide)) (Int.ediv_lt_of_lt_mul (by decide) h64) ?_
  k_steps
  delta Stop
  rename Fr _ _ _ _ => F
  rename News _ _ _ _ => N
  refine append_K F N (Upd.head hr) ?_ (by simp [sizeLine]; lia)
  intro h F N
  rw [List.push_toArray] at N
  k_steps
  delta Stop
  refine and_3 ?_
  k_steps
  exact k _ _ _ _ _ _ (At.mk (by assumption) (by assumption) ⟨rfl, rfl, rfl, rfl, rfl, rfl, trivial⟩ fun p hp => hp)
theorem a2_q3 (hX : (hd.heap_1 w.params).In h₀) (h0 : 0 ≤ v) (h64 : v < 64) (l0 : 0 ≤ l) (l64 : l < 64) (S : At h₀ L xh ((Str.ofString "this_ch", .int v t) :: a2N lo 3 l i tq tl tp ti st) ((lo, listOf vs.toArray n) :: rest)) (hr : ∀ p ∈ rest, p.1 ≠ lo) (hn : vs.length ≤ 16)
    (k : ∀ h tk tq tl ti tv, At h₀ L h (a2N lo 0 (0) (i + 1) tq tl tp ti st) ((lo, listOf (vs ++ [Value.int (l * 64 + v) tv]).toArray (n + 1)) :: rest) → Q .next ⟨h, xg, xd, tk, xo⟩) :
    wpAny (model PySem.Challenge.rw_op0087_01.row.prog w) ((AA dp un gd fr).deeper (a2E L f cd)) (execs [a2For 5, a2For 6] (a2E L f cd)) Q E ⟨xh, xg, xd, xt, xo⟩ := by
  refine At.use S ?_
  clear S
  intro m₀ mq F N
  conv in a2For 5 => whnf
  conv in a2For 6 => whnf
  have mkQ := mark 36
  have mk1 := mark 31
  have mk2 := mark 32
  have mk3 := mark 29
  have mk4 := mark 30
  have mk5 := mark 14
  k_steps
  delta Stop
  refine a2_is (b := false) (by assumption) rfl rfl fun tk => ?_
  k_steps
  delta Stop
  refine a2_is (b := false) (by assumption) rfl rfl fun tk => ?_
  k_steps
  delta Stop
  refine a2_is (b := false) (by assumption) rfl rfl fun tk => ?_
  clear mkQ
  k_steps
  delta Stop
  refine shl_k 6 64 (by decide) (by decide) rfl l0 (Int.lt_trans l64 (by decide)) ?_
  k_steps
  delta Stop
  refine or_c 6 (c := 64) (by decide) l0 h0 h64 ?_
  k_steps
  delta Stop
  rename Fr _ _ _ _ => F
  rename News _ _ _ _ => N
  refine append_K F N (Upd.head hr) ?_ (by simp [sizeLine]; lia)
  intro h F N
  rw [List.push_toArray] at N
  k_steps
  exact k _ _ _ _ _ _ (At.mk (by assumption) (by assumption) ⟨rfl, rfl, rfl, rfl, rfl, rfl, trivial⟩ fun p hp => hp)
end
theorem a2_end {pre out : List Int} {vs : List Value} {n tk : Nat} {h' : Heap} (hF : a2bF pre = (out, q, l)) (S : At h₀ L h' (a2N lo q l i tq tl tp ti st) ((lo, listOf vs.toArray n) :: rest)) (hi : IntsAre vs out) (hst : st = true → ∀ c ∈ pre, bval c < 64) :
    TEnd h₀ L (A2R st lo pre) rest [lo] ⟨xh, xg, xd, xt, xo⟩ ⟨h', xg, xd, tk, xo⟩ := by
  obtain ⟨m, F, N⟩ := S
  refine tend [(lo, listOf vs.toArray n)] F N rfl (fun p hp => by rw [List.mem_singleton.mp hp]; exact .head _) (fun p hp => .tail _ hp) fun _ κ => κ vs n i tq tl tp ti ?_ rfl ?_ hst
  · rw [hF]; exact ⟨rfl, rfl, rfl, rfl, rfl, rfl, trivial⟩
  · rw [hF]; exact hi
theorem a2_body {pre out : List Int} {vs : List Value} {n : Nat} {R : Flow → Shared → Prop} (hB : Below (AA dp un gd fr) base fr h₀) (hX : (hd.heap_1 w.params).In h₀) (hT : Top viewQ loose mean mg mb h₀) (hd : dp + 2 < recursionLimit) (hu : un + 16 < cLine)
    (hc : c ≠ 61) (hn : pre.length < 16) (hF : a2bF pre = (out, q, l)) (hr : ∀ p ∈ rest, p.1 ≠ lo) (hi : IntsAre vs out) (hst : st = true → ∀ c ∈ pre, bval c < 64)
    (S : At h₀ L xh ((Str.ofString "this_ch", .int c t) :: a2N lo q l i tq tl tp ti st) ((lo, listOf vs.toArray n) :: rest))
    (ke : st = true → 64 ≤ bval c → ∀ h h' e vs tk m nx, Fr h₀ L h m → News h₀ L h nx → Heap.MadeExcOf h h' e (.ref 53) vs → E (.ref e) ⟨h', xg, xd, tk, xo⟩) :
    wpAny (model PySem.Challenge.rw_op0087_01.row.prog w) ((AA dp un gd fr).deeper (a2E L f cd)) (execs (stmtBody ((stmtBody (topSt 17)).getD 7 (.Pass ⟨0, 0, 0, 0⟩))) (a2E L f cd)) (TPost h₀ L (A2R st lo (pre ++ [c])) rest [lo] ⟨xh, xg, xd, xt, xo⟩ R) E ⟨xh, xg, xd, xt, xo⟩ := by
  have e : stmtBody ((stmtBody (topSt 17)).getD 7 (.Pass ⟨0, 0, 0, 0⟩)) = [a2For 0, a2For 1, a2For 2, a2For 3, a2For 4, a2For 5, a2For 6] := rfl
  rw [e]
  clear e
  obtain ⟨ho7, _, ho3, ho1⟩ := a2bF_ok pre
  have hF' := a2bF_snoc pre c
  have hb := (bval_in c).1
  have hl : vs.length ≤ 16 := by rw [hi.length]; rw [hF] at ho7; exact Nat.le_of_lt (Nat.lt_of_le_of_lt ho7 hn)
  rw [hF] at hF' ho1 ho3
  with_reducible refine a2_fig hB hX hT hd hu hc S fun h tk t S' => ?_
  clear S
  by_cases h64 : 64 ≤ bval c
  · have hF' : a2bF (pre ++ [c]) = (out, q, l) := hF'.trans (if_pos h64)
    with_reducible refine a2_off hB hX hT hd hu h64 S' (fun hs h tk ti S => ?_) (fun hs h h' e vs tk m => ke hs h64 h h' e vs tk m _)
    exact a2_end (i := i + 1) hF' (S.sub (fun _ => ⟨rfl, rfl, rfl, rfl, rfl, rfl, trivial⟩) fun p hp => hp) hi (a2_hst hst fun h => absurd hs (by rw [h]; decide))
  · have hv : bval c < 64 := Int.not_le.mp h64
    with_reducible refine a2_on hX hv S' fun h tk tp S => ?_
    clear S'
    have hst' := a2_hst (k := c) hst fun _ => hv
    have k64 : ∀ {x y : Int}, x < y → y ≤ 64 → x < 64 := Int.lt_of_lt_of_le
    rcases ho1 with ⟨rfl, ho4⟩ | ⟨rfl, ho4⟩ | ⟨rfl, ho4⟩ | ⟨rfl, ho4⟩
    · with_reducible refine a2_q0 hX S fun h tk tq tl ti S' => ?_
      exact a2_end (hF'.trans (a2_s0 h64)) S' hi hst'
    · with_reducible refine a2_q1 hX hb hv ho3 ho4 S hr hl fun h tk tq tl ti tv S' => ?_
      exact a2_end (hF'.trans (a2_s1 h64)) S' (hi.append (.cons _ _ .nil)) hst'
    · with_reducible refine a2_q2 hX hb hv ho3 (k64 ho4 (by decide)) S hr hl fun h tk tq tl ti tv S' => ?_
      exact a2_end (hF'.trans (a2_s2 h64)) S' (hi.append (.cons _ _ .nil)) hst'
    · with_reducible refine a2_q3 hX hb hv ho3 (k64 ho4 (by decide)) S hr hl fun h tk tq tl ti tv S' => ?_
      exact a2_end (hF'.trans (a2_s3 h64)) S' (hi.append (.cons _ _ .nil)) hst'
theorem a2_fmt {n : Int} {u : Tok} {Q : Value → Shared → Prop} {E : Value → Shared → Prop} {A : Around} {fx : Str} (e : fx = Str.ofString "Invalid base64-encoded string: number of data characters (%d) cannot be 1 more than a multiple of 4") (h0 : 0 ≤ n) (h1 : n < 10 ^ 10) (h : ∀ x t' k, Q (.str x t') ⟨xh, xg, xd, k, xo⟩) :
    wpAny (model PySem.Challenge.rw_op0087_01.row.prog w) A (binaryOp .Mod (.str fx t) (.int n u)) Q E ⟨xh, xg, xd, xt, xo⟩ := by
  subst e
  refine' KPc.mod_int ?kpcF h0 h1 ?kpcm fun t' k => h _ t' k
  case kpcF => kpc_eq
  case kpcm => k_dflt kpc_run
noncomputable def a2Tail : List Stmt := (stmtBody (topSt 17)).drop 8
theorem a2_tail {out : List Int} {vs : List Value} {n : Nat} (hB : Below (AA dp un gd fr) base fr h₀) (hX : (hd.heap_1 w.params).In h₀) (hT : Top viewQ loose mean mg mb h₀) (hd : dp + 2 < recursionLimit) (hu : un + 16 < cLine)
    (h0 : 0 ≤ q) (h4 : q < 4) (hi : IntsAre vs out) (ho : out.length ≤ 16) (hin : ∀ x ∈ out, 0 ≤ x ∧ x < 256)
    (S : At h₀ L xh (a2N lo q l i tq tl tp ti st) ((lo, listOf vs.toArray n) :: rest))
    (kr : q = 0 → ∀ h tk t m, Fr h₀ L h m → Q (.ret (.bytes (byteArr out) t)) ⟨h, xg, xd, tk, xo⟩)
    (ke : q ≠ 0 → ∀ h h' e vs tk m nx, Fr h₀ L h m → News h₀ L h nx → Heap.MadeExcOf h h' e (.ref 53) vs → E (.ref e) ⟨h', xg, xd, tk, xo⟩) :
    wpAny (model PySem.Challenge.rw_op0087_01.row.prog w) ((AA dp un gd fr).deeper (a2E L f cd)) (execs a2Tail (a2E L f cd)) Q E ⟨xh, xg, xd, xt, xo⟩ := by
  refine At.use S ?_
  clear S
  intro m₀ mq F N
  conv in a2Tail => whnf
  have mk1 := mark 43
  k_steps
  delta Stop
  refine a2_fmt rfl (by lia) (by lia) ?_
  intro _ _ _
  k_steps
  · exact ke (by lia) _ _ _ _ _ _ _ (by assumption) (by assumption) (by assumption)
  · exact ke (by lia) _ _ _ _ _ _ _ (by assumption) (by assumption) (by assumption)
  · exact kr (by assumption) _ _ _ _ (by assumption)
end
theorem rs_10_3 {M : Model} {A : Around} {Q : Value → Shared → Prop} {E : Value → Shared → Prop} {s : Shared} (h : wpAny M A (call .none [.none]) Q E s) : wpAny M A (call .none [.none]) Q E s := by first | (walk1; fail "") | exact h
section
variable {w : World} {loose : List Str} {mean : ExcName → Option Value} {mg mb : Str → Option Value}
theorem a2b_spec {b : Array UInt8} {t : Tok} {strict : Bool} :
    CEk w loose mean mg mb 92 2 (fun _ => b.size ≤ 16 ∧ ∀ c ∈ KBw.bInts b, c ≠ 61) [.bytes b t] [(Str.ofString "strict_mode", .bool strict)] (A2Good strict (KBw.bInts b)) (fun t => .bytes (byteArr (a2bF (KBw.bInts b)).1) t) := by
  intro dp un gd fr base s Q E hB hX hT hpre hd hu hret hexc
  ((refine wpAny_call ?_; (k_dflt (refine' enterP ?k3 ?k5 ?k6 ?k7 ?k8 ?k9 ?kB ?_ ?c5 ?c2 ?c3 ?c4; (case k3 => k_asm); (case k5 => k_asm); (case k6 => k_is); (case k7 => k_is); (case k8 => ktr_room); (case k9 => first | exact BindsTo.of_eq rfl | exact binds_K (by k_in) rfl (by k_is) rfl rfl rfl | (refine' kp_binds ?kx ?ke; (case kx => k_in); (case ke => exact fun _ => rfl))); (case c5 => decide); (case kB => exact locs rfl); (case c2 => exact rfl); (case c3 => exact rfl); (case c4 => exact rfl); k_whole)); intro L' h' tk' F' N'; (try dsimp only); (try k_fold)))
  have mk1 := mark 20
  k_steps
  delta Stop
  (k_dflt (refine' use_CV asciibuf_spec (by (exact below_at (by assumption) (by assumption) rfl rfl rfl)) (by assumption) (by assumption) (by assumption) (by assumption) (by trivial) (by ktr_room) (by ktr_units) ?_; k_whole))
  (((intro t' h' tk' lF' lN'; k_sweep; try dsimp only)))
  k_steps
  delta Stop
  (k_dflt (refine' use_CV truth_spec (by (exact below_at (by assumption) (by assumption) rfl rfl rfl)) (by assumption) (by assumption) (by assumption) (by assumption) (by trivial) (by ktr_room) (by ktr_units) ?_; k_whole))
  (((intro t' h' tk' lF' lN'; k_sweep; try dsimp only)))
  k_steps
  delta Stop
  rename Fr _ _ _ _ => F
  with_unfolding_all refine' For_invVF F ?k1 ?k2 ?_
  case k1 => exact rfl
  case k2 => exact rfl
  walk1
  rename News _ _ _ _ => N
  refine iter_bytes_T (A2R strict _) rfl rfl F N (fun _ q => q [] 0 _ _ _ _ _ ⟨rfl, rfl, rfl, rfl, rfl, rfl, trivial⟩ rfl .nil fun _ _ h => nomatch h) (fun k t pre post m₁ nx h tk own hks h0 h1 hoff hJ F₁ N₁ => ?_) fun m₁ nx h tk hJ F₁ N₁ => ?_
  · clear F N
    refine hJ _ ?_
    clear hJ
    intro vs n i tq tl tp ti hs e0 hi hst
    replace N₁ := news_eq e0 N₁
    clear e0
    have hl : pre.length < 16 := by
      have := congrArg List.length hks
      rw [KBw.ints_length, List.length_append, List.length_cons] at this
      have := hpre.1
      lia
    have hk : k ∈ KBw.bInts b := by rw [hks]; exact List.mem_append_right _ (.head _)
    refine a2_body hB hX hT hd hu (hpre.2 k hk) hl rfl (fun p hp => hoff p hp _ (.head _)) hi hst (At.mk F₁ N₁ ⟨rfl, hs⟩ fun p hp => hp) fun hs' h64 h h' e vs tk m nx F N hx => ?_
    ((refine' leave_raiseS ?k1 ?k0 ?k2 ?k3 ?_; (case k0 => assumption); (case k1 => assumption); (case k2 => assumption); (case k3 => k_asm); k_whole; intro h' t' R' R₂' U'; (try dsimp only at R' U' ⊢)))
    k_steps
    exact hexc (fun hg => absurd (hg.1 hs' k hk) (Int.not_lt.mpr h64)) _ _ _ _ _ (raisedS_drop (by assumption)) (by assumption)
  · clear F N
    refine hJ _ ?_
    clear hJ
    intro vs n i tq tl tp ti hs e0 hi hst
    replace N₁ := news_is e0 N₁
    clear e0
    obtain ⟨ho7, ho8, _, ho1⟩ := a2bF_ok (KBw.bInts b)
    have ho2 : 0 ≤ (a2bF (KBw.bInts b)).2.1 ∧ (a2bF (KBw.bInts b)).2.1 < 4 := by rcases ho1 with h | h | h | h <;> rw [h.1] <;> decide
    refine a2_tail hB hX hT hd hu ho2.1 ho2.2 hi (Nat.le_trans ho7 (by rw [KBw.ints_length]; exact hpre.1)) ho8 (At.mk F₁ N₁ hs fun p hp => hp) (fun hq h tk t m F => ?_) fun hq h h' e vs tk m nx F N hx => ?_
    · exact hret ⟨hst, hq⟩ _ _ _ (Fr.keep F)
    · ((refine' leave_raiseS ?k1 ?k0 ?k2 ?k3 ?_; (case k0 => assumption); (case k1 => assumption); (case k2 => assumption); (case k3 => k_asm); k_whole; intro h' t' R' R₂' U'; (try dsimp only at R' U' ⊢)))
      k_steps
      exact hexc (fun hg => hq hg.2) _ _ _ _ _ (raisedS_drop (by assumption)) (by assumption)
end

noncomputable def codesI (x : Str) : List Int := x.cps.toList.map fun (c : Nat) => (c : Int)
theorem bInts_codes {x : Str} (h : ∀ c ∈ x.cps.toList, c < 128) : KBw.bInts (x.cps.map (·.toUInt8)) = codesI x := by
  unfold KBw.bInts codesI
  rw [Array.toList_map, List.map_map]
  apply List.map_congr_left
  intro c hc
  have := h c hc
  show ((c.toUInt8.toNat : Nat) : Int) = (c : Int)
  have e : c.toUInt8.toNat = c := by
    show c % 256 = c
    lia
  rw [e]
theorem rs_11_1 {M : Model} {A : Around} {Q : Value → Shared → Prop} {E : Value → Shared → Prop} {s : Shared} (h : wpAny M A (call .none [.none]) Q E s) : wpAny M A (call .none [.none]) Q E s := by first | (walk1; fail "") | exact h
section
variable {w : World} {loose : List Str} {mean : ExcName → Option Value} {mg mb : Str → Option Value}
theorem decode_spec {x : Str} {t : Tok} {strict : Bool} :
    CEk w loose mean mg mb 116 3 (fun _ => (∀ c ∈ x.cps.toList, c < 128) ∧ x.length ≤ 16 ∧ ∀ c ∈ codesI x, c ≠ 61) [.str x t] [(Str.ofString "validate", .bool strict)] (A2Good strict (codesI x)) (fun t => .bytes (byteArr (a2bF (codesI x)).1) t) := by
  intro dp un gd fr base s Q E hB hX hT hpre hd hu hret hexc
  obtain ⟨hp1, hp2, hp3⟩ := hpre
  have hbi := bInts_codes hp1
  have hq : (x.cps.map (·.toUInt8)).size ≤ 16 ∧ ∀ c ∈ KBw.bInts (x.cps.map (·.toUInt8)), c ≠ 61 := by
    rw [hbi]
    exact ⟨by rw [Array.size_map]; exact hp2, hp3⟩
  rw [← hbi] at hret hexc
  have mkL := mark 25
  ((refine wpAny_call ?_; (k_dflt (refine' enterP ?k3 ?k5 ?k6 ?k7 ?k8 ?k9 ?kB ?_ ?c5 ?c2 ?c3 ?c4; (case k3 => k_asm); (case k5 => k_asm); (case k6 => k_is); (case k7 => k_is); (case k8 => ktr_room); (case k9 => first | exact BindsTo.of_eq rfl | exact binds_K (by k_in) rfl (by k_is) rfl rfl rfl | (refine' kp_binds ?kx ?ke; (case kx => k_in); (case ke => exact fun _ => rfl))); (case c5 => decide); (case kB => exact locs rfl); (case c2 => exact rfl); (case c3 => exact rfl); (case c4 => exact rfl); k_whole)); intro L' h' tk' F' N'; (try dsimp only); (try k_fold)))
  k_steps
  delta Stop
  (k_dflt (refine' use_CV decodeData_spec (by (exact below_at (by assumption) (by assumption) rfl rfl rfl)) (by assumption) (by assumption) (by assumption) (by assumption) (by exact ⟨hp1, Nat.le_trans hp2 (by decide)⟩) (by ktr_room) (by ktr_units) ?_; k_whole))
  (((intro t' h' tk' lF' lN'; k_sweep; try dsimp only)))
  k_steps
  delta Stop
  k_dflt (refine' a2b_spec _ _ _ _ _ _ _ _ (by exact below_at (by assumption) (by assumption) rfl rfl rfl) (by exact in_at (by assumption) (by assumption)) (by exact top_at (by assumption) (by assumption)) (by assumption) (by ktr_room) (by ktr_units) ?_ ?_)
  ((rename Fr _ _ _ _ => lF'); (rename News _ _ _ _ => lN'); (rotate_left; focus (intro hn' e' t' xs' h' tk' R' U'; try dsimp only)); (rotate_left; focus (intro ho' t' h' tk' st'; (replace lF' := Fr.keeps lF' st'); (replace lN' := News.grown lN' st'); clear st'; (try dsimp only))))
  all_goals k_steps
  all_goals (try (delta Stop; ((refine' leave_onS ?k1 ?k2 ?k3 ?k4 ?_; (case k3 => assumption); (case k1 => assumption); (case k4 => assumption); (case k2 => assumption); k_whole; intro h' R' R₂' U'; (try dsimp only at R' U' ⊢))); k_steps))
  all_goals first
    | exact hret (by assumption) _ _ _ (Fr.keep (by assumption))
    | exact hexc (by assumption) _ _ _ _ _ (by assumption) (by assumption)
end

theorem rs_12_1 {M : Model} {A : Around} {Q : Value → Shared → Prop} {E : Value → Shared → Prop} {s : Shared} (h : wpAny M A (call .none [.none]) Q E s) : wpAny M A (call .none [.none]) Q E s := by first | (walk1; fail "") | exact h
section
variable {w : World} {loose : List Str} {mean : ExcName → Option Value} {mg mb : Str → Option Value}
theorem read_spec {x : Str} {t : Tok} {strict : Bool} (dp un : Nat) (gd : Option (List Code)) (fr : List Env) (base : Heap) (s : Shared) (Q E : Value → Shared → Prop)
    (hB : Below (AA dp un gd fr) base fr s.heap) (hX : (hd.heap_1 w.params).In s.heap) (hT : Top viewQ loose mean mg mb s.heap) (hXB : (hd.heap_1 w.params).In base) (hTB : Top viewQ loose mean mg mb base) (hD : KtsDicts (fr.filterMap (·.frame)) s.heap)
    (hpre : (∀ c ∈ x.cps.toList, c < 128) ∧ x.length ≤ 16 ∧ ∀ c ∈ codesI x, c ≠ 61) (hd : dp + 4 < recursionLimit) (hu : un + 8 * 4 < cLine)
    (hret : A2Good strict (codesI x) → ∀ (r : Addr) (t : Tok) (c : Nat) (h' : Heap) (tk' : Nat), s.heap.StaysIn h' → s.heap.get? r = none → h'.get? r = some (listOf #[.bool true, .bytes (byteArr (a2bF (codesI x)).1) t] c) → Q (.ref r) { s with heap := h', toks := tk' })
    (hnone : ¬ A2Good strict (codesI x) → ∀ (h' g' : Heap) (tk' : Nat), KtsTurn (fr.filterMap (·.frame)) s.heap g' → g'.StaysIn h' → Q .none { s with heap := h', toks := tk' }) :
    wpAny (model PySem.Challenge.rw_op0087_01.row.prog w) (AA dp un gd fr) (call (.ref 149) [.str x t, .bool strict]) Q E s := by
  ((refine wpAny_call ?_; (k_dflt (refine' enterP ?k3 ?k5 ?k6 ?k7 ?k8 ?k9 ?kB ?_ ?c5 ?c2 ?c3 ?c4; (case k3 => k_asm); (case k5 => k_asm); (case k6 => k_is); (case k7 => k_is); (case k8 => ktr_room); (case k9 => first | exact BindsTo.of_eq rfl | exact binds_K (by k_in) rfl (by k_is) rfl rfl rfl | (refine' kp_binds ?kx ?ke; (case kx => k_in); (case ke => exact fun _ => rfl))); (case c5 => decide); (case kB => exact locs rfl); (case c2 => exact rfl); (case c3 => exact rfl); (case c4 => exact rfl); k_whole)); intro L' h' tk' F' N'; (try dsimp only); (try k_fold)))
  k_steps
  delta Stop
  k_dflt (refine' decode_spec _ _ _ _ _ _ _ _ (by exact below_at (by assumption) (by assumption) rfl rfl rfl) (by exact in_at (by assumption) (by assumption)) (by exact top_at (by assumption) (by assumption)) (by assumption) (by ktr_room) (by ktr_units) ?_ ?_)
  ((rename Fr _ _ _ _ => lF'); (rename News _ _ _ _ => lN'); (rotate_left; focus (intro hn' e' t' xs' h' tk' R' U'; try dsimp only)); (rotate_left; focus (intro ho' t' h' tk' st'; (replace lF' := Fr.keeps lF' st'); (replace lN' := News.grown lN' st'); clear st'; (try dsimp only))))
  · have mkT := mark 26
    k_steps
    delta Stop
    refine type_bytes ?_
    k_steps
    rename News _ _ _ _ => lN'
    exact hret (by assumption) _ _ _ _ _ (Fr.keep (by assumption)) (lN' _ (.head _)).2.2 (lN' _ (.head _)).1
  · k_steps
    rename KtsTurn _ _ _ => lT'
    exact hnone (by assumption) _ _ _ lT' (Fr.keep (by assumption))
end

noncomputable def cpre : List Nat → List Nat → Nat
  | x :: xs, y :: ys => if x = y then cpre xs ys + 1 else 0
  | _, _ => 0
theorem cpre_is : ∀ {xs ys : List Nat} {p : Nat}, p ≤ xs.length → p ≤ ys.length → xs.take p = ys.take p → (p = xs.length ∨ p = ys.length ∨ xs.getD p 0 ≠ ys.getD p 0) → p = cpre xs ys
  | [], ys, p, h1, _, _, _ => by
    have : p = 0 := by simpa using h1
    subst this; cases ys <;> rfl
  | x :: xs, [], p, _, h2, _, _ => by
    have : p = 0 := by simpa using h2
    subst this; rfl
  | x :: xs, y :: ys, 0, _, _, _, h => by
    have : x ≠ y := by simpa using h
    simp [cpre, this]
  | x :: xs, y :: ys, p + 1, h1, h2, h3, h => by
    simp only [List.take_succ_cons, List.cons.injEq] at h3
    have ih := cpre_is (xs := xs) (ys := ys) (p := p) (by simpa using h1) (by simpa using h2) h3.2 (by simpa using h)
    simp only [cpre, h3.1, if_true]
    lia
theorem cut_range {xs : List Nat} {lo : Nat} : ∀ {m : Nat}, lo + m ≤ xs.length → ((List.range m).map (fun k => lo + k)).filterMap (fun i => xs[i]?) = (xs.drop lo).take m
  | 0, _ => by simp
  | m + 1, h => by
    have ih := cut_range (xs := xs) (lo := lo) (m := m) (by lia)
    rw [List.range_succ, List.map_append, List.filterMap_append, ih, List.take_add_one, List.getElem?_drop]
    have : lo + m < xs.length := by lia
    simp [this]
theorem slice_val {xs : List Nat} {l u : Option Int} {lo hi : Nat} (h : Builtin.Str.strSliceIndices l u 1 xs.length = (List.range (hi - lo)).map (fun k => lo + k)) (h1 : lo ≤ hi) (h2 : hi ≤ xs.length) :
    Txt.slice ⟨xs.toArray⟩ l u = ⟨((xs.drop lo).take (hi - lo)).toArray⟩ := by
  have hl : Str.length ⟨xs.toArray⟩ = xs.length := by simp [Str.length]
  unfold Txt.slice
  rw [hl, h]
  split
  · rename_i e
    simp only [beq_self_eq_true, Bool.true_and, List.length_map, List.length_range, beq_iff_eq] at e
    have e1 : lo = 0 := by lia
    have e2 : hi = xs.length := by lia
    subst e1 e2
    simp
  · have := cut_range (xs := xs) (lo := lo) (m := hi - lo) (by lia)
    simp only [List.getElem?_toArray]
    rw [this]
theorem sliceRange_nat (lo hi : Nat) : sliceRange (lo : Int) (hi : Int) 1 = (List.range (hi - lo)).map (fun k => lo + k) := by
  unfold sliceRange
  simp only [show (1 : Int) > 0 by decide, if_true]
  have e : (if (lo : Int) < (hi : Int) then ((hi : Int) - lo + 1 - 1) / 1 else 0).toNat = hi - lo := by
    split <;> lia
  rw [e]
  apply List.map_congr_left
  intro k _
  lia
theorem idx_of {n lo hi : Nat} {l u : Option Int} (hl : (match l with | none => (0 : Int) | some i => max 0 (min (if i < 0 then i + (n : Int) else i) (n : Int))) = (lo : Int)) (hu : (match u with | none => (n : Int) | some i => max 0 (min (if i < 0 then i + (n : Int) else i) (n : Int))) = (hi : Int)) :
    Builtin.Str.strSliceIndices l u 1 n = (List.range (hi - lo)).map (fun k => lo + k) := by
  rw [← sliceRange_nat lo hi, ← hl, ← hu]
  unfold Builtin.Str.strSliceIndices
  simp only [show (1 : Int) > 0 by decide, if_true]
  cases l <;> cases u <;> rfl
theorem idx_sn {n lo : Nat} (h1 : lo ≤ n) : Builtin.Str.strSliceIndices (some (lo : Int)) none 1 n = (List.range (n - lo)).map (fun k => lo + k) :=
  idx_of (by dsimp only; split <;> lia) rfl
theorem idx_ss {n lo hi : Nat} (h1 : lo ≤ hi) (h2 : hi ≤ n) : Builtin.Str.strSliceIndices (some (lo : Int)) (some (hi : Int)) 1 n = (List.range (hi - lo)).map (fun k => lo + k) :=
  idx_of (by dsimp only; split <;> lia) (by dsimp only; split <;> lia)
theorem idx_ns {n hi : Nat} (h2 : hi ≤ n) : Builtin.Str.strSliceIndices none (some (hi : Int)) 1 n = (List.range (hi - 0)).map (fun k => 0 + k) :=
  idx_of rfl (by dsimp only; split <;> lia)
theorem idx_neg {n k : Nat} (h0 : 0 < k) (h2 : k ≤ n) : Builtin.Str.strSliceIndices none (some (-(k : Int))) 1 n = (List.range (n - k - 0)).map (fun k => 0 + k) :=
  idx_of rfl (by dsimp only; split <;> lia)
theorem idx_nn {n : Nat} : Builtin.Str.strSliceIndices none none 1 n = (List.range (n - 0)).map (fun k => 0 + k) := idx_of rfl rfl
theorem slice_from {xs : List Nat} {p : Nat} (h : p ≤ xs.length) : Txt.slice ⟨xs.toArray⟩ (some (p : Int)) none = ⟨(xs.drop p).toArray⟩ := by
  rw [slice_val (idx_sn h) h (Nat.le_refl _)]
  congr 2
  exact List.take_of_length_le (by simp)
theorem slice_to {xs : List Nat} {p : Nat} (h : p ≤ xs.length) : Txt.slice ⟨xs.toArray⟩ none (some (p : Int)) = ⟨(xs.take p).toArray⟩ := by
  rw [slice_val (idx_ns h) (Nat.zero_le _) h]; simp
theorem slice_all {xs : List Nat} : Txt.slice ⟨xs.toArray⟩ none none = ⟨xs.toArray⟩ := by
  rw [slice_val idx_nn (Nat.zero_le _) (Nat.le_refl _)]; simp
theorem slice_neg {xs : List Nat} {k : Nat} (h0 : 0 < k) (h : k ≤ xs.length) : Txt.slice ⟨xs.toArray⟩ none (some (-(k : Int))) = ⟨(xs.take (xs.length - k)).toArray⟩ := by
  rw [slice_val (idx_neg h0 h) (Nat.zero_le _) (by lia)]; simp
theorem slice_mid {xs : List Nat} {lo hi : Nat} (h1 : lo ≤ hi) (h : hi ≤ xs.length) : Txt.slice ⟨xs.toArray⟩ (some (lo : Int)) (some (hi : Int)) = ⟨((xs.drop lo).take (hi - lo)).toArray⟩ :=
  slice_val (idx_ss h1 h) h1 h
theorem item_at {xs : List Nat} {p : Nat} (h : p < xs.length) : Txt.item ⟨xs.toArray⟩ (p : Int) = ⟨#[xs.getD p 0]⟩ := by
  have hl : Str.length ⟨xs.toArray⟩ = xs.length := by simp [Str.length]
  unfold Txt.item Txt.charAt seqIndex?
  rw [hl]
  simp only [show ¬ ((p : Int) < 0) by lia, if_false]
  have : (0 ≤ (p : Int) ∧ (p : Int) < (xs.length : Int)) := by lia
  simp [this, h]
theorem item_neg {xs : List Nat} {k : Nat} (h : k < xs.length) : Txt.item ⟨xs.toArray⟩ (-(k : Int) - 1) = ⟨#[xs.reverse.getD k 0]⟩ := by
  have hl : Str.length ⟨xs.toArray⟩ = xs.length := by simp [Str.length]
  unfold Txt.item Txt.charAt seqIndex?
  rw [hl]
  simp only [show (-(k : Int) - 1 < 0) by lia, if_true]
  have hj : -(k : Int) - 1 + (xs.length : Int) = ((xs.length - 1 - k : Nat) : Int) := by lia
  rw [hj]
  have hlt : xs.length - 1 - k < xs.length := by lia
  simp [hlt, h]
theorem take_succ_eq {xs ys : List Nat} {p : Nat} (h : xs.take p = ys.take p) (h1 : p < xs.length) (h2 : p < ys.length) (e : xs.getD p 0 = ys.getD p 0) : xs.take (p + 1) = ys.take (p + 1) := by
  rw [List.take_add_one, List.take_add_one, h]
  have e' : xs[p] = ys[p] := by simpa [h1, h2] using e
  simp [h1, h2, e']
theorem item_beq {xs ys : List Nat} {p q : Int} {i j : Nat} {b : Bool} (h : (Txt.item ⟨xs.toArray⟩ p == Txt.item ⟨ys.toArray⟩ q) = b) (e1 : Txt.item ⟨xs.toArray⟩ p = ⟨#[i]⟩) (e2 : Txt.item ⟨ys.toArray⟩ q = ⟨#[j]⟩) : (i = j) ↔ b = true := by
  rw [e1, e2] at h
  subst h
  simp
theorem cpre_le : ∀ (xs ys : List Nat), cpre xs ys ≤ xs.length ∧ cpre xs ys ≤ ys.length
  | [], ys => by simp [cpre]
  | x :: xs, [] => by simp [cpre]
  | x :: xs, y :: ys => by
    have := cpre_le xs ys
    simp only [cpre, List.length_cons]
    split <;> lia
noncomputable def sc (c d : Nat) : Int := if c = d then 0 else if lo1 c = lo1 d then 1 else 2
theorem sc_in (c d : Nat) : 0 ≤ sc c d ∧ sc c d ≤ 2 := by
  unfold sc
  repeat' split
  all_goals lia
noncomputable def ed : List Nat → List Nat → Int
  | [], ys => 2 * (ys.length : Int)
  | _ :: xs, [] => 2 * ((xs.length : Int) + 1)
  | x :: xs, y :: ys => min (min (ed xs (y :: ys)) (ed (x :: xs) ys) + 2) (ed xs ys + sc x y)
noncomputable def edP (b a : List Nat) (i j : Nat) : Int := ed (b.take i).reverse (a.take j).reverse
theorem take_rev {b : List Nat} {i : Nat} (h : i < b.length) : (b.take (i + 1)).reverse = b.getD i 0 :: (b.take i).reverse := by
  rw [List.take_add_one]
  simp [h]
theorem edP_zero_l {b a : List Nat} {j : Nat} (h : j ≤ a.length) : edP b a 0 j = 2 * (j : Int) := by
  unfold edP
  simp only [List.take_zero, List.reverse_nil, ed, List.length_reverse, List.length_take]
  lia
theorem ed_nil_r (xs : List Nat) : ed xs [] = 2 * (xs.length : Int) := by
  cases xs <;> simp [ed]
theorem edP_zero_r {b a : List Nat} {i : Nat} (h : i ≤ b.length) : edP b a i 0 = 2 * (i : Int) := by
  unfold edP
  simp only [List.take_zero, List.reverse_nil, ed_nil_r, List.length_reverse, List.length_take]
  lia
theorem edP_succ {b a : List Nat} {i j : Nat} (hi : i < b.length) (hj : j < a.length) :
    edP b a (i + 1) (j + 1) = min (min (edP b a i (j + 1)) (edP b a (i + 1) j) + 2) (edP b a i j + sc (b.getD i 0) (a.getD j 0)) := by
  unfold edP
  rw [take_rev hi, take_rev hj, ed]
noncomputable def rowAt (b a : List Nat) (i j : Nat) : List Int := (List.range a.length).map fun q => if q < j then edP b a (i + 1) (q + 1) else edP b a i (q + 1)
theorem intsAre_of : ∀ {vs : List Value} {ns : List Int}, vs.length = ns.length → (∀ j v, vs[j]? = some v → ∃ t, v = Value.int (ns.getD j 0) t) → IntsAre vs ns
  | [], [], _, _ => .nil
  | [], _ :: _, h, _ => by simp at h
  | _ :: _, [], h, _ => by simp at h
  | v :: vs, n :: ns, h, hv => by
    obtain ⟨t, rfl⟩ := hv 0 v rfl
    exact .cons n t (intsAre_of (by simpa using h) fun j w hw => hv (j + 1) w (by simpa using hw))
theorem row0_ints {b a : List Nat} {acc : Array Value} (h : ItemsOf (fun i v => ∃ t, v = Value.int (2 + (i : Int) * 2) t) acc a.length) : IntsAre acc.toList (rowAt b a 0 0) := by
  obtain ⟨h1, h2⟩ := h
  refine intsAre_of (by simp [rowAt, h1]) fun j v hv => ?_
  have hv' : acc[j]? = some v := by simpa using hv
  obtain ⟨t, rfl⟩ := h2 j v hv'
  have hj : j < a.length := by
    have := (Array.getElem?_eq_some_iff.mp hv').1
    lia
  refine ⟨t, ?_⟩
  have : (rowAt b a 0 0).getD j 0 = 2 + (j : Int) * 2 := by
    unfold rowAt
    simp [hj, edP_zero_l (Nat.succ_le_of_lt hj)]
    lia
  rw [this]

theorem small_range {n : Nat} (h : n ≤ 16) : Builtin.Range.small 0 (n : Int) 1 = true := by
  have : ∀ q : Nat, q ≤ 16 → Builtin.Range.small 0 (q : Int) 1 = true := by decide
  exact this n h
theorem size_range (n : Nat) : Builtin.Range.rangeSize 0 (n : Int) 1 = (n : Int) := by
  unfold Builtin.Range.rangeSize
  simp only [show (1 : Int) > 0 by decide, if_true]
  split <;> lia
theorem scost_sc {c d : Nat} (hc : c < 128) (hd : d < 128) : scost ⟨#[c]⟩ ⟨#[d]⟩ = sc c d := by
  unfold scost sc
  rw [lower_ascii (x := ⟨#[c]⟩) (by simpa using hc), lower_ascii (x := ⟨#[d]⟩) (by simpa using hd)]
  simp
theorem row_get {b a : List Nat} {i j : Nat} (hj : j < a.length) : (rowAt b a i j).getD ((j : Int)).toNat 0 = edP b a i (j + 1) := by
  unfold rowAt
  simp [hj]
theorem sel0 (e r c : Int) : (if e < (if r < c then r else c) + 2 then e else (if r < c then r else c) + 2) = min (min r c + 2) e := by
  have h : (if r < c then r else c) = min r c := by split <;> omega
  rw [h]
  split <;> omega
theorem min_drop {x R y : Int} (h : y ≤ x + 2) : min (min R x + 2) y = min (R + 2) y := by
  rcases Int.le_total R x with h' | h'
  · rw [Int.min_eq_left h']
  · rw [Int.min_eq_right h', Int.min_eq_right h, Int.min_eq_right (Int.le_trans h (Int.add_le_add_right h' 2))]
theorem cell_val {b a : List Nat} {i j bc : Nat} {r dd : Int} (hr : r = if j = 0 then 2 * (i : Int) else edP b a (i + 1) j) (hdd : dd = edP b a i j) (hi : i < b.length) (hj : j < a.length) (hbc : b.getD i 0 = bc) (h1 : bc < 128) (h2 : ∀ c ∈ a, c < 128) :
    (if dd + scost ⟨#[bc]⟩ (Txt.item ⟨a.toArray⟩ (j : Int)) < (if (rowAt b a i j).getD ((j : Int)).toNat 0 < r then (rowAt b a i j).getD ((j : Int)).toNat 0 else r) + 2 then dd + scost ⟨#[bc]⟩ (Txt.item ⟨a.toArray⟩ (j : Int)) else (if (rowAt b a i j).getD ((j : Int)).toNat 0 < r then (rowAt b a i j).getD ((j : Int)).toNat 0 else r) + 2) = edP b a (i + 1) (j + 1) := by
  subst hr hdd
  have hd : a.getD j 0 < 128 := h2 _ (by simp [hj])
  rw [item_at hj, scost_sc h1 hd, row_get hj, edP_succ hi hj, hbc, sel0]
  have hs := sc_in bc (a.getD j 0)
  by_cases h0 : j = 0
  · subst h0
    have e1 := edP_zero_r (b := b) (a := a) (i := i) (Nat.le_of_lt hi)
    have e2 := edP_zero_r (b := b) (a := a) (i := i + 1) hi
    rw [if_pos rfl, e1, e2, min_drop (by lia), min_drop (by lia)]
  · rw [if_neg h0]
theorem row_set {b a : List Nat} {i j : Nat} (hj : j < a.length) : (rowAt b a i j).set ((j : Int)).toNat (edP b a (i + 1) (j + 1)) = rowAt b a i (j + 1) := by
  unfold rowAt
  apply List.ext_getElem
  · simp
  · intro q h1 h2
    simp only [Int.toNat_natCast, List.getElem_set, List.getElem_map, List.getElem_range]
    by_cases e : j = q
    · subst e; simp
    · simp only [e, if_false]
      by_cases l : q < j
      · rw [if_pos l, if_pos (by lia)]
      · rw [if_neg l, if_neg (by lia)]
theorem ints_eq {vs : List Value} {ns ns' : List Int} (h : IntsAre vs ns) (e : ns = ns') : IntsAre vs ns' := e ▸ h
theorem row_next (b a : List Nat) (i : Nat) : rowAt b a i a.length = rowAt b a (i + 1) 0 := by
  unfold rowAt
  apply List.map_congr_left
  intro q hq
  simp only [List.mem_range] at hq
  rw [if_pos hq, if_neg (by lia)]
theorem mn_lt {mc mn e : Int} {j : Nat} {f : Nat → Int} (h : mc < mn ↔ ∀ q < j, mc < f q) (he : e < mn) (hf : f j = e) : mc < e ↔ ∀ q < j + 1, mc < f q := by
  constructor
  · intro hm q hq
    by_cases e' : q = j
    · subst e'; rw [hf]; exact hm
    · exact h.1 (by lia) q (by lia)
  · intro hm
    have := hm j (by lia)
    rw [hf] at this; exact this
theorem mn_ge {mc mn e : Int} {j : Nat} {f : Nat → Int} (h : mc < mn ↔ ∀ q < j, mc < f q) (he : ¬ e < mn) (hf : f j = e) : mc < mn ↔ ∀ q < j + 1, mc < f q := by
  constructor
  · intro hm q hq
    by_cases e' : q = j
    · subst e'; rw [hf]; lia
    · exact h.1 hm q (by lia)
  · intro hm
    exact h.2 fun q hq => hm q (by lia)
theorem cut_next {mc mn : Int} {i n : Nat} {f : Nat → Nat → Int} (hcut : ∀ i' < i, ∃ q < n, f (i' + 1) (q + 1) ≤ mc) (hmn : mc < mn ↔ ∀ q < n, mc < f (i + 1) (q + 1)) (h : ¬ mc < mn) : ∀ i' < i + 1, ∃ q < n, f (i' + 1) (q + 1) ≤ mc := by
  intro i' hi'
  by_cases e : i' = i
  · subst e
    apply Classical.byContradiction
    intro hno
    refine h (hmn.2 fun q hq => ?_)
    apply Classical.byContradiction
    intro hq'
    exact hno ⟨q, hq, Int.not_lt.mp hq'⟩
  · exact hcut i' (by lia)
open Classical in
noncomputable def dpV (b a : List Nat) (mc : Int) : Int := if (∃ i, i < b.length ∧ ∀ q, q < a.length → mc < edP b a (i + 1) (q + 1)) then mc + 1 else edP b a b.length a.length
noncomputable def levV4 (a b : List Nat) (mc : Int) : Int := if mc < ((b.length : Int) - (a.length : Int)) * 2 then mc + 1 else dpV b a mc
noncomputable def levV3 (a b : List Nat) (mc : Int) : Int :=
  if a.length = 0 ∨ b.length = 0 then 2 * ((a.length : Int) + (b.length : Int)) else levV4 (if b.length < a.length then b else a) (if b.length < a.length then a else b) mc
noncomputable def levV2 (a b : List Nat) (mc : Int) : Int := levV3 (a.take (a.length - cpre a.reverse b.reverse)) (b.take (b.length - cpre a.reverse b.reverse)) mc
noncomputable def levV (xs ys : List Nat) (mc : Int) : Int := if xs = ys then 0 else levV2 (xs.drop (cpre xs ys)) (ys.drop (cpre xs ys)) mc
noncomputable def lvSt (n : Nat) : Stmt := (stmtBody (topSt 6)).getD n (.Pass ⟨0, 0, 0, 0⟩)
noncomputable abbrev lvE (L f : Addr) (cd : Value) : Env := envOf (Str.ofString "_levenshtein_distance") (stmtScope (topSt 6)) L f cd
theorem fr_same {h₀ h : Heap} {L : Addr} {m : Str → Option Value} {ps : List (Str × Value)} (h1 : HsL m ps) (F : Fr h₀ L h (kstB m ps)) : Fr h₀ L h m := (funext (kstB_same h1) : kstB m ps = m) ▸ F
theorem rs_14_1 {M : Model} {A : Around} {Q : Value → Shared → Prop} {E : Value → Shared → Prop} {s : Shared} (h : wpAny M A (call .none [.none]) Q E s) : wpAny M A (call .none [.none]) Q E s := by first | (walk1; fail "") | exact h
section
variable {w : World} {loose : List Str} {mean : ExcName → Option Value} {mg mb : Str → Option Value} {A : Around} {dp un : Nat} {gd : Option (List Code)} {fr : List Env} {base h₀ : Heap} {xh : Heap} {xg : Array GenState} {xd : Drawn} {xt : Nat} {xo : OsState} {Q : Flow → Shared → Prop} {QV : Value → Shared → Prop} {E : Value → Shared → Prop} {L f lo : Addr} {cd : Value} {mc : Int} {t0 t1 t2 t3 : Tok} {xs ys : List Nat}
 local macro_rules | `(tactic| omega) => `(tactic| (k_whole; lia))
theorem lv_cutA {k kk : Nat} {z : Int} {p1 p2 p3 p4 p5 p6 : Pos} {m : Str → Option Value} {news : List (Addr × Obj)} (F : Fr h₀ L xh m) (N : News h₀ L xh news) (hm : HsL m [(Str.ofString "post", .int z t0), (Str.ofString "a", .str ⟨xs.toArray⟩ t1)]) (hz : z = -(k : Int)) (hk : k ≤ xs.length) (hl : xs.length ≤ 16)
    (q : ∀ t h tk, Fr h₀ L h m → News h₀ L h news → QV (.str ⟨(xs.take (xs.length - k)).toArray⟩ t) ⟨h, xg, xd, tk, xo⟩) :
    wpAny (model PySem.Challenge.rw_op0087_01.row.prog w) A (eval (.Subscript (.Name (Str.ofString "a") p1) (.Slice none (some (.BoolOp .Or [.Name (Str.ofString "post") p2, .Constant .none kk p3] p4)) none p5) p6) (lvE L f cd)) QV E ⟨xh, xg, xd, xt, xo⟩ := by
  have F₂ := fr_Bl _ hm (fun _ _ => rfl) F
  clear F
  (try dsimp only at F₂ N q)
  have hl1 : Str.length ⟨xs.toArray⟩ = xs.length := by simp [Str.length]
  k_steps
  · rw [hz, slice_neg (by lia) hk]
    exact q _ _ _ (fr_same hm (by assumption)) (by assumption)
  · refine slice_strN_nn (s := ⟨_, _, _, _, _⟩) F₂ N ?_
    intro h t tk F N
    have e : xs.length - k = xs.length := by lia
    rw [slice_all]
    rw [e, List.take_length] at q
    exact q _ _ _ (fr_same hm F) N
theorem lv_cutB {k kk : Nat} {z : Int} {p1 p2 p3 p4 p5 p6 : Pos} {m : Str → Option Value} {news : List (Addr × Obj)} (F : Fr h₀ L xh m) (N : News h₀ L xh news) (hm : HsL m [(Str.ofString "post", .int z t0), (Str.ofString "b", .str ⟨xs.toArray⟩ t1)]) (hz : z = -(k : Int)) (hk : k ≤ xs.length) (hl : xs.length ≤ 16)
    (q : ∀ t h tk, Fr h₀ L h m → News h₀ L h news → QV (.str ⟨(xs.take (xs.length - k)).toArray⟩ t) ⟨h, xg, xd, tk, xo⟩) :
    wpAny (model PySem.Challenge.rw_op0087_01.row.prog w) A (eval (.Subscript (.Name (Str.ofString "b") p1) (.Slice none (some (.BoolOp .Or [.Name (Str.ofString "post") p2, .Constant .none kk p3] p4)) none p5) p6) (lvE L f cd)) QV E ⟨xh, xg, xd, xt, xo⟩ := by
  have F₂ := fr_Bl _ hm (fun _ _ => rfl) F
  clear F
  (try dsimp only at F₂ N q)
  have hl1 : Str.length ⟨xs.toArray⟩ = xs.length := by simp [Str.length]
  k_steps
  · rw [hz, slice_neg (by lia) hk]
    exact q _ _ _ (fr_same hm (by assumption)) (by assumption)
  · refine slice_strN_nn (s := ⟨_, _, _, _, _⟩) F₂ N ?_
    intro h t tk F N
    have e : xs.length - k = xs.length := by lia
    rw [slice_all]
    rw [e, List.take_length] at q
    exact q _ _ _ (fr_same hm F) N
noncomputable def LvP (mc : Int) (t1 t2 t3 : Tok) (xs ys : List Nat) (n : Nat) (m : Str → Option Value) (nx : List (Addr × Obj)) : Prop :=
  ∀ C : Prop, (∀ (p : Nat) (tp : Tok), n = xs.length - p → HsL m [(Str.ofString "pre", .int (p : Int) tp), (Str.ofString "a", .str ⟨xs.toArray⟩ t1), (Str.ofString "b", .str ⟨ys.toArray⟩ t2), (Str.ofString "max_cost", .int mc t3)] → p ≤ xs.length → p ≤ ys.length → xs.take p = ys.take p → nx = [] → C) → C
theorem lv_pre (hx : xs.length ≤ 16) (hy : ys.length ≤ 16) (hE : PassesOwn (model PySem.Challenge.rw_op0087_01.row.prog w) A (lvE L f cd) E)
    (S : At h₀ L xh [(Str.ofString "pre", .int 0 t0), (Str.ofString "a", .str ⟨xs.toArray⟩ t1), (Str.ofString "b", .str ⟨ys.toArray⟩ t2), (Str.ofString "max_cost", .int mc t3)] [])
    (q : ∀ t0 h tk, At h₀ L h [(Str.ofString "pre", .int (cpre xs ys : Int) t0), (Str.ofString "a", .str ⟨xs.toArray⟩ t1), (Str.ofString "b", .str ⟨ys.toArray⟩ t2), (Str.ofString "max_cost", .int mc t3)] [] → Q .next ⟨h, xg, xd, tk, xo⟩) :
    wpAny (model PySem.Challenge.rw_op0087_01.row.prog w) A (exec (lvSt 2) (lvE L f cd)) Q E ⟨xh, xg, xd, xt, xo⟩ := by
  refine At.use S ?_
  clear S
  intro m₀ mq F N
  (try dsimp only at F N q)
  conv in lvSt 2 => whnf
  refine while_T (LvP mc t1 t2 t3 xs ys) xs.length F N (fun _ q => q 0 _ rfl ⟨rfl, rfl, rfl, rfl, trivial⟩ (Nat.zero_le _) (Nat.zero_le _) rfl rfl) ?turn hE
  intro n m₁ nx h tk F₁ N₁ hJ
  refine hJ _ ?_
  clear hJ F N mq hE
  intro p tp hn hs hpx hpy htk e0
  subst hn e0
  have F₂ := fr_Bl _ hs (fun _ _ => rfl) F₁
  clear F₁ hs
  have hl1 : Str.length ⟨xs.toArray⟩ = xs.length := by simp [Str.length]
  have hl2 : Str.length ⟨ys.toArray⟩ = ys.length := by simp [Str.length]
  k_steps
  · have hlt1 : p < xs.length := by lia
    have hlt2 : p < ys.length := by lia
    rename ((Txt.item _ _ == Txt.item _ _) = true) => hit
    exact wend (xs.length - (p + 1)) (by assumption) (by assumption) (Nat.sub_lt_sub_left hlt1 (Nat.lt_succ_self p)) (fun _ q => q (p + 1) _ rfl ⟨rfl, rfl, rfl, rfl, trivial⟩ hlt1 hlt2 (take_succ_eq htk hlt1 hlt2 ((item_beq hit (item_at hlt1) (item_at hlt2)).2 rfl)) rfl)
  · rename ((Txt.item _ _ == Txt.item _ _) = false) => hit
    have hit' := item_beq hit (item_at (by lia)) (item_at (by lia))
    have hc : p = cpre xs ys := cpre_is hpx hpy htk (.inr (.inr fun e => by simpa using hit'.1 e))
    rw [← hc] at q
    exact q _ _ _ (At.mk (by assumption) (by assumption) ⟨rfl, rfl, rfl, rfl, trivial⟩ fun _ h => h)
  all_goals
    have hc : p = cpre xs ys := cpre_is hpx hpy htk (by lia)
    rw [← hc] at q
    exact q _ _ _ (At.mk (by assumption) (by assumption) ⟨rfl, rfl, rfl, rfl, trivial⟩ fun _ h => h)
theorem neg_succ {z : Int} {k : Nat} (h : z = -(k : Int)) : z - 1 = -((k + 1 : Nat) : Int) := by lia
noncomputable def LvF (mc : Int) (t1 t2 t3 : Tok) (xs ys : List Nat) (n : Nat) (m : Str → Option Value) (nx : List (Addr × Obj)) : Prop :=
  ∀ C : Prop, (∀ (k : Nat) (z : Int) (tp : Tok), n = xs.length - k → z = -(k : Int) → HsL m [(Str.ofString "post", .int z tp), (Str.ofString "a", .str ⟨xs.toArray⟩ t1), (Str.ofString "b", .str ⟨ys.toArray⟩ t2), (Str.ofString "max_cost", .int mc t3)] → k ≤ xs.length → k ≤ ys.length → xs.reverse.take k = ys.reverse.take k → nx = [] → C) → C
theorem lv_post (hx : xs.length ≤ 16) (hy : ys.length ≤ 16) (hE : PassesOwn (model PySem.Challenge.rw_op0087_01.row.prog w) A (lvE L f cd) E)
    (S : At h₀ L xh [(Str.ofString "post", .int 0 t0), (Str.ofString "a", .str ⟨xs.toArray⟩ t1), (Str.ofString "b", .str ⟨ys.toArray⟩ t2), (Str.ofString "max_cost", .int mc t3)] [])
    (q : ∀ t0 h tk, At h₀ L h [(Str.ofString "post", .int (-(cpre xs.reverse ys.reverse : Int)) t0), (Str.ofString "a", .str ⟨xs.toArray⟩ t1), (Str.ofString "b", .str ⟨ys.toArray⟩ t2), (Str.ofString "max_cost", .int mc t3)] [] → Q .next ⟨h, xg, xd, tk, xo⟩) :
    wpAny (model PySem.Challenge.rw_op0087_01.row.prog w) A (exec (lvSt 6) (lvE L f cd)) Q E ⟨xh, xg, xd, xt, xo⟩ := by
  refine At.use S ?_
  clear S
  intro m₀ mq F N
  (try dsimp only at F N q)
  conv in lvSt 6 => whnf
  refine while_T (LvF mc t1 t2 t3 xs ys) xs.length F N (fun _ q => q 0 0 _ rfl rfl ⟨rfl, rfl, rfl, rfl, trivial⟩ (Nat.zero_le _) (Nat.zero_le _) rfl rfl) ?turn hE
  intro n m₁ nx h tk F₁ N₁ hJ
  refine hJ _ ?_
  clear hJ F N mq hE
  intro k z tp hn hz hs hpx hpy htk e0
  subst hn e0
  have F₂ := fr_Bl _ hs (fun _ _ => rfl) F₁
  clear F₁
  have hl1 : Str.length ⟨(xs.take (xs.length - k)).toArray⟩ = xs.length - k := by simp [Str.length]
  have hl2 : Str.length ⟨(ys.take (ys.length - k)).toArray⟩ = ys.length - k := by simp [Str.length]
  have mkE := mark 35
  k_steps
  delta Stop
  refine lv_cutA (by assumption) (by assumption) ⟨rfl, rfl, trivial⟩ hz hpx hx fun t h tk F N => ?_
  k_steps
  rotate_left
  · have hc : k = cpre xs.reverse ys.reverse := cpre_is (by simpa using hpx) (by simpa using hpy) htk (by simp only [List.length_reverse]; lia)
    rw [← hc, ← hz] at q
    exact q _ _ _ (At.mk (by assumption) (by assumption) ⟨rfl, rfl, rfl, rfl, trivial⟩ fun _ h => h)
  delta Stop
  clear mkE
  refine lv_cutB (by assumption) (by assumption) ⟨rfl, rfl, trivial⟩ hz hpy hy fun t h tk F N => ?_
  have hm1 : Str.length ⟨xs.toArray⟩ = xs.length := by simp [Str.length]
  have hm2 : Str.length ⟨ys.toArray⟩ = ys.length := by simp [Str.length]
  k_steps
  · have hlt1 : k < xs.length := by lia
    have hlt2 : k < ys.length := by lia
    rename ((Txt.item _ _ == Txt.item _ _) = true) => hit
    rw [hz] at hit
    exact wend (xs.length - (k + 1)) (by assumption) (by assumption) (Nat.sub_lt_sub_left hlt1 (Nat.lt_succ_self k)) (fun _ q => q (k + 1) (z - 1) _ rfl (neg_succ hz) ⟨rfl, rfl, rfl, rfl, trivial⟩ hlt1 hlt2 (take_succ_eq htk (by simpa using hlt1) (by simpa using hlt2) ((item_beq hit (item_neg (k := k) hlt1) (item_neg (k := k) hlt2)).2 rfl)) rfl)
  · rename ((Txt.item _ _ == Txt.item _ _) = false) => hit
    rw [hz] at hit
    have hit' := item_beq hit (item_neg (k := k) (by lia)) (item_neg (k := k) (by lia))
    have hc : k = cpre xs.reverse ys.reverse := cpre_is (by simpa using hpx) (by simpa using hpy) htk (.inr (.inr fun e => by simpa using hit'.1 e))
    rw [← hc, ← hz] at q
    exact q _ _ _ (At.mk (by assumption) (by assumption) ⟨rfl, rfl, rfl, rfl, trivial⟩ fun _ h => h)
  · have hc : k = cpre xs.reverse ys.reverse := cpre_is (by simpa using hpx) (by simpa using hpy) htk (by simp only [List.length_reverse]; lia)
    rw [← hc, ← hz] at q
    exact q _ _ _ (At.mk (by assumption) (by assumption) ⟨rfl, rfl, rfl, rfl, trivial⟩ fun _ h => h)
theorem lv_swap (hB : Below (AA dp un gd fr) base fr h₀) (hX : (hd.heap_1 w.params).In h₀) (hT : Top viewQ loose mean mg mb h₀) (ha : xs.length ≤ 16) (hb : ys.length ≤ 16)
    (S : At h₀ L xh [(Str.ofString "a", .str ⟨xs.toArray⟩ t1), (Str.ofString "b", .str ⟨ys.toArray⟩ t2), (Str.ofString "max_cost", .int mc t3)] [])
    (q : ∀ t1 t2 h tk, At h₀ L h [(Str.ofString "a", .str ⟨(if ys.length < xs.length then ys else xs).toArray⟩ t1), (Str.ofString "b", .str ⟨(if ys.length < xs.length then xs else ys).toArray⟩ t2), (Str.ofString "max_cost", .int mc t3)] [] → Q .next ⟨h, xg, xd, tk, xo⟩) :
    wpAny (model PySem.Challenge.rw_op0087_01.row.prog w) ((AA dp un gd fr).deeper (lvE L f cd)) (exec (lvSt 11) (lvE L f cd)) Q E ⟨xh, xg, xd, xt, xo⟩ := by
  refine At.use S ?_
  clear S
  intro m₀ mq F N
  (try dsimp only at F N q)
  have hl1 : Str.length ⟨xs.toArray⟩ = xs.length := by simp [Str.length]
  have hl2 : Str.length ⟨ys.toArray⟩ = ys.length := by simp [Str.length]
  conv in lvSt 11 => whnf
  k_steps
  · have e : ys.length < xs.length := by lia
    rw [if_pos e, if_pos e] at q
    exact q _ _ _ _ (At.mk (by assumption) News.nil ⟨rfl, rfl, rfl, trivial⟩ fun _ h => h)
  · have e : ¬ ys.length < xs.length := by lia
    rw [if_neg e, if_neg e] at q
    exact q _ _ _ _ (At.mk (by assumption) (by assumption) ⟨rfl, rfl, rfl, trivial⟩ fun _ h => h)
noncomputable def LvI (bc : Nat) (mc : Int) (lo : Addr) (own : List (Addr × Obj)) (a b : List Nat) (i : Nat) (t0 t1 t2 t3 : Tok) (j : Nat) (m : Str → Option Value) (nx : List (Addr × Obj)) : Prop :=
  ∀ C : Prop, (∀ (vs : List Value) (n : Nat) (td tr tm : Tok) (mn dd r : Int), dd = edP b a i j → (r = if j = 0 then 2 * (i : Int) else edP b a (i + 1) j) → HsL m [(Str.ofString "distance", .int dd td), (Str.ofString "result", .int r tr), (Str.ofString "minimum", .int mn tm), (Str.ofString "bchar", .str ⟨#[bc]⟩ t0), (Str.ofString "a", .str ⟨a.toArray⟩ t1), (Str.ofString "b", .str ⟨b.toArray⟩ t2), (Str.ofString "max_cost", .int mc t3), (Str.ofString "row", .ref lo)] →
    (mc < mn ↔ ∀ q < j, mc < edP b a (i + 1) (q + 1)) → nx = (lo, listOf vs.toArray n) :: own → IntsAre vs (rowAt b a i j) → C) → C
theorem lvI_end {m' : Str → Option Value} {L : Addr} {own own' : List (Addr × Obj)} {b a : List Nat} {i j n tk bc : Nat} {vs : List Value} {h' : Heap} (F : Fr h₀ L h' m') (N : News h₀ L h' ((lo, listOf vs.toArray n) :: (own ++ own')))
    (hJ : LvI bc mc lo own a b i t0 t1 t2 t3 j m' ((lo, listOf vs.toArray n) :: own)) : TEnd h₀ L (LvI bc mc lo own a b i t0 t1 t2 t3 j) own' (lo :: own.map (·.1)) ⟨xh, xg, xd, xt, xo⟩ ⟨h', xg, xd, tk, xo⟩ :=
  tend ((lo, listOf vs.toArray n) :: own) F N rfl (fun p hp => by
    rcases List.mem_cons.mp hp with rfl | hp
    · exact .head _
    · exact .tail _ (List.mem_append_left _ hp)) (fun p hp => .tail _ (List.mem_append_right _ hp)) hJ
theorem lv_in (hE : PassesOwn (model PySem.Challenge.rw_op0087_01.row.prog w) ((AA dp un gd fr).deeper (lvE L f cd)) (lvE L f cd) E) {a b : List Nat} {i n bc : Nat} {own : List (Addr × Obj)} {vs : List Value} {td tr tm : Tok} {mn dd r : Int} (hdd : dd = edP b a i 0) (hr : r = 2 * (i : Int)) (hB : Below (AA dp un gd fr) base fr h₀) (hX : (hd.heap_1 w.params).In h₀) (hT : Top viewQ loose mean mg mb h₀) (hd : dp + 2 < recursionLimit) (hu : un + 8 * 2 < cLine)
    (ha : a.length ≤ 16) (hi : i < b.length) (hbc : b.getD i 0 = bc) (h128a : ∀ c ∈ a, c < 128) (h128b : bc < 128) (hoff : OwnOff own [lo]) (hrow : IntsAre vs (rowAt b a i 0)) (hmn : mc < mn)
    (S : At h₀ L xh [(Str.ofString "distance", .int dd td), (Str.ofString "result", .int r tr), (Str.ofString "minimum", .int mn tm), (Str.ofString "bchar", .str ⟨#[bc]⟩ t0), (Str.ofString "a", .str ⟨a.toArray⟩ t1), (Str.ofString "b", .str ⟨b.toArray⟩ t2), (Str.ofString "max_cost", .int mc t3), (Str.ofString "row", .ref lo)] ((lo, listOf vs.toArray n) :: own))
    (q : ∀ vs n tr tm mn r h tk, IntsAre vs (rowAt b a i a.length) → (r = if a.length = 0 then 2 * (i : Int) else edP b a (i + 1) a.length) → (mc < mn ↔ ∀ q < a.length, mc < edP b a (i + 1) (q + 1)) →
      At h₀ L h [(Str.ofString "result", .int r tr), (Str.ofString "minimum", .int mn tm), (Str.ofString "a", .str ⟨a.toArray⟩ t1), (Str.ofString "b", .str ⟨b.toArray⟩ t2), (Str.ofString "max_cost", .int mc t3), (Str.ofString "row", .ref lo)] ((lo, listOf vs.toArray n) :: own) → Q .next ⟨h, xg, xd, tk, xo⟩) :
    wpAny (model PySem.Challenge.rw_op0087_01.row.prog w) ((AA dp un gd fr).deeper (lvE L f cd)) (exec ((stmtBody (lvSt 15)).getD 3 (.Pass ⟨0, 0, 0, 0⟩)) (lvE L f cd)) Q E ⟨xh, xg, xd, xt, xo⟩ := by
  refine At.use S ?_
  clear S
  intro m₀ mq F N
  (try dsimp only at F N q)
  conv in List.getD _ 3 _ => whnf
  have hl1 : Str.length ⟨a.toArray⟩ = a.length := by simp [Str.length]
  have hbl : Str.length ⟨#[bc]⟩ = 1 := rfl
  with_unfolding_all refine' For_invVF (hE := hE) F ?k1 ?k2 ?_
  case k1 => exact rfl
  case k2 => exact rfl
  k_steps
  delta Stop
  rename IsRange _ _ _ _ _ _ _ _ => hrg
  rename Fr _ _ _ _ => F
  rename News _ _ _ _ => N
  rw [hl1] at hrg
  refine iter_range0_T a.length (LvI bc mc lo own a b i t0 t1 t2 t3) hrg (small_range ha) (size_range _) rfl F N (fun _ q => q _ _ _ _ _ _ _ _ hdd hr ⟨rfl, rfl, rfl, rfl, rfl, rfl, rfl, rfl, trivial⟩ ⟨fun _ q h => absurd h (Nat.not_lt_zero _), fun _ => hmn⟩ rfl hrow) ?turn ?done
  case turn => as_aux_lemma =>
    clear F N hrg hrow q hmn hdd hr
    intro j t m₁ nx h tk own' hj hoff' hJ F₁ N₁
    refine hJ _ ?_
    clear hJ
    intro vs n td tr tm mn dd r hdd hr hs hmn e0 hrow
    subst e0
    have hs2 : HsL (fun y => if y = Str.ofString "index" then some (Value.int (j : Int) t) else m₁ y) [(Str.ofString "index", .int (j : Int) t), (Str.ofString "distance", _), (Str.ofString "result", _), (Str.ofString "minimum", _), (Str.ofString "bchar", _), (Str.ofString "a", _), (Str.ofString "b", _), (Str.ofString "max_cost", _), (Str.ofString "row", .ref lo)] := ⟨rfl, hs.1, hs.2.1, hs.2.2.1, hs.2.2.2.1, hs.2.2.2.2.1, hs.2.2.2.2.2.1, hs.2.2.2.2.2.2.1, hs.2.2.2.2.2.2.2.1, trivial⟩
    refine fr_gen _ hs2 F₁ fun M F₂ => ?_
    clear F₁ hs hs2
    have N₂ : News h₀ _ h ((lo, listOf vs.toArray n) :: (own ++ own')) := N₁
    clear N₁
    have hlv : vs.length = a.length := by rw [hrow.length]; simp [rowAt]
    have hlr : (rowAt b a i j).length = a.length := by simp [rowAt]
    have hne : ∀ p ∈ own ++ own', p.1 ≠ lo := fun p hp => (List.mem_append.mp hp).elim (fun hp => hoff p hp lo (.head _)) fun hp => hoff' p hp lo (.head _)
    k_steps
    delta Stop
    (k_dflt (refine' use_CV subst_spec (by (exact below_at (by assumption) (by assumption) rfl rfl rfl)) (by assumption) (by assumption) (by assumption) (by assumption) (by exact ⟨by lia, by lia⟩) (by ktr_room) (by ktr_units) ?_; k_whole))
    (((intro t' h' tk' lF' lN'; k_sweep; try dsimp only)))
    k_steps
    rename Fr _ _ _ _ => lF'
    rename News _ _ _ _ => lN'
    have hv := cell_val hr hdd hi hj hbc h128b h128a
    refine ksa_set lF' lN' (Upd.head hne) hrow (by lia) (by rw [hlr]; lia) (by lia) ?_
    intro h' F' N' hi' hl' hs'
    replace hi' := ints_eq hi' ((congrArg (fun x => (rowAt b a i j).set ((j : Int)).toNat x) hv).trans (row_set hj))
    clear hl' hs' lF' lN' hrow
    k_steps
    · exact lvI_end (by assumption) (by assumption) (fun _ q => q _ _ _ _ _ _ _ _ (row_get hj) (hv.trans (if_neg (Nat.succ_ne_zero j)).symm) ⟨rfl, rfl, rfl, rfl, rfl, rfl, rfl, rfl, trivial⟩ (mn_lt hmn (by assumption) hv.symm) rfl hi')
    · exact lvI_end (by assumption) (by assumption) (fun _ q => q _ _ _ _ _ _ _ _ (row_get hj) (hv.trans (if_neg (Nat.succ_ne_zero j)).symm) ⟨rfl, rfl, rfl, rfl, rfl, rfl, rfl, rfl, trivial⟩ (mn_ge hmn (by assumption) hv.symm) rfl hi')
  case done => as_aux_lemma =>
    clear F N hrg hrow hmn hdd hr
    intro m₁ nx h tk hJ F₁ N₁
    refine hJ _ ?_
    clear hJ
    intro vs n td tr tm mn dd r hdd hr hs hmn e0 hrow
    subst e0
    exact q _ _ _ _ _ _ _ _ hrow hr hmn (At.mk F₁ N₁ ⟨hs.2.1, hs.2.2.1, hs.2.2.2.2.1, hs.2.2.2.2.2.1, hs.2.2.2.2.2.2.1, hs.2.2.2.2.2.2.2.1, trivial⟩ fun _ h => h)
noncomputable def LvO (mc : Int) (lo : Addr) (a b : List Nat) (t1 t2 t3 : Tok) (i : Nat) (m : Str → Option Value) (nx : List (Addr × Obj)) : Prop :=
  ∀ C : Prop, (∀ (vs : List Value) (n : Nat) (tr : Tok) (r : Int), (r = if i = 0 then 0 else edP b a i a.length) → HsL m [(Str.ofString "result", .int r tr), (Str.ofString "a", .str ⟨a.toArray⟩ t1), (Str.ofString "b", .str ⟨b.toArray⟩ t2), (Str.ofString "max_cost", .int mc t3), (Str.ofString "row", .ref lo)] → nx = [(lo, listOf vs.toArray n)] → IntsAre vs (rowAt b a i 0) →
    (∀ i' < i, ∃ q < a.length, edP b a (i' + 1) (q + 1) ≤ mc) → C) → C
theorem lvO_end {m' : Str → Option Value} {own : List (Addr × Obj)} {b a : List Nat} {i n tk : Nat} {vs : List Value} {h' : Heap} (F : Fr h₀ L h' m') (N : News h₀ L h' ((lo, listOf vs.toArray n) :: own))
    (hJ : LvO mc lo a b t1 t2 t3 i m' [(lo, listOf vs.toArray n)]) : TEnd h₀ L (LvO mc lo a b t1 t2 t3 i) own [lo] ⟨xh, xg, xd, xt, xo⟩ ⟨h', xg, xd, tk, xo⟩ :=
  tend [(lo, listOf vs.toArray n)] F N rfl (fun p hp => by rw [List.mem_singleton.mp hp]; exact .head _) (fun p hp => .tail _ hp) hJ
theorem lv_out (hE : PassesOwn (model PySem.Challenge.rw_op0087_01.row.prog w) ((AA dp un gd fr).deeper (lvE L f cd)) (lvE L f cd) E) {a b : List Nat} {n : Nat} {vs : List Value} {tr : Tok} (hB : Below (AA dp un gd fr) base fr h₀) (hX : (hd.heap_1 w.params).In h₀) (hT : Top viewQ loose mean mg mb h₀) (hd : dp + 2 < recursionLimit) (hu : un + 8 * 2 < cLine)
    (ha : a.length ≤ 16 ∧ 0 < a.length) (hb : b.length ≤ 16 ∧ 0 < b.length) (hmc : mc ≤ 1000) (h128a : ∀ c ∈ a, c < 128) (h128b : ∀ c ∈ b, c < 128) (hrow : IntsAre vs (rowAt b a 0 0))
    (S : At h₀ L xh [(Str.ofString "result", .int 0 tr), (Str.ofString "a", .str ⟨a.toArray⟩ t1), (Str.ofString "b", .str ⟨b.toArray⟩ t2), (Str.ofString "max_cost", .int mc t3), (Str.ofString "row", .ref lo)] [(lo, listOf vs.toArray n)])
    (qr : ∀ t h tk m, Fr h₀ L h m → (∃ i, i < b.length ∧ ∀ q, q < a.length → mc < edP b a (i + 1) (q + 1)) → Q (.ret (.int (mc + 1) t)) ⟨h, xg, xd, tk, xo⟩)
    (q : ∀ t h tk news, (¬ ∃ i, i < b.length ∧ ∀ q, q < a.length → mc < edP b a (i + 1) (q + 1)) → At h₀ L h [(Str.ofString "result", .int (edP b a b.length a.length) t)] news → Q .next ⟨h, xg, xd, tk, xo⟩) :
    wpAny (model PySem.Challenge.rw_op0087_01.row.prog w) ((AA dp un gd fr).deeper (lvE L f cd)) (exec (lvSt 15) (lvE L f cd)) Q E ⟨xh, xg, xd, xt, xo⟩ := by
  refine At.use S ?_
  clear S
  intro m₀ mq F N
  (try dsimp only at F N q qr)
  conv in lvSt 15 => whnf
  have hl2 : Str.length ⟨b.toArray⟩ = b.length := by simp [Str.length]
  with_unfolding_all refine' For_invVF (hE := hE) F ?k1 ?k2 ?_
  case k1 => exact rfl
  case k2 => exact rfl
  k_steps
  delta Stop
  rename IsRange _ _ _ _ _ _ _ _ => hrg
  rename Fr _ _ _ _ => F
  rename News _ _ _ _ => N
  rw [hl2] at hrg
  refine iter_range0_T b.length (LvO mc lo a b t1 t2 t3) hrg (small_range hb.1) (size_range _) rfl F N (fun _ q => q _ _ _ _ rfl ⟨rfl, rfl, rfl, rfl, rfl, trivial⟩ rfl hrow fun i' h => absurd h (Nat.not_lt_zero _)) ?turn ?done
  case turn => as_aux_lemma =>
    clear F N hrg hrow q
    intro i t m₁ nx h tk own hi hoff hJ F₁ N₁
    refine hJ _ ?_
    clear hJ
    intro vs n tr r hr hs e0 hrow hcut
    subst e0
    have hs2 : HsL (fun y => if y = Str.ofString "bindex" then some (Value.int (i : Int) t) else m₁ y) [(Str.ofString "bindex", .int (i : Int) t), (Str.ofString "result", _), (Str.ofString "a", _), (Str.ofString "b", _), (Str.ofString "max_cost", _), (Str.ofString "row", .ref lo)] := ⟨rfl, hs.1, hs.2.1, hs.2.2.1, hs.2.2.2.1, hs.2.2.2.2.1, trivial⟩
    refine fr_gen _ hs2 F₁ fun M F₂ => ?_
    clear F₁ hs hs2 hr
    have N₂ : News h₀ _ h ((lo, listOf vs.toArray n) :: own) := N₁
    clear N₁
    have mkF := mark 8
    k_steps
    delta Stop
    refine lv_in hE ?e1 ?e2 hB hX hT hd hu ha.1 hi rfl h128a (h128b _ ?e3) hoff hrow ?e4 (At.mk (by assumption) (by assumption) ⟨rfl, rfl, rfl, congrArg (fun x => some (Value.str x _)) (item_at hi), rfl, rfl, rfl, rfl, trivial⟩ fun _ h => h) fun vs n tr tm mn r h tk hrow hr hmn S => ?_
    case e1 => exact (Int.mul_comm _ _).trans (edP_zero_r (Nat.le_of_lt hi)).symm
    case e2 => exact Int.mul_comm _ _
    case e3 => simp [hi]
    case e4 => lia
    refine At.use S ?_
    clear S
    intro m₀ mq F N
    k_steps
    · exact qr _ _ _ _ (by assumption) ⟨i, hi, hmn.1 (by assumption)⟩
    · refine lvO_end (by assumption) (by assumption) (fun _ q => q _ _ _ _ ?_ ⟨rfl, rfl, rfl, rfl, rfl, trivial⟩ rfl (by rw [← row_next]; exact hrow) (cut_next hcut hmn (by assumption)))
      rw [hr, if_neg (Nat.ne_of_gt ha.2), if_neg (Nat.succ_ne_zero i)]
  case done => as_aux_lemma =>
    clear F N hrg hrow
    intro m₁ nx h tk hJ F₁ N₁
    refine hJ _ ?_
    clear hJ
    intro vs n tr r hr hs e0 hrow hcut
    rw [if_neg (Nat.ne_of_gt hb.2)] at hr
    subst hr
    refine q _ _ _ _ ?_ (At.mk F₁ N₁ ⟨hs.1, trivial⟩ fun _ h => h)
    rintro ⟨i, hi, hall⟩
    obtain ⟨q, hq, hle⟩ := hcut i hi
    exact absurd (hall q hq) (Int.not_lt.mpr hle)
theorem lv_row {rest : List Stmt} (hst : rest = (stmtBody (topSt 6)).drop 12) (hE : PassesOwn (model PySem.Challenge.rw_op0087_01.row.prog w) ((AA dp un gd fr).deeper (lvE L f cd)) (lvE L f cd) E) {a b : List Nat} (hB : Below (AA dp un gd fr) base fr h₀) (hX : (hd.heap_1 w.params).In h₀) (hT : Top viewQ loose mean mg mb h₀) (hd : dp + 2 < recursionLimit) (hu : un + 8 * 2 < cLine)
    (ha : a.length ≤ 16 ∧ 0 < a.length) (hb : b.length ≤ 16 ∧ 0 < b.length) (hmc : mc ≤ 1000) (h128a : ∀ c ∈ a, c < 128) (h128b : ∀ c ∈ b, c < 128)
    (S : At h₀ L xh [(Str.ofString "a", .str ⟨a.toArray⟩ t1), (Str.ofString "b", .str ⟨b.toArray⟩ t2), (Str.ofString "max_cost", .int mc t3)] [])
    (q : ∀ t h tk m, Fr h₀ L h m → Q (.ret (.int (levV4 a b mc) t)) ⟨h, xg, xd, tk, xo⟩) :
    wpAny (model PySem.Challenge.rw_op0087_01.row.prog w) ((AA dp un gd fr).deeper (lvE L f cd)) (execs rest (lvE L f cd)) Q E ⟨xh, xg, xd, xt, xo⟩ := by
  subst hst
  refine At.use S ?_
  clear S
  intro m₀ mq F N
  (try dsimp only at F N q)
  conv in List.drop _ _ => whnf
  have hn1 : Str.length ⟨a.toArray⟩ = a.length := by simp [Str.length]
  have hn2 : Str.length ⟨b.toArray⟩ = b.length := by simp [Str.length]
  have hL4 : levV4 a b mc = if mc < ((b.length : Int) - (a.length : Int)) * 2 then mc + 1 else dpV b a mc := rfl
  k_steps
  · rw [hL4, if_pos (by lia)] at q
    exact q _ _ _ _ (by assumption)
  rw [hL4, if_neg (by lia)] at q
  clear hL4
  rename IsRange _ _ _ _ _ _ _ _ => hrg
  rename Fr _ _ _ _ => lF'
  rename Heap => hh
  rw [hn1] at hrg
  refine call_list_range (n := a.length) rfl hrg ?sm ?sz ?ln ?_
  case sm => exact (show ∀ q : Nat, q ≤ 16 → Builtin.Range.small 2 (2 * ((q : Int) + 1)) 2 = true by decide) _ ha.1
  case sz =>
    unfold Builtin.Range.rangeSize
    simp only [show (2 : Int) > 0 by decide, if_true]
    split <;> lia
  case ln => exact Nat.le_trans ha.1 (by decide)
  intro h' tk' acc' c' hk' hS' hacc'
  have F₄ := Fr.keeps lF' hk'
  have N₄ := news_pushed lF' News.nil hk' hS' rfl
  have hrow := row0_ints (b := b) hacc'
  obtain ⟨vs⟩ := acc'
  dsimp only at hrow
  generalize hh.objs.size = lo at *
  clear lF' hrg hk' hS' hacc'
  have mk3 := mark 8
  k_steps
  delta Stop
  clear mk3
  refine lv_out hE hB hX hT hd hu ha hb hmc h128a h128b hrow (At.mk (by assumption) (by assumption) ⟨rfl, rfl, rfl, rfl, rfl, trivial⟩ fun _ h => h) (fun t h tk m F hx => ?_) (fun t h tk nx hx S => ?_)
  · rw [show dpV b a mc = mc + 1 from if_pos hx] at q
    exact q _ _ _ _ F
  · rw [show dpV b a mc = edP b a b.length a.length from if_neg hx] at q
    refine At.use S ?_
    clear S
    intro m₀ mq F N
    k_steps
    exact q _ _ _ _ (by assumption)
theorem lv_low {rest : List Stmt} (hst : rest = (stmtBody (topSt 6)).drop 9) (hE : PassesOwn (model PySem.Challenge.rw_op0087_01.row.prog w) ((AA dp un gd fr).deeper (lvE L f cd)) (lvE L f cd) E) (hB : Below (AA dp un gd fr) base fr h₀) (hX : (hd.heap_1 w.params).In h₀) (hT : Top viewQ loose mean mg mb h₀) (hd : dp + 2 < recursionLimit) (hu : un + 8 * 2 < cLine)
    (hx : xs.length ≤ 16) (hy : ys.length ≤ 16) (hmc : mc ≤ 1000) (h128a : ∀ c ∈ xs, c < 128) (h128b : ∀ c ∈ ys, c < 128)
    (S : At h₀ L xh [(Str.ofString "a", .str ⟨xs.toArray⟩ t1), (Str.ofString "b", .str ⟨ys.toArray⟩ t2), (Str.ofString "max_cost", .int mc t3)] [])
    (q : ∀ t h tk m, Fr h₀ L h m → Q (.ret (.int (levV3 xs ys mc) t)) ⟨h, xg, xd, tk, xo⟩) :
    wpAny (model PySem.Challenge.rw_op0087_01.row.prog w) ((AA dp un gd fr).deeper (lvE L f cd)) (execs rest (lvE L f cd)) Q E ⟨xh, xg, xd, xt, xo⟩ := by
  subst hst
  refine At.use S ?_
  clear S
  intro m₀ mq F N
  (try dsimp only at F N q)
  conv in List.drop _ _ => whnf
  have hn1 : Str.length ⟨xs.toArray⟩ = xs.length := by simp [Str.length]
  have hn2 : Str.length ⟨ys.toArray⟩ = ys.length := by simp [Str.length]
  have hL3 : levV3 xs ys mc = if xs.length = 0 ∨ ys.length = 0 then 2 * ((xs.length : Int) + (ys.length : Int)) else levV4 (if ys.length < xs.length then ys else xs) (if ys.length < xs.length then xs else ys) mc := rfl
  have mkI := mark 13
  k_steps
  delta Stop
  clear mkI
  walk1
  have mkI := mark 13
  k_steps
  rotate_left
  · rw [hL3, if_pos (.inr (by lia)), ← hn1, ← hn2] at q
    exact q _ _ _ _ (by assumption)
  · rw [hL3, if_pos (.inl (by lia)), ← hn1, ← hn2] at q
    exact q _ _ _ _ (by assumption)
  have hx0 : 0 < xs.length := by lia
  have hy0 : 0 < ys.length := by lia
  rw [hL3, if_neg (fun h => h.elim (Nat.ne_of_gt hx0) (Nat.ne_of_gt hy0))] at q
  clear hL3
  delta Stop
  clear mkI
  walk1
  have mkI := mark 13
  k_steps
  delta Stop
  refine lv_swap hB hX hT hx hy (At.mk (by assumption) (by assumption) ⟨rfl, rfl, rfl, trivial⟩ fun _ h => h) fun t1 t2 h tk S => ?_
  dsimp only
  with_reducible refine lv_row ?e0 hE hB hX hT hd hu ?e1 ?e2 hmc ?e3 ?e4 S q
  case e0 => exact rfl
  case e1 => split <;> exact ⟨by assumption, by assumption⟩
  case e2 => split <;> exact ⟨by assumption, by assumption⟩
  case e3 => split <;> assumption
  case e4 => split <;> assumption
theorem lv_mid {rest : List Stmt} {sc : Scope} (hst : rest = (stmtBody (topSt 6)).drop 5) (hsc : sc = stmtScope (topSt 6)) (hE : PassesOwn (model PySem.Challenge.rw_op0087_01.row.prog w) ((AA dp un gd fr).deeper (envOf (Str.ofString "_levenshtein_distance") sc L f cd)) (envOf (Str.ofString "_levenshtein_distance") sc L f cd) E) (hB : Below (AA dp un gd fr) base fr h₀) (hX : (hd.heap_1 w.params).In h₀) (hT : Top viewQ loose mean mg mb h₀) (hd : dp + 2 < recursionLimit) (hu : un + 8 * 2 < cLine)
    (hx : xs.length ≤ 16) (hy : ys.length ≤ 16) (hmc : mc ≤ 1000) (h128a : ∀ c ∈ xs, c < 128) (h128b : ∀ c ∈ ys, c < 128)
    (S : At h₀ L xh [(Str.ofString "a", .str ⟨xs.toArray⟩ t1), (Str.ofString "b", .str ⟨ys.toArray⟩ t2), (Str.ofString "max_cost", .int mc t3)] [])
    (q : ∀ t h tk m, Fr h₀ L h m → Q (.ret (.int (levV2 xs ys mc) t)) ⟨h, xg, xd, tk, xo⟩) :
    wpAny (model PySem.Challenge.rw_op0087_01.row.prog w) ((AA dp un gd fr).deeper (envOf (Str.ofString "_levenshtein_distance") sc L f cd)) (execs rest (envOf (Str.ofString "_levenshtein_distance") sc L f cd)) Q E ⟨xh, xg, xd, xt, xo⟩ := by
  subst hst hsc
  refine At.use S ?_
  clear S
  intro m₀ mq F N
  (try dsimp only at F N q)
  conv in List.drop _ _ => whnf
  have mkW := mark 18
  k_steps
  delta Stop
  clear mkW
  refine lv_post hx hy hE (At.mk (by assumption) (by assumption) ⟨rfl, rfl, rfl, rfl, trivial⟩ fun _ h => h) fun t0 h tk S => ?_
  have hk := cpre_le xs.reverse ys.reverse
  rw [List.length_reverse, List.length_reverse] at hk
  refine At.use S ?_
  clear S
  intro m₀ mq F N
  have mkE := mark 35
  k_steps
  delta Stop
  refine lv_cutA (by assumption) (by assumption) ⟨rfl, rfl, trivial⟩ rfl hk.1 hx fun t h tk F N => ?_
  k_steps
  delta Stop
  refine lv_cutB (by assumption) (by assumption) ⟨rfl, rfl, trivial⟩ rfl hk.2 hy fun t h tk F N => ?_
  clear mkE
  (first | (k_unfold; (try dsimp only)) | (k_end; wrow_close) | walk1 | (dsimp only; walk1) | (leave1; walk_say "STEP leave1"; try dsimp only))
  dsimp only
  rw [show levV2 xs ys mc = levV3 (xs.take (xs.length - cpre xs.reverse ys.reverse)) (ys.take (ys.length - cpre xs.reverse ys.reverse)) mc from rfl] at q
  have S : At h₀ L _ [(Str.ofString "a", .str ⟨(xs.take (xs.length - cpre xs.reverse ys.reverse)).toArray⟩ _), (Str.ofString "b", .str ⟨(ys.take (ys.length - cpre xs.reverse ys.reverse)).toArray⟩ _), (Str.ofString "max_cost", .int mc t3)] [] := At.mk (by assumption) (by assumption) ⟨rfl, rfl, rfl, trivial⟩ fun _ h => h
  with_reducible refine lv_low ?h0 hE hB hX hT hd hu ?h1 ?h2 hmc (fun c hc => h128a c (List.mem_of_mem_take hc)) (fun c hc => h128b c (List.mem_of_mem_take hc)) S q
  case h0 => exact rfl
  case h1 => exact Nat.le_trans (List.length_take_le _ _) (Nat.le_trans (Nat.sub_le _ _) hx)
  case h2 => exact Nat.le_trans (List.length_take_le _ _) (Nat.le_trans (Nat.sub_le _ _) hy)
theorem lev_spec {mc : Int} {ta tb tm : Tok} :
    CV w loose mean mg mb 35 2 (fun _ => xs.length ≤ 16 ∧ ys.length ≤ 16 ∧ (∀ c ∈ xs, c < 128) ∧ (∀ c ∈ ys, c < 128) ∧ mc ≤ 1000) [.str ⟨xs.toArray⟩ ta, .str ⟨ys.toArray⟩ tb, .int mc tm] (fun t => .int (levV xs ys mc) t) := by
  intro dp un gd fr base s Q E hB hX hT hpre hd hu hret
  obtain ⟨hp, g, d, tk, o⟩ := s
  obtain ⟨hp1, hp2, hp3, hp4, hp5⟩ := hpre
  have hl1 : Str.length ⟨xs.toArray⟩ = xs.length := by simp [Str.length]
  have hl2 : Str.length ⟨ys.toArray⟩ = ys.length := by simp [Str.length]
  ((refine wpAny_call ?_; (k_dflt (refine' enterP ?k3 ?k5 ?k6 ?k7 ?k8 ?k9 ?kB ?_ ?c5 ?c2 ?c3 ?c4; (case k3 => k_asm); (case k5 => k_asm); (case k6 => k_is); (case k7 => k_is); (case k8 => ktr_room); (case k9 => first | exact BindsTo.of_eq rfl | exact binds_K (by k_in) rfl (by k_is) rfl rfl rfl | (refine' kp_binds ?kx ?ke; (case kx => k_in); (case ke => exact fun _ => rfl))); (case c5 => decide); (case kB => exact locs rfl); (case c2 => exact rfl); (case c3 => exact rfl); (case c4 => exact rfl); k_whole)); intro L' h' tk' F' N'; (try dsimp only); (try k_fold)))
  have mkW := mark 18
  k_steps
  · refine endI hret ?_ (Fr.keep (by assumption))
    rename (_ == _) = true => he
    have e : xs = ys := by simpa using he
    unfold levV
    exact (if_pos e).symm
  have hL : levV xs ys mc = levV2 (xs.drop (cpre xs ys)) (ys.drop (cpre xs ys)) mc := by
    rename (_ == _) = false => he
    unfold levV
    exact if_neg fun e => by rw [e] at he; simp at he
  rw [hL] at hret
  clear hL
  delta Stop
  clear mkW
  refine lv_pre hp1 hp2 (by passes_own) (At.mk (by assumption) (by assumption) ⟨rfl, rfl, rfl, rfl, trivial⟩ fun _ h => h) fun t0 h tk S => ?_
  refine At.use S ?_
  clear S
  intro m₀ mq F N
  have hc := cpre_le xs ys
  iterate 22 ((first | (k_unfold; (try dsimp only)) | (k_end; wrow_close) | walk1 | (dsimp only; walk1) | (leave1; walk_say "STEP leave1"; try dsimp only)))
  dsimp only
  have S : At hp _ _ [(Str.ofString "a", .str ⟨(xs.drop (cpre xs ys)).toArray⟩ _), (Str.ofString "b", .str ⟨(ys.drop (cpre xs ys)).toArray⟩ _), (Str.ofString "max_cost", .int mc tm)] [] := At.mk (by assumption) (by assumption) ⟨congrArg (fun x => some (Value.str x _)) (slice_from hc.1), congrArg (fun x => some (Value.str x _)) (slice_from hc.2), rfl, trivial⟩ fun _ h => h
  with_reducible refine lv_mid ?h0 ?hs ?hE hB hX hT hd hu ?h1 ?h2 hp5 (fun c hc => hp3 c (List.mem_of_mem_drop hc)) (fun c hc => hp4 c (List.mem_of_mem_drop hc)) S fun t h tk m F => ?hq
  case h0 => exact rfl
  case hs => exact rfl
  case hE => passes_own
  case h1 => rw [List.length_drop]; exact Nat.le_trans (Nat.sub_le _ _) hp1
  case h2 => rw [List.length_drop]; exact Nat.le_trans (Nat.sub_le _ _) hp2
  case hq => exact ret_at (hret _ _ _ (Fr.keep F))
end

structure NewX (h h' : Heap) (e : Addr) (X : String) (c : Value) : Prop where
  keeps : ∀ b o, h.get? b = some o → h'.get? b = some o
  new : h.get? e = none
  there : ∃ ob vs, h'.get? e = some ob ∧ ob.cls = .type X ∧ ob.data = .fields vs ∧ vs[1]? = some .none ∧ vs[2]? = some c ∧ vs.size = 6
theorem NewX.of {h h' : Heap} {e : Addr} {X : String} (x : Heap.NewExc h h' e X) : NewX h h' e X .none :=
  ⟨x.keeps, x.new, by obtain ⟨ob, t, h1, h2, h3⟩ := x.there; exact ⟨ob, _, h1, h2, h3, rfl, rfl, rfl⟩⟩
structure ExcAt (h : Heap) (e T : Addr) (oe oT : Obj) (cls : Value) (vs : Array Value) (fl : Value) : Prop where
  he : h.get? e = some oe
  hc : oe.cls = cls
  hd : oe.data = .fields vs
  h1 : vs[1]? = some (.ref T)
  hz : vs.size = 6
  hT : h.get? T = some oT
  hdT : ∃ ts, oT.data = .fields ts ∧ ts[3]? = some fl
  ne : T ≠ e
noncomputable def GrX (base : Heap) (l : List Env) (e T : Addr) (h : Heap) : Prop := base.StaysIn h ∧ base.get? e = none ∧ base.get? T = none ∧ h.FunFrames base l
theorem ExcAt.traced {h base : Heap} {e T : Addr} {oe oT : Obj} {cls fl : Value} {vs : Array Value} (x : ExcAt h e T oe oT cls vs fl) (hn : base.get? T = none) : ∃ a0, h.TracedAtW base e cls a0 fl := by
  obtain ⟨he, hc, hd, h1, hz, hT, ⟨ts, hdT, h3⟩, ne⟩ := x
  exact ⟨vs[0], oe, vs, T, oT, ts, he, ⟨hc, by simp [hz]⟩, hd, h1, hn, ne, hT, hdT, h3⟩
theorem rs_15_1 {M : Model} {A : Around} {Q : Value → Shared → Prop} {E : Value → Shared → Prop} {s : Shared} (h : wpAny M A (call .none [.none]) Q E s) : wpAny M A (call .none [.none]) Q E s := by first | (walk1; fail "") | exact h
section
variable {M : Model} {A : Around} {E : Value → Shared → Prop} {s : Shared}
theorem noted_x {base : Heap} {env : Env} {outer : List Env} {L e : Addr} {oe : Obj} {vs : Array Value} {Q : Unit → Shared → Prop}
    (hfr : A.frames = some (env :: outer)) (hl : s.heap.FunFrames base (env :: outer)) (hf : env.frame = some L)
    (he : s.heap.get? e = some oe) (hkb : base.StaysIn s.heap) (hen : base.get? e = none) (hd : oe.data = .fields vs) (h1 : vs[1]? = some .none) (hz : vs.size = 6)
    (k : ∀ h' T oe' oT, GrX base (env :: outer) e T h' → ExcAt h' e T oe' oT oe.cls (vs.setIfInBounds 1 (.ref T)) (rawInt L) → s.heap.get? T = none → s.heap.UpToSlots h' → Q () { s with heap := h' }) :
    wpAny M A (noteFrame (.ref e) env) Q E s := by
  unfold noteFrame
  simp only [hf]
  refine wpAny_bind (wpAny_field he hd h1 ?_)
  rw [if_neg (by decide)]
  have hene : e ∉ (env :: outer).filterMap (·.frame) := fun hm => by
    obtain ⟨_, o, ho, hnf⟩ := hl.mem hm
    rw [he] at ho; injection ho with ho; subst ho; exact hnf vs hd
  refine wpAny_bind (wpAny_frameOf_fun hfr hl hf fun h₁ hs₁ => ?_)
  refine wpAny_bind (wpAny_entryPlaceOf fun pl hpl => ?_)
  unfold EntryCells.newEntry newFields
  refine wpAny_bind (wpAny_newObj_type ?_ (hpl.sizeOk5 _ _ _ _ _))
  have he₁ : h₁.get? e = some oe := (hs₁.2.1 e hene).trans he
  have kb₁ : base.StaysIn h₁ := fun b o hbo => (hs₁.2.1 b fun hm => by rw [(hl.mem hm).1] at hbo; cases hbo).trans (hkb b o hbo)
  generalize hob : ({ cls := .type "traceback", dict := none, data := .fields ([Value.none, .ref L, .none, rawInt L, .none] ++ (if pl.isEmpty then List.replicate 6 Value.none else pl)).toArray } : Obj) = ob
  have he₂ := Heap.get?_push_of_some (h := h₁) ob he₁
  refine wpAny_setField he₂ hd (by lia) ?_
  have hTe : h₁.objs.size ≠ e := Nat.ne_of_gt (Heap.lt_size he₁)
  have hobf : ob.isFreed = false := by rw [← hob]; rfl
  have hd₃ := Obj.data_mapFields hd (·.setIfInBounds 1 (Value.ref h₁.objs.size))
  have he₃ := Heap.get?_update_self (Obj.mapFields (·.setIfInBounds 1 (Value.ref h₁.objs.size))) he₂ (Obj.isFreed_of_fields hd₃)
  have hT₃ := (Heap.get?_update_other (h₁.push ob) (Obj.mapFields (·.setIfInBounds 1 (Value.ref h₁.objs.size))) (Ne.symm hTe)).trans (Heap.get?_push_size h₁ hobf)
  have keep : ∀ b o, b ≠ e → h₁.get? b = some o → ((h₁.push ob).update e (Obj.mapFields (·.setIfInBounds 1 (Value.ref h₁.objs.size)))).get? b = some o :=
    fun b o hbe hb => by
      rw [Heap.get?_update_other _ _ (Ne.symm hbe)]
      exact Heap.get?_push_of_some _ hb
  have noRecord : ∀ b o, s.heap.get? b = some o → (∀ vs, o.data ≠ .fields vs) → b ≠ e := fun b o hb hnf q => by
    rw [q, he] at hb; injection hb with hb; subst hb; exact hnf vs hd
  refine k _ h₁.objs.size _ _ ⟨fun b o hbo => keep b o (fun q => by rw [q, hen] at hbo; cases hbo) (kb₁ b o hbo), hen, kb₁.fresh, hl.of_keeps fun b o hb hnf => ?_⟩
    ⟨he₃, Obj.cls_mapFields _ _, hd₃, by simp [hz], by simp [hz], hT₃, ⟨_, by rw [← hob], by first | (simp; done) | (rcases hpl with rfl | ⟨_, _, _, _, _, _, _, rfl⟩ <;> simp)⟩, hTe⟩ ?_ fun b o hb hnf => ?_
  · obtain ⟨sl, hs⟩ := hs₁.2.2 b o hb
    exact ⟨_, keep b _ (noRecord b o hb hnf) hs, rfl⟩
  · cases q : s.heap.get? h₁.objs.size with
    | none => rfl
    | some o =>
      obtain ⟨sl, hs⟩ := hs₁.2.2 _ o q
      exact absurd (Heap.lt_size hs) (Nat.lt_irrefl _)
  · obtain ⟨sl, hs⟩ := hs₁.2.2 b o hb
    exact ⟨sl, keep b _ (noRecord b o hb hnf) hs⟩
theorem flight_x {base : Heap} {l : List Env} {e T : Addr} {oe oT : Obj} {cls fl : Value} {vs : Array Value} {g : Option Addr} {Q : Unit → Shared → Prop} (G : GrX base l e T s.heap) (x : ExcAt s.heap e T oe oT cls vs fl)
    (k : ∀ h' oT', GrX base l e T h' → ExcAt h' e T oe oT' cls vs (g.elim Value.none fun f => rawInt f) → (∀ b, b ≠ T → h'.get? b = s.heap.get? b) → s.heap.UpToSlots h' → Q () { s with heap := h' }) : wpAny M A (setFlight (.ref e) g) Q E s := by
  obtain ⟨he, hc, hd, h1, hz, hT, ⟨ts, hdT, h3⟩, ne⟩ := x
  obtain ⟨hkb, hne, hnT, hl⟩ := G
  have other : ∀ b, b ≠ T → (s.heap.update T (Obj.mapFields (·.setIfInBounds 3 (g.elim Value.none fun f => rawInt f)))).get? b = s.heap.get? b := fun b hb => Heap.get?_update_other _ _ (Ne.symm hb)
  have noRecord : ∀ b o, s.heap.get? b = some o → (∀ vs, o.data ≠ .fields vs) → b ≠ T := fun b o hb hnf q => by
    rw [q, hT] at hb; injection hb with hb; subst hb; exact hnf ts hdT
  unfold setFlight
  refine wpAny_bind (wpAny_field he hd h1 ?_)
  rw [if_pos (show (Value.ref T != Value.none) = true from by simp)]
  have hsz3 : 3 < ts.size := (Array.getElem?_eq_some_iff.mp h3).1
  refine wpAny_setField hT hdT hsz3 (k _ _ ⟨fun b o hbo => (other b fun q => by rw [q, hnT] at hbo; cases hbo).trans (hkb b o hbo), hne, hnT,
    hl.of_keeps fun b o hb hnf => ⟨o, (other b (noRecord b o hb hnf)).trans hb, rfl⟩⟩
    ⟨(other e (Ne.symm ne)).trans he, hc, hd, h1, hz, Heap.get?_update_self _ hT (Obj.isFreed_of_fields (Obj.data_mapFields hdT _)), ⟨_, Obj.data_mapFields hdT _, by simp [hsz3]⟩, ne⟩ other
    fun b o hb hnf => ⟨o.slots, (other b (noRecord b o hb hnf)).trans hb⟩)
theorem again_x {env : Env} {L e T : Addr} {oe oT : Obj} {cls : Value} {vs : Array Value} {Q : Unit → Shared → Prop} (hf : env.frame = some L) (x : ExcAt s.heap e T oe oT cls vs (rawInt L)) (h : Q () s) :
    wpAny M A (noteFrame (.ref e) env) Q E s := by
  obtain ⟨a0, ht⟩ := x.traced (base := ⟨#[], s.heap.life⟩) (Heap.get?_none_of_le (Nat.zero_le _))
  exact wpAny_noteFrame_againW hf ht h
end
open Builtin in
theorem entry_unchain : entryFor table "proto.unchain" = some Builtin.«proto.unchain» := entryFor_of_fast (by kernel_rfl)
theorem rs_15_2 {M : Model} {A : Around} {Q : Value → Shared → Prop} {E : Value → Shared → Prop} {s : Shared} (h : wpAny M A (call .none [.none]) Q E s) : wpAny M A (call .none [.none]) Q E s := by first | (walk1; fail "") | exact h
section
variable {M : Model} {prog : Program} {w : World} {A : Around} {E : Value → Shared → Prop} {s : Shared}
theorem raiseNew_x {α : Type} {e1 e : Addr} {o1 o : Obj} {vs1 vs : Array Value} {Q : α → Shared → Prop} (hh : A.handled = some (.ref e1)) (h1 : s.heap.get? e1 = some o1) (hd1 : o1.data = .fields vs1) (hc1 : vs1[2]? = some .none)
    (he : s.heap.get? e = some o) (hd : o.data = .fields vs) (hz : vs.size = 6) (hne : e1 ≠ e) (h : E (.ref e) { s with heap := s.heap.update e (Obj.mapFields (·.setIfInBounds 2 (.ref e1))) }) : wpAny (model prog w) A (raiseNew (.ref e) : Sem α) Q E s := by
  unfold raiseNew
  refine wpAny_bind (wpAny_handled ?_)
  rw [hh]
  dsimp only
  rw [if_pos (by simpa using hne)]
  refine wpAny_bind (wpAny_holding (wpAny_runValue (codeAny_builtin entry_unchain ?_)))
  unfold Builtin.«proto.unchain»
  dsimp only
  refine wpAny_bind (wpAny_field h1 hd1 hc1 ?_)
  rw [if_pos (by decide)]
  refine wpAny_bind (wpAny_pure ?_)
  refine wpAny_pure ?_
  dsimp only
  exact wpAny_bind (show wpAny _ _ (setField (.ref e) 2 (.ref e1)) _ _ _ from wpAny_setField he hd (by lia) (wpAny_throw h))
theorem raiseWords_x {α : Type} {cls msg : String} {e1 : Addr} {o1 : Obj} {vs1 : Array Value} {Q : α → Shared → Prop} (hp : PlainExc cls) (hh : A.handled = some (.ref e1)) (h1 : s.heap.get? e1 = some o1) (hd1 : o1.data = .fields vs1) (hc1 : vs1[2]? = some .none)
    (h : ∀ h' tk e, NewX s.heap h' e cls (.ref e1) → E (.ref e) { s with heap := h', toks := tk }) : wpAny (model prog w) A (raiseErrorWords cls msg : Sem α) Q E s := by
  unfold raiseErrorWords
  refine wpAny_bind (wpAny_mkText (wpAny_bind ?_))
  unfold newExc newTuple
  refine wpAny_bind (wpAny_newObj_type ?_)
  refine wpAny_bind (m := firstArgMember _ _) (wpAny_of_eq (a := Value.none) (by simp only [firstArgMember, hp.first]; rfl) ?_)
  rw [hp.own]
  refine wpAny_newObj_type ?_
  have hlt := Heap.lt_size h1
  refine raiseNew_x hh (Heap.get?_push_of_some _ (Heap.get?_push_of_some _ h1)) hd1 hc1 (Heap.get?_push_size _ rfl) rfl (by simp) (fun q => by have z := Heap.get?_push_of_some (h := s.heap) { cls := .type "tuple", dict := none, data := .seq #[] } h1; rw [q, Heap.get?_none_of_le (by simp)] at z; cases z) ?_
  refine h _ _ _ ⟨fun b o hb => ?_, Heap.get?_none_of_le (by simp), _, _, Heap.get?_update_self _ (Heap.get?_push_size _ rfl) ?_, ?_, rfl, ?_, ?_, ?_⟩
  · rw [Heap.get?_update_other _ _ (fun q => by have z := Heap.get?_push_of_some (h := s.heap) { cls := .type "tuple", dict := none, data := .seq #[] } hb; rw [← q, Heap.get?_none_of_le (by simp)] at z; cases z)]
    exact Heap.get?_push_of_some _ (Heap.get?_push_of_some _ hb)
  · rfl
  · rfl
  · simp
  · simp
  · simp
theorem item_out_x {value slice : PySem.Expr} {l : Addr} {items : Array Value} {k : Int} {u : Tok} {Q : Value → Shared → Prop} {e1 : Addr} {o1 : Obj} {vs1 : Array Value} (hh : A.handled = some (.ref e1)) (h1 : s.heap.get? e1 = some o1) (hd1 : o1.data = .fields vs1) (hc1 : vs1[2]? = some .none)
    (hl : s.heap.IsList l items) (hout : (items.size : Int) ≤ k) (hhi : k < 2 ^ 63)
    (hE : ∀ h' tk e, NewX s.heap h' e "IndexError" (.ref e1) → E (.ref e) { s with heap := h', toks := tk })
    (hs : subscripted slice false (.ref l) (.int k u) = operate [.ref l, .int k u] (getItem (.ref l) (.int k u))) :
    wpAny (model prog w) A (subscriptTail value slice (.ref l) (.int k u)) Q E s := by
  refine tail_any hl.typeIs slot_list_getitem.lookup ?_ hs
  obtain ⟨o, ho, hc, ne, hd⟩ := id hl
  unfold getItem
  try with_reducible refine wpAny_holding ?_
  first | refine wpAny_bind (wpAny_pure ?_) | skip
  refine wpAny_bind (wpAny_sequenceKey hl.typeIs (by decide) ?_)
  refine wpAny_bind (wpAny_callSpecial?_slot (name := Str.ofString "__getitem__") hl.typeIs slot_list_getitem
    (wpAny_call_entry slot_list_getitem hl.typeIs entry_list_getitem ?_ (args_list_getitem _ _)))
  show wpAny _ _ (Builtin.List.listSubscript? (.int k u) >>= _) _ _ s
  refine wpAny_bind (wpAny_listSubscript_int (fitsIndex_both (by lia) (by lia)) ?_)
  clear hs hhi
  cases k with
  | negSucc j => exact absurd hout (by have := Int.negSucc_lt_zero j; lia)
  | ofNat j =>
  have hx : items[j]? = none := Array.getElem?_eq_none (by have : (items.size : Int) ≤ (j : Int) := hout; lia)
  show wpAny _ _ ((seqItemAt l j >>= fun r => pure (r.map (j, ·))) >>= _) _ _ s
  refine wpAny_bind (wpAny_bind (wpAny_seqItemAt ho hd (wpAny_pure ?_)))
  rw [hx]
  first
    | exact wpAny_bind (wpAny_rule (by exact raiseWords_x plainExc_IndexError hh h1 hd1 hc1 hE))
    | exact wpAny_bind (wpAny_rule (wpAny_bind (by exact raiseWords_x plainExc_IndexError hh h1 hd1 hc1 hE)))
    | exact wpAny_bind (wpAny_bind (wpAny_rule (by exact raiseWords_x plainExc_IndexError hh h1 hd1 hc1 hE)))
    | exact wpAny_rule (by exact raiseWords_x plainExc_IndexError hh h1 hd1 hc1 hE)
end

noncomputable def XHeld (A₀ : Around) (base g₀ : Heap) (outer : List Env) (env : Env) (L e : Addr) (X : String) (m : Str → Option Value) (news : List (Addr × Obj)) (c : Value) (h : Heap) : Prop :=
  ∀ Z : Prop, (∀ g B G T oe oT vs, KtsTurn (outer.filterMap (·.frame)) g₀ g → Below A₀ base outer g → base.StaysIn B → Fr g L G m → (∀ b o, G.get? b = some o → b ∉ (env :: outer).filterMap (·.frame) → B.get? b = some o) → (∀ q ∈ news, B.get? q.1 = some q.2 ∧ q.1 ≠ L ∧ g.get? q.1 = none) → GrX B (env :: outer) e T h → ExcAt h e T oe oT (.type X) vs (rawInt L) → vs[2]? = some c → g.get? e = none → g.get? T = none → e ≠ L → T ≠ L → G.UpToSlots h → Z) → Z
theorem fr_has {g G : Heap} {L : Addr} {m : Str → Option Value} (F : Fr g L G m) : ∃ o, G.get? L = some o := by
  obtain ⟨o, _, _, ho, _⟩ := F.ns
  exact ⟨o, ho⟩
theorem rs_15_3 {M : Model} {A : Around} {Q : Value → Shared → Prop} {E : Value → Shared → Prop} {s : Shared} (h : wpAny M A (call .none [.none]) Q E s) : wpAny M A (call .none [.none]) Q E s := by first | (walk1; fail "") | exact h
section
variable {prog : Program} {w : World} {A A₀ : Around} {E : Value → Shared → Prop} {s' : Shared} {base g₀ g G : Heap} {outer : List Env} {L a e : Addr} {m : Str → Option Value} {name : Str} {scope : Scope} {cd c : Value}
  {b₀ : Stmt} {suite : List Stmt} {pos np : Pos} {rest : List ExceptHandler} {news : List (Addr × Obj)} {KF : Frag}
  {p : Program} {loose : List Str} {mean : ExcName → Option Value} {mg mb : Str → Option Value} {x : Str} {X T' : String}
theorem noted_new_x {M : Model} {Q : Unit → Shared → Prop} (T0 : KtsTurn (outer.filterMap (·.frame)) g₀ g) (K : Below A₀ base outer g) (F : Fr g L G m) (N : News g L G news) (hx : NewX G s'.heap e X c) (hA : A.frames = some (envOf name scope L a cd :: outer))
    (k : ∀ h', XHeld A₀ base g₀ outer (envOf name scope L a cd) L e X m news c h' → Q () { s' with heap := h' }) (hk : scope.kind = .function) : wpAny M A (noteFrame (.ref e) (envOf name scope L a cd)) Q E s' := by
  have K' := K.push (name := name) (a := a) (cd := cd) F hk
  have hin : ∀ env ∈ (envOf name scope L a cd :: outer), ∀ b, env.frame = some b → b ∈ (envOf name scope L a cd :: outer).filterMap (·.frame) := fun env he b hb => List.mem_filterMap.mpr ⟨env, he, hb⟩
  have st : base.StaysIn (hideAll G ((envOf name scope L a cd :: outer).filterMap (·.frame))) := fun b o q => hideAll_get _ (K'.stays b o q) fun hm => by
    rw [(K'.frames.mem hm).1] at q; cases q
  have hl : ∀ q ∈ news, (hideAll G ((envOf name scope L a cd :: outer).filterMap (·.frame))).get? q.1 = some q.2 ∧ q.1 ≠ L ∧ g.get? q.1 = none := fun q hq => by
    refine ⟨hideAll_get _ (N q hq).1 fun hm => ?_, (N q hq).2.1, (N q hq).2.2⟩
    rcases kts_mem hm with z | z
    · exact (N q hq).2.1 z
    · obtain ⟨_, o, ho, _⟩ := K.frames.mem z
      rw [(N q hq).2.2] at ho; cases ho
  obtain ⟨ob, vs, he, hcls, hd, h1, h2, hz⟩ := hx.there
  have hen : (hideAll G ((envOf name scope L a cd :: outer).filterMap (·.frame))).get? e = none := by
    cases q : (hideAll G ((envOf name scope L a cd :: outer).filterMap (·.frame))).get? e with
    | none => rfl
    | some o => have := of_hideAll _ q; rw [hx.new] at this; cases this
  obtain ⟨oL, hoL⟩ := fr_has F
  refine noted_x hA ((funFrames_hide K'.frames hin).of_keeps fun b o hb _ => ⟨o, hx.keeps b o hb, rfl⟩) rfl he (fun b o hb => hx.keeps b o (of_hideAll _ hb)) hen hd h1 hz fun h' T oe' oT G' x' hTn up => ?_
  rw [hcls] at x'
  refine k h' (fun _ q => q g _ G T oe' oT _ T0 K st F (fun b o hb hn => hideAll_get _ hb hn) hl G' x' (by rw [Array.getElem?_setIfInBounds_ne (by decide)]; exact h2) (kts_none F.keep hx.new) (kts_none (fun b o q => hx.keeps b o (F.keep b o q)) hTn) ?_ ?_ ((Heap.UpToSlots.of_keeps hx.keeps).trans up))
  · intro q; have := hx.new; rw [q, hoL] at this; cases this
  · intro q; rw [q, hx.keeps _ _ hoL] at hTn; cases hTn
structure ExcOb (e T : Addr) (oe oT : Obj) (X : String) (vs : Array Value) : Prop where
  hc : oe.cls = .type X
  hd : oe.data = .fields vs
  h1 : vs[1]? = some (.ref T)
  h2 : vs[2]? = some .none
  hz : vs.size = 6
  hdT : ∃ ts, oT.data = .fields ts ∧ ts[3]? = some .none
  ne : T ≠ e
theorem land_x {M : Model} {Q : Unit → Shared → Prop} (H : XHeld A₀ base g₀ outer (envOf name scope L a cd) L e X m news .none s'.heap)
    (k : ∀ h' g' T oe oT vs, KtsTurn (outer.filterMap (·.frame)) g₀ g' → Fr g' L h' m → News g' L h' (news ++ [(e, oe), (T, oT)]) → Below A₀ base outer g' → ExcOb e T oe oT X vs → Q () { s' with heap := h' }) :
    wpAny M A (setFlight (.ref e) none) Q E s' := by
  refine H _ ?_
  clear H
  intro g B G T oe oT vs T0 K st F hBG hl GX x hc2 ge gT eL TL up
  refine flight_x GX x fun h' oT' GX' x' other up' => ?_
  obtain ⟨g', T', F', K'⟩ := kts_ground K F hBG GX'.1 (up.trans up')
  refine k h' g' T oe oT' vs (T0.trans T') F' (fun q hq => ?_) K' ⟨x'.hc, x'.hd, x'.h1, hc2, x'.hz, x'.hdT, x'.ne⟩
  rcases List.mem_append.mp hq with hq | hq
  · obtain ⟨p1, p2, p3⟩ := hl q hq
    exact ⟨GX'.1 _ _ p1, p2, T'.none_ _ p3⟩
  · simp only [List.mem_cons, List.not_mem_nil, or_false] at hq
    rcases hq with rfl | rfl
    · exact ⟨x'.he, eL, T'.none_ _ ge⟩
    · exact ⟨x'.hT, TL, T'.none_ _ gT⟩
theorem passOn_x {M : Model} {Q : α → Shared → Prop} {what : String} {T : Addr} {oe oT : Obj} {vs : Array Value} (T0 : KtsTurn (outer.filterMap (·.frame)) g₀ g) (K : Below A₀ base outer g) (F : Fr g L s'.heap m) (N : News g L s'.heap (news ++ [(e, oe), (T, oT)])) (O : ExcOb e T oe oT X vs) (hnd : ∀ q ∈ news, ∀ vs, q.2.data ≠ .fields vs)
    (k : ∀ h' oT', ExcAt h' e T oe oT' (.type X) vs (rawInt L) → XHeld A₀ base g₀ outer (envOf name scope L a cd) L e X m news .none h' → E (.ref e) { s' with heap := h' }) (hk : scope.kind = .function) :
    wpAny M A (PySem.passOn what (.ref e) (envOf name scope L a cd) : Sem α) Q E s' := by
  have Ne := N (e, oe) (List.mem_append_right _ (.head _))
  have NT := N (T, oT) (List.mem_append_right _ (.tail _ (.head _)))
  have hnn : ∀ q ∈ news, q.1 ≠ e ∧ q.1 ≠ T := fun q hq => by
    have Nq := (N q (List.mem_append_left _ hq)).1
    refine ⟨fun z => ?_, fun z => ?_⟩
    · rw [z, Ne.1] at Nq; injection Nq with Nq; exact hnd q hq vs (by rw [← Nq]; exact O.hd)
    · rw [z, NT.1] at Nq; injection Nq with Nq; obtain ⟨ts, hts, _⟩ := O.hdT; exact hnd q hq ts (by rw [← Nq]; exact hts)
  have x : ExcAt s'.heap e T oe oT (.type X) vs .none := ⟨Ne.1, O.hc, O.hd, O.h1, O.hz, NT.1, O.hdT, O.ne⟩
  have K' := K.push (name := name) (a := a) (cd := cd) F hk
  have hin : ∀ env ∈ (envOf name scope L a cd :: outer), ∀ b, env.frame = some b → b ∈ (envOf name scope L a cd :: outer).filterMap (·.frame) := fun env he b hb => List.mem_filterMap.mpr ⟨env, he, hb⟩
  have hG : ∀ b o, (hideAll s'.heap [e, T]).get? b = some o → b ≠ e ∧ b ≠ T ∧ s'.heap.get? b = some o := fun b o q => by
    refine ⟨fun z => ?_, fun z => ?_, of_hideAll _ q⟩
    · rw [hideAll_none _ (by rw [z]; exact .head _)] at q; cases q
    · rw [hideAll_none _ (by rw [z]; exact .tail _ (.head _))] at q; cases q
  have hGi : ∀ b o, s'.heap.get? b = some o → b ≠ e → b ≠ T → (hideAll s'.heap [e, T]).get? b = some o := fun b o q n1 n2 => hideAll_get _ q (by simp only [List.mem_cons, List.not_mem_nil, or_false, not_or]; exact ⟨n1, n2⟩)
  have hgn : ∀ b o, g.get? b = some o → b ≠ e ∧ b ≠ T := fun b o q => by
    have n1 : g.get? e = none := Ne.2.2
    have n2 : g.get? T = none := NT.2.2
    constructor
    · intro z; rw [z, n1] at q; cases q
    · intro z; rw [z, n2] at q; cases q
  have FG : Fr g L (hideAll s'.heap [e, T]) m := by
    refine ⟨?_, fun b o q => hGi b o (F.keep b o q) (hgn b o q).1 (hgn b o q).2, F.above⟩
    obtain ⟨o, es, ep, ho, r⟩ := F.ns
    exact ⟨o, es, ep, hGi _ _ ho (Ne.2.1 ·.symm) (NT.2.1 ·.symm), r⟩
  have GB : GrX (hideAll (hideAll s'.heap [e, T]) ((envOf name scope L a cd :: outer).filterMap (·.frame))) (envOf name scope L a cd :: outer) e T s'.heap := by
    have hno : ∀ b, b = e ∨ b = T → (hideAll (hideAll s'.heap [e, T]) ((envOf name scope L a cd :: outer).filterMap (·.frame))).get? b = none := fun b hb => by
      cases q : (hideAll (hideAll s'.heap [e, T]) ((envOf name scope L a cd :: outer).filterMap (·.frame))).get? b with
      | none => rfl
      | some o =>
        have := hG _ _ (of_hideAll _ q)
        rcases hb with hb | hb
        · exact absurd hb this.1
        · exact absurd hb this.2.1
    refine ⟨fun b o q => (hG _ _ (of_hideAll _ q)).2.2, hno e (.inl rfl), hno T (.inr rfl), ?_⟩
    refine Heap.FunFrames.of_keeps (h := hideAll s'.heap [e, T]) (fun b o hb _ => ⟨o, (hG _ _ hb).2.2, rfl⟩) ?_
    refine funFrames_hide (base := base) ?_ hin
    exact (K.push (name := name) (a := a) (cd := cd) FG hk).frames
  unfold PySem.passOn
  refine wpAny_bind (wpAny_field x.he x.hd x.h1 ?_)
  rw [if_neg (by simp)]
  refine wpAny_bind (flight_x GB x fun h' oT' GX' x' other up' => wpAny_throw ?_)
  refine k h' oT' x' (fun _ q => q g _ _ T oe oT' vs T0 K ?_ FG (fun b o hb hn => hideAll_get _ hb hn) (fun q hq => ?_) GX' x' O.h2 Ne.2.2 NT.2.2 Ne.2.1 NT.2.1 ?_)
  · intro b o q
    refine hideAll_get _ (FG.keep _ _ (K.stays _ _ q)) fun hm => ?_
    rcases kts_mem hm with z | z
    · have := kts_self F
      have q' := K.stays _ _ q
      rw [z, this] at q'; cases q'
    · rw [(K.frames.mem z).1] at q; cases q
  · have Nq := N q (List.mem_append_left _ hq)
    refine ⟨hideAll_get _ (hGi _ _ Nq.1 (hnn q hq).1 (hnn q hq).2) fun hm => ?_, Nq.2.1, Nq.2.2⟩
    rcases kts_mem hm with z | z
    · exact Nq.2.1 z
    · obtain ⟨_, o, ho, _⟩ := K.frames.mem z
      rw [Nq.2.2] at ho; cases ho
  · exact (Heap.UpToSlots.of_keeps fun b o hb => (hG _ _ hb).2.2).trans up'
theorem caught_x {Q : Flow → Shared → Prop} (H : XHeld A₀ base g₀ outer (envOf name scope L a cd) L e X m news c s'.heap) (XB : KF.In base) (TB : Top p loose mean mg mb base) (D : KtsDicts (outer.filterMap (·.frame)) g₀)
    (ex : nsIn KF mainGlobals x = some none) (hv : bootBuiltins x = some (.type T')) (hn' : x ≠ "__name__")
    (hexc : isSubtype (.type T') (.type "BaseException") = pure true) (hnt : isSubtype (.type ((Manifest.find? T').elim "type" fun y => y.metatype)) (.type "tuple") = pure false) (hsub : isSubtype (.type X) (.type T') = pure true)
    (k : ∀ h' g', KtsTurn (outer.filterMap (·.frame)) g₀ g' → Fr g' L h' m → News g' L h' news → Below A₀ base outer g' → KF.In g' → Top p loose mean mg mb g' → KtsDicts (outer.filterMap (·.frame)) g' →
      wpAny (model prog w) ((A₀.deeper (envOf name scope L a cd)).mark (some (.ref e))) (execs (b₀ :: suite) (envOf name scope L a cd)) Q E { s' with heap := h' })
    (hE : PassesOwnAt (model prog w) ((A₀.deeper (envOf name scope L a cd)).mark (some (.ref e))) (A₀.deeper (envOf name scope L a cd)) (envOf name scope L a cd) E)
    (hk : scope.kind = .function) (hx : (envOf name scope L a cd).kindOf x = some .globalImplicit) (hd : (x == ("__debug__" : Str)) = false) :
    wpAny (model prog w) (A₀.deeper (envOf name scope L a cd)) (setFlight (.ref e) none) (fun _ s₃ =>
        wpAny (model prog w) (A₀.deeper (envOf name scope L a cd)) (handleBy (.ref e) (envOf name scope L a cd) (.ExceptHandler (some (.Name x np)) none (b₀ :: suite) pos :: rest)) Q E s₃) E s' := by
  refine H _ ?_
  clear H
  intro g B G T oe oT vs T0 K st F hBG hl GX xx hc2 ge gT eL TL up
  obtain ⟨a0, ht⟩ := xx.traced GX.2.2.1
  have hheld₄ : Heap.HeldW B (envOf name scope L a cd :: outer) e (.type X) a0 L s'.heap := ⟨GX.1, GX.2.1, GX.2.2.2, ht⟩
  refine wpAny_landsW hheld₄ fun h₅ hheld hsm₅ => ?_
  obtain ⟨g₅, T₅, F₅, K₅⟩ := kts_ground K F hBG hheld.1 (up.trans hsm₅)
  have X₅ : KF.In g₅ := XB.keeps K₅.stays
  have P₅ : TopRead p loose mg mb g₅ := topRead_of (TB.keeps K₅.stays)
  obtain ⟨ob, hob, hobc⟩ := hheld.there
  refine wpAny_handleBy_builtin (X := X) (T := T') (b := true) hexc hnt hsub (name_B F₅ X₅ P₅ ex hv hn' ⟨rfl, ⟨ob, hob, hobc⟩, ?_⟩ hk hx hd)
  refine lands_againW hheld fun h₆ hfl₆ hsm₆ => ?_
  obtain ⟨g₆, T₆, F₆, K₆⟩ := kts_ground K F hBG hfl₆.1 ((up.trans hsm₅).trans hsm₆)
  have Nl : News g₆ L h₆ news := fun q hq => ⟨hfl₆.1 _ _ (hl q hq).1, (hl q hq).2.1, T₆.none_ _ (hl q hq).2.2⟩
  have X₆ : KF.In g₆ := XB.keeps K₆.stays
  have P₆ : Top p loose mean mg mb g₆ := TB.keeps K₆.stays
  have D₆ : KtsDicts (outer.filterMap (·.frame)) g₆ := D.turn (T0.trans T₆)
  exact wpAny_passesOwnAt hE (k h₆ g₆ (T0.trans T₆) F₆ Nl K₆ X₆ P₆ D₆)
end
noncomputable def XEnd (A₀ : Around) (base g₀ : Heap) (outer : List Env) (env : Env) (L : Addr) (X : String) (M : Model) (A : Around) (s : Shared) (C : Value → Prop) (J : (Str → Option Value) → List (Addr × Obj) → Prop) (e : Value) (s' : Shared) : Prop :=
  ∀ Z : Prop, (∀ e' m' news' c h' tk, e = .ref e' → s' = { s with heap := h', toks := tk } → C c → J m' news' → (∀ (Q' : Unit → Shared → Prop) (E₁ : Value → Shared → Prop), (∀ h'', XHeld A₀ base g₀ outer env L e' X m' news' c h'' → Q' () { s' with heap := h'' }) → wpAny M A (noteFrame e env) Q' E₁ s') → Z) → Z
theorem rs_15_4 {M : Model} {A : Around} {Q : Value → Shared → Prop} {E : Value → Shared → Prop} {s : Shared} (h : wpAny M A (call .none [.none]) Q E s) : wpAny M A (call .none [.none]) Q E s := by first | (walk1; fail "") | exact h
section
variable {prog : Program} {w : World} {A : Around} {E : Value → Shared → Prop} {s : Shared} {env : Env}
theorem passes_noted {M : Model} {A' A'' : Around} {E : Value → Shared → Prop} : PassesOwn M A' env (notedBy M A' env (cameBackBy M A'' env E)) := fun _ _ h => wpAny_look_again (SameStack.refl A') h
theorem try_cut {A₀ : Around} {base g₀ : Heap} {outer : List Env} {name : Str} {scope : Scope} {L a : Addr} {cd : Value} {mF : Str → Option Value} {news : List (Addr × Obj)} (X : String) (J : (Str → Option Value) → List (Addr × Obj) → (Str → Option Value) → List (Addr × Obj) → Prop) {body : List Stmt} {h₀ : ExceptHandler} {hs : List ExceptHandler} {pos : Pos} {Q : Flow → Shared → Prop}
    (_K : Below A₀ base outer g₀) (_F : Fr g₀ L s.heap mF) (_N : News g₀ L s.heap news)
    (hX : ∀ e s', XEnd A₀ base g₀ outer (envOf name scope L a cd) L X (model prog w) (A₀.deeper (envOf name scope L a cd)) s (fun _ => True) (J mF news) e s' → wpAny (model prog w) (A₀.deeper (envOf name scope L a cd)) (noteFrame e (envOf name scope L a cd)) (fun _ s₂ => wpAny (model prog w) (A₀.deeper (envOf name scope L a cd)) (setFlight e none) (fun _ s₃ => wpAny (model prog w) (A₀.deeper (envOf name scope L a cd)) (handleBy e (envOf name scope L a cd) (h₀ :: hs)) Q E s₃) E s₂) E s')
    (hb : ∀ E', (∀ e s', XEnd A₀ base g₀ outer (envOf name scope L a cd) L X (model prog w) (A₀.deeper (envOf name scope L a cd)) s (fun _ => True) (J mF news) e s' → E' e s') → PassesOwn (model prog w) (A₀.deeper (envOf name scope L a cd)) (envOf name scope L a cd) E' → (∀ hd, PassesOwnAt (model prog w) ((A₀.deeper (envOf name scope L a cd)).mark hd) (A₀.deeper (envOf name scope L a cd)) (envOf name scope L a cd) E') →
      wpAny (model prog w) (A₀.deeper (envOf name scope L a cd)) (execs body (envOf name scope L a cd)) (fun f s₁ => match f with | .next => wpAny (model prog w) (A₀.deeper (envOf name scope L a cd)) (execs [] (envOf name scope L a cd)) Q E s₁ | f => Q f s₁) E' s) :
    wpAny (model prog w) (A₀.deeper (envOf name scope L a cd)) (exec (.Try body (h₀ :: hs) [] [] pos) (envOf name scope L a cd)) Q E s :=
  wpAny_Try_except (hb _ hX (fun _ _ h => wpAny_look_again (SameStack.refl _) h) (fun hd _ _ h => wpAny_look_again (SameStack.mark _ hd) h))
theorem fin_cut {A₀ : Around} {base g₀ : Heap} {outer : List Env} {name : Str} {scope : Scope} {L a : Addr} {cd : Value} {mF : Str → Option Value} {news : List (Addr × Obj)} (X : String) (J : (Str → Option Value) → List (Addr × Obj) → (Str → Option Value) → List (Addr × Obj) → Prop) {body : List Stmt} {f₀ : Stmt} {fs : List Stmt} {pos : Pos} {Q : Flow → Shared → Prop}
    (_K : Below A₀ base outer g₀) (_F : Fr g₀ L s.heap mF) (_N : News g₀ L s.heap news)
    (hX : ∀ e s', XEnd A₀ base g₀ outer (envOf name scope L a cd) L X (model prog w) (A₀.deeper (envOf name scope L a cd)) s (fun c => c = .none) (J mF news) e s' → wpAny (model prog w) (A₀.deeper (envOf name scope L a cd)) (noteFrame e (envOf name scope L a cd)) (fun _ s₂ => FinallyRaised prog w (A₀.deeper (envOf name scope L a cd)) E (envOf name scope L a cd) (f₀ :: fs) Q e s₂) (FinallyRaised prog w (A₀.deeper (envOf name scope L a cd)) E (envOf name scope L a cd) (f₀ :: fs) Q) s')
    (hb : ∀ E', (∀ e s', XEnd A₀ base g₀ outer (envOf name scope L a cd) L X (model prog w) (A₀.deeper (envOf name scope L a cd)) s (fun c => c = .none) (J mF news) e s' → E' e s') → PassesOwn (model prog w) (A₀.deeper (envOf name scope L a cd)) (envOf name scope L a cd) E' →
      wpAny (model prog w) (A₀.deeper (envOf name scope L a cd)) (execs body (envOf name scope L a cd)) (fun f s₁ => match f with
            | .next => wpAny (model prog w) (A₀.deeper (envOf name scope L a cd)) (execs [] (envOf name scope L a cd))
                (fun f' s₂ => wpAny (model prog w) (A₀.deeper (envOf name scope L a cd)) (execs (f₀ :: fs) (envOf name scope L a cd)) (fun g s' => match g with | .next => Q f' s' | g => Q g s') (notedBy (model prog w) (A₀.deeper (envOf name scope L a cd)) (envOf name scope L a cd) (cameBackBy (model prog w) (A₀.deeper (envOf name scope L a cd)) (envOf name scope L a cd) E)) s₂) (FinallyRaised prog w (A₀.deeper (envOf name scope L a cd)) E (envOf name scope L a cd) (f₀ :: fs) Q) s₁
            | f => wpAny (model prog w) (A₀.deeper (envOf name scope L a cd)) (execs (f₀ :: fs) (envOf name scope L a cd)) (fun g s' => match g with | .next => Q f s' | g => Q g s') (notedBy (model prog w) (A₀.deeper (envOf name scope L a cd)) (envOf name scope L a cd) (cameBackBy (model prog w) (A₀.deeper (envOf name scope L a cd)) (envOf name scope L a cd) E)) s₁) E' s) :
    wpAny (model prog w) (A₀.deeper (envOf name scope L a cd)) (exec (.Try body [] [] (f₀ :: fs) pos) (envOf name scope L a cd)) Q E s :=
  wpAny_Try_finally (hb _ hX (fun _ _ h => wpAny_look_again (SameStack.refl _) h))
end
theorem xend_new {A₀ : Around} {base g h h' : Heap} {outer : List Env} {name : Str} {scope : Scope} {L a e : Addr} {cd : Value} {m' : Str → Option Value} {news' : List (Addr × Obj)} {X : String} {M : Model} {C : Value → Prop} {J : (Str → Option Value) → List (Addr × Obj) → Prop} {s : Shared} {tk : Nat}
    (K : Below A₀ base outer g) (F : Fr g L h m') (N : News g L h news') (x : Heap.NewExc h h' e X) (hC : C .none) (hJ : J m' news') (hk : scope.kind = .function) :
    XEnd A₀ base g outer (envOf name scope L a cd) L X M (A₀.deeper (envOf name scope L a cd)) s C J (.ref e) { s with heap := h', toks := tk } :=
  fun _ q => q e m' news' .none h' tk rfl rfl hC hJ (fun _ _ k => noted_new_x KtsTurn.refl K F N (NewX.of x) (Around.frames_deeper K.stack) k hk)
theorem xend_newc {A₀ : Around} {base g₀ g h h' : Heap} {outer : List Env} {name : Str} {scope : Scope} {L a e : Addr} {cd c : Value} {m' : Str → Option Value} {news' : List (Addr × Obj)} {X : String} {M : Model} {C : Value → Prop} {J : (Str → Option Value) → List (Addr × Obj) → Prop} {s : Shared} {tk : Nat}
    (T0 : KtsTurn (outer.filterMap (·.frame)) g₀ g) (K : Below A₀ base outer g) (F : Fr g L h m') (N : News g L h news') (x : NewX h h' e X c) (hC : C c) (hJ : J m' news') (hk : scope.kind = .function) :
    XEnd A₀ base g₀ outer (envOf name scope L a cd) L X M (A₀.deeper (envOf name scope L a cd)) s C J (.ref e) { s with heap := h', toks := tk } :=
  fun _ q => q e m' news' c h' tk rfl rfl hC hJ (fun _ _ k => noted_new_x T0 K F N x (Around.frames_deeper K.stack) k hk)
theorem xend_again {A₀ : Around} {base g₀ h' : Heap} {outer : List Env} {name : Str} {scope : Scope} {L a e T : Addr} {cd : Value} {oe oT : Obj} {vs : Array Value} {m' : Str → Option Value} {news' : List (Addr × Obj)} {X : String} {M : Model} {A : Around} {C : Value → Prop} {J : (Str → Option Value) → List (Addr × Obj) → Prop} {s : Shared} {tk : Nat}
    (x : ExcAt h' e T oe oT (.type X) vs (rawInt L)) (H : XHeld A₀ base g₀ outer (envOf name scope L a cd) L e X m' news' .none h') (hC : C .none) (hJ : J m' news') :
    XEnd A₀ base g₀ outer (envOf name scope L a cd) L X M A s C J (.ref e) { s with heap := h', toks := tk } :=
  fun _ q => q e m' news' .none h' tk rfl rfl hC hJ (fun _ _ k => again_x rfl x (k h' H))
theorem XHeld.again {A₀ A : Around} {M : Model} {base g₀ : Heap} {outer : List Env} {name : Str} {scope : Scope} {L a e : Addr} {cd c : Value} {X : String} {m : Str → Option Value} {news : List (Addr × Obj)} {s : Shared} {Q : Unit → Shared → Prop} {E : Value → Shared → Prop}
    (H : XHeld A₀ base g₀ outer (envOf name scope L a cd) L e X m news c s.heap) (h : Q () s) : wpAny M A (noteFrame (.ref e) (envOf name scope L a cd)) Q E s := by
  refine H _ ?_
  clear H
  intro g B G T oe oT vs T0 K st F hBG hl GX xx hc2 ge gT eL TL up
  exact again_x rfl xx h
theorem kts_isList {fs : List Addr} {g g' : Heap} {l : Addr} {xs : Array Value} (T : KtsTurn fs g g') (D : KtsDicts fs g) (h : g.IsList l xs) : g'.IsList l xs := by
  obtain ⟨o, ho, hc, ne, hd⟩ := h
  refine ⟨o, T.other _ _ ho fun hm => ?_, hc, ne, hd⟩
  obtain ⟨o', es, n, ho', hd'⟩ := D _ hm
  rw [ho] at ho'; cases ho'
  rw [hd] at hd'; cases hd'
theorem lt_of_news {h₀ h : Heap} {L a : Addr} {o : Obj} {news : List (Addr × Obj)} (N : News h₀ L h news) (hm : (a, o) ∈ news) : @LT.lt Nat instLTNat a h.objs.size := Heap.lt_size (N _ hm).1
theorem updF_at {d : Addr} {o : Obj} : ∀ {l : List (Addr × Obj)} {f : Obj → List (Addr × Obj)}, UpdF d o l f → ∀ o', Upd d o o' l (f o')
  | _, _, .head h, _ => .head h
  | _, _, .tail h u, o' => .tail h (updF_at u o')
theorem ext_any {prog : Program} {w : World} {A : Around} {E : Value → Shared → Prop} {s : Shared} {h₀ : Heap} {L D b : Addr} {m : Str → Option Value} {news : List (Addr × Obj)} {nw : Obj → List (Addr × Obj)} {v1 v2 : List Value} {n n2 : Nat} {Q : Value → Shared → Prop} (F : Fr h₀ L s.heap m) (N : News h₀ L s.heap news) (hb : (b, listOf v2.toArray n2) ∈ news)
    (U : UpdF D (listOf v1.toArray n) news nw) (hz : v1.length + v2.length ≤ 64)
    (h : ∀ k h', Fr h₀ L h' m → News h₀ L h' (nw (listOf (v1 ++ v2).toArray k)) → Q .none { s with heap := h' }) : wpAny (model prog w) A (call (.builtin "list.extend") [.ref D, .ref b]) Q E s := by
  have hd : ¬(!v1.toArray.isEmpty && Builtin.List.listTooLong (v1.toArray.size + v2.toArray.size)) = true := by
    have : Builtin.List.listTooLong (v1.toArray.size + v2.toArray.size) = false := by
      unfold Builtin.List.listTooLong
      simp [sizeLine]; lia
    rw [this]; simp
  cases v2 with
  | nil =>
    refine kxn_extend F N hb rfl (updF_at U _) hd (by simp [sizeLine]; simp at hz; lia) (by simp [sizeLine]; simp at hz; lia) fun h' F' N' => h n h' F' (by simpa using N')
  | cons x v2 =>
    refine kl_extend F N hb (l := v1 ++ x :: v2) (by simp) (by simp) (updF_at U _) hd (by simp [sizeLine]; simp at hz; lia) (by simp [sizeLine]; simp at hz; lia) fun h' F' N' => h _ h' F' N'

noncomputable def ltS (x y : Str) : Bool := decide (x.cps.toList < y.cps.toList)
theorem strsAre_app {v1 v2 : List Value} {s1 s2 : List Str} (h1 : StrsAre v1 s1) (h2 : StrsAre v2 s2) : StrsAre (v1 ++ v2) (s1 ++ s2) := by
  induction h1 with
  | nil => exact h2
  | cons z u _ ih => exact .cons z u ih
theorem strsAre_drop {v : List Value} {s : List Str} (h : StrsAre v s) : ∀ n, StrsAre (v.drop n) (s.drop n) := by
  induction h with
  | nil => intro n; simp; exact .nil
  | cons z u h ih =>
    intro n
    cases n with
    | zero => exact .cons z u h
    | succ n => exact ih n
theorem str_item {prog : Program} {w : World} {A : Around} {E : Value → Shared → Prop} {s : Shared} {value slice : PySem.Expr} {l : Addr} {vs : List Value} {ss : List Str} {k : Nat} {u : Tok} {Q : Value → Shared → Prop}
    (hl : s.heap.IsList l vs.toArray) (hs : StrsAre vs ss) (hk : k < ss.length) (hz : ss.length ≤ 64) (h : ∀ t, Q (.str (ss.getD k ⟨#[]⟩) t) s)
    (hsub : subscripted slice false (.ref l) (.int (k : Int) u) = operate [.ref l, .int (k : Int) u] (getItem (.ref l) (.int (k : Int) u))) :
    wpAny (model prog w) A (subscriptTail value slice (.ref l) (.int (k : Int) u)) Q E s := by
  obtain ⟨t, ht⟩ := hs.get k (ss.getD k ⟨#[]⟩) (by simp [hk])
  exact tail_any hl.typeIs slot_list_getitem.lookup (wpAny_getItem_list hl (by lia) (by lia) (by simpa using ht) (h t)) hsub
theorem small_rg {n : Nat} (h : n ≤ 16) : Builtin.Range.small 0 (n : Int) 1 = true := by
  have : ∀ q : Nat, q ≤ 16 → Builtin.Range.small 0 (q : Int) 1 = true := by decide
  exact this n h
theorem size_rg (n : Nat) : Builtin.Range.rangeSize 0 (n : Int) 1 = (n : Int) := by
  unfold Builtin.Range.rangeSize
  simp only [show (1 : Int) > 0 by decide, if_true]
  split <;> lia
theorem str_last {prog : Program} {w : World} {A : Around} {E : Value → Shared → Prop} {s : Shared} {value slice : PySem.Expr} {l : Addr} {vs : List Value} {ss : List Str} {u : Tok} {Q : Value → Shared → Prop}
    (hl : s.heap.IsList l vs.toArray) (hs : StrsAre vs ss) (hk : 0 < ss.length) (hz : ss.length ≤ 64) (h : ∀ t, Q (.str (ss.getLastD Str.empty) t) s)
    (hsub : subscripted slice false (.ref l) (.int (-1) u) = operate [.ref l, .int (-1) u] (getItem (.ref l) (.int (-1) u))) :
    wpAny (model prog w) A (subscriptTail value slice (.ref l) (.int (-1) u)) Q E s := by
  obtain ⟨t, ht⟩ := hs.get (ss.length - 1) (ss.getLastD Str.empty) (by
    rw [List.getLastD_eq_getLast?, List.getLast?_eq_getElem?, List.getElem?_eq_getElem (by lia)]
    rfl)
  have hlen := hs.length
  refine tail_any hl.typeIs slot_list_getitem.lookup (wpAny_getItem_list_neg hl (by decide) ?_ (by decide) ?_ (h t)) hsub
  · simp; lia
  · have : ((-1 : Int) + (vs.toArray.size : Int)).toNat = ss.length - 1 := last_nat hk (by rw [List.size_toArray]; exact hlen)
    rw [this]; simpa using ht
theorem strsAre_take {v : List Value} {s : List Str} (h : StrsAre v s) : ∀ n, StrsAre (v.take n) (s.take n) := by
  induction h with
  | nil => intro n; simp; exact .nil
  | cons z u h ih =>
    intro n
    cases n with
    | zero => exact .nil
    | succ n => exact .cons z u (ih n)
theorem notin_upto {prog : Program} {w : World} {A : Around} {E : Value → Shared → Prop} {s : Shared} {x : Str} {t : Tok} {l : Addr} {vs : List Value} {ss : List Str} {i : Nat} {Q : Value → Shared → Prop} (hl : s.heap.IsList l (slicePick vs.toArray none (some (i : Int)) none)) (hs : StrsAre vs ss)
    (h : Q (.bool (!(ss.take i).any (· == x))) s) : wpAny (model prog w) A (compareOp .NotIn (.str x t) (.ref l)) Q E s := by
  rw [slicePick_upto'] at hl
  exact notin_list_strs hl (strsAre_take hs i) h

theorem rs_156_1 {M : Model} {A : Around} {Q : Value → Shared → Prop} {E : Value → Shared → Prop} {s : Shared} (h : wpAny M A (call .none [.none]) Q E s) : wpAny M A (call .none [.none]) Q E s := by first | (walk1; fail "") | exact h
section
variable {prog : Program} {w : World} {A : Around} {h₀ : Heap} {L : Addr} {m : Str → Option Value} {env : Env} {ct elt : Expr} {x : Str} {scope : Scope} {cl : List (Str × Addr)} {s : Shared} {S : List (Addr × Obj) → Prop} {P : Nat → Value → Prop} {Fin : List Value → List (Addr × Obj) → Prop} {news : List (Addr × Obj)}
theorem comp_J {n : Nat} (J : Nat → List Value → List (Addr × Obj) → Prop) (h0 : J 0 [] news)
    (turn : ∀ i ys news, i < n → J i ys news → ∀ v I oI C oC D m₂ h tk (E' : Value → Shared → Prop), P i v → LCg.NsObj oC m₂ → m₂ x = some v → Fr h₀ L h m → News h₀ L h ((I, oI) :: (C, oC) :: (D, LCg.lst ys) :: news) → LCg.Off3 I C D news → ((@Ne Nat I C) ∧ (@Ne Nat I D) ∧ (@Ne Nat C D)) →
      wpAny (model prog w) A (eval elt (compEnvC scope cl C env)) (LCg.CompEnd h₀ L m { s with heap := h, toks := tk } I oI C oC D (LCg.lst ys) S (fun y news' => J (i + 1) (ys ++ [y]) news')) E' { s with heap := h, toks := tk })
    (fin : ∀ ys news, J n ys news → Fin ys news) : LCg.CompRest prog w A h₀ L m env elt x scope cl s S P Fin n 0 [] news := by
  suffices key : ∀ (k i : Nat) (ys : List Value) (news : List (Addr × Obj)), i + k = n → J i ys news → LCg.CompRest prog w A h₀ L m env elt x scope cl s S P Fin k i ys news from key n 0 [] news (by lia) h0
  intro k
  induction k with
  | zero =>
    intro i ys news hik hJ
    have : i = n := by lia
    subst this
    exact LCg.CompRest.zero (fin ys news hJ)
  | succ k ih =>
    intro i ys news hik hJ
    refine LCg.CompRest.succ ?_
    intro v I oI C oC D m₂ h tk E' hv hC hx F N off ne
    refine wpAny_mono (turn i ys news (by lia) hJ v I oI C oC D m₂ h tk E' hv hC hx F N off ne) (fun y s₂ hq => ?_) fun _ _ e => e
    obtain ⟨h', tk', nw, e, F', N', off', hS, hn⟩ := hq
    exact ⟨h', tk', nw, e, F', N', off', hS, ih (i + 1) _ nw (by lia) hn⟩
theorem comp_JT {n : Nat} (J : Nat → List Value → List (Addr × Obj) → Prop) (h0 : J 0 [] news)
    (turn : ∀ i ys news, i < n → J i ys news → ∀ v I oI C oC D m₂ h tk (E' : Value → Shared → Prop), P i v → LCg.NsObj oC m₂ → m₂ x = some v → Fr h₀ L h m → News h₀ L h ((I, oI) :: (C, oC) :: (D, LCg.lst ys) :: news) → LCg.Off3 I C D news → ((@Ne Nat I C) ∧ (@Ne Nat I D) ∧ (@Ne Nat C D)) →
      wpAny (model prog w) A (isTrue ct (compEnvC scope cl C env) (eval ct (compEnvC scope cl C env))) (fun ok s' => if ok = true then
        wpAny (model prog w) A (eval elt (compEnvC scope cl C env)) (LCg.CompEnd h₀ L m { s with heap := h, toks := tk } I oI C oC D (LCg.lst ys) S (fun y news' => J (i + 1) (ys ++ [y]) news')) E' s'
        else LCg.CompEnd h₀ L m { s with heap := h, toks := tk } I oI C oC D (LCg.lst ys) S (fun _ news' => J (i + 1) ys news') Value.none s') E' { s with heap := h, toks := tk })
    (fin : ∀ ys news, J n ys news → Fin ys news) : LCt.CompRestT prog w A h₀ L m env ct elt x scope cl s S P Fin n 0 [] news := by
  suffices key : ∀ (k i : Nat) (ys : List Value) (news : List (Addr × Obj)), i + k = n → J i ys news → LCt.CompRestT prog w A h₀ L m env ct elt x scope cl s S P Fin k i ys news from key n 0 [] news (by lia) h0
  intro k
  induction k with
  | zero =>
    intro i ys news hik hJ
    have : i = n := by lia
    subst this
    exact LCt.CompRestT.zero (fin ys news hJ)
  | succ k ih =>
    intro i ys news hik hJ
    refine LCt.CompRestT.succ ?_
    intro v I oI C oC D m₂ h tk E' hv hC hx F N off ne
    refine wpAny_mono (turn i ys news (by lia) hJ v I oI C oC D m₂ h tk E' hv hC hx F N off ne) (fun ok s₂ hq => ?_) fun _ _ e => e
    cases ok with
    | true =>
      simp only [if_true] at hq ⊢
      refine wpAny_mono hq (fun y s₃ hq => ?_) fun _ _ e => e
      obtain ⟨h', tk', nw, e, F', N', off', hS, hn⟩ := hq
      exact ⟨h', tk', nw, e, F', N', off', hS, ih (i + 1) _ nw (by lia) hn⟩
    | false =>
      simp only [Bool.false_eq_true, if_false] at hq ⊢
      obtain ⟨h', tk', nw, e, F', N', off', hS, hn⟩ := hq
      exact ⟨h', tk', nw, e, F', N', off', hS, ih (i + 1) _ nw (by lia) hn⟩
theorem comp_Jn {n : Nat} (R : Nat → List Value → Prop) (h0 : R 0 [])
    (turn : ∀ i ys, i < n → R i ys → ∀ v I oI C oC D m₂ h tk (E' : Value → Shared → Prop), P i v → LCg.NsObj oC m₂ → m₂ x = some v → Fr h₀ L h m → News h₀ L h ((I, oI) :: (C, oC) :: (D, LCg.lst ys) :: news) → LCg.Off3 I C D news → ((@Ne Nat I C) ∧ (@Ne Nat I D) ∧ (@Ne Nat C D)) →
      wpAny (model prog w) A (eval elt (compEnvC scope cl C env)) (LCg.CompEnd h₀ L m { s with heap := h, toks := tk } I oI C oC D (LCg.lst ys) S (fun y news' => news' = news ∧ R (i + 1) (ys ++ [y]))) E' { s with heap := h, toks := tk })
    (fin : ∀ ys, R n ys → Fin ys news) : LCg.CompRest prog w A h₀ L m env elt x scope cl s S P Fin n 0 [] news :=
  comp_J (fun i ys nx => nx = news ∧ R i ys) ⟨rfl, h0⟩ (fun i ys nx hi hJ => by obtain ⟨rfl, h⟩ := hJ; exact turn i ys hi h) fun ys nx hJ => by obtain ⟨rfl, h⟩ := hJ; exact fin ys h
theorem comp_JTn {n : Nat} (R : Nat → List Value → Prop) (h0 : R 0 [])
    (turn : ∀ i ys, i < n → R i ys → ∀ v I oI C oC D m₂ h tk (E' : Value → Shared → Prop), P i v → LCg.NsObj oC m₂ → m₂ x = some v → Fr h₀ L h m → News h₀ L h ((I, oI) :: (C, oC) :: (D, LCg.lst ys) :: news) → LCg.Off3 I C D news → ((@Ne Nat I C) ∧ (@Ne Nat I D) ∧ (@Ne Nat C D)) →
      wpAny (model prog w) A (isTrue ct (compEnvC scope cl C env) (eval ct (compEnvC scope cl C env))) (fun ok s' => if ok = true then
        wpAny (model prog w) A (eval elt (compEnvC scope cl C env)) (LCg.CompEnd h₀ L m { s with heap := h, toks := tk } I oI C oC D (LCg.lst ys) S (fun y news' => news' = news ∧ R (i + 1) (ys ++ [y]))) E' s'
        else LCg.CompEnd h₀ L m { s with heap := h, toks := tk } I oI C oC D (LCg.lst ys) S (fun _ news' => news' = news ∧ R (i + 1) ys) Value.none s') E' { s with heap := h, toks := tk })
    (fin : ∀ ys, R n ys → Fin ys news) : LCt.CompRestT prog w A h₀ L m env ct elt x scope cl s S P Fin n 0 [] news :=
  comp_JT (fun i ys nx => nx = news ∧ R i ys) ⟨rfl, h0⟩ (fun i ys nx hi hJ => by obtain ⟨rfl, h⟩ := hJ; exact turn i ys hi h) fun ys nx hJ => by obtain ⟨rfl, h⟩ := hJ; exact fin ys h
end
inductive CellsI : List (Addr × Obj) → List (List Int) → Prop
  | nil : CellsI [] []
  | cons {a : Addr} {v : List Value} {n : Nat} {zs : List Int} {cs : List (Addr × Obj)} {zss : List (List Int)} (h : IntsAre v zs) (r : CellsI cs zss) : CellsI ((a, listOf v.toArray n) :: cs) (zs :: zss)
theorem CellsI.len {cells : List (Addr × Obj)} {Z : List (List Int)} (hC : CellsI cells Z) : cells.length = Z.length := by
  induction hC with
  | nil => rfl
  | cons _ _ ih => simp [ih]
theorem CellsI.snoc {cs : List (Addr × Obj)} {zss : List (List Int)} (h : CellsI cs zss) {a : Addr} {v : List Value} {n : Nat} {zs : List Int} (hi : IntsAre v zs) : CellsI (cs ++ [(a, listOf v.toArray n)]) (zss ++ [zs]) := by
  induction h with
  | nil => exact .cons hi .nil
  | cons h' _ ih => exact .cons h' ih
theorem int_first {prog : Program} {w : World} {A : Around} {E : Value → Shared → Prop} {s : Shared} {value slice : PySem.Expr} {l : Addr} {vs : List Value} {ns : List Int} {f : Nat} {u : Tok} {Q : Value → Shared → Prop}
    (hl : s.heap.IsList l vs.toArray) (hs : IntsAre vs ns) (hk : 0 < ns.length) (hf : ns.getD 0 0 = (f : Int)) (h : ∀ t, Q (.int (f : Int) t) s)
    (hsub : subscripted slice false (.ref l) (.int 0 u) = operate [.ref l, .int 0 u] (getItem (.ref l) (.int 0 u))) :
    wpAny (model prog w) A (subscriptTail value slice (.ref l) (.int 0 u)) Q E s := by
  have hlen := hs.length
  obtain ⟨v, hv⟩ : ∃ v, vs[0]? = some v := ⟨vs[0], List.getElem?_eq_getElem (by lia)⟩
  obtain ⟨t, rfl⟩ := hs.int_at 0 v hv
  rw [hf] at hv
  exact tail_any hl.typeIs slot_list_getitem.lookup (wpAny_getItem_list hl (by decide) (by decide) (by simpa using hv) (h t)) hsub
theorem int_last {prog : Program} {w : World} {A : Around} {E : Value → Shared → Prop} {s : Shared} {value slice : PySem.Expr} {l : Addr} {vs : List Value} {ns : List Int} {f : Nat} {u : Tok} {Q : Value → Shared → Prop}
    (hl : s.heap.IsList l vs.toArray) (hs : IntsAre vs ns) (hk : 0 < ns.length) (hf : ns.getD (ns.length - 1) 0 = (f : Int)) (h : ∀ t, Q (.int (f : Int) t) s)
    (hsub : subscripted slice false (.ref l) (.int (-1) u) = operate [.ref l, .int (-1) u] (getItem (.ref l) (.int (-1) u))) :
    wpAny (model prog w) A (subscriptTail value slice (.ref l) (.int (-1) u)) Q E s := by
  have hlen := hs.length
  obtain ⟨v, hv⟩ : ∃ v, vs[ns.length - 1]? = some v := ⟨vs[ns.length - 1], List.getElem?_eq_getElem (by lia)⟩
  obtain ⟨t, rfl⟩ := hs.int_at _ v hv
  rw [hf] at hv
  refine tail_any hl.typeIs slot_list_getitem.lookup (wpAny_getItem_list_neg hl (by decide) ?_ (by decide) ?_ (h t)) hsub
  · simp; lia
  · have : ((-1 : Int) + (vs.toArray.size : Int)).toNat = ns.length - 1 := last_nat hk (by rw [List.size_toArray]; exact hlen)
    rw [this]; simpa using hv
theorem intsAre_ex (ns : List Int) : IntsAre (ns.map fun n => Value.int n 0) ns := by
  induction ns with
  | nil => exact .nil
  | cons n ns ih => exact .cons n 0 ih
theorem intsAre_uniq {vs : List Value} {ns ms : List Int} (h1 : IntsAre vs ns) (h2 : IntsAre vs ms) : ns = ms := by
  rw [← h1.numsOf, ← h2.numsOf]
theorem pick_run (ns : List Int) {a b : Int} (p q : Nat) (ha : a = (p : Int)) (hb : b = (q : Int)) (h1 : p ≤ q) (h2 : q ≤ ns.length) : pickNums ns (some a) (some b) none = (ns.drop p).take (q - p) := by
  subst ha hb
  have h := intsAre_ex ns
  have e := h.pick (some (p : Int)) (some (q : Int)) none
  rw [slicePick_run _ p q (by simpa using h2) h1] at e
  exact intsAre_uniq e ((h.drop p).take (q - p))
theorem pick_from (ns : List Int) {a : Int} (p : Nat) (ha : a = (p : Int)) : pickNums ns (some a) none none = ns.drop p := by
  subst ha
  have h := intsAre_ex ns
  have e := h.pick (some (p : Int)) none none
  rw [slicePick_from'] at e
  exact intsAre_uniq e (h.drop p)
theorem pick_upto (ns : List Int) {a : Int} (p : Nat) (ha : a = (p : Int)) : pickNums ns none (some a) none = ns.take p := by
  subst ha
  have h := intsAre_ex ns
  have e := h.pick none (some (p : Int)) none
  rw [slicePick_upto'] at e
  exact intsAre_uniq e (h.take p)
theorem pick_len (ns : List Int) (lo hi st : Option Int) : (pickNums ns lo hi st).length ≤ ns.length := by
  have h := intsAre_ex ns
  have e := (h.pick lo hi st).length
  rw [← e]
  have := slicePick_size_le (ns.map fun n => Value.int n 0).toArray lo hi st
  simpa using this
theorem pick_two {ns : List Int} {a b c d e f : Option Int} (h : ns.length ≤ 16) : (pickNums ns a b c).length + (pickNums ns d e f).length ≤ sizeLine := by
  have h1 := pick_len ns a b c
  have h2 := pick_len ns d e f
  simp only [sizeLine]; lia

noncomputable def scopeAt (n : Nat) : Scope := match PySem.Challenge.pw_op0087_01.main.body.getD n (.Pass ⟨0, 0, 0, 0⟩) with
  | .FunctionDef _ _ _ _ _ _ sc _ _ _ => sc
  | _ => default
noncomputable def bodyAt (n : Nat) : List Stmt := match PySem.Challenge.pw_op0087_01.main.body.getD n (.Pass ⟨0, 0, 0, 0⟩) with
  | .FunctionDef _ _ b _ _ _ _ _ _ _ => b
  | _ => []
noncomputable def sldScope : Scope := scopeAt 23
noncomputable def sldLoop : Stmt := (bodyAt 23).getD 3 (.Pass ⟨0, 0, 0, 0⟩)
noncomputable def SldI (m₀ : Str → Option Value) (news : List (Addr × Obj)) (x : Str) (i₀ : Nat) (xs : List Str) (e : Str) (n : Nat) (m : Str → Option Value) (nx : List (Addr × Obj)) : Prop :=
  ∀ C : Prop, (∀ (k : Nat) (t : Tok), n = xs.length - k → m x = some (.int (k : Int) t) → i₀ ≤ k → k ≤ xs.length → (∀ q, i₀ ≤ q → q < k → xs.getD q Str.empty = e) → nx = news → (∀ z, z ≠ x → m z = m₀ z) → C) → C
theorem all_snoc {xs : List Str} {e : Str} {i₀ k : Nat} (h : ∀ q, i₀ ≤ q → q < k → xs.getD q Str.empty = e) (hk : xs.getD k Str.empty = e) : ∀ q, i₀ ≤ q → q < k + 1 → xs.getD q Str.empty = e := by
  intro q h1 h2
  by_cases e' : q = k
  · rw [e']; exact hk
  · exact h q h1 (by lia)
theorem rs_157_1 {M : Model} {A : Around} {Q : Value → Shared → Prop} {E : Value → Shared → Prop} {s : Shared} (h : wpAny M A (call .none [.none]) Q E s) : wpAny M A (call .none [.none]) Q E s := by first | (walk1; fail "") | exact h
section
variable {w : World} {loose : List Str} {mean : ExcName → Option Value} {mg mb : Str → Option Value}
theorem inner_i {A : Around} {h₀ : Heap} {L : Addr} {cd : Value} {xh : Heap} {xg : Array GenState} {xd : Drawn} {xt : Nat} {xo : OsState} {m : Str → Option Value} {news : List (Addr × Obj)} {Q : Flow → Shared → Prop} {E : Value → Shared → Prop} {le : Addr} {ve : List Value} {es : List Str} {e : Str} {te t₀ : Tok} {k₀ : Nat} {p1 p2 p3 p4 p5 p6 p7 p8 p9 : Pos} {kk : Nat} {sc : Scope}
    (hsc : sc = sldScope) (X : (hd.heap_1 w.params).In h₀) (T : Top viewQ loose mean mg mb h₀) (hle : h₀.IsList le ve.toArray) (hse : StrsAre ve es) (hne : es.length ≤ 16)
    (F : Fr h₀ L xh m) (N : News h₀ L xh news) (hi : m (Str.ofString "i") = some (.int (k₀ : Int) t₀)) (hx : m (Str.ofString "expected") = some (.ref le)) (he : m (Str.ofString "e") = some (.str e te)) (hk : k₀ ≤ es.length)
    (hE : PassesOwn (model PySem.Challenge.rw_op0087_01.row.prog w) A (envOf (Str.ofString "sorted_list_difference") sc L 123 cd) E)
    (done : ∀ k t h tk m', k₀ ≤ k → k < es.length → (∀ q, k₀ ≤ q → q < k → es.getD q Str.empty = e) → es.getD k Str.empty ≠ e → Fr h₀ L h m' → News h₀ L h news → m' (Str.ofString "i") = some (.int (k : Int) t) → (∀ z, z ≠ Str.ofString "i" → m' z = m z) → Q .next ⟨h, xg, xd, tk, xo⟩)
    (out : ∀ t h tk m' v sl Q', (∀ q, k₀ ≤ q → q < es.length → es.getD q Str.empty = e) → Fr h₀ L h m' → News h₀ L h news → m' (Str.ofString "i") = some (.int (es.length : Int) t) → (∀ z, z ≠ Str.ofString "i" → m' z = m z) →
      wpAny (model PySem.Challenge.rw_op0087_01.row.prog w) A (subscriptTail (.Name v p1) (.Name sl p2) (.ref le) (.int (es.length : Int) t)) Q' E ⟨h, xg, xd, tk, xo⟩) :
    wpAny (model PySem.Challenge.rw_op0087_01.row.prog w) A (exec (.While (.Compare (.Subscript (.Name (Str.ofString "expected") p1) (.Name (Str.ofString "i") p2) p3) [.Eq] [.Name (Str.ofString "e") p4] p5) [.AugAssign (.Name (Str.ofString "i") p6) .Add (.Constant (.int 1) kk p7) p8] [] p9) (envOf (Str.ofString "sorted_list_difference") sc L 123 cd)) Q E ⟨xh, xg, xd, xt, xo⟩ := by
  subst hsc
  have hlv := hse.length
  refine while_T (SldI m news (Str.ofString "i") k₀ es e) (es.length - k₀) F N (fun _ q => q k₀ _ rfl hi (Nat.le_refl _) hk (fun q h1 h2 => absurd (Nat.lt_of_lt_of_le h2 h1) (Nat.lt_irrefl _)) rfl fun _ _ => rfl) ?turn hE
  intro n m₁ nx h tk F₁ N₁ hJ
  refine hJ _ ?_
  clear hJ
  intro k t hn e1 hk1 hk2 hall e0 e3
  replace N₁ := news_is e0 N₁
  clear e0 F N
  have hs : HsL m₁ [(Str.ofString "i", _), (Str.ofString "expected", .ref le), (Str.ofString "e", .str e te)] := ⟨e1, (e3 (Str.ofString "expected") (by decide)).trans hx, (e3 (Str.ofString "e") (by decide)).trans he, trivial⟩
  have F₂ := fr_Bl _ hs (fun _ _ => rfl) F₁
  clear F₁ e1 hi hx he
  rcases Nat.lt_or_ge k es.length with hk' | hk'
  · k_steps
    · rename (_ == _) = true => hq
      exact wend (es.length - (k + 1)) (by assumption) (by assumption) (Nat.lt_of_lt_of_eq (Nat.sub_lt_sub_left hk' (Nat.lt_succ_self k)) hn.symm) (fun _ q => q (k + 1) _ rfl rfl (Nat.le_succ_of_le hk1) hk' (all_snoc hall (beq_iff_eq.mp hq)) rfl fun z hz => by (((repeat' first | with_reducible exact rfl | exact kst_nil rfl | with_reducible refine off_ite (by assumption) ?_ | refine kst_off (by assumption) ?_ | refine kst_nil ?_))); exact (kstB_same hs.2 z).trans (e3 z hz))
    · rename (_ == _) = false => hq
      exact done k _ _ _ _ hk1 hk' hall (fun h => by rw [beq_eq_false_iff_ne] at hq; exact hq h) (by assumption) (by assumption) rfl fun z hz => by (((repeat' first | with_reducible exact rfl | exact kst_nil rfl | with_reducible refine off_ite (by assumption) ?_ | refine kst_off (by assumption) ?_ | refine kst_nil ?_))); exact (kstB_same hs.2 z).trans (e3 z hz)
  · have hke : es.length = k := Nat.le_antisymm hk' hk2
    subst hke
    have mk1 := mark 12
    k_steps
    delta Stop
    exact out _ _ _ _ _ _ _ hall (by assumption) (by assumption) rfl fun z hz => by (((repeat' first | with_reducible exact rfl | exact kst_nil rfl | with_reducible refine off_ite (by assumption) ?_ | refine kst_off (by assumption) ?_ | refine kst_nil ?_))); exact (kstB_same hs.2 z).trans (e3 z hz)
theorem inner_j {A : Around} {h₀ : Heap} {L : Addr} {cd : Value} {xh : Heap} {xg : Array GenState} {xd : Drawn} {xt : Nat} {xo : OsState} {m : Str → Option Value} {news : List (Addr × Obj)} {Q : Flow → Shared → Prop} {E : Value → Shared → Prop} {le : Addr} {ve : List Value} {es : List Str} {e : Str} {te t₀ : Tok} {k₀ : Nat} {p1 p2 p3 p4 p5 p6 p7 p8 p9 : Pos} {kk : Nat} {sc : Scope}
    (hsc : sc = sldScope) (X : (hd.heap_1 w.params).In h₀) (T : Top viewQ loose mean mg mb h₀) (hle : h₀.IsList le ve.toArray) (hse : StrsAre ve es) (hne : es.length ≤ 16)
    (F : Fr h₀ L xh m) (N : News h₀ L xh news) (hi : m (Str.ofString "j") = some (.int (k₀ : Int) t₀)) (hx : m (Str.ofString "actual") = some (.ref le)) (he : m (Str.ofString "a") = some (.str e te)) (hk : k₀ ≤ es.length)
    (hE : PassesOwn (model PySem.Challenge.rw_op0087_01.row.prog w) A (envOf (Str.ofString "sorted_list_difference") sc L 123 cd) E)
    (done : ∀ k t h tk m', k₀ ≤ k → k < es.length → (∀ q, k₀ ≤ q → q < k → es.getD q Str.empty = e) → es.getD k Str.empty ≠ e → Fr h₀ L h m' → News h₀ L h news → m' (Str.ofString "j") = some (.int (k : Int) t) → (∀ z, z ≠ Str.ofString "j" → m' z = m z) → Q .next ⟨h, xg, xd, tk, xo⟩)
    (out : ∀ t h tk m' v sl Q', (∀ q, k₀ ≤ q → q < es.length → es.getD q Str.empty = e) → Fr h₀ L h m' → News h₀ L h news → m' (Str.ofString "j") = some (.int (es.length : Int) t) → (∀ z, z ≠ Str.ofString "j" → m' z = m z) →
      wpAny (model PySem.Challenge.rw_op0087_01.row.prog w) A (subscriptTail (.Name v p1) (.Name sl p2) (.ref le) (.int (es.length : Int) t)) Q' E ⟨h, xg, xd, tk, xo⟩) :
    wpAny (model PySem.Challenge.rw_op0087_01.row.prog w) A (exec (.While (.Compare (.Subscript (.Name (Str.ofString "actual") p1) (.Name (Str.ofString "j") p2) p3) [.Eq] [.Name (Str.ofString "a") p4] p5) [.AugAssign (.Name (Str.ofString "j") p6) .Add (.Constant (.int 1) kk p7) p8] [] p9) (envOf (Str.ofString "sorted_list_difference") sc L 123 cd)) Q E ⟨xh, xg, xd, xt, xo⟩ := by
  subst hsc
  have hlv := hse.length
  refine while_T (SldI m news (Str.ofString "j") k₀ es e) (es.length - k₀) F N (fun _ q => q k₀ _ rfl hi (Nat.le_refl _) hk (fun q h1 h2 => absurd (Nat.lt_of_lt_of_le h2 h1) (Nat.lt_irrefl _)) rfl fun _ _ => rfl) ?turn hE
  intro n m₁ nx h tk F₁ N₁ hJ
  refine hJ _ ?_
  clear hJ
  intro k t hn e1 hk1 hk2 hall e0 e3
  replace N₁ := news_is e0 N₁
  clear e0 F N
  have hs : HsL m₁ [(Str.ofString "j", _), (Str.ofString "actual", .ref le), (Str.ofString "a", .str e te)] := ⟨e1, (e3 (Str.ofString "actual") (by decide)).trans hx, (e3 (Str.ofString "a") (by decide)).trans he, trivial⟩
  have F₂ := fr_Bl _ hs (fun _ _ => rfl) F₁
  clear F₁ e1 hi hx he
  rcases Nat.lt_or_ge k es.length with hk' | hk'
  · k_steps
    · rename (_ == _) = true => hq
      exact wend (es.length - (k + 1)) (by assumption) (by assumption) (Nat.lt_of_lt_of_eq (Nat.sub_lt_sub_left hk' (Nat.lt_succ_self k)) hn.symm) (fun _ q => q (k + 1) _ rfl rfl (Nat.le_succ_of_le hk1) hk' (all_snoc hall (beq_iff_eq.mp hq)) rfl fun z hz => by (((repeat' first | with_reducible exact rfl | exact kst_nil rfl | with_reducible refine off_ite (by assumption) ?_ | refine kst_off (by assumption) ?_ | refine kst_nil ?_))); exact (kstB_same hs.2 z).trans (e3 z hz))
    · rename (_ == _) = false => hq
      exact done k _ _ _ _ hk1 hk' hall (fun h => by rw [beq_eq_false_iff_ne] at hq; exact hq h) (by assumption) (by assumption) rfl fun z hz => by (((repeat' first | with_reducible exact rfl | exact kst_nil rfl | with_reducible refine off_ite (by assumption) ?_ | refine kst_off (by assumption) ?_ | refine kst_nil ?_))); exact (kstB_same hs.2 z).trans (e3 z hz)
  · have hke : es.length = k := Nat.le_antisymm hk' hk2
    subst hke
    have mk1 := mark 12
    k_steps
    delta Stop
    exact out _ _ _ _ _ _ _ hall (by assumption) (by assumption) rfl fun z hz => by (((repeat' first | with_reducible exact rfl | exact kst_nil rfl | with_reducible refine off_ite (by assumption) ?_ | refine kst_off (by assumption) ?_ | refine kst_nil ?_))); exact (kstB_same hs.2 z).trans (e3 z hz)
end

noncomputable def sldV : List Str → List Str → List Str × List Str
  | [], as => ([], as)
  | e :: es, [] => (e :: es, [])
  | e :: es, a :: as =>
    if ltS e a then ((e :: (sldV (es.dropWhile (· == e)) (a :: as)).1), (sldV (es.dropWhile (· == e)) (a :: as)).2)
    else if ltS a e then ((sldV (e :: es) (as.dropWhile (· == a))).1, (a :: (sldV (e :: es) (as.dropWhile (· == a))).2))
    else sldV (es.dropWhile (· == e)) (as.dropWhile (· == a))
termination_by es as => es.length + as.length
decreasing_by
  all_goals
    have h1 : (es.dropWhile (· == e)).length ≤ es.length := (List.dropWhile_sublist _).length_le
    have h2 : (as.dropWhile (· == a)).length ≤ as.length := (List.dropWhile_sublist _).length_le
    simp only [List.length_cons]
    lia
noncomputable def SldJ (m₀ : Str → Option Value) (lm lu : Addr) (i j : Nat) (mi un : List Str) (m : Str → Option Value) (nx : List (Addr × Obj)) : Prop :=
  ∀ C : Prop, (∀ (ti tj : Tok) (vm vu : List Value) (cm cu : Nat), m (Str.ofString "i") = some (.int (i : Int) ti) → m (Str.ofString "j") = some (.int (j : Int) tj) →
    nx = [(lu, listOf vu.toArray cu), (lm, listOf vm.toArray cm)] → StrsAre vm mi → StrsAre vu un →
    (∀ z, z ≠ Str.ofString "i" → z ≠ Str.ofString "j" → z ≠ Str.ofString "e" → z ≠ Str.ofString "a" → m z = m₀ z) → C) → C
noncomputable def SldW (m₀ : Str → Option Value) (lm lu : Addr) (es as : List Str) (n : Nat) (m : Str → Option Value) (nx : List (Addr × Obj)) : Prop :=
  ∀ C : Prop, (∀ (i j : Nat) (mi un : List Str), n = (es.length - i) + (as.length - j) → i ≤ es.length → j ≤ as.length → mi.length ≤ i → un.length ≤ j →
    sldV es as = (mi ++ (sldV (es.drop i) (as.drop j)).1, un ++ (sldV (es.drop i) (as.drop j)).2) → SldJ m₀ lm lu i j mi un m nx → C) → C
noncomputable def SldX (m₀ : Str → Option Value) (lm lu : Addr) (es as : List Str) (m : Str → Option Value) (nx : List (Addr × Obj)) : Prop :=
  ∀ C : Prop, (∀ (i j : Nat) (mi un : List Str), i ≤ es.length → j ≤ as.length → mi.length ≤ i → un.length ≤ j → sldV es as = (mi ++ es.drop i, un ++ as.drop j) → SldJ m₀ lm lu i j mi un m nx → C) → C
noncomputable def SldF (es : List Str) (i : Nat) (mF : Str → Option Value) (news : List (Addr × Obj)) (m' : Str → Option Value) (news' : List (Addr × Obj)) : Prop :=
  ∀ C : Prop, (news' = news → ∀ t : Tok, m' (Str.ofString "i") = some (.int (es.length : Int) t) → (∀ q, i + 1 ≤ q → q < es.length → es.getD q Str.empty = es.getD i Str.empty) → (∀ z, z ≠ Str.ofString "i" → m' z = mF z) → C) → C
theorem dropWhile_at {xs : List Str} {e : Str} : ∀ {i k : Nat}, i ≤ k → k ≤ xs.length → (∀ q, i ≤ q → q < k → xs.getD q Str.empty = e) → (k = xs.length ∨ xs.getD k Str.empty ≠ e) → (xs.drop i).dropWhile (· == e) = xs.drop k := by
  intro i k h
  induction h' : k - i generalizing i with
  | zero =>
    intro h1 h2 h3
    have : i = k := Nat.le_antisymm h (Nat.le_of_sub_eq_zero h')
    subst this
    rcases h3 with h3 | h3
    · rw [h3, List.drop_length]; rfl
    · have hlt := Nat.lt_or_eq_of_le h1
      rcases hlt with hlt | hlt
      · rw [List.drop_eq_getElem_cons hlt, List.dropWhile_cons_of_neg]
        simpa [hlt] using h3
      · rw [hlt, List.drop_length]; rfl
  | succ n ih =>
    intro h1 h2 h3
    have hik := Nat.lt_of_sub_eq_succ h'
    have hlt := Nat.lt_of_lt_of_le hik h1
    rw [List.drop_eq_getElem_cons hlt, List.dropWhile_cons_of_pos]
    · exact ih (i := i + 1) hik (sub_step h') h1 (fun q q1 q2 => h2 q (Nat.le_of_succ_le q1) q2) h3
    · have := h2 i (Nat.le_refl _) hik
      simpa [hlt] using this
theorem drop_cons {xs : List Str} {i : Nat} (h : i < xs.length) : xs.drop i = xs.getD i Str.empty :: xs.drop (i + 1) := by
  rw [List.drop_eq_getElem_cons h]; simp [h]
theorem sldV_nil (as : List Str) : sldV [] as = ([], as) := by cases as <;> simp [sldV]
theorem sldV_nil2 (es : List Str) : sldV es [] = (es, []) := by cases es <;> simp [sldV]
theorem sldV_lt {es as : List Str} {i j : Nat} {mi un : List Str} (hi : i < es.length) (hj : j < as.length) (hv : sldV es as = (mi ++ (sldV (es.drop i) (as.drop j)).1, un ++ (sldV (es.drop i) (as.drop j)).2))
    (hlt : ltS (es.getD i Str.empty) (as.getD j Str.empty) = true) {k : Nat} (hk : i + 1 ≤ k) (hk2 : k ≤ es.length) (hall : ∀ q, i + 1 ≤ q → q < k → es.getD q Str.empty = es.getD i Str.empty) (he : k = es.length ∨ es.getD k Str.empty ≠ es.getD i Str.empty) :
    sldV es as = ((mi ++ [es.getD i Str.empty]) ++ (sldV (es.drop k) (as.drop j)).1, un ++ (sldV (es.drop k) (as.drop j)).2) := by
  rw [hv]
  have e : sldV (es.drop i) (as.drop j) = (es.getD i Str.empty :: (sldV (es.drop k) (as.drop j)).1, (sldV (es.drop k) (as.drop j)).2) := by
    rw [drop_cons hi, drop_cons hj, sldV, if_pos hlt, dropWhile_at hk hk2 hall he]
  rw [e]; simp
theorem sldV_gt {es as : List Str} {i j : Nat} {mi un : List Str} (hi : i < es.length) (hj : j < as.length) (hv : sldV es as = (mi ++ (sldV (es.drop i) (as.drop j)).1, un ++ (sldV (es.drop i) (as.drop j)).2))
    (hlt : ltS (es.getD i Str.empty) (as.getD j Str.empty) = false) (hgt : ltS (as.getD j Str.empty) (es.getD i Str.empty) = true) {k : Nat} (hk : j + 1 ≤ k) (hk2 : k ≤ as.length) (hall : ∀ q, j + 1 ≤ q → q < k → as.getD q Str.empty = as.getD j Str.empty) (he : k = as.length ∨ as.getD k Str.empty ≠ as.getD j Str.empty) :
    sldV es as = (mi ++ (sldV (es.drop i) (as.drop k)).1, (un ++ [as.getD j Str.empty]) ++ (sldV (es.drop i) (as.drop k)).2) := by
  rw [hv]
  have e : sldV (es.drop i) (as.drop j) = ((sldV (es.drop i) (as.drop k)).1, as.getD j Str.empty :: (sldV (es.drop i) (as.drop k)).2) := by
    rw [drop_cons hi, drop_cons hj, sldV, if_neg (by rw [hlt]; decide), if_pos hgt, dropWhile_at hk hk2 hall he]
  rw [e]; simp
theorem sldV_eq {es as : List Str} {i j : Nat} {mi un : List Str} (hi : i < es.length) (hj : j < as.length) (hv : sldV es as = (mi ++ (sldV (es.drop i) (as.drop j)).1, un ++ (sldV (es.drop i) (as.drop j)).2))
    (hlt : ltS (es.getD i Str.empty) (as.getD j Str.empty) = false) (hgt : ltS (as.getD j Str.empty) (es.getD i Str.empty) = false) {k l : Nat} (hk : i + 1 ≤ k) (hk2 : k ≤ es.length) (hall : ∀ q, i + 1 ≤ q → q < k → es.getD q Str.empty = es.getD i Str.empty) (he : k = es.length ∨ es.getD k Str.empty ≠ es.getD i Str.empty)
    (hl : j + 1 ≤ l) (hl2 : l ≤ as.length) (hal : ∀ q, j + 1 ≤ q → q < l → as.getD q Str.empty = as.getD j Str.empty) (hel : l = as.length ∨ as.getD l Str.empty ≠ as.getD j Str.empty) :
    sldV es as = (mi ++ (sldV (es.drop k) (as.drop l)).1, un ++ (sldV (es.drop k) (as.drop l)).2) := by
  rw [hv]
  have e : sldV (es.drop i) (as.drop j) = sldV (es.drop k) (as.drop l) := by
    rw [drop_cons hi, drop_cons hj, sldV, if_neg (by rw [hlt]; decide), if_neg (by rw [hgt]; decide), dropWhile_at hk hk2 hall he, dropWhile_at hl hl2 hal hel]
  rw [e]
theorem snoc_le {α : Type} {l : List α} {x : α} {i k : Nat} (h : l.length ≤ i) (hk : i + 1 ≤ k) : (l ++ [x]).length ≤ k := by
  rw [List.length_append, List.length_singleton]; lia
theorem len_drop_le {vs : List Value} {i k : Nat} (h : vs.length ≤ 16) (hk : k ≤ i) (hi : i ≤ 16) : k + (List.drop i vs).length ≤ 64 := by
  rw [List.length_drop]; lia
theorem rs_16_1 {M : Model} {A : Around} {Q : Value → Shared → Prop} {E : Value → Shared → Prop} {s : Shared} (h : wpAny M A (call .none [.none]) Q E s) : wpAny M A (call .none [.none]) Q E s := by first | (walk1; fail "") | exact h
section
variable {w : World} {loose : List Str} {mean : ExcName → Option Value} {mg mb : Str → Option Value}
 local macro_rules | `(tactic| omega) => `(tactic| (k_whole; lia))
theorem sld_while {le la : Addr} {ve va : List Value} {es as : List Str} {dp un : Nat} {gd : Option (List Code)} {fr : List Env} {base h₀ : Heap} {L lm lu : Addr} {cd : Value} {M₀ : Str → Option Value} {cm cu : Nat} {xh : Heap} {xg : Array GenState} {xd : Drawn} {xt : Nat} {xo : OsState} {Q : Flow → Shared → Prop} {E : Value → Shared → Prop} {st : Stmt} {sc : Scope} {t1 t2 : Tok}
    (hst : st = sldLoop) (hsc : sc = sldScope) (hB : Below (AA dp un gd fr) base fr h₀) (hX : (hd.heap_1 w.params).In h₀) (hT : Top viewQ loose mean mg mb h₀) (hXB : (hd.heap_1 w.params).In base) (hTB : Top viewQ loose mean mg mb base) (hD : KtsDicts (fr.filterMap (·.frame)) h₀)
    (hle : h₀.IsList le ve.toArray) (hla : h₀.IsList la va.toArray) (hse : StrsAre ve es) (hsa : StrsAre va as) (hne : es.length ≤ 16) (hna : as.length ≤ 16)
    (hlm : @LT.lt Nat instLTNat lm lu) (F₀ : Fr h₀ L xh M₀) (N₀ : News h₀ L xh [(lu, listOf #[] cu), (lm, listOf #[] cm)]) (f1 : M₀ (Str.ofString "i") = some (.int 0 t1)) (f2 : M₀ (Str.ofString "j") = some (.int 0 t2)) (f3 : M₀ (Str.ofString "expected") = some (.ref le)) (f4 : M₀ (Str.ofString "actual") = some (.ref la)) (f5 : M₀ (Str.ofString "missing") = some (.ref lm)) (f6 : M₀ (Str.ofString "unexpected") = some (.ref lu))
    (hE : PassesOwn (model PySem.Challenge.rw_op0087_01.row.prog w) ((AA dp un gd fr).deeper (envOf (Str.ofString "sorted_list_difference") sc L 123 cd)) (envOf (Str.ofString "sorted_list_difference") sc L 123 cd) E)
    (hE2 : ∀ hd, PassesOwnAt (model PySem.Challenge.rw_op0087_01.row.prog w) (((AA dp un gd fr).deeper (envOf (Str.ofString "sorted_list_difference") sc L 123 cd)).mark hd) ((AA dp un gd fr).deeper (envOf (Str.ofString "sorted_list_difference") sc L 123 cd)) (envOf (Str.ofString "sorted_list_difference") sc L 123 cd) E)
    (done : ∀ (g' h' : Heap) (tk' : Nat) (m : Str → Option Value) (vm vu : List Value) (cm cu : Nat) (nx : List (Addr × Obj)), KtsTurn (fr.filterMap (·.frame)) h₀ g' → Fr g' L h' m → News g' L h' nx → (lu, listOf vu.toArray cu) ∈ nx → (lm, listOf vm.toArray cm) ∈ nx → (hd.heap_1 w.params).In g' → Top viewQ loose mean mg mb g' →
      m (Str.ofString "missing") = some (.ref lm) → m (Str.ofString "unexpected") = some (.ref lu) → StrsAre vm (sldV es as).1 → StrsAre vu (sldV es as).2 → Q .next ⟨h', xg, xd, tk', xo⟩) :
    wpAny (model PySem.Challenge.rw_op0087_01.row.prog w) ((AA dp un gd fr).deeper (envOf (Str.ofString "sorted_list_difference") sc L 123 cd)) (exec st (envOf (Str.ofString "sorted_list_difference") sc L 123 cd)) Q E ⟨xh, xg, xd, xt, xo⟩ := by
  subst hst hsc
  have hlv := hse.length
  have hla' := hsa.length
  conv in sldLoop => whnf
  refine while_T (SldW M₀ lm lu es as) (es.length + as.length) F₀ N₀ (fun _ q => q 0 0 [] [] rfl (Nat.zero_le _) (Nat.zero_le _) (Nat.le_refl _) (Nat.le_refl _) (by simp) fun _ q => q _ _ [] [] _ _ f1 f2 rfl .nil .nil fun _ _ _ _ _ => rfl) ?turn hE
  clear F₀ N₀ f1 f2 hE
  intro n m₁ nx h tk F₁ N₁ hJ
  refine hJ _ ?_
  clear hJ
  intro i j mi un hn hi hj hmi hun hv hJ
  refine hJ _ ?_
  clear hJ
  intro ti tj vm vu cm cu e1 e2 e0 hm hun' e3
  replace N₁ := news_is e0 N₁
  clear e0
  have hs : HsL m₁ [(Str.ofString "i", _), (Str.ofString "j", _), (Str.ofString "expected", .ref le), (Str.ofString "actual", .ref la), (Str.ofString "missing", .ref lm), (Str.ofString "unexpected", .ref lu)] :=
    ⟨e1, e2, (e3 (Str.ofString "expected") (by decide) (by decide) (by decide) (by decide)).trans f3, (e3 (Str.ofString "actual") (by decide) (by decide) (by decide) (by decide)).trans f4, (e3 (Str.ofString "missing") (by decide) (by decide) (by decide) (by decide)).trans f5, (e3 (Str.ofString "unexpected") (by decide) (by decide) (by decide) (by decide)).trans f6, trivial⟩
  have F₂ := fr_Bl _ hs (fun _ _ => rfl) F₁
  clear F₁ e1 e2
  have mk1 := mark 10
  k_steps
  delta Stop
  clear mk1
  rename Fr _ _ _ _ => lF'
  rename News _ _ _ _ => lN'
  refine try_cut "IndexError" (fun _ _ m' news' => SldX M₀ lm lu es as m' news') hB lF' lN' ?hx ?hb
  case hx => as_aux_lemma =>
    intro _ _ hX
    refine hX _ ?_
    clear hX
    rintro e1 m' news' c h' tk' rfl rfl _ hJ hk
    refine hJ _ ?_
    clear hJ
    intro i' j' mi' un' hi' hj' hmi' hun' hv' hJ
    refine hJ _ ?_
    clear hJ
    intro ti' tj' vm' vu' cm' cu' g1 g2 e0 hsm hsu g3
    subst e0
    refine hk _ _ fun h1 H1 => ?_
    clear hk lF' lN'
    refine caught_x (hk := rfl) (hx := rfl) (hd := by decide) (T' := "IndexError") H1 hXB hTB hD ?ex PyProof.Rows.Boot.«IndexError» (by decide) PySem.F.isExc_IndexError PySem.F.notTuple_IndexError (by rw [isSubtype_type]; kernel_rfl) ?k (hE2 _)
    case ex => k_is
    intro h2 g' TT FF NN KK hX' hT' hD'
    clear H1
    have hle' := kts_isList TT hD hle
    have hla' := kts_isList TT hD hla
    clear hle hla
    refine fr_gen [(Str.ofString "i", _), (Str.ofString "j", _), (Str.ofString "expected", .ref le), (Str.ofString "actual", .ref la), (Str.ofString "missing", .ref lm), (Str.ofString "unexpected", .ref lu)]
      ⟨g1, g2, (g3 (Str.ofString "expected") (by decide) (by decide) (by decide) (by decide)).trans f3, (g3 (Str.ofString "actual") (by decide) (by decide) (by decide) (by decide)).trans f4, (g3 (Str.ofString "missing") (by decide) (by decide) (by decide) (by decide)).trans f5, (g3 (Str.ofString "unexpected") (by decide) (by decide) (by decide) (by decide)).trans f6, trivial⟩ FF fun M₁ F₃ => ?_
    clear FF g1 g2 g3
    have hvl := hsm.length
    have hul := hsu.length
    have b1 := lt_of_news NN (.head _)
    have b2 := lt_of_news NN (.tail _ (.head _))
    k_steps
    rename Fr _ _ _ _ => lF'
    rename News _ _ _ _ => lN'
    rw [slicePick_from'] at lN'
    refine' ext_any lF' lN' (.head _) ?U ?z ?_
    case U => k_updF
    case z => exact len_drop_le (by lia) (by lia) (by lia)
    clear lF' lN'
    intro c1 h' F' N'
    dsimp only at N'
    have b3 := lt_of_news N' (.head _)
    have b4 := lt_of_news N' (.tail _ (.head _))
    have b5 := lt_of_news N' (.tail _ (.tail _ (.head _)))
    k_steps
    rename Fr _ _ _ _ => lF'
    rename News _ _ _ _ => lN'
    rw [slicePick_from'] at lN'
    refine' ext_any lF' lN' (.head _) ?U ?z ?_
    case U => k_updF
    case z => exact len_drop_le (by lia) (by lia) (by lia)
    clear lF' lN'
    intro c2 h' F' N'
    dsimp only at N'
    k_steps
    rename Fr _ _ _ _ => lF'
    rename News _ _ _ _ => lN'
    exact done _ _ _ _ _ _ _ _ _ TT lF' lN' (.tail _ (.tail _ (.head _))) (.tail _ (.tail _ (.tail _ (.head _)))) hX' hT' rfl rfl (by rw [hv']; exact strsAre_app hsm (strsAre_drop hse i')) (by rw [hv']; exact strsAre_app hsu (strsAre_drop hsa j'))
  case hb => as_aux_lemma =>
    intro E' hcut hP hPA
    clear hE2 done
    have mk2 := mark 11
    have mkW := mark 18
    rcases Nat.lt_or_ge i es.length with hi' | hi'
    · rcases Nat.lt_or_ge j as.length with hj' | hj'
      · k_steps
        · as_aux_lemma =>
          clear mk2 hXB hTB
          delta Stop
          rename Fr _ _ _ _ => lF'
          rename News _ _ _ _ => lN'
          rw [List.push_toArray] at lN'
          have hlt : ltS (es.getD i Str.empty) (as.getD j Str.empty) = true := by unfold ltS; exact decide_eq_true (by assumption)
          refine inner_i rfl hX hT hle hse hne lF' lN' rfl rfl rfl hi' hP ?d1 ?o1
          case d1 =>
            intro k t h tk m' hk1 hk2 hall hq F₃ N₃ g1 g2
            k_steps
            exact wend ((es.length - k) + (as.length - j)) F₃ N₃ (wd_l (by assumption) hk1 hk2) (fun _ q => q k j (mi ++ [es.getD i Str.empty]) un rfl (Nat.le_of_lt hk2) hj (snoc_le hmi hk1) hun (sldV_lt hi' hj' hv hlt hk1 (Nat.le_of_lt hk2) hall (.inr hq)) fun _ q => q _ _ _ _ _ _ g1 ((g2 (Str.ofString "j") (by decide)).trans rfl) rfl (strsAre_snoc hm) (by assumption) fun z h1 h2 h3 h4 => (g2 z h1).trans (by (((repeat' first | with_reducible exact rfl | exact kst_nil rfl | with_reducible refine off_ite (by assumption) ?_ | refine kst_off (by assumption) ?_ | refine kst_nil ?_))); exact (kstB_same hs.2.2 z).trans (e3 z h1 h2 h3 h4)))
          case o1 =>
            intro t h tk m' v sl Q' hall F₃ N₃ g1 g2
            k_steps
            exact hcut _ _ (xend_new (hk := rfl) hB (by assumption) (by assumption) (by assumption) trivial (fun _ q => q es.length j (mi ++ [es.getD i Str.empty]) un (Nat.le_refl _) hj (snoc_le hmi hi') hun (by rw [sldV_lt hi' hj' hv hlt hi' (Nat.le_refl _) hall (.inl rfl), List.drop_length, sldV_nil]) fun _ q => q _ _ _ _ _ _ g1 ((g2 (Str.ofString "j") (by decide)).trans rfl) rfl (strsAre_snoc hm) (by assumption) fun z h1 h2 h3 h4 => (g2 z h1).trans (by (((repeat' first | with_reducible exact rfl | exact kst_nil rfl | with_reducible refine off_ite (by assumption) ?_ | refine kst_off (by assumption) ?_ | refine kst_nil ?_))); exact (kstB_same hs.2.2 z).trans (e3 z h1 h2 h3 h4))))
        · as_aux_lemma =>
          clear mk2 hXB hTB
          delta Stop
          rename Fr _ _ _ _ => lF'
          rename News _ _ _ _ => lN'
          have hlt : ltS (es.getD i Str.empty) (as.getD j Str.empty) = false := by unfold ltS; exact decide_eq_false (by assumption)
          rw [List.push_toArray] at lN'
          have hgt : ltS (as.getD j Str.empty) (es.getD i Str.empty) = true := by unfold ltS; exact decide_eq_true (by assumption)
          refine inner_j rfl hX hT hla hsa hna lF' lN' rfl rfl rfl hj' hP ?d1 ?o1
          case d1 =>
            intro k t h tk m' hk1 hk2 hall hq F₃ N₃ g1 g2
            k_steps
            exact wend ((es.length - i) + (as.length - k)) F₃ N₃ (wd_r (by assumption) hk1 hk2) (fun _ q => q i k mi (un ++ [as.getD j Str.empty]) rfl hi (Nat.le_of_lt hk2) hmi (snoc_le hun hk1) (sldV_gt hi' hj' hv hlt hgt hk1 (Nat.le_of_lt hk2) hall (.inr hq)) fun _ q => q _ _ _ _ _ _ ((g2 (Str.ofString "i") (by decide)).trans rfl) g1 rfl hm (strsAre_snoc (by assumption)) fun z h1 h2 h3 h4 => (g2 z h2).trans (by (((repeat' first | with_reducible exact rfl | exact kst_nil rfl | with_reducible refine off_ite (by assumption) ?_ | refine kst_off (by assumption) ?_ | refine kst_nil ?_))); exact (kstB_same hs.2.2 z).trans (e3 z h1 h2 h3 h4)))
          case o1 =>
            intro t h tk m' v sl Q' hall F₃ N₃ g1 g2
            k_steps
            exact hcut _ _ (xend_new (hk := rfl) hB (by assumption) (by assumption) (by assumption) trivial (fun _ q => q i as.length mi (un ++ [as.getD j Str.empty]) hi (Nat.le_refl _) hmi (snoc_le hun hj') (by rw [sldV_gt hi' hj' hv hlt hgt hj' (Nat.le_refl _) hall (.inl rfl), List.drop_length, sldV_nil2]) fun _ q => q _ _ _ _ _ _ ((g2 (Str.ofString "i") (by decide)).trans rfl) g1 rfl hm (strsAre_snoc (by assumption)) fun z h1 h2 h3 h4 => (g2 z h2).trans (by (((repeat' first | with_reducible exact rfl | exact kst_nil rfl | with_reducible refine off_ite (by assumption) ?_ | refine kst_off (by assumption) ?_ | refine kst_nil ?_))); exact (kstB_same hs.2.2 z).trans (e3 z h1 h2 h3 h4))))
        · as_aux_lemma =>
          clear mk2
          delta Stop
          rename Fr _ _ _ _ => lF'
          rename News _ _ _ _ => lN'
          have hlt : ltS (es.getD i Str.empty) (as.getD j Str.empty) = false := by unfold ltS; exact decide_eq_false (by assumption)
          have hgt : ltS (as.getD j Str.empty) (es.getD i Str.empty) = false := by unfold ltS; exact decide_eq_false (by assumption)
          refine fin_cut "IndexError" (SldF es i) hB lF' lN' ?fx ?fb
          case fb => as_aux_lemma =>
            intro E2 hcut2 hP2
            k_steps
            delta Stop
            rename Fr _ _ _ _ => lF'
            rename News _ _ _ _ => lN'
            refine inner_i rfl hX hT hle hse hne lF' lN' rfl rfl rfl hi' hP2 ?d1 ?o1
            case o1 =>
              intro t h tk m' v sl Q' hall F₃ N₃ g1 g2
              k_steps
              exact hcut2 _ _ (xend_new (hk := rfl) hB (by assumption) (by assumption) (by assumption) rfl (fun _ q => q rfl _ g1 hall g2))
            case d1 =>
              intro k t h tk m' hk1 hk2 hall hq F₃ N₃ g1 g2
              have hs' : HsL m' [(Str.ofString "j", _), (Str.ofString "i", _), (Str.ofString "actual", .ref la), (Str.ofString "a", _)] := ⟨(g2 (Str.ofString "j") (by decide)).trans rfl, g1, (g2 (Str.ofString "actual") (by decide)).trans rfl, (g2 (Str.ofString "a") (by decide)).trans rfl, trivial⟩
              have F₄ := fr_Bl _ hs' (fun _ _ => rfl) F₃
              clear F₃ lF' lN'
              k_steps
              delta Stop
              rename Fr _ _ _ _ => lF'
              rename News _ _ _ _ => lN'
              refine inner_j rfl hX hT hla hsa hna lF' lN' rfl rfl rfl hj' passes_noted ?d2 ?o2
              case d2 =>
                intro l t' h tk m'' hl1 hl2 hal2 hq2 F₅ N₅ g3 g4
                k_steps
                exact wend ((es.length - k) + (as.length - l)) F₅ N₅ (by lia) (fun _ q => q k l mi un rfl (Nat.le_of_lt hk2) (Nat.le_of_lt hl2) (by lia) (by lia) (sldV_eq hi' hj' hv hlt hgt hk1 (Nat.le_of_lt hk2) hall (.inr hq) hl1 (Nat.le_of_lt hl2) hal2 (.inr hq2)) fun _ q => q _ _ _ _ _ _ ((g4 (Str.ofString "i") (by decide)).trans rfl) g3 rfl hm (by assumption) fun z h1 h2 h3 h4 => (g4 z h2).trans (by (((repeat' first | with_reducible exact rfl | exact kst_nil rfl | with_reducible refine off_ite (by assumption) ?_ | refine kst_off (by assumption) ?_ | refine kst_nil ?_))); exact (kstB_same hs'.2.2 z).trans ((g2 z h1).trans (by (((repeat' first | with_reducible exact rfl | exact kst_nil rfl | with_reducible refine off_ite (by assumption) ?_ | refine kst_off (by assumption) ?_ | refine kst_nil ?_))); exact (kstB_same hs.2.2 z).trans (e3 z h1 h2 h3 h4)))))
              case o2 =>
                intro t' h tk m'' v sl Q' hal2 F₅ N₅ g3 g4
                k_steps
                exact hP _ _ (hcut _ _ (xend_new (hk := rfl) hB (by assumption) (by assumption) (by assumption) trivial (fun _ q => q k as.length mi un (Nat.le_of_lt hk2) (Nat.le_refl _) (by lia) (by lia) (by rw [sldV_eq hi' hj' hv hlt hgt hk1 (Nat.le_of_lt hk2) hall (.inr hq) hj' (Nat.le_refl _) hal2 (.inl rfl), List.drop_length, sldV_nil2]) fun _ q => q _ _ _ _ _ _ ((g4 (Str.ofString "i") (by decide)).trans rfl) g3 rfl hm (by assumption) fun z h1 h2 h3 h4 => (g4 z h2).trans (by (((repeat' first | with_reducible exact rfl | exact kst_nil rfl | with_reducible refine off_ite (by assumption) ?_ | refine kst_off (by assumption) ?_ | refine kst_nil ?_))); exact (kstB_same hs'.2.2 z).trans ((g2 z h1).trans (by (((repeat' first | with_reducible exact rfl | exact kst_nil rfl | with_reducible refine off_ite (by assumption) ?_ | refine kst_off (by assumption) ?_ | refine kst_nil ?_))); exact (kstB_same hs.2.2 z).trans (e3 z h1 h2 h3 h4)))))))
          case fx => as_aux_lemma =>
            intro _ _ hX
            refine hX _ ?_
            clear hX
            rintro e1 m' news' c h' tk' rfl rfl rfl hJ hk
            refine hJ _ ?_
            clear hJ
            intro e0 t1 g1 hal g2
            subst e0
            refine hk _ _ fun h1 H1 => ⟨ref_ne_byPass _, ?_⟩
            refine XHeld.again H1 ?_
            refine land_x H1 fun h2 g' T oe oT vs TT FF NN KK O => ?_
            have hX' := hXB.keeps KK.stays
            have hT' := hTB.keeps KK.stays
            have hla' := kts_isList TT hD hla
            clear hle hla
            have hs' : HsL m' [(Str.ofString "j", _), (Str.ofString "i", _), (Str.ofString "actual", .ref la), (Str.ofString "a", _)] := ⟨(g2 (Str.ofString "j") (by decide)).trans rfl, g1, (g2 (Str.ofString "actual") (by decide)).trans rfl, (g2 (Str.ofString "a") (by decide)).trans rfl, trivial⟩
            have F₄ := fr_Bl _ hs' (fun _ _ => rfl) FF
            clear FF lF' lN' hk
            k_steps
            delta Stop
            rename Fr _ _ _ _ => lF'
            rename News _ _ _ _ => lN'
            refine inner_j rfl hX' hT' hla' hsa hna lF' lN' rfl rfl rfl hj' passes_noted ?d2 ?o2
            case d2 =>
              intro l t' h tk m'' hl1 hl2 hal2 hq2 F₅ N₅ g3 g4
              k_steps
              refine passOn_x (hk := rfl) (news := [_, _]) TT KK F₅ N₅ O (fun q hq vs hh => ?_) ?_
              · simp only [List.mem_cons, List.not_mem_nil, or_false] at hq
                rcases hq with rfl | rfl <;> cases hh
              · intro h' oT' xA xH
                exact hcut _ _ (xend_again xA xH trivial (fun _ q => q es.length l mi un (Nat.le_refl _) (Nat.le_of_lt hl2) (by lia) (by lia) (by rw [sldV_eq hi' hj' hv hlt hgt hi' (Nat.le_refl _) hal (.inl rfl) hl1 (Nat.le_of_lt hl2) hal2 (.inr hq2), List.drop_length, sldV_nil]) fun _ q => q _ _ _ _ _ _ ((g4 (Str.ofString "i") (by decide)).trans rfl) g3 rfl hm (by assumption) fun z h1 h2 h3 h4 => (g4 z h2).trans (by (((repeat' first | with_reducible exact rfl | exact kst_nil rfl | with_reducible refine off_ite (by assumption) ?_ | refine kst_off (by assumption) ?_ | refine kst_nil ?_))); exact (kstB_same hs'.2.2 z).trans ((g2 z h1).trans (by (((repeat' first | with_reducible exact rfl | exact kst_nil rfl | with_reducible refine off_ite (by assumption) ?_ | refine kst_off (by assumption) ?_ | refine kst_nil ?_))); exact (kstB_same hs.2.2 z).trans (e3 z h1 h2 h3 h4))))))
            case o2 =>
              intro t' h tk m'' v sl Q' hal2 F₅ N₅ g3 g4
              refine item_out_x (hs := by with_unfolding_all rfl) rfl (N₅ (e1, oe) (.tail _ (.tail _ (.head _)))).1 O.hd O.h2 (by is_list) (by simp; lia) (by lia) ?_
              intro h' tk' e2 x2
              exact hPA (some (.ref e1)) _ _ (hcut _ _ (xend_newc (hk := rfl) TT KK F₅ (fun q hq => N₅ q (List.mem_append_left [(e1, oe), (T, oT)] hq)) x2 trivial (fun _ q => q es.length as.length mi un (Nat.le_refl _) (Nat.le_refl _) (by lia) (by lia) (by rw [sldV_eq hi' hj' hv hlt hgt hi' (Nat.le_refl _) hal (.inl rfl) hj' (Nat.le_refl _) hal2 (.inl rfl), List.drop_length, List.drop_length, sldV_nil]) fun _ q => q _ _ _ _ _ _ ((g4 (Str.ofString "i") (by decide)).trans rfl) g3 rfl hm (by assumption) fun z h1 h2 h3 h4 => (g4 z h2).trans (by (((repeat' first | with_reducible exact rfl | exact kst_nil rfl | with_reducible refine off_ite (by assumption) ?_ | refine kst_off (by assumption) ?_ | refine kst_nil ?_))); exact (kstB_same hs'.2.2 z).trans ((g2 z h1).trans (by (((repeat' first | with_reducible exact rfl | exact kst_nil rfl | with_reducible refine off_ite (by assumption) ?_ | refine kst_off (by assumption) ?_ | refine kst_nil ?_))); exact (kstB_same hs.2.2 z).trans (e3 z h1 h2 h3 h4)))))))
      · have hje : as.length = j := by lia
        k_steps
        exact hcut _ _ (xend_new (hk := rfl) hB (by assumption) (by assumption) (by assumption) trivial (fun _ q => q i j mi un hi hj hmi hun (by rw [hv, ← hje, List.drop_length, sldV_nil2]) fun _ q => q _ _ _ _ _ _ rfl rfl rfl hm (by assumption) fun z h1 h2 h3 h4 => (by (((repeat' first | with_reducible exact rfl | exact kst_nil rfl | with_reducible refine off_ite (by assumption) ?_ | refine kst_off (by assumption) ?_ | refine kst_nil ?_))); exact (kstB_same hs.2.2 z).trans (e3 z h1 h2 h3 h4))))
    · have hie : es.length = i := by lia
      k_steps
      exact hcut _ _ (xend_new (hk := rfl) hB (by assumption) (by assumption) (by assumption) trivial (fun _ q => q i j mi un hi hj hmi hun (by rw [hv, ← hie, List.drop_length, sldV_nil]) fun _ q => q _ _ _ _ _ _ rfl rfl rfl hm (by assumption) fun z h1 h2 h3 h4 => (by (((repeat' first | with_reducible exact rfl | exact kst_nil rfl | with_reducible refine off_ite (by assumption) ?_ | refine kst_off (by assumption) ?_ | refine kst_nil ?_))); exact (kstB_same hs.2.2 z).trans (e3 z h1 h2 h3 h4))))
theorem sld_spec {le la : Addr} {ve va : List Value} {es as : List Str} (dp un : Nat) (gd : Option (List Code)) (fr : List Env) (base : Heap) {xh : Heap} {xg : Array GenState} {xd : Drawn} {xt : Nat} {xo : OsState} (Q E : Value → Shared → Prop)
    (hB : Below (AA dp un gd fr) base fr xh) (hX : (hd.heap_1 w.params).In xh) (hT : Top viewQ loose mean mg mb xh) (hXB : (hd.heap_1 w.params).In base) (hTB : Top viewQ loose mean mg mb base) (hD : KtsDicts (fr.filterMap (·.frame)) xh)
    (hle : xh.IsList le ve.toArray) (hla : xh.IsList la va.toArray) (hse : StrsAre ve es) (hsa : StrsAre va as) (hne : es.length ≤ 16) (hna : as.length ≤ 16) (hd : dp + 1 < recursionLimit) (hu : un + 8 * 1 < cLine)
    (hret : ∀ (r lm lu : Addr) (vm vu : List Value) (cm cu : Nat) (g' h' : Heap) (tk' : Nat), KtsTurn (fr.filterMap (·.frame)) xh g' → g'.StaysIn h' → h'.get? r = some { cls := Value.type "tuple", dict := none, data := Data.seq #[.ref lm, .ref lu] } → g'.get? r = none →
      h'.get? lm = some (listOf vm.toArray cm) → g'.get? lm = none → h'.get? lu = some (listOf vu.toArray cu) → g'.get? lu = none → StrsAre vm (sldV es as).1 → StrsAre vu (sldV es as).2 → @LT.lt Nat instLTNat lm lu → @LT.lt Nat instLTNat lu r → @LT.lt Nat instLTNat lm r → Q (.ref r) ⟨h', xg, xd, tk', xo⟩) :
    wpAny (model PySem.Challenge.rw_op0087_01.row.prog w) (AA dp un gd fr) (call (.ref 123) [.ref le, .ref la]) Q E ⟨xh, xg, xd, xt, xo⟩ := by
  have hlv := hse.length
  have hla' := hsa.length
  have mkW := mark 18
  ((refine wpAny_call ?_; (k_dflt (refine' enterP ?k3 ?k5 ?k6 ?k7 ?k8 ?k9 ?kB ?_ ?c5 ?c2 ?c3 ?c4; (case k3 => k_asm); (case k5 => k_asm); (case k6 => k_is); (case k7 => k_is); (case k8 => ktr_room); (case k9 => first | exact BindsTo.of_eq rfl | exact binds_K (by k_in) rfl (by k_is) rfl rfl rfl | (refine' kp_binds ?kx ?ke; (case kx => k_in); (case ke => exact fun _ => rfl))); (case c5 => decide); (case kB => exact locs rfl); (case c2 => exact rfl); (case c3 => exact rfl); (case c4 => exact rfl); k_whole)); intro L' h' tk' F' N'; (try dsimp only); (try k_fold)))
  k_steps
  delta Stop
  rename Fr _ _ _ _ => lF'
  rename News _ _ _ _ => lN'
  refine sld_while rfl rfl hB hX hT hXB hTB hD hle hla hse hsa hne hna (by lia) lF' lN' rfl rfl rfl rfl rfl rfl (by passes_own) (fun _ => by passes_own) ?done
  clear lF' lN' hX hT hXB hTB
  intro g' h' tk' m vm vu cm cu nx TT F N m1 m2 hX hT e1 e2 hm hu
  have b1 := lt_of_news N m1
  have b2 := lt_of_news N m2
  refine fr_gen [(Str.ofString "missing", _), (Str.ofString "unexpected", _)] ⟨e1, e2, trivial⟩ F fun M F' => ?_
  clear F e1 e2
  k_steps
  rename Fr _ _ _ _ => lF'
  rename News _ _ _ _ => lN'
  rename ∀ p ∈ nx, p.1 < _ => l1
  have n1 := lN' _ (.head _)
  have n2 := lN' _ (.tail _ m1)
  have n3 := lN' _ (.tail _ m2)
  exact hret _ _ _ _ _ _ _ _ _ _ TT (Fr.keep lF') n1.1 n1.2.2 n3.1 n3.2.2 n2.1 n2.2.2 hm hu (by lia) (l1 _ m1) (l1 _ m2)
end

noncomputable def aloneAt (ds os ss : List Str) (k : Nat) : Bool := !ss.contains (ds.getD k Str.empty) && (ltS (os.getLastD Str.empty) (ds.getD k Str.empty) || !(ds.take k).contains (ds.getD k Str.empty))
noncomputable def aloneV (ds os ss : List Str) (n : Nat) : List Str := ((List.range n).filter (aloneAt ds os ss)).map fun k => ds.getD k Str.empty
theorem aloneV_len (ds os ss : List Str) (n : Nat) : (aloneV ds os ss n).length ≤ n := by
  unfold aloneV
  rw [List.length_map]
  exact Nat.le_trans (List.length_filter_le _ _) (by simp)
theorem aloneV_succ (ds os ss : List Str) (n : Nat) : aloneV ds os ss (n + 1) = aloneV ds os ss n ++ (if aloneAt ds os ss n then [ds.getD n Str.empty] else []) := by
  unfold aloneV
  rw [List.range_succ, List.filter_append, List.map_append]
  congr 1
  cases h : aloneAt ds os ss n <;> simp [h]
noncomputable def AloR (m₀ : Str → Option Value) (lo : Addr) (ds os ss : List Str) (i : Nat) (m : Str → Option Value) (nx : List (Addr × Obj)) : Prop :=
  ∀ C : Prop, (∀ (vs : List Value) (c : Nat), nx = [(lo, listOf vs.toArray c)] → StrsAre vs (aloneV ds os ss i) → (∀ z, z ≠ Str.ofString "k" → m z = m₀ z) → C) → C
theorem alo_end {m₀ m' : Str → Option Value} {lo L : Addr} {own : List (Addr × Obj)} {ds os ss : List Str} {i c tk : Nat} {vs : List Value} {h₀ h' : Heap} {s₁ : Shared} (F : Fr h₀ L h' m') (N : News h₀ L h' ((lo, listOf vs.toArray c) :: own))
    (hv : StrsAre vs (aloneV ds os ss i)) (hm : ∀ z, z ≠ Str.ofString "k" → m' z = m₀ z) : TEnd h₀ L (AloR m₀ lo ds os ss i) own [lo] s₁ { s₁ with heap := h', toks := tk } :=
  tend [(lo, listOf vs.toArray c)] F N rfl (fun p hp => by rw [List.mem_singleton.mp hp]; exact .head _) (fun p hp => .tail _ hp) (fun _ q => q vs c rfl hv hm)
theorem alo_end1 {m₀ m' : Str → Option Value} {lo L : Addr} {g : Addr × Obj} {own : List (Addr × Obj)} {ds os ss : List Str} {i c tk : Nat} {vs : List Value} {h₀ h' : Heap} {s₁ : Shared} (F : Fr h₀ L h' m') (N : News h₀ L h' (g :: (lo, listOf vs.toArray c) :: own))
    (hv : StrsAre vs (aloneV ds os ss i)) (hm : ∀ z, z ≠ Str.ofString "k" → m' z = m₀ z) : TEnd h₀ L (AloR m₀ lo ds os ss i) own [lo] s₁ { s₁ with heap := h', toks := tk } :=
  tend [(lo, listOf vs.toArray c)] F N rfl (fun p hp => by rw [List.mem_singleton.mp hp]; exact .tail _ (.head _)) (fun p hp => .tail _ (.tail _ hp)) (fun _ q => q vs c rfl hv hm)
theorem any_contains (l : List Str) (x : Str) : (l.any fun y => y == x) = l.contains x := by
  induction l with
  | nil => rfl
  | cons a l ih =>
    rw [List.any_cons, List.contains_cons, ih]
    congr 1
    exact Bool.beq_comm
theorem rs_17_1 {M : Model} {A : Around} {Q : Value → Shared → Prop} {E : Value → Shared → Prop} {s : Shared} (h : wpAny M A (call .none [.none]) Q E s) : wpAny M A (call .none [.none]) Q E s := by first | (walk1; fail "") | exact h
section
variable {w : World} {loose : List Str} {mean : ExcName → Option Value} {mg mb : Str → Option Value}
 local macro_rules | `(tactic| omega) => `(tactic| (k_whole; lia))
theorem alone_spec {ld lo ls : Addr} {vd vo vs : List Value} {ds os ss : List Str} (dp un : Nat) (gd : Option (List Code)) (fr : List Env) (base : Heap) {xh : Heap} {xg : Array GenState} {xd : Drawn} {xt : Nat} {xo : OsState} (Q E : Value → Shared → Prop)
    (hB : Below (AA dp un gd fr) base fr xh) (hX : (hd.heap_1 w.params).In xh) (hT : Top viewQ loose mean mg mb xh)
    (hld : xh.IsList ld vd.toArray) (hlo : xh.IsList lo vo.toArray) (hls : xh.IsList ls vs.toArray) (hsd : StrsAre vd ds) (hso : StrsAre vo os) (hss : StrsAre vs ss) (hnd : ds.length ≤ 16) (hno : os.length ≤ 16 ∧ 0 < os.length) (hns : ss.length ≤ 16) (hd : dp + 1 < recursionLimit) (hu : un + 8 * 1 < cLine)
    (hret : ∀ (r : Addr) (vr : List Value) (c : Nat) (h' : Heap) (tk' : Nat), xh.StaysIn h' → xh.get? r = none → h'.get? r = some (listOf vr.toArray c) → StrsAre vr (aloneV ds os ss ds.length) → Q (.ref r) ⟨h', xg, xd, tk', xo⟩) :
    wpAny (model PySem.Challenge.rw_op0087_01.row.prog w) (AA dp un gd fr) (call (.ref 161) [.ref ld, .ref lo, .ref ls]) Q E ⟨xh, xg, xd, xt, xo⟩ := by
  have hvd := hsd.length
  have hvo := hso.length
  have hvs := hss.length
  ((refine wpAny_call ?_; (k_dflt (refine' enterP ?k3 ?k5 ?k6 ?k7 ?k8 ?k9 ?kB ?_ ?c5 ?c2 ?c3 ?c4; (case k3 => k_asm); (case k5 => k_asm); (case k6 => k_is); (case k7 => k_is); (case k8 => ktr_room); (case k9 => first | exact BindsTo.of_eq rfl | exact binds_K (by k_in) rfl (by k_is) rfl rfl rfl | (refine' kp_binds ?kx ?ke; (case kx => k_in); (case ke => exact fun _ => rfl))); (case c5 => decide); (case kB => exact locs rfl); (case c2 => exact rfl); (case c3 => exact rfl); (case c4 => exact rfl); k_whole)); intro L' h' tk' F' N'; (try dsimp only); (try k_fold)))
  have mk3 := mark 8
  k_steps
  delta Stop
  rename Fr _ _ _ _ => lF'
  with_unfolding_all refine' For_invVF lF' ?k1 ?k2 ?_
  case k1 => exact rfl
  case k2 => exact rfl
  k_steps
  delta Stop
  clear mk3
  rename IsRange _ _ _ _ _ _ _ _ => hrg
  rename Fr _ _ _ _ => lF'
  rename News _ _ _ _ => lN'
  refine fr_facts lF' [(Str.ofString "deck", .ref ld), (Str.ofString "others", .ref lo), (Str.ofString "shared", .ref ls), (Str.ofString "found", _)] ⟨rfl, rfl, rfl, rfl, trivial⟩ fun M₀ _ F₀ => ?_
  intro f1 f2 f3 f4
  refine iter_range0_T ds.length (AloR M₀ _ ds os ss) hrg (small_rg hnd) (size_rg _) rfl F₀ lN' (fun _ q => q [] _ rfl .nil fun _ _ => rfl) ?turn ?done
  case turn => as_aux_lemma =>
    clear lF' lN' hrg F₀
    intro i t m₁ nx h tk own hi hoff hJ F₁ N₁
    refine hJ _ ?_
    clear hJ
    intro vr c e0 hvr e1
    replace N₁ := news_eq e0 N₁
    clear e0
    have N₂ : News xh _ h ((_, listOf vr.toArray c) :: own) := N₁
    clear N₁
    have hs : HsL (fun y => if y = Str.ofString "k" then some (Value.int (i : Int) t) else m₁ y) [(Str.ofString "k", .int (i : Int) t), (Str.ofString "deck", .ref ld), (Str.ofString "others", .ref lo), (Str.ofString "shared", .ref ls), (Str.ofString "found", _)] := ⟨rfl, (e1 (Str.ofString "deck") (by decide)).trans f1, (e1 (Str.ofString "others") (by decide)).trans f2, (e1 (Str.ofString "shared") (by decide)).trans f3, (e1 (Str.ofString "found") (by decide)).trans f4, trivial⟩
    have F₂ := fr_Bl _ hs (fun _ _ => rfl) F₁
    clear F₁ f1 f2 f3 f4
    have hz : ∀ z, z ≠ Str.ofString "k" → kstB (fun y => if y = Str.ofString "k" then some (Value.int (i : Int) t) else m₁ y) [(Str.ofString "deck", .ref ld), (Str.ofString "others", .ref lo), (Str.ofString "shared", .ref ls), (Str.ofString "found", _)] z = M₀ z := fun z h => (kstB_same hs.2 z).trans ((if_neg h).trans (e1 z h))
    clear e1
    have N₁ := N₂
    clear N₂
    have hlr := hvr.length
    have hlr2 := aloneV_len ds os ss i
    have b1 := lt_of_news N₁ (.head _)
    iterate 12 ((first | (k_unfold; (try dsimp only)) | (k_end; wrow_close) | walk1 | (dsimp only; walk1) | (leave1; walk_say "STEP leave1"; try dsimp only)))
    rotate_left
    · have mk5 := mark 9
      have hA1 : (ss.any fun x => x == ds.getD i Str.empty) = false := by assumption
      rw [any_contains] at hA1
      have mkU := mark 17
      k_steps
      delta Stop
      (with_unfolding_all refine' str_last ?k1 ?k2 ?k3 ?k4 ?_ ?k6; (case k1 => is_list); (case k2 => assumption); (case k3 => omega); (case k4 => omega); (case k6 => with_unfolding_all rfl); k_whole)
      intro t'
      clear mkU
      k_steps
      · simp only [List.push_toArray] at *
        refine alo_end (by assumption) (by assumption) ?_ (fun z h => by (((repeat' first | with_reducible exact rfl | exact kst_nil rfl | with_reducible refine off_ite (by assumption) ?_ | refine kst_off (by assumption) ?_ | refine kst_nil ?_))); exact hz z h)
        rw [aloneV_succ, if_pos]
        · exact strsAre_snoc (by assumption)
        · have hlt : ltS (os.getLastD Str.empty) (ds.getD i Str.empty) = true := by unfold ltS; exact decide_eq_true (by assumption)
          unfold aloneAt
          rw [hA1, hlt]; rfl
      · clear mk5
        delta Stop
        have hlt : ltS (os.getLastD Str.empty) (ds.getD i Str.empty) = false := by unfold ltS; exact decide_eq_false (by assumption)
        refine notin_upto (vs := vd) (by is_list) (by assumption) ?_
        k_steps
        all_goals (try simp only [List.push_toArray] at *)
        · refine alo_end1 (by assumption) (by assumption) ?_ (fun z h => by (((repeat' first | with_reducible exact rfl | exact kst_nil rfl | with_reducible refine off_ite (by assumption) ?_ | refine kst_off (by assumption) ?_ | refine kst_nil ?_))); exact hz z h)
          rw [aloneV_succ, if_neg]
          · rw [List.append_nil]; assumption
          · rename (List.any (List.take _ _) _) = true => hq
            rw [any_contains] at hq
            unfold aloneAt
            rw [hA1, hlt, show (List.take i ds).contains (ds.getD i Str.empty) = true from hq]; decide
        · refine alo_end1 (by assumption) (by assumption) ?_ (fun z h => by (((repeat' first | with_reducible exact rfl | exact kst_nil rfl | with_reducible refine off_ite (by assumption) ?_ | refine kst_off (by assumption) ?_ | refine kst_nil ?_))); exact hz z h)
          rw [aloneV_succ, if_pos]
          · exact strsAre_snoc (by assumption)
          · rename (List.any (List.take _ _) _) = false => hq
            rw [any_contains] at hq
            unfold aloneAt
            rw [hA1, hlt, show (List.take i ds).contains (ds.getD i Str.empty) = false from hq]; rfl
    · have hA1 : (ss.any fun x => x == ds.getD i Str.empty) = true := by assumption
      rw [any_contains] at hA1
      k_steps
      refine alo_end (by assumption) (by assumption) ?_ (fun z h => by (((repeat' first | with_reducible exact rfl | exact kst_nil rfl | with_reducible refine off_ite (by assumption) ?_ | refine kst_off (by assumption) ?_ | refine kst_nil ?_))); exact hz z h)
      rw [aloneV_succ, if_neg]
      · rw [List.append_nil]; assumption
      · unfold aloneAt
        rw [hA1]; simp
  case done => as_aux_lemma =>
    clear lF' lN' hrg F₀ f1 f2 f3
    intro m₁ nx h tk hJ F₁ N₁
    refine hJ _ ?_
    clear hJ
    intro vr c e0 hvr e1
    replace N₁ := news_is e0 N₁
    clear e0
    refine fr_gen [(Str.ofString "found", _)] ⟨(e1 (Str.ofString "found") (by decide)).trans f4, trivial⟩ F₁ fun M₁ F₂ => ?_
    clear F₁ e1 f4
    k_steps
    have n1 := N₁ _ (.head _)
    exact hret _ _ _ _ _ (Fr.keep (by assumption)) n1.2.2 n1.1 hvr
end

noncomputable def unlikeL (xs ys : List Int) (n : Nat) : List Int := ((List.range n).filter fun i => xs.getD i 0 != ys.getD i 0).map fun (i : Nat) => (i : Int)
theorem unlikeL_succ (xs ys : List Int) (n : Nat) : unlikeL xs ys (n + 1) = unlikeL xs ys n ++ (if xs.getD n 0 ≠ ys.getD n 0 then [(n : Int)] else []) := by
  unfold unlikeL
  rw [List.range_succ, List.filter_append, List.map_append]
  congr 1
  by_cases h : xs.getD n 0 = ys.getD n 0
  · rw [if_neg (by simpa using h), List.filter_cons_of_neg (by simpa using h)]; rfl
  · rw [if_pos h, List.filter_cons_of_pos (by simpa using h)]; rfl
noncomputable def sharedF (xs ys : List Int) (f l : Nat) : List (List Int) :=
  (if (xs.drop (f + 1)).take (l - f) = (ys.drop f).take (l - f) then [xs.take f ++ xs.drop (f + 1)] else []) ++ (if (xs.drop f).take (l - f) = (ys.drop (f + 1)).take (l - f) then [xs.take l ++ xs.drop (l + 1)] else [])
noncomputable def sharedV (xs ys : List Int) : List (List Int) :=
  if unlikeL xs ys 5 = [] then (List.range 5).map (fun p => xs.take p ++ xs.drop (p + 1)) else sharedF xs ys ((unlikeL xs ys 5).getD 0 0).toNat ((unlikeL xs ys 5).getD ((unlikeL xs ys 5).length - 1) 0).toNat
theorem sh_ret {g h : Heap} {L r : Addr} {m : Str → Option Value} {news cells : List (Addr × Obj)} {c : Nat} (_F : Fr g L h m) (N : News g L h news) (hm : (r, listOf (cells.map fun p => Value.ref p.1).toArray c) ∈ news) (hc : ∀ p ∈ cells, p ∈ news) :
    g.get? r = none ∧ h.get? r = some (listOf (cells.map fun p => Value.ref p.1).toArray c) ∧ ∀ p ∈ cells, h.get? p.1 = some p.2 ∧ g.get? p.1 = none :=
  ⟨(N _ hm).2.2, (N _ hm).1, fun p hp => ⟨(N p (hc p hp)).1, (N p (hc p hp)).2.2⟩⟩
theorem unlikeL_ends {xs ys : List Int} (h : unlikeL xs ys 5 ≠ []) : ∃ f l : Nat, (unlikeL xs ys 5).getD 0 0 = (f : Int) ∧ (unlikeL xs ys 5).getD ((unlikeL xs ys 5).length - 1) 0 = (l : Int) ∧ f ≤ l ∧ l < 5 ∧ 0 < (unlikeL xs ys 5).length := by
  have hp : 0 < (unlikeL xs ys 5).length := List.length_pos_iff.mpr h
  unfold unlikeL at *
  simp only [List.length_map] at *
  generalize hg : (List.range 5).filter (fun i => xs.getD i 0 != ys.getD i 0) = g at *
  have hs : List.Pairwise (· < ·) g := by rw [← hg]; exact List.Pairwise.filter _ List.pairwise_lt_range
  have hm : ∀ x ∈ g, x < 5 := fun x hx => by rw [← hg] at hx; simpa using (List.mem_filter.mp hx).1
  have e1 : g.length - 1 < g.length := by lia
  refine ⟨g[0], g[g.length - 1], by simp [hp], by simp [e1], ?_, hm _ (List.getElem_mem _), hp⟩
  by_cases e : g.length - 1 = 0
  · simp [e]
  · exact Nat.le_of_lt (List.pairwise_iff_getElem.mp hs 0 (g.length - 1) hp (by lia) (by lia))
theorem comp_cell {h₀ h' : Heap} {L I C D a1 a2 a3 : Addr} {m : Str → Option Value} {s₁ : Shared} {oI oC oD o2 o3 : Obj} {S : List (Addr × Obj) → Prop} {tk : Nat} {us : List Value} {zs : List Int} {zss zss' : List (List Int)} {base cells : List (Addr × Obj)}
    (F : Fr h₀ L h' m) (N : News h₀ L h' ((a1, listOf us.toArray 0) :: (a2, o2) :: (a3, o3) :: (I, oI) :: (C, oC) :: (D, oD) :: (base ++ cells))) (off : LCg.Off3 I C D (base ++ cells)) (hlt : @LT.lt Nat instLTNat a2 a1 ∧ @LT.lt Nat instLTNat a3 a1 ∧ @LT.lt Nat instLTNat I a1 ∧ @LT.lt Nat instLTNat C a1 ∧ @LT.lt Nat instLTNat D a1 ∧ AllLt a1 (base ++ cells))
    (hi : IntsAre us zs) (hc : CellsI cells zss) (he : zss' = zss ++ [zs]) (hS : ∀ nw, S nw) :
    LCg.CompEnd h₀ L m s₁ I oI C oC D oD S (fun y nx => ∃ cells', nx = base ++ cells' ∧ (cells.map (fun p => Value.ref p.1)) ++ [y] = cells'.map (fun p => Value.ref p.1) ∧ CellsI cells' zss') (.ref a1) { s₁ with heap := h', toks := tk } := by
  subst he
  obtain ⟨_, _, h1, h2, h3, _⟩ := hlt
  refine LCg.CompEnd.intro F N (base ++ (cells ++ [(a1, listOf us.toArray 0)])) (fun p hp => ?_) (LCg.Off3.of fun p hp => ?_) (hS _) ⟨cells ++ [(a1, listOf us.toArray 0)], rfl, by simp, hc.snoc hi⟩
  · simp only [List.mem_cons, List.mem_append, List.not_mem_nil, or_false] at hp ⊢
    rcases hp with hp | hp | hp | hp | hp | hp <;> simp [hp]
  · rw [← List.append_assoc] at hp
    rcases List.mem_append.mp hp with hp | hp
    · exact LCg.Off3.mem off p hp
    · rw [List.mem_singleton.mp hp]
      exact ⟨Nat.ne_of_gt h1, Nat.ne_of_gt h2, Nat.ne_of_gt h3⟩
theorem sh_app {h₀ : Heap} {L r D : Addr} {m : Str → Option Value} {prog : Program} {w : World} {A : Around} {Q E : Value → Shared → Prop} {xh : Heap} {xg : Array GenState} {xd : Drawn} {xt : Nat} {xo : OsState} {n : Nat} {ws : List Value} {z : List Int} {zss : List (List Int)} {rest cells : List (Addr × Obj)} (F : Fr h₀ L xh m)
    (N : News h₀ L xh ((r, listOf (cells.map fun p => Value.ref p.1).toArray n) :: (D, listOf ws.toArray 0) :: (rest ++ cells))) (hr : ∀ p ∈ rest ++ cells, p.1 ≠ r) (hD : @LT.lt Nat instLTNat r D) (hc : CellsI cells zss) (hz : zss.length ≤ 8) (hi : IntsAre ws z)
    (h : ∀ h' cells, CellsI cells (zss ++ [z]) → (∀ p ∈ rest ++ cells, p.1 ≠ r) → Fr h₀ L h' m → News h₀ L h' ((r, listOf (cells.map fun p => Value.ref p.1).toArray (n + 1)) :: (rest ++ cells)) → Q .none ⟨h', xg, xd, xt, xo⟩) :
    wpAny (model prog w) A (call (.builtin "list.append") [.ref r, .ref D]) Q E ⟨xh, xg, xd, xt, xo⟩ := by
  refine append_K F N (Upd.head (fm_c (Nat.ne_of_gt hD) hr)) (fun h' F' N' => h h' (cells ++ [(D, listOf ws.toArray 0)]) (hc.snoc hi) (fun p hp => ?_) F' (news_sub N' ?_)) ?_
  · rw [← List.append_assoc] at hp
    rcases List.mem_append.mp hp with hp | hp
    · exact hr p hp
    · rw [List.mem_singleton.mp hp]; exact Nat.ne_of_gt hD
  · rw [List.push_toArray, List.map_append]
    refine fm_c (.head _) (fun q hq => .tail _ ?_)
    rw [← List.append_assoc] at hq
    rcases List.mem_append.mp hq with hq | hq
    · exact .tail _ hq
    · rw [List.mem_singleton.mp hq]; exact .head _
  · have := hc.len
    simp [sizeLine]
    lia
theorem rs_18_1 {M : Model} {A : Around} {Q : Value → Shared → Prop} {E : Value → Shared → Prop} {s : Shared} (h : wpAny M A (call .none [.none]) Q E s) : wpAny M A (call .none [.none]) Q E s := by first | (walk1; fail "") | exact h
section
variable {w : World} {loose : List Str} {mean : ExcName → Option Value} {mg mb : Str → Option Value}
 local macro_rules | `(tactic| omega) => `(tactic| (k_whole; lia))
noncomputable def shSt (n : Nat) : Stmt := (stmtBody (topSt 29)).getD n (.Pass ⟨0, 0, 0, 0⟩)
noncomputable abbrev shEnv (L fa : Addr) (cd : Value) : Env := envOfC (Str.ofString "_law_shared") (stmtScope (topSt 29)) L fa cd
theorem sh_if1 {dp un : Nat} {gd : Option (List Code)} {fr : List Env} {base h₀ : Heap} {xh : Heap} {xg : Array GenState} {xd : Drawn} {xt : Nat} {xo : OsState} {Q : Flow → Shared → Prop} {E : Value → Shared → Prop} {L fa r l1 l2 : Addr} {cd : Value} {v1 v2 : List Value} {xs ys : List Int} {o1 o2 : Obj} {f l : Nat} {t1 t2 : Tok} {n : Nat} {cells : List (Addr × Obj)} {zss : List (List Int)}
    (hB : Below (AA dp un gd fr) base fr h₀) (hX : (hd.heap_1 w.params).In h₀) (hT : Top viewQ loose mean mg mb h₀)
    (hl1 : h₀.IsList l1 v1.toArray) (hl2 : h₀.IsList l2 v2.toArray) (hi1 : IntsAre v1 xs) (hi2 : IntsAre v2 ys) (hn1 : xs.length = 5) (hn2 : ys.length = 5) (hd : dp + 1 < recursionLimit) (hu : un + 128 < cLine) (hfl : f ≤ l) (hl5 : l < 5)
    (d1 : o1.data = .cell (some (.ref l1))) (d2 : o2.data = .cell (some (.ref l2)))
    (S : At h₀ L xh [(Str.ofString "found", .ref r), (Str.ofString "first", .int (f : Int) t1), (Str.ofString "last", .int (l : Int) t2)] ((r, listOf (cells.map fun p => Value.ref p.1).toArray n) :: (L + 1, o1) :: (L + 1 + 1, o2) :: cells))
    (hr : ∀ p ∈ (L + 1, o1) :: (L + 1 + 1, o2) :: cells, p.1 ≠ r) (hc : CellsI cells zss) (hz : zss.length ≤ 8)
    (k : ∀ h tk n cells, At h₀ L h [(Str.ofString "found", .ref r), (Str.ofString "first", .int (f : Int) t1), (Str.ofString "last", .int (l : Int) t2)] ((r, listOf (cells.map fun p => Value.ref p.1).toArray n) :: (L + 1, o1) :: (L + 1 + 1, o2) :: cells) →
      (∀ p ∈ (L + 1, o1) :: (L + 1 + 1, o2) :: cells, p.1 ≠ r) → CellsI cells (zss ++ (if (xs.drop (f + 1)).take (l - f) = (ys.drop f).take (l - f) then [xs.take f ++ xs.drop (f + 1)] else [])) → Q .next ⟨h, xg, xd, tk, xo⟩) :
    wpAny (model PySem.Challenge.rw_op0087_01.row.prog w) ((AA dp un gd fr).deeper (shEnv L fa cd)) (exec (shSt 4) (shEnv L fa cd)) Q E ⟨xh, xg, xd, xt, xo⟩ := by
  refine At.use S ?_
  clear S
  intro m₀ mq F N
  have mkS := mark 23
  have ef : ((f : Int)).toNat = f := Int.toNat_natCast f
  have ef1 : ((f : Int) + 1).toNat = f + 1 := rfl
  have el : ((l : Int)).toNat = l := Int.toNat_natCast l
  have el1 : ((l : Int) + 1).toNat = l + 1 := rfl
  have em1 : min (l + 1) 5 - (f + 1) = l - f := by rw [Nat.min_eq_left (show l + 1 ≤ 5 from hl5), Nat.add_sub_add_right]
  have em2 : min l 5 - f = l - f := by rw [Nat.min_eq_left (Nat.le_of_lt hl5)]
  conv in shSt 4 => whnf
  k_steps
  iterate 2 (delta Stop; (((refine' kmk_slice_ints ?zF ?zN ?zl ?zp ?zq ?zi ?zm ?zc ?_ ?zs ?zt ?zz; (case zF => k_asm); (case zN => k_asm); (case zl => kmk_list); (case zp => kmk_part); (case zq => kmk_part); (case zi => assumption); (case zm => with_reducible first | exact kmk_from (by assumption) (by lia) | exact kmk_upto (by assumption) (by lia) | exact kmk_run (by assumption) (by lia) (by lia)); (case zc => exact rfl); (case zs => with_unfolding_all rfl); (case zt => kmk_pure); (case zz => kmk_size)))); intro D' ws' h' F' N' l1 hI' hC' hL'; (try k_lt l1); k_steps)
  delta Stop
  refine eq_intsK (by is_list) (by assumption) (by is_list) (by assumption) (by first | ktr_units | lia) ?_
  have mkL := mark 14
  rw [ef, ef1, el, el1, hn1, hn2, em1, em2]
  k_steps
  · iterate 2 (delta Stop; (((refine' kmk_slice_ints ?zF ?zN ?zl ?zp ?zq ?zi ?zm ?zc ?_ ?zs ?zt ?zz; (case zF => k_asm); (case zN => k_asm); (case zl => kmk_list); (case zp => kmk_part); (case zq => kmk_part); (case zi => assumption); (case zm => with_reducible first | exact kmk_from (by assumption) (by lia) | exact kmk_upto (by assumption) (by lia) | exact kmk_run (by assumption) (by lia) (by lia)); (case zc => exact rfl); (case zs => with_unfolding_all rfl); (case zt => kmk_pure); (case zz => kmk_size)))); intro D' ws' h' F' N' l1 hI' hC' hL'; (try k_lt l1); k_steps)
    delta Stop
    rename Fr _ _ _ _ => F'
    rename News _ _ _ _ => N'
    rename (_ ∧ _ ∧ _ ∧ _ ∧ _ ∧ _ ∧ _ ∧ AllLt _ _) => b0
    rw [if_pos (by assumption)] at k
    refine sh_app (n := n) (cells := cells) (rest := [(L + 1, o1), (L + 1 + 1, o2)]) F' (news_sub N' ?_) hr b0.2.2.2.2.1 hc hz (by assumption) fun h' cells hc hr F N => ?_
    · exact fm_c (.tail _ (.tail _ (.tail _ (.tail _ (.tail _ (.head _)))))) (fm_c (.head _) (fun q hq => .tail _ (.tail _ (.tail _ (.tail _ (.tail _ (.tail _ hq)))))))
    k_steps
    exact k _ _ _ _ ⟨_, F, N⟩ hr hc
  · rename Fr _ _ _ _ => F'
    rename News _ _ _ _ => N'
    rw [if_neg (by assumption), List.append_nil] at k
    exact k _ _ _ _ (At.mk F' N' ⟨rfl, rfl, rfl, trivial⟩ fun q hq => .tail _ (.tail _ hq)) hr hc
theorem sh_if2 {dp un : Nat} {gd : Option (List Code)} {fr : List Env} {base h₀ : Heap} {xh : Heap} {xg : Array GenState} {xd : Drawn} {xt : Nat} {xo : OsState} {Q : Flow → Shared → Prop} {E : Value → Shared → Prop} {L fa r l1 l2 : Addr} {cd : Value} {v1 v2 : List Value} {xs ys : List Int} {o1 o2 : Obj} {f l : Nat} {t1 t2 : Tok} {n : Nat} {cells : List (Addr × Obj)} {zss : List (List Int)}
    (hB : Below (AA dp un gd fr) base fr h₀) (hX : (hd.heap_1 w.params).In h₀) (hT : Top viewQ loose mean mg mb h₀)
    (hl1 : h₀.IsList l1 v1.toArray) (hl2 : h₀.IsList l2 v2.toArray) (hi1 : IntsAre v1 xs) (hi2 : IntsAre v2 ys) (hn1 : xs.length = 5) (hn2 : ys.length = 5) (hd : dp + 1 < recursionLimit) (hu : un + 128 < cLine) (hfl : f ≤ l) (hl5 : l < 5)
    (d1 : o1.data = .cell (some (.ref l1))) (d2 : o2.data = .cell (some (.ref l2)))
    (S : At h₀ L xh [(Str.ofString "found", .ref r), (Str.ofString "first", .int (f : Int) t1), (Str.ofString "last", .int (l : Int) t2)] ((r, listOf (cells.map fun p => Value.ref p.1).toArray n) :: (L + 1, o1) :: (L + 1 + 1, o2) :: cells))
    (hr : ∀ p ∈ (L + 1, o1) :: (L + 1 + 1, o2) :: cells, p.1 ≠ r) (hc : CellsI cells zss) (hz : zss.length ≤ 8)
    (k : ∀ h tk n cells, At h₀ L h [(Str.ofString "found", .ref r), (Str.ofString "first", .int (f : Int) t1), (Str.ofString "last", .int (l : Int) t2)] ((r, listOf (cells.map fun p => Value.ref p.1).toArray n) :: (L + 1, o1) :: (L + 1 + 1, o2) :: cells) →
      (∀ p ∈ (L + 1, o1) :: (L + 1 + 1, o2) :: cells, p.1 ≠ r) → CellsI cells (zss ++ (if (xs.drop f).take (l - f) = (ys.drop (f + 1)).take (l - f) then [xs.take l ++ xs.drop (l + 1)] else [])) → Q .next ⟨h, xg, xd, tk, xo⟩) :
    wpAny (model PySem.Challenge.rw_op0087_01.row.prog w) ((AA dp un gd fr).deeper (shEnv L fa cd)) (exec (shSt 5) (shEnv L fa cd)) Q E ⟨xh, xg, xd, xt, xo⟩ := by
  refine At.use S ?_
  clear S
  intro m₀ mq F N
  have mkS := mark 23
  have ef : ((f : Int)).toNat = f := Int.toNat_natCast f
  have ef1 : ((f : Int) + 1).toNat = f + 1 := rfl
  have el : ((l : Int)).toNat = l := Int.toNat_natCast l
  have el1 : ((l : Int) + 1).toNat = l + 1 := rfl
  have em1 : min (l + 1) 5 - (f + 1) = l - f := by rw [Nat.min_eq_left (show l + 1 ≤ 5 from hl5), Nat.add_sub_add_right]
  have em2 : min l 5 - f = l - f := by rw [Nat.min_eq_left (Nat.le_of_lt hl5)]
  conv in shSt 5 => whnf
  k_steps
  iterate 2 (delta Stop; (((refine' kmk_slice_ints ?zF ?zN ?zl ?zp ?zq ?zi ?zm ?zc ?_ ?zs ?zt ?zz; (case zF => k_asm); (case zN => k_asm); (case zl => kmk_list); (case zp => kmk_part); (case zq => kmk_part); (case zi => assumption); (case zm => with_reducible first | exact kmk_from (by assumption) (by lia) | exact kmk_upto (by assumption) (by lia) | exact kmk_run (by assumption) (by lia) (by lia)); (case zc => exact rfl); (case zs => with_unfolding_all rfl); (case zt => kmk_pure); (case zz => kmk_size)))); intro D' ws' h' F' N' l1 hI' hC' hL'; (try k_lt l1); k_steps)
  delta Stop
  refine eq_intsK (by is_list) (by assumption) (by is_list) (by assumption) (by first | ktr_units | lia) ?_
  have mkL := mark 14
  rw [ef, ef1, el, el1, hn1, hn2, em1, em2]
  k_steps
  · iterate 2 (delta Stop; (((refine' kmk_slice_ints ?zF ?zN ?zl ?zp ?zq ?zi ?zm ?zc ?_ ?zs ?zt ?zz; (case zF => k_asm); (case zN => k_asm); (case zl => kmk_list); (case zp => kmk_part); (case zq => kmk_part); (case zi => assumption); (case zm => with_reducible first | exact kmk_from (by assumption) (by lia) | exact kmk_upto (by assumption) (by lia) | exact kmk_run (by assumption) (by lia) (by lia)); (case zc => exact rfl); (case zs => with_unfolding_all rfl); (case zt => kmk_pure); (case zz => kmk_size)))); intro D' ws' h' F' N' l1 hI' hC' hL'; (try k_lt l1); k_steps)
    delta Stop
    rename Fr _ _ _ _ => F'
    rename News _ _ _ _ => N'
    rename (_ ∧ _ ∧ _ ∧ _ ∧ _ ∧ _ ∧ _ ∧ AllLt _ _) => b0
    rw [if_pos (by assumption)] at k
    refine sh_app (n := n) (cells := cells) (rest := [(L + 1, o1), (L + 1 + 1, o2)]) F' (news_sub N' ?_) hr b0.2.2.2.2.1 hc hz (by assumption) fun h' cells hc hr F N => ?_
    · exact fm_c (.tail _ (.tail _ (.tail _ (.tail _ (.tail _ (.head _)))))) (fm_c (.head _) (fun q hq => .tail _ (.tail _ (.tail _ (.tail _ (.tail _ (.tail _ hq)))))))
    k_steps
    exact k _ _ _ _ ⟨_, F, N⟩ hr hc
  · rename Fr _ _ _ _ => F'
    rename News _ _ _ _ => N'
    rw [if_neg (by assumption), List.append_nil] at k
    exact k _ _ _ _ (At.mk F' N' ⟨rfl, rfl, rfl, trivial⟩ fun q hq => .tail _ (.tail _ hq)) hr hc
theorem shared_spec {l1 l2 : Addr} {v1 v2 : List Value} {xs ys : List Int} (dp un : Nat) (gd : Option (List Code)) (fr : List Env) (base : Heap) {xh : Heap} {xg : Array GenState} {xd : Drawn} {xt : Nat} {xo : OsState} (Q E : Value → Shared → Prop)
    (hB : Below (AA dp un gd fr) base fr xh) (hX : (hd.heap_1 w.params).In xh) (hT : Top viewQ loose mean mg mb xh)
    (hl1 : xh.IsList l1 v1.toArray) (hl2 : xh.IsList l2 v2.toArray) (hi1 : IntsAre v1 xs) (hi2 : IntsAre v2 ys) (hn1 : xs.length = 5) (hn2 : ys.length = 5) (hd : dp + 1 < recursionLimit) (hu : un + 128 < cLine)
    (hret : ∀ (r : Addr) (c : Nat) (cells : List (Addr × Obj)) (h' : Heap) (tk' : Nat), xh.StaysIn h' → xh.get? r = none → h'.get? r = some (listOf (cells.map fun p => Value.ref p.1).toArray c) → (∀ p ∈ cells, h'.get? p.1 = some p.2 ∧ xh.get? p.1 = none) → CellsI cells (sharedV xs ys) → Q (.ref r) ⟨h', xg, xd, tk', xo⟩) :
    wpAny (model PySem.Challenge.rw_op0087_01.row.prog w) (AA dp un gd fr) (call (.ref 154) [.ref l1, .ref l2]) Q E ⟨xh, xg, xd, xt, xo⟩ := by
  ((refine wpAny_call ?_; (k_dflt (refine' enterC ?k3 ?k5 ?k6 ?k7 ?k8 ?k9 ?kB ?kD ?_ ?c2 ?c3 ?c4; (case k3 => k_asm); (case k5 => k_asm); (case k6 => k_is); (case k7 => k_is); (case k8 => ktr_room); (case k9 => first | exact BindsTo.of_eq rfl | exact binds_K (by k_in) rfl (by k_is) rfl rfl rfl | (refine' kp_binds ?kx ?ke; (case kx => k_in); (case ke => exact fun _ => rfl))); (case kB => exact rfl); (case kD => decide +kernel); (case c2 => exact rfl); (case c3 => exact rfl); (case c4 => exact rfl); k_whole)); intro L' h' tk' cells' F' N' Y'; k_cells Y'; (try simp only [List.cons_append, List.nil_append] at N'); (try dsimp only); (try k_fold)))
  have mkC := mark 22
  have mkU := mark 17
  have mkK := mark 34
  k_steps
  delta Stop
  k_dflt (refine LCt.Assign_ListComp_T (F₀ := by k_asm) (by rfl) (by with_unfolding_all rfl) (by with_unfolding_all rfl) (by decide) (by rfl) (by decide) (by rfl) (by rfl) (by rfl) ?_)
  clear mkC
  k_steps
  delta Stop
  rename IsRange _ _ _ _ _ _ _ _ => hrg
  rename Fr _ _ _ _ => lF'
  rename News _ _ _ _ => lN'
  refine LCt.CompSrcT.range (n := 5) (by rfl) lF' lN' hrg (by decide) (by rfl) (by decide) ?_
  intro g
  refine comp_JTn (fun i vs => IntsAre vs (unlikeL xs ys i)) .nil ?_ ?_
  · clear lF' lN' hrg
    rintro i vs hi hvs v I oI C oC D m₂ h tk E' ⟨t, rfl⟩ hC hx F N off ne
    rw [Int.zero_add] at hx
    k_steps
    · refine LCg.CompEnd.intro (by assumption) (by assumption) _ (fun p hp => hp) off trivial ⟨rfl, ?_⟩
      rw [unlikeL_succ, if_pos (by assumption)]
      exact hvs.append (.cons _ _ .nil)
    · refine LCg.CompEnd.intro (by assumption) (by assumption) _ (fun p hp => hp) off trivial ⟨rfl, ?_⟩
      rw [unlikeL_succ, if_neg (not_not_intro (by assumption)), List.append_nil]
      exact hvs
  · rintro vs hvs
    delta LCg.FinA
    intros
    k_steps
    delta Stop
    refine eq_intsK (by is_list) hvs (by is_list) .nil (by first | ktr_units | lia) ?_
    k_steps
    · --T<
      delta Stop
      rename IsRange _ _ _ _ _ _ _ _ => hrg
      rename Fr _ _ _ _ => lF'
      rename News _ _ _ _ => lN'
      refine LCg.CompSrc.range (n := 5) (by rfl) lF' lN' hrg (by decide) (by rfl) (by decide) ?_
      intro g
      refine comp_J (fun i vs nx => ∃ cells, nx = _ ++ cells ∧ vs = cells.map (fun p => Value.ref p.1) ∧ CellsI cells ((List.range i).map fun p => xs.take p ++ xs.drop (p + 1))) ⟨[], (List.append_nil _).symm, rfl, .nil⟩ ?_ ?_
      · clear lF' lN' hrg
        rintro i vs _ hi ⟨cells, rfl, rfl, hcells⟩ v I oI C oC D m₂ h tk E' ⟨t, rfl⟩ hC hx F N off ne
        rw [Int.zero_add] at hx
        have mkS := mark 23
        k_steps
        iterate 2 (delta Stop; (((refine' kmk_slice_ints ?zF ?zN ?zl ?zp ?zq ?zi ?zm ?zc ?_ ?zs ?zt ?zz; (case zF => k_asm); (case zN => k_asm); (case zl => kmk_list); (case zp => kmk_part); (case zq => kmk_part); (case zi => assumption); (case zm => with_reducible first | exact kmk_from (by assumption) (by lia) | exact kmk_upto (by assumption) (by lia) | exact kmk_run (by assumption) (by lia) (by lia)); (case zc => exact rfl); (case zs => with_unfolding_all rfl); (case zt => kmk_pure); (case zz => kmk_size)))); intro D' ws' h' F' N' l1 hI' hC' hL'; (try k_lt l1); k_steps)
        rename Fr _ _ _ _ => lF'
        rename News _ _ _ _ => lN'
        rename (_ ∧ _ ∧ _ ∧ _ ∧ _ ∧ AllLt _ _) => hlt
        refine comp_cell (hS := by intro _; trivial) lF' lN' off hlt (by assumption) hcells ?_
        rw [List.range_succ, List.map_append]
        rfl
      · rintro vs _ ⟨cells, rfl, rfl, hcells⟩
        delta LCg.FinE
        intro D2 h2 tk2 F2 N2 off2
        k_steps
        have hr := sh_ret (cells := cells) F2 N2 (.head _) (fun p hp => .tail _ (List.mem_append_right _ hp))
        refine hret _ _ _ _ _ (Fr.keep F2) hr.1 hr.2.1 hr.2.2 ?_
        unfold sharedV
        rw [if_pos (of_decide_eq_true (by assumption))]
        exact hcells
      --T>
    · obtain ⟨f, l, hf, hl, hfl, hl5, hpos⟩ := unlikeL_ends (xs := xs) (ys := ys) (of_decide_eq_false (by assumption))
      have hS : sharedV xs ys = sharedF xs ys f l := by
        unfold sharedV
        rw [if_neg (of_decide_eq_false (by assumption)), hf, hl]; rfl
      k_steps
      delta Stop
      (with_unfolding_all refine' int_first ?k1 ?k2 ?k3 ?k4 ?_ ?k6; (case k1 => is_list); (case k2 => assumption); (case k3 => assumption); (case k4 => assumption); (case k6 => with_unfolding_all rfl); k_whole)
      intro t'
      k_steps
      delta Stop
      (with_unfolding_all refine' int_last ?k1 ?k2 ?k3 ?k4 ?_ ?k6; (case k1 => is_list); (case k2 => assumption); (case k3 => assumption); (case k4 => assumption); (case k6 => with_unfolding_all rfl); k_whole)
      intro t'
      have mk7 := mark 13
      k_steps
      delta Stop
      rename Fr _ _ _ _ => F'
      rename News _ _ _ _ => N'
      rename (_ ∧ _ ∧ _) => b0
      refine sh_if1 (n := 0) (cells := []) hB hX hT hl1 hl2 hi1 hi2 hn1 hn2 hd hu hfl hl5 (by assumption) (by assumption) (At.mk F' N' ⟨rfl, rfl, rfl, trivial⟩ ?_) ?_ .nil (by decide) fun h tk n cells S hr hc => ?_
      · exact fm_c (.head _) (fm_c (by k_mem) (fm_c (by k_mem) (List.forall_mem_nil _)))
      · exact fm_c (Nat.ne_of_lt b0.2.2.2.2) (fm_c (Nat.ne_of_lt b0.2.2.2.1) (List.forall_mem_nil _))
      k_steps
      delta Stop
      refine sh_if2 hB hX hT hl1 hl2 hi1 hi2 hn1 hn2 hd hu hfl hl5 (by assumption) (by assumption) S hr hc (by split <;> simp) fun h tk n cells S hr hc => ?_
      refine At.use S ?_
      clear S
      intro m₀ mq F N
      k_steps
      rename Fr _ _ _ _ => F
      rename News _ _ _ _ => N
      have hr := sh_ret (cells := cells) F N (.head _) (fun p hp => .tail _ (.tail _ (.tail _ hp)))
      refine hret _ _ _ _ _ (Fr.keep F) hr.1 hr.2.1 hr.2.2 ?_
      rw [hS]
      exact hc
end

theorem rs_19_1 {M : Model} {A : Around} {Q : Value → Shared → Prop} {E : Value → Shared → Prop} {s : Shared} (h : wpAny M A (call .none [.none]) Q E s) : wpAny M A (call .none [.none]) Q E s := by first | (walk1; fail "") | exact h
section
variable {prog : Program} {w : World} {A : Around} {E : Value → Shared → Prop} {s : Shared} {env : Env} {h₀ : Heap} {x : Str} {body : List Stmt} {Q : Flow → Shared → Prop} {m₀ : Str → Option Value} {news : List (Addr × Obj)}
theorem iter_list_T {ax : Addr} {vs : List Value} (R : Nat → (Str → Option Value) → List (Addr × Obj) → Prop) (hl : s.heap.IsList ax vs.toArray)
    (hh : A.handled = none) (F : Fr h₀ env.locals s.heap m₀) (N : News h₀ env.locals s.heap news) (hax : ∀ p ∈ news, p.1 ≠ ax) (haL : env.locals ≠ ax) (hR : R 0 m₀ news)
    (turn : ∀ i v m₁ nx h tk own, vs[i]? = some v → OwnOff own (news.map (·.1)) → R i m₁ nx → Fr h₀ env.locals h (fun y => if y = x then some v else m₁ y) → News h₀ env.locals h (nx ++ own) →
      wpAny (model prog w) A (execs body env) (TPost h₀ env.locals (R (i + 1)) own (news.map (·.1)) { s with heap := h, toks := tk } Q) E { s with heap := h, toks := tk })
    (done : ∀ m₁ nx h tk, R vs.length m₁ nx → Fr h₀ env.locals h m₁ → News h₀ env.locals h nx → Q .next { s with heap := h, toks := tk }) :
    wpAny (model prog w) A (pyIter (.ref ax)) (fun it s₂ => LoopAtV prog w A h₀ env x body Q E it s₂) E s := by
  refine wpAny_pyIter_list hl ?_
  have hlt : ax < s.heap.objs.size := by obtain ⟨_, e, _⟩ := hl; exact Heap.lt_size e
  have W := Walks.list (prog := prog) (w := w) hh s.heap.objs.size ax (Nat.ne_of_lt hlt) vs.toArray
  have hI : ∀ p ∈ news, p.1 ∉ [s.heap.objs.size] := fun p hp hm => absurd (Heap.lt_size (N p hp).1) ((List.mem_singleton.mp hm) ▸ Nat.lt_irrefl _)
  have hIf : ∀ p ∈ news, p.1 ∉ [s.heap.objs.size, ax] := fun p hp hm => by
    rcases List.mem_cons.mp hm with e | hm
    · exact hI p hp (List.mem_singleton.mpr e)
    · exact hax p hp (List.mem_singleton.mp hm)
  have e0 : vs.toArray.size = vs.length := List.size_toArray ..
  refine loop_invN R W ?_ ?_ hI hIf ⟨⟨_, Heap.get?_push_size _ rfl, rfl, rfl⟩, hl.push _⟩ (F.push _) (fun p hp => ⟨Heap.get?_push_of_some _ (N p hp).1, (N p hp).2⟩) hR ?_ ?_
  · intro hm
    rcases List.mem_cons.mp hm with e | hm
    · exact absurd F.ns.lt (e ▸ Nat.lt_irrefl _)
    · exact haL (List.mem_singleton.mp hm)
  · intro b' hb
    rw [List.mem_singleton.mp hb]
    exact next_is_new F
  · rintro i v m₁ nx h tk own hi hv _ hoff hR' F₁ N₁
    exact wpAny_mono (turn i v m₁ nx h tk own (by simpa using hv) hoff hR' F₁ N₁) (fun f s₂ q => TPost.inv q) fun _ _ x => x
  · rintro m₁ nx h tk hR' F₁ N₁
    rw [e0] at hR'
    exact done m₁ nx h tk hR' F₁ N₁
end

noncomputable def lawS : Stmt := PySem.Challenge.pw_op0087_01.main.body.getLastD (.Pass ⟨0, 0, 0, 0⟩)
noncomputable def lawB : List Stmt := stmtBody lawS
noncomputable def lawScope : Scope := stmtScope lawS
noncomputable def lawSt (n : Nat) : Stmt := lawB.getD n (.Pass ⟨0, 0, 0, 0⟩)
noncomputable abbrev lawEnv (L fa : Addr) (cd : Value) : Env := envOfC (Str.ofString "law") lawScope L fa cd
noncomputable abbrev LA (L fa : Addr) (cd : Value) : Around := callerA.deeper (lawEnv L fa cd)
noncomputable abbrev LM (w : World) : Model := model PySem.Challenge.rw_op0087_01.row.prog w
structure LG (w : World) (loose : List Str) (mean : ExcName → Option Value) (mg mb : Str → Option Value) (h₀ : Heap) : Prop where
  K0 : Below callerA h₀ [] h₀
  KX : (hd.heap_1 w.params).In h₀
  T : Top viewQ loose mean mg mb h₀
theorem rs_20_1 {M : Model} {A : Around} {Q : Value → Shared → Prop} {E : Value → Shared → Prop} {s : Shared} (h : wpAny M A (call .none [.none]) Q E s) : wpAny M A (call .none [.none]) Q E s := by first | (walk1; fail "") | exact h
section
variable {w : World} {loose : List Str} {mean : ExcName → Option Value} {mg mb : Str → Option Value} {h₀ : Heap} {L fa : Addr} {cd : Value} {s : Shared} {m : Str → Option Value} {news : List (Addr × Obj)} {Q E : Value → Shared → Prop}
theorem lg_below (G : LG w loose mean mg mb h₀) (F : Fr h₀ L s.heap m) : Below (LA L fa cd) h₀ [lawEnv L fa cd] s.heap :=
  below_at G.K0 F rfl rfl rfl
theorem call_CV {f : Addr} {need : Nat} {pre : Heap → Prop} {vs : List Value} {kw : List (Str × Value)} {R : Tok → Value} (C : CVk w loose mean mg mb f need pre vs kw R) (G : LG w loose mean mg mb h₀) (F : Fr h₀ L s.heap m) (N : News h₀ L s.heap news) (hp : pre s.heap) (hn : need ≤ 4)
    (h : ∀ t h' tk', Fr h₀ L h' m → News h₀ L h' news → Q (R t) { s with heap := h', toks := tk' }) : wpAny (LM w) (LA L fa cd) (call (.ref f) vs kw) Q E s := by
  refine C _ _ _ _ _ _ _ _ (lg_below (s := s) G F) (in_at F G.KX) (top_at F G.T) hp ?_ ?_ ?_
  · show callerA.depth + 1 + need < recursionLimit
    have : callerA.depth + 1 + 4 < recursionLimit := by decide
    lia
  · show callerA.units + 3 + 8 * need < cLine
    have : callerA.units + 3 + 8 * 4 < cLine := by decide
    lia
  · intro t h' tk' st
    exact h t h' tk' (F.keeps st) (N.grown st)
theorem fr_turn {g g' h' : Heap} (F : Fr h₀ L g m) (T : KtsTurn [L] g g') (st : g'.StaysIn h') : Fr h₀ L h' m := by
  obtain ⟨o, es, ep, ho, hd, hr⟩ := F.ns
  obtain ⟨sl, hs⟩ := T.frame L o ho (List.mem_singleton.mpr rfl)
  refine ⟨⟨_, es, ep, st _ _ hs, hd, hr⟩, fun b ob e => ?_, F.above⟩
  refine st _ _ (T.other b ob (F.keep b ob e) fun hm => ?_)
  rw [List.mem_singleton.mp hm, kts_self F] at e
  cases e
theorem news_turn {g g' h' : Heap} (N : News h₀ L g news) (T : KtsTurn [L] g g') (st : g'.StaysIn h') : News h₀ L h' news := fun p hp =>
  ⟨st _ _ (T.other _ _ (N p hp).1 fun hm => (N p hp).2.1 (List.mem_singleton.mp hm)), (N p hp).2⟩
theorem lg_dicts (F : Fr h₀ L s.heap m) : KtsDicts ([lawEnv L fa cd].filterMap (·.frame)) s.heap := by
  intro b hb
  have e : b = L := by simpa [envOfC] using hb
  subst e
  obtain ⟨o, es, ep, ho, hd, _⟩ := F.ns
  exact ⟨o, es, ep, ho, hd⟩
theorem call_read {x : Str} {t : Tok} {strict : Bool} (G : LG w loose mean mg mb h₀) (F : Fr h₀ L s.heap m) (N : News h₀ L s.heap news) (hpre : (∀ c ∈ x.cps.toList, c < 128) ∧ x.length ≤ 16 ∧ ∀ c ∈ codesI x, c ≠ 61)
    (hret : A2Good strict (codesI x) → ∀ (r : Addr) (t : Tok) (c : Nat) (h' : Heap) (tk' : Nat), Fr h₀ L h' m → News h₀ L h' ((r, listOf #[.bool true, .bytes (byteArr (a2bF (codesI x)).1) t] c) :: news) → Q (.ref r) { s with heap := h', toks := tk' })
    (hnone : ¬ A2Good strict (codesI x) → ∀ (h' : Heap) (tk' : Nat), Fr h₀ L h' m → News h₀ L h' news → Q .none { s with heap := h', toks := tk' }) :
    wpAny (LM w) (LA L fa cd) (call (.ref 149) [.str x t, .bool strict]) Q E s := by
  refine read_spec _ _ _ _ _ _ _ _ (lg_below (s := s) G F) (in_at F G.KX) (top_at F G.T) G.KX G.T (lg_dicts F) hpre (by show callerA.depth + 1 + 4 < recursionLimit; decide) (by show callerA.units + 3 + 8 * 4 < cLine; decide) ?_ ?_
  · intro hg r t c h' tk' st hr hr'
    have F' := F.keeps st
    have N' := N.grown st
    refine hret hg r t c h' tk' F' fun p hp => ?_
    rcases List.mem_cons.mp hp with rfl | hp
    · refine ⟨hr', ?_, kts_none F.keep hr⟩
      rintro rfl
      obtain ⟨o, ho⟩ := fr_has F
      rw [hr] at ho
      cases ho
    · exact N' p hp
  · intro hg h' g' tk' T st
    have T' : KtsTurn [L] s.heap g' := T
    exact hnone hg h' tk' (fr_turn F T' st) (news_turn N T' st)
end
theorem subm {A B : List (Addr × Obj)} (h : ∀ q ∈ A, q ∈ B) (q : Addr × Obj) (hq : q ∈ A) : q ∈ B := h q hq
local macro_rules | `(tactic| k_all) => `(tactic| assumption)

theorem rs_206_1 {M : Model} {A : Around} {Q : Value → Shared → Prop} {E : Value → Shared → Prop} {s : Shared} (h : wpAny M A (call .none [.none]) Q E s) : wpAny M A (call .none [.none]) Q E s := by first | (walk1; fail "") | exact h
section
variable {prog : Program} {w : World} {A : Around} {E : Value → Shared → Prop} {s : Shared}
theorem eqAt_bytes (x y : Array UInt8) (t u : Tok) : SeqAt.EqAt A s (.bytes x t) (.bytes y u) (x.toList == y.toList) := fun prog w E Q h => by
  unfold eqBool
  refine wpAny_holding ?_
  refine wpAny_ite_split (fun hab => ?_) (fun _ => ?_)
  · have e : x = y := by have := eq_of_beq hab; injection this
    subst e
    exact wpAny_bind (wpAny_rule (wpAny_pure (by simpa using h)))
  · have hc : SeqAt.RcAt A s (.bytes x t) (.bytes y u) (x.toList == y.toList) := fun prog w E Q h => (eq_bytes h : wpAny (model prog w) A (compareOp .Eq (.bytes x t) (.bytes y u)) Q E s)
    exact wpAny_bind (hc prog w E _ (wpAny_truthy_bool h))
theorem ne_TB {a b : Addr} {x y : Array UInt8} {t u : Tok} {Q : Value → Shared → Prop} (ha : s.heap.IsList a #[.bool true, .bytes x t]) (hb : s.heap.IsList b #[.bool true, .bytes y u]) (hu : A.units < cLine) (h : Q (.bool (x.toList != y.toList)) s) :
    wpAny (model prog w) A (compareOp .NotEq (.ref a) (.ref b)) Q E s := by
  refine SeqAt.RcNeAt.lists (e := fun j => if j = 0 then true else x.toList == y.toList) ha hb rfl hu (fun j h1 h2 => ?_) prog w E Q ?_
  · match j, h1 with
    | 0, _ => exact SeqAt.EqAt.same _
    | 1, _ => exact eqAt_bytes x y t u
  · have e : (!(List.range (#[Value.bool true, Value.bytes x t] : Array Value).size).all fun j => if j = 0 then true else x.toList == y.toList) = (x.toList != y.toList) := by
      show (!([0, 1].all fun j => if j = 0 then true else x.toList == y.toList)) = _
      simp [bne]
    rw [e]; exact h
theorem eqAt_strs {a b : Addr} {v1 v2 : List Value} {xs ys : List Str} (ha : s.heap.IsList a v1.toArray) (hb : s.heap.IsList b v2.toArray) (h1 : StrsAre v1 xs) (h2 : StrsAre v2 ys) (hu : A.units < cLine) : SeqAt.EqAt A s (.ref a) (.ref b) (decide (xs = ys)) := by
  have l1 := h1.length
  have l2 := h2.length
  by_cases hab : a = b
  · subst hab
    have e : xs = ys := by
      obtain ⟨o, e1, _, n, e2⟩ := ha
      obtain ⟨o', e3, _, n', e4⟩ := hb
      rw [e1] at e3; cases e3
      rw [e2] at e4
      have e5 : v1 = v2 := by
        have := congrArg (fun d => match d with | Data.seq a _ => a.toList | _ => []) e4
        simpa using this
      subst e5
      apply List.ext_getElem?
      intro i
      by_cases hi : i < xs.length
      · obtain ⟨t, ht⟩ := h1.get i xs[i] (by simp [hi])
        obtain ⟨t', ht'⟩ := h2.get i ys[i] (by first | (simp; done) | (simp; omega))
        rw [ht] at ht'
        have : xs[i] = ys[i] := by
          have := Option.some.inj ht'
          injection this
        rw [List.getElem?_eq_getElem hi, List.getElem?_eq_getElem (by omega), this]
      · rw [List.getElem?_eq_none (by omega), List.getElem?_eq_none (by omega)]
    rw [e, decide_eq_true rfl]
    exact SeqAt.EqAt.same _
  · by_cases hl : v1.length = v2.length
    · have := SeqAt.EqAt.of_refs hab (SeqAt.RcAt.lists (e := fun j => xs.getD j Str.empty == ys.getD j Str.empty) ha hb (by simpa using hl) hu (fun j j1 j2 => by
        have j1' : j < v1.length := by simpa using j1
        have j2' : j < v2.length := by simpa using j2
        obtain ⟨t, ht⟩ := h1.get j xs[j] (by first | (simp; done) | (simp; omega))
        obtain ⟨t', ht'⟩ := h2.get j ys[j] (by first | (simp; done) | (simp; omega))
        have e1 : v1.toArray[j] = .str xs[j] t := by
          rw [List.getElem?_eq_getElem j1'] at ht
          simpa using ht
        have e2 : v2.toArray[j] = .str ys[j] t' := by
          rw [List.getElem?_eq_getElem j2'] at ht'
          simpa using ht'
        rw [e1, e2]
        have := SeqAt.EqAt.str_str (A := A.in1) (s := s) xs[j] t ys[j] t'
        have q1 : xs.getD j Str.empty = xs[j] := by simp [show j < xs.length by omega]
        have q2 : ys.getD j Str.empty = ys[j] := by simp [show j < ys.length by omega]
        rw [q1, q2]
        exact this))
      have e : ((List.range v1.toArray.size).all fun j => xs.getD j Str.empty == ys.getD j Str.empty) = decide (xs = ys) := by
        rw [Bool.eq_iff_iff, List.all_eq_true, decide_eq_true_eq]
        constructor
        · intro h
          apply List.ext_getElem (by omega)
          intro i i1 i2
          have := h i (by first | (simp; done) | (simp; omega))
          simpa [i1, i2] using this
        · rintro rfl j _
          simp
      rwa [e] at this
    · have e : decide (xs = ys) = false := decide_eq_false fun h => hl (by rw [l1, l2, h])
      rw [e]
      exact SeqAt.EqAt.of_refs hab (SeqAt.RcAt.lists_lengths ha hb (by simpa using hl) hu)
theorem ne_pair {r q a b c d : Addr} {e1 e2 : Bool} {Q : Value → Shared → Prop} (hr : s.heap.IsTuple r #[.ref a, .ref b]) (hq : s.heap.IsTuple q #[.ref c, .ref d]) (h1 : SeqAt.EqAt A.in1 s (.ref a) (.ref c) e1) (h2 : SeqAt.EqAt A.in1 s (.ref b) (.ref d) e2) (hu : A.units < cLine) (h : Q (.bool (!(e1 && e2))) s) :
    wpAny (model prog w) A (compareOp .NotEq (.ref r) (.ref q)) Q E s := by
  refine SeqAt.RcNeAt.tuples (e := fun j => if j = 0 then e1 else e2) hr hq hu (fun j j1 j2 => ?_) prog w E Q ?_
  · match j, j1 with
    | 0, _ => exact h1
    | 1, _ => exact h2
  · have e : (!((List.range (min (#[Value.ref a, Value.ref b] : Array Value).size (#[Value.ref c, Value.ref d] : Array Value).size)).all (fun j => if j = 0 then e1 else e2) && (#[Value.ref a, Value.ref b] : Array Value).size == (#[Value.ref c, Value.ref d] : Array Value).size)) = (!(e1 && e2)) := by
      show (!([0, 1].all (fun j => if j = 0 then e1 else e2) && true)) = _
      cases e1 <;> cases e2 <;> rfl
    rw [e]; exact h
end

theorem sum_pick {prog : Program} {w : World} {A : Around} {E : Value → Shared → Prop} {xh : Heap} {xg : Array GenState} {xd : Drawn} {xt : Nat} {xo : OsState} {h₀ : Heap} {L l : Addr} {m : Str → Option Value} {news : List (Addr × Obj)} {vs : List Value} {ns : List Int} {lo hi st : Option Int} {Q : Value → Shared → Prop} (F : Fr h₀ L xh m) (N : News h₀ L xh news) (hh : A.handled = none)
    (hl : xh.IsList l (slicePick vs.toArray lo hi st)) (hi' : IntsAre vs ns) (h : ∀ h' tk t', Fr h₀ L h' m → News h₀ L h' news → Q (.int (pickNums ns lo hi st).sum t') ⟨h', xg, xd, tk, xo⟩) : wpAny (model prog w) A (call (.builtin "sum") [.ref l]) Q E ⟨xh, xg, xd, xt, xo⟩ :=
  LSm.sum_ints F N hh (vs := (slicePick vs.toArray lo hi st).toList) hl (hi'.pick lo hi st) h
theorem int_item {prog : Program} {w : World} {A : Around} {E : Value → Shared → Prop} {xh : Heap} {xg : Array GenState} {xd : Drawn} {xt : Nat} {xo : OsState} {value slice : PySem.Expr} {l : Addr} {vs : List Value} {ns : List Int} {k : Nat} {u : Tok} {Q : Value → Shared → Prop}
    (hl : xh.IsList l vs.toArray) (hs : IntsAre vs ns) (hk : k < ns.length) (hz : ns.length ≤ 64) (h : ∀ t, Q (.int (ns.getD k 0) t) ⟨xh, xg, xd, xt, xo⟩)
    (hsub : subscripted slice false (.ref l) (.int (k : Int) u) = operate [.ref l, .int (k : Int) u] (getItem (.ref l) (.int (k : Int) u))) :
    wpAny (model prog w) A (subscriptTail value slice (.ref l) (.int (k : Int) u)) Q E ⟨xh, xg, xd, xt, xo⟩ := by
  have hlen := hs.length
  obtain ⟨v, hv⟩ : ∃ v, vs[k]? = some v := ⟨vs[k], List.getElem?_eq_getElem (by omega)⟩
  obtain ⟨t, rfl⟩ := hs.int_at k v hv
  exact tail_any hl.typeIs slot_list_getitem.lookup (wpAny_getItem_list hl (by omega) (by omega) (by simpa using hv) (h t)) hsub
noncomputable def startL : List Int := [0, 1, 0, 1, 0, 1, 4, 0, 2, 5]
noncomputable def drawN (ns : List Int) (k : Nat) : Int := startL.getD k 0 + (pickNums ns (some (k : Int)) none (some 10)).sum
noncomputable def drawL (ns : List Int) (n : Nat) : List Int := (List.range n).map (drawN ns)
theorem drawL_succ (ns : List Int) (n : Nat) : drawL ns (n + 1) = drawL ns n ++ [drawN ns n] := by unfold drawL; rw [List.range_succ, List.map_append]; rfl
theorem drawL_len (ns : List Int) (n : Nat) : (drawL ns n).length = n := by simp [drawL]
theorem off1_mem {D : Addr} : ∀ {l : List (Addr × Obj)}, LCg.Off1 D l → ∀ p ∈ l, p.1 ≠ D
  | [], _, _, h => nomatch h
  | _ :: _, x, p, h => by
    rcases List.mem_cons.mp h with rfl | h
    · exact x.1
    · exact off1_mem x.2 p h
theorem news_tail {h₀ h : Heap} {L : Addr} {p : Addr × Obj} {r : List (Addr × Obj)} (N : News h₀ L h (p :: r)) : News h₀ L h r := fun q hq => N q (.tail _ hq)
theorem rs_21_1 {M : Model} {A : Around} {Q : Value → Shared → Prop} {E : Value → Shared → Prop} {s : Shared} (h : wpAny M A (call .none [.none]) Q E s) : wpAny M A (call .none [.none]) Q E s := by first | (walk1; fail "") | exact h
section
variable {w : World} {loose : List Str} {mean : ExcName → Option Value} {mg mb : Str → Option Value} {h₀ : Heap} {L fa : Addr} {cd : Value} {xh : Heap} {xg : Array GenState} {xd : Drawn} {xt : Nat} {xo : OsState} {m : Str → Option Value} {Q : Flow → Shared → Prop} {E : Value → Shared → Prop}
theorem st_01 {lsc : Addr} {vsc : List Value} {ns : List Int} {c0 c1 : Obj} {cells : List (Addr × Obj)} (G : LG w loose mean mg mb h₀) (hL : h₀.IsList lsc vsc.toArray) (hI : IntsAre vsc ns) (hvl : vsc.toArray.size ≤ sizeLine)
    (F : Fr h₀ L xh m) (N : News h₀ L xh ((L + 1 + 1, c1) :: (L + 1, c0) :: cells)) (hc : ∀ p ∈ cells, p.1 ≠ L + 1 + 1) (d0 : c0.data = .cell (some (.ref lsc))) (d1 : c1.data = .cell none)
    (k : ∀ h tk ld vd, At h₀ L h [(Str.ofString "draws", .ref ld)] ((ld, LCg.lst vd) :: cells) → (∀ p ∈ cells, p.1 ≠ ld) → IntsAre vd (drawL ns 10) → wpAny (LM w) (LA L fa cd) (execs (lawB.drop 2) (lawEnv L fa cd)) Q E ⟨h, xg, xd, tk, xo⟩) :
    wpAny (LM w) (LA L fa cd) (execs lawB (lawEnv L fa cd)) Q E ⟨xh, xg, xd, xt, xo⟩ := by
  obtain ⟨K0, KX, T⟩ := G
  have e : lawB = lawSt 0 :: lawSt 1 :: lawB.drop 2 := rfl
  rw [e]
  generalize lawB.drop 2 = rest at *
  conv in lawSt 0 => whnf
  conv in lawSt 1 => whnf
  clear e
  have hdc := drawL_len ns 10
  have mkC := mark 22
  k_steps
  delta Stop
  k_dflt (refine LCg.Assign_ListComp_U (F₀ := by k_asm) (by rfl) (by with_unfolding_all rfl) (by with_unfolding_all rfl) (by decide) (by rfl) (by decide) (by rfl) (by rfl) (by rfl) ?_)
  clear mkC
  k_steps
  delta Stop
  rename IsRange _ _ _ _ _ _ _ _ => hrg
  rename Fr _ _ _ _ => lF'
  rename News _ _ _ _ => lN'
  refine LCg.CompSrc.range (n := 10) (by rfl) lF' lN' hrg (by decide) (by rfl) (by decide) ?_
  intro g
  refine comp_Jn (fun i vs => IntsAre vs (drawL ns i)) .nil ?_ ?_
  · clear lF' lN' hrg
    rintro i vs hi hvs v I oI C oC D m₂ h tk E' ⟨t, rfl⟩ hC hx F N off ne
    rw [Int.zero_add] at hx
    have mk9 := mark 15
    k_steps
    delta Stop
    refine int_item (hsub := by with_unfolding_all rfl) (ns := startL) (by is_list) (by repeat (first | exact .nil | refine .cons _ _ ?_)) hi (by decide) ?_
    intro t1
    clear mk9
    have mk8 := mark 23
    generalize hst : startL.getD i 0 = st0
    k_steps
    delta Stop
    (refine' kmk_slice3_lit ?zF ?zN ?zl ?zp ?zq ?zk ?z0 ?ze ?_ ?zs ?zt ?zz; (case zF => k_asm); (case zN => k_asm); (case zl => exact Fr.lst (by k_asm) (by assumption)); (case zp => kmk_part); (case zq => kmk_part); (case zk => kmk_part); (case z0 => decide); (case ze => exact rfl); (case zs => with_unfolding_all rfl); (case zt => kmk_pure); (case zz => assumption))
    intro D' h' F' N' l1
    clear l1
    clear mk8
    k_steps
    delta Stop
    rename Fr _ _ _ _ => lF'
    rename News _ _ _ _ => lN'
    refine sum_pick (vs := vsc) lF' lN' rfl (News.isList lN' (by k_mem)) hI ?_
    intro h' tk' t' F' N'
    k_steps
    refine LCg.CompEnd.intro (by assumption) (by assumption) _ (fun p hp => .tail _ hp) off trivial ⟨rfl, ?_⟩
    rw [drawL_succ, drawN, hst]
    exact hvs.append (.cons _ _ .nil)
  · rintro vd hvd
    delta LCg.FinA
    intro D2 h2 tk2 F2 N2 off2
    refine k _ _ D2 vd (At.mk F2 N2 ⟨rfl, trivial⟩ ?_) ?_ hvd
    · intro p hp
      rcases List.mem_cons.mp hp with rfl | hp
      · exact .head _
      · exact .tail _ (.tail _ (.tail _ (.tail _ hp)))
    · intro p hp
      exact off1_mem off2 p (.tail _ (.tail _ (.tail _ hp)))
end

theorem allLt_ne {D : Addr} : ∀ {l : List (Addr × Obj)}, AllLt D l → ∀ p ∈ l, p.1 ≠ D
  | [], _, _, h => nomatch h
  | _ :: _, x, p, h => by
    rcases List.mem_cons.mp h with rfl | h
    · exact Nat.ne_of_lt x.1
    · exact allLt_ne x.2 p h
theorem allLt_ne' {D : Addr} {l : List (Addr × Obj)} (h : AllLt D l) : ∀ p ∈ l, D ≠ p.1 := fun p hp => Ne.symm (allLt_ne h p hp)
noncomputable def figF (d : Int) : Int := if d.fmod 5 < 4 then ([0, 26, 1, 27] : List Int).getD (d.fmod 5).toNat 0 else (d.fdiv 5).fmod 64
theorem figF_in (d : Int) : 0 ≤ figF d ∧ figF d < 64 := by
  unfold figF
  rw [Int.fmod_eq_emod_of_nonneg _ (by decide), Int.fmod_eq_emod_of_nonneg _ (by decide)]
  split
  · have h0 : 0 ≤ d % 5 := Int.emod_nonneg _ (by decide)
    have : d % 5 = 0 ∨ d % 5 = 1 ∨ d % 5 = 2 ∨ d % 5 = 3 := by lia
    rcases this with h | h | h | h <;> rw [h] <;> decide
  · lia
noncomputable def LawW (m₀ : Str → Option Value) (lw : Addr) (rest : List (Addr × Obj)) (ds : List Int) (i : Nat) (m : Str → Option Value) (nx : List (Addr × Obj)) : Prop :=
  ∃ (vs : List Value) (n : Nat), nx = (lw, listOf vs.toArray n) :: rest ∧ IntsAre vs ((ds.take i).map figF) ∧ ∀ z, z ≠ Str.ofString "draw" → m z = m₀ z
theorem law_w_end {m₀ m' : Str → Option Value} {lw L : Addr} {rest own : List (Addr × Obj)} {ds : List Int} {i c tk : Nat} {vs : List Value} {h₀ h' : Heap} {s₁ : Shared} (F : Fr h₀ L h' m') (N : News h₀ L h' ((lw, listOf vs.toArray c) :: (rest ++ own)))
    (hv : IntsAre vs ((ds.take i).map figF)) (hm : ∀ z, z ≠ Str.ofString "draw" → m' z = m₀ z) : TEnd h₀ L (LawW m₀ lw rest ds i) own (lw :: rest.map (·.1)) s₁ { s₁ with heap := h', toks := tk } :=
  tend ((lw, listOf vs.toArray c) :: rest) F N rfl (fun p hp => by
    rcases List.mem_cons.mp hp with rfl | hp
    · exact .head _
    · exact .tail _ (List.mem_append_left _ hp)) (fun p hp => .tail _ (List.mem_append_right _ hp)) ⟨vs, c, rfl, hv, hm⟩
theorem rs_22_1 {M : Model} {A : Around} {Q : Value → Shared → Prop} {E : Value → Shared → Prop} {s : Shared} (h : wpAny M A (call .none [.none]) Q E s) : wpAny M A (call .none [.none]) Q E s := by first | (walk1; fail "") | exact h
section
variable {w : World} {loose : List Str} {mean : ExcName → Option Value} {mg mb : Str → Option Value} {h₀ : Heap} {L fa : Addr} {cd : Value} {xh : Heap} {xg : Array GenState} {xd : Drawn} {xt : Nat} {xo : OsState} {m : Str → Option Value} {Q : Flow → Shared → Prop} {E : Value → Shared → Prop}
theorem st_23 {ld : Addr} {vd : List Value} {ds : List Int} {cells : List (Addr × Obj)} (G : LG w loose mean mg mb h₀) (hE : PassesOwn (LM w) (LA L fa cd) (lawEnv L fa cd) E) (S : At h₀ L xh [(Str.ofString "draws", .ref ld)] ((ld, LCg.lst vd) :: cells)) (hc : ∀ p ∈ cells, p.1 ≠ ld) (hvd : IntsAre vd ds) (hdl : ds.length = 10)
    (k : ∀ h tk lw us c, At h₀ L h [(Str.ofString "word", .ref lw), (Str.ofString "draws", .ref ld)] ((lw, listOf us.toArray c) :: (ld, LCg.lst vd) :: cells) → (∀ p ∈ (ld, LCg.lst vd) :: cells, p.1 ≠ lw) → IntsAre us ((ds.take 4).map figF) → wpAny (LM w) (LA L fa cd) (execs (lawB.drop 4) (lawEnv L fa cd)) Q E ⟨h, xg, xd, tk, xo⟩) :
    wpAny (LM w) (LA L fa cd) (execs (lawB.drop 2) (lawEnv L fa cd)) Q E ⟨xh, xg, xd, xt, xo⟩ := by
  obtain ⟨K0, KX, T⟩ := G
  refine At.use S ?_
  clear S
  intro m₀ mq F N
  have e : lawB.drop 2 = lawSt 2 :: lawSt 3 :: lawB.drop 4 := rfl
  rw [e]
  clear e
  generalize lawB.drop 4 = rest at *
  conv in lawSt 2 => whnf
  conv in lawSt 3 => whnf
  have mkF := mark 19
  k_steps
  delta Stop
  rename Fr _ _ _ _ => lF'
  with_unfolding_all refine' For_invVF lF' ?k1 ?k2 ?_ (hE := hE)
  case k1 => exact rfl
  case k2 => exact rfl
  clear mkF
  k_steps
  delta Stop
  rename Fr _ _ _ _ => lF'
  rename News _ _ _ _ => lN'
  rename IntsAre _ (List.take 4 ds) => hw4
  rename (_ ∧ AllLt _ cells) => a1
  rename (_ ∧ _ ∧ AllLt _ cells) => a2
  have hn1 : ∀ p ∈ (ld, LCg.lst vd) :: cells, p.1 ≠ _ := fm_c (Nat.ne_of_lt a1.1) (allLt_ne a1.2)
  have hn2 := (fm_c (Nat.ne_of_lt a2.1) (fm_c (Nat.ne_of_lt a2.2.1) (allLt_ne a2.2.2)) : ∀ p ∈ (_, listOf #[] 0) :: (ld, LCg.lst vd) :: cells, p.1 ≠ _)
  refine iter_list_T (LawW _ _ ((ld, LCg.lst vd) :: cells) (ds.take 4)) (News.isList lN' (.head _)) rfl lF' (news_tail lN') hn2 (Ne.symm (lN' _ (.head _)).2.1) ⟨[], 0, rfl, .nil, fun _ _ => rfl⟩ ?turn ?done
  case turn =>
    clear lF' lN' hn2 a2
    rintro i v m₁ nx h tk own hv hoff ⟨vs, n, rfl, hvs, e1⟩ F₁ N₁
    obtain ⟨t, rfl⟩ := hw4.int_at i v hv
    have hlw := hw4.length
    have hlt : i < (ds.take 4).length := by
      have := (List.getElem?_eq_some_iff.mp hv).1
      lia
    have hlt' : i < 4 := by
      rw [List.length_take] at hlt; lia
    have hn : vs.length = i := by
      rw [hvs.length, List.length_map, List.length_take]; lia
    have hsucc : (List.take (i + 1) (ds.take 4)) = List.take i (ds.take 4) ++ [(ds.take 4).getD i 0] := by
      rw [List.take_add_one, List.getElem?_eq_getElem hlt, List.getD_eq_getElem?_getD, List.getElem?_eq_getElem hlt]; rfl
    generalize hd : (ds.take 4).getD i 0 = d at *
    have F₂ := fr_B [(Str.ofString "draw", Value.int d t), (Str.ofString "word", _)] (by
      simp only [List.forall_mem_cons, List.not_mem_nil, false_implies, implies_true, and_true]
      exact ⟨rfl, (e1 _ (by decide)).trans rfl⟩) (fun z hz => by
      simp only [List.forall_mem_cons, List.not_mem_nil, false_implies, implies_true, and_true] at hz
      simp only [hz.1, if_false]
      exact e1 z hz.1) F₁
    have hno : ∀ p ∈ (ld, LCg.lst vd) :: (cells ++ own), p.1 ≠ _ := fun p hp => by
      rw [← List.cons_append] at hp
      rcases List.mem_append.mp hp with hp | hp
      · exact hn1 p hp
      · exact OwnOff.ne hoff (.head _) p hp
    clear F₁ e1 hw4 hv hn1 a1 hoff
    simp only [List.cons_append, List.nil_append] at N₁
    change Fr _ L _ _ at F₂
    change News _ L _ _ at N₁
    k_steps
    all_goals (try simp only [List.push_toArray] at *)
    · refine law_w_end (by assumption) (news_tail (by assumption)) ?_ (fun z hz => by dsimp +zetaDelta only; simp only [kstB, hz, if_false]; split <;> (first | rfl | simp_all))
      rw [hsucc, List.map_append]
      refine hvs.append ?_
      rw [List.map_cons, figF, if_pos (by assumption)]
      exact .cons _ _ .nil
    · refine law_w_end (by assumption) (by assumption) ?_ (fun z hz => by dsimp +zetaDelta only; simp only [kstB, hz, if_false]; split <;> (first | rfl | simp_all))
      rw [hsucc, List.map_append]
      refine hvs.append ?_
      rw [List.map_cons, figF, if_neg (by assumption)]
      exact .cons _ _ .nil
  case done =>
    clear lF' lN' hn2 a2
    rintro m₁ nx h tk ⟨vs, n, rfl, hvs, e1⟩ F₁ N₁
    have hwl : (ds.take 4).length = 4 := by rw [List.length_take]; lia
    have hwl' := hw4.length
    rw [List.take_of_length_le (by lia)] at hvs
    refine k _ _ _ vs n (At.mk F₁ N₁ ⟨(e1 (Str.ofString "word") (by decide)).trans rfl, (e1 (Str.ofString "draws") (by decide)).trans rfl, trivial⟩ (fun p hp => hp)) hn1 hvs
end

theorem octB_ints {w0 w1 w2 w3 : Int} (h : 0 ≤ w0 ∧ w0 < 64 ∧ 0 ≤ w1 ∧ w1 < 64 ∧ 0 ≤ w2 ∧ w2 < 64 ∧ 0 ≤ w3 ∧ w3 < 64) : KBw.bInts (octB w0 w1 w2 w3) = [(octN w0 w1 w2 w3).fdiv 65536, ((octN w0 w1 w2 w3).fdiv 256).fmod 256, (octN w0 w1 w2 w3).fmod 256] := by
  have hin := octL_in h
  have key : ∀ l : List Int, (∀ n ∈ l, 0 ≤ n ∧ n < 256) → KBw.bInts (l.map fun n => n.toNat.toUInt8).toArray = l := by
    intro l
    induction l with
    | nil => intro _; rfl
    | cons a l ih =>
      intro hl
      have ha := hl a (.head _)
      have ih' := ih fun n hn => hl n (.tail _ hn)
      unfold KBw.bInts at *
      simp only [List.map_cons, List.cons.injEq] at ih' ⊢
      refine ⟨?_, by simpa using ih'⟩
      have : a.toNat.toUInt8.toNat = a.toNat := by
        show a.toNat % 256 = a.toNat
        omega
      rw [this]; omega
  exact key _ hin
theorem b64c_sign {i : Int} (h0 : 0 ≤ i) (h1 : i < 64) : b64c i = (signC i : Int) ∧ signC i < 128 := by
  have : ∀ k : Nat, k < 64 → b64c (k : Int) = (signC (k : Int) : Int) ∧ signC (k : Int) < 128 := by decide +kernel
  have := this i.toNat (by omega)
  rwa [Int.toNat_of_nonneg h0] at this
theorem enc_dig {w0 w1 w2 w3 x y z : Int} (h : 0 ≤ w0 ∧ w0 < 64 ∧ 0 ≤ w1 ∧ w1 < 64 ∧ 0 ≤ w2 ∧ w2 < 64 ∧ 0 ≤ w3 ∧ w3 < 64) (hx : x = w0 * 4 + w1 / 16) (hy : y = w1 % 16 * 16 + w2 / 4) (hz : z = w2 % 4 * 64 + w3) :
    lcN 0 x / 4 % 64 = w0 ∧ lcN (lcN 0 x) y / 16 % 64 = w1 ∧ lcN (lcN (lcN 0 x) y) z / 64 % 64 = w2 ∧ lcN (lcN (lcN 0 x) y) z / 1 % 64 = w3 := by
  obtain ⟨h0, h1, h2, h3, h4, h5, h6, h7⟩ := h
  obtain ⟨a, b, e1, e2, e3, a0, a1, b0, b1⟩ := halves (m := 4) (k := 16) (by decide) h2 h3
  obtain ⟨c, d, e4, e5, e6, c0, c1, d0, d1⟩ := halves (m := 16) (k := 4) (by decide) h4 h5
  rw [e2] at hx
  rw [e3, e5] at hy
  rw [e6] at hz
  have bx : 0 ≤ w0 * 4 + a ∧ w0 * 4 + a < 256 := pack h0 h1 a0 a1
  have bY : 0 ≤ b * 16 + c ∧ b * 16 + c < 256 := pack b0 b1 c0 c1
  have bz : 0 ≤ d * 64 + w3 ∧ d * 64 + w3 < 256 := pack d0 d1 h6 h7
  rw [← hx] at bx
  rw [← hy] at bY
  rw [← hz] at bz
  have p1 : 0 ≤ x * 256 + y ∧ x * 256 + y < 65536 := pack bx.1 bx.2 bY.1 bY.2
  have p2 : 0 ≤ y * 256 + z ∧ y * 256 + z < 65536 := pack bY.1 bY.2 bz.1 bz.2
  have n1 : lcN 0 x = x := by
    unfold lcN
    rw [Int.zero_mul, Int.zero_add, Int.emod_eq_of_lt bx.1 (Int.lt_trans bx.2 (by decide))]
  have n2 : lcN x y = x * 256 + y := Int.emod_eq_of_lt p1.1 p1.2
  have n3 : lcN (x * 256 + y) z = y * 256 + z := by
    unfold lcN
    rw [Int.add_mul, Int.mul_assoc, Int.add_assoc]
    exact (dv p2.1 p2.2).2
  have q2 : x * 256 + y = (w0 * 64 + w1) * 16 + c := by omega
  have q3 : y * 256 + z = (b * 64 + w2) * 64 + w3 := by omega
  rw [n1, n2, n3, q2, q3, hx, (dv a0 a1).1, (dv c0 c1).1, (dv h6 h7).1, Int.ediv_one, (dv h2 h3).2, (dv h4 h5).2, (dv h6 h7).2]
  exact ⟨Int.emod_eq_of_lt h0 h1, rfl, rfl, rfl⟩
theorem enc_row {w0 w1 w2 w3 : Int} (h : 0 ≤ w0 ∧ w0 < 64 ∧ 0 ≤ w1 ∧ w1 < 64 ∧ 0 ≤ w2 ∧ w2 < 64 ∧ 0 ≤ w3 ∧ w3 < 64) :
    byteArr (encL ((octN w0 w1 w2 w3).fdiv 65536) (((octN w0 w1 w2 w3).fdiv 256).fmod 256) ((octN w0 w1 w2 w3).fmod 256)) = (textOf [w0, w1, w2, w3]).cps.map (·.toUInt8) := by
  have hd := oct_dig h
  obtain ⟨q1, q2, q3, q4⟩ := enc_dig h (List.cons.inj hd).1 (List.cons.inj (List.cons.inj hd).2).1 rfl
  have q5 : (octN w0 w1 w2 w3).fmod 256 = w2 % 4 * 64 + w3 := (List.cons.inj (List.cons.inj (List.cons.inj hd).2).2).1
  have e : encL ((octN w0 w1 w2 w3).fdiv 65536) (((octN w0 w1 w2 w3).fdiv 256).fmod 256) ((octN w0 w1 w2 w3).fmod 256) = [b64c w0, b64c w1, b64c w2, b64c w3] := by
    unfold encL
    rw [q5, q1, q2, q3, q4]
  obtain ⟨h0, h1, h2, h3, h4, h5, h6, h7⟩ := h
  rw [e, (b64c_sign h0 h1).1, (b64c_sign h2 h3).1, (b64c_sign h4 h5).1, (b64c_sign h6 h7).1]
  simp [byteArr, textOf]
theorem ints_cons {vs : List Value} {a : Int} {ns : List Int} (h : IntsAre vs (a :: ns)) : ∃ t r, vs = .int a t :: r ∧ IntsAre r ns := by
  cases h with
  | cons _ t r => exact ⟨t, _, rfl, r⟩
theorem ints_nil {vs : List Value} (h : IntsAre vs []) : vs = [] := by cases h; rfl
theorem ints4 {vs : List Value} {a b c d : Int} (h : IntsAre vs [a, b, c, d]) : ∃ t0 t1 t2 t3, vs = [.int a t0, .int b t1, .int c t2, .int d t3] :=
  let ⟨t0, _, e0, h0⟩ := ints_cons h
  let ⟨t1, _, e1, h1⟩ := ints_cons h0
  let ⟨t2, _, e2, h2⟩ := ints_cons h1
  let ⟨t3, _, e3, h3⟩ := ints_cons h2
  ⟨t0, t1, t2, t3, by rw [e0, e1, e2, e3, ints_nil h3]⟩
theorem signC_lt {n : Int} (h : 0 ≤ n ∧ n < 68) : signC n < 128 ∧ signC n ≠ 61 := by
  have : ∀ k : Nat, k < 68 → signC (k : Int) < 128 ∧ signC (k : Int) ≠ 61 := by decide +kernel
  have := this n.toNat (by omega)
  rwa [Int.toNat_of_nonneg h.1] at this
theorem textOf_lt {ns : List Int} (h : ∀ n ∈ ns, 0 ≤ n ∧ n < 68) : ∀ c ∈ (textOf ns).cps.toList, c < 128 := by
  intro c hc
  simp only [textOf, List.mem_map] at hc
  obtain ⟨n, hn, rfl⟩ := hc
  exact (signC_lt (h n hn)).1
theorem textOf_len (ns : List Int) : (textOf ns).length = ns.length := by simp [textOf, Str.length]
structure Word4 (w0 w1 w2 w3 : Int) : Prop where
  h : 0 ≤ w0 ∧ w0 < 64 ∧ 0 ≤ w1 ∧ w1 < 64 ∧ 0 ≤ w2 ∧ w2 < 64 ∧ 0 ≤ w3 ∧ w3 < 64
theorem Word4.all {w0 w1 w2 w3 : Int} (W : Word4 w0 w1 w2 w3) : ∀ n ∈ [w0, w1, w2, w3], 0 ≤ n ∧ n < 68 := by
  obtain ⟨h0, h1, h2, h3, h4, h5, h6, h7⟩ := W.h
  have k : ∀ {x : Int}, 0 ≤ x → x < 64 → 0 ≤ x ∧ x < 68 := fun a b => ⟨a, Int.lt_trans b (by decide)⟩
  exact fm_c (k h0 h1) (fm_c (k h2 h3) (fm_c (k h4 h5) (fm_c (k h6 h7) (List.forall_mem_nil _))))
theorem rs_23_1 {M : Model} {A : Around} {Q : Value → Shared → Prop} {E : Value → Shared → Prop} {s : Shared} (h : wpAny M A (call .none [.none]) Q E s) : wpAny M A (call .none [.none]) Q E s := by first | (walk1; fail "") | exact h
section
variable {w : World} {loose : List Str} {mean : ExcName → Option Value} {mg mb : Str → Option Value} {h₀ : Heap} {L fa : Addr} {cd : Value} {xh : Heap} {xg : Array GenState} {xd : Drawn} {xt : Nat} {xo : OsState} {m : Str → Option Value} {Q : Flow → Shared → Prop} {E : Value → Shared → Prop}
theorem st_456 {lw ld : Addr} {n : Nat} {t0 t1 t2 t3 : Tok} {w0 w1 w2 w3 : Int} {rest : List (Addr × Obj)} (G : LG w loose mean mg mb h₀) (W : Word4 w0 w1 w2 w3)
    (S : At h₀ L xh [(Str.ofString "word", .ref lw), (Str.ofString "draws", .ref ld)] ((lw, listOf #[.int w0 t0, .int w1 t1, .int w2 t2, .int w3 t3] n) :: rest))
    (k : ∀ h tk tr, At h₀ L h [(Str.ofString "word", .ref lw), (Str.ofString "draws", .ref ld), (Str.ofString "row", .bytes (octB w0 w1 w2 w3) tr)] ((lw, listOf #[.int w0 t0, .int w1 t1, .int w2 t2, .int w3 t3] n) :: rest) →
      wpAny (LM w) (LA L fa cd) (execs (lawB.drop 7) (lawEnv L fa cd)) Q E ⟨h, xg, xd, tk, xo⟩) :
    wpAny (LM w) (LA L fa cd) (execs (lawB.drop 4) (lawEnv L fa cd)) Q E ⟨xh, xg, xd, xt, xo⟩ := by
  refine At.use S ?_
  clear S
  intro m₀ mq F N
  have K0 := G.K0
  have KX := G.KX
  have T := G.T
  have e : lawB.drop 4 = lawSt 4 :: lawSt 5 :: lawSt 6 :: lawB.drop 7 := rfl
  rw [e]
  clear e
  generalize lawB.drop 7 = rst at *
  conv in lawSt 4 => whnf
  conv in lawSt 5 => whnf
  conv in lawSt 6 => whnf
  have hbi := octB_ints W.h
  k_steps
  delta Stop
  refine call_CV octets_spec G ‹_› ‹_› ⟨by is_list, W.h⟩ (by decide) ?_
  intro t h tk F N
  k_steps
  delta Stop
  refine call_CV (b64encode_spec hbi) G ‹_› ‹_› trivial (by decide) ?_
  intro t h tk F N
  rw [enc_row W.h]
  have mkT := mark 26
  have mkG := mark 27
  have mkE := mark 28
  k_steps
  delta Stop
  refine type_bytes ?_
  k_steps
  delta Stop
  refine call_CV (text_spec (ns := [w0, w1, w2, w3])) G ‹_› ‹_› ⟨by is_list, .cons _ _ (.cons _ _ (.cons _ _ (.cons _ _ .nil))), W.all, by simp⟩ (by decide) ?_
  intro t h tk F N
  have hc1 := textOf_lt W.all
  have hc2 : (textOf [w0, w1, w2, w3]).length ≤ 64 := by rw [textOf_len]; simp
  k_steps
  delta Stop
  refine gm_encode ?_
  k_steps
  delta Stop
  refine encode_call hc1 hc2 ?_
  k_steps
  · exact absurd ‹(_ != _) = true› (by simp)
  · exact k _ _ _ (At.mk F N ⟨rfl, rfl, rfl, trivial⟩ (fun p hp => hp))
end

theorem int_at {prog : Program} {w : World} {A : Around} {E : Value → Shared → Prop} {xh : Heap} {xg : Array GenState} {xd : Drawn} {xt : Nat} {xo : OsState} {value slice : PySem.Expr} {l : Addr} {vs : List Value} {ns : List Int} {k : Int} {u : Tok} {Q : Value → Shared → Prop} (n : Nat) (e : k = (n : Int))
    (hl : xh.IsList l vs.toArray) (hs : IntsAre vs ns) (hk : n < ns.length) (hz : ns.length ≤ 64) (h : ∀ t, Q (.int (ns.getD n 0) t) ⟨xh, xg, xd, xt, xo⟩)
    (hsub : subscripted slice false (.ref l) (.int k u) = operate [.ref l, .int k u] (getItem (.ref l) (.int k u))) :
    wpAny (model prog w) A (subscriptTail value slice (.ref l) (.int k u)) Q E ⟨xh, xg, xd, xt, xo⟩ := by
  subst e
  exact int_item hl hs hk hz h hsub
noncomputable def arrB : List Stmt := stmtBody (lawSt 8)
noncomputable def arrSt (n : Nat) : Stmt := arrB.getD n (.Pass ⟨0, 0, 0, 0⟩)
noncomputable def signF (d : Int) : Int := if d.fmod 6 < 4 then ([0, 26, 1, 27] : List Int).getD (d.fmod 6).toNat 0 else if d.fmod 6 = 4 then (d.fdiv 6).fmod 64 else 64 + (d.fdiv 6).fmod 4
theorem signF_in (d : Int) : 0 ≤ signF d ∧ signF d < 68 := by
  unfold signF
  rw [Int.fmod_eq_emod_of_nonneg _ (by decide), Int.fmod_eq_emod_of_nonneg _ (by decide), Int.fmod_eq_emod_of_nonneg _ (by decide)]
  split
  · have h0 : 0 ≤ d % 6 := Int.emod_nonneg _ (by decide)
    have : d % 6 = 0 ∨ d % 6 = 1 ∨ d % 6 = 2 ∨ d % 6 = 3 := by lia
    rcases this with h | h | h | h <;> rw [h] <;> decide
  · split <;> lia
noncomputable def SignJ (d : Int) (news : List (Addr × Obj)) (m₀ : Str → Option Value) (m : Str → Option Value) (nx : List (Addr × Obj)) : Prop :=
  nx = news ∧ ∃ t, m = fun y => if y = Str.ofString "sign" then some (.int (signF d) t) else m₀ y
theorem rs_24_1 {M : Model} {A : Around} {Q : Value → Shared → Prop} {E : Value → Shared → Prop} {s : Shared} (h : wpAny M A (call .none [.none]) Q E s) : wpAny M A (call .none [.none]) Q E s := by first | (walk1; fail "") | exact h
section
variable {w : World} {loose : List Str} {mean : ExcName → Option Value} {mg mb : Str → Option Value} {h₀ : Heap} {L fa : Addr} {cd : Value} {xh : Heap} {xg : Array GenState} {xd : Drawn} {xt : Nat} {xo : OsState} {m : Str → Option Value} {Q : Flow → Shared → Prop} {E : Value → Shared → Prop}
theorem arr_0 {ld : Addr} {vd : List Value} {ds : List Int} {kk : Nat} {tk0 : Tok} {lw : Addr} {row : Value} {rest : List (Addr × Obj)} (G : LG w loose mean mg mb h₀) (hvd : IntsAre vd ds) (hdl : ds.length = 10) (hkk : kk + 1 < 10)
    (S : At h₀ L xh [(Str.ofString "k", .int (kk : Int) tk0), (Str.ofString "word", .ref lw), (Str.ofString "draws", .ref ld), (Str.ofString "row", row)] ((ld, LCg.lst vd) :: rest))
    (k : ∀ h tk tp td, At h₀ L h [(Str.ofString "place", .int ((ds.getD kk 0).fmod 5) tp), (Str.ofString "draw", .int (ds.getD (kk + 1) 0) td), (Str.ofString "word", .ref lw), (Str.ofString "draws", .ref ld), (Str.ofString "row", row)] ((ld, LCg.lst vd) :: rest) →
      Q .next ⟨h, xg, xd, tk, xo⟩) :
    wpAny (LM w) (LA L fa cd) (exec (arrSt 0) (lawEnv L fa cd)) Q E ⟨xh, xg, xd, xt, xo⟩ := by
  refine At.use S ?_
  clear S
  intro m₀ mq F N
  have K0 := G.K0
  have KX := G.KX
  have T := G.T
  conv in arrSt 0 => whnf
  have mk1 := mark 15
  have mk2 := mark 16
  k_steps
  delta Stop
  refine int_at (hsub := by with_unfolding_all rfl) (ns := ds) kk rfl (by is_list) hvd (by lia) (by lia) ?_
  intro t
  k_steps
  delta Stop
  refine int_at (hsub := by with_unfolding_all rfl) (ns := ds) (kk + 1) (by lia) (by is_list) hvd (by lia) (by lia) ?_
  intro t
  k_steps
  rename Fr _ _ _ _ => F'
  rename News _ _ _ _ => N'
  exact k _ _ _ _ (At.mk F' N' ⟨rfl, rfl, rfl, rfl, rfl, trivial⟩ (fun p hp => .tail _ hp))
theorem arr_1 {d : Int} {td : Tok} {rest : List (Addr × Obj)} {ps : List (Str × Value)} {m₀ : Str → Option Value} (G : LG w loose mean mg mb h₀) (F : Fr h₀ L xh (kstB m₀ ((Str.ofString "draw", .int d td) :: ps))) (N : News h₀ L xh rest)
    (k : ∀ h tk g t, g = signF d → Fr h₀ L h (fun y => if y = Str.ofString "sign" then some (.int g t) else kstB m₀ ((Str.ofString "draw", .int d td) :: ps) y) → News h₀ L h rest → Q .next ⟨h, xg, xd, tk, xo⟩) :
    wpAny (LM w) (LA L fa cd) (exec (arrSt 1) (lawEnv L fa cd)) Q E ⟨xh, xg, xd, xt, xo⟩ := by
  have K0 := G.K0
  have KX := G.KX
  have T := G.T
  conv in arrSt 1 => whnf
  k_steps
  all_goals
    rename Fr _ _ _ _ => F'
    rename News _ _ _ _ => N'
  · exact k _ _ _ _ (by unfold signF; rw [if_pos ‹_›]) F' (news_tail N')
  · exact k _ _ _ _ (by unfold signF; rw [if_neg ‹_›, if_pos ‹_›]) F' N'
  · exact k _ _ _ _ (by unfold signF; rw [if_neg ‹_›, if_neg ‹_›]) F' N'
noncomputable def putIn (w0 w1 w2 w3 : Int) (p : Nat) (gs : List Int) : List Int := [w0, w1, w2, w3].take p ++ gs ++ [w0, w1, w2, w3].drop p
end
theorem rs_24_2 {M : Model} {A : Around} {Q : Value → Shared → Prop} {E : Value → Shared → Prop} {s : Shared} (h : wpAny M A (call .none [.none]) Q E s) : wpAny M A (call .none [.none]) Q E s := by first | (walk1; fail "") | exact h
section
variable {w : World} {loose : List Str} {mean : ExcName → Option Value} {mg mb : Str → Option Value} {h₀ : Heap} {L fa : Addr} {cd : Value} {xh : Heap} {xg : Array GenState} {xd : Drawn} {xt : Nat} {xo : OsState} {m : Str → Option Value} {Q : Flow → Shared → Prop} {E : Value → Shared → Prop}
theorem arr_2 {lw la : Addr} {c2 : Obj} {n c p : Nat} {t0 t1 t2 t3 : Tok} {w0 w1 w2 w3 : Int} {tp tg : Tok} {g : Int} {row dv : Value} {va : List Value} {rest : List (Addr × Obj)} {m₀ : Str → Option Value} (G : LG w loose mean mg mb h₀) (hp : p < 5) (hva : va.length < 3) (hc2 : c2.data = .cell (some (.ref la)))
    (F : Fr h₀ L xh (kstB m₀ [(Str.ofString "place", .int (p : Int) tp), (Str.ofString "sign", .int g tg), (Str.ofString "word", .ref lw), (Str.ofString "row", row), (Str.ofString "draws", dv)]))
    (N : News h₀ L xh ((la, listOf va.toArray c) :: (L + 1 + 1 + 1, c2) :: (lw, listOf #[.int w0 t0, .int w1 t1, .int w2 t2, .int w3 t3] n) :: rest)) (hla : ∀ q ∈ (L + 1 + 1 + 1, c2) :: (lw, listOf #[.int w0 t0, .int w1 t1, .int w2 t2, .int w3 t3] n) :: rest, q.1 ≠ la)
    (k : ∀ h tk a us, Fr h₀ L h (kstB m₀ [(Str.ofString "place", .int (p : Int) tp), (Str.ofString "sign", .int g tg), (Str.ofString "word", .ref lw), (Str.ofString "row", row), (Str.ofString "draws", dv)]) →
      News h₀ L h ((la, listOf (va ++ [Value.ref a]).toArray (c + 1)) :: (a, listOf us.toArray 0) :: (L + 1 + 1 + 1, c2) :: (lw, listOf #[.int w0 t0, .int w1 t1, .int w2 t2, .int w3 t3] n) :: rest) →
      (∀ q ∈ (la, listOf va.toArray c) :: (L + 1 + 1 + 1, c2) :: (lw, listOf #[.int w0 t0, .int w1 t1, .int w2 t2, .int w3 t3] n) :: rest, q.1 ≠ a) → IntsAre us (putIn w0 w1 w2 w3 p [g]) → Q .next ⟨h, xg, xd, tk, xo⟩) :
    wpAny (LM w) (LA L fa cd) (exec (arrSt 2) (lawEnv L fa cd)) Q E ⟨xh, xg, xd, xt, xo⟩ := by
  have K0 := G.K0
  have KX := G.KX
  have T := G.T
  conv in arrSt 2 => whnf
  have hw : IntsAre [.int w0 t0, .int w1 t1, .int w2 t2, .int w3 t3] [w0, w1, w2, w3] := .cons _ _ (.cons _ _ (.cons _ _ (.cons _ _ .nil)))
  have mk1 := mark 23
  k_steps
  iterate 2 (delta Stop; (with_reducible show wpAny _ _ (subscriptTail _ (PySem.Expr.Slice _ _ none _) (Value.ref _) (Value.ref _)) _ _ _); k_dflt (((refine' kmk_slice_ints ?zF ?zN ?zl ?zp ?zq ?zi ?zm ?zc ?_ ?zs ?zt ?zz; (case zF => k_asm); (case zN => k_asm); (case zl => kmk_list); (case zp => kmk_part); (case zq => kmk_part); (case zi => assumption); (case zm => with_reducible first | exact kmk_from (by assumption) (by lia) | exact kmk_upto (by assumption) (by lia) | exact kmk_run (by assumption) (by lia) (by lia)); (case zc => exact rfl); (case zs => with_unfolding_all rfl); (case zt => kmk_pure); (case zz => kmk_size)))); intro D' ws' h' F' N' l1 hI' hC' hL'; (try k_lt l1); k_steps)
  rename Fr _ _ _ _ => F'
  rename News _ _ _ _ => N'
  rename IntsAre _ (_ ++ [g] ++ _) => hI
  rename (_ ∧ _ ∧ _ ∧ _ ∧ _ ∧ _ ∧ _ ∧ AllLt _ rest) => l1
  obtain ⟨_, _, _, _, a1, a2, a3, a4⟩ := l1
  simp only [List.push_toArray] at N'
  have hne := (fm_c (Nat.ne_of_lt a1) (fm_c (Nat.ne_of_lt a2) (fm_c (Nat.ne_of_lt a3) (allLt_ne a4))) : ∀ q ∈ (la, listOf va.toArray c) :: (L + 1 + 1 + 1, c2) :: (lw, listOf #[.int w0 t0, .int w1 t1, .int w2 t2, .int w3 t3] n) :: rest, q.1 ≠ _)
  have hm := news_sub (nx := (la, listOf (va ++ [Value.ref _]).toArray (c + 1)) :: (_, listOf _ 0) :: (L + 1 + 1 + 1, c2) :: (lw, listOf #[.int w0 t0, .int w1 t1, .int w2 t2, .int w3 t3] n) :: rest) N' (fm_c (.tail _ (.tail _ (.tail _ (.tail _ (.tail _ (.head _)))))) (fm_c (.head _) (fun q hq => .tail _ (.tail _ (.tail _ (.tail _ (.tail _ (.tail _ hq))))))))
  exact k _ _ _ _ F' hm hne hI
end

noncomputable def figStep (st : A2S) (n : Int) : A2S :=
  if st.2.1 = 0 then (st.1, 1, n)
  else if st.2.1 = 1 then (st.1 ++ [st.2.2 * 4 + n / 16], 2, n % 16)
  else if st.2.1 = 2 then (st.1 ++ [st.2.2 * 16 + n / 4], 3, n % 4)
  else (st.1 ++ [st.2.2 * 64 + n], 0, 0)
theorem bval_sign {n : Int} (h : 0 ≤ n ∧ n < 68) : bval (signC n : Int) = if n < 64 then n else 64 := by
  have : ∀ k : Nat, k < 68 → bval (signC (k : Int) : Int) = if (k : Int) < 64 then (k : Int) else 64 := by decide +kernel
  have := this n.toNat (by omega)
  rwa [Int.toNat_of_nonneg h.1] at this
theorem codes_text (ns : List Int) : codesI (textOf ns) = ns.map fun n => (signC n : Int) := by
  simp [codesI, textOf, List.map_map, Function.comp_def]
theorem codes_ne {ns : List Int} (h : ∀ n ∈ ns, 0 ≤ n ∧ n < 68) : ∀ c ∈ codesI (textOf ns), c ≠ 61 := by
  intro c hc
  rw [codes_text] at hc
  obtain ⟨n, hn, rfl⟩ := List.mem_map.mp hc
  have := (signC_lt (h n hn)).2
  omega
theorem a2b_figs {ns : List Int} (h : ∀ n ∈ ns, 0 ≤ n ∧ n < 68) : a2bF (codesI (textOf ns)) = (ns.filter (fun n => decide (n < 64))).foldl figStep ([], 0, 0) := by
  rw [codes_text]
  unfold a2bF
  generalize (([], 0, 0) : A2S) = st
  induction ns generalizing st with
  | nil => rfl
  | cons n ns ih =>
    have hn := h n (.head _)
    have hb := bval_sign hn
    rw [List.map_cons, List.foldl_cons, ih (fun m hm => h m (.tail _ hm))]
    by_cases h64 : n < 64
    · rw [if_pos h64] at hb
      rw [List.filter_cons_of_pos (by simpa using h64), List.foldl_cons]
      congr 1
      unfold a2bStep figStep
      rw [hb, if_neg (by omega)]
    · rw [if_neg h64] at hb
      rw [List.filter_cons_of_neg (by simpa using h64)]
      congr 1
      unfold a2bStep
      rw [hb, if_pos (by omega)]
theorem good_figs {ns : List Int} {strict : Bool} (h : ∀ n ∈ ns, 0 ≤ n ∧ n < 68) : A2Good strict (codesI (textOf ns)) ↔ ((strict = true → ∀ n ∈ ns, n < 64) ∧ (((ns.filter (fun n => decide (n < 64))).foldl figStep ([], 0, 0)).2.1 = 0)) := by
  unfold A2Good
  rw [a2b_figs h]
  refine and_congr (imp_congr Iff.rfl ?_) Iff.rfl
  rw [codes_text]
  constructor
  · intro hc n hn
    have := hc _ (List.mem_map.mpr ⟨n, hn, rfl⟩)
    rw [bval_sign (h n hn)] at this
    split at this <;> omega
  · intro hc c hm
    obtain ⟨n, hn, rfl⟩ := List.mem_map.mp hm
    have := hc n hn
    rw [bval_sign (h n hn), if_pos this]; exact this
theorem quad {out : List Int} {a b c d : Int} (_h : Word4 a b c d) : [a, b, c, d].foldl figStep (out, 0, 0) = (out ++ [a * 4 + b / 16, b % 16 * 16 + c / 4, c % 4 * 64 + d], 0, 0) := by
  simp [figStep]
theorem octL_quad {a b c d : Int} (h : Word4 a b c d) : [a * 4 + b / 16, b % 16 * 16 + c / 4, c % 4 * 64 + d] = octL a b c d := (oct_dig h.h).symm
theorem quad' {out : List Int} {a b c d : Int} (h : Word4 a b c d) : [a, b, c, d].foldl figStep (out, 0, 0) = (out ++ octL a b c d, 0, 0) := by rw [quad h, octL_quad h]
theorem byteArr_app (x y : List Int) : byteArr (x ++ y) = byteArr x ++ byteArr y := by simp [byteArr]
theorem byteArr_oct (a b c d : Int) : byteArr (octL a b c d) = octB a b c d := rfl
theorem rs_245_1 {M : Model} {A : Around} {Q : Value → Shared → Prop} {E : Value → Shared → Prop} {s : Shared} (h : wpAny M A (call .none [.none]) Q E s) : wpAny M A (call .none [.none]) Q E s := by first | (walk1; fail "") | exact h
section
variable {w0 w1 w2 w3 g : Int} {p : Nat}
theorem putIn_all {gs : List Int} (W : Word4 w0 w1 w2 w3) (hg : ∀ x ∈ gs, 0 ≤ x ∧ x < 68) : ∀ n ∈ putIn w0 w1 w2 w3 p gs, 0 ≤ n ∧ n < 68 := by
  intro n hn
  unfold putIn at hn
  rcases List.mem_append.mp hn with hn | hn
  · rcases List.mem_append.mp hn with hn | hn
    · exact W.all n (List.mem_of_mem_take hn)
    · exact hg n hn
  · exact W.all n (List.mem_of_mem_drop hn)
theorem putIn_len {gs : List Int} : (putIn w0 w1 w2 w3 p gs).length = 4 + gs.length := by
  unfold putIn
  rw [List.length_append, List.length_append, Nat.add_right_comm, ← List.length_append, List.take_append_drop]
  rfl
theorem word_lt (W : Word4 w0 w1 w2 w3) : ∀ n ∈ [w0, w1, w2, w3], n < 64 := by
  obtain ⟨h0, h1, h2, h3, h4, h5, h6, h7⟩ := W.h
  exact fm_c h1 (fm_c h3 (fm_c h5 (fm_c h7 (List.forall_mem_nil _))))
theorem putIn_filter {gs : List Int} (W : Word4 w0 w1 w2 w3) (hg : ∀ x ∈ gs, 63 < x) : (putIn w0 w1 w2 w3 p gs).filter (fun n => decide (n < 64)) = [w0, w1, w2, w3] := by
  unfold putIn
  rw [List.filter_append, List.filter_append]
  have e1 : gs.filter (fun n => decide (n < 64)) = [] := by
    rw [List.filter_eq_nil_iff]
    intro x hx
    have := hg x hx
    simp only [decide_eq_true_eq]; omega
  have e2 : ([w0, w1, w2, w3].take p).filter (fun n => decide (n < 64)) = [w0, w1, w2, w3].take p := by
    rw [List.filter_eq_self]
    intro x hx
    simpa using word_lt W x (List.mem_of_mem_take hx)
  have e3 : ([w0, w1, w2, w3].drop p).filter (fun n => decide (n < 64)) = [w0, w1, w2, w3].drop p := by
    rw [List.filter_eq_self]
    intro x hx
    simpa using word_lt W x (List.mem_of_mem_drop hx)
  rw [e1, e2, e3, List.append_nil, List.take_append_drop]
theorem putIn_filter_all {gs : List Int} (W : Word4 w0 w1 w2 w3) (hg : ∀ x ∈ gs, x < 64) : (putIn w0 w1 w2 w3 p gs).filter (fun n => decide (n < 64)) = putIn w0 w1 w2 w3 p gs := by
  rw [List.filter_eq_self]
  intro n hn
  unfold putIn at hn
  simp only [decide_eq_true_eq]
  rcases List.mem_append.mp hn with hn | hn
  · rcases List.mem_append.mp hn with hn | hn
    · exact word_lt W n (List.mem_of_mem_take hn)
    · exact hg n hn
  · exact word_lt W n (List.mem_of_mem_drop hn)
theorem read5 (W : Word4 w0 w1 w2 w3) (hg : 0 ≤ g ∧ g < 68) : (A2Good false (codesI (textOf (putIn w0 w1 w2 w3 p [g]))) ↔ 63 < g) ∧ (63 < g → byteArr (a2bF (codesI (textOf (putIn w0 w1 w2 w3 p [g])))).1 = octB w0 w1 w2 w3) := by
  have ha := putIn_all (p := p) W (gs := [g]) (by simpa using hg)
  rw [good_figs ha, a2b_figs ha]
  by_cases h : 63 < g
  · rw [putIn_filter W (by simpa using h), quad' W]
    simp [h, byteArr_oct]
  · rw [putIn_filter_all W (fm_c (Int.lt_add_one_of_le (Int.not_lt.mp h)) (List.forall_mem_nil _))]
    have hl : (putIn w0 w1 w2 w3 p [g]).length = 5 := putIn_len
    match hq : putIn w0 w1 w2 w3 p [g], hl with
    | [a, b, c, d, e], _ =>
      simp [figStep, h]
theorem read5s (W : Word4 w0 w1 w2 w3) (hg : 0 ≤ g ∧ g < 68) : ¬ A2Good true (codesI (textOf (putIn w0 w1 w2 w3 p [g]))) := by
  have ha := putIn_all (p := p) W (gs := [g]) (by simpa using hg)
  rw [good_figs ha]
  rintro ⟨h1, h2⟩
  have h64 : ∀ n ∈ putIn w0 w1 w2 w3 p [g], n < 64 := h1 rfl
  have hf : (putIn w0 w1 w2 w3 p [g]).filter (fun n => decide (n < 64)) = putIn w0 w1 w2 w3 p [g] := by
    rw [List.filter_eq_self]
    intro x hx
    simpa using h64 x hx
  rw [hf] at h2
  have hl : (putIn w0 w1 w2 w3 p [g]).length = 5 := putIn_len
  revert h2
  match hq : putIn w0 w1 w2 w3 p [g], hl with
  | [a, b, c, d, e], _ =>
    simp [figStep]
theorem read8 (W : Word4 w0 w1 w2 w3) (hg : 0 ≤ g ∧ g < 68) (strict : Bool) {e0 e1 e2 e3 e4 e5 e6 e7 : Int} (he : putIn w0 w1 w2 w3 p [g, g, g, g] = [e0, e1, e2, e3, e4, e5, e6, e7]) :
    (A2Good strict (codesI (textOf (putIn w0 w1 w2 w3 p [g, g, g, g]))) ↔ ¬ (strict = true ∧ 63 < g)) ∧
    ((63 < g → byteArr (a2bF (codesI (textOf (putIn w0 w1 w2 w3 p [g, g, g, g])))).1 = octB w0 w1 w2 w3) ∧ (¬ 63 < g → Word4 e0 e1 e2 e3 ∧ Word4 e4 e5 e6 e7 ∧ byteArr (a2bF (codesI (textOf (putIn w0 w1 w2 w3 p [g, g, g, g])))).1 = octB e0 e1 e2 e3 ++ octB e4 e5 e6 e7)) := by
  have ha := putIn_all (p := p) W (gs := [g, g, g, g]) (by simpa using hg)
  rw [good_figs ha, a2b_figs ha]
  by_cases h : 63 < g
  · rw [putIn_filter W (by simpa using h), quad' W]
    refine ⟨?_, fun _ => rfl, fun hn => absurd h hn⟩
    cases strict with
    | false => simp
    | true =>
      simp only [true_and, h, not_true_eq_false, iff_false, and_true, forall_const]
      intro hc
      have := hc g (by simp [putIn])
      omega
  · have hf := putIn_filter_all (p := p) W (gs := [g, g, g, g]) (fm_c (Int.lt_add_one_of_le (Int.not_lt.mp h)) (fm_c (Int.lt_add_one_of_le (Int.not_lt.mp h)) (fm_c (Int.lt_add_one_of_le (Int.not_lt.mp h)) (fm_c (Int.lt_add_one_of_le (Int.not_lt.mp h)) (List.forall_mem_nil _)))))
    have h64 : ∀ n ∈ putIn w0 w1 w2 w3 p [g, g, g, g], n < 64 := fun n hn => by
      rw [← hf] at hn
      simpa using (List.mem_filter.mp hn).2
    rw [hf]
    have ha' := ha
    rw [he] at ha' h64 ⊢
    have W1 : Word4 e0 e1 e2 e3 := ⟨(ha' _ mem0).1, h64 _ mem0, (ha' _ mem1).1, h64 _ mem1, (ha' _ mem2).1, h64 _ mem2, (ha' _ mem3).1, h64 _ mem3⟩
    have W2 : Word4 e4 e5 e6 e7 := ⟨(ha' _ mem4).1, h64 _ mem4, (ha' _ mem5).1, h64 _ mem5, (ha' _ mem6).1, h64 _ mem6, (ha' _ mem7).1, h64 _ mem7⟩
    have e : [e0, e1, e2, e3, e4, e5, e6, e7].foldl figStep ([], 0, 0) = (octL e0 e1 e2 e3 ++ octL e4 e5 e6 e7, 0, 0) := by
      show [e4, e5, e6, e7].foldl figStep ([e0, e1, e2, e3].foldl figStep ([], 0, 0)) = _
      rw [quad' W1, quad' W2]; simp
    rw [e]
    refine ⟨?_, fun hn => absurd hn h, fun _ => ⟨W1, W2, byteArr_app _ _⟩⟩
    simp only [h, and_false, not_false_eq_true, iff_true, and_true]
    intro _
    exact h64
end

theorem min_ge {z a b c : Int} (h1 : z ≤ a + c) (h2 : z ≤ b + c) : z ≤ min a b + c := by rw [Int.min_def]; split <;> assumption
theorem min_ge2 {z a b c d : Int} (h1 : z ≤ a + c + d) (h2 : z ≤ b + c + d) : z ≤ min a b + c + d := by rw [Int.min_def]; split <;> assumption
theorem le_mm {z A B C s : Int} (h1 : z ≤ A + 2) (h2 : z ≤ B + 2) (h3 : z ≤ C + s) : z ≤ min (min A B + 2) (C + s) := Int.le_min.mpr ⟨min_ge h1 h2, h3⟩
theorem le_two (a : Int) : a ≤ a + 2 := Int.le_add_of_nonneg_right (by decide)
theorem ed_nil (ys : List Nat) : ed [] ys = 2 * (ys.length : Int) := by simp [ed]
theorem ed_cons (x y : Nat) (u v : List Nat) : ed (x :: u) (y :: v) = min (min (ed u (y :: v)) (ed (x :: u) v) + 2) (ed u v + sc x y) := by rw [ed]
theorem sc_self (c : Nat) : sc c c = 0 := by simp [sc]
theorem sc_comm (c d : Nat) : sc c d = sc d c := by
  unfold sc
  by_cases h : c = d
  · subst h; rfl
  · rw [if_neg h, if_neg (Ne.symm h)]
    by_cases h2 : lo1 c = lo1 d
    · rw [if_pos h2, if_pos h2.symm]
    · rw [if_neg h2, if_neg (Ne.symm h2)]
theorem ed_x (x : Nat) (u : List Nat) : ∀ v : List Nat, ed (x :: u) v ≤ ed u v + 2
  | [] => by rw [ed_nil_r, ed_nil_r]; simp only [List.length_cons]; lia
  | y :: v => by rw [ed_cons]; exact Int.le_trans (Int.min_le_left _ _) (Int.add_le_add_right (Int.min_le_left _ _) 2)
theorem ed_y (y : Nat) : ∀ u v : List Nat, ed u (y :: v) ≤ ed u v + 2
  | [], v => by rw [ed_nil, ed_nil]; simp only [List.length_cons]; lia
  | x :: u, v => by rw [ed_cons]; exact Int.le_trans (Int.min_le_left _ _) (Int.add_le_add_right (Int.min_le_right _ _) 2)
theorem ed_y' (y : Nat) : ∀ u v : List Nat, ed u v ≤ ed u (y :: v) + 2
  | [], v => by rw [ed_nil, ed_nil]; simp only [List.length_cons]; lia
  | x :: u, v => by
    have h1 := ed_y' y u v
    have h2 := ed_x x u v
    have h3 := sc_in x y
    rw [ed_cons]
    exact min_ge (min_ge2 (Int.le_trans h2 (Int.add_le_add_right h1 2)) (Int.le_trans (le_two _) (le_two _))) (Int.le_trans h2 (Int.add_le_add_right (Int.le_add_of_nonneg_right h3.1) 2))
theorem ed_comm : ∀ u v : List Nat, ed u v = ed v u
  | [], v => by rw [ed_nil, ed_nil_r]
  | x :: u, [] => by rw [ed_nil, ed_nil_r]
  | x :: u, y :: v => by
    have h1 := ed_comm u (y :: v)
    have h2 := ed_comm (x :: u) v
    have h3 := ed_comm u v
    have h4 := sc_comm x y
    rw [ed_cons, ed_cons, h1, h2, h3, h4, Int.min_comm (ed (y :: v) u)]
theorem ed_x' (x : Nat) (u v : List Nat) : ed u v ≤ ed (x :: u) v + 2 := by
  rw [ed_comm u v, ed_comm (x :: u) v]; exact ed_y' x v u
theorem ed_head (c : Nat) (u v : List Nat) : ed (c :: u) (c :: v) = ed u v := by
  have h1 := ed_y' c u v
  have h2 := ed_x' c u v
  rw [ed_cons, sc_self, Int.add_zero]
  exact Int.min_eq_right (min_ge h1 h2)
theorem le_min_add {z a b c : Int} : z ≤ min a b + c ↔ z ≤ a + c ∧ z ≤ b + c := ⟨fun h => ⟨Int.le_trans h (Int.add_le_add_right (Int.min_le_left _ _) _), Int.le_trans h (Int.add_le_add_right (Int.min_le_right _ _) _)⟩, fun h => min_ge h.1 h.2⟩
theorem min9 (P Q R S T U V W X s1 s2 : Int) :
    min (min (min (min P Q + 2) (R + s1)) (min (min S T + 2) (U + s1)) + 2) (min (min V W + 2) (X + s1) + s2) =
    min (min (min (min P S + 2) (V + s2)) (min (min Q T + 2) (W + s2)) + 2) (min (min R U + 2) (X + s2) + s1) := by
  have key : ∀ z, z ≤ min (min (min (min P Q + 2) (R + s1)) (min (min S T + 2) (U + s1)) + 2) (min (min V W + 2) (X + s1) + s2) ↔
      z ≤ min (min (min (min P S + 2) (V + s2)) (min (min Q T + 2) (W + s2)) + 2) (min (min R U + 2) (X + s2) + s1) := by
    intro z
    simp only [Int.le_min, le_min_add, Int.add_assoc]
    constructor
    · rintro ⟨⟨⟨⟨a1, a2⟩, a3⟩, ⟨a4, a5⟩, a6⟩, ⟨a7, a8⟩, a9⟩
      refine ⟨⟨⟨⟨?_, ?_⟩, ?_⟩, ⟨?_, ?_⟩, ?_⟩, ⟨?_, ?_⟩, ?_⟩ <;> lia
    · rintro ⟨⟨⟨⟨a1, a2⟩, a3⟩, ⟨a4, a5⟩, a6⟩, ⟨a7, a8⟩, a9⟩
      refine ⟨⟨⟨⟨?_, ?_⟩, ?_⟩, ⟨?_, ?_⟩, ?_⟩, ⟨?_, ?_⟩, ?_⟩ <;> lia
  exact Int.le_antisymm ((key _).mp (Int.le_refl _)) ((key _).mpr (Int.le_refl _))
theorem min5 (N E p q : Int) : min (min (2 * (N + 1 + 1)) (min (min (2 * (N + 1)) E + 2) (2 * N + p)) + 2) (2 * (N + 1) + q) = min (min (2 * (N + 1 + 1)) (min (min (2 * (N + 1)) E + 2) (2 * N + q)) + 2) (2 * (N + 1) + p) := by
  have key : ∀ z, z ≤ min (min (2 * (N + 1 + 1)) (min (min (2 * (N + 1)) E + 2) (2 * N + p)) + 2) (2 * (N + 1) + q) ↔ z ≤ min (min (2 * (N + 1 + 1)) (min (min (2 * (N + 1)) E + 2) (2 * N + q)) + 2) (2 * (N + 1) + p) := by
    intro z
    simp only [Int.le_min, le_min_add, Int.add_assoc]
    constructor
    · rintro ⟨⟨a1, ⟨a2, a3⟩, a4⟩, a5⟩
      refine ⟨⟨a1, ⟨a2, a3⟩, ?_⟩, ?_⟩ <;> omega
    · rintro ⟨⟨a1, ⟨a2, a3⟩, a4⟩, a5⟩
      refine ⟨⟨a1, ⟨a2, a3⟩, ?_⟩, ?_⟩ <;> omega
  exact Int.le_antisymm ((key _).mp (Int.le_refl _)) ((key _).mpr (Int.le_refl _))
theorem ed_snoc0 (x y : Nat) : ∀ v : List Nat, ed [x] (v ++ [y]) = min (min (ed [] (v ++ [y])) (ed [x] v) + 2) (ed [] v + sc x y)
  | [] => by rw [List.nil_append, ed_cons]
  | b :: v => by
    have h := ed_snoc0 x y v
    simp only [List.cons_append]
    rw [ed_cons, ed_cons x b, h]
    have e0 : ∀ l : List Nat, ed [] l = 2 * (l.length : Int) := ed_nil
    rw [e0, e0, e0, e0]
    have e1 : ((v ++ [y]).length : Int) = (v.length : Int) + 1 := by simp
    have e2 : ((b :: (v ++ [y])).length : Int) = (v.length : Int) + 1 + 1 := by simp
    have e3 : ((b :: v).length : Int) = (v.length : Int) + 1 := by simp
    rw [e1, e2, e3]
    exact min5 _ _ _ _
theorem ed_snoc (x y : Nat) : ∀ u v : List Nat, ed (u ++ [x]) (v ++ [y]) = min (min (ed u (v ++ [y])) (ed (u ++ [x]) v) + 2) (ed u v + sc x y)
  | [], v => ed_snoc0 x y v
  | a :: u, [] => by
    have h := ed_snoc0 y x (a :: u)
    rw [List.nil_append, ed_comm (a :: u ++ [x]) [y], h, ed_comm (a :: u) [y], ed_comm (a :: u ++ [x]) [], ed_comm (a :: u) [], sc_comm x y, Int.min_comm (ed [y] (a :: u))]
  | a :: u, b :: v => by
    have h1 := ed_snoc x y u (b :: v)
    have h2 := ed_snoc x y (a :: u) v
    have h3 := ed_snoc x y u v
    simp only [List.cons_append] at h1 h2 h3 ⊢
    rw [ed_cons a b (u ++ [x]) (v ++ [y]), h1, h2, h3, ed_cons a b u (v ++ [y]), ed_cons a b (u ++ [x]) v, ed_cons a b u v]
    exact min9 _ _ _ _ _ _ _ _ _ _ _
termination_by u v => u.length + v.length
theorem ed_rev : ∀ u v : List Nat, ed u.reverse v.reverse = ed u v
  | [], v => by simp [ed_nil]
  | x :: u, [] => by simp [ed_nil_r]
  | x :: u, y :: v => by
    have h1 := ed_rev u (y :: v)
    have h2 := ed_rev (x :: u) v
    have h3 := ed_rev u v
    rw [List.reverse_cons] at h1 h2
    rw [List.reverse_cons, List.reverse_cons, ed_snoc, h1, h2, h3, ed_cons]
termination_by u v => u.length + v.length
theorem edP_all (b a : List Nat) : edP b a b.length a.length = ed b a := by
  unfold edP
  rw [List.take_length, List.take_length, ed_rev]
theorem ed_len : ∀ u v : List Nat, 2 * ((u.length : Int) - v.length) ≤ ed u v ∧ 2 * ((v.length : Int) - u.length) ≤ ed u v
  | [], v => by rw [ed_nil]; simp only [List.length_nil]; lia
  | x :: u, [] => by rw [ed_nil_r]; simp only [List.length_nil, List.length_cons]; lia
  | x :: u, y :: v => by
    have h1 := ed_len u (y :: v)
    have h2 := ed_len (x :: u) v
    have h3 := ed_len u v
    have h4 := sc_in x y
    rw [ed_cons]
    simp only [List.length_cons] at h1 h2 h3 ⊢
    exact ⟨le_mm (by lia) (by lia) (by lia), le_mm (by lia) (by lia) (by lia)⟩
theorem ed_strip : ∀ u v : List Nat, ed (u.drop (cpre u v)) (v.drop (cpre u v)) = ed u v
  | [], v => by simp [cpre]
  | x :: u, [] => by simp [cpre]
  | x :: u, y :: v => by
    unfold cpre
    split
    · rename_i h
      subst h
      rw [List.drop_succ_cons, List.drop_succ_cons, ed_strip u v, ed_head]
    · rfl
theorem take_rev_drop (a : List Nat) (c : Nat) : a.take (a.length - c) = (a.reverse.drop c).reverse := by
  rw [List.drop_reverse, List.reverse_reverse]
theorem row_pick {P R S s : Int} (hs : 0 ≤ s) : P ≤ min (min P R + 2) (S + s) ∨ S ≤ min (min P R + 2) (S + s) ∨ R ≤ min (min P R + 2) (S + s) := by
  rcases Int.le_total (min P R + 2) (S + s) with h | h
  · rw [Int.min_eq_left h]
    rcases Int.le_total P R with h' | h'
    · rw [Int.min_eq_left h']; exact .inl (le_two _)
    · rw [Int.min_eq_right h']; exact .inr (.inr (le_two _))
  · rw [Int.min_eq_right h]; exact .inr (.inl (Int.le_add_of_nonneg_right hs))
theorem row_le (b a : List Nat) : ∀ (d i j : Nat), i + d ≤ b.length → j ≤ a.length → ∃ j', j' ≤ a.length ∧ edP b a i j' ≤ edP b a (i + d) j := by
  intro d
  induction d with
  | zero => intro i j hi hj; exact ⟨j, hj, Int.le_refl _⟩
  | succ d ih =>
    intro i j hi hj
    suffices ∃ j', j' ≤ a.length ∧ edP b a (i + d) j' ≤ edP b a (i + (d + 1)) j by
      obtain ⟨j1, h1, h2⟩ := this
      obtain ⟨j2, h3, h4⟩ := ih i j1 (by lia) h1
      exact ⟨j2, h3, Int.le_trans h4 h2⟩
    clear ih
    induction j with
    | zero =>
      refine ⟨0, Nat.zero_le _, ?_⟩
      rw [edP_zero_r (by lia), edP_zero_r (by lia)]; lia
    | succ j ihj =>
      have e := edP_succ (b := b) (a := a) (i := i + d) (j := j) (by lia) (by lia)
      have hs := sc_in (b.getD (i + d) 0) (a.getD j 0)
      have e2 : i + (d + 1) = i + d + 1 := rfl
      rw [e2, e]
      rcases row_pick hs.1 with h1 | h1 | h1
      · exact ⟨j + 1, hj, h1⟩
      · exact ⟨j, Nat.le_of_succ_le hj, h1⟩
      · obtain ⟨j', h3, h4⟩ := ihj (Nat.le_of_succ_le hj)
        exact ⟨j', h3, Int.le_trans h4 h1⟩
theorem dpV_le {b a : List Nat} {mc : Int} (ha : 0 < a.length) (h : ed b a ≤ mc) : dpV b a mc = ed b a := by
  unfold dpV
  rw [if_neg, edP_all]
  rintro ⟨i, hi, hq⟩
  obtain ⟨j', h1, h2⟩ := row_le b a (b.length - (i + 1)) (i + 1) a.length (by lia) (Nat.le_refl _)
  rw [Nat.add_sub_of_le hi, edP_all] at h2
  cases j' with
  | succ j => have := hq j (by lia); lia
  | zero =>
    have h3 := hq 0 ha
    have h4 := edP_zero_r (b := b) (a := a) (i := i) (by lia)
    have h5 := edP_zero_r (b := b) (a := a) (i := i + 1) (by lia)
    rw [edP_succ hi ha, h4, h5] at h3
    rw [h5] at h2
    have h6 := (sc_in (b.getD i 0) (a.getD 0 0)).2
    have h7 := Int.lt_of_lt_of_le h3 (Int.min_le_right _ _)
    clear h3 h4 h5
    lia
theorem dpV_gt {b a : List Nat} {mc : Int} (h : mc < ed b a) : mc < dpV b a mc := by
  unfold dpV
  split
  · lia
  · rw [edP_all]; exact h
theorem levV2_ed (a b : List Nat) (mc : Int) (hm : 0 ≤ mc) : (ed a b ≤ mc → levV2 a b mc = ed a b) ∧ (mc < ed a b → mc < levV2 a b mc) := by
  unfold levV2
  rw [take_rev_drop, take_rev_drop]
  have hlb : b.length - cpre a.reverse b.reverse = b.length - cpre a.reverse b.reverse := rfl
  have he : ed ((a.reverse.drop (cpre a.reverse b.reverse)).reverse) ((b.reverse.drop (cpre a.reverse b.reverse)).reverse) = ed a b := by
    rw [ed_rev, ed_strip, ed_rev]
  generalize (a.reverse.drop (cpre a.reverse b.reverse)).reverse = x at *
  generalize (b.reverse.drop (cpre a.reverse b.reverse)).reverse = y at *
  rw [← he]
  unfold levV3
  split
  · rename_i h
    have : 2 * ((x.length : Int) + (y.length : Int)) = ed x y := by
      rcases h with h | h
      · have : x = [] := List.length_eq_zero_iff.mp h
        subst this; rw [ed_nil]; simp
      · have : y = [] := List.length_eq_zero_iff.mp h
        subst this; rw [ed_nil_r]; simp
    rw [this]; exact ⟨fun _ => rfl, id⟩
  · rename_i h
    have hx : 0 < x.length := by lia
    have hy : 0 < y.length := by lia
    unfold levV4
    have hl := ed_len x y
    by_cases hs : y.length < x.length
    · rw [if_pos hs, if_pos hs]
      split
      · constructor
        · intro h1; lia
        · intro h1; lia
      · exact ⟨fun h1 => dpV_le hy h1, fun h1 => dpV_gt h1⟩
    · rw [if_neg hs, if_neg hs]
      rw [ed_comm x y] at *
      split
      · constructor
        · intro h1; lia
        · intro h1; lia
      · exact ⟨fun h1 => dpV_le hx h1, fun h1 => dpV_gt h1⟩
theorem levV_le {x y : List Nat} {mc : Int} (hm : 0 ≤ mc) (h : ed x y ≤ mc) : levV x y mc = ed x y := by
  unfold levV
  split
  · rename_i e; subst e
    have : ∀ u : List Nat, ed u u = 0 := fun u => by
      induction u with
      | nil => simp [ed]
      | cons c u ih => rw [ed_head, ih]
    rw [this]
  · have := (levV2_ed (x.drop (cpre x y)) (y.drop (cpre x y)) mc hm).1
    rw [ed_strip] at this
    exact this h
theorem levV_gt {x y : List Nat} {mc : Int} (hm : 0 ≤ mc) (hne : x ≠ y) (h : mc < ed x y) : mc < levV x y mc := by
  unfold levV
  rw [if_neg hne]
  have := (levV2_ed (x.drop (cpre x y)) (y.drop (cpre x y)) mc hm).2
  rw [ed_strip] at this
  exact this h
theorem lev_mid {xs : List Nat} (h : xs.length = 5) : levV ((xs.drop 1).take 3) xs 4 = 4 := by
  match xs, h with
  | [a, b, c, d, e], _ =>
    show levV [b, c, d] [a, b, c, d, e] 4 = 4
    have h1 : ed [b, c, d] [a, b, c, d, e] ≤ 4 := by
      have h1 := ed_y a [b, c, d] [b, c, d, e]
      have h2 := ed_head b [c, d] [c, d, e]
      have h3 := ed_head c [d] [d, e]
      have h4 := ed_head d [] [e]
      have h5 : ed [] [e] = 2 := by simp [ed]
      lia
    have h2 := (ed_len [b, c, d] [a, b, c, d, e]).2
    simp only [List.length_cons, List.length_nil] at h2
    rw [levV_le (by decide) h1]
    lia

theorem last_of {prog : Program} {w : World} {A : Around} {E : Value → Shared → Prop} {xh : Heap} {xg : Array GenState} {xd : Drawn} {xt : Nat} {xo : OsState} {value slice : PySem.Expr} {l : Addr} {va : List Value} {v : Value} {u : Tok} {Q : Value → Shared → Prop}
    (hl : xh.IsList l (va ++ [v]).toArray) (h : Q v ⟨xh, xg, xd, xt, xo⟩)
    (hsub : subscripted slice false (.ref l) (.int (-1) u) = operate [.ref l, .int (-1) u] (getItem (.ref l) (.int (-1) u))) :
    wpAny (model prog w) A (subscriptTail value slice (.ref l) (.int (-1) u)) Q E ⟨xh, xg, xd, xt, xo⟩ := by
  refine tail_any hl.typeIs slot_list_getitem.lookup (wpAny_getItem_list_neg hl (by decide) ?_ (by decide) ?_ h) hsub
  · simp; lia
  · have : ((-1 : Int) + ((va ++ [v]).toArray.size : Int)).toNat = va.length := by simp; lia
    rw [this]; simp
theorem rs_25_1 {M : Model} {A : Around} {Q : Value → Shared → Prop} {E : Value → Shared → Prop} {s : Shared} (h : wpAny M A (call .none [.none]) Q E s) : wpAny M A (call .none [.none]) Q E s := by first | (walk1; fail "") | exact h
section
variable {w : World} {loose : List Str} {mean : ExcName → Option Value} {mg mb : Str → Option Value} {h₀ : Heap} {L fa : Addr} {cd : Value} {xh : Heap} {xg : Array GenState} {xd : Drawn} {xt : Nat} {xo : OsState} {m : Str → Option Value} {Q : Flow → Shared → Prop} {E : Value → Shared → Prop}
theorem arr_34 {la a : Addr} {c2 : Obj} {c p : Nat} {w0 w1 w2 w3 : Int} {tp tg tr : Tok} {g : Int} {wv dv : Value} {va us : List Value} {rest : List (Addr × Obj)} {m₀ : Str → Option Value} (G : LG w loose mean mg mb h₀) (W : Word4 w0 w1 w2 w3) (hg : 0 ≤ g ∧ g < 68) (hva : va.length < 3) (hc2 : c2.data = .cell (some (.ref la)))
    (F : Fr h₀ L xh (kstB m₀ [(Str.ofString "place", .int (p : Int) tp), (Str.ofString "sign", .int g tg), (Str.ofString "word", wv), (Str.ofString "row", .bytes (octB w0 w1 w2 w3) tr), (Str.ofString "draws", dv)]))
    (N : News h₀ L xh ((la, listOf (va ++ [Value.ref a]).toArray c) :: (a, listOf us.toArray 0) :: (L + 1 + 1 + 1, c2) :: rest)) (hus : IntsAre us (putIn w0 w1 w2 w3 p [g]))
    (k : ∀ h tk tt, At h₀ L h [(Str.ofString "text", .str (textOf (putIn w0 w1 w2 w3 p [g])) tt), (Str.ofString "place", .int (p : Int) tp), (Str.ofString "sign", .int g tg), (Str.ofString "word", wv), (Str.ofString "row", .bytes (octB w0 w1 w2 w3) tr), (Str.ofString "draws", dv)]
      ((la, listOf (va ++ [Value.ref a]).toArray c) :: (a, listOf us.toArray 0) :: (L + 1 + 1 + 1, c2) :: rest) → wpAny (LM w) (LA L fa cd) (execs (arrB.drop 5) (lawEnv L fa cd)) Q E ⟨h, xg, xd, tk, xo⟩) :
    wpAny (LM w) (LA L fa cd) (execs (arrB.drop 3) (lawEnv L fa cd)) Q E ⟨xh, xg, xd, xt, xo⟩ := by
  have K0 := G.K0
  have KX := G.KX
  have T := G.T
  have e : arrB.drop 3 = arrSt 3 :: arrSt 4 :: arrB.drop 5 := rfl
  rw [e]
  clear e
  generalize arrB.drop 5 = rst at *
  conv in arrSt 3 => whnf
  conv in arrSt 4 => whnf
  have ha := putIn_all (p := p) W (gs := [g]) (by simpa using hg)
  have hl : (putIn w0 w1 w2 w3 p [g]).length = 5 := putIn_len
  have mk1 := mark 17
  k_steps
  delta Stop
  clear mk1
  refine last_of (hsub := by with_unfolding_all rfl) (by is_list) ?_
  k_steps
  delta Stop
  refine call_CV (text_spec (vs := us) (ns := putIn w0 w1 w2 w3 p [g])) G ‹_› ‹_› ⟨by is_list, hus, ha, by lia⟩ (by decide) ?_
  intro t h tk F N
  k_steps
  delta Stop
  rename Fr _ _ _ _ => F'
  rename News _ _ _ _ => N'
  have hr := read5 (p := p) W hg
  refine call_read G F' N' ⟨textOf_lt ha, by rw [textOf_len]; lia, codes_ne ha⟩ ?_ ?_
  · intro hgood r t' c' h' tk' F N
    have h63 := hr.1.1 hgood
    rw [hr.2 h63] at N
    k_steps
    delta Stop
    refine ne_TB (by is_list) (by is_list) (by show callerA.units + 3 < cLine; decide) ?_
    k_steps
    · exact absurd ‹(_ != _) = true› (by simp)
    · rename Fr _ _ _ _ => F'
      rename News _ _ _ _ => N'
      exact k _ _ _ (At.mk F' N' ⟨rfl, rfl, rfl, rfl, rfl, rfl, trivial⟩ fun p hp => .tail _ (.tail _ hp))
  · intro hgood h' tk' F N
    have h63 : ¬ 63 < g := fun x => hgood (hr.1.2 x)
    k_steps
    exact k _ _ _ (At.mk F N ⟨rfl, rfl, rfl, rfl, rfl, rfl, trivial⟩ fun p hp => hp)
theorem arr_5 {p : Nat} {w0 w1 w2 w3 g : Int} {tt : Tok} {ps : List (Str × Value)} {news : List (Addr × Obj)} (G : LG w loose mean mg mb h₀) (W : Word4 w0 w1 w2 w3) (hg : 0 ≤ g ∧ g < 68)
    (S : At h₀ L xh ((Str.ofString "text", .str (textOf (putIn w0 w1 w2 w3 p [g])) tt) :: ps) news)
    (k : ∀ h tk, At h₀ L h ((Str.ofString "text", .str (textOf (putIn w0 w1 w2 w3 p [g])) tt) :: ps) news → Q .next ⟨h, xg, xd, tk, xo⟩) :
    wpAny (LM w) (LA L fa cd) (exec (arrSt 5) (lawEnv L fa cd)) Q E ⟨xh, xg, xd, xt, xo⟩ := by
  obtain ⟨m₀, F, N⟩ := S
  have K0 := G.K0
  have KX := G.KX
  have T := G.T
  conv in arrSt 5 => whnf
  have ha := putIn_all (p := p) W (gs := [g]) (by simpa using hg)
  have hl : (putIn w0 w1 w2 w3 p [g]).length = 5 := putIn_len
  have hXl : (textOf (putIn w0 w1 w2 w3 p [g])).length = 5 := by rw [textOf_len]; exact hl
  have hX : textOf (putIn w0 w1 w2 w3 p [g]) = ⟨((putIn w0 w1 w2 w3 p [g]).map signC).toArray⟩ := rfl
  have hlt := textOf_lt ha
  have hcn := codes_ne ha
  have hns := read5s (p := p) W hg
  have hxl : ((putIn w0 w1 w2 w3 p [g]).map signC).length = 5 := by rw [List.length_map]; exact hl
  generalize (putIn w0 w1 w2 w3 p [g]).map signC = xs at *
  rw [hX] at F
  rw [hX] at hlt hcn hns hXl
  rw [hX] at k
  k_steps
  delta Stop
  refine call_read G F N ⟨hlt, by lia, hcn⟩ (fun hgood => absurd hgood hns) ?_
  intro hgood h' tk' F N
  k_steps
  delta Stop
  have e : Txt.slice ⟨xs.toArray⟩ (some 1) (some 4) = ⟨((xs.drop 1).take 3).toArray⟩ := slice_mid (lo := 1) (hi := 4) (by decide) (by lia)
  rw [e]
  have hlt' : ∀ c ∈ xs, c < 128 := by simpa using hlt
  refine call_CV lev_spec G ‹_› ‹_› ⟨by simp; lia, by lia, fun c hc => hlt' c (List.mem_of_mem_drop (List.mem_of_mem_take hc)), hlt', by decide⟩ (by decide) ?_
  intro t h tk F N
  rw [lev_mid hxl]
  k_steps
  exact k _ _ ⟨_, F, N⟩
end

theorem rs_26_1 {M : Model} {A : Around} {Q : Value → Shared → Prop} {E : Value → Shared → Prop} {s : Shared} (h : wpAny M A (call .none [.none]) Q E s) : wpAny M A (call .none [.none]) Q E s := by first | (walk1; fail "") | exact h
section
variable {w : World} {loose : List Str} {mean : ExcName → Option Value} {mg mb : Str → Option Value} {h₀ : Heap} {L fa : Addr} {cd : Value} {xh : Heap} {xg : Array GenState} {xd : Drawn} {xt : Nat} {xo : OsState} {m : Str → Option Value} {Q : Flow → Shared → Prop} {E : Value → Shared → Prop}
theorem arr_6 {lw : Addr} {n p : Nat} {t0 t1 t2 t3 : Tok} {w0 w1 w2 w3 : Int} {tx tp tg : Tok} {g : Int} {X : Str} {row dv : Value} {rest : List (Addr × Obj)} (G : LG w loose mean mg mb h₀) (hp : p < 5)
    (S : At h₀ L xh [(Str.ofString "text", .str X tx), (Str.ofString "place", .int (p : Int) tp), (Str.ofString "sign", .int g tg), (Str.ofString "word", .ref lw), (Str.ofString "row", row), (Str.ofString "draws", dv)] ((lw, listOf #[.int w0 t0, .int w1 t1, .int w2 t2, .int w3 t3] n) :: rest))
    (k : ∀ h tk le ue, At h₀ L h [(Str.ofString "eight", .ref le), (Str.ofString "sign", .int g tg), (Str.ofString "word", .ref lw), (Str.ofString "row", row), (Str.ofString "draws", dv)] ((le, listOf ue.toArray 0) :: (lw, listOf #[.int w0 t0, .int w1 t1, .int w2 t2, .int w3 t3] n) :: rest) → IntsAre ue (putIn w0 w1 w2 w3 p [g, g, g, g]) →
      Q .next ⟨h, xg, xd, tk, xo⟩) :
    wpAny (LM w) (LA L fa cd) (exec (arrSt 6) (lawEnv L fa cd)) Q E ⟨xh, xg, xd, xt, xo⟩ := by
  have K0 := G.K0
  have KX := G.KX
  have T := G.T
  refine At.use S ?_
  clear S
  intro m₀ mq F N
  conv in arrSt 6 => whnf
  have hw : IntsAre [.int w0 t0, .int w1 t1, .int w2 t2, .int w3 t3] [w0, w1, w2, w3] := .cons _ _ (.cons _ _ (.cons _ _ (.cons _ _ .nil)))
  have mk1 := mark 23
  k_steps
  iterate 2 (delta Stop; (with_reducible show wpAny _ _ (subscriptTail _ (PySem.Expr.Slice _ _ none _) (Value.ref _) (Value.ref _)) _ _ _); k_dflt (((refine' kmk_slice_ints ?zF ?zN ?zl ?zp ?zq ?zi ?zm ?zc ?_ ?zs ?zt ?zz; (case zF => k_asm); (case zN => k_asm); (case zl => kmk_list); (case zp => kmk_part); (case zq => kmk_part); (case zi => assumption); (case zm => with_reducible first | exact kmk_from (by assumption) (by lia) | exact kmk_upto (by assumption) (by lia) | exact kmk_run (by assumption) (by lia) (by lia)); (case zc => exact rfl); (case zs => with_unfolding_all rfl); (case zt => kmk_pure); (case zz => kmk_size)))); intro D' ws' h' F' N' l1 hI' hC' hL'; clear l1 hC' hL'; k_steps)
  rename Fr _ _ _ _ => F'
  rename News _ _ _ _ => N'
  rename IntsAre _ (_ ++ (List.replicate _ _).flatten ++ _) => hI
  exact k _ _ _ _ (At.mk F' N' ⟨rfl, rfl, rfl, rfl, rfl, trivial⟩ (fm_c (.head _) (fun q hq => .tail _ (.tail _ (.tail _ (.tail _ (.tail _ (.tail _ hq)))))))) hI
noncomputable def dueB (w0 w1 w2 w3 g : Int) : List Int → Array UInt8
  | [e0, e1, e2, e3, e4, e5, e6, e7] => if 63 < g then octB w0 w1 w2 w3 else octB e0 e1 e2 e3 ++ octB e4 e5 e6 e7
  | _ => #[]
theorem eight_of {es : List Int} (h : es.length = 8) : ∃ e0 e1 e2 e3 e4 e5 e6 e7, es = [e0, e1, e2, e3, e4, e5, e6, e7] := by
  match es, h with
  | [a0, a1, a2, a3, a4, a5, a6, a7], _ => exact ⟨a0, a1, a2, a3, a4, a5, a6, a7, rfl⟩
theorem arr_7 {le : Addr} {p : Nat} {w0 w1 w2 w3 : Int} {tg tr : Tok} {g : Int} {wv dv : Value} {ue : List Value} {rest : List (Addr × Obj)} (G : LG w loose mean mg mb h₀) (W : Word4 w0 w1 w2 w3) (hg : 0 ≤ g ∧ g < 68)
    (S : At h₀ L xh [(Str.ofString "eight", .ref le), (Str.ofString "sign", .int g tg), (Str.ofString "word", wv), (Str.ofString "row", .bytes (octB w0 w1 w2 w3) tr), (Str.ofString "draws", dv)] ((le, listOf ue.toArray 0) :: rest)) (hue : IntsAre ue (putIn w0 w1 w2 w3 p [g, g, g, g]))
    (k : ∀ h tk td, At h₀ L h [(Str.ofString "due", .bytes (dueB w0 w1 w2 w3 g (putIn w0 w1 w2 w3 p [g, g, g, g])) td), (Str.ofString "eight", .ref le), (Str.ofString "sign", .int g tg), (Str.ofString "word", wv), (Str.ofString "row", .bytes (octB w0 w1 w2 w3) tr), (Str.ofString "draws", dv)] ((le, listOf ue.toArray 0) :: rest) →
      Q .next ⟨h, xg, xd, tk, xo⟩) :
    wpAny (LM w) (LA L fa cd) (exec (arrSt 7) (lawEnv L fa cd)) Q E ⟨xh, xg, xd, xt, xo⟩ := by
  have K0 := G.K0
  have KX := G.KX
  have T := G.T
  refine At.use S ?_
  clear S
  intro m₀ mq F N
  conv in arrSt 7 => whnf
  obtain ⟨e0, e1, e2, e3, e4, e5, e6, e7, he⟩ := eight_of (es := putIn w0 w1 w2 w3 p [g, g, g, g]) putIn_len
  have h8 := (read8 W hg false he).2.2
  rw [he] at hue k
  clear he
  have mk1 := mark 23
  k_steps
  · rename Fr _ _ _ _ => F'
    rename News _ _ _ _ => N'
    have hd : dueB w0 w1 w2 w3 g [e0, e1, e2, e3, e4, e5, e6, e7] = octB w0 w1 w2 w3 := by show (if 63 < g then _ else _) = _; rw [if_pos ‹_›]
    rw [hd] at k
    exact k _ _ _ (At.mk F' N' ⟨rfl, rfl, rfl, rfl, rfl, rfl, trivial⟩ fun p hp => hp)
  · have hd : dueB w0 w1 w2 w3 g [e0, e1, e2, e3, e4, e5, e6, e7] = octB e0 e1 e2 e3 ++ octB e4 e5 e6 e7 := by show (if 63 < g then _ else _) = _; rw [if_neg ‹_›]
    rw [hd] at k
    obtain ⟨W1, W2, _⟩ := h8 ‹_›
    (delta Stop; (with_reducible show wpAny _ _ (subscriptTail _ (PySem.Expr.Slice _ _ none _) (Value.ref _) (Value.ref _)) _ _ _); k_dflt (((refine' kmk_slice_ints ?zF ?zN ?zl ?zp ?zq ?zi ?zm ?zc ?_ ?zs ?zt ?zz; (case zF => k_asm); (case zN => k_asm); (case zl => kmk_list); (case zp => kmk_part); (case zq => kmk_part); (case zi => assumption); (case zm => with_reducible first | exact kmk_from (by assumption) (by lia) | exact kmk_upto (by assumption) (by lia) | exact kmk_run (by assumption) (by lia) (by lia)); (case zc => exact rfl); (case zs => with_unfolding_all rfl); (case zt => kmk_pure); (case zz => kmk_size)))); intro D' ws' h' F' N' l1 hI' hC' hL'; clear l1 hC' hL'; k_steps)
    delta Stop
    rename IntsAre _ _ => hI1
    obtain ⟨u0, u1, u2, u3, rfl⟩ := ints4 hI1
    refine call_CV octets_spec G ‹_› ‹_› ⟨by is_list, W1.h⟩ (by decide) ?_
    intro t h tk F N
    k_steps
    (delta Stop; (with_reducible show wpAny _ _ (subscriptTail _ (PySem.Expr.Slice _ _ none _) (Value.ref _) (Value.ref _)) _ _ _); k_dflt (((refine' kmk_slice_ints ?zF ?zN ?zl ?zp ?zq ?zi ?zm ?zc ?_ ?zs ?zt ?zz; (case zF => k_asm); (case zN => k_asm); (case zl => kmk_list); (case zp => kmk_part); (case zq => kmk_part); (case zi => assumption); (case zm => with_reducible first | exact kmk_from (by assumption) (by lia) | exact kmk_upto (by assumption) (by lia) | exact kmk_run (by assumption) (by lia) (by lia)); (case zc => exact rfl); (case zs => with_unfolding_all rfl); (case zt => kmk_pure); (case zz => kmk_size)))); intro D' ws' h' F' N' l1 hI' hC' hL'; clear l1 hC' hL'; k_steps)
    delta Stop
    rename IntsAre _ _ => hI2
    obtain ⟨u0, u1, u2, u3, rfl⟩ := ints4 hI2
    refine call_CV octets_spec G ‹_› ‹_› ⟨by is_list, W2.h⟩ (by decide) ?_
    intro t h tk F N
    k_steps
    rename Fr _ _ _ _ => F'
    rename News _ _ _ _ => N'
    exact k _ _ _ (At.mk F' N' ⟨rfl, rfl, rfl, rfl, rfl, rfl, trivial⟩ fun p hp => .tail _ (.tail _ hp))
theorem read_due {w0 w1 w2 w3 g : Int} {p : Nat} (W : Word4 w0 w1 w2 w3) (hg : 0 ≤ g ∧ g < 68) : byteArr (a2bF (codesI (textOf (putIn w0 w1 w2 w3 p [g, g, g, g])))).1 = dueB w0 w1 w2 w3 g (putIn w0 w1 w2 w3 p [g, g, g, g]) := by
  obtain ⟨e0, e1, e2, e3, e4, e5, e6, e7, he⟩ := eight_of (es := putIn w0 w1 w2 w3 p [g, g, g, g]) putIn_len
  have h8 := (read8 W hg false he).2
  by_cases h : 63 < g
  · rw [h8.1 h, he]; exact (if_pos h).symm
  · rw [(h8.2 h).2.2, he]; exact (if_neg h).symm
theorem good_due {w0 w1 w2 w3 g : Int} {p : Nat} (W : Word4 w0 w1 w2 w3) (hg : 0 ≤ g ∧ g < 68) (strict : Bool) : A2Good strict (codesI (textOf (putIn w0 w1 w2 w3 p [g, g, g, g]))) ↔ ¬ (strict = true ∧ 63 < g) := by
  obtain ⟨e0, e1, e2, e3, e4, e5, e6, e7, he⟩ := eight_of (es := putIn w0 w1 w2 w3 p [g, g, g, g]) putIn_len
  exact (read8 W hg strict he).1
end
theorem rs_26_2 {M : Model} {A : Around} {Q : Value → Shared → Prop} {E : Value → Shared → Prop} {s : Shared} (h : wpAny M A (call .none [.none]) Q E s) : wpAny M A (call .none [.none]) Q E s := by first | (walk1; fail "") | exact h
section
variable {w : World} {loose : List Str} {mean : ExcName → Option Value} {mg mb : Str → Option Value} {h₀ : Heap} {L fa : Addr} {cd : Value} {xh : Heap} {xg : Array GenState} {xd : Drawn} {xt : Nat} {xo : OsState} {m : Str → Option Value} {Q : Flow → Shared → Prop} {E : Value → Shared → Prop}
theorem arr_89 {le : Addr} {p : Nat} {w0 w1 w2 w3 : Int} {tg tr td : Tok} {g : Int} {wv dv : Value} {ue : List Value} {rest : List (Addr × Obj)} (G : LG w loose mean mg mb h₀) (W : Word4 w0 w1 w2 w3) (hg : 0 ≤ g ∧ g < 68)
    (S : At h₀ L xh [(Str.ofString "due", .bytes (dueB w0 w1 w2 w3 g (putIn w0 w1 w2 w3 p [g, g, g, g])) td), (Str.ofString "eight", .ref le), (Str.ofString "sign", .int g tg), (Str.ofString "word", wv), (Str.ofString "row", .bytes (octB w0 w1 w2 w3) tr), (Str.ofString "draws", dv)] ((le, listOf ue.toArray 0) :: rest)) (hue : IntsAre ue (putIn w0 w1 w2 w3 p [g, g, g, g]))
    (k : ∀ h tk, At h₀ L h [(Str.ofString "word", wv), (Str.ofString "row", .bytes (octB w0 w1 w2 w3) tr), (Str.ofString "draws", dv)] rest → Q .next ⟨h, xg, xd, tk, xo⟩) :
    wpAny (LM w) (LA L fa cd) (execs [arrSt 8, arrSt 9] (lawEnv L fa cd)) Q E ⟨xh, xg, xd, xt, xo⟩ := by
  have K0 := G.K0
  have KX := G.KX
  have T := G.T
  obtain ⟨m₀, F, N⟩ := S
  conv in arrSt 8 => whnf
  conv in arrSt 9 => whnf
  have ha := putIn_all (p := p) W (gs := [g, g, g, g]) (by simpa using hg)
  have hl : (putIn w0 w1 w2 w3 p [g, g, g, g]).length = 8 := putIn_len
  have hXl : (textOf (putIn w0 w1 w2 w3 p [g, g, g, g])).length = 8 := by rw [textOf_len]; exact hl
  have hlt := textOf_lt ha
  have hcn := codes_ne ha
  have hgf := good_due (p := p) W hg false
  have hgt := good_due (p := p) W hg true
  have hd := read_due (p := p) W hg
  generalize dueB w0 w1 w2 w3 g (putIn w0 w1 w2 w3 p [g, g, g, g]) = D at *
  generalize putIn w0 w1 w2 w3 p [g, g, g, g] = es at *
  k_steps
  delta Stop
  refine call_CV (text_spec (vs := ue) (ns := es)) G ‹_› ‹_› ⟨by is_list, hue, ha, by lia⟩ (by decide) ?_
  intro t h tk F N
  k_steps
  delta Stop
  refine call_read G F N ⟨hlt, by lia, hcn⟩ ?_ (fun hn => absurd (hgf.2 (by simp)) hn)
  intro _ r t c h' tk' F N
  rw [hd] at N
  k_steps
  delta Stop
  refine ne_TB (by is_list) (by is_list) (by show callerA.units + 3 < cLine; decide) ?_
  k_steps
  · exact absurd ‹(_ != _) = true› (by simp)
  delta Stop
  refine call_CV (text_spec (vs := ue) (ns := es)) G ‹_› ‹_› ⟨by is_list, hue, ha, by lia⟩ (by decide) ?_
  intro t h tk F N
  k_steps
  delta Stop
  refine call_read G F N ⟨hlt, by lia, hcn⟩ ?_ ?_
  · intro hy r t c h' tk' F N
    rw [hd] at N
    have h63 : ¬ 63 < g := fun x => hgt.1 hy ⟨rfl, x⟩
    k_steps
    delta Stop
    refine ne_TB (by is_list) (by is_list) (by show callerA.units + 3 < cLine; decide) ?_
    k_steps
    rename Fr _ _ _ _ => F'
    rename News _ _ _ _ => N'
    exact k _ _ (At.mk F' N' ⟨rfl, rfl, rfl, trivial⟩ fun p hp => .tail _ (.tail _ (.tail _ (.tail _ (.tail _ hp)))))
  · intro hy h' tk' F N
    have h63 : 63 < g := Classical.byContradiction fun x => hy (hgt.2 fun y => x y.2)
    k_steps
    exact k _ _ (At.mk F N ⟨rfl, rfl, rfl, trivial⟩ fun p hp => .tail _ (.tail _ (.tail _ hp)))
end

noncomputable def arrP (d : Int) : Nat := (d.fmod 5).toNat
theorem arrP_lt (d : Int) : arrP d < 5 ∧ ((arrP d : Nat) : Int) = d.fmod 5 := by
  unfold arrP
  rw [Int.fmod_eq_emod_of_nonneg _ (by decide)]
  lia
noncomputable def arrV (w0 w1 w2 w3 : Int) (ds : List Int) (k : Nat) : List Int := putIn w0 w1 w2 w3 (arrP (ds.getD k 0)) [signF (ds.getD (k + 1) 0)]
theorem rs_27_1 {M : Model} {A : Around} {Q : Value → Shared → Prop} {E : Value → Shared → Prop} {s : Shared} (h : wpAny M A (call .none [.none]) Q E s) : wpAny M A (call .none [.none]) Q E s := by first | (walk1; fail "") | exact h
section
variable {w : World} {loose : List Str} {mean : ExcName → Option Value} {mg mb : Str → Option Value} {h₀ : Heap} {L fa : Addr} {cd : Value} {xh : Heap} {xg : Array GenState} {xd : Drawn} {xt : Nat} {xo : OsState} {m : Str → Option Value} {Q : Flow → Shared → Prop} {E : Value → Shared → Prop}
theorem arr_turn {lw la ld : Addr} {c2 : Obj} {n c kk : Nat} {t0 t1 t2 t3 tk0 tr : Tok} {w0 w1 w2 w3 : Int} {va vd : List Value} {ds : List Int} {rest : List (Addr × Obj)} (G : LG w loose mean mg mb h₀) (W : Word4 w0 w1 w2 w3) (hvd : IntsAre vd ds) (hdl : ds.length = 10) (hkk : kk + 1 < 10) (hva : va.length < 3) (hc2 : c2.data = .cell (some (.ref la)))
    (S : At h₀ L xh [(Str.ofString "k", .int (kk : Int) tk0), (Str.ofString "word", .ref lw), (Str.ofString "row", .bytes (octB w0 w1 w2 w3) tr), (Str.ofString "draws", .ref ld)] ((la, listOf va.toArray c) :: (L + 1 + 1 + 1, c2) :: (lw, listOf #[.int w0 t0, .int w1 t1, .int w2 t2, .int w3 t3] n) :: (ld, LCg.lst vd) :: rest))
    (hla : ∀ q ∈ (L + 1 + 1 + 1, c2) :: (lw, listOf #[.int w0 t0, .int w1 t1, .int w2 t2, .int w3 t3] n) :: (ld, LCg.lst vd) :: rest, q.1 ≠ la)
    (k : ∀ h tk a us, At h₀ L h [(Str.ofString "word", .ref lw), (Str.ofString "row", .bytes (octB w0 w1 w2 w3) tr), (Str.ofString "draws", .ref ld)] ((la, listOf (va ++ [Value.ref a]).toArray (c + 1)) :: (a, listOf us.toArray 0) :: (L + 1 + 1 + 1, c2) :: (lw, listOf #[.int w0 t0, .int w1 t1, .int w2 t2, .int w3 t3] n) :: (ld, LCg.lst vd) :: rest) →
      (∀ q ∈ (la, listOf va.toArray c) :: (L + 1 + 1 + 1, c2) :: (lw, listOf #[.int w0 t0, .int w1 t1, .int w2 t2, .int w3 t3] n) :: (ld, LCg.lst vd) :: rest, q.1 ≠ a) → IntsAre us (arrV w0 w1 w2 w3 ds kk) → Q .next ⟨h, xg, xd, tk, xo⟩) :
    wpAny (LM w) (LA L fa cd) (execs arrB (lawEnv L fa cd)) Q E ⟨xh, xg, xd, xt, xo⟩ := by
  have e : arrB = arrSt 0 :: arrSt 1 :: arrSt 2 :: arrB.drop 3 := rfl
  rw [e]
  clear e
  have hp := arrP_lt (ds.getD kk 0)
  have hg := signF_in (ds.getD (kk + 1) 0)
  refine wpAny_execs_cons (arr_0 G hvd hdl hkk (rest := (la, listOf va.toArray c) :: (L + 1 + 1 + 1, c2) :: (lw, listOf #[.int w0 t0, .int w1 t1, .int w2 t2, .int w3 t3] n) :: rest) (S.sub (fun m₀ => ⟨rfl, rfl, rfl, rfl, trivial⟩) (by (try simp only [List.nil_append, List.cons_append]); ((repeat ((with_reducible refine sub_c ?_ ?_); (focus (((with_reducible first | assumption | exact mem0 | exact mem1 | exact mem2 | exact mem3 | exact mem4 | exact mem5 | exact mem6 | exact mem7 | (refine mem_t ?_; first | exact mem0 | exact mem1 | exact mem2 | exact mem3 | exact mem4 | exact mem5 | exact mem6 | exact mem7 | (refine mem_t ?_; first | exact mem0 | exact mem1 | exact mem2 | exact mem3 | exact mem4 | exact mem5 | exact mem6 | exact mem7)) | (repeat first | assumption | exact List.mem_cons_self | apply List.mem_cons_of_mem | apply List.mem_append_right))))))); first | exact sub_n | assumption | exact sub_d 1 | exact sub_d 2 | exact sub_d 3 | exact sub_d 4 | exact sub_d 5 | exact sub_d 6 | exact sub_d 7 | exact sub_d 8 | exact sub_d 9 | exact sub_d 10 | exact sub_d 11 | exact sub_d 12 | exact sub_d 13 | exact sub_d 14 | exact sub_d 15 | exact sub_d 16 | exact sub_d 17 | exact sub_d 18 | exact sub_d 0 | (intro p hp; ((with_reducible (repeat first | assumption | (apply List.mem_append_left; assumption) | apply List.mem_cons_of_mem | apply List.mem_append_right))))))) fun h tk tp td S1 => ?_)
  dsimp only
  rw [← hp.2] at S1
  obtain ⟨m₁, F1, N1⟩ := S1.sub (qs := [(Str.ofString "draw", .int (ds.getD (kk + 1) 0) td), (Str.ofString "place", .int ((arrP (ds.getD kk 0) : Nat) : Int) tp), (Str.ofString "word", .ref lw), (Str.ofString "row", .bytes (octB w0 w1 w2 w3) tr), (Str.ofString "draws", .ref ld)]) (nx := (la, listOf va.toArray c) :: (L + 1 + 1 + 1, c2) :: (lw, listOf #[.int w0 t0, .int w1 t1, .int w2 t2, .int w3 t3] n) :: (ld, LCg.lst vd) :: rest) (fun m₀ => ⟨rfl, rfl, rfl, rfl, rfl, trivial⟩) (by (try simp only [List.nil_append, List.cons_append]); ((repeat ((with_reducible refine sub_c ?_ ?_); (focus (((with_reducible first | assumption | exact mem0 | exact mem1 | exact mem2 | exact mem3 | exact mem4 | exact mem5 | exact mem6 | exact mem7 | (refine mem_t ?_; first | exact mem0 | exact mem1 | exact mem2 | exact mem3 | exact mem4 | exact mem5 | exact mem6 | exact mem7 | (refine mem_t ?_; first | exact mem0 | exact mem1 | exact mem2 | exact mem3 | exact mem4 | exact mem5 | exact mem6 | exact mem7)) | (repeat first | assumption | exact List.mem_cons_self | apply List.mem_cons_of_mem | apply List.mem_append_right))))))); first | exact sub_n | assumption | exact sub_d 1 | exact sub_d 2 | exact sub_d 3 | exact sub_d 4 | exact sub_d 5 | exact sub_d 6 | exact sub_d 7 | exact sub_d 8 | exact sub_d 9 | exact sub_d 10 | exact sub_d 11 | exact sub_d 12 | exact sub_d 13 | exact sub_d 14 | exact sub_d 15 | exact sub_d 16 | exact sub_d 17 | exact sub_d 18 | exact sub_d 0 | (intro p hp; ((with_reducible (repeat first | assumption | (apply List.mem_append_left; assumption) | apply List.mem_cons_of_mem | apply List.mem_append_right))))))
  refine wpAny_execs_cons (arr_1 G F1 N1 fun h tk g tg eg F2 N2 => ?_)
  dsimp only
  rw [← eg] at hg
  obtain ⟨m₂, F3, N3⟩ := At.mk (ps := [(Str.ofString "place", .int ((arrP (ds.getD kk 0) : Nat) : Int) tp), (Str.ofString "sign", .int g tg), (Str.ofString "word", .ref lw), (Str.ofString "row", .bytes (octB w0 w1 w2 w3) tr), (Str.ofString "draws", .ref ld)]) F2 N2 ⟨rfl, rfl, rfl, rfl, rfl, trivial⟩ (fun p hp => hp)
  refine wpAny_execs_cons (arr_2 G hp.1 hva hc2 F3 N3 hla fun h tk a us F4 N4 hne hus => ?_)
  dsimp only
  have hN : va.length < 3 := hva
  refine arr_34 G W hg hva hc2 F4 N4 hus fun h tk tt S5 => ?_
  have e : arrB.drop 5 = arrSt 5 :: arrSt 6 :: arrSt 7 :: [arrSt 8, arrSt 9] := rfl
  rw [e]
  clear e
  refine wpAny_execs_cons (arr_5 G W hg S5 fun h tk S6 => ?_)
  dsimp only
  refine wpAny_execs_cons (arr_6 (rest := (la, listOf (va ++ [Value.ref a]).toArray (c + 1)) :: (a, listOf us.toArray 0) :: (L + 1 + 1 + 1, c2) :: (ld, LCg.lst vd) :: rest) G hp.1 (S6.sub (fun m₀ => ⟨rfl, rfl, rfl, rfl, rfl, rfl, trivial⟩) (by (try simp only [List.nil_append, List.cons_append]); ((repeat ((with_reducible refine sub_c ?_ ?_); (focus (((with_reducible first | assumption | exact mem0 | exact mem1 | exact mem2 | exact mem3 | exact mem4 | exact mem5 | exact mem6 | exact mem7 | (refine mem_t ?_; first | exact mem0 | exact mem1 | exact mem2 | exact mem3 | exact mem4 | exact mem5 | exact mem6 | exact mem7 | (refine mem_t ?_; first | exact mem0 | exact mem1 | exact mem2 | exact mem3 | exact mem4 | exact mem5 | exact mem6 | exact mem7)) | (repeat first | assumption | exact List.mem_cons_self | apply List.mem_cons_of_mem | apply List.mem_append_right))))))); first | exact sub_n | assumption | exact sub_d 1 | exact sub_d 2 | exact sub_d 3 | exact sub_d 4 | exact sub_d 5 | exact sub_d 6 | exact sub_d 7 | exact sub_d 8 | exact sub_d 9 | exact sub_d 10 | exact sub_d 11 | exact sub_d 12 | exact sub_d 13 | exact sub_d 14 | exact sub_d 15 | exact sub_d 16 | exact sub_d 17 | exact sub_d 18 | exact sub_d 0 | (intro p hp; ((with_reducible (repeat first | assumption | (apply List.mem_append_left; assumption) | apply List.mem_cons_of_mem | apply List.mem_append_right))))))) fun h tk le ue S7 hue => ?_)
  dsimp only
  refine wpAny_execs_cons (arr_7 G W hg S7 hue fun h tk td S8 => ?_)
  dsimp only
  refine arr_89 G W hg S8 hue fun h tk S9 => ?_
  refine k _ _ a us (S9.sub (fun m₀ => ⟨rfl, rfl, rfl, trivial⟩) (by (try simp only [List.nil_append, List.cons_append]); ((repeat ((with_reducible refine sub_c ?_ ?_); (focus (((with_reducible first | assumption | exact mem0 | exact mem1 | exact mem2 | exact mem3 | exact mem4 | exact mem5 | exact mem6 | exact mem7 | (refine mem_t ?_; first | exact mem0 | exact mem1 | exact mem2 | exact mem3 | exact mem4 | exact mem5 | exact mem6 | exact mem7 | (refine mem_t ?_; first | exact mem0 | exact mem1 | exact mem2 | exact mem3 | exact mem4 | exact mem5 | exact mem6 | exact mem7)) | (repeat first | assumption | exact List.mem_cons_self | apply List.mem_cons_of_mem | apply List.mem_append_right))))))); first | exact sub_n | assumption | exact sub_d 1 | exact sub_d 2 | exact sub_d 3 | exact sub_d 4 | exact sub_d 5 | exact sub_d 6 | exact sub_d 7 | exact sub_d 8 | exact sub_d 9 | exact sub_d 10 | exact sub_d 11 | exact sub_d 12 | exact sub_d 13 | exact sub_d 14 | exact sub_d 15 | exact sub_d 16 | exact sub_d 17 | exact sub_d 18 | exact sub_d 0 | (intro p hp; ((with_reducible (repeat first | assumption | (apply List.mem_append_left; assumption) | apply List.mem_cons_of_mem | apply List.mem_append_right))))))) hne ?_
  unfold arrV
  rw [← eg]; exact hus
end

theorem rs_28_1 {M : Model} {A : Around} {Q : Value → Shared → Prop} {E : Value → Shared → Prop} {s : Shared} (h : wpAny M A (call .none [.none]) Q E s) : wpAny M A (call .none [.none]) Q E s := by first | (walk1; fail "") | exact h
section
variable {w : World} {loose : List Str} {mean : ExcName → Option Value} {mg mb : Str → Option Value} {h₀ : Heap} {L fa : Addr} {cd : Value} {xh : Heap} {xg : Array GenState} {xd : Drawn} {xt : Nat} {xo : OsState} {m : Str → Option Value} {Q : Flow → Shared → Prop} {E : Value → Shared → Prop}
theorem st_7 {ps : List (Str × Value)} {c2 : Obj} {front rest : List (Addr × Obj)} (G : LG w loose mean mg mb h₀) (hc2 : c2.data = .cell none) (S : At h₀ L xh ps ((L + 1 + 1 + 1, c2) :: rest)) (hr : ∀ p ∈ rest, p.1 ≠ L + 1 + 1 + 1)
    (k : ∀ h tk la c2', c2'.data = .cell (some (.ref la)) → At h₀ L h ps ((la, listOf #[] 0) :: (L + 1 + 1 + 1, c2') :: rest) → (∀ p ∈ (L + 1 + 1 + 1, c2') :: rest, p.1 ≠ la) → Q .next ⟨h, xg, xd, tk, xo⟩) :
    wpAny (LM w) (LA L fa cd) (exec (lawSt 7) (lawEnv L fa cd)) Q E ⟨xh, xg, xd, xt, xo⟩ := by
  have K0 := G.K0
  have KX := G.KX
  have T := G.T
  refine At.use S ?_
  clear S
  intro m₀ mq F N
  conv in lawSt 7 => whnf
  k_steps
  rename Fr _ _ _ _ => F'
  rename News _ _ _ _ => N'
  rename (_ ∧ AllLt _ rest) => l1
  exact k _ _ _ _ ‹_› ⟨_, F', N'⟩ (fm_c (Nat.ne_of_lt l1.1) (allLt_ne l1.2))
end
theorem rs_28_2 {M : Model} {A : Around} {Q : Value → Shared → Prop} {E : Value → Shared → Prop} {s : Shared} (h : wpAny M A (call .none [.none]) Q E s) : wpAny M A (call .none [.none]) Q E s := by first | (walk1; fail "") | exact h
section
variable {w : World} {loose : List Str} {mean : ExcName → Option Value} {mg mb : Str → Option Value} {h₀ : Heap} {L fa : Addr} {cd : Value} {xh : Heap} {xg : Array GenState} {xd : Drawn} {xt : Nat} {xo : OsState} {m : Str → Option Value} {Q : Flow → Shared → Prop} {E : Value → Shared → Prop}
theorem items_sub {I : Addr} {cn : String} {keep : List (Addr × Obj)} {env : Env} {prog : Program} {A : Around} {target : Expr} {body : List Stmt} {news nx : List (Addr × Obj)} (hs : ∀ p ∈ nx, p ∈ news) : ∀ {r : List Itm}, ItemsRest prog w A E h₀ env target body Q ⟨xh, xg, xd, xt, xo⟩ [(I, cn)] keep r m nx → ItemsRest prog w A E h₀ env target body Q ⟨xh, xg, xd, xt, xo⟩ [(I, cn)] keep r m news
  | [], H => fun h tk F N => H h tk F (news_sub N hs)
  | _ :: _, H => fun v h tk ha F o ho N => H v h tk ha F o ho (news_sub N fun p hp => by
    rcases List.mem_append.mp hp with hp | hp
    · exact List.mem_append_left _ hp
    · exact List.mem_append_right _ (hs p hp))
theorem arr_item {lw la ld I ax : Addr} {c2 lo : Obj} {n c kk : Nat} {t0 t1 t2 t3 tk0 tr : Tok} {w0 w1 w2 w3 : Int} {va vd : List Value} {ds : List Int} {rest : List (Addr × Obj)} {pos : Pos} {r : List Itm} (G : LG w loose mean mg mb h₀) (W : Word4 w0 w1 w2 w3) (hvd : IntsAre vd ds) (hdl : ds.length = 10) (hkk : kk + 1 < 10) (hva : va.length < 3) (hc2 : c2.data = .cell (some (.ref la)))
    (hm : Hs m [(Str.ofString "word", .ref lw), (Str.ofString "row", .bytes (octB w0 w1 w2 w3) tr), (Str.ofString "draws", .ref ld)])
    (hla : ∀ q ∈ (L + 1 + 1 + 1, c2) :: (lw, listOf #[.int w0 t0, .int w1 t1, .int w2 t2, .int w3 t3] n) :: (ld, LCg.lst vd) :: (ax, lo) :: rest, q.1 ≠ la)
    (hI : ∀ q ∈ (la, listOf va.toArray c) :: (L + 1 + 1 + 1, c2) :: (lw, listOf #[.int w0 t0, .int w1 t1, .int w2 t2, .int w3 t3] n) :: (ld, LCg.lst vd) :: (ax, lo) :: rest, q.1 ≠ I)
    (next : ∀ m₁ a us, Hs m₁ [(Str.ofString "word", .ref lw), (Str.ofString "row", .bytes (octB w0 w1 w2 w3) tr), (Str.ofString "draws", .ref ld)] →
      (∀ q ∈ (la, listOf va.toArray c) :: (L + 1 + 1 + 1, c2) :: (lw, listOf #[.int w0 t0, .int w1 t1, .int w2 t2, .int w3 t3] n) :: (ld, LCg.lst vd) :: (ax, lo) :: rest, q.1 ≠ a) → a ≠ I → IntsAre us (arrV w0 w1 w2 w3 ds kk) →
      ItemsRest PySem.Challenge.rw_op0087_01.row.prog w (LA L fa cd) E h₀ (lawEnv L fa cd) (.Name (Str.ofString "k") pos) arrB Q ⟨xh, xg, xd, xt, xo⟩ [(I, "tuple_iterator")] [(ax, lo)] r m₁ ((la, listOf (va ++ [Value.ref a]).toArray (c + 1)) :: (a, listOf us.toArray 0) :: (L + 1 + 1 + 1, c2) :: (lw, listOf #[.int w0 t0, .int w1 t1, .int w2 t2, .int w3 t3] n) :: (ld, LCg.lst vd) :: (ax, lo) :: rest)) :
    ItemsRest PySem.Challenge.rw_op0087_01.row.prog w (LA L fa cd) E h₀ (lawEnv L fa cd) (.Name (Str.ofString "k") pos) arrB Q ⟨xh, xg, xd, xt, xo⟩ [(I, "tuple_iterator")] [(ax, lo)] (.val (.int (kk : Int) tk0) :: r) m ((la, listOf va.toArray c) :: (L + 1 + 1 + 1, c2) :: (lw, listOf #[.int w0 t0, .int w1 t1, .int w2 t2, .int w3 t3] n) :: (ld, LCg.lst vd) :: (ax, lo) :: rest) := by
  refine ItemsRest.val fun h tk F => AllObj.cons fun o _ => AllObj.nil fun N => ?_
  refine wpAny_assign_Name (storeX_L F N (fun h' F' N' => ?_) rfl rfl)
  refine arr_turn (rest := (I, o) :: (ax, lo) :: rest) (kk := kk) (tk0 := tk0) (c := c) (va := va) G W hvd hdl hkk hva hc2 (At.mk F' N' ⟨rfl, hm.1, hm.2.1, hm.2.2.1, trivial⟩ (by (try simp only [List.nil_append, List.cons_append]); ((repeat ((with_reducible refine sub_c ?_ ?_); (focus (((with_reducible first | assumption | exact mem0 | exact mem1 | exact mem2 | exact mem3 | exact mem4 | exact mem5 | exact mem6 | exact mem7 | (refine mem_t ?_; first | exact mem0 | exact mem1 | exact mem2 | exact mem3 | exact mem4 | exact mem5 | exact mem6 | exact mem7 | (refine mem_t ?_; first | exact mem0 | exact mem1 | exact mem2 | exact mem3 | exact mem4 | exact mem5 | exact mem6 | exact mem7)) | (repeat first | assumption | exact List.mem_cons_self | apply List.mem_cons_of_mem | apply List.mem_append_right))))))); first | exact sub_n | assumption | exact sub_d 1 | exact sub_d 2 | exact sub_d 3 | exact sub_d 4 | exact sub_d 5 | exact sub_d 6 | exact sub_d 7 | exact sub_d 8 | exact sub_d 9 | exact sub_d 10 | exact sub_d 11 | exact sub_d 12 | exact sub_d 13 | exact sub_d 14 | exact sub_d 15 | exact sub_d 16 | exact sub_d 17 | exact sub_d 18 | exact sub_d 0 | (intro p hp; ((with_reducible (repeat first | assumption | (apply List.mem_append_left; assumption) | apply List.mem_cons_of_mem | apply List.mem_append_right))))))) ?_ ?_
  · intro q hq
    simp only [List.mem_cons] at hq
    by_cases e : q = (I, o)
    · subst e
      exact Ne.symm (hI _ (.head _))
    · refine hla q ?_
      simp only [List.mem_cons]
      simpa only [e, false_or] using hq
  · rintro h tk a us ⟨m₁, F₁, N₁⟩ hne hus
    have haI : a ≠ I := Ne.symm (hne (I, o) (.tail _ (.tail _ (.tail _ (.tail _ (.head _))))))
    refine ⟨_, _, _, (la, listOf (va ++ [Value.ref a]).toArray (c + 1)) :: (a, listOf us.toArray 0) :: (L + 1 + 1 + 1, c2) :: (lw, listOf #[.int w0 t0, .int w1 t1, .int w2 t2, .int w3 t3] n) :: (ld, LCg.lst vd) :: (ax, lo) :: rest, rfl, F₁, news_sub N₁ ?_, ?_, ⟨⟨.tail _ (.tail _ (.tail _ (.tail _ (.tail _ (.head _))))), trivial⟩, next _ a us ⟨rfl, rfl, rfl, trivial⟩ ?_ haI hus⟩⟩
    · intro q hq
      exact subm (by (try simp only [List.nil_append, List.cons_append]); ((repeat ((with_reducible refine sub_c ?_ ?_); (focus (((with_reducible first | assumption | exact mem0 | exact mem1 | exact mem2 | exact mem3 | exact mem4 | exact mem5 | exact mem6 | exact mem7 | (refine mem_t ?_; first | exact mem0 | exact mem1 | exact mem2 | exact mem3 | exact mem4 | exact mem5 | exact mem6 | exact mem7 | (refine mem_t ?_; first | exact mem0 | exact mem1 | exact mem2 | exact mem3 | exact mem4 | exact mem5 | exact mem6 | exact mem7)) | (repeat first | assumption | exact List.mem_cons_self | apply List.mem_cons_of_mem | apply List.mem_append_right))))))); first | exact sub_n | assumption | exact sub_d 1 | exact sub_d 2 | exact sub_d 3 | exact sub_d 4 | exact sub_d 5 | exact sub_d 6 | exact sub_d 7 | exact sub_d 8 | exact sub_d 9 | exact sub_d 10 | exact sub_d 11 | exact sub_d 12 | exact sub_d 13 | exact sub_d 14 | exact sub_d 15 | exact sub_d 16 | exact sub_d 17 | exact sub_d 18 | exact sub_d 0 | (intro p hp; ((with_reducible (repeat first | assumption | (apply List.mem_append_left; assumption) | apply List.mem_cons_of_mem | apply List.mem_append_right)))))) q hq
    · intro q hq p hp
      have hp : p = (I, o) := by simpa using hp
      subst hp
      rcases List.mem_cons.mp hq with rfl | hq
      · exact hI (la, listOf va.toArray c) (.head _)
      rcases List.mem_cons.mp hq with rfl | hq
      · exact haI
      · exact hI q (.tail _ hq)
    · intro q hq
      refine hne q ?_
      exact subm (by (try simp only [List.nil_append, List.cons_append]); ((repeat ((with_reducible refine sub_c ?_ ?_); (focus (((with_reducible first | assumption | exact mem0 | exact mem1 | exact mem2 | exact mem3 | exact mem4 | exact mem5 | exact mem6 | exact mem7 | (refine mem_t ?_; first | exact mem0 | exact mem1 | exact mem2 | exact mem3 | exact mem4 | exact mem5 | exact mem6 | exact mem7 | (refine mem_t ?_; first | exact mem0 | exact mem1 | exact mem2 | exact mem3 | exact mem4 | exact mem5 | exact mem6 | exact mem7)) | (repeat first | assumption | exact List.mem_cons_self | apply List.mem_cons_of_mem | apply List.mem_append_right))))))); first | exact sub_n | assumption | exact sub_d 1 | exact sub_d 2 | exact sub_d 3 | exact sub_d 4 | exact sub_d 5 | exact sub_d 6 | exact sub_d 7 | exact sub_d 8 | exact sub_d 9 | exact sub_d 10 | exact sub_d 11 | exact sub_d 12 | exact sub_d 13 | exact sub_d 14 | exact sub_d 15 | exact sub_d 16 | exact sub_d 17 | exact sub_d 18 | exact sub_d 0 | (intro p hp; ((with_reducible (repeat first | assumption | (apply List.mem_append_left; assumption) | apply List.mem_cons_of_mem | apply List.mem_append_right)))))) q hq
end
theorem rs_28_3 {M : Model} {A : Around} {Q : Value → Shared → Prop} {E : Value → Shared → Prop} {s : Shared} (h : wpAny M A (call .none [.none]) Q E s) : wpAny M A (call .none [.none]) Q E s := by first | (walk1; fail "") | exact h
section
variable {w : World} {loose : List Str} {mean : ExcName → Option Value} {mg mb : Str → Option Value} {h₀ : Heap} {L fa : Addr} {cd : Value} {xh : Heap} {xg : Array GenState} {xd : Drawn} {xt : Nat} {xo : OsState} {m : Str → Option Value} {Q : Flow → Shared → Prop} {E : Value → Shared → Prop}
theorem st_8 {lw la ld : Addr} {c2 : Obj} {n : Nat} {t0 t1 t2 t3 tr : Tok} {w0 w1 w2 w3 : Int} {vd : List Value} {ds : List Int} {rest : List (Addr × Obj)} (G : LG w loose mean mg mb h₀) (hE : PassesOwn (LM w) (LA L fa cd) (lawEnv L fa cd) E) (W : Word4 w0 w1 w2 w3) (hvd : IntsAre vd ds) (hdl : ds.length = 10) (hc2 : c2.data = .cell (some (.ref la)))
    (S : At h₀ L xh [(Str.ofString "word", .ref lw), (Str.ofString "row", .bytes (octB w0 w1 w2 w3) tr), (Str.ofString "draws", .ref ld)] ((la, listOf #[] 0) :: (L + 1 + 1 + 1, c2) :: (lw, listOf #[.int w0 t0, .int w1 t1, .int w2 t2, .int w3 t3] n) :: (ld, LCg.lst vd) :: rest))
    (hla : ∀ q ∈ (L + 1 + 1 + 1, c2) :: (lw, listOf #[.int w0 t0, .int w1 t1, .int w2 t2, .int w3 t3] n) :: (ld, LCg.lst vd) :: rest, q.1 ≠ la)
    (k : ∀ h tk a0 a1 a2 us0 us1 us2, At h₀ L h [(Str.ofString "word", .ref lw)] ((la, listOf #[.ref a0, .ref a1, .ref a2] 3) :: (a0, listOf us0.toArray 0) :: (a1, listOf us1.toArray 0) :: (a2, listOf us2.toArray 0) :: (L + 1 + 1 + 1, c2) :: (lw, listOf #[.int w0 t0, .int w1 t1, .int w2 t2, .int w3 t3] n) :: rest) →
      (∀ q ∈ rest, q.1 ≠ a0 ∧ q.1 ≠ a1 ∧ q.1 ≠ a2) → IntsAre us0 (arrV w0 w1 w2 w3 ds 4) → IntsAre us1 (arrV w0 w1 w2 w3 ds 6) → IntsAre us2 (arrV w0 w1 w2 w3 ds 8) → Q .next ⟨h, xg, xd, tk, xo⟩) :
    wpAny (LM w) (LA L fa cd) (exec (lawSt 8) (lawEnv L fa cd)) Q E ⟨xh, xg, xd, xt, xo⟩ := by
  have K0 := G.K0
  have KX := G.KX
  have T := G.T
  refine At.use S ?_
  clear S
  intro m₀ mq F N
  have e : lawSt 8 = .For (.Name (Str.ofString "k") ⟨279, 8, 279, 9⟩) (stmtIter (lawSt 8)) arrB [] (stmtPos (lawSt 8)) := rfl
  rw [e]
  clear e
  refine For_turns F ?_ (hE := hE) (hs := fun _ => rfl)
  conv in stmtIter _ => whnf
  k_steps
  delta Stop
  rename Fr _ _ _ _ => F'
  rename News _ _ _ _ => N'
  rename (_ ∧ _ ∧ _ ∧ _ ∧ AllLt _ rest) => l1
  obtain ⟨b1, b2, b3, b4, b5⟩ := l1
  have b5' := allLt_ne b5
  refine iter_tupTurns rfl F' (news_sub (nx := (la, listOf #[] 0) :: (L + 1 + 1 + 1, c2) :: (lw, listOf #[.int w0 t0, .int w1 t1, .int w2 t2, .int w3 t3] n) :: (ld, LCg.lst vd) :: (_, { cls := .type "tuple", data := .seq #[.int 4 _, .int 6 _, .int 8 _] }) :: rest) N' (by (try simp only [List.nil_append, List.cons_append]); ((repeat ((with_reducible refine sub_c ?_ ?_); (focus (((with_reducible first | assumption | exact mem0 | exact mem1 | exact mem2 | exact mem3 | exact mem4 | exact mem5 | exact mem6 | exact mem7 | (refine mem_t ?_; first | exact mem0 | exact mem1 | exact mem2 | exact mem3 | exact mem4 | exact mem5 | exact mem6 | exact mem7 | (refine mem_t ?_; first | exact mem0 | exact mem1 | exact mem2 | exact mem3 | exact mem4 | exact mem5 | exact mem6 | exact mem7)) | (repeat first | assumption | exact List.mem_cons_self | apply List.mem_cons_of_mem | apply List.mem_append_right))))))); first | exact sub_n | assumption | exact sub_d 1 | exact sub_d 2 | exact sub_d 3 | exact sub_d 4 | exact sub_d 5 | exact sub_d 6 | exact sub_d 7 | exact sub_d 8 | exact sub_d 9 | exact sub_d 10 | exact sub_d 11 | exact sub_d 12 | exact sub_d 13 | exact sub_d 14 | exact sub_d 15 | exact sub_d 16 | exact sub_d 17 | exact sub_d 18 | exact sub_d 0 | (intro p hp; ((with_reducible (repeat first | assumption | (apply List.mem_append_left; assumption) | apply List.mem_cons_of_mem | apply List.mem_append_right))))))) (.tail _ (.tail _ (.tail _ (.tail _ (.head _))))) rfl rfl fun I hI => ?_
  have hI' := fun q hq => Nat.ne_of_lt (hI q hq)
  have x1 := fm_h hla
  have x := fm_t hla
  have x2 := fm_h x
  have x := fm_t x
  have x3 := fm_h x
  have x4 := fm_t x
  have y1 := fm_h hI'
  have y := fm_t hI'
  refine arr_item (kk := 4) (va := []) (c := 0) G W hvd hdl (by decide) (by decide) hc2 ⟨rfl, rfl, rfl, trivial⟩ (fm_c x1 (fm_c x2 (fm_c x3 (fm_c (Nat.ne_of_gt b1) x4)))) hI' fun m₁ a0 us0 hm0 hne0 haI0 hus0 => ?_
  have z1 := fm_h hne0
  have z := fm_t hne0
  have y2 := fm_h y
  have y := fm_t y
  have y3 := fm_h y
  have y := fm_t y
  have y4 := fm_h y
  have y := fm_t y
  have y5 := fm_h y
  have y6 := fm_t y
  refine items_sub (nx := (la, listOf ([] ++ [Value.ref a0]).toArray 1) :: (L + 1 + 1 + 1, c2) :: (lw, listOf #[.int w0 t0, .int w1 t1, .int w2 t2, .int w3 t3] n) :: (ld, LCg.lst vd) :: (_, { cls := .type "tuple", data := .seq #[.int 4 _, .int 6 _, .int 8 _] }) :: (a0, listOf us0.toArray 0) :: rest) (by (try simp only [List.nil_append, List.cons_append]); ((repeat ((with_reducible refine sub_c ?_ ?_); (focus (((with_reducible first | assumption | exact mem0 | exact mem1 | exact mem2 | exact mem3 | exact mem4 | exact mem5 | exact mem6 | exact mem7 | (refine mem_t ?_; first | exact mem0 | exact mem1 | exact mem2 | exact mem3 | exact mem4 | exact mem5 | exact mem6 | exact mem7 | (refine mem_t ?_; first | exact mem0 | exact mem1 | exact mem2 | exact mem3 | exact mem4 | exact mem5 | exact mem6 | exact mem7)) | (repeat first | assumption | exact List.mem_cons_self | apply List.mem_cons_of_mem | apply List.mem_append_right))))))); first | exact sub_n | assumption | exact sub_d 1 | exact sub_d 2 | exact sub_d 3 | exact sub_d 4 | exact sub_d 5 | exact sub_d 6 | exact sub_d 7 | exact sub_d 8 | exact sub_d 9 | exact sub_d 10 | exact sub_d 11 | exact sub_d 12 | exact sub_d 13 | exact sub_d 14 | exact sub_d 15 | exact sub_d 16 | exact sub_d 17 | exact sub_d 18 | exact sub_d 0 | (intro p hp; ((with_reducible (repeat first | assumption | (apply List.mem_append_left; assumption) | apply List.mem_cons_of_mem | apply List.mem_append_right)))))) ?_
  refine arr_item (kk := 6) (va := [] ++ [Value.ref a0]) (c := 1) G W hvd hdl (by decide) (by simp) hc2 hm0 (fm_c x1 (fm_c x2 (fm_c x3 (fm_c (Nat.ne_of_gt b1) (fm_c (Ne.symm z1) x4)))))
    (fm_c y1 (fm_c y2 (fm_c y3 (fm_c y4 (fm_c y5 (fm_c haI0 y6)))))) fun m₂ a1 us1 hm1 hne1 haI1 hus1 => ?_
  have v1 := fm_h hne1
  have v := fm_t hne1
  refine items_sub (nx := (la, listOf ([] ++ [Value.ref a0] ++ [Value.ref a1]).toArray 2) :: (L + 1 + 1 + 1, c2) :: (lw, listOf #[.int w0 t0, .int w1 t1, .int w2 t2, .int w3 t3] n) :: (ld, LCg.lst vd) :: (_, { cls := .type "tuple", data := .seq #[.int 4 _, .int 6 _, .int 8 _] }) :: (a1, listOf us1.toArray 0) :: (a0, listOf us0.toArray 0) :: rest) (by (try simp only [List.nil_append, List.cons_append]); ((repeat ((with_reducible refine sub_c ?_ ?_); (focus (((with_reducible first | assumption | exact mem0 | exact mem1 | exact mem2 | exact mem3 | exact mem4 | exact mem5 | exact mem6 | exact mem7 | (refine mem_t ?_; first | exact mem0 | exact mem1 | exact mem2 | exact mem3 | exact mem4 | exact mem5 | exact mem6 | exact mem7 | (refine mem_t ?_; first | exact mem0 | exact mem1 | exact mem2 | exact mem3 | exact mem4 | exact mem5 | exact mem6 | exact mem7)) | (repeat first | assumption | exact List.mem_cons_self | apply List.mem_cons_of_mem | apply List.mem_append_right))))))); first | exact sub_n | assumption | exact sub_d 1 | exact sub_d 2 | exact sub_d 3 | exact sub_d 4 | exact sub_d 5 | exact sub_d 6 | exact sub_d 7 | exact sub_d 8 | exact sub_d 9 | exact sub_d 10 | exact sub_d 11 | exact sub_d 12 | exact sub_d 13 | exact sub_d 14 | exact sub_d 15 | exact sub_d 16 | exact sub_d 17 | exact sub_d 18 | exact sub_d 0 | (intro p hp; ((with_reducible (repeat first | assumption | (apply List.mem_append_left; assumption) | apply List.mem_cons_of_mem | apply List.mem_append_right)))))) ?_
  refine arr_item (kk := 8) (va := [] ++ [Value.ref a0] ++ [Value.ref a1]) (c := 2) G W hvd hdl (by decide) (by simp) hc2 hm1 (fm_c x1 (fm_c x2 (fm_c x3 (fm_c (Nat.ne_of_gt b1) (fm_c (Ne.symm v1) (fm_c (Ne.symm z1) x4))))))
    (fm_c y1 (fm_c y2 (fm_c y3 (fm_c y4 (fm_c y5 (fm_c haI1 (fm_c haI0 y6))))))) fun m₃ a2 us2 hm2 hne2 haI2 hus2 => ItemsRest.zero fun h tk F N => ?_
  refine k _ _ a0 a1 a2 us0 us1 us2 (At.mk F N ⟨hm2.1, trivial⟩ ?_) (fun q hq => ⟨hne0 q (.tail _ (.tail _ (.tail _ (.tail _ (.tail _ hq))))), hne1 q (.tail _ (.tail _ (.tail _ (.tail _ (.tail _ (.tail _ hq)))))), hne2 q (.tail _ (.tail _ (.tail _ (.tail _ (.tail _ (.tail _ (.tail _ hq)))))))⟩) hus0 hus1 hus2
  intro q hq
  exact subm (by (try simp only [List.nil_append, List.cons_append]); ((repeat ((with_reducible refine sub_c ?_ ?_); (focus (((with_reducible first | assumption | exact mem0 | exact mem1 | exact mem2 | exact mem3 | exact mem4 | exact mem5 | exact mem6 | exact mem7 | (refine mem_t ?_; first | exact mem0 | exact mem1 | exact mem2 | exact mem3 | exact mem4 | exact mem5 | exact mem6 | exact mem7 | (refine mem_t ?_; first | exact mem0 | exact mem1 | exact mem2 | exact mem3 | exact mem4 | exact mem5 | exact mem6 | exact mem7)) | (repeat first | assumption | exact List.mem_cons_self | apply List.mem_cons_of_mem | apply List.mem_append_right))))))); first | exact sub_n | assumption | exact sub_d 1 | exact sub_d 2 | exact sub_d 3 | exact sub_d 4 | exact sub_d 5 | exact sub_d 6 | exact sub_d 7 | exact sub_d 8 | exact sub_d 9 | exact sub_d 10 | exact sub_d 11 | exact sub_d 12 | exact sub_d 13 | exact sub_d 14 | exact sub_d 15 | exact sub_d 16 | exact sub_d 17 | exact sub_d 18 | exact sub_d 0 | (intro p hp; ((with_reducible (repeat first | assumption | (apply List.mem_append_left; assumption) | apply List.mem_cons_of_mem | apply List.mem_append_right)))))) q hq
end

theorem strs_cons {vs : List Value} {a : Str} {ns : List Str} (h : StrsAre vs (a :: ns)) : ∃ t r, vs = .str a t :: r ∧ StrsAre r ns := by
  cases h with
  | cons _ t r => exact ⟨t, _, rfl, r⟩
theorem strs_nil {vs : List Value} (h : StrsAre vs []) : vs = [] := by cases h; rfl
theorem strs3 {vs : List Value} {a b c : Str} (h : StrsAre vs [a, b, c]) : ∃ t0 t1 t2, vs = [.str a t0, .str b t1, .str c t2] :=
  let ⟨t0, _, e0, h0⟩ := strs_cons h
  let ⟨t1, _, e1, h1⟩ := strs_cons h0
  let ⟨t2, _, e2, h2⟩ := strs_cons h1
  ⟨t0, t1, t2, by rw [e0, e1, e2, strs_nil h2]⟩
theorem rs_30_1 {M : Model} {A : Around} {Q : Value → Shared → Prop} {E : Value → Shared → Prop} {s : Shared} (h : wpAny M A (call .none [.none]) Q E s) : wpAny M A (call .none [.none]) Q E s := by first | (walk1; fail "") | exact h
section
variable {w : World} {loose : List Str} {mean : ExcName → Option Value} {mg mb : Str → Option Value} {h₀ : Heap} {L fa : Addr} {cd : Value} {xh : Heap} {xg : Array GenState} {xd : Drawn} {xt : Nat} {xo : OsState} {m : Str → Option Value} {Q : Flow → Shared → Prop} {E : Value → Shared → Prop}
theorem st_9 {la a0 a1 a2 : Addr} {c2 c3 : Obj} {us0 us1 us2 : List Value} {A0 A1 A2 : List Int} {ps : List (Str × Value)} {rest : List (Addr × Obj)} (G : LG w loose mean mg mb h₀) (hc2 : c2.data = .cell (some (.ref la))) (hc3 : c3.data = .cell none)
    (i0 : IntsAre us0 A0) (i1 : IntsAre us1 A1) (i2 : IntsAre us2 A2) (b0 : ∀ n ∈ A0, 0 ≤ n ∧ n < 68) (b1 : ∀ n ∈ A1, 0 ≤ n ∧ n < 68) (b2 : ∀ n ∈ A2, 0 ≤ n ∧ n < 68) (z0 : A0.length = 5) (z1 : A1.length = 5) (z2 : A2.length = 5)
    (S : At h₀ L xh ps ((la, listOf #[.ref a0, .ref a1, .ref a2] 3) :: (a0, listOf us0.toArray 0) :: (a1, listOf us1.toArray 0) :: (a2, listOf us2.toArray 0) :: (L + 1 + 1 + 1, c2) :: (L + 1 + 1 + 1 + 1, c3) :: rest))
    (hne : ∀ p ∈ (la, listOf #[.ref a0, .ref a1, .ref a2] 3) :: (a0, listOf us0.toArray 0) :: (a1, listOf us1.toArray 0) :: (a2, listOf us2.toArray 0) :: (L + 1 + 1 + 1, c2) :: rest, p.1 ≠ L + 1 + 1 + 1 + 1)
    (k : ∀ h tk lt c3' t0 t1 t2, c3'.data = .cell (some (.ref lt)) → At h₀ L h ps ((lt, listOf #[.str (textOf A0) t0, .str (textOf A1) t1, .str (textOf A2) t2] 3) :: (L + 1 + 1 + 1 + 1, c3') :: (la, listOf #[.ref a0, .ref a1, .ref a2] 3) :: (a0, listOf us0.toArray 0) :: (a1, listOf us1.toArray 0) :: (a2, listOf us2.toArray 0) :: (L + 1 + 1 + 1, c2) :: rest) →
      (∀ p ∈ rest, p.1 ≠ lt) → Q .next ⟨h, xg, xd, tk, xo⟩) :
    wpAny (LM w) (LA L fa cd) (exec (lawSt 9) (lawEnv L fa cd)) Q E ⟨xh, xg, xd, xt, xo⟩ := by
  have K0 := G.K0
  have KX := G.KX
  have T := G.T
  refine At.use S ?_
  clear S
  intro m₀ mq F N
  conv in lawSt 9 => whnf
  k_steps
  delta Stop
  rename Fr _ _ _ _ => F'
  rename News _ _ _ _ => N'
  refine LCg.CompSrc.ledger rfl F' N' (.head _) (by simp [sizeLine]) ?_
  intro g
  refine comp_Jn (fun i vs => StrsAre vs ([textOf A0, textOf A1, textOf A2].take i)) .nil ?_ ?_
  · clear F' N'
    rintro i vs hi hvs v I oI C oC D m₂ h tk E' hv hC hx F N off ne
    have hi3 : i = 0 ∨ i = 1 ∨ i = 2 := by
      have : i < 3 := hi
      lia
    rcases hi3 with rfl | rfl | rfl
    · have e : v = .ref a0 := (Option.some.inj hv).symm
      subst e
      k_steps
      delta Stop
      refine call_CV (text_spec (vs := us0) (ns := A0)) G ‹_› ‹_› ⟨by is_list, i0, b0, by lia⟩ (by decide) ?_
      intro t0 h tk F N
      k_steps
      exact LCg.CompEnd.intro F N _ (fun p hp => hp) off (Or.inr ⟨_, .head _, rfl, _, rfl⟩) ⟨rfl, strsAre_snoc hvs⟩
    · have e : v = .ref a1 := (Option.some.inj hv).symm
      subst e
      k_steps
      delta Stop
      refine call_CV (text_spec (vs := us1) (ns := A1)) G ‹_› ‹_› ⟨by is_list, i1, b1, by lia⟩ (by decide) ?_
      intro t0 h tk F N
      k_steps
      exact LCg.CompEnd.intro F N _ (fun p hp => hp) off (Or.inr ⟨_, .head _, rfl, _, rfl⟩) ⟨rfl, strsAre_snoc hvs⟩
    · have e : v = .ref a2 := (Option.some.inj hv).symm
      subst e
      k_steps
      delta Stop
      refine call_CV (text_spec (vs := us2) (ns := A2)) G ‹_› ‹_› ⟨by is_list, i2, b2, by lia⟩ (by decide) ?_
      intro t0 h tk F N
      k_steps
      exact LCg.CompEnd.intro F N _ (fun p hp => hp) off (Or.inr ⟨_, .head _, rfl, _, rfl⟩) ⟨rfl, strsAre_snoc hvs⟩
  · rintro vs hvs
    delta LCg.FinE
    intro D2 h2 tk2 F2 N2 off2
    clear F' N'
    have o2 := off1_mem off2
    obtain ⟨v0, v1, v2, rfl⟩ := strs3 hvs
    have n0 : @Ne Nat la (L + 1 + 1 + 1 + 1) := hne _ (.head _)
    have n1 : @Ne Nat a0 (L + 1 + 1 + 1 + 1) := hne _ (.tail _ (.head _))
    have n2 : @Ne Nat a1 (L + 1 + 1 + 1 + 1) := hne _ (.tail _ (.tail _ (.head _)))
    have n3 : @Ne Nat a2 (L + 1 + 1 + 1 + 1) := hne _ (.tail _ (.tail _ (.tail _ (.head _))))
    have n4 : @Ne Nat D2 (L + 1 + 1 + 1 + 1) := Ne.symm (o2 _ (.tail _ (.tail _ (.tail _ (.tail _ (.tail _ (.head _)))))))
    have n5 : ∀ p ∈ rest, p.1 ≠ L + 1 + 1 + 1 + 1 := fun p hp => hne p (.tail _ (.tail _ (.tail _ (.tail _ (.tail _ hp)))))
    clear off2
    k_steps
    rename Fr _ _ _ _ => F'
    rename News _ _ _ _ => N'
    refine k _ _ D2 _ v0 v1 v2 ‹_› ⟨_, F', news_sub N' (fm_c (.head _) (fun q hq => List.mem_cons_of_mem _ ?_))⟩ (fun p hp => o2 p (.tail _ (.tail _ (.tail _ (.tail _ (.tail _ (.tail _ hp)))))))
    exact subm (by (try simp only [List.nil_append, List.cons_append]); ((repeat ((with_reducible refine sub_c ?_ ?_); (focus (((with_reducible first | assumption | exact mem0 | exact mem1 | exact mem2 | exact mem3 | exact mem4 | exact mem5 | exact mem6 | exact mem7 | (refine mem_t ?_; first | exact mem0 | exact mem1 | exact mem2 | exact mem3 | exact mem4 | exact mem5 | exact mem6 | exact mem7 | (refine mem_t ?_; first | exact mem0 | exact mem1 | exact mem2 | exact mem3 | exact mem4 | exact mem5 | exact mem6 | exact mem7)) | (repeat first | assumption | exact List.mem_cons_self | apply List.mem_cons_of_mem | apply List.mem_append_right))))))); first | exact sub_n | assumption | exact sub_d 1 | exact sub_d 2 | exact sub_d 3 | exact sub_d 4 | exact sub_d 5 | exact sub_d 6 | exact sub_d 7 | exact sub_d 8 | exact sub_d 9 | exact sub_d 10 | exact sub_d 11 | exact sub_d 12 | exact sub_d 13 | exact sub_d 14 | exact sub_d 15 | exact sub_d 16 | exact sub_d 17 | exact sub_d 18 | exact sub_d 0 | (intro p hp; ((with_reducible (repeat first | assumption | (apply List.mem_append_left; assumption) | apply List.mem_cons_of_mem | apply List.mem_append_right)))))) q hq
end

noncomputable def pairB : List Stmt := stmtBody (lawSt 10)
noncomputable def pairSt (n : Nat) : Stmt := pairB.getD n (.Pass ⟨0, 0, 0, 0⟩)
noncomputable def costN (xs ys : List Int) (n : Nat) : List Int := (List.range n).map fun p => lcost (xs.getD p 0) (ys.getD p 0)
theorem costN_succ (xs ys : List Int) (n : Nat) : costN xs ys (n + 1) = costN xs ys n ++ [lcost (xs.getD n 0) (ys.getD n 0)] := by unfold costN; rw [List.range_succ, List.map_append]; rfl
noncomputable def dueV (xs ys : List Int) : Int := min 4 (costN xs ys 5).sum
theorem ref_item {prog : Program} {w : World} {A : Around} {E : Value → Shared → Prop} {xh : Heap} {xg : Array GenState} {xd : Drawn} {xt : Nat} {xo : OsState} {value slice : PySem.Expr} {l : Addr} {vs : Array Value} {k : Nat} {u : Tok} {v : Value} {Q : Value → Shared → Prop}
    (hl : xh.IsList l vs) (hk : vs[k]? = some v) (hz : k < 64) (h : Q v ⟨xh, xg, xd, xt, xo⟩)
    (hsub : subscripted slice false (.ref l) (.int (k : Int) u) = operate [.ref l, .int (k : Int) u] (getItem (.ref l) (.int (k : Int) u))) :
    wpAny (model prog w) A (subscriptTail value slice (.ref l) (.int (k : Int) u)) Q E ⟨xh, xg, xd, xt, xo⟩ :=
  tail_any hl.typeIs slot_list_getitem.lookup (wpAny_getItem_list hl (by lia) (by lia) (by simpa using hk) h) hsub
theorem rs_31_1 {M : Model} {A : Around} {Q : Value → Shared → Prop} {E : Value → Shared → Prop} {s : Shared} (h : wpAny M A (call .none [.none]) Q E s) : wpAny M A (call .none [.none]) Q E s := by first | (walk1; fail "") | exact h
section
variable {w : World} {loose : List Str} {mean : ExcName → Option Value} {mg mb : Str → Option Value} {h₀ : Heap} {L fa : Addr} {cd : Value} {xh : Heap} {xg : Array GenState} {xd : Drawn} {xt : Nat} {xo : OsState} {m : Str → Option Value} {Q : Flow → Shared → Prop} {E : Value → Shared → Prop}
theorem pair_0 {wv : Value} {la ai aj : Addr} {c2 c4 c5 : Obj} {i j ci : Nat} {ti tj : Tok} {va : Array Value} {ui uj : List Value} {X Y : List Int} {rest : List (Addr × Obj)} (G : LG w loose mean mg mb h₀) (hi : va[i]? = some (.ref ai)) (hj : va[j]? = some (.ref aj)) (zi : i < 64) (zj : j < 64)
    (hX : IntsAre ui X) (hY : IntsAre uj Y) (lX : X.length = 5) (lY : Y.length = 5) (hc2 : c2.data = .cell (some (.ref la))) (hc4 : c4.data = .cell (some (.int (i : Int) ti))) (hc5 : c5.data = .cell (some (.int (j : Int) tj)))
    (S : At h₀ L xh [(Str.ofString "word", wv)] ((la, listOf va ci) :: (ai, listOf ui.toArray 0) :: (aj, listOf uj.toArray 0) :: (L + 1 + 1 + 1, c2) :: (L + 1 + 1 + 1 + 1 + 1, c4) :: (L + 1 + 1 + 1 + 1 + 1 + 1, c5) :: rest))
    (k : ∀ h tk td, At h₀ L h [(Str.ofString "due", .int (dueV X Y) td), (Str.ofString "word", wv)] ((la, listOf va ci) :: (ai, listOf ui.toArray 0) :: (aj, listOf uj.toArray 0) :: (L + 1 + 1 + 1, c2) :: (L + 1 + 1 + 1 + 1 + 1, c4) :: (L + 1 + 1 + 1 + 1 + 1 + 1, c5) :: rest) → Q .next ⟨h, xg, xd, tk, xo⟩) :
    wpAny (LM w) (LA L fa cd) (exec (pairSt 0) (lawEnv L fa cd)) Q E ⟨xh, xg, xd, xt, xo⟩ := by
  have K0 := G.K0
  have KX := G.KX
  have T := G.T
  obtain ⟨m₀, F, N⟩ := S
  conv in pairSt 0 => whnf
  k_steps
  delta Stop
  rename IsRange _ _ _ _ _ _ _ _ => hrg
  rename Fr _ _ _ _ => lF'
  rename News _ _ _ _ => lN'
  refine LCg.CompSrc.range (n := 5) (by rfl) lF' lN' hrg (by decide) (by rfl) (by decide) ?_
  intro g
  refine comp_Jn (fun i vs => IntsAre vs (costN X Y i)) .nil ?_ ?_
  · clear lF' lN' hrg
    rintro p vs hp hvs v I oI C oC D m₂ h tk E' ⟨t, rfl⟩ hC hx F N off ne
    rw [Int.zero_add] at hx
    have mk1 := mark 12
    k_steps
    delta Stop
    refine ref_item (hsub := by with_unfolding_all rfl) (by is_list) hi zi ?_
    k_steps
    delta Stop
    refine int_item (hsub := by with_unfolding_all rfl) (ns := X) (by is_list) hX (by lia) (by lia) ?_
    intro t1
    k_steps
    delta Stop
    refine ref_item (hsub := by with_unfolding_all rfl) (by is_list) hj zj ?_
    k_steps
    delta Stop
    refine int_item (hsub := by with_unfolding_all rfl) (ns := Y) (by is_list) hY (by lia) (by lia) ?_
    intro t2
    k_steps
    delta Stop
    refine call_CV cost_spec G ‹_› ‹_› trivial (by decide) ?_
    intro t3 h tk F N
    k_steps
    refine LCg.CompEnd.intro F N _ (fun p hp => hp) off trivial ⟨rfl, ?_⟩
    rw [costN_succ]
    exact hvs.append (.cons _ _ .nil)
  · rintro vs hvs
    delta LCg.FinE
    intro D2 h2 tk2 F2 N2 off2
    k_steps
    delta Stop
    refine LSm.sum_ints F2 N2 rfl (vs := vs) (News.isList N2 (.head _)) hvs ?_
    intro h' tk t' F' N'
    have hD : dueV X Y = min 4 (costN X Y 5).sum := rfl
    generalize (costN X Y 5).sum = sm at *
    k_steps
    rename Fr _ _ _ _ => F'
    rename News _ _ _ _ => N'
    have e : (if sm < 4 then sm else 4) = dueV X Y := by rw [hD]; split <;> lia
    rw [e] at F'
    exact k _ _ _ (At.mk F' N' ⟨rfl, rfl, trivial⟩ fun p hp => .tail _ hp)
end

theorem glue_s (xs : List Nat) (n : Nat) (z : String) (h : Str.ofString z = ⟨#[n]⟩) : (⟨xs.toArray⟩ : Str) ++ Str.ofString z = ⟨(xs ++ [n]).toArray⟩ := by
  rw [h]
  show (⟨xs.toArray ++ #[n]⟩ : Str) = _
  simp
theorem rs_32_1 {M : Model} {A : Around} {Q : Value → Shared → Prop} {E : Value → Shared → Prop} {s : Shared} (h : wpAny M A (call .none [.none]) Q E s) : wpAny M A (call .none [.none]) Q E s := by first | (walk1; fail "") | exact h
section
variable {w : World} {loose : List Str} {mean : ExcName → Option Value} {mg mb : Str → Option Value} {h₀ : Heap} {L fa : Addr} {cd : Value} {xh : Heap} {xg : Array GenState} {xd : Drawn} {xt : Nat} {xo : OsState} {m : Str → Option Value} {Q : Flow → Shared → Prop} {E : Value → Shared → Prop}
theorem pair_1234 {wv : Value} {lt : Addr} {c3 c4 c5 c6 : Obj} {v6 : Option Value} {i j ci : Nat} {ti tj tx ty td : Tok} {vt : Array Value} {xs ys : List Nat} {d : Int} {rest : List (Addr × Obj)} (G : LG w loose mean mg mb h₀) (hi : vt[i]? = some (.str ⟨xs.toArray⟩ tx)) (hj : vt[j]? = some (.str ⟨ys.toArray⟩ ty)) (zi : i < 64) (zj : j < 64)
    (lX : xs.length = 5) (lY : ys.length = 5) (aX : ∀ c ∈ xs, c < 128) (aY : ∀ c ∈ ys, c < 128) (hc3 : c3.data = .cell (some (.ref lt))) (hc4 : c4.data = .cell (some (.int (i : Int) ti))) (hc5 : c5.data = .cell (some (.int (j : Int) tj))) (hc6 : c6.data = .cell v6)
    (h4 : levV xs ys 4 = d) (h0 : levV xs ys 0 = min 1 d) (h6 : levV (xs ++ [58]) (ys ++ [59]) 6 = d + 2)
    (S : At h₀ L xh [(Str.ofString "due", .int d td), (Str.ofString "word", wv)] ((L + 1 + 1 + 1 + 1 + 1 + 1 + 1, c6) :: (lt, listOf vt ci) :: (L + 1 + 1 + 1 + 1, c3) :: (L + 1 + 1 + 1 + 1 + 1, c4) :: (L + 1 + 1 + 1 + 1 + 1 + 1, c5) :: rest))
    (hne : ∀ p ∈ (lt, listOf vt ci) :: rest, p.1 ≠ L + 1 + 1 + 1 + 1 + 1 + 1 + 1)
    (k : ∀ h tk c6' v6', c6'.data = .cell v6' → At h₀ L h [(Str.ofString "word", wv)] ((L + 1 + 1 + 1 + 1 + 1 + 1 + 1, c6') :: (lt, listOf vt ci) :: (L + 1 + 1 + 1 + 1, c3) :: (L + 1 + 1 + 1 + 1 + 1, c4) :: (L + 1 + 1 + 1 + 1 + 1 + 1, c5) :: rest) → Q .next ⟨h, xg, xd, tk, xo⟩) :
    wpAny (LM w) (LA L fa cd) (execs [pairSt 1, pairSt 2, pairSt 3, pairSt 4] (lawEnv L fa cd)) Q E ⟨xh, xg, xd, xt, xo⟩ := by
  have K0 := G.K0
  have KX := G.KX
  have T := G.T
  refine At.use S ?_
  clear S
  intro m₀ mq F N
  conv in pairSt 1 => whnf
  conv in pairSt 2 => whnf
  conv in pairSt 3 => whnf
  conv in pairSt 4 => whnf
  have n1 : @Ne Nat lt (L + 1 + 1 + 1 + 1 + 1 + 1 + 1) := hne _ (.head _)
  have n2 : ∀ p ∈ rest, p.1 ≠ L + 1 + 1 + 1 + 1 + 1 + 1 + 1 := fun p hp => hne p (.tail _ hp)
  clear hne
  have mk1 := mark 12
  k_steps
  delta Stop
  refine ref_item (hsub := by with_unfolding_all rfl) (by is_list) hi zi ?_
  k_steps
  delta Stop
  refine ref_item (hsub := by with_unfolding_all rfl) (by is_list) hj zj ?_
  k_steps
  delta Stop
  refine call_CV lev_spec G ‹_› ‹_› ⟨by lia, by lia, aX, aY, by decide⟩ (by decide) ?_
  intro t h tk F N
  rw [h4]
  k_steps
  · exact absurd rfl ‹d ≠ d›
  delta Stop
  refine ref_item (hsub := by with_unfolding_all rfl) (by is_list) hi zi ?_
  k_steps
  delta Stop
  refine ref_item (hsub := by with_unfolding_all rfl) (by is_list) hj zj ?_
  k_steps
  delta Stop
  refine call_CV lev_spec G ‹_› ‹_› ⟨by lia, by lia, aX, aY, by decide⟩ (by decide) ?_
  intro t h tk F N
  rw [h0]
  k_steps
  · exact absurd (show min 1 d = if d < 1 then d else 1 by split <;> lia) ‹_›
  delta Stop
  refine ref_item (hsub := by with_unfolding_all rfl) (by is_list) hi zi ?_
  k_steps
  delta Stop
  refine ref_item (hsub := by with_unfolding_all rfl) (by is_list) hj zj ?_
  k_steps
  delta Stop
  rw [glue_s xs 58 ":" (by decide +kernel), glue_s ys 59 ";" (by decide +kernel)]
  refine call_CV lev_spec G ‹_› ‹_› ⟨by simp; lia, by simp; lia, ?_, ?_, by decide⟩ (by decide) ?_
  · intro c hc
    rcases List.mem_append.mp hc with hc | hc
    · exact aX c hc
    · rw [List.mem_singleton.mp hc]; decide
  · intro c hc
    rcases List.mem_append.mp hc with hc | hc
    · exact aY c hc
    · rw [List.mem_singleton.mp hc]; decide
  intro t h tk F N
  rw [h6]
  k_steps
  · exact absurd rfl ‹d + 2 ≠ d + 2›
  · rename Fr _ _ _ _ => F'
    rename News _ _ _ _ => N'
    have hd' := ‹Obj.data _ = Data.cell (some (Value.int d _))›
    exact k _ _ _ _ hd' (At.mk F' N' ⟨rfl, trivial⟩ fun p hp => hp)
end

theorem rs_33_1 {M : Model} {A : Around} {Q : Value → Shared → Prop} {E : Value → Shared → Prop} {s : Shared} (h : wpAny M A (call .none [.none]) Q E s) : wpAny M A (call .none [.none]) Q E s := by first | (walk1; fail "") | exact h
section
variable {w : World} {loose : List Str} {mean : ExcName → Option Value} {mg mb : Str → Option Value} {h₀ : Heap} {L fa : Addr} {cd : Value} {xh : Heap} {xg : Array GenState} {xd : Drawn} {xt : Nat} {xo : OsState} {m : Str → Option Value} {Q : Flow → Shared → Prop} {E : Value → Shared → Prop}
theorem pair_names {T : Addr} {c4 c5 : Obj} {v4 v5 : Option Value} {i j : Nat} {ti tj : Tok} {p1 p2 p3 : Pos} {R : List (Addr × Obj)} {Q : Unit → Shared → Prop} (G : LG w loose mean mg mb h₀) (F : Fr h₀ L xh m) (N : News h₀ L xh ((T, { cls := .type "tuple", data := .seq #[.int (i : Int) ti, .int (j : Int) tj] }) :: (L + 1 + 1 + 1 + 1 + 1, c4) :: (L + 1 + 1 + 1 + 1 + 1 + 1, c5) :: R))
    (hc4 : c4.data = .cell v4) (hc5 : c5.data = .cell v5) (hT4 : @Ne Nat T (L + 1 + 1 + 1 + 1 + 1)) (hT5 : @Ne Nat T (L + 1 + 1 + 1 + 1 + 1 + 1)) (hR4 : ∀ p ∈ R, p.1 ≠ L + 1 + 1 + 1 + 1 + 1) (hR5 : ∀ p ∈ R, p.1 ≠ L + 1 + 1 + 1 + 1 + 1 + 1)
    (k : ∀ h tk c4' c5', c4'.data = .cell (some (.int (i : Int) ti)) → c5'.data = .cell (some (.int (j : Int) tj)) → Fr h₀ L h m → News h₀ L h ((T, { cls := .type "tuple", data := .seq #[.int (i : Int) ti, .int (j : Int) tj] }) :: (L + 1 + 1 + 1 + 1 + 1, c4') :: (L + 1 + 1 + 1 + 1 + 1 + 1, c5') :: R) → Q () ⟨h, xg, xd, tk, xo⟩) :
    wpAny (LM w) (LA L fa cd) (assign (.Tuple [.Name (Str.ofString "i") p1, .Name (Str.ofString "j") p2] 0 p3) (lawEnv L fa cd) (.ref T)) Q E ⟨xh, xg, xd, xt, xo⟩ := by
  have K0 := G.K0
  have KX := G.KX
  have TT := G.T
  k_steps
  rename Fr _ _ _ _ => F'
  rename News _ _ _ _ => N'
  refine k _ _ _ _ ?a ?b F' N' <;> assumption
end
theorem rs_33_2 {M : Model} {A : Around} {Q : Value → Shared → Prop} {E : Value → Shared → Prop} {s : Shared} (h : wpAny M A (call .none [.none]) Q E s) : wpAny M A (call .none [.none]) Q E s := by first | (walk1; fail "") | exact h
section
variable {w : World} {loose : List Str} {mean : ExcName → Option Value} {mg mb : Str → Option Value} {h₀ : Heap} {L fa : Addr} {cd : Value} {xh : Heap} {xg : Array GenState} {xd : Drawn} {xt : Nat} {xo : OsState} {m : Str → Option Value} {Q : Flow → Shared → Prop} {E : Value → Shared → Prop}
theorem pair_item {T I ax la lt ai aj : Addr} {lo c2 c3 c4 c5 c6 : Obj} {v4 v5 v6 : Option Value} {i j : Nat} {ti tj tx ty : Tok} {va vt : Array Value} {ui uj : List Value} {X Y : List Int} {wv : Value} {p1 p2 p3 : Pos} {R : List (Addr × Obj)} {r : List Itm} (G : LG w loose mean mg mb h₀)
    (hi : va[i]? = some (.ref ai)) (hj : va[j]? = some (.ref aj)) (ki : vt[i]? = some (.str (textOf X) tx)) (kj : vt[j]? = some (.str (textOf Y) ty)) (zi : i < 64) (zj : j < 64)
    (hX : IntsAre ui X) (hY : IntsAre uj Y) (lX : X.length = 5) (lY : Y.length = 5) (bX : ∀ n ∈ X, 0 ≤ n ∧ n < 68) (bY : ∀ n ∈ Y, 0 ≤ n ∧ n < 68)
    (h4 : levV (X.map signC) (Y.map signC) 4 = dueV X Y) (h0 : levV (X.map signC) (Y.map signC) 0 = min 1 (dueV X Y)) (h6 : levV (X.map signC ++ [58]) (Y.map signC ++ [59]) 6 = dueV X Y + 2)
    (hc2 : c2.data = .cell (some (.ref la))) (hc3 : c3.data = .cell (some (.ref lt))) (hc4 : c4.data = .cell v4) (hc5 : c5.data = .cell v5) (hc6 : c6.data = .cell v6)
    (mT : (T, { cls := .type "tuple", data := .seq #[.int (i : Int) ti, .int (j : Int) tj] }) ∈ R) (ma : (la, listOf va 3) ∈ R) (mt : (lt, listOf vt 3) ∈ R) (mi : (ai, listOf ui.toArray 0) ∈ R) (mj : (aj, listOf uj.toArray 0) ∈ R) (m2 : (L + 1 + 1 + 1, c2) ∈ R) (m3 : (L + 1 + 1 + 1 + 1, c3) ∈ R) (mx : (ax, lo) ∈ R)
    (hR4 : ∀ p ∈ R, p.1 ≠ L + 1 + 1 + 1 + 1 + 1) (hR5 : ∀ p ∈ R, p.1 ≠ L + 1 + 1 + 1 + 1 + 1 + 1) (hR6 : ∀ p ∈ R, p.1 ≠ L + 1 + 1 + 1 + 1 + 1 + 1 + 1) (hRI : ∀ p ∈ R, p.1 ≠ I) (hI4 : I ≠ L + 1 + 1 + 1 + 1 + 1) (hI5 : I ≠ L + 1 + 1 + 1 + 1 + 1 + 1) (hI6 : I ≠ L + 1 + 1 + 1 + 1 + 1 + 1 + 1)
    (hm : Hs m [(Str.ofString "word", wv)])
    (next : ∀ m₁ c4' c5' c6' v4' v5' v6', c4'.data = .cell v4' → c5'.data = .cell v5' → c6'.data = .cell v6' → Hs m₁ [(Str.ofString "word", wv)] →
      ItemsRest PySem.Challenge.rw_op0087_01.row.prog w (LA L fa cd) E h₀ (lawEnv L fa cd) (.Tuple [.Name (Str.ofString "i") p1, .Name (Str.ofString "j") p2] 0 p3) pairB Q ⟨xh, xg, xd, xt, xo⟩ [(I, "tuple_iterator")] [(ax, lo)] r m₁ ((L + 1 + 1 + 1 + 1 + 1, c4') :: (L + 1 + 1 + 1 + 1 + 1 + 1, c5') :: (L + 1 + 1 + 1 + 1 + 1 + 1 + 1, c6') :: R)) :
    ItemsRest PySem.Challenge.rw_op0087_01.row.prog w (LA L fa cd) E h₀ (lawEnv L fa cd) (.Tuple [.Name (Str.ofString "i") p1, .Name (Str.ofString "j") p2] 0 p3) pairB Q ⟨xh, xg, xd, xt, xo⟩ [(I, "tuple_iterator")] [(ax, lo)] (.val (.ref T) :: r) m ((L + 1 + 1 + 1 + 1 + 1, c4) :: (L + 1 + 1 + 1 + 1 + 1 + 1, c5) :: (L + 1 + 1 + 1 + 1 + 1 + 1 + 1, c6) :: R) := by
  refine ItemsRest.val fun h tk F => AllObj.cons fun o _ => AllObj.nil fun N => ?_
  have c45 : L + 1 + 1 + 1 + 1 + 1 + 1 + 1 ≠ L + 1 + 1 + 1 + 1 + 1 := Nat.ne_of_gt (Nat.lt_succ_of_lt (Nat.lt_succ_self _))
  have c56 : L + 1 + 1 + 1 + 1 + 1 + 1 + 1 ≠ L + 1 + 1 + 1 + 1 + 1 + 1 := Nat.ne_of_gt (Nat.lt_succ_self _)
  refine pair_names (i := i) (j := j) (ti := ti) (tj := tj) (c4 := c4) (c5 := c5) (R := (L + 1 + 1 + 1 + 1 + 1 + 1 + 1, c6) :: (I, o) :: R) G F (news_sub N ?_) hc4 hc5 (hR4 _ mT) (hR5 _ mT) ?_ ?_ fun h tk c4 c5 hc4 hc5 F N => ?_
  · intro q hq
    exact subm (by (try simp only [List.nil_append, List.cons_append]); ((repeat ((with_reducible refine sub_c ?_ ?_); (focus (((with_reducible first | assumption | exact mem0 | exact mem1 | exact mem2 | exact mem3 | exact mem4 | exact mem5 | exact mem6 | exact mem7 | (refine mem_t ?_; first | exact mem0 | exact mem1 | exact mem2 | exact mem3 | exact mem4 | exact mem5 | exact mem6 | exact mem7 | (refine mem_t ?_; first | exact mem0 | exact mem1 | exact mem2 | exact mem3 | exact mem4 | exact mem5 | exact mem6 | exact mem7)) | (repeat first | assumption | exact List.mem_cons_self | apply List.mem_cons_of_mem | apply List.mem_append_right))))))); first | exact sub_n | assumption | exact sub_d 1 | exact sub_d 2 | exact sub_d 3 | exact sub_d 4 | exact sub_d 5 | exact sub_d 6 | exact sub_d 7 | exact sub_d 8 | exact sub_d 9 | exact sub_d 10 | exact sub_d 11 | exact sub_d 12 | exact sub_d 13 | exact sub_d 14 | exact sub_d 15 | exact sub_d 16 | exact sub_d 17 | exact sub_d 18 | exact sub_d 0 | (intro p hp; ((with_reducible (repeat first | assumption | (apply List.mem_append_left; assumption) | apply List.mem_cons_of_mem | apply List.mem_append_right)))))) q hq
  · exact fm_c c45 (fm_c hI4 hR4)
  · exact fm_c c56 (fm_c hI5 hR5)
  have e : pairB = pairSt 0 :: [pairSt 1, pairSt 2, pairSt 3, pairSt 4] := rfl
  have S : At h₀ L h [(Str.ofString "word", wv)] ((la, listOf va 3) :: (ai, listOf ui.toArray 0) :: (aj, listOf uj.toArray 0) :: (L + 1 + 1 + 1, c2) :: (L + 1 + 1 + 1 + 1 + 1, c4) :: (L + 1 + 1 + 1 + 1 + 1 + 1, c5) :: (L + 1 + 1 + 1 + 1 + 1 + 1 + 1, c6) :: (I, o) :: R) := by
    refine At.mk F N ⟨hm.1, trivial⟩ fun q hq => ?_
    exact subm (by (try simp only [List.nil_append, List.cons_append]); ((repeat ((with_reducible refine sub_c ?_ ?_); (focus (((with_reducible first | assumption | exact mem0 | exact mem1 | exact mem2 | exact mem3 | exact mem4 | exact mem5 | exact mem6 | exact mem7 | (refine mem_t ?_; first | exact mem0 | exact mem1 | exact mem2 | exact mem3 | exact mem4 | exact mem5 | exact mem6 | exact mem7 | (refine mem_t ?_; first | exact mem0 | exact mem1 | exact mem2 | exact mem3 | exact mem4 | exact mem5 | exact mem6 | exact mem7)) | (repeat first | assumption | exact List.mem_cons_self | apply List.mem_cons_of_mem | apply List.mem_append_right))))))); first | exact sub_n | assumption | exact sub_d 1 | exact sub_d 2 | exact sub_d 3 | exact sub_d 4 | exact sub_d 5 | exact sub_d 6 | exact sub_d 7 | exact sub_d 8 | exact sub_d 9 | exact sub_d 10 | exact sub_d 11 | exact sub_d 12 | exact sub_d 13 | exact sub_d 14 | exact sub_d 15 | exact sub_d 16 | exact sub_d 17 | exact sub_d 18 | exact sub_d 0 | (intro p hp; ((with_reducible (repeat first | assumption | (apply List.mem_append_left; assumption) | apply List.mem_cons_of_mem | apply List.mem_append_right)))))) q hq
  rw [e]
  refine wpAny_execs_cons (pair_0 G hi hj zi zj hX hY lX lY hc2 hc4 hc5 S fun h tk td S => ?_)
  dsimp only
  refine pair_1234 (rest := (I, o) :: R) (ci := 3) (xs := X.map signC) (ys := Y.map signC) G ki kj zi zj (by rw [List.length_map]; exact lX) (by rw [List.length_map]; exact lY) (fun c hc => ?_) (fun c hc => ?_) hc3 hc4 hc5 hc6 h4 h0 h6 (S.sub (fun m₀ => ⟨rfl, rfl, trivial⟩) fun q hq => ?_) (fm_c (hR6 _ mt) (fm_c hI6 hR6)) fun h tk c6 v6 hc6 S => ?_
  · obtain ⟨n, hn, rfl⟩ := List.mem_map.mp hc
    exact (signC_lt (bX n hn)).1
  · obtain ⟨n, hn, rfl⟩ := List.mem_map.mp hc
    exact (signC_lt (bY n hn)).1
  · exact subm (by (try simp only [List.nil_append, List.cons_append]); ((repeat ((with_reducible refine sub_c ?_ ?_); (focus (((with_reducible first | assumption | exact mem0 | exact mem1 | exact mem2 | exact mem3 | exact mem4 | exact mem5 | exact mem6 | exact mem7 | (refine mem_t ?_; first | exact mem0 | exact mem1 | exact mem2 | exact mem3 | exact mem4 | exact mem5 | exact mem6 | exact mem7 | (refine mem_t ?_; first | exact mem0 | exact mem1 | exact mem2 | exact mem3 | exact mem4 | exact mem5 | exact mem6 | exact mem7)) | (repeat first | assumption | exact List.mem_cons_self | apply List.mem_cons_of_mem | apply List.mem_append_right))))))); first | exact sub_n | assumption | exact sub_d 1 | exact sub_d 2 | exact sub_d 3 | exact sub_d 4 | exact sub_d 5 | exact sub_d 6 | exact sub_d 7 | exact sub_d 8 | exact sub_d 9 | exact sub_d 10 | exact sub_d 11 | exact sub_d 12 | exact sub_d 13 | exact sub_d 14 | exact sub_d 15 | exact sub_d 16 | exact sub_d 17 | exact sub_d 18 | exact sub_d 0 | (intro p hp; ((with_reducible (repeat first | assumption | (apply List.mem_append_left; assumption) | apply List.mem_cons_of_mem | apply List.mem_append_right)))))) q hq
  obtain ⟨m₁, F₁, N₁⟩ := S
  refine ⟨_, _, _, (L + 1 + 1 + 1 + 1 + 1, c4) :: (L + 1 + 1 + 1 + 1 + 1 + 1, c5) :: (L + 1 + 1 + 1 + 1 + 1 + 1 + 1, c6) :: R, rfl, F₁, news_sub N₁ ?_, ?_, ⟨⟨.tail _ (.tail _ (.tail _ mx)), trivial⟩, next _ c4 c5 c6 _ _ _ hc4 hc5 hc6 ⟨rfl, trivial⟩⟩⟩
  · intro q hq
    exact subm (by (try simp only [List.nil_append, List.cons_append]); ((repeat ((with_reducible refine sub_c ?_ ?_); (focus (((with_reducible first | assumption | exact mem0 | exact mem1 | exact mem2 | exact mem3 | exact mem4 | exact mem5 | exact mem6 | exact mem7 | (refine mem_t ?_; first | exact mem0 | exact mem1 | exact mem2 | exact mem3 | exact mem4 | exact mem5 | exact mem6 | exact mem7 | (refine mem_t ?_; first | exact mem0 | exact mem1 | exact mem2 | exact mem3 | exact mem4 | exact mem5 | exact mem6 | exact mem7)) | (repeat first | assumption | exact List.mem_cons_self | apply List.mem_cons_of_mem | apply List.mem_append_right))))))); first | exact sub_n | assumption | exact sub_d 1 | exact sub_d 2 | exact sub_d 3 | exact sub_d 4 | exact sub_d 5 | exact sub_d 6 | exact sub_d 7 | exact sub_d 8 | exact sub_d 9 | exact sub_d 10 | exact sub_d 11 | exact sub_d 12 | exact sub_d 13 | exact sub_d 14 | exact sub_d 15 | exact sub_d 16 | exact sub_d 17 | exact sub_d 18 | exact sub_d 0 | (intro p hp; ((with_reducible (repeat first | assumption | (apply List.mem_append_left; assumption) | apply List.mem_cons_of_mem | apply List.mem_append_right)))))) q hq
  · intro q hq p hp
    have hp : p = (I, o) := by simpa using hp
    subst hp
    rcases List.mem_cons.mp hq with rfl | hq
    · exact Ne.symm hI4
    rcases List.mem_cons.mp hq with rfl | hq
    · exact Ne.symm hI5
    rcases List.mem_cons.mp hq with rfl | hq
    · exact Ne.symm hI6
    · exact hRI q hq
end

theorem perm43 {a b c d e f g : Addr × Obj} {R : List (Addr × Obj)} : ∀ q ∈ e :: f :: g :: a :: b :: c :: d :: R, q ∈ a :: b :: c :: d :: e :: f :: g :: R := fun q hq => by
  exact subm (by (try simp only [List.nil_append, List.cons_append]); ((repeat ((with_reducible refine sub_c ?_ ?_); (focus (((with_reducible first | assumption | exact mem0 | exact mem1 | exact mem2 | exact mem3 | exact mem4 | exact mem5 | exact mem6 | exact mem7 | (refine mem_t ?_; first | exact mem0 | exact mem1 | exact mem2 | exact mem3 | exact mem4 | exact mem5 | exact mem6 | exact mem7 | (refine mem_t ?_; first | exact mem0 | exact mem1 | exact mem2 | exact mem3 | exact mem4 | exact mem5 | exact mem6 | exact mem7)) | (repeat first | assumption | exact List.mem_cons_self | apply List.mem_cons_of_mem | apply List.mem_append_right))))))); first | exact sub_n | assumption | exact sub_d 1 | exact sub_d 2 | exact sub_d 3 | exact sub_d 4 | exact sub_d 5 | exact sub_d 6 | exact sub_d 7 | exact sub_d 8 | exact sub_d 9 | exact sub_d 10 | exact sub_d 11 | exact sub_d 12 | exact sub_d 13 | exact sub_d 14 | exact sub_d 15 | exact sub_d 16 | exact sub_d 17 | exact sub_d 18 | exact sub_d 0 | (intro p hp; ((with_reducible (repeat first | assumption | (apply List.mem_append_left; assumption) | apply List.mem_cons_of_mem | apply List.mem_append_right)))))) q hq
theorem ne4 {a b c d : Addr × Obj} {R : List (Addr × Obj)} {x : Addr} (h1 : @Ne Nat a.1 x) (h2 : @Ne Nat b.1 x) (h3 : @Ne Nat c.1 x) (h4 : @Ne Nat d.1 x) (hr : ∀ p ∈ R, p.1 ≠ x) : ∀ p ∈ a :: b :: c :: d :: R, p.1 ≠ x :=
  fm_c h1 (fm_c h2 (fm_c h3 (fm_c h4 hr)))
noncomputable def PairOK (X Y : List Int) : Prop := levV (X.map signC) (Y.map signC) 4 = dueV X Y ∧ levV (X.map signC) (Y.map signC) 0 = min 1 (dueV X Y) ∧ levV (X.map signC ++ [58]) (Y.map signC ++ [59]) 6 = dueV X Y + 2
noncomputable def Five (X : List Int) : Prop := X.length = 5 ∧ ∀ n ∈ X, 0 ≤ n ∧ n < 68
theorem rs_34_1 {M : Model} {A : Around} {Q : Value → Shared → Prop} {E : Value → Shared → Prop} {s : Shared} (h : wpAny M A (call .none [.none]) Q E s) : wpAny M A (call .none [.none]) Q E s := by first | (walk1; fail "") | exact h
section
variable {w : World} {loose : List Str} {mean : ExcName → Option Value} {mg mb : Str → Option Value} {h₀ : Heap} {L fa : Addr} {cd : Value} {xh : Heap} {xg : Array GenState} {xd : Drawn} {xt : Nat} {xo : OsState} {m : Str → Option Value} {Q : Flow → Shared → Prop} {E : Value → Shared → Prop}
theorem st_10 {la lt a0 a1 a2 : Addr} {c2 c3 c4 c5 c6 : Obj} {v4 v5 v6 : Option Value} {t0 t1 t2 : Tok} {us0 us1 us2 : List Value} {A0 A1 A2 : List Int} {wv : Value} {rest : List (Addr × Obj)} (G : LG w loose mean mg mb h₀) (hE : PassesOwn (LM w) (LA L fa cd) (lawEnv L fa cd) E)
    (i0 : IntsAre us0 A0) (i1 : IntsAre us1 A1) (i2 : IntsAre us2 A2) (f0 : Five A0) (f1 : Five A1) (f2 : Five A2) (P01 : PairOK A0 A1) (P02 : PairOK A0 A2) (P12 : PairOK A1 A2)
    (hc2 : c2.data = .cell (some (.ref la))) (hc3 : c3.data = .cell (some (.ref lt))) (hc4 : c4.data = .cell v4) (hc5 : c5.data = .cell v5) (hc6 : c6.data = .cell v6)
    (S : At h₀ L xh [(Str.ofString "word", wv)] ((L + 1 + 1 + 1 + 1 + 1, c4) :: (L + 1 + 1 + 1 + 1 + 1 + 1, c5) :: (L + 1 + 1 + 1 + 1 + 1 + 1 + 1, c6) :: (lt, listOf #[.str (textOf A0) t0, .str (textOf A1) t1, .str (textOf A2) t2] 3) :: (L + 1 + 1 + 1 + 1, c3) :: (la, listOf #[.ref a0, .ref a1, .ref a2] 3) :: (a0, listOf us0.toArray 0) :: (a1, listOf us1.toArray 0) :: (a2, listOf us2.toArray 0) :: (L + 1 + 1 + 1, c2) :: rest))
    (hne : ∀ p ∈ (lt, listOf #[.str (textOf A0) t0, .str (textOf A1) t1, .str (textOf A2) t2] 3) :: (L + 1 + 1 + 1 + 1, c3) :: (la, listOf #[.ref a0, .ref a1, .ref a2] 3) :: (a0, listOf us0.toArray 0) :: (a1, listOf us1.toArray 0) :: (a2, listOf us2.toArray 0) :: (L + 1 + 1 + 1, c2) :: rest, p.1 ≠ L + 1 + 1 + 1 + 1 + 1 ∧ p.1 ≠ L + 1 + 1 + 1 + 1 + 1 + 1 ∧ p.1 ≠ L + 1 + 1 + 1 + 1 + 1 + 1 + 1)
    (k : ∀ h tk c6' v6', c6'.data = .cell v6' → At h₀ L h [(Str.ofString "word", wv)] ((L + 1 + 1 + 1 + 1 + 1 + 1 + 1, c6') :: (lt, listOf #[.str (textOf A0) t0, .str (textOf A1) t1, .str (textOf A2) t2] 3) :: (L + 1 + 1 + 1 + 1, c3) :: (la, listOf #[.ref a0, .ref a1, .ref a2] 3) :: (a0, listOf us0.toArray 0) :: (a1, listOf us1.toArray 0) :: (a2, listOf us2.toArray 0) :: (L + 1 + 1 + 1, c2) :: rest) → Q .next ⟨h, xg, xd, tk, xo⟩) :
    wpAny (LM w) (LA L fa cd) (exec (lawSt 10) (lawEnv L fa cd)) Q E ⟨xh, xg, xd, xt, xo⟩ := by
  have K0 := G.K0
  have KX := G.KX
  have T := G.T
  refine At.use S ?_
  clear S
  intro m₀ mq F N
  have e : lawSt 10 = .For (.Tuple [.Name (Str.ofString "i") ⟨300, 8, 300, 9⟩, .Name (Str.ofString "j") ⟨300, 11, 300, 12⟩] 0 ⟨300, 8, 300, 12⟩) (stmtIter (lawSt 10)) pairB [] (stmtPos (lawSt 10)) := rfl
  rw [e]
  clear e
  refine For_turns F ?_ (hE := hE) (hs := fun _ => rfl)
  conv in stmtIter _ => whnf
  generalize hR : ((lt, listOf #[.str (textOf A0) t0, .str (textOf A1) t1, .str (textOf A2) t2] 3) :: (L + 1 + 1 + 1 + 1, c3) :: (la, listOf #[.ref a0, .ref a1, .ref a2] 3) :: (a0, listOf us0.toArray 0) :: (a1, listOf us1.toArray 0) :: (a2, listOf us2.toArray 0) :: (L + 1 + 1 + 1, c2) :: rest) = R at *
  as_aux_lemma =>
  k_steps
  delta Stop
  rename Fr _ _ _ _ => F'
  rename News _ _ _ _ => N'
  rename (_ ∧ _ ∧ _ ∧ _ ∧ _ ∧ _ ∧ AllLt _ R) => b0
  rename (_ ∧ _ ∧ _ ∧ _ ∧ _ ∧ AllLt _ R) => b1
  rename (_ ∧ _ ∧ _ ∧ _ ∧ AllLt _ R) => b2
  rename (_ ∧ _ ∧ _ ∧ AllLt _ R) => b3
  have x4 := b0.2.2.2.1
  have x5 := b0.2.2.2.2.1
  have x6 := b0.2.2.2.2.2.1
  have y4 := b1.2.2.1
  have y5 := b1.2.2.2.1
  have y6 := b1.2.2.2.2.1
  have z4 := b2.2.1
  have z5 := b2.2.2.1
  have z6 := b2.2.2.2.1
  have u4 := b3.1
  have u5 := b3.2.1
  have u6 := b3.2.2.1
  clear b0 b1 b2 b3
  as_aux_lemma =>
  have mt : (lt, listOf #[.str (textOf A0) t0, .str (textOf A1) t1, .str (textOf A2) t2] 3) ∈ R := hR ▸ .head _
  have m3 : (L + 1 + 1 + 1 + 1, c3) ∈ R := hR ▸ .tail _ (.head _)
  have ma : (la, listOf #[.ref a0, .ref a1, .ref a2] 3) ∈ R := hR ▸ .tail _ (.tail _ (.head _))
  have q0 : (a0, listOf us0.toArray 0) ∈ R := hR ▸ .tail _ (.tail _ (.tail _ (.head _)))
  have q1 : (a1, listOf us1.toArray 0) ∈ R := hR ▸ .tail _ (.tail _ (.tail _ (.tail _ (.head _))))
  have q2 : (a2, listOf us2.toArray 0) ∈ R := hR ▸ .tail _ (.tail _ (.tail _ (.tail _ (.tail _ (.head _)))))
  have m2 : (L + 1 + 1 + 1, c2) ∈ R := hR ▸ .tail _ (.tail _ (.tail _ (.tail _ (.tail _ (.tail _ (.head _))))))
  have hup : ∀ {p : Addr × Obj} {d0 d1 d2 d3 : Addr × Obj}, p ∈ R → p ∈ d0 :: d1 :: d2 :: d3 :: R := fun h => .tail _ (.tail _ (.tail _ (.tail _ h)))
  refine iter_tupTurns rfl F' (news_sub N' perm43) (.tail _ (.tail _ (.tail _ (.head _)))) rfl rfl fun I hI => ?_
  have hI' := fun q hq => Nat.ne_of_lt (hI q hq)
  have w4 := fm_h hI'
  have hI1 := fm_t hI'
  have w5 := fm_h hI1
  have hI1 := fm_t hI1
  have w6 := fm_h hI1
  have hRI := fm_t hI1
  refine pair_item (i := 0) (j := 1) G rfl rfl rfl rfl (by decide) (by decide) i0 i1 f0.1 f1.1 f0.2 f1.2 P01.1 P01.2.1 P01.2.2 hc2 hc3 hc4 hc5 hc6 (.tail _ (.tail _ (.tail _ (.head _)))) (hup ma) (hup mt) (hup q0) (hup q1) (hup m2) (hup m3) (.head _) (ne4 (Nat.ne_of_gt x4) (Nat.ne_of_gt y4) (Nat.ne_of_gt z4) (Nat.ne_of_gt u4) fun p hp => (hne p hp).1) (ne4 (Nat.ne_of_gt x5) (Nat.ne_of_gt y5) (Nat.ne_of_gt z5) (Nat.ne_of_gt u5) fun p hp => (hne p hp).2.1) (ne4 (Nat.ne_of_gt x6) (Nat.ne_of_gt y6) (Nat.ne_of_gt z6) (Nat.ne_of_gt u6) fun p hp => (hne p hp).2.2) hRI (Ne.symm w4) (Ne.symm w5) (Ne.symm w6) ⟨rfl, trivial⟩ fun m₁ c4 c5 c6 v4 v5 v6 hc4 hc5 hc6 hm => ?_
  refine pair_item (i := 0) (j := 2) G rfl rfl rfl rfl (by decide) (by decide) i0 i2 f0.1 f2.1 f0.2 f2.2 P02.1 P02.2.1 P02.2.2 hc2 hc3 hc4 hc5 hc6 (.tail _ (.tail _ (.head _))) (hup ma) (hup mt) (hup q0) (hup q2) (hup m2) (hup m3) (.head _) (ne4 (Nat.ne_of_gt x4) (Nat.ne_of_gt y4) (Nat.ne_of_gt z4) (Nat.ne_of_gt u4) fun p hp => (hne p hp).1) (ne4 (Nat.ne_of_gt x5) (Nat.ne_of_gt y5) (Nat.ne_of_gt z5) (Nat.ne_of_gt u5) fun p hp => (hne p hp).2.1) (ne4 (Nat.ne_of_gt x6) (Nat.ne_of_gt y6) (Nat.ne_of_gt z6) (Nat.ne_of_gt u6) fun p hp => (hne p hp).2.2) hRI (Ne.symm w4) (Ne.symm w5) (Ne.symm w6) hm fun m₁ c4 c5 c6 v4 v5 v6 hc4 hc5 hc6 hm => ?_
  refine pair_item (i := 1) (j := 2) G rfl rfl rfl rfl (by decide) (by decide) i1 i2 f1.1 f2.1 f1.2 f2.2 P12.1 P12.2.1 P12.2.2 hc2 hc3 hc4 hc5 hc6 (.tail _ (.head _)) (hup ma) (hup mt) (hup q1) (hup q2) (hup m2) (hup m3) (.head _) (ne4 (Nat.ne_of_gt x4) (Nat.ne_of_gt y4) (Nat.ne_of_gt z4) (Nat.ne_of_gt u4) fun p hp => (hne p hp).1) (ne4 (Nat.ne_of_gt x5) (Nat.ne_of_gt y5) (Nat.ne_of_gt z5) (Nat.ne_of_gt u5) fun p hp => (hne p hp).2.1) (ne4 (Nat.ne_of_gt x6) (Nat.ne_of_gt y6) (Nat.ne_of_gt z6) (Nat.ne_of_gt u6) fun p hp => (hne p hp).2.2) hRI (Ne.symm w4) (Ne.symm w5) (Ne.symm w6) hm fun m₁ c4 c5 c6 v4 v5 v6 hc4 hc5 hc6 hm => ItemsRest.zero fun h tk F N => ?_
  exact k _ _ c6 v6 hc6 (At.mk F N hm fun q hq => by
    exact subm (by (try simp only [List.nil_append, List.cons_append]); ((repeat ((with_reducible refine sub_c ?_ ?_); (focus (((with_reducible first | assumption | exact mem0 | exact mem1 | exact mem2 | exact mem3 | exact mem4 | exact mem5 | exact mem6 | exact mem7 | (refine mem_t ?_; first | exact mem0 | exact mem1 | exact mem2 | exact mem3 | exact mem4 | exact mem5 | exact mem6 | exact mem7 | (refine mem_t ?_; first | exact mem0 | exact mem1 | exact mem2 | exact mem3 | exact mem4 | exact mem5 | exact mem6 | exact mem7)) | (repeat first | assumption | exact List.mem_cons_self | apply List.mem_cons_of_mem | apply List.mem_append_right))))))); first | exact sub_n | assumption | exact sub_d 1 | exact sub_d 2 | exact sub_d 3 | exact sub_d 4 | exact sub_d 5 | exact sub_d 6 | exact sub_d 7 | exact sub_d 8 | exact sub_d 9 | exact sub_d 10 | exact sub_d 11 | exact sub_d 12 | exact sub_d 13 | exact sub_d 14 | exact sub_d 15 | exact sub_d 16 | exact sub_d 17 | exact sub_d 18 | exact sub_d 0 | (intro p hp; ((with_reducible (repeat first | assumption | (apply List.mem_append_left; assumption) | apply List.mem_cons_of_mem | apply List.mem_append_right)))))) q hq)
end

noncomputable def scs : List Nat → List Nat → Int
  | x :: xs, y :: ys => sc x y + scs xs ys
  | _, _ => 0
theorem ed_nonneg (u v : List Nat) : 0 ≤ ed u v := by
  have := ed_len u v
  omega
theorem ed_self : ∀ u : List Nat, ed u u = 0
  | [] => by simp [ed]
  | c :: u => by rw [ed_head, ed_self u]
theorem scs_nonneg : ∀ u v : List Nat, 0 ≤ scs u v
  | x :: u, y :: v => by
    have h1 := scs_nonneg u v
    have h2 := sc_in x y
    rw [scs]; exact Int.add_nonneg h2.1 h1
  | [], _ => by simp [scs]
  | _ :: _, [] => by simp [scs]
theorem ed_le_scs : ∀ u v : List Nat, u.length = v.length → ed u v ≤ scs u v
  | [], [], _ => by simp [ed, scs]
  | x :: u, y :: v, h => by
    have h1 := ed_le_scs u v (by simpa using h)
    rw [ed_cons, scs]
    exact Int.le_trans (Int.min_le_right _ _) (Int.le_trans (Int.add_le_add_right h1 _) (Int.le_of_eq (Int.add_comm _ _)))
  | [], _ :: _, h => by cases h
  | _ :: _, [], h => by cases h
theorem ed_ge_scs : ∀ u v : List Nat, u.length = v.length → min 4 (scs u v) ≤ ed u v
  | [], [], _ => by simp only [ed, scs]; decide
  | x :: u, y :: v, h => by
    have h0 : u.length = v.length := by simpa using h
    have h1 := ed_ge_scs u v h0
    have h2 := (ed_len u (y :: v)).2
    have h3 := (ed_len (x :: u) v).1
    have h4 := sc_in x y
    simp only [List.length_cons, h0] at h2 h3
    have hA : ∀ {z : Int}, 2 * (((v.length + 1 : Nat) : Int) - (v.length : Nat)) ≤ z → 4 ≤ z + 2 := fun h => by omega
    rw [ed_cons, scs]
    exact le_mm (Int.le_trans (Int.min_le_left _ _) (hA h2)) (Int.le_trans (Int.min_le_left _ _) (hA h3)) (Int.le_trans (min_ge (Int.le_trans (Int.min_le_left _ _) (Int.le_add_of_nonneg_right h4.1)) (Int.le_trans (Int.min_le_right _ _) (Int.le_of_eq (Int.add_comm _ _)))) (Int.add_le_add_right h1 _))
  | [], _ :: _, h => by cases h
  | _ :: _, [], h => by cases h
theorem sc_pos {c d : Nat} (h : c ≠ d) : 1 ≤ sc c d := by
  unfold sc
  rw [if_neg h]
  split <;> decide
theorem scs_pos : ∀ u v : List Nat, u.length = v.length → u ≠ v → 1 ≤ scs u v
  | [], [], _, h => absurd rfl h
  | x :: u, y :: v, hl, h => by
    have h2 := sc_in x y
    have h3 := scs_nonneg u v
    rw [scs]
    by_cases e : x = y
    · subst e
      exact Int.le_trans (scs_pos u v (by simpa using hl) (fun e => h (by rw [e]))) (Int.le_add_of_nonneg_left h2.1)
    · exact Int.le_trans (sc_pos e) (Int.le_add_of_nonneg_right h3)
  | [], _ :: _, h, _ => by cases h
  | _ :: _, [], h, _ => by cases h
theorem mm_mono {A B C A' B' C' s : Int} (h1 : A ≤ A' + 2) (h2 : B ≤ B' + 2) (h3 : C ≤ C' + 2) : min (min A B + 2) (C + s) ≤ min (min A' B' + 2) (C' + s) + 2 :=
  min_ge (min_ge2 (Int.le_trans (Int.min_le_left _ _) (Int.add_le_add_right (Int.le_trans (Int.min_le_left _ _) h1) 2)) (Int.le_trans (Int.min_le_left _ _) (Int.add_le_add_right (Int.le_trans (Int.min_le_right _ _) h2) 2)))
    (Int.le_trans (Int.min_le_right _ _) (Int.le_trans (Int.add_le_add_right h3 s) (Int.le_of_eq (Int.add_right_comm _ _ _))))
theorem ed_ins (g : Nat) (B : List Nat) : ∀ A v : List Nat, ed (A ++ g :: B) v ≤ ed (A ++ B) v + 2
  | [], v => ed_x g B v
  | a :: A, [] => by
    rw [ed_nil_r, ed_nil_r]
    simp only [List.length_append, List.length_cons]; omega
  | a :: A, y :: v => by
    have h1 := ed_ins g B A (y :: v)
    have h2 := ed_ins g B (a :: A) v
    have h3 := ed_ins g B A v
    simp only [List.cons_append] at h2 ⊢
    rw [ed_cons a y (A ++ g :: B), ed_cons a y (A ++ B)]
    exact mm_mono h1 h2 h3
termination_by A v => A.length + v.length
theorem ed_foreign {z : Nat} {u v : List Nat} (hl : u.length = v.length) (hz : ∀ c ∈ u, sc c z = 2) : min 4 (ed u v) ≤ ed u (z :: v) := by
  cases u with
  | nil =>
    have := ed_nonneg [] (z :: v)
    have : v = [] := List.length_eq_zero_iff.mp hl.symm
    subst this
    simp only [ed, List.length_nil, List.length_cons]; omega
  | cons c u =>
    have h1 := (ed_len u (z :: v)).2
    have h2 := (ed_len u v).2
    have h3 := hz c (.head _)
    simp only [List.length_cons] at hl h1
    have h4 : 4 ≤ ed u (z :: v) + 2 ∧ 4 ≤ ed u v + 2 := by omega
    rw [ed_cons, h3]
    exact le_mm (Int.le_trans (Int.min_le_left _ _) h4.1) (Int.le_trans (Int.min_le_right _ _) (le_two _)) (Int.le_trans (Int.min_le_left _ _) h4.2)
theorem sc_sign : ∀ x < 68, ∀ y < 68, sc (signC ((x : Nat) : Int)) (signC ((y : Nat) : Int)) = lcost ((x : Nat) : Int) ((y : Nat) : Int) := by decide +kernel
theorem sc_colon : ∀ x < 68, sc (signC ((x : Nat) : Int)) 59 = 2 ∧ sc (signC ((x : Nat) : Int)) 58 = 2 := by decide +kernel
theorem sc_cost {x y : Int} (hx : 0 ≤ x ∧ x < 68) (hy : 0 ≤ y ∧ y < 68) : sc (signC x) (signC y) = lcost x y := by
  have := sc_sign x.toNat (by omega) y.toNat (by omega)
  rwa [Int.toNat_of_nonneg hx.1, Int.toNat_of_nonneg hy.1] at this
theorem due_scs {X Y : List Int} (hX : Five X) (hY : Five Y) : (costN X Y 5).sum = scs (X.map signC) (Y.map signC) := by
  obtain ⟨l1, b1⟩ := hX
  obtain ⟨l2, b2⟩ := hY
  match X, Y, l1, l2 with
  | [x0, x1, x2, x3, x4], [y0, y1, y2, y3, y4], _, _ =>
    simp only [List.forall_mem_cons, List.not_mem_nil, false_implies, implies_true, and_true] at b1 b2
    obtain ⟨p0, p1, p2, p3, p4⟩ := b1
    obtain ⟨q0, q1, q2, q3, q4⟩ := b2
    show (lcost x0 y0 + (lcost x1 y1 + (lcost x2 y2 + (lcost x3 y3 + (lcost x4 y4 + 0))))) = _
    simp only [List.map_cons, List.map_nil, scs, sc_cost p0 q0, sc_cost p1 q1, sc_cost p2 q2, sc_cost p3 q3, sc_cost p4 q4]
noncomputable def Arr (W X : List Int) : Prop := ∃ (p : Nat) (g : Int), p < 5 ∧ 0 ≤ g ∧ g < 68 ∧ X = W.take p ++ g :: W.drop p
theorem five_of {W X : List Int} (hW : W.length = 4 ∧ ∀ n ∈ W, 0 ≤ n ∧ n < 68) (h : Arr W X) : Five X := by
  obtain ⟨p, g, hp, h0, h1, rfl⟩ := h
  refine ⟨by rw [List.length_append, List.length_cons, ← Nat.add_assoc, ← List.length_append, List.take_append_drop, hW.1], fun n hn => ?_⟩
  rcases List.mem_append.mp hn with hn | hn
  · exact hW.2 n (List.mem_of_mem_take hn)
  rcases List.mem_cons.mp hn with rfl | hn
  · exact ⟨h0, h1⟩
  · exact hW.2 n (List.mem_of_mem_drop hn)
theorem arr_ed {W X Y : List Int} (hX : Arr W X) (hY : Arr W Y) : ed (X.map signC) (Y.map signC) ≤ 4 := by
  obtain ⟨p, g, _, _, _, rfl⟩ := hX
  obtain ⟨q, h, _, _, _, rfl⟩ := hY
  have key : ∀ (p : Nat) (g : Int) (v : List Nat), ed ((W.take p ++ g :: W.drop p).map signC) v ≤ ed (W.map signC) v + 2 := fun p g v => by
    have := ed_ins (signC g) ((W.drop p).map signC) ((W.take p).map signC) v
    rw [← List.map_append, List.take_append_drop] at this
    simpa using this
  have h1 := key p g ((W.take q ++ h :: W.drop q).map signC)
  have h2 := key q h (W.map signC)
  rw [ed_comm (W.map signC)] at h1
  rw [ed_self] at h2
  exact Int.le_trans h1 (Int.add_le_add_right h2 2)
theorem cpre_head : ∀ (u v : List Nat) {c d : Nat} {u' v' : List Nat}, u.drop (cpre u v) = c :: u' → v.drop (cpre u v) = d :: v' → c ≠ d
  | x :: u, y :: v, c, d, u', v', h1, h2 => by
    unfold cpre at h1 h2
    split at h1
    · rename_i e
      rw [if_pos e] at h2
      exact cpre_head u v h1 h2
    · rename_i e
      rw [if_neg e] at h2
      cases h1; cases h2
      exact e
  | [], _, _, _, _, _, h1, _ => by simp at h1
  | x :: u, [], _, _, _, _, _, h2 => by simp at h2
theorem levV_zero {x y : List Nat} (hl : x.length = y.length) (hne : x ≠ y) : levV x y 0 = 1 := by
  unfold levV
  rw [if_neg hne]
  have he := ed_strip x y
  have hd := fun c d u' v' => @cpre_head x y c d u' v'
  have hlen : (x.drop (cpre x y)).length = (y.drop (cpre x y)).length := by simp [hl]
  have hpos : 1 ≤ ed x y := by
    have h1 := ed_ge_scs x y hl
    have h2 := scs_pos x y hl hne
    exact Int.le_trans (Int.le_min.mpr ⟨by decide, h2⟩) h1
  rw [← he] at hpos
  clear he
  generalize x.drop (cpre x y) = a at *
  generalize y.drop (cpre x y) = b at *
  have he : ed (a.take (a.length - cpre a.reverse b.reverse)) (b.take (b.length - cpre a.reverse b.reverse)) = ed a b := by
    rw [take_rev_drop, take_rev_drop, ed_rev, ed_strip, ed_rev]
  unfold levV2
  rw [← he] at hpos
  have hlen2 : (a.take (a.length - cpre a.reverse b.reverse)).length = (b.take (b.length - cpre a.reverse b.reverse)).length := by simp [hlen]
  have hd2 : ∀ c d u v, a.take (a.length - cpre a.reverse b.reverse) = c :: u → b.take (b.length - cpre a.reverse b.reverse) = d :: v → c ≠ d := by
    intro c d u v h1 h2
    cases a with
    | nil => simp at h1
    | cons a0 a =>
      cases b with
      | nil => simp at h2
      | cons b0 b =>
        rw [List.take_cons (by cases h : (a0 :: a).length - cpre (a0 :: a).reverse (b0 :: b).reverse with | zero => rw [h] at h1; simp at h1 | succ n => omega)] at h1
        rw [List.take_cons (by cases h : (b0 :: b).length - cpre (a0 :: a).reverse (b0 :: b).reverse with | zero => rw [h] at h2; simp at h2 | succ n => omega)] at h2
        cases h1; cases h2
        exact hd _ _ _ _ rfl rfl
  clear he hd
  generalize a.take (a.length - cpre a.reverse b.reverse) = u at *
  generalize b.take (b.length - cpre a.reverse b.reverse) = v at *
  cases u with
  | nil =>
    have : v = [] := List.length_eq_zero_iff.mp hlen2.symm
    subst this
    rw [ed_self] at hpos; omega
  | cons c u =>
    cases v with
    | nil => cases hlen2
    | cons d v =>
      have hcd := hd2 c d u v rfl rfl
      simp only [List.length_cons, Nat.add_right_cancel_iff] at hlen2
      unfold levV3
      rw [if_neg (by simp), if_neg (by simp only [List.length_cons]; omega), if_neg (by simp only [List.length_cons]; omega)]
      unfold levV4
      rw [if_neg (by simp only [List.length_cons]; omega)]
      unfold dpV
      rw [if_pos]
      · rfl
      refine ⟨0, by simp, fun q hq => ?_⟩
      rw [edP_succ (by simp) hq, edP_zero_l (by omega), edP_zero_l (by omega)]
      have h1 : 0 ≤ edP (d :: v) (c :: u) (0 + 1) q := ed_nonneg _ _
      have h2 := sc_in ((d :: v).getD 0 0) ((c :: u).getD q 0)
      cases q with
      | succ q => omega
      | zero =>
        have h3 := sc_pos (Ne.symm hcd)
        have h4 : sc ((d :: v).getD 0 0) ((c :: u).getD 0 0) = sc d c := rfl
        rw [h4]; omega
theorem pl_pair {W X Y : List Int} (hW : W.length = 4 ∧ ∀ n ∈ W, 0 ≤ n ∧ n < 68) (hX : Arr W X) (hY : Arr W Y) : PairOK X Y := by
  have fX := five_of hW hX
  have fY := five_of hW hY
  have h4 := arr_ed hX hY
  have hd := due_scs fX fY
  have hl : (X.map signC).length = (Y.map signC).length := by rw [List.length_map, List.length_map, fX.1, fY.1]
  have h1 := ed_le_scs _ _ hl
  have h2 := ed_ge_scs _ _ hl
  have h3 := ed_nonneg (X.map signC) (Y.map signC)
  have hdue : dueV X Y = ed (X.map signC) (Y.map signC) := by
    unfold dueV
    rw [hd]; exact Int.le_antisymm h2 (Int.le_min.mpr ⟨h4, h1⟩)
  have hcX : ∀ c ∈ X.map signC, sc c 59 = 2 ∧ sc c 58 = 2 := fun c hc => by
    obtain ⟨n, hn, rfl⟩ := List.mem_map.mp hc
    have hb := fX.2 n hn
    have := sc_colon n.toNat (by omega)
    rwa [Int.toNat_of_nonneg hb.1] at this
  have hcY : ∀ c ∈ Y.map signC, sc c 59 = 2 ∧ sc c 58 = 2 := fun c hc => by
    obtain ⟨n, hn, rfl⟩ := List.mem_map.mp hc
    have hb := fY.2 n hn
    have := sc_colon n.toNat (by omega)
    rwa [Int.toNat_of_nonneg hb.1] at this
  refine ⟨?_, ?_, ?_⟩
  · rw [hdue]; exact levV_le (by decide) h4
  · rw [hdue]
    by_cases e : X.map signC = Y.map signC
    · rw [e, ed_self]
      have : levV (Y.map signC) (Y.map signC) 0 = ed (Y.map signC) (Y.map signC) := levV_le (by decide) (by rw [ed_self]; decide)
      rw [this, ed_self]; rfl
    · rw [levV_zero hl e]
      exact (Int.min_eq_left (Int.le_trans (Int.le_min.mpr ⟨by decide, scs_pos _ _ hl e⟩) h2)).symm
  · rw [hdue]
    have e1 : ed (X.map signC ++ [58]) (Y.map signC ++ [59]) = ed (X.map signC) (Y.map signC) + 2 := by
      have s1 := ed_snoc 58 59 (X.map signC) (Y.map signC)
      have s2 : sc 58 59 = 2 := by decide
      have s3 := ed_rev (X.map signC) (Y.map signC ++ [59])
      have s4 := ed_rev (X.map signC ++ [58]) (Y.map signC)
      rw [List.reverse_append] at s3 s4
      have s5 := ed_foreign (z := 59) (u := (X.map signC).reverse) (v := (Y.map signC).reverse) (by simp [hl]) (fun c hc => (hcX c (List.mem_reverse.mp hc)).1)
      have s6 := ed_foreign (z := 58) (u := (Y.map signC).reverse) (v := (X.map signC).reverse) (by simp [hl]) (fun c hc => (hcY c (List.mem_reverse.mp hc)).2)
      rw [ed_comm _ (58 :: _), ed_comm (Y.map signC).reverse] at s6
      rw [ed_rev] at s5 s6
      change ed (X.map signC).reverse (59 :: (Y.map signC).reverse) = _ at s3
      change ed (58 :: (X.map signC).reverse) (Y.map signC).reverse = _ at s4
      rw [Int.min_eq_right h4, s3] at s5
      rw [Int.min_eq_right h4, s4] at s6
      rw [s1, s2]
      exact Int.min_eq_right (Int.add_le_add_right (Int.le_min.mpr ⟨s5, s6⟩) 2)
    rw [levV_le (by decide) (by rw [e1]; exact Int.add_le_add_right h4 2), e1]

noncomputable def CellEnd (h₀ : Heap) (L : Addr) (m : Str → Option Value) (s₁ : Shared) (I : Addr) (oI : Obj) (C : Addr) (oC : Obj) (cT : Addr) (oT : Obj) (D : Addr) (oD : Obj) (S : List (Addr × Obj) → Prop) (rest : Value → List (Addr × Obj) → Prop) (y : Value) (s₂ : Shared) : Prop :=
  ∃ h' tk news', s₂ = { s₁ with heap := h', toks := tk } ∧ Fr h₀ L h' m ∧ News h₀ L h' ((I, oI) :: (C, oC) :: (cT, oT) :: (D, oD) :: news') ∧ (∀ p ∈ news', p.1 ≠ I ∧ p.1 ≠ C ∧ p.1 ≠ cT ∧ p.1 ≠ D) ∧ S news' ∧ rest y news'
structure Apart4 (I C cT D : Addr) : Prop where
  a : I ≠ C
  b : I ≠ cT
  c : I ≠ D
  d : C ≠ cT
  e : C ≠ D
  f : cT ≠ D
noncomputable def CellRest (prog : Program) (w : World) (A : Around) (h₀ : Heap) (L : Addr) (m : Str → Option Value) (env : Env) (elt : Expr) (x : Str) (scope : Scope) (cl : List (Str × Addr)) (s : Shared) (S : List (Addr × Obj) → Prop) (P : Nat → Value → Prop)
    (Fin : List Value → List (Addr × Obj) → Prop) : Nat → Nat → List Value → List (Addr × Obj) → Prop
  | 0, _, ys, news => Fin ys news
  | k + 1, i, ys, news => ∀ v I oI C oC cT oT D h tk (E' : Value → Shared → Prop), P i v → oT.data = .cell (some v) → Fr h₀ L h m → News h₀ L h ((I, oI) :: (C, oC) :: (cT, oT) :: (D, LCg.lst ys) :: news) → (∀ p ∈ news, p.1 ≠ I ∧ p.1 ≠ C ∧ p.1 ≠ cT ∧ p.1 ≠ D) → Apart4 I C cT D →
      wpAny (model prog w) A (eval elt (compEnvC scope ((x, cT) :: cl) C env)) (CellEnd h₀ L m { s with heap := h, toks := tk } I oI C oC cT oT D (LCg.lst ys) S (fun y news' => CellRest prog w A h₀ L m env elt x scope cl s S P Fin k (i + 1) (ys ++ [y]) news')) E' { s with heap := h, toks := tk }
theorem mem_all {P : Addr × Obj → Prop} {p : Addr × Obj} {l : List (Addr × Obj)} (h : P p) (t : ∀ q ∈ l, P q) : ∀ q ∈ p :: l, P q := fun q hq => (List.mem_cons.mp hq).elim (fun e => e ▸ h) (t q)
theorem rs_35_1 {M : Model} {A : Around} {Q : Value → Shared → Prop} {E : Value → Shared → Prop} {s : Shared} (h : wpAny M A (call .none [.none]) Q E s) : wpAny M A (call .none [.none]) Q E s := by first | (walk1; fail "") | exact h
section
variable {prog : Program} {w : World} {A : Around} {E : Value → Shared → Prop} {s : Shared} {h₀ : Heap} {L : Addr} {m : Str → Option Value} {env : Env}
theorem new_env_one {x a b c : Str} {scope : Scope} {g : Addr} {cl : List (Str × Addr)} {q : Str} {Q : Env → Shared → Prop} (hn : scope.names = [(a, .local), (x, .cell), (b, .globalImplicit), (c, .globalImplicit)])
    (h : Q { scope := scope, locals := s.heap.objs.size, globals := g, cells := (x, s.heap.objs.size + 1) :: cl, qual := q, func := none, code := env.code, frame := env.frame, builtins := env.builtins }
      { s with heap := (s.heap.push { cls := .type "dict", data := .dict #[] }).push { cls := .type "cell", data := .cell none } }) :
    wpAny (model prog w) A (newFunctionEnv scope g cl [] q none .none (some env)) Q E s := by
  simp only [newFunctionEnv, Option.isSome_some, if_true, hn]
  refine wpAny_bind (wpAny_alloc ?_)
  simp only [List.forIn_cons, List.forIn_nil]
  show wpAny _ A (do let a ← alloc { cls := .type "cell", data := .cell none }; pure ({ scope := scope, locals := s.heap.objs.size, globals := g, cells := (x, a) :: cl, qual := q, func := none, code := env.code, frame := env.frame, builtins := env.builtins } : Env)) Q E _
  refine wpAny_bind (wpAny_alloc (wpAny_pure ?_))
  have e : (s.heap.push { cls := .type "dict", data := .dict #[] }).objs.size = s.heap.objs.size + 1 := Heap.size_push ..
  show Q { scope := scope, locals := s.heap.objs.size, globals := g, cells := (x, (s.heap.push { cls := .type "dict", data := .dict #[] }).objs.size) :: cl, qual := q, func := none, code := env.code, frame := env.frame, builtins := env.builtins } _
  rw [e]
  exact h
theorem ns_empty : LCg.NsObj { cls := .type "dict", data := .dict #[] } (fun _ => none) := ⟨#[], 0, rfl, fun _ he => by simp at he, fun _ => rfl⟩
theorem block_cell {elt iter : Expr} {x a b c : Str} {px : Pos} {scope : Scope} {cl : List (Str × Addr)} {pos : Pos} {s₂ : Shared} {I ax : Addr} {its : Array Value} {S : List (Addr × Obj) → Prop} {news : List (Addr × Obj)} {Fin : List Value → List (Addr × Obj) → Prop} {RR : Value → Addr → Result → Shared → Prop}
    (hh : A.handled = none) (hIa : ax ≠ I) (hsz : its.size ≤ sizeLine) (hn : scope.names = [(a, .local), (x, .cell), (b, .globalImplicit), (c, .globalImplicit)]) (hkf : scope.kind = .function) (hkx : (relabel scope env).names.lookup x = some .cell)
    (hSt : ∀ h nw, (∀ b o, h₀.get? b = some o → h.get? b = some o) → News h₀ L h nw → S nw → h.IsList ax its) (hst : s₂.heap.IsListIter I ax 0) (hla : s₂.heap.IsList ax its)
    (F : Fr h₀ L s₂.heap m) (N : News h₀ L s₂.heap news) (hIL : L ≠ I) (hI₀ : h₀.get? I = none) (off : ∀ p ∈ news, p.1 ≠ I) (hS : S news)
    (R : CellRest prog w A h₀ L m env elt x scope cl s₂ S (fun i v => its[i]? = some v) Fin its.size 0 [] news)
    (hRR : ∀ D C h tk m' ys news', Fr h₀ L h m → News h₀ L h ((D, LCg.lst ys) :: news') → (∀ p ∈ news', p.1 ≠ D) → h.Ns C m' → h₀.get? C = none → C ≠ L → C ≠ D → (∀ p ∈ news', p.1 ≠ C) → Fin ys news' → RR (.ref D) C (.ok .next) { s₂ with heap := h, toks := tk }) :
    wpAny (model prog w) A (newList []) (fun acc s₃ => wpAny (model prog w) A (newFunctionEnv scope env.globals cl [] env.qual none .none (some env)) (fun cenv s₄ =>
      codeAny (model prog w) A (.compStart (.ListComp elt [⟨.Name x px, iter, [], 0⟩] scope pos) 0 (.ref I) acc { cenv with scope := relabel scope env }) (RR acc cenv.locals) s₄) E s₃) E s₂ := by
  refine wpAny_newObj_type (new_env_one hn ?_)
  have W := Walks.list (prog := prog) (w := w) hh I ax hIa its
  obtain ⟨oI₀, hgI, _⟩ := hst
  have hIlt : @LT.lt Nat instLTNat I s₂.heap.objs.size := Heap.lt_size hgI
  have halt : @LT.lt Nat instLTNat ax s₂.heap.objs.size := by obtain ⟨o, e, _⟩ := hla; exact Heap.lt_size e
  have hLlt : @LT.lt Nat instLTNat L s₂.heap.objs.size := F.ns.lt
  dsimp only
  generalize hD : s₂.heap.objs.size = D at *
  have eC : (s₂.heap.push { cls := .type "list", dict := none, data := .seq ([] : List Value).toArray }).objs.size = D + 1 := by rw [Heap.size_push, hD]
  rw [eC]
  have eT : ((s₂.heap.push { cls := .type "list", dict := none, data := .seq ([] : List Value).toArray }).push { cls := .type "dict", data := .dict #[] }).objs.size = D + 1 + 1 := by rw [Heap.size_push, eC]
  have fresh₀ : ∀ q : Addr, @LE.le Nat instLENat D q → h₀.get? q = none := fun q hq => by
    cases e : h₀.get? q with
    | none => rfl
    | some o' => exact absurd (Heap.lt_size (F.keep _ _ e)) (by rw [hD]; exact Nat.not_lt.mpr hq)
  have up : ∀ q o, s₂.heap.get? q = some o → (((s₂.heap.push { cls := .type "list", dict := none, data := .seq ([] : List Value).toArray }).push { cls := .type "dict", data := .dict #[] }).push { cls := .type "cell", data := .cell none }).get? q = some o :=
    fun q o e => Heap.get?_push_of_some _ (Heap.get?_push_of_some _ (Heap.get?_push_of_some _ e))
  have gD : (((s₂.heap.push { cls := .type "list", dict := none, data := .seq ([] : List Value).toArray }).push { cls := .type "dict", data := .dict #[] }).push { cls := .type "cell", data := .cell none }).get? D = some (LCg.lst []) :=
    Heap.get?_push_of_some _ (Heap.get?_push_of_some _ (hD ▸ Heap.get?_push_size _ rfl))
  have gC : (((s₂.heap.push { cls := .type "list", dict := none, data := .seq ([] : List Value).toArray }).push { cls := .type "dict", data := .dict #[] }).push { cls := .type "cell", data := .cell none }).get? (D + 1) = some { cls := .type "dict", data := .dict #[] } :=
    Heap.get?_push_of_some _ (eC ▸ Heap.get?_push_size _ rfl)
  have gT : (((s₂.heap.push { cls := .type "list", dict := none, data := .seq ([] : List Value).toArray }).push { cls := .type "dict", data := .dict #[] }).push { cls := .type "cell", data := .cell none }).get? (D + 1 + 1) = some { cls := .type "cell", data := .cell none } :=
    eT ▸ Heap.get?_push_size _ rfl
  generalize ((s₂.heap.push { cls := .type "list", dict := none, data := .seq ([] : List Value).toArray }).push { cls := .type "dict", data := .dict #[] }).push { cls := .type "cell", data := .cell none } = h₁ at *
  have hLD : D ≠ L := Nat.ne_of_gt hLlt
  have hLC : D + 1 ≠ L := Nat.ne_of_gt (Nat.lt_succ_of_lt hLlt)
  have hLT : D + 1 + 1 ≠ L := Nat.ne_of_gt (Nat.lt_succ_of_lt (Nat.lt_succ_of_lt hLlt))
  have AP : Apart4 I (D + 1) (D + 1 + 1) D := ⟨Nat.ne_of_lt (Nat.lt_succ_of_lt hIlt), Nat.ne_of_lt (Nat.lt_succ_of_lt (Nat.lt_succ_of_lt hIlt)), Nat.ne_of_lt hIlt, Nat.ne_of_lt (Nat.lt_succ_self _), Nat.ne_of_gt (Nat.lt_succ_self _), Nat.ne_of_gt (Nat.lt_succ_of_lt (Nat.lt_succ_self _))⟩
  have hD₀ := fresh₀ D (Nat.le_refl _)
  have hC₀ := fresh₀ (D + 1) (Nat.le_succ _)
  have hT₀ := fresh₀ (D + 1 + 1) (Nat.le_succ_of_le (Nat.le_succ _))
  have off₀ : ∀ p ∈ news, p.1 ≠ I ∧ p.1 ≠ D + 1 ∧ p.1 ≠ D + 1 + 1 ∧ p.1 ≠ D := fun p hp => by
    have hlt : @LT.lt Nat instLTNat p.1 D := hD ▸ Heap.lt_size (N p hp).1
    exact ⟨off p hp, Nat.ne_of_lt (Nat.lt_succ_of_lt hlt), Nat.ne_of_lt (Nat.lt_succ_of_lt (Nat.lt_succ_of_lt hlt)), Nat.ne_of_lt hlt⟩
  have aC : ax ≠ D + 1 + 1 := Nat.ne_of_lt (Nat.lt_succ_of_lt (Nat.lt_succ_of_lt halt))
  have aD : ax ≠ D := Nat.ne_of_lt halt
  have hst₁ : h₁.IsListIter I ax 0 ∧ h₁.IsList ax its := ⟨⟨oI₀, up _ _ hgI, ‹_›⟩, hla.at fun o e => up _ _ e⟩
  have loop : ∀ s₃ : Shared, s₃ = { s₂ with heap := h₁ } →
      codeAny (model prog w) A (.compLoop (.ListComp elt [⟨.Name x px, iter, [], 0⟩] scope pos) 0 (.ref I) (.ref D) (compEnvC scope ((x, D + 1 + 1) :: cl) (D + 1) env)) (RR (.ref D) (D + 1)) s₃ := by
    rintro s₃ rfl
    refine codeAny_compLoop_tests
      (fun k s' => ∀ C : Prop, (∀ h' tk i ys oC oT v₀ m' news', s' = { s₂ with heap := h', toks := tk } → i ≤ its.size → k = its.size + 1 - i → ys.length = i → (h'.IsListIter I ax i ∧ h'.IsList ax its) → Fr h₀ L h' m → News h₀ L h' ((D + 1, oC) :: (D + 1 + 1, oT) :: (D, LCg.lst ys) :: news') → LCg.NsObj oC m' → oT.data = .cell v₀ → (∀ p ∈ news', p.1 ≠ I ∧ p.1 ≠ D + 1 ∧ p.1 ≠ D + 1 + 1 ∧ p.1 ≠ D) → S news' → CellRest prog w A h₀ L m env elt x scope cl s₂ S (fun i v => its[i]? = some v) Fin (its.size - i) i ys news' → C) → C) ?_ (its.size + 1)
      (fun _ q => q h₁ _ 0 [] { cls := .type "dict", data := .dict #[] } { cls := .type "cell", data := .cell none } none (fun _ => none) news rfl (Nat.zero_le _) rfl rfl hst₁ (F.keeps up) ?_ ns_empty rfl off₀ hS R)
    · intro k s' hJ
      refine hJ _ ?_
      clear hJ
      rintro h' tk i ys oC oT v₀ m' news' rfl hi rfl hyl hst' F' N' hoC hoT off' hS' R'
      by_cases hlt : i < its.size
      · obtain ⟨j, hj⟩ : ∃ j, its.size - i = j + 1 := ⟨its.size - i - 1, (Nat.sub_add_cancel (Nat.sub_pos_of_lt hlt)).symm⟩
        rw [hj] at R'
        refine W.item i _ _ _ hlt hst' fun v h₂ tk₂ hPv hst₂ hk₂ => ?_
        have N₂ : News h₀ L h₂ ((D + 1, oC) :: (D + 1 + 1, oT) :: (D, LCg.lst ys) :: news') := LCg.news_but N' hk₂ (mem_all (Ne.symm AP.a) (mem_all (Ne.symm AP.b) (mem_all (Ne.symm AP.c) fun p hp => (off' p hp).1)))
        have F₂ : Fr h₀ L h₂ m := LCg.fr_but F' hk₂ hIL hI₀
        refine wpAny_assign_Name (wpAny_storeName_cell (c := D + 1 + 1) hkf hkx (by simp [compEnvC]) ⟨oT, (N₂ _ (.tail _ (.head _))).1, hoT⟩ fun h₃ hc₃ hs₃ => ?_)
        refine wpAny_tests_nil ?_
        simp only [if_true]
        obtain ⟨oT', hgT, hoT'⟩ := hc₃
        have F₃ : Fr h₀ L h₃ m := F₂.change hs₃ hLT hT₀
        have hst₃ : h₃.IsListIter I ax (i + 1) ∧ h₃.IsList ax its := ⟨hst₂.1.extBut hs₃.extBut AP.b, hst₂.2.extBut hs₃.extBut aC⟩
        obtain ⟨oI, heI, hoI⟩ := hst₃.1
        have N₃ : News h₀ L h₃ ((I, oI) :: (D + 1, oC) :: (D + 1 + 1, oT') :: (D, LCg.lst ys) :: news') := by
          have z1 := N₂ _ (.head _)
          have z2 := N₂ _ (.tail _ (.tail _ (.head _)))
          exact mem_all ⟨heI, Ne.symm hIL, hI₀⟩ (mem_all ⟨hs₃.extBut _ _ AP.d z1.1, z1.2⟩ (mem_all ⟨hgT, hLT, hT₀⟩ (mem_all ⟨hs₃.extBut _ _ (Ne.symm AP.f) z2.1, z2.2⟩ fun p hp => ⟨hs₃.extBut _ _ (off' p hp).2.2.1 (N₂ p (.tail _ (.tail _ (.tail _ hp)))).1, (N₂ p (.tail _ (.tail _ (.tail _ hp)))).2⟩)))
        refine wpAny_mono (R' v I oI (D + 1) oC (D + 1 + 1) oT' D h₃ _ _ hPv hoT' F₃ N₃ off' AP) (fun y s₄ h₄ => ?_) fun _ _ e => e
        obtain ⟨h₄, tk₄, news₄, rfl, F₄, N₄, off₄, hS₄, R₄⟩ := h₄
        have zI := N₄ _ (.head _)
        have zC := N₄ _ (.tail _ (.head _))
        have zT := N₄ _ (.tail _ (.tail _ (.head _)))
        have zD := N₄ _ (.tail _ (.tail _ (.tail _ (.head _))))
        have N₄' : News h₀ L h₄ news₄ := fun p hp => N₄ p (.tail _ (.tail _ (.tail _ (.tail _ hp))))
        refine append_at (hsz := by show ys.toArray.size ≤ sizeLine; rw [List.size_toArray, hyl]; exact Nat.le_trans hi hsz) zD.1 fun h₅ hs₅ hD₅ => ?_
        refine ⟨its.size + 1 - (i + 1), Nat.sub_lt_sub_left (Nat.lt_succ_of_lt hlt) (Nat.lt_succ_self i), fun _ q => q h₅ tk₄ (i + 1) (ys ++ [y]) oC oT' _ m' news₄ rfl hlt rfl (by rw [List.length_append, List.length_singleton, hyl]) ⟨⟨oI, hs₅.extBut _ _ AP.c zI.1, hoI⟩, (hSt h₄ news₄ F₄.keep N₄' hS₄).extBut hs₅.extBut aD⟩ (F₄.change hs₅ hLD hD₀) (fun p hp => ?_) hoC hoT' off₄ hS₄ ?_⟩
        · exact mem_all (P := fun p => h₅.get? p.1 = some p.2 ∧ p.1 ≠ L ∧ h₀.get? p.1 = none) ⟨hs₅.extBut _ _ AP.e zC.1, zC.2⟩ (mem_all ⟨hs₅.extBut _ _ AP.f zT.1, zT.2⟩ (mem_all ⟨hD₅.trans (congrArg some (LCg.lst_snoc ys y)), hLD, hD₀⟩ fun p hp => ⟨hs₅.extBut _ _ (off₄ p hp).2.2.2 (N₄' p hp).1, (N₄' p hp).2⟩)) p hp
        · rw [sub_step hj]
          exact R₄
      · obtain rfl : i = its.size := Nat.le_antisymm hi (Nat.not_lt.mp hlt)
        rw [Nat.sub_self] at R'
        refine W.done _ _ _ hst' fun h₂ tk₂ hk₂ => ?_
        have N₂ : News h₀ L h₂ ((D + 1, oC) :: (D + 1 + 1, oT) :: (D, LCg.lst ys) :: news') := LCg.news_but N' hk₂ (mem_all (Ne.symm AP.a) (mem_all (Ne.symm AP.b) (mem_all (Ne.symm AP.c) fun p hp => (off' p hp).1)))
        exact hRR D (D + 1) h₂ tk₂ m' ys news' (LCg.fr_but F' hk₂ hIL hI₀) (fun p hp => N₂ p (.tail _ (.tail _ hp))) (fun p hp => (off' p hp).2.2.2) (hoC.ns (N₂ _ (.head _)).1) hC₀ hLC AP.e (fun p hp => (off' p hp).2.1) R'
    · exact mem_all ⟨gC, hLC, hC₀⟩ (mem_all ⟨gT, hLT, hT₀⟩ (mem_all ⟨gD, hLD, hD₀⟩ fun p hp => ⟨up _ _ (N p hp).1, (N p hp).2⟩))
  exact codeAny_compStart_list (loop _ rfl) (W.self 0 _ _ _ hst₁ (loop _ rfl))
theorem off1_of {D : Addr} : ∀ {l : List (Addr × Obj)}, (∀ p ∈ l, p.1 ≠ D) → LCg.Off1 D l
  | [], _ => trivial
  | _ :: _, h => ⟨h _ (.head _), off1_of fun p hp => h p (.tail _ hp)⟩
noncomputable def CellSrc (prog : Program) (w : World) (A : Around) (h₀ : Heap) (L : Addr) (m : Str → Option Value) (env : Env) (elt : Expr) (x : Str) (scope : Scope) (cl : List (Str × Addr)) (Fin : Shared → List Value → List (Addr × Obj) → Prop) (xv : Value) (s₁ : Shared) : Prop :=
  ∃ ax its news, xv = .ref ax ∧ Fr h₀ L s₁.heap m ∧ News h₀ L s₁.heap news ∧ LCg.SrcAt h₀ ax its news ∧ its.size ≤ sizeLine ∧ ∀ s₂ : Shared, (∃ h, s₂ = { s₁ with heap := h }) → CellRest prog w A h₀ L m env elt x scope cl s₂ (LCg.SrcAt h₀ ax its) (fun i v => its[i]? = some v) (Fin s₂) its.size 0 [] news
theorem Assign_cell_own {elt iter : Expr} {x y a b c : Str} {px py : Pos} {scope : Scope} {cl : List (Str × Addr)} {pos spos : Pos} {Q : Flow → Shared → Prop} (_F₀ : Fr h₀ L s.heap m) (hLe : env.locals = L) (hh : A.handled = none)
    (hsw : swapsWith (.ListComp elt [⟨.Name x px, iter, [], 0⟩] scope pos) (some (.Name y py)) spos.line env = pure true)
    (hclos : closureFor scope env = pure cl) (hn : scope.names = [(a, .local), (x, .cell), (b, .globalImplicit), (c, .globalImplicit)]) (hkf : scope.kind = .function) (hkx : (relabel scope env).names.lookup x = some .cell)
    (hnames : ∀ z ∈ scope.names, z.2 = .local → scope.names.lookup z.1 = some .local)
    (hy : env.kindOf y = some .local) (hp : (env.scope.kind == .class || (env.scope.kind == .module && env.locals != env.globals)) = false)
    (h : wpAny (model prog w) A (eval iter env) (CellSrc prog w A h₀ L m env elt x scope cl (fun s₂ => LCg.FinA h₀ L m s₂ y Q)) E s)
    (hs : ∀ x, foldedSetIterable iter env x = pure x) :
    wpAny (model prog w) A (exec (.Assign [.Name y py] (.ListComp elt [⟨.Name x px, iter, [], 0⟩] scope pos) spos) env) Q E s := by
  subst hLe
  rw [exec_Assign_Name_used _ _ _ _ hsw]
  refine wpAny_bind (wpAny_standAt (wpAny_bind ?_))
  show wpAny _ A (do let _ ← comprehension (.ListComp elt [⟨.Name x px, iter, [], 0⟩] scope pos) scope env _ (newList []) false (eval iter env) (some (assign (.Name y py) env))) _ _ s
  refine wpAny_bind (wpAny_mono (wpAny_comprehension_free (use := some (assign (.Name y py) env)) (Q := fun _ s' => Q .next s') rfl hs hclos hkf hnames
    (wpAny_mono h (fun xv s₁ h₁ => ?_) fun _ _ e => e)) (fun _ s' hq => wpAny_pure (wpAny_pure hq)) fun _ _ e => e)
  obtain ⟨ax, its, news, rfl, F, N, S, hsz, R⟩ := h₁
  have hl := S.list F.keep N
  have hlt : ax < s₁.heap.objs.size := by obtain ⟨_, e, _⟩ := hl; exact Heap.lt_size e
  refine wpAny_pyIter_list hl ?_
  have up : ∀ b o, s₁.heap.get? b = some o → (s₁.heap.push { cls := .type "list_iterator", data := .fields #[.ref ax, .int 0 0] }).get? b = some o := fun b o e => Heap.get?_push_of_some _ e
  refine block_cell hh (Nat.ne_of_lt hlt) hsz hn hkf hkx (fun h nw kp Nw Sw => Sw.list kp Nw) ⟨_, Heap.get?_push_size _ rfl, rfl, rfl⟩ (hl.push _)
    (F.keeps up) (N.grown up) (Nat.ne_of_lt F.ns.lt) (next_is_new F) (fun p hp => Nat.ne_of_lt (Heap.lt_size (N p hp).1)) S (R _ ⟨_, rfl⟩) ?_
  intro D C h' tk m' ys news' F' N' o1 hn hC₀ hCL hCD offC fin
  show wpAny _ A (assign (.Name y py) env (.ref D)) _ _ _
  refine wpAny_assign_Name (wpAny_storeName_local hy F'.ns (fun h₂ hn₂ hs₂ => ?_) hp)
  have F₂ : Fr h₀ env.locals h₂ (fun z => if z = y then some (.ref D) else m z) := F'.set hn₂ hs₂
  have N₂ := N'.set hs₂
  refine ⟨m', hn.sameBut hs₂ hCL, fun h'' hs'' => fin D h'' _ (F₂.change hs'' hCL hC₀) (fun p hp => ?_) (off1_of o1)⟩
  refine ⟨hs''.extBut _ _ ?_ (N₂ p hp).1, (N₂ p hp).2⟩
  rcases List.mem_cons.mp hp with rfl | hp
  · exact Ne.symm hCD
  · exact offC p hp
end

noncomputable def cutS (xs : List Nat) (p : Nat) : Str := ⟨(xs.take p ++ xs.drop (p + 1)).toArray⟩
noncomputable def cutL (xs : List Nat) (n : Nat) : List Str := (List.range n).map (cutS xs)
theorem cutL_succ (xs : List Nat) (n : Nat) : cutL xs (n + 1) = cutL xs n ++ [cutS xs n] := by unfold cutL; rw [List.range_succ, List.map_append]; rfl
structure Deck (xs : List Nat) (ss : List Str) : Prop where
  perm : ss.Perm (cutL xs 5)
  sorted : sortedS ss = true
theorem Deck.len {xs : List Nat} {ss : List Str} (D : Deck xs ss) : ss.length = 5 := by rw [D.perm.length_eq]; simp [cutL]
theorem rs_36_1 {M : Model} {A : Around} {Q : Value → Shared → Prop} {E : Value → Shared → Prop} {s : Shared} (h : wpAny M A (call .none [.none]) Q E s) : wpAny M A (call .none [.none]) Q E s := by first | (walk1; fail "") | exact h
section
variable {w : World} {loose : List Str} {mean : ExcName → Option Value} {mg mb : Str → Option Value} {h₀ : Heap} {L fa : Addr} {cd : Value} {xh : Heap} {xg : Array GenState} {xd : Drawn} {xt : Nat} {xo : OsState} {m : Str → Option Value} {Q : Flow → Shared → Prop} {E : Value → Shared → Prop}
theorem deck_turn {I C cT D : Addr} {oI oC oT oD : Obj} {xs : List Nat} {t : Tok} {news : List (Addr × Obj)} {S : List (Addr × Obj) → Prop} {rest : Value → List (Addr × Obj) → Prop} {E' : Value → Shared → Prop} (G : LG w loose mean mg mb h₀) (lX : xs.length = 5) (hoT : oT.data = .cell (some (.str ⟨xs.toArray⟩ t)))
    (F : Fr h₀ L xh m) (N : News h₀ L xh ((I, oI) :: (C, oC) :: (cT, oT) :: (D, oD) :: news)) (off : ∀ p ∈ news, p.1 ≠ I ∧ p.1 ≠ C ∧ p.1 ≠ cT ∧ p.1 ≠ D) (hS : ∀ a o, S ((a, o) :: news))
    (k : ∀ a v n Sk, Deck xs Sk → StrsAre v Sk → (∀ p ∈ news, p.1 ≠ a) → rest (.ref a) ((a, listOf v.toArray n) :: news)) :
    wpAny (LM w) (LA L fa cd) (eval (compElt (stmtVal (lawSt 11))) (compEnvC (compScope (stmtVal (lawSt 11))) [(Str.ofString "text", cT)] C (lawEnv L fa cd))) (CellEnd h₀ L m ⟨xh, xg, xd, xt, xo⟩ I oI C oC cT oT D oD S rest) E' ⟨xh, xg, xd, xt, xo⟩ := by
  have K0 := G.K0
  have KX := G.KX
  have T := G.T
  conv in compElt _ => whnf
  conv in compScope _ => whnf
  have hXl : (⟨xs.toArray⟩ : Str).length = 5 := by simpa [Str.length] using lX
  have hS5 : ∀ p : Nat, p < 5 → Txt.slice ⟨xs.toArray⟩ none (some (p : Int)) ++ Txt.slice ⟨xs.toArray⟩ (some ((p : Int) + 1)) none = cutS xs p := fun p hp => by
    rw [slice_to (by lia), show ((p : Int) + 1) = ((p + 1 : Nat) : Int) by lia, slice_from (by lia)]
    show (⟨(xs.take p).toArray ++ (xs.drop (p + 1)).toArray⟩ : Str) = _
    simp [cutS]
  have o1 : ∀ q ∈ (I, oI) :: (C, oC) :: (cT, oT) :: (D, oD) :: news, q.1 < xh.objs.size := fun q hq => Heap.lt_size (N q hq).1
  k_steps
  delta Stop
  rename IsRange _ _ _ _ _ _ _ _ => hrg
  rename Fr _ _ _ _ => lF'
  rename News _ _ _ _ => lN'
  refine LCg.CompSrc.range (n := 5) (by rfl) lF' lN' hrg (by decide) (by rfl) (by decide) ?_
  intro g
  refine comp_Jn (fun i vs => StrsAre vs (cutL xs i)) .nil ?_ ?_
  · clear lF' lN' hrg
    rintro p vs hp hvs v I2 oI2 C2 oC2 D2 m₂ h tk E2 ⟨u, rfl⟩ hC hx F N off2 ne
    rw [Int.zero_add] at hx
    have hc := hS5 p hp
    k_steps
    rw [hc]
    refine LCg.CompEnd.intro (by assumption) (by assumption) _ (fun p hp => hp) off2 trivial ⟨rfl, ?_⟩
    rw [cutL_succ]
    exact strsAre_snoc hvs
  · rintro vs hvs
    delta LCg.FinE
    intro D2 h2 tk2 F2 N2 off2
    have hl5 : vs.length = 5 := by rw [hvs.length]; simp [cutL]
    k_steps
    delta Stop
    refine sorted_N_str F2 N2 (News.isList N2 (.head _)) hvs (by lia) ?_
    intro h' vs' ss' e F' N' hS' hp hs
    have lt2 : ∀ q ∈ (I, oI) :: (C, oC) :: (cT, oT) :: (D, oD) :: news, q.1 ≠ h2.objs.size + 1 := fun q hq => Nat.ne_of_lt (Nat.lt_succ_of_lt (Heap.lt_size (N2 q (.tail _ hq)).1))
    refine ⟨h', _, (h2.objs.size + 1, listOf vs'.toArray e) :: news, rfl, F', fun q hq => ?_, fun q hq => ?_, hS _ _, k _ vs' e ss' ⟨hp, hs⟩ hS' fun q hq => lt2 q (.tail _ (.tail _ (.tail _ (.tail _ hq))))⟩
    · simp only [List.mem_cons] at hq
      rcases hq with rfl | rfl | rfl | rfl | rfl | hq
      · exact N' _ (.tail _ (.tail _ (.head _)))
      · exact N' _ (.tail _ (.tail _ (.tail _ (.head _))))
      · exact N' _ (.tail _ (.tail _ (.tail _ (.tail _ (.head _)))))
      · exact N' _ (.tail _ (.tail _ (.tail _ (.tail _ (.tail _ (.head _))))))
      · exact N' _ (.head _)
      · exact N' _ (.tail _ (.tail _ (.tail _ (.tail _ (.tail _ (.tail _ hq))))))
    · rcases List.mem_cons.mp hq with rfl | hq
      · exact ⟨Ne.symm (lt2 _ (.head _)), Ne.symm (lt2 _ (.tail _ (.head _))), Ne.symm (lt2 _ (.tail _ (.tail _ (.head _)))), Ne.symm (lt2 _ (.tail _ (.tail _ (.tail _ (.head _)))))⟩
      · exact off q hq
theorem st_11 {lt : Addr} {c3 : Obj} {t0 t1 t2 : Tok} {x0 x1 x2 : List Nat} {wv : Value} {rest : List (Addr × Obj)} (G : LG w loose mean mg mb h₀) (l0 : x0.length = 5) (l1 : x1.length = 5) (l2 : x2.length = 5) (hc3 : c3.data = .cell (some (.ref lt)))
    (S : At h₀ L xh [(Str.ofString "word", wv)] ((lt, listOf #[.str ⟨x0.toArray⟩ t0, .str ⟨x1.toArray⟩ t1, .str ⟨x2.toArray⟩ t2] 3) :: (L + 1 + 1 + 1 + 1, c3) :: rest))
    (k : ∀ h tk ld e0 e1 e2 v0 v1 v2 n0 n1 n2 S0 S1 S2, Deck x0 S0 → Deck x1 S1 → Deck x2 S2 → StrsAre v0 S0 → StrsAre v1 S1 → StrsAre v2 S2 → At h₀ L h [(Str.ofString "decks", .ref ld), (Str.ofString "word", wv)] ((ld, listOf #[.ref e0, .ref e1, .ref e2] 3) :: (e0, listOf v0.toArray n0) :: (e1, listOf v1.toArray n1) :: (e2, listOf v2.toArray n2) :: (lt, listOf #[.str ⟨x0.toArray⟩ t0, .str ⟨x1.toArray⟩ t1, .str ⟨x2.toArray⟩ t2] 3) :: (L + 1 + 1 + 1 + 1, c3) :: rest) →
      (∀ q ∈ rest, q.1 ≠ ld ∧ q.1 ≠ e0 ∧ q.1 ≠ e1 ∧ q.1 ≠ e2) → Q .next ⟨h, xg, xd, tk, xo⟩) :
    wpAny (LM w) (LA L fa cd) (exec (lawSt 11) (lawEnv L fa cd)) Q E ⟨xh, xg, xd, xt, xo⟩ := by
  have K0 := G.K0
  have KX := G.KX
  have T := G.T
  refine At.use S ?_
  clear S
  intro m₀ mq F N
  conv in lawSt 11 => whnf
  refine Assign_cell_own (hs := by intro _; rfl) (cl := []) F rfl rfl (by with_unfolding_all rfl) (by with_unfolding_all rfl) rfl rfl rfl (by decide) rfl rfl ?_
  k_steps
  rename Fr _ _ _ _ => F'
  rename News _ _ _ _ => N'
  refine ⟨lt, _, _, rfl, F', N', .inr ⟨_, .head _, rfl, _, rfl⟩, by simp [sizeLine], ?_⟩
  rintro s₂ ⟨g, rfl⟩
  intro v I oI C oC cT oT D h tk E' hv hoT F N off ap
  have e : v = .str ⟨x0.toArray⟩ t0 := (Option.some.inj hv).symm
  subst e
  refine deck_turn G l0 hoT F N off (fun a o => .inr ⟨_, .tail _ (.head _), rfl, _, rfl⟩) fun e0 v0 n0 S0 D0 h0 ne0 => ?_
  intro v I oI C oC cT oT D h tk E' hv hoT F N off ap
  have e : v = .str ⟨x1.toArray⟩ t1 := (Option.some.inj hv).symm
  subst e
  refine deck_turn G l1 hoT F N off (fun a o => .inr ⟨_, .tail _ (.tail _ (.head _)), rfl, _, rfl⟩) fun e1 v1 n1 S1 D1 h1 ne1 => ?_
  intro v I oI C oC cT oT D h tk E' hv hoT F N off ap
  have e : v = .str ⟨x2.toArray⟩ t2 := (Option.some.inj hv).symm
  subst e
  refine deck_turn G l2 hoT F N off (fun a o => .inr ⟨_, .tail _ (.tail _ (.tail _ (.head _))), rfl, _, rfl⟩) fun e2 v2 n2 S2 D2 h2 ne2 => ?_
  intro ld h tk F N off1
  have o1 := off1_mem off1
  refine k _ _ ld e0 e1 e2 v0 v1 v2 n0 n1 n2 S0 S1 S2 D0 D1 D2 h0 h1 h2 (At.mk F N ⟨rfl, rfl, trivial⟩ fun q hq => ?_) fun q hq => ⟨o1 q (.tail _ (.tail _ (.tail _ (.tail _ (.tail _ hq))))), ne0 q (.tail _ (.tail _ hq)), ne1 q (.tail _ (.tail _ (.tail _ hq))), ne2 q (.tail _ (.tail _ (.tail _ (.tail _ hq))))⟩
  rcases List.mem_cons.mp hq with rfl | hq
  · exact .head _
  · refine List.mem_cons_of_mem _ ?_
    exact subm (by (try simp only [List.nil_append, List.cons_append]); ((repeat ((with_reducible refine sub_c ?_ ?_); (focus (((with_reducible first | assumption | exact mem0 | exact mem1 | exact mem2 | exact mem3 | exact mem4 | exact mem5 | exact mem6 | exact mem7 | (refine mem_t ?_; first | exact mem0 | exact mem1 | exact mem2 | exact mem3 | exact mem4 | exact mem5 | exact mem6 | exact mem7 | (refine mem_t ?_; first | exact mem0 | exact mem1 | exact mem2 | exact mem3 | exact mem4 | exact mem5 | exact mem6 | exact mem7)) | (repeat first | assumption | exact List.mem_cons_self | apply List.mem_cons_of_mem | apply List.mem_append_right))))))); first | exact sub_n | assumption | exact sub_d 1 | exact sub_d 2 | exact sub_d 3 | exact sub_d 4 | exact sub_d 5 | exact sub_d 6 | exact sub_d 7 | exact sub_d 8 | exact sub_d 9 | exact sub_d 10 | exact sub_d 11 | exact sub_d 12 | exact sub_d 13 | exact sub_d 14 | exact sub_d 15 | exact sub_d 16 | exact sub_d 17 | exact sub_d 18 | exact sub_d 0 | (intro p hp; ((with_reducible (repeat first | assumption | (apply List.mem_append_left; assumption) | apply List.mem_cons_of_mem | apply List.mem_append_right)))))) q hq
end

theorem rs_37_1 {M : Model} {A : Around} {Q : Value → Shared → Prop} {E : Value → Shared → Prop} {s : Shared} (h : wpAny M A (call .none [.none]) Q E s) : wpAny M A (call .none [.none]) Q E s := by first | (walk1; fail "") | exact h
section
variable {w : World} {loose : List Str} {mean : ExcName → Option Value} {mg mb : Str → Option Value} {h₀ : Heap} {L fa : Addr} {cd : Value} {s : Shared} {m : Str → Option Value} {news : List (Addr × Obj)} {Q E : Value → Shared → Prop}
theorem new_ne {a : Addr} (N : News h₀ L s.heap news) (h : s.heap.get? a = none) : ∀ p ∈ news, p.1 ≠ a := fun p hp e => by
  have := (N p hp).1
  rw [e, h] at this
  cases this
theorem new_at {a : Addr} {o : Obj} {h' : Heap} (F : Fr h₀ L s.heap m) (h : s.heap.get? a = none) (h1 : h'.get? a = some o) : h'.get? a = some o ∧ a ≠ L ∧ h₀.get? a = none := by
  refine ⟨h1, ?_, kts_none F.keep h⟩
  rintro rfl
  obtain ⟨o, ho⟩ := fr_has F
  rw [h] at ho
  cases ho
theorem call_shared {l1 l2 : Addr} {v1 v2 : List Value} {xs ys : List Int} (G : LG w loose mean mg mb h₀) (F : Fr h₀ L s.heap m) (N : News h₀ L s.heap news) (hl1 : s.heap.IsList l1 v1.toArray) (hl2 : s.heap.IsList l2 v2.toArray) (hi1 : IntsAre v1 xs) (hi2 : IntsAre v2 ys) (hn1 : xs.length = 5) (hn2 : ys.length = 5)
    (k : ∀ r c cells h' tk', Fr h₀ L h' m → News h₀ L h' ((r, listOf (cells.map fun p => Value.ref p.1).toArray c) :: (cells ++ news)) → (∀ p ∈ news, p.1 ≠ r ∧ ∀ q ∈ cells, p.1 ≠ q.1) → CellsI cells (sharedV xs ys) → Q (.ref r) { s with heap := h', toks := tk' }) :
    wpAny (LM w) (LA L fa cd) (call (.ref 154) [.ref l1, .ref l2]) Q E s := by
  refine shared_spec _ _ _ _ _ _ _ (lg_below (s := s) G F) (in_at F G.KX) (top_at F G.T) hl1 hl2 hi1 hi2 hn1 hn2 (by show callerA.depth + 1 + 1 < recursionLimit; decide) (by show callerA.units + 3 + 128 < cLine; decide) ?_
  intro r c cells h' tk' st hr hr' hc hI
  refine k r c cells h' tk' (F.keeps st) (fun p hp => ?_) (fun p hp => ⟨new_ne N hr p hp, fun q hq => new_ne N (hc q hq).2 p hp⟩) hI
  rcases List.mem_cons.mp hp with rfl | hp
  · exact new_at F hr hr'
  rcases List.mem_append.mp hp with hp | hp
  · exact new_at F (hc p hp).2 (hc p hp).1
  · exact N.grown st p hp
theorem call_alone {ld lo ls : Addr} {vd vo vs : List Value} {ds os ss : List Str} (G : LG w loose mean mg mb h₀) (F : Fr h₀ L s.heap m) (N : News h₀ L s.heap news)
    (hld : s.heap.IsList ld vd.toArray) (hlo : s.heap.IsList lo vo.toArray) (hls : s.heap.IsList ls vs.toArray) (hsd : StrsAre vd ds) (hso : StrsAre vo os) (hss : StrsAre vs ss) (hnd : ds.length ≤ 16) (hno : os.length ≤ 16 ∧ 0 < os.length) (hns : ss.length ≤ 16)
    (k : ∀ r vr c h' tk', Fr h₀ L h' m → News h₀ L h' ((r, listOf vr.toArray c) :: news) → (∀ p ∈ news, p.1 ≠ r) → StrsAre vr (aloneV ds os ss ds.length) → Q (.ref r) { s with heap := h', toks := tk' }) :
    wpAny (LM w) (LA L fa cd) (call (.ref 161) [.ref ld, .ref lo, .ref ls]) Q E s := by
  refine alone_spec _ _ _ _ _ _ _ (lg_below (s := s) G F) (in_at F G.KX) (top_at F G.T) hld hlo hls hsd hso hss hnd hno hns (by show callerA.depth + 1 + 1 < recursionLimit; decide) (by show callerA.units + 3 + 8 * 1 < cLine; decide) ?_
  intro r vr c h' tk' st hr hr' hI
  refine k r vr c h' tk' (F.keeps st) (fun p hp => ?_) (new_ne N hr) hI
  rcases List.mem_cons.mp hp with rfl | hp
  · exact new_at F hr hr'
  · exact N.grown st p hp
noncomputable abbrev pairObj (a b : Addr) : Obj := { cls := Value.type "tuple", dict := none, data := Data.seq #[.ref a, .ref b] }
theorem call_sld {le la : Addr} {ve va : List Value} {es as : List Str} (G : LG w loose mean mg mb h₀) (F : Fr h₀ L s.heap m) (N : News h₀ L s.heap news)
    (hle : s.heap.IsList le ve.toArray) (hla : s.heap.IsList la va.toArray) (hse : StrsAre ve es) (hsa : StrsAre va as) (hne : es.length ≤ 16) (hna : as.length ≤ 16)
    (k : ∀ r lm lu vm vu cm cu h' tk', Fr h₀ L h' m → News h₀ L h' ((r, pairObj lm lu) :: (lm, listOf vm.toArray cm) :: (lu, listOf vu.toArray cu) :: news) → (∀ p ∈ news, p.1 ≠ r ∧ p.1 ≠ lm ∧ p.1 ≠ lu) → StrsAre vm (sldV es as).1 → StrsAre vu (sldV es as).2 → Q (.ref r) { s with heap := h', toks := tk' }) :
    wpAny (LM w) (LA L fa cd) (call (.ref 123) [.ref le, .ref la]) Q E s := by
  refine sld_spec _ _ _ _ _ _ _ (lg_below (s := s) G F) (in_at F G.KX) (top_at F G.T) G.KX G.T (lg_dicts F) hle hla hse hsa hne hna (by show callerA.depth + 1 + 1 < recursionLimit; decide) (by show callerA.units + 3 + 8 * 1 < cLine; decide) ?_
  intro r lm lu vm vu cm cu g' h' tk' T st hr hr' hm hm' hu hu' hvm hvu _ _ _
  have T' : KtsTurn [L] s.heap g' := T
  have hn : ∀ {a : Addr}, g'.get? a = none → s.heap.get? a = none := fun {a} h => by
    cases e : s.heap.get? a with
    | none => rfl
    | some o =>
      obtain ⟨sl, hs⟩ := T'.up e
      rw [h] at hs
      cases hs
  refine k r lm lu vm vu cm cu h' tk' (fr_turn F T' st) (fun p hp => ?_) (fun p hp => ⟨new_ne N (hn hr') p hp, new_ne N (hn hm') p hp, new_ne N (hn hu') p hp⟩) hvm hvu
  rcases List.mem_cons.mp hp with rfl | hp
  · exact new_at F (hn hr') hr
  rcases List.mem_cons.mp hp with rfl | hp
  · exact new_at F (hn hm') hm
  rcases List.mem_cons.mp hp with rfl | hp
  · exact new_at F (hn hu') hu
  · exact news_turn N T' st p hp
end
theorem rs_37_2 {M : Model} {A : Around} {Q : Value → Shared → Prop} {E : Value → Shared → Prop} {s : Shared} (h : wpAny M A (call .none [.none]) Q E s) : wpAny M A (call .none [.none]) Q E s := by first | (walk1; fail "") | exact h
section
variable {w : World} {loose : List Str} {mean : ExcName → Option Value} {mg mb : Str → Option Value} {h₀ : Heap} {L fa : Addr} {cd : Value} {s : Shared} {m : Str → Option Value} {Q : Flow → Shared → Prop} {E : Value → Shared → Prop}
theorem st_12 {la a0 a1 a2 : Addr} {c2 : Obj} {us0 us1 : List Value} {A0 A1 : List Int} {dv wv : Value} {rest : List (Addr × Obj)} (G : LG w loose mean mg mb h₀) (i0 : IntsAre us0 A0) (i1 : IntsAre us1 A1) (f0 : Five A0) (f1 : Five A1) (hc2 : c2.data = .cell (some (.ref la)))
    (S : At h₀ L s.heap [(Str.ofString "decks", dv), (Str.ofString "word", wv)] ((la, listOf #[.ref a0, .ref a1, .ref a2] 3) :: (a0, listOf us0.toArray 0) :: (a1, listOf us1.toArray 0) :: (L + 1 + 1 + 1, c2) :: rest))
    (k : ∀ h tk r c cells, At h₀ L h [(Str.ofString "words", .ref r), (Str.ofString "decks", dv), (Str.ofString "word", wv)] ((r, listOf (cells.map fun p => Value.ref p.1).toArray c) :: (cells ++ ((la, listOf #[.ref a0, .ref a1, .ref a2] 3) :: (a0, listOf us0.toArray 0) :: (a1, listOf us1.toArray 0) :: (L + 1 + 1 + 1, c2) :: rest))) →
      (∀ p ∈ (la, listOf #[.ref a0, .ref a1, .ref a2] 3) :: (a0, listOf us0.toArray 0) :: (a1, listOf us1.toArray 0) :: (L + 1 + 1 + 1, c2) :: rest, p.1 ≠ r ∧ ∀ q ∈ cells, p.1 ≠ q.1) → CellsI cells (sharedV A0 A1) → Q .next { s with heap := h, toks := tk }) :
    wpAny (LM w) (LA L fa cd) (exec (lawSt 12) (lawEnv L fa cd)) Q E s := by
  have K0 := G.K0
  have KX := G.KX
  have T := G.T
  refine At.use S ?_
  clear S
  intro m₀ mq F N
  conv in lawSt 12 => whnf
  k_steps
  all_goals (delta Stop)
  refine call_shared G F N (by is_list) (by is_list) i0 i1 f0.1 f1.1 ?_
  intro r c cells h tk F N hne hI
  k_steps
  rename Fr _ _ _ _ => F'
  rename News _ _ _ _ => N'
  exact k _ _ _ _ _ (At.mk F' N' ⟨rfl, rfl, rfl, trivial⟩ fun _ h => h) hne hI
end

theorem eqAt_same {A : Around} {s : Shared} {a b : Addr} {v1 v2 : List Value} {xs : List Str} (ha : s.heap.IsList a v1.toArray) (hb : s.heap.IsList b v2.toArray) (h1 : StrsAre v1 xs) (h2 : StrsAre v2 xs) (hu : A.units < cLine) : SeqAt.EqAt A s (.ref a) (.ref b) true := by
  have := eqAt_strs ha hb h1 h2 hu
  rwa [decide_eq_true rfl] at this
theorem la_in1 {L fa : Addr} {cd : Value} : (LA L fa cd).in1.units < cLine := by
  show (LA 0 0 .none).in1.units < cLine
  decide
theorem ne_told {prog : Program} {w : World} {A : Around} {E : Value → Shared → Prop} {s : Shared} {h₀ : Heap} {L r q lm lu r1 r2 : Addr} {news : List (Addr × Obj)} {vm vu v1 v2 : List Value} {cm cu c1 c2 : Nat} {M U : List Str} {Q : Value → Shared → Prop}
    (N : News h₀ L s.heap news) (mr : (r, pairObj lm lu) ∈ news) (mq : (q, pairObj r1 r2) ∈ news) (mm : (lm, listOf vm.toArray cm) ∈ news) (mu : (lu, listOf vu.toArray cu) ∈ news) (m1 : (r1, listOf v1.toArray c1) ∈ news) (m2 : (r2, listOf v2.toArray c2) ∈ news)
    (hm : StrsAre vm M) (h1 : StrsAre v1 M) (hu : StrsAre vu U) (h2 : StrsAre v2 U) (hA : A.in1.units < cLine) (h : Q (.bool false) s) :
    wpAny (model prog w) A (compareOp .NotEq (.ref r) (.ref q)) Q E s :=
  ne_pair (e1 := true) (e2 := true) ⟨_, (N _ mr).1, rfl, _, rfl⟩ ⟨_, (N _ mq).1, rfl, _, rfl⟩ (eqAt_same (N.isList mm) (N.isList m1) hm h1 hA) (eqAt_same (N.isList mu) (N.isList m2) hu h2 hA) (Nat.lt_of_le_of_lt (Nat.le_succ _) hA) h
theorem rs_39_1 {M : Model} {A : Around} {Q : Value → Shared → Prop} {E : Value → Shared → Prop} {s : Shared} (h : wpAny M A (call .none [.none]) Q E s) : wpAny M A (call .none [.none]) Q E s := by first | (walk1; fail "") | exact h
section
variable {w : World} {loose : List Str} {mean : ExcName → Option Value} {mg mb : Str → Option Value} {h₀ : Heap} {L fa : Addr} {cd : Value} {xh : Heap} {xg : Array GenState} {xd : Drawn} {xt : Nat} {xo : OsState} {m : Str → Option Value} {Q : Flow → Shared → Prop} {E : Value → Shared → Prop}
theorem st_14 {ld e0 e1 e2 : Addr} {c6 : Obj} {v0 v1 : List Value} {n0 n1 : Nat} {S0 S1 : List Str} {sv ww wv : Value} {rest : List (Addr × Obj)} (G : LG w loose mean mg mb h₀) (h0 : StrsAre v0 S0) (h1 : StrsAre v1 S1) (l0 : S0.length ≤ 16) (l1 : S1.length ≤ 16) (hc6 : ∃ v, c6.data = .cell v)
    (S : At h₀ L xh [(Str.ofString "shared", sv), (Str.ofString "words", ww), (Str.ofString "decks", .ref ld), (Str.ofString "word", wv)] ((ld, listOf #[.ref e0, .ref e1, .ref e2] 3) :: (e0, listOf v0.toArray n0) :: (e1, listOf v1.toArray n1) :: (L + 1 + 1 + 1 + 1 + 1 + 1 + 1, c6) :: rest))
    (hne : ∀ p ∈ (ld, listOf #[.ref e0, .ref e1, .ref e2] 3) :: (e0, listOf v0.toArray n0) :: (e1, listOf v1.toArray n1) :: rest, p.1 ≠ L + 1 + 1 + 1 + 1 + 1 + 1 + 1)
    (k : ∀ h tk c6' r lm lu vm vu cm cu, c6'.data = .cell (some (.ref r)) → StrsAre vm (sldV S0 S1).1 → StrsAre vu (sldV S0 S1).2 → At h₀ L h [(Str.ofString "shared", sv), (Str.ofString "words", ww), (Str.ofString "decks", .ref ld), (Str.ofString "word", wv)] ((r, pairObj lm lu) :: (lm, listOf vm.toArray cm) :: (lu, listOf vu.toArray cu) :: (L + 1 + 1 + 1 + 1 + 1 + 1 + 1, c6') :: (ld, listOf #[.ref e0, .ref e1, .ref e2] 3) :: (e0, listOf v0.toArray n0) :: (e1, listOf v1.toArray n1) :: rest) →
      (∀ p ∈ (ld, listOf #[.ref e0, .ref e1, .ref e2] 3) :: (e0, listOf v0.toArray n0) :: (e1, listOf v1.toArray n1) :: rest, p.1 ≠ r ∧ p.1 ≠ lm ∧ p.1 ≠ lu) → Q .next ⟨h, xg, xd, tk, xo⟩) :
    wpAny (LM w) (LA L fa cd) (exec (lawSt 14) (lawEnv L fa cd)) Q E ⟨xh, xg, xd, xt, xo⟩ := by
  have K0 := G.K0
  have KX := G.KX
  have T := G.T
  refine At.use S ?_
  clear S
  intro m₀ mq F N
  obtain ⟨vc, hc6⟩ := hc6
  conv in lawSt 14 => whnf
  k_steps
  all_goals (delta Stop)
  refine call_sld G F N (by is_list) (by is_list) h0 h1 l0 l1 ?_
  intro r lm lu vm vu cm cu h tk F N hN hm hu
  have n0 : ∀ p ∈ rest, p.1 ≠ L + 1 + 1 + 1 + 1 + 1 + 1 + 1 := fun p hp => hne p (.tail _ (.tail _ (.tail _ hp)))
  have n1 : @Ne Nat ld (L + 1 + 1 + 1 + 1 + 1 + 1 + 1) := hne _ (.head _)
  have n2 : @Ne Nat e0 (L + 1 + 1 + 1 + 1 + 1 + 1 + 1) := hne _ (.tail _ (.head _))
  have n3 : @Ne Nat e1 (L + 1 + 1 + 1 + 1 + 1 + 1 + 1) := hne _ (.tail _ (.tail _ (.head _)))
  have hc := hN _ (.tail _ (.tail _ (.tail _ (.head _))))
  have n4 : @Ne Nat r (L + 1 + 1 + 1 + 1 + 1 + 1 + 1) := Ne.symm hc.1
  have n5 : @Ne Nat lm (L + 1 + 1 + 1 + 1 + 1 + 1 + 1) := Ne.symm hc.2.1
  have n6 : @Ne Nat lu (L + 1 + 1 + 1 + 1 + 1 + 1 + 1) := Ne.symm hc.2.2
  clear hne
  k_steps
  rename Fr _ _ _ _ => F'
  rename News _ _ _ _ => N'
  refine k _ _ _ r lm lu vm vu cm cu ‹_› hm hu ⟨_, F', news_sub N' fun q hq => ?_⟩ fun p hp => ?_
  · exact subm (by (try simp only [List.nil_append, List.cons_append]); ((repeat ((with_reducible refine sub_c ?_ ?_); (focus (((with_reducible first | assumption | exact mem0 | exact mem1 | exact mem2 | exact mem3 | exact mem4 | exact mem5 | exact mem6 | exact mem7 | (refine mem_t ?_; first | exact mem0 | exact mem1 | exact mem2 | exact mem3 | exact mem4 | exact mem5 | exact mem6 | exact mem7 | (refine mem_t ?_; first | exact mem0 | exact mem1 | exact mem2 | exact mem3 | exact mem4 | exact mem5 | exact mem6 | exact mem7)) | (repeat first | assumption | exact List.mem_cons_self | apply List.mem_cons_of_mem | apply List.mem_append_right))))))); first | exact sub_n | assumption | exact sub_d 1 | exact sub_d 2 | exact sub_d 3 | exact sub_d 4 | exact sub_d 5 | exact sub_d 6 | exact sub_d 7 | exact sub_d 8 | exact sub_d 9 | exact sub_d 10 | exact sub_d 11 | exact sub_d 12 | exact sub_d 13 | exact sub_d 14 | exact sub_d 15 | exact sub_d 16 | exact sub_d 17 | exact sub_d 18 | exact sub_d 0 | (intro p hp; ((with_reducible (repeat first | assumption | (apply List.mem_append_left; assumption) | apply List.mem_cons_of_mem | apply List.mem_append_right)))))) q hq
  · simp only [List.mem_cons] at hp
    rcases hp with h | h | h | h
    · exact hN p (by rw [h]; exact .head _)
    · exact hN p (by rw [h]; exact .tail _ (.head _))
    · exact hN p (by rw [h]; exact .tail _ (.tail _ (.head _)))
    · exact hN p (.tail _ (.tail _ (.tail _ (.tail _ h))))
theorem st_15 {ld e0 e1 e2 r lm lu ls : Addr} {c6 : Obj} {v0 v1 vm vu vs : List Value} {n0 n1 ns cm cu : Nat} {S0 S1 SS M U : List Str} {ww wv : Value} {rest : List (Addr × Obj)} (G : LG w loose mean mg mb h₀) (h0 : StrsAre v0 S0) (h1 : StrsAre v1 S1) (hs : StrsAre vs SS) (hm : StrsAre vm M) (hu : StrsAre vu U)
    (l0 : S0.length ≤ 16) (l1 : S1.length ≤ 16) (p0 : 0 < S0.length) (p1 : 0 < S1.length) (l2 : SS.length ≤ 16) (eM : M = aloneV S0 S1 SS S0.length) (eU : U = aloneV S1 S0 SS S1.length) (hc6 : c6.data = .cell (some (.ref r)))
    (S : At h₀ L xh [(Str.ofString "shared", .ref ls), (Str.ofString "words", ww), (Str.ofString "decks", .ref ld), (Str.ofString "word", wv)] ((ls, listOf vs.toArray ns) :: (r, pairObj lm lu) :: (lm, listOf vm.toArray cm) :: (lu, listOf vu.toArray cu) :: (L + 1 + 1 + 1 + 1 + 1 + 1 + 1, c6) :: (ld, listOf #[.ref e0, .ref e1, .ref e2] 3) :: (e0, listOf v0.toArray n0) :: (e1, listOf v1.toArray n1) :: rest))
    (k : ∀ h tk, At h₀ L h [(Str.ofString "words", ww), (Str.ofString "decks", .ref ld), (Str.ofString "word", wv)] ((r, pairObj lm lu) :: (lm, listOf vm.toArray cm) :: (lu, listOf vu.toArray cu) :: (L + 1 + 1 + 1 + 1 + 1 + 1 + 1, c6) :: (ld, listOf #[.ref e0, .ref e1, .ref e2] 3) :: (e0, listOf v0.toArray n0) :: (e1, listOf v1.toArray n1) :: rest) → Q .next ⟨h, xg, xd, tk, xo⟩) :
    wpAny (LM w) (LA L fa cd) (exec (lawSt 15) (lawEnv L fa cd)) Q E ⟨xh, xg, xd, xt, xo⟩ := by
  have K0 := G.K0
  have KX := G.KX
  have T := G.T
  refine At.use S ?_
  clear S
  intro m₀ mq F N
  conv in lawSt 15 => whnf
  k_steps
  all_goals (delta Stop)
  refine call_alone G F N (by is_list) (by is_list) (by is_list) h0 h1 hs l0 ⟨l1, p1⟩ l2 ?_
  intro r1 vr1 cr1 h tk F N hN1 hr1
  k_steps
  all_goals (delta Stop)
  refine call_alone G ‹_› ‹_› (by is_list) (by is_list) (by is_list) h1 h0 hs l1 ⟨l0, p0⟩ l2 ?_
  intro r2 vr2 cr2 h tk F N hN2 hr2
  rw [← eM] at hr1
  rw [← eU] at hr2
  k_steps
  all_goals (delta Stop)
  rename Fr _ _ _ _ => F'
  rename News _ _ _ _ => N'
  refine ne_told N' (.tail _ (.tail _ (.tail _ (.tail _ (.head _))))) (.head _) (.tail _ (.tail _ (.tail _ (.tail _ (.tail _ (.head _)))))) (.tail _ (.tail _ (.tail _ (.tail _ (.tail _ (.tail _ (.head _))))))) (.tail _ (.tail _ (.head _))) (.tail _ (.head _)) hm hr1 hu hr2 la_in1 ?_
  k_steps
  refine k _ _ (At.mk F' N' ⟨rfl, rfl, rfl, trivial⟩ fun q hq => .tail _ (.tail _ (.tail _ (.tail _ hq))))
end

theorem rs_40_1 {M : Model} {A : Around} {Q : Value → Shared → Prop} {E : Value → Shared → Prop} {s : Shared} (h : wpAny M A (call .none [.none]) Q E s) : wpAny M A (call .none [.none]) Q E s := by first | (walk1; fail "") | exact h
section
variable {w : World} {loose : List Str} {mean : ExcName → Option Value} {mg mb : Str → Option Value} {h₀ : Heap} {L fa : Addr} {cd : Value} {xh : Heap} {xg : Array GenState} {xd : Drawn} {xt : Nat} {xo : OsState} {m : Str → Option Value} {Q : Flow → Shared → Prop} {E : Value → Shared → Prop}
theorem st_16 {ld e0 e1 e2 : Addr} {v1 : List Value} {n1 : Nat} {S1 : List Str} {ww wv : Value} {rest : List (Addr × Obj)} (G : LG w loose mean mg mb h₀) (h1 : StrsAre v1 S1) (l1 : S1.length ≤ 16)
    (S : At h₀ L xh [(Str.ofString "words", ww), (Str.ofString "decks", .ref ld), (Str.ofString "word", wv)] ((ld, listOf #[.ref e0, .ref e1, .ref e2] 3) :: (e1, listOf v1.toArray n1) :: rest))
    (k : ∀ h tk, At h₀ L h [(Str.ofString "words", ww), (Str.ofString "decks", .ref ld), (Str.ofString "word", wv)] ((ld, listOf #[.ref e0, .ref e1, .ref e2] 3) :: (e1, listOf v1.toArray n1) :: rest) → Q .next ⟨h, xg, xd, tk, xo⟩) :
    wpAny (LM w) (LA L fa cd) (exec (lawSt 16) (lawEnv L fa cd)) Q E ⟨xh, xg, xd, xt, xo⟩ := by
  have K0 := G.K0
  have KX := G.KX
  have T := G.T
  refine At.use S ?_
  clear S
  intro m₀ mq F N
  conv in lawSt 16 => whnf
  k_steps
  all_goals (delta Stop)
  refine call_sld (ve := []) G ‹_› ‹_› (News.isList ‹_› (.head _)) (by is_list) .nil h1 (Nat.zero_le _) l1 ?_
  intro r lm lu vm vu cm cu h tk F N hN hm hu
  rw [sldV_nil] at hm hu
  k_steps
  all_goals (delta Stop)
  rename Fr _ _ _ _ => F'
  rename News _ _ _ _ => N'
  refine ne_told N' (.tail _ (.tail _ (.head _))) (.head _) (.tail _ (.tail _ (.tail _ (.head _)))) (.tail _ (.tail _ (.tail _ (.tail _ (.head _))))) (.tail _ (.head _)) (.tail _ (.tail _ (.tail _ (.tail _ (.tail _ (.tail _ (.tail _ (.head _)))))))) hm .nil hu h1 la_in1 ?_
  k_steps
  refine k _ _ (At.mk F' N' ⟨rfl, rfl, rfl, trivial⟩ fun q hq => .tail _ (.tail _ (.tail _ (.tail _ (.tail _ (.tail _ hq))))))
theorem st_17 {ld e0 e1 e2 : Addr} {v0 : List Value} {n0 : Nat} {S0 : List Str} {ww wv : Value} {rest : List (Addr × Obj)} (G : LG w loose mean mg mb h₀) (h0 : StrsAre v0 S0) (l0 : S0.length ≤ 16)
    (S : At h₀ L xh [(Str.ofString "words", ww), (Str.ofString "decks", .ref ld), (Str.ofString "word", wv)] ((ld, listOf #[.ref e0, .ref e1, .ref e2] 3) :: (e0, listOf v0.toArray n0) :: rest))
    (k : ∀ h tk, At h₀ L h [(Str.ofString "words", ww), (Str.ofString "decks", .ref ld), (Str.ofString "word", wv)] ((ld, listOf #[.ref e0, .ref e1, .ref e2] 3) :: (e0, listOf v0.toArray n0) :: rest) → Q .next ⟨h, xg, xd, tk, xo⟩) :
    wpAny (LM w) (LA L fa cd) (exec (lawSt 17) (lawEnv L fa cd)) Q E ⟨xh, xg, xd, xt, xo⟩ := by
  have K0 := G.K0
  have KX := G.KX
  have T := G.T
  refine At.use S ?_
  clear S
  intro m₀ mq F N
  conv in lawSt 17 => whnf
  k_steps
  all_goals (delta Stop)
  refine call_sld (va := []) G ‹_› ‹_› (by is_list) (News.isList ‹_› (.head _)) h0 .nil l0 (Nat.zero_le _) ?_
  intro r lm lu vm vu cm cu h tk F N hN hm hu
  rw [sldV_nil2] at hm hu
  k_steps
  all_goals (delta Stop)
  rename Fr _ _ _ _ => F'
  rename News _ _ _ _ => N'
  refine ne_told N' (.tail _ (.tail _ (.head _))) (.head _) (.tail _ (.tail _ (.tail _ (.head _)))) (.tail _ (.tail _ (.tail _ (.tail _ (.head _))))) (.tail _ (.tail _ (.tail _ (.tail _ (.tail _ (.tail _ (.tail _ (.head _)))))))) (.tail _ (.head _)) hm h0 hu .nil la_in1 ?_
  k_steps
  refine k _ _ (At.mk F' N' ⟨rfl, rfl, rfl, trivial⟩ fun q hq => .tail _ (.tail _ (.tail _ (.tail _ (.tail _ (.tail _ hq))))))
end

theorem strs_turn {vs : List Value} {ss : List Str} (h : StrsAre vs ss) {i : Nat} {v : Value} (hv : vs[i]? = some v) : ∃ x t, ss[i]? = some x ∧ v = .str x t := by
  have hl := h.length
  have hi := (List.getElem?_eq_some_iff.mp hv).1
  have hx : ss[i]? = some ss[i] := List.getElem?_eq_getElem (by omega)
  obtain ⟨t, ht⟩ := h.get i _ hx
  rw [ht] at hv
  exact ⟨_, t, hx, (Option.some.inj hv).symm⟩
theorem mem_mid {α : Type} {q x : α} (as : List α) {bs : List α} (h : q ∈ x :: (as ++ bs)) : q ∈ as ++ x :: bs := by
  simp only [List.mem_cons, List.mem_append] at h ⊢
  rcases h with h | h | h <;> simp [h]
theorem mem_skip {α : Type} {q x : α} (as : List α) {bs : List α} (h : q ∈ as ++ bs) : q ∈ as ++ x :: bs := mem_mid as (.tail _ h)
theorem rs_41_1 {M : Model} {A : Around} {Q : Value → Shared → Prop} {E : Value → Shared → Prop} {s : Shared} (h : wpAny M A (call .none [.none]) Q E s) : wpAny M A (call .none [.none]) Q E s := by first | (walk1; fail "") | exact h
section
variable {w : World} {loose : List Str} {mean : ExcName → Option Value} {mg mb : Str → Option Value} {h₀ : Heap} {L fa : Addr} {cd : Value} {xh : Heap} {xg : Array GenState} {xd : Drawn} {xt : Nat} {xo : OsState} {m : Str → Option Value} {Q : Flow → Shared → Prop} {E : Value → Shared → Prop}
theorem filter_take_succ {α : Type} {p : α → Bool} {l : List α} {i : Nat} {x : α} (h : l[i]? = some x) : (l.take (i + 1)).filter p = (l.take i).filter p ++ (if p x then [x] else []) := by
  rw [List.take_add_one, h, List.filter_append]
  cases hp : p x <;> simp [hp]
theorem st_18 {ld e0 e1 e2 r lm lu : Addr} {c6 c7 : Obj} {v0 vm : List Value} {n0 cm : Nat} {S0 M : List Str} {ww wv : Value} {rest : List (Addr × Obj)} (G : LG w loose mean mg mb h₀) (h0 : StrsAre v0 S0) (hm : StrsAre vm M) (l0 : S0.length ≤ 16) (lM : M.length ≤ 16) (hc6 : c6.data = .cell (some (.ref r))) (hc7 : c7.data = .cell none)
    (S : At h₀ L xh [(Str.ofString "words", ww), (Str.ofString "decks", .ref ld), (Str.ofString "word", wv)] ((r, pairObj lm lu) :: (lm, listOf vm.toArray cm) :: (ld, listOf #[.ref e0, .ref e1, .ref e2] 3) :: (e0, listOf v0.toArray n0) :: (L + 1 + 1 + 1 + 1 + 1 + 1 + 1, c6) :: (L + 1 + 1 + 1 + 1 + 1 + 1 + 1 + 1, c7) :: rest))
    (hne : ∀ p ∈ (r, pairObj lm lu) :: (lm, listOf vm.toArray cm) :: (ld, listOf #[.ref e0, .ref e1, .ref e2] 3) :: (e0, listOf v0.toArray n0) :: (L + 1 + 1 + 1 + 1 + 1 + 1 + 1, c6) :: rest, p.1 ≠ L + 1 + 1 + 1 + 1 + 1 + 1 + 1 + 1)
    (k : ∀ h tk c7' dl vl cl, c7'.data = .cell (some (.ref dl)) → StrsAre vl (S0.filter fun t => !M.contains t) → At h₀ L h [(Str.ofString "words", ww), (Str.ofString "decks", .ref ld), (Str.ofString "word", wv)] ((dl, listOf vl.toArray cl) :: (L + 1 + 1 + 1 + 1 + 1 + 1 + 1 + 1, c7') :: (r, pairObj lm lu) :: (lm, listOf vm.toArray cm) :: (ld, listOf #[.ref e0, .ref e1, .ref e2] 3) :: (e0, listOf v0.toArray n0) :: (L + 1 + 1 + 1 + 1 + 1 + 1 + 1, c6) :: rest) →
      (∀ p ∈ (r, pairObj lm lu) :: (lm, listOf vm.toArray cm) :: (ld, listOf #[.ref e0, .ref e1, .ref e2] 3) :: (e0, listOf v0.toArray n0) :: (L + 1 + 1 + 1 + 1 + 1 + 1 + 1, c6) :: rest, p.1 ≠ dl) → Q .next ⟨h, xg, xd, tk, xo⟩) :
    wpAny (LM w) (LA L fa cd) (exec (lawSt 18) (lawEnv L fa cd)) Q E ⟨xh, xg, xd, xt, xo⟩ := by
  have K0 := G.K0
  have KX := G.KX
  have T := G.T
  refine At.use S ?_
  clear S
  intro m₀ mq F N
  conv in lawSt 18 => whnf
  k_steps
  delta Stop
  rename Fr _ _ _ _ => F'
  rename News _ _ _ _ => N'
  have hl := h0.length
  refine LCt.CompSrcT.ledger rfl F' N' (.tail _ (.tail _ (.tail _ (.head _)))) (by simp [sizeLine]; omega) ?_
  intro g
  refine comp_JTn (fun i vs => StrsAre vs ((S0.take i).filter fun t => !M.contains t)) .nil ?_ ?_
  · clear F' N'
    rintro i vs hi hvs v I oI C oC D m₂ h tk E' hv hC hx F N off ne
    obtain ⟨x, t, hx0, rfl⟩ := strs_turn h0 (by simpa using hv)
    have hf := filter_take_succ (p := fun t => !M.contains t) hx0
    k_steps
    · have hA : (M.any fun y => y == x) = true := ‹_›
      rw [any_contains] at hA
      refine LCg.CompEnd.intro F N _ (fun p hp => hp) off (Or.inr ⟨_, .tail _ (.tail _ (.tail _ (.head _))), rfl, _, rfl⟩) ⟨rfl, ?_⟩
      rw [hf, hA]
      simpa using hvs
    · have hA : (M.any fun y => y == x) = false := ‹_›
      rw [any_contains] at hA
      refine LCg.CompEnd.intro F N _ (fun p hp => hp) off (Or.inr ⟨_, .tail _ (.tail _ (.tail _ (.head _))), rfl, _, rfl⟩) ⟨rfl, ?_⟩
      rw [hf, hA]
      exact strsAre_snoc hvs
  · rintro vs hvs
    rw [List.take_of_length_le (by simp; omega)] at hvs
    delta LCg.FinE
    intro D2 h2 tk2 F2 N2 off2
    clear F' N'
    have o2 := off1_mem off2
    have n0 : @Ne Nat (r) (L + 1 + 1 + 1 + 1 + 1 + 1 + 1 + 1) := hne _ (.head _)
    have n1 : @Ne Nat (lm) (L + 1 + 1 + 1 + 1 + 1 + 1 + 1 + 1) := hne _ (.tail _ (.head _))
    have n2 : @Ne Nat (ld) (L + 1 + 1 + 1 + 1 + 1 + 1 + 1 + 1) := hne _ (.tail _ (.tail _ (.head _)))
    have n3 : @Ne Nat (e0) (L + 1 + 1 + 1 + 1 + 1 + 1 + 1 + 1) := hne _ (.tail _ (.tail _ (.tail _ (.head _))))
    have n4 : @Ne Nat (L + 1 + 1 + 1 + 1 + 1 + 1 + 1) (L + 1 + 1 + 1 + 1 + 1 + 1 + 1 + 1) := hne _ (.tail _ (.tail _ (.tail _ (.tail _ (.head _)))))
    have n5 : @Ne Nat D2 (L + 1 + 1 + 1 + 1 + 1 + 1 + 1 + 1) := Ne.symm (o2 _ (.tail _ (.tail _ (.tail _ (.tail _ (.tail _ (.head _)))))))
    have n6 : ∀ p ∈ rest, p.1 ≠ L + 1 + 1 + 1 + 1 + 1 + 1 + 1 + 1 := fun p hp => hne p (.tail _ (.tail _ (.tail _ (.tail _ (.tail _ hp)))))
    clear off2 hne
    k_steps
    rename Fr _ _ _ _ => F'
    rename News _ _ _ _ => N'
    refine k _ _ _ D2 vs _ ‹_› hvs ⟨_, F', news_sub N' (fm_c (.head _) (fun q hq => List.mem_cons_of_mem _ ?_))⟩ fun p hp => ?_
    · exact mem_mid [_, _, _, _, _] hq
    · exact o2 p (mem_skip [_, _, _, _, _] hp)
end

theorem rs_425_1 {M : Model} {A : Around} {Q : Value → Shared → Prop} {E : Value → Shared → Prop} {s : Shared} (h : wpAny M A (call .none [.none]) Q E s) : wpAny M A (call .none [.none]) Q E s := by first | (walk1; fail "") | exact h
section
theorem relaid_led {t t' : SetTable} {hs : Array Int} {n : Nat} {o : Array Nat} (h : t.relaid hs n = some (t', o)) : t'.led = t.led ∧ t'.plain = t.plain := by
  unfold SetTable.relaid SetTable.laid at h
  cases hc : SetTable.layClean (SetTable.sizeAbove n - 1) hs with
  | none => rw [hc] at h; cases h
  | some ow =>
    rw [hc] at h
    have h' := Option.some.inj h
    have e := (Prod.mk.inj h').1
    rw [← e]
    exact ⟨rfl, rfl⟩
theorem relayAll_led (t : SetTable) (es : Array (Int × Value)) (n : Nat) : (relayAll t es n).2.1.led = t.led ∧ (t.plain = false → (relayAll t es n).2.1.plain = false) := by
  unfold relayAll
  split
  · rename_i t' o h
    have := relaid_led h
    dsimp only
    split
    · exact ⟨this.1, fun hp => this.2.trans hp⟩
    · exact ⟨rfl, fun _ => rfl⟩
  · exact ⟨rfl, fun _ => rfl⟩
theorem orStandIn_led (t : SetTable) (n : Nat) : (t.orStandIn n).led = t.led ∧ (t.plain = false → (t.orStandIn n).plain = false) := by
  unfold SetTable.orStandIn
  split
  · exact ⟨rfl, id⟩
  · exact ⟨rfl, fun _ => rfl⟩
theorem layNew_led (t : SetTable) (es : Array (Int × Value)) (h : Int) (x : Value) : (layNew t es h x).2.1.led = t.led ∧ (t.plain = false → (layNew t es h x).2.1.plain = false) := by
  unfold layNew
  split
  · exact orStandIn_led (t.put _).1 _
  · exact ⟨rfl, fun _ => rfl⟩
end
theorem rs_425_2 {M : Model} {A : Around} {Q : Value → Shared → Prop} {E : Value → Shared → Prop} {s : Shared} (h : wpAny M A (call .none [.none]) Q E s) : wpAny M A (call .none [.none]) Q E s := by first | (walk1; fail "") | exact h
section
variable {prog : Program} {w : World} {A : Around} {E : Value → Shared → Prop} {s : Shared}
noncomputable def SetL (prog : Program) (w : World) (h : Heap) (a : Addr) (S : Str → Bool) (n : Nat) (led : Bool) : Prop :=
  ∃ o es ep t, h.get? a = some o ∧ o.ExactSet ∧ o.data = .set es ep t ∧ ElemsOf (strKind prog w) es.toList ∧ (∀ k, S k = true ↔ ∃ e ∈ es.toList, (strKind prog w).is k e.2 = true)
    ∧ es.size < scanBound ∧ t.fits es.size = true ∧ es.size = n ∧ t.led = led ∧ (0 < n → t.plain = false)
theorem setL_store {h : Heap} {a : Addr} {o : Obj} {es : Array (Int × Value)} {ep : Nat} {t : SetTable} {led : Bool} (ho : h.get? a = some o) (hex : o.ExactSet) (hd : o.data = .set es ep t)
    {es' : Array (Int × Value)} {t' : SetTable} {S' : Str → Bool} (hel : ElemsOf (strKind prog w) es'.toList) (hmem : ∀ k, S' k = true ↔ ∃ e ∈ es'.toList, (strKind prog w).is k e.2 = true) (hb : es'.size < scanBound) (hf : t'.fits es'.size = true) (hl : t'.led = led) (hp : t'.plain = false) :
    (h.update a (Obj.putSet es' t')).get? a = some { o with data := .set es' (ep + 1) t' } ∧ SetL prog w (h.update a (Obj.putSet es' t')) a S' es'.size led := by
  have hg : (h.update a (Obj.putSet es' t')).get? a = some { o with data := .set es' (ep + 1) t' } := by
    have := Heap.get?_update_self (Obj.putSet es' t') ho (by rw [putSet_of es' t' hd]; rfl)
    rw [putSet_of es' t' hd] at this; exact this
  exact ⟨hg, _, es', ep + 1, t', hg, hex, rfl, hel, hmem, hb, hf, rfl, hl, fun _ => hp⟩
theorem setL_tail {g : Bool → Sem Unit} (hg : ∀ (b : Bool) (s₁ : Shared) (Q' : Unit → Shared → Prop), Q' () s₁ → wpAny (model prog w) A (g b) Q' E s₁) {led : Bool}
    {a : Addr} {o : Obj} {es : Array (Int × Value)} {ep : Nat} {t : SetTable} (ho : s.heap.get? a = some o) (hex : o.ExactSet) (hd : o.data = .set es ep t)
    {es1 : Array (Int × Value)} {t2 : SetTable} {S' : Str → Bool} (hel1 : ElemsOf (strKind prog w) es1.toList) (hmem1 : ∀ k', S' k' = true ↔ ∃ e ∈ es1.toList, (strKind prog w).is k' e.2 = true)
    (hb1 : es1.size < scanBound) (hf2 : t2.fits es1.size = true) (hl2 : t2.led = led) (hp2 : t2.plain = false) {wasDummy : Bool} {R : Option Bool → Shared → Prop}
    (h : ∀ h', Heap.SameBut a s.heap h' → SetL prog w h' a S' es1.size led → R (some true) { s with heap := h' }) :
    wpAny (model prog w) A (do
        storeSet a es1 t2
        if (!wasDummy && t2.tooFull) = true then do
            g (relayAll t2 es1 (SetTable.grown es1.size)).2.2
            storeSet a (relayAll t2 es1 (SetTable.grown es1.size)).1 (relayAll t2 es1 (SetTable.grown es1.size)).2.1
            pure (some true)
          else pure (some true)) R E s := by
  refine wpAny_bind (wpAny_storeSet_of ho hd ?_ (fits_of_scanBound hb1))
  obtain ⟨ho1, hS1⟩ := setL_store (prog := prog) (w := w) ho hex hd hel1 hmem1 hb1 hf2 hl2 hp2
  have hsb1 := Heap.SameBut.update s.heap a (Obj.putSet es1 t2)
  split
  · have hp := relayAll_perm t2 es1 (SetTable.grown es1.size)
    have hfr := relayAll_fits t2 es1 (SetTable.grown es1.size)
    have hlr := relayAll_led t2 es1 (SetTable.grown es1.size)
    generalize relayAll t2 es1 (SetTable.grown es1.size) = Rl at hp hfr hlr ⊢
    have hsz : Rl.1.size = es1.size := by rw [← Array.length_toList, hp.length_eq, Array.length_toList]
    refine wpAny_bind (hg _ _ _ ?_)
    refine wpAny_bind (wpAny_storeSet_of ho1 rfl ?_ (fits_of_scanBound (by rw [hsz]; exact hb1)))
    obtain ⟨_, hS2⟩ := setL_store (prog := prog) (w := w) ho1 hex rfl (hel1.perm hp) (fun k' => (hmem1 k').trans ⟨fun ⟨e, he, q⟩ => ⟨e, hp.mem_iff.mpr he, q⟩, fun ⟨e, he, q⟩ => ⟨e, hp.mem_iff.mp he, q⟩⟩) (by rw [hsz]; exact hb1) hfr (hlr.1.trans hl2) (hlr.2 hp2)
    rw [hsz] at hS2
    exact wpAny_pure (h _ (hsb1.trans (Heap.SameBut.update _ a _)) hS2)
  · exact wpAny_pure (h _ hsb1 hS1)
theorem setL_add {a : Addr} {S : Str → Bool} {n : Nat} {led : Bool} {k : Str} {tk : Tok} {Q : Bool → Shared → Prop} (hS : SetL prog w s.heap a S n led) (hroom : n + 1 < scanBound)
    (h : ∀ h' b, Heap.SameBut a s.heap h' → SetL prog w h' a (fun k' => S k' || decide (k' = k)) (if S k then n else n + 1) led → Q b { s with heap := h' }) :
    wpAny (model prog w) A (setAddHashed a (.str k tk) ((strKind prog w).hash k)) Q E s := by
  obtain ⟨o, es, ep, t, ho, hex, hd, hel, hmem, hb, hf, hn, hl, hp⟩ := hS
  have hkey : (strKind prog w).is k (.str k tk) = true := strKind_is prog w k tk
  have hb1 : es.size + 1 < scanBound := by rw [hn]; exact hroom
  unfold setAddHashed setAddHashedIn
  refine wpAny_holding (wpAny_bind (wpAny_setState_of ho hd hf ?_))
  dsimp only
  rw [byScan_of rfl hb hel]
  simp only [↓reduceIte]
  unfold setAddByScan
  refine wpAny_bind ?_
  refine wpAny_bind (wpAny_rule ?_)
  refine wpAny_bind (wpAny_setScan_of hkey ho hd hf hel ?_)
  cases hr : List.findIdx? (fun e => (strKind prog w).is k e.2) es.toList with
  | some j =>
    dsimp only
    obtain ⟨hj, hpj, _⟩ := List.findIdx?_eq_some_iff_getElem.mp hr
    have hSk : S k = true := (hmem k).mpr ⟨es.toList[j], List.getElem_mem hj, hpj⟩
    refine wpAny_pure (wpAny_pure ?_)
    have := h s.heap false (Heap.SameBut.refl a s.heap) ⟨o, es, ep, t, ho, hex, hd, hel, fun k' => by
      rw [Bool.or_eq_true, decide_eq_true_eq, ← hmem k']
      exact ⟨fun hk => hk.elim id (fun e => e ▸ hSk), .inl⟩, hb, hf, by rw [hSk]; exact hn, hl, by rw [hSk]; exact hp⟩
    exact this
  | none =>
    dsimp only
    have hSk : S k = false := by
      cases hk : S k with
      | false => rfl
      | true => obtain ⟨e, he, hp⟩ := (hmem k).mp hk; have := List.findIdx?_eq_none_iff.mp hr e he; rw [hp] at this; exact Bool.noConfusion this
    have hgw : ∀ (b : Bool) (s₁ : Shared) (Q' : Unit → Shared → Prop), Q' () s₁ → wpAny (model prog w) A (match b with | true => rule "set.scan.the-table-gave-way" | false => pure ()) Q' E s₁ :=
      fun b s₁ Q' hq => by cases b <;> first | exact wpAny_pure hq | exact wpAny_rule hq
    have hperm := layNew_perm t es ((strKind prog w).hash k) (.str k tk)
    have hfits := layNew_fits t es ((strKind prog w).hash k) (.str k tk)
    have hled := layNew_led t es ((strKind prog w).hash k) (.str k tk)
    generalize layNew t es ((strKind prog w).hash k) (.str k tk) = Y at hperm hfits hled ⊢
    obtain ⟨es1, t1, wasDummy, gave⟩ := Y
    dsimp only at hperm hfits hled ⊢
    rw [Array.toList_push] at hperm
    have hel1 := (hel.push hkey rfl).perm hperm
    have hmem1 : ∀ k', (S k' || decide (k' = k)) = true ↔ ∃ e ∈ es1.toList, (strKind prog w).is k' e.2 = true := mem_push_iff hkey hmem hperm
    have hsz : es1.size = es.size + 1 := by rw [← Array.length_toList, hperm.length_eq, List.length_append, Array.length_toList]; rfl
    have hend : ∀ h', Heap.SameBut a s.heap h' → SetL prog w h' a (fun k' => S k' || decide (k' = k)) es1.size led → Q true { s with heap := h' } := by
      intro h' hsb hS'
      rw [hsz, hn] at hS'
      have := h h' true hsb
      rw [hSk] at this
      exact this hS'
    refine wpAny_bind (hgw _ _ _ ?_)
    split
    · refine wpAny_bind ?_
      rw [hashByValue_scannable 8 rfl]
      refine wpAny_pure ?_
      refine setL_tail hgw ho hex hd hel1 hmem1 (by omega) (SetTable.fits_plain_off hfits) (hled.1.trans hl) rfl ?_
      intro h' hsb hS'; dsimp only; exact wpAny_pure (hend h' hsb hS')
    · refine wpAny_bind (wpAny_pure ?_)
      simp only [↓reduceIte]
      refine setL_tail hgw ho hex hd hel1 hmem1 (by omega) hfits (hled.1.trans hl) (eq_false_of_ne_true ‹¬ t1.plain = true›) ?_
      intro h' hsb hS'; dsimp only; exact wpAny_pure (hend h' hsb hS')
end

noncomputable def stepS (σ : List Str) (v : Str) : List Str := if σ.contains v then σ else σ ++ [v]
noncomputable def onceS (l : List Str) : List Str := l.foldl stepS []
theorem stepS_contains (σ : List Str) (v k : Str) : (stepS σ v).contains k = (σ.contains k || decide (k = v)) := by
  unfold stepS
  split
  · rename_i h
    by_cases e : k = v
    · subst e; rw [h]; rfl
    · rw [decide_eq_false e, Bool.or_false]
  · rw [List.contains_eq_any_beq, List.contains_eq_any_beq, List.any_append]
    by_cases e : k = v
    · subst e; simp
    · simp [e]
theorem stepS_length (σ : List Str) (v : Str) : (stepS σ v).length = if σ.contains v then σ.length else σ.length + 1 := by
  unfold stepS; split <;> simp
theorem stepS_nodup {σ : List Str} {v : Str} (h : σ.Nodup) : (stepS σ v).Nodup := by
  unfold stepS
  split
  · exact h
  · rename_i hc
    rw [List.nodup_append]
    refine ⟨h, by simp, fun a ha b hb e => ?_⟩
    rw [List.mem_singleton] at hb
    subst hb; subst e
    exact hc (List.contains_iff_mem.mpr ha)
theorem onceS_succ {l : List Str} {i : Nat} {x : Str} (h : l[i]? = some x) : onceS (l.take (i + 1)) = stepS (onceS (l.take i)) x := by
  unfold onceS
  rw [List.take_add_one, h, List.foldl_append]; rfl
theorem onceS_len (l : List Str) : (onceS l).length ≤ l.length := by
  suffices ∀ σ : List Str, (l.foldl stepS σ).length ≤ σ.length + l.length by simpa [onceS] using this []
  induction l with
  | nil => intro σ; simp
  | cons v l ih =>
    intro σ
    have := ih (stepS σ v)
    have h2 := stepS_length σ v
    rw [List.foldl_cons, List.length_cons]
    split at h2 <;> lia
theorem onceS_nodup (l : List Str) : (onceS l).Nodup := by
  suffices ∀ σ : List Str, σ.Nodup → (l.foldl stepS σ).Nodup from this [] (by simp)
  induction l with
  | nil => intro σ h; exact h
  | cons v l ih => intro σ h; exact ih _ (stepS_nodup h)
theorem onceS_mem (l : List Str) (k : Str) : (onceS l).contains k = l.contains k := by
  suffices ∀ σ : List Str, (l.foldl stepS σ).contains k = (σ.contains k || l.contains k) by simpa [onceS] using this []
  induction l with
  | nil => intro σ; simp
  | cons v l ih =>
    intro σ
    rw [List.foldl_cons, ih, stepS_contains, List.contains_cons, Bool.or_assoc]
    congr 2
theorem rs_427_1 {M : Model} {A : Around} {Q : Value → Shared → Prop} {E : Value → Shared → Prop} {s : Shared} (h : wpAny M A (call .none [.none]) Q E s) : wpAny M A (call .none [.none]) Q E s := by first | (walk1; fail "") | exact h
section
variable {prog : Program} {w : World} {A : Around} {R : Result → Shared → Prop} {I : Addr} {fp wr : List Addr} {G : Array GenState → Array GenState → Prop} {n : Nat} {P : Nat → Value → Prop} {St : Nat → Shared → Prop}
theorem setL_loop (W : WalksS prog w A.in1 I fp wr G n P St) (S : Addr) (hSf : S ∉ fp) {ds : List Str} {led : Bool}
    (hval : ∀ i v, P i v → ∃ x t, ds[i]? = some x ∧ v = .str x t) (hn : ds.length = n) (hb : n + 1 < scanBound) :
    ∀ (k i : Nat) (s : Shared), n - i = k → i ≤ n → St i s → SetL prog w s.heap S (fun k' => (onceS (ds.take i)).contains k') (onceS (ds.take i)).length led →
      (∀ s', Moved (S :: wr) G s s' → SetL prog w s'.heap S (fun k' => (onceS ds).contains k') (onceS ds).length led → R (.ok (.ret .none)) s') →
      codeAny (model prog w) A (.builtin "set.update.loop" ⟨[.ref S, .ref I], []⟩) R s := by
  have hSw : S ∉ wr := fun h => hSf (W.sub _ h)
  have hsub : ∀ b ∈ wr, b ∈ S :: wr := fun b hb => List.mem_cons_of_mem _ hb
  intro k
  induction k with
  | zero =>
    intro i s hk hi hst hS hR
    have hin : i = n := by lia
    subst hin
    rw [List.take_of_length_le (by lia)] at hS
    refine codeAny_builtin PyProof.Rows.F.entry_set_update_loop ?_
    rw [Around.under_plainId PyProof.Rows.F.plain_set_update_loop _]
    show wpAny _ A.in1 (pyNext (.ref I) >>= _) _ _ s
    refine wpAny_bind (W.done s _ _ hst fun s' hm => ?_)
    show wpAny _ A.in1 (ret Value.none) _ _ s'
    exact wpAny_pure (hR s' (hm.mono hsub) (by
      obtain ⟨o, es, ep, t, ho, rest⟩ := hS
      exact ⟨o, es, ep, t, hm.heap S _ hSw ho, rest⟩))
  | succ k ih =>
    intro i s hk hi hst hS hR
    have hlt : i < n := by lia
    refine codeAny_builtin PyProof.Rows.F.entry_set_update_loop ?_
    rw [Around.under_plainId PyProof.Rows.F.plain_set_update_loop _]
    show wpAny _ A.in1 (pyNext (.ref I) >>= _) _ _ s
    refine wpAny_bind (W.item i s _ _ hlt hst fun v s' hP hst' hm => ?_)
    obtain ⟨x, t, hx, rfl⟩ := hval i v hP
    have hS' : SetL prog w s'.heap S (fun k' => (onceS (ds.take i)).contains k') (onceS (ds.take i)).length led := by
      obtain ⟨o, es, ep, tb, ho, rest⟩ := hS
      exact ⟨o, es, ep, tb, hm.heap S _ hSw ho, rest⟩
    show wpAny _ A.in1 (holding [Value.str x t] (setAdd S (.str x t)) >>= _) _ _ s'
    refine wpAny_bind (wpAny_holding ?_)
    unfold setAdd
    refine wpAny_holding ?_
    refine wpAny_bind ((strKind prog w).pyHash (k := x) (strKind_is _ _ _ _) ?_)
    have hroom : (onceS (ds.take i)).length + 1 < scanBound := by
      have := onceS_len (ds.take i)
      rw [List.length_take] at this; lia
    refine setL_add (s := { s' with toks := s'.toks + 1 }) hS' hroom fun h' b hsb hS2 => ?_
    have hSi : SetL prog w h' S (fun k' => (onceS (ds.take (i + 1))).contains k') (onceS (ds.take (i + 1))).length led := by
      rw [onceS_succ hx, stepS_length]
      have e : (fun k' => (stepS (onceS (ds.take i)) x).contains k') = fun k' => (onceS (ds.take i)).contains k' || decide (k' = x) := funext fun k' => stepS_contains _ _ _
      rw [e]; exact hS2
    refine wpAny_pure ⟨plainId_quiet PyProof.Rows.F.plain_set_update_loop _, ih (i + 1) _ (sub_step hk) hlt (W.frame _ s' _ _ hst' (Nat.le_succ _) fun b hb o e => ?_) hSi fun s'' hm'' hS'' => ?_⟩
    · rw [hsb.2 b (fun h : b = S => hSf (by rw [← h]; exact hb))]; exact e
    · refine hR s'' (Moved.trans W.gtrans ((hm.mono hsub).then_heap (Nat.le_succ _) fun b o hb e => ?_) hm'') hS''
      rw [hsb.2 b (fun h : b = S => hb (by rw [h]; exact List.mem_cons_self))]; exact e
end

theorem lt_irr (a : Str) : ltS a a = false := decide_eq_false (List.lt_irrefl _)
theorem lt_tr {a b c : Str} (h1 : ltS a b = true) (h2 : ltS b c = true) : ltS a c = true := decide_eq_true (List.lt_trans (of_decide_eq_true h1) (of_decide_eq_true h2))
theorem lt_tri {a b : Str} (h1 : ltS a b = false) (h2 : ltS b a = false) : a = b := by
  have e : a.cps.toList = b.cps.toList := List.le_antisymm (List.not_lt.mp (of_decide_eq_false h2)) (List.not_lt.mp (of_decide_eq_false h1))
  cases a; cases b
  simp only at e
  congr 1
  exact Array.toList_inj.mp e
theorem lt_le {a b c : Str} (h1 : ltS a b = true) (h2 : ltS c b = false) : ltS a c = true := by
  cases h : ltS a c with
  | true => rfl
  | false =>
    cases h3 : ltS c a with
    | true => rw [lt_tr h3 h1] at h2; cases h2
    | false => rw [lt_tri h3 h] at h2; rw [h2] at h1; cases h1
theorem le_lt {a b c : Str} (h1 : ltS b a = false) (h2 : ltS b c = true) : ltS a c = true := by
  cases h : ltS a b with
  | true => exact lt_tr h h2
  | false => rw [lt_tri h h1]; exact h2
theorem lt_as {a b : Str} (h : ltS a b = true) : ltS b a = false := by
  cases h2 : ltS b a with
  | false => rfl
  | true => have := lt_tr h h2; rw [lt_irr] at this; cases this
noncomputable abbrev Srt (l : List Str) : Prop := l.Pairwise fun a b => ltS b a = false
theorem srt_rising : ∀ (l : List Str) (p : Str), risingS p l = true → Srt (p :: l)
  | [], p, _ => List.pairwise_singleton _ _
  | x :: r, p, h => by
    unfold risingS at h
    rw [Bool.and_eq_true, Bool.not_eq_true', ltCps_eq] at h
    have ih := srt_rising r x h.2
    refine List.pairwise_cons.mpr ⟨fun y hy => ?_, ih⟩
    rcases List.mem_cons.mp hy with rfl | hy
    · exact h.1
    · have h1 := (List.pairwise_cons.mp ih).1 y hy
      cases h2 : ltS y p with
      | false => rfl
      | true =>
        have h3 : ltS x p = false := h.1
        have := le_lt (a := x) (b := y) (c := p) h1 h2
        rw [h3] at this; cases this
theorem srt_of {l : List Str} (h : sortedS l = true) : Srt l := by
  cases l with
  | nil => exact List.Pairwise.nil
  | cons x r => exact srt_rising r x h
theorem dw_gt {e : Str} : ∀ {es : List Str}, Srt (e :: es) → ∀ x ∈ es.dropWhile (· == e), ltS e x = true
  | [], _, x, hx => by simp at hx
  | y :: es, h, x, hx => by
    have h1 := List.pairwise_cons.mp h
    rw [List.dropWhile_cons] at hx
    split at hx
    · exact dw_gt (es := es) (List.pairwise_cons.mpr ⟨fun z hz => h1.1 z (.tail _ hz), (List.pairwise_cons.mp h1.2).2⟩) x hx
    · rename_i hne
      have hy : ltS e y = true := by
        cases h2 : ltS e y with
        | true => rfl
        | false => exact absurd (by rw [lt_tri h2 (h1.1 y (.head _))]; exact beq_self_eq_true y) hne
      rcases List.mem_cons.mp hx with rfl | hx
      · exact hy
      · exact lt_le hy ((List.pairwise_cons.mp h1.2).1 x hx)
theorem dw_srt {e : Str} {es : List Str} (h : Srt es) : Srt (es.dropWhile (· == e)) := h.sublist (List.dropWhile_sublist _)
theorem dw_mem {e x : Str} {es : List Str} (h : x ∈ es.dropWhile (· == e)) : x ∈ es := (List.dropWhile_sublist _).subset h
theorem dw_skip {e x : Str} (hne : x ≠ e) : ∀ {es : List Str}, x ∈ es → x ∈ es.dropWhile (· == e)
  | y :: es, h => by
    rw [List.dropWhile_cons]
    split
    · rename_i hy
      rcases List.mem_cons.mp h with rfl | h
      · exact absurd (eq_of_beq hy) hne
      · exact dw_skip hne h
    · exact h
noncomputable def aloneL (f g : Str → Bool) : List Str → List Str
  | [] => []
  | e :: es => (if f e then [] else [e]) ++ (if g e then aloneL f g es else aloneL f g (es.dropWhile (· == e)))
termination_by es => es.length
decreasing_by
  · simp
  · have : (es.dropWhile (· == e)).length ≤ es.length := (List.dropWhile_sublist _).length_le
    simp only [List.length_cons]; omega
theorem aloneL_nil (f g : Str → Bool) : aloneL f g [] = [] := by rw [aloneL]
theorem aloneL_cons (f g : Str → Bool) (e : Str) (es : List Str) : aloneL f g (e :: es) = (if f e then [] else [e]) ++ (if g e then aloneL f g es else aloneL f g (es.dropWhile (· == e))) := by rw [aloneL]
theorem aloneL_congr {f g f' g' : Str → Bool} : ∀ es : List Str, (∀ x ∈ es, f x = f' x ∧ g x = g' x) → aloneL f g es = aloneL f' g' es
  | [], _ => by rw [aloneL_nil, aloneL_nil]
  | e :: es, h => by
    have h1 := aloneL_congr es fun x hx => h x (.tail _ hx)
    have h2 := aloneL_congr (es.dropWhile (· == e)) fun x hx => h x (.tail _ (dw_mem hx))
    have h3 := h e (.head _)
    rw [aloneL_cons, aloneL_cons, h1, h2, h3.1, h3.2]
termination_by es => es.length
decreasing_by
  · simp
  · have : (es.dropWhile (· == e)).length ≤ es.length := (List.dropWhile_sublist _).length_le
    simp only [List.length_cons]; omega
theorem aloneL_all {g : Str → Bool} : ∀ es : List Str, (∀ x, g x = true) → aloneL (fun _ => false) g es = es
  | [], _ => by rw [aloneL_nil]
  | e :: es, h => by rw [aloneL_cons, aloneL_all es h, h]; rfl
theorem aloneL_mem {f g : Str → Bool} {x : Str} : ∀ es : List Str, x ∈ aloneL f g es ↔ x ∈ es ∧ f x = false
  | [] => by rw [aloneL_nil]; simp
  | e :: es => by
    have h1 := aloneL_mem (f := f) (g := g) (x := x) es
    have h2 := aloneL_mem (f := f) (g := g) (x := x) (es.dropWhile (· == e))
    rw [aloneL_cons, List.mem_append, List.mem_cons]
    by_cases hx : x = e
    · subst hx
      have h3 : x ∈ (if g x then aloneL f g es else aloneL f g (es.dropWhile (· == x))) → f x = false := by
        split
        · intro h; exact (h1.mp h).2
        · intro h; exact (h2.mp h).2
      cases hf : f x with
      | true => simp only [hf, ↓reduceIte, List.not_mem_nil, false_or, true_or, true_and]; constructor
                · intro h; have := h3 h; rw [hf] at this; cases this
                · intro h; cases h
      | false => simp
    · have h3 : x ∉ (if f e = true then [] else [e]) := by split <;> simp [hx]
      have h4 : x ∈ es.dropWhile (· == e) ↔ x ∈ es := ⟨dw_mem, dw_skip hx⟩
      have h5 : x ∈ (if g e = true then aloneL f g es else aloneL f g (es.dropWhile (· == e))) ↔ x ∈ es ∧ f x = false := by
        split
        · exact h1
        · rw [h2, h4]
      rw [h5]
      simp only [h3, hx, false_or]
termination_by es => es.length
decreasing_by
  · simp
  · have : (es.dropWhile (· == e)).length ≤ es.length := (List.dropWhile_sublist _).length_le
    simp only [List.length_cons]; omega
theorem last_ge : ∀ {as : List Str} {a : Str}, Srt (a :: as) → ∀ x ∈ a :: as, ltS ((a :: as).getLastD Str.empty) x = false
  | [], a, _, x, hx => by
    have : x = a := by simpa using hx
    subst this; exact lt_irr _
  | b :: as, a, h, x, hx => by
    have h1 := List.pairwise_cons.mp h
    have e : (a :: b :: as).getLastD Str.empty = (b :: as).getLastD Str.empty := by simp [List.getLastD]
    rw [e]
    rcases List.mem_cons.mp hx with rfl | hx
    · have h2 := last_ge h1.2 b (.head _)
      cases h3 : ltS ((b :: as).getLastD Str.empty) x with
      | false => rfl
      | true =>
        have h4 := h1.1 b (.head _)
        have := lt_tr (a := (b :: as).getLastD Str.empty) (b := x) (c := b)
        cases h5 : ltS x b with
        | true => rw [this h3 h5] at h2; cases h2
        | false => rw [lt_tri h5 h4] at h3; rw [h3] at h2; cases h2
    · exact last_ge h1.2 x hx
theorem last_dw {a : Str} : ∀ {as : List Str}, as.dropWhile (· == a) ≠ [] → (as.dropWhile (· == a)).getLastD Str.empty = (a :: as).getLastD Str.empty
  | [], h => absurd rfl h
  | b :: as, h => by
    rw [List.dropWhile_cons] at h ⊢
    have e : (a :: b :: as).getLastD Str.empty = (b :: as).getLastD Str.empty := by simp [List.getLastD]
    rw [e]
    split
    · rename_i hb
      rw [if_pos hb] at h
      have := last_dw h
      rw [this, eq_of_beq hb]
    · rfl
theorem dw_all {a : Str} : ∀ {as : List Str}, as.dropWhile (· == a) = [] → ∀ x ∈ a :: as, x = a
  | [], _, x, hx => by simpa using hx
  | b :: as, h, x, hx => by
    rw [List.dropWhile_cons] at h
    split at h
    · rename_i hb
      rcases List.mem_cons.mp hx with rfl | hx
      · rfl
      · have := dw_all (a := a) h x
        rcases List.mem_cons.mp hx with rfl | hx
        · exact eq_of_beq hb
        · exact this (.tail _ hx)
    · cases h
theorem getLastD_mem : ∀ {as : List Str} {a : Str}, (a :: as).getLastD Str.empty ∈ a :: as
  | [], a => by simp [List.getLastD]
  | b :: as, a => by
    have e : (a :: b :: as).getLastD Str.empty = (b :: as).getLastD Str.empty := by simp [List.getLastD]
    rw [e]; exact .tail _ getLastD_mem
noncomputable abbrev aboveL (as : List Str) (x : Str) : Bool := as.isEmpty || ltS (as.getLastD Str.empty) x
theorem past {a x : Str} {as : List Str} (hs : Srt (a :: as)) (hx : ltS a x = true) : (a :: as).contains x = (as.dropWhile (· == a)).contains x ∧ aboveL (a :: as) x = aboveL (as.dropWhile (· == a)) x := by
  have hne : x ≠ a := fun e => by rw [e, lt_irr] at hx; cases hx
  constructor
  · rw [Bool.eq_iff_iff, List.contains_iff_mem, List.contains_iff_mem]
    constructor
    · intro h
      rcases List.mem_cons.mp h with h | h
      · exact absurd h hne
      · exact dw_skip hne h
    · intro h; exact .tail _ (dw_mem h)
  · unfold aboveL
    by_cases h : as.dropWhile (· == a) = []
    · rw [h]
      have h1 := dw_all h _ (getLastD_mem (as := as) (a := a))
      rw [h1, hx]; rfl
    · rw [last_dw h]
      have h2 : (as.dropWhile (· == a)).isEmpty = false := by cases hq : as.dropWhile (· == a) with | nil => exact absurd hq h | cons => rfl
      rw [h2]; rfl
theorem sldV_alone : ∀ es as : List Str, Srt es → Srt as → (sldV es as).1 = aloneL (fun x => as.contains x) (aboveL as) es
  | [], as, _, _ => by rw [sldV, aloneL_nil]
  | e :: es, [], _, _ => by
    rw [sldV]
    exact (aloneL_all (e :: es) fun _ => rfl).symm
  | e :: es, a :: as, h1, h2 => by
    have d1 : Srt (es.dropWhile (· == e)) := dw_srt (List.pairwise_cons.mp h1).2
    have d2 : Srt (as.dropWhile (· == a)) := dw_srt (List.pairwise_cons.mp h2).2
    have l1 : (es.dropWhile (· == e)).length ≤ es.length := (List.dropWhile_sublist _).length_le
    have l2 : (as.dropWhile (· == a)).length ≤ as.length := (List.dropWhile_sublist _).length_le
    rw [sldV]
    have hlast := last_ge h2 a (.head _)
    by_cases hea : ltS e a = true
    · rw [if_pos hea, aloneL_cons]
      have ih := sldV_alone (es.dropWhile (· == e)) (a :: as) d1 h2
      have f1 : (a :: as).contains e = false := by
        cases h3 : (a :: as).contains e with
        | false => rfl
        | true =>
          have h4 := List.contains_iff_mem.mp h3
          rcases List.mem_cons.mp h4 with h5 | h5
          · rw [h5, lt_irr] at hea; cases hea
          · have := (List.pairwise_cons.mp h2).1 e h5
            rw [hea] at this; cases this
      have g1 : aboveL (a :: as) e = false := by
        show (false || ltS ((a :: as).getLastD Str.empty) e) = false
        rw [Bool.false_or]
        cases h3 : ltS ((a :: as).getLastD Str.empty) e with
        | false => rfl
        | true => rw [lt_tr h3 hea] at hlast; cases hlast
      rw [f1, g1]
      simp only [Bool.false_eq_true, ↓reduceIte, List.cons_append, List.nil_append]
      rw [ih]
    · have hea' : ltS e a = false := by cases h : ltS e a <;> simp_all
      rw [if_neg hea]
      by_cases hae : ltS a e = true
      · rw [if_pos hae]
        have ih := sldV_alone (e :: es) (as.dropWhile (· == a)) h1 d2
        show (sldV (e :: es) (as.dropWhile (· == a))).1 = _
        rw [ih]
        refine aloneL_congr _ fun x hx => ?_
        have hax : ltS a x = true := by
          rcases List.mem_cons.mp hx with rfl | hx
          · exact hae
          · exact lt_le hae ((List.pairwise_cons.mp h1).1 x hx)
        have := past h2 hax
        exact ⟨this.1.symm, this.2.symm⟩
      · have hae' : ltS a e = false := by cases h : ltS a e <;> simp_all
        have heq := lt_tri hea' hae'
        subst heq
        rw [if_neg hae, aloneL_cons]
        have ih := sldV_alone (es.dropWhile (· == e)) (as.dropWhile (· == e)) d1 d2
        have f1 : (e :: as).contains e = true := List.contains_iff_mem.mpr (.head _)
        have g1 : aboveL (e :: as) e = false := by
          show (false || ltS ((e :: as).getLastD Str.empty) e) = false
          rw [Bool.false_or]; exact hlast
        rw [f1, g1]
        simp only [Bool.false_eq_true, ↓reduceIte, List.nil_append]
        rw [ih]
        refine aloneL_congr _ fun x hx => ?_
        have := past h2 (dw_gt h1 x hx)
        exact ⟨this.1.symm, this.2.symm⟩
termination_by es as => es.length + as.length
decreasing_by
  all_goals
    simp only [List.length_cons]
    omega
theorem sldV_swap : ∀ es as : List Str, (sldV es as).2 = (sldV as es).1
  | [], [] => by rw [sldV]
  | [], a :: as => by rw [sldV, sldV]
  | e :: es, [] => by rw [sldV, sldV]
  | e :: es, a :: as => by
    have l1 : (es.dropWhile (· == e)).length ≤ es.length := (List.dropWhile_sublist _).length_le
    have l2 : (as.dropWhile (· == a)).length ≤ as.length := (List.dropWhile_sublist _).length_le
    have i1 := sldV_swap (es.dropWhile (· == e)) (a :: as)
    have i2 := sldV_swap (e :: es) (as.dropWhile (· == a))
    have i3 := sldV_swap (es.dropWhile (· == e)) (as.dropWhile (· == a))
    rw [sldV.eq_3 e es a as, sldV.eq_3 a as e es]
    by_cases hea : ltS e a = true
    · rw [if_pos hea, if_neg (by rw [lt_as hea]; decide), if_pos hea]; exact i1
    · rw [if_neg hea]
      by_cases hae : ltS a e = true
      · rw [if_pos hae, if_pos hae]; dsimp only; rw [i2]
      · rw [if_neg hae, if_neg hae, if_neg hea]; exact i3
termination_by es as => es.length + as.length
decreasing_by
  all_goals
    simp only [List.length_cons]
    omega

noncomputable def aloneP (f g : Str → Bool) : List Str → List Str → List Str
  | _, [] => []
  | pre, x :: r => (if !f x && (g x || !pre.contains x) then [x] else []) ++ aloneP f g (pre ++ [x]) r
theorem aloneP_snoc (f g : Str → Bool) (x : Str) : ∀ (es pre : List Str), aloneP f g pre (es ++ [x]) = aloneP f g pre es ++ (if !f x && (g x || !(pre ++ es).contains x) then [x] else [])
  | [], pre => by simp [aloneP]
  | e :: es, pre => by
    rw [List.cons_append, aloneP, aloneP, aloneP_snoc f g x es (pre ++ [e]), List.append_assoc, List.append_assoc]
    rfl
theorem aloneV_P (ds os ss : List Str) : ∀ n, n ≤ ds.length → aloneV ds os ss n = aloneP ss.contains (fun x => ltS (os.getLastD Str.empty) x) [] (ds.take n)
  | 0, _ => by simp [aloneV, aloneP]
  | n + 1, h => by
    have e : ds.take (n + 1) = ds.take n ++ [ds.getD n Str.empty] := by
      rw [List.take_add_one, List.getElem?_eq_getElem (by omega), List.getD_eq_getElem?_getD, List.getElem?_eq_getElem (by omega)]; rfl
    rw [aloneV_succ, aloneV_P ds os ss n (by omega), e, aloneP_snoc, List.nil_append]
    rfl
theorem aloneP_congr {f g : Str → Bool} : ∀ (es pre pre' : List Str), (∀ x, pre.contains x = pre'.contains x) → aloneP f g pre es = aloneP f g pre' es
  | [], _, _, _ => rfl
  | e :: es, pre, pre', h => by
    rw [aloneP, aloneP, h e, aloneP_congr es (pre ++ [e]) (pre' ++ [e]) fun x => by
      have := h x
      rw [Bool.eq_iff_iff, List.contains_iff_mem, List.contains_iff_mem] at this ⊢
      rw [List.mem_append, List.mem_append, this]]
theorem aloneP_dups {f g : Str → Bool} {e : Str} (hg : g e = false) : ∀ (es pre : List Str), pre.contains e = true → aloneP f g pre es = aloneP f g pre (es.dropWhile (· == e))
  | [], _, _ => rfl
  | x :: es, pre, h => by
    rw [List.dropWhile_cons]
    split
    · rename_i hx
      have hx := eq_of_beq hx
      subst hx
      rw [aloneP, h, hg]
      simp only [Bool.not_true, Bool.or_false, Bool.and_false, Bool.false_eq_true, ↓reduceIte, List.nil_append]
      rw [aloneP_congr es (pre ++ [x]) pre fun y => by
        rw [Bool.eq_iff_iff, List.contains_iff_mem, List.contains_iff_mem, List.mem_append, List.mem_singleton]
        constructor
        · rintro (hy | rfl)
          · exact hy
          · exact List.contains_iff_mem.mp h
        · exact .inl]
      exact aloneP_dups hg es pre h
    · rfl
theorem aloneP_L {f g : Str → Bool} : ∀ (es pre : List Str), Srt es → (∀ x ∈ es, pre.contains x = true → g x = true) → aloneP f g pre es = aloneL f g es
  | [], _, _, _ => by rw [aloneL_nil]; rfl
  | e :: es, pre, hs, h => by
    have ih1 := aloneP_L (f := f) (g := g) es (pre ++ [e]) (List.pairwise_cons.mp hs).2
    have ih2 := aloneP_L (f := f) (g := g) (es.dropWhile (· == e)) (pre ++ [e]) (dw_srt (List.pairwise_cons.mp hs).2)
    have he : (g e || !pre.contains e) = true := by
      cases hp : pre.contains e with
      | true => rw [h e (.head _) hp]; rfl
      | false => simp
    have hc : (pre ++ [e]).contains e = true := List.contains_iff_mem.mpr (by simp)
    rw [aloneP, aloneL_cons, he, Bool.and_true]
    congr 1
    · cases f e <;> rfl
    · cases hg : g e with
      | true =>
        rw [if_pos rfl]
        refine ih1 fun x hx hp => ?_
        rcases List.mem_append.mp (List.contains_iff_mem.mp hp) with h1 | h1
        · exact h x (.tail _ hx) (List.contains_iff_mem.mpr h1)
        · rw [List.mem_singleton.mp h1]; exact hg
      | false =>
        rw [if_neg (by decide), aloneP_dups hg es _ hc]
        refine ih2 fun x hx hp => ?_
        rcases List.mem_append.mp (List.contains_iff_mem.mp hp) with h1 | h1
        · exact h x (.tail _ (dw_mem hx)) (List.contains_iff_mem.mpr h1)
        · have := dw_gt hs x hx
          rw [List.mem_singleton.mp h1, lt_irr] at this; cases this
termination_by es => es.length
decreasing_by
  · simp
  · have : (es.dropWhile (· == e)).length ≤ es.length := (List.dropWhile_sublist _).length_le
    simp only [List.length_cons]; omega
theorem aloneV_L {es os ss : List Str} (h : Srt es) : aloneV es os ss es.length = aloneL ss.contains (fun x => ltS (os.getLastD Str.empty) x) es := by
  rw [aloneV_P es os ss es.length (Nat.le_refl _), List.take_length]
  exact aloneP_L es [] h fun x _ hp => by simp at hp
theorem sld_alone {es as ss : List Str} (h1 : Srt es) (h2 : Srt as) (hne : as ≠ []) (hm : ∀ x ∈ es, ss.contains x = as.contains x) : (sldV es as).1 = aloneV es as ss es.length := by
  rw [sldV_alone es as h1 h2, aloneV_L h1]
  refine aloneL_congr es fun x hx => ⟨(hm x hx).symm, ?_⟩
  cases as with
  | nil => exact absurd rfl hne
  | cons a as => rfl
theorem sld_alone2 {es as ss : List Str} (h1 : Srt es) (h2 : Srt as) (hne : es ≠ []) (hm : ∀ x ∈ as, ss.contains x = es.contains x) : (sldV es as).2 = aloneV as es ss as.length := by
  rw [sldV_swap]; exact sld_alone h2 h1 hne hm
theorem sld_mem {es as : List Str} (h1 : Srt es) (h2 : Srt as) (x : Str) : x ∈ (sldV es as).1 ↔ x ∈ es ∧ x ∉ as := by
  rw [sldV_alone es as h1 h2, aloneL_mem]
  refine and_congr Iff.rfl ?_
  cases h : as.contains x with
  | true => simp [List.contains_iff_mem.mp h]
  | false => simp only [true_iff]; intro hx; rw [List.contains_iff_mem.mpr hx] at h; cases h

theorem ext_getD {α : Type} {d : α} {a b : List α} (hl : a.length = b.length) (h : ∀ i < a.length, a.getD i d = b.getD i d) : a = b := by
  refine List.ext_getElem hl fun i h1 h2 => ?_
  have := h i h1
  rw [List.getD_eq_getElem?_getD, List.getD_eq_getElem?_getD, List.getElem?_eq_getElem h1, List.getElem?_eq_getElem h2] at this
  exact this
noncomputable abbrev del {α : Type} (X : List α) (p : Nat) : List α := X.take p ++ X.drop (p + 1)
theorem del_len {α : Type} {X : List α} {p : Nat} (h : p < X.length) : (del X p).length + 1 = X.length := by
  unfold del; rw [List.length_append, List.length_take, List.length_drop]; lia
theorem del_getD {α : Type} {d : α} {X : List α} {p : Nat} (h : p < X.length) (i : Nat) : (del X p).getD i d = if i < p then X.getD i d else X.getD (i + 1) d := by
  unfold del
  rw [List.getD_eq_getElem?_getD, List.getD_eq_getElem?_getD, List.getD_eq_getElem?_getD]
  split
  · rename_i hi
    rw [List.getElem?_append_left (by rw [List.length_take]; lia), List.getElem?_take, if_pos hi]
  · rename_i hi
    rw [List.getElem?_append_right (by rw [List.length_take]; lia), List.length_take, List.getElem?_drop]
    congr 2; lia
theorem del_eq {α : Type} (d : α) {X Y : List α} {p q n : Nat} (hX : X.length = n + 1) (hY : Y.length = n + 1) (hp : p < n + 1) (hq : q < n + 1) :
    del X p = del Y q ↔ ∀ i < n, (if i < p then X.getD i d else X.getD (i + 1) d) = (if i < q then Y.getD i d else Y.getD (i + 1) d) := by
  have l1 := del_len (X := X) (p := p) (by lia)
  have l2 := del_len (X := Y) (p := q) (by lia)
  constructor
  · intro h i hi
    rw [← del_getD (by lia), ← del_getD (by lia), h]
  · intro h
    refine ext_getD (d := d) (by lia) fun i hi => ?_
    rw [del_getD (by lia), del_getD (by lia)]
    exact h i (by lia)
theorem slice_eq {X Y : List Int} {a b n : Nat} (hX : a + n ≤ X.length) (hY : b + n ≤ Y.length) : (X.drop a).take n = (Y.drop b).take n ↔ ∀ k < n, X.getD (a + k) 0 = Y.getD (b + k) 0 := by
  have g : ∀ (Z : List Int) (c : Nat), c + n ≤ Z.length → ∀ k < n, ((Z.drop c).take n).getD k 0 = Z.getD (c + k) 0 := by
    intro Z c hc k hk
    rw [List.getD_eq_getElem?_getD, List.getD_eq_getElem?_getD, List.getElem?_take, if_pos hk, List.getElem?_drop]
  constructor
  · intro h k hk
    rw [← g X a hX k hk, ← g Y b hY k hk, h]
  · intro h
    refine ext_getD (d := 0) (by simp; lia) fun i hi => ?_
    have hi : i < n := by rw [List.length_take] at hi; lia
    rw [g X a hX i hi, g Y b hY i hi]
    exact h i hi
theorem unlike_mem {X Y : List Int} {n : Nat} {i : Nat} : (i : Int) ∈ unlikeL X Y n ↔ i < n ∧ X.getD i 0 ≠ Y.getD i 0 := by
  unfold unlikeL
  rw [List.mem_map]
  constructor
  · rintro ⟨j, hj, e⟩
    have : j = i := by lia
    subst this
    have := List.mem_filter.mp hj
    exact ⟨List.mem_range.mp this.1, by simpa using this.2⟩
  · rintro ⟨h1, h2⟩
    exact ⟨i, List.mem_filter.mpr ⟨List.mem_range.mpr h1, by simpa using h2⟩, rfl⟩
theorem unlike_srt (X Y : List Int) (n : Nat) : (unlikeL X Y n).Pairwise (· < ·) := by
  unfold unlikeL
  rw [List.pairwise_map]
  exact ((List.pairwise_lt_range (n := n)).filter _).imp fun h => by lia
theorem unlike_ends2 {X Y : List Int} (h : unlikeL X Y 5 ≠ []) : ∃ f l : Nat, ((unlikeL X Y 5).getD 0 0).toNat = f ∧ ((unlikeL X Y 5).getD ((unlikeL X Y 5).length - 1) 0).toNat = l ∧ f ≤ l ∧ l < 5 ∧
    X.getD f 0 ≠ Y.getD f 0 ∧ X.getD l 0 ≠ Y.getD l 0 ∧ (∀ i < f, X.getD i 0 = Y.getD i 0) ∧ (∀ i, l < i → i < 5 → X.getD i 0 = Y.getD i 0) := by
  obtain ⟨f, l, e1, e2, hfl, hl, hp⟩ := unlikeL_ends h
  have hs := unlike_srt X Y 5
  have hm : ∀ i : Nat, (i : Int) ∈ unlikeL X Y 5 ↔ i < 5 ∧ X.getD i 0 ≠ Y.getD i 0 := fun i => unlike_mem
  generalize unlikeL X Y 5 = u at *
  have g0 : u[0]'hp = (f : Int) := by rw [← e1, List.getD_eq_getElem?_getD, List.getElem?_eq_getElem hp]; rfl
  have g1 : u[u.length - 1]'(by lia) = (l : Int) := by rw [← e2, List.getD_eq_getElem?_getD, List.getElem?_eq_getElem (by lia)]; rfl
  have hf := (hm f).mp (by rw [← g0]; exact List.getElem_mem _)
  have hl' := (hm l).mp (by rw [← g1]; exact List.getElem_mem _)
  refine ⟨f, l, by rw [e1]; rfl, by rw [e2]; rfl, hfl, hl, hf.2, hl'.2, fun i hi => ?_, fun i hi hi5 => ?_⟩
  · refine Classical.byContradiction fun hne => ?_
    have := (hm i).mpr ⟨by lia, hne⟩
    obtain ⟨k, hk, e⟩ := List.getElem_of_mem this
    by_cases h0 : k = 0
    · subst h0; rw [g0] at e; lia
    · have := List.pairwise_iff_getElem.mp hs 0 k hp hk (by lia)
      rw [g0, e] at this; lia
  · refine Classical.byContradiction fun hne => ?_
    have := (hm i).mpr ⟨hi5, hne⟩
    obtain ⟨k, hk, e⟩ := List.getElem_of_mem this
    by_cases h0 : k = u.length - 1
    · subst h0; rw [g1] at e; lia
    · have := List.pairwise_iff_getElem.mp hs k (u.length - 1) hk (by lia) (by lia)
      rw [g1, e] at this; lia
theorem unlike_nil {X Y : List Int} (hX : X.length = 5) (hY : Y.length = 5) (h : unlikeL X Y 5 = []) : X = Y := by
  refine ext_getD (d := 0) (by lia) fun i hi => Classical.byContradiction fun hne => ?_
  have := (unlike_mem (n := 5)).mpr ⟨by lia, hne⟩
  rw [h] at this
  cases this
theorem shared_mem {X Y z : List Int} (hX : X.length = 5) (hY : Y.length = 5) : z ∈ sharedV X Y ↔ (∃ p < 5, z = del X p) ∧ (∃ q < 5, z = del Y q) := by
  unfold sharedV
  by_cases hu : unlikeL X Y 5 = []
  · rw [if_pos hu]
    have e := unlike_nil hX hY hu
    subst e
    rw [and_self, List.mem_map]
    constructor
    · rintro ⟨p, hp, e⟩; exact ⟨p, List.mem_range.mp hp, e.symm⟩
    · rintro ⟨p, hp, e⟩; exact ⟨p, List.mem_range.mpr hp, e.symm⟩
  rw [if_neg hu]
  obtain ⟨f, l, e1, e2, hfl, hl, xf, xl, h1, h2⟩ := unlike_ends2 hu
  rw [e1, e2]
  clear e1 e2 hu
  unfold sharedF
  have c1 : (X.drop (f + 1)).take (l - f) = (Y.drop f).take (l - f) ↔ ∀ i, f ≤ i → i < l → X.getD (i + 1) 0 = Y.getD i 0 := by
    rw [slice_eq (by lia) (by lia)]
    constructor
    · intro h i hi hi2
      have := h (i - f) (by lia)
      rwa [show f + 1 + (i - f) = i + 1 by lia, show f + (i - f) = i by lia] at this
    · intro h k hk
      have := h (f + k) (by lia) (by lia)
      rwa [show f + k + 1 = f + 1 + k by lia] at this
  have c2 : (X.drop f).take (l - f) = (Y.drop (f + 1)).take (l - f) ↔ ∀ i, f ≤ i → i < l → X.getD i 0 = Y.getD (i + 1) 0 := by
    rw [slice_eq (by lia) (by lia)]
    constructor
    · intro h i hi hi2
      have := h (i - f) (by lia)
      rwa [show f + 1 + (i - f) = i + 1 by lia, show f + (i - f) = i by lia] at this
    · intro h k hk
      have := h (f + k) (by lia) (by lia)
      rwa [show f + k + 1 = f + 1 + k by lia] at this
  have hm : z ∈ (if (X.drop (f + 1)).take (l - f) = (Y.drop f).take (l - f) then [del X f] else []) ++ (if (X.drop f).take (l - f) = (Y.drop (f + 1)).take (l - f) then [del X l] else []) ↔
      ((∀ i, f ≤ i → i < l → X.getD (i + 1) 0 = Y.getD i 0) ∧ z = del X f) ∨ ((∀ i, f ≤ i → i < l → X.getD i 0 = Y.getD (i + 1) 0) ∧ z = del X l) := by
    rw [List.mem_append]
    refine or_congr ?_ ?_
    · split
      · rename_i h; rw [List.mem_singleton]; exact ⟨fun e => ⟨c1.mp h, e⟩, fun e => e.2⟩
      · rename_i h; simp only [List.not_mem_nil, false_iff, not_and]; intro h'; exact absurd (c1.mpr h') h
    · split
      · rename_i h; rw [List.mem_singleton]; exact ⟨fun e => ⟨c2.mp h, e⟩, fun e => e.2⟩
      · rename_i h; simp only [List.not_mem_nil, false_iff, not_and]; intro h'; exact absurd (c2.mpr h') h
  refine hm.trans ?_
  clear hm c1 c2
  constructor
  · rintro (⟨hc, rfl⟩ | ⟨hc, rfl⟩)
    · refine ⟨⟨f, by lia, rfl⟩, l, hl, (del_eq 0 (n := 4) hX hY (by lia) (by lia)).mpr fun i hi => ?_⟩
      by_cases a1 : i < f
      · rw [if_pos a1, if_pos (by lia)]; exact h1 i a1
      · rw [if_neg a1]
        by_cases a2 : i < l
        · rw [if_pos a2]; exact hc i (by lia) a2
        · rw [if_neg a2]; exact h2 (i + 1) (by lia) (by lia)
    · refine ⟨⟨l, hl, rfl⟩, f, by lia, (del_eq 0 (n := 4) hX hY (by lia) (by lia)).mpr fun i hi => ?_⟩
      by_cases a1 : i < f
      · rw [if_pos (by lia), if_pos a1]; exact h1 i a1
      · rw [if_neg a1]
        by_cases a2 : i < l
        · rw [if_pos a2]; exact hc i (by lia) a2
        · rw [if_neg a2]; exact h2 (i + 1) (by lia) (by lia)
  · rintro ⟨⟨p, hp, rfl⟩, q, hq, e⟩
    have H := (del_eq 0 (n := 4) hX hY hp hq).mp e
    by_cases hpq : p ≤ q
    · have hpf : p ≤ f := by
        refine Nat.le_of_not_lt fun h => xf ?_
        have := H f (by lia)
        rwa [if_pos h, if_pos (by lia)] at this
      have hlq : l ≤ q := by
        refine Nat.le_of_not_lt fun h => xl ?_
        have := H (l - 1) (by lia)
        rwa [if_neg (by lia), if_neg (by lia), show l - 1 + 1 = l by lia] at this
      refine .inl ⟨fun i hi hi2 => ?_, (del_eq 0 (n := 4) hX hX hp (by lia)).mpr fun i hi => ?_⟩
      · have := H i (by lia)
        rwa [if_neg (by lia), if_pos (by lia)] at this
      · by_cases a1 : i < p
        · rw [if_pos a1, if_pos (by lia)]
        · rw [if_neg a1]
          by_cases a2 : i < f
          · rw [if_pos a2]
            have := H i hi
            rw [if_neg a1, if_pos (by lia)] at this
            rw [this]; exact (h1 i a2).symm
          · rw [if_neg a2]
    · have hqf : q ≤ f := by
        refine Nat.le_of_not_lt fun h => xf ?_
        have := H f (by lia)
        rwa [if_pos (by lia), if_pos h] at this
      have hlp : l ≤ p := by
        refine Nat.le_of_not_lt fun h => xl ?_
        have := H (l - 1) (by lia)
        rwa [if_neg (by lia), if_neg (by lia), show l - 1 + 1 = l by lia] at this
      refine .inr ⟨fun i hi hi2 => ?_, (del_eq 0 (n := 4) hX hX hp hl).mpr fun i hi => ?_⟩
      · have := H i (by lia)
        rwa [if_pos (by lia), if_neg (by lia)] at this
      · by_cases a1 : i < l
        · rw [if_pos (by lia), if_pos a1]
        · rw [if_neg a1]
          by_cases a2 : i < p
          · rw [if_pos a2]
            have := H i hi
            rw [if_pos a2, if_neg (by lia)] at this
            rw [this]; exact (h2 (i + 1) (by lia) (by lia)).symm
          · rw [if_neg a2]
theorem shared_len (X Y : List Int) : (sharedV X Y).length ≤ 5 := by
  unfold sharedV
  split
  · simp
  · unfold sharedF
    split <;> split <;> simp
theorem pl_shared {W X Y : List Int} (hW : W.length = 4 ∧ ∀ n ∈ W, 0 ≤ n ∧ n < 68) (hX : Arr W X) (hY : Arr W Y) : (∀ z ∈ sharedV X Y, z.length = 4 ∧ ∀ n ∈ z, 0 ≤ n ∧ n < 68) ∧ (sharedV X Y).length ≤ 5 := by
  have fX := five_of hW hX
  have fY := five_of hW hY
  refine ⟨fun z hz => ?_, shared_len X Y⟩
  obtain ⟨⟨p, hp, rfl⟩, _⟩ := (shared_mem fX.1 fY.1).mp hz
  refine ⟨?_, fun n hn => ?_⟩
  · have := del_len (X := X) (p := p) (by rw [fX.1]; exact hp)
    rw [fX.1] at this; lia
  · rcases List.mem_append.mp hn with hn | hn
    · exact fX.2 n (List.mem_of_mem_take hn)
    · exact fX.2 n (List.mem_of_mem_drop hn)

theorem CellsI.turn {cells : List (Addr × Obj)} {Z : List (List Int)} (hC : CellsI cells Z) : ∀ {i : Nat} {v : Value}, (cells.map fun p => Value.ref p.1)[i]? = some v →
    ∃ a us n z, v = .ref a ∧ (a, listOf us.toArray n) ∈ cells ∧ IntsAre us z ∧ z ∈ Z ∧ Z.take (i + 1) = Z.take i ++ [z] := by
  induction hC with
  | nil => intro i v h; simp at h
  | @cons a us n z cs zss h r ih =>
    intro i v hv
    cases i with
    | zero => exact ⟨a, us, n, z, (by simpa using hv.symm), .head _, h, .head _, by simp⟩
    | succ i =>
      obtain ⟨a', us', n', z', e, hm, hi, hz, ht⟩ := ih (i := i) (v := v) (by simpa using hv)
      exact ⟨a', us', n', z', e, .tail _ hm, hi, .tail _ hz, by rw [List.take_succ_cons, ht]; rfl⟩
theorem rs_38_1 {M : Model} {A : Around} {Q : Value → Shared → Prop} {E : Value → Shared → Prop} {s : Shared} (h : wpAny M A (call .none [.none]) Q E s) : wpAny M A (call .none [.none]) Q E s := by first | (walk1; fail "") | exact h
section
variable {w : World} {loose : List Str} {mean : ExcName → Option Value} {mg mb : Str → Option Value} {h₀ : Heap} {L fa : Addr} {cd : Value} {xh : Heap} {xg : Array GenState} {xd : Drawn} {xt : Nat} {xo : OsState} {m : Str → Option Value} {Q : Flow → Shared → Prop} {E : Value → Shared → Prop}
theorem st_13 {r : Addr} {c : Nat} {cells rest : List (Addr × Obj)} {Z : List (List Int)} {dv wv : Value} (G : LG w loose mean mg mb h₀) (hC : CellsI cells Z) (hZ : ∀ z ∈ Z, z.length = 4 ∧ ∀ n ∈ z, 0 ≤ n ∧ n < 68) (hl : Z.length ≤ 5)
    (S : At h₀ L xh [(Str.ofString "words", .ref r), (Str.ofString "decks", dv), (Str.ofString "word", wv)] ((r, listOf (cells.map fun p => Value.ref p.1).toArray c) :: (cells ++ rest)))
    (k : ∀ h tk d e vs, StrsAre vs (Z.map textOf) → At h₀ L h [(Str.ofString "shared", .ref d), (Str.ofString "words", .ref r), (Str.ofString "decks", dv), (Str.ofString "word", wv)] ((d, listOf vs.toArray e) :: (r, listOf (cells.map fun p => Value.ref p.1).toArray c) :: (cells ++ rest)) →
      (∀ p ∈ (r, listOf (cells.map fun p => Value.ref p.1).toArray c) :: (cells ++ rest), p.1 ≠ d) → Q .next ⟨h, xg, xd, tk, xo⟩) :
    wpAny (LM w) (LA L fa cd) (exec (lawSt 13) (lawEnv L fa cd)) Q E ⟨xh, xg, xd, xt, xo⟩ := by
  have K0 := G.K0
  have KX := G.KX
  have T := G.T
  refine At.use S ?_
  clear S
  intro m₀ mq F N
  have hcl := hC.len
  conv in lawSt 13 => whnf
  (k_dflt (refine LCg.Assign_ListComp_U (F₀ := F) (by rfl) (by with_unfolding_all rfl) (by with_unfolding_all rfl) (by decide) (by rfl) (by decide) (by rfl) (by rfl) (by rfl) ?_))
  k_dflt lcg_toSrc
  k_steps
  delta Stop
  rename Fr _ _ _ _ => F'
  rename News _ _ _ _ => N'
  refine LCg.CompSrc.ledger rfl F' N' (.head _) (by simp [sizeLine]; lia) ?_
  intro g
  refine comp_Jn (fun i vs => StrsAre vs ((Z.take i).map textOf)) .nil ?_ ?_
  · clear F' N'
    rintro i vs hi hvs v I oI C oC D m₂ h tk E' hv hC' hx F N off ne
    obtain ⟨a, us, n, z, e, hm, hI, hz, ht⟩ := hC.turn (i := i) (v := v) (by simpa using hv)
    subst e
    have N2 := N.isList (.tail _ (.tail _ (.tail _ (.tail _ (List.mem_append_left _ hm)))))
    k_steps
    delta Stop
    refine call_CV (text_spec (vs := us) (ns := z)) G ‹_› ‹_› ⟨News.isList ‹_› (.tail _ (.tail _ (.tail _ (.tail _ (List.mem_append_left _ hm))))), hI, (hZ z hz).2, by have := (hZ z hz).1; lia⟩ (by decide) ?_
    intro t0 h tk F N
    k_steps
    refine LCg.CompEnd.intro F N _ (fun p hp => hp) off (Or.inr ⟨_, .head _, rfl, _, rfl⟩) ⟨rfl, ?_⟩
    rw [ht, List.map_append]
    exact strsAre_snoc hvs
  · rintro vs hvs
    delta LCg.FinA
    intro D2 h2 tk2 F2 N2 off2
    have o2 := off1_mem off2
    rw [List.take_of_length_le (by simp; lia)] at hvs
    exact k _ _ D2 _ vs hvs (At.mk F2 N2 ⟨rfl, rfl, rfl, rfl, trivial⟩ fun p hp => hp) (fun p hp => o2 p hp)
end

theorem rs_42_1 {M : Model} {A : Around} {Q : Value → Shared → Prop} {E : Value → Shared → Prop} {s : Shared} (h : wpAny M A (call .none [.none]) Q E s) : wpAny M A (call .none [.none]) Q E s := by first | (walk1; fail "") | exact h
section
variable {w : World} {loose : List Str} {mean : ExcName → Option Value} {mg mb : Str → Option Value} {h₀ : Heap} {L fa : Addr} {cd : Value} {xh : Heap} {xg : Array GenState} {xd : Drawn} {xt : Nat} {xo : OsState} {m : Str → Option Value} {Q : Flow → Shared → Prop} {E : Value → Shared → Prop}
noncomputable def farF (x : List Nat) (t : Str) : Int := min (levV t.cps.toList x 2) 3
theorem st_19 {ld e0 e1 e2 lt : Addr} {c3 : Obj} {v0 : List Value} {n0 : Nat} {S0 : List Str} {t0 t1 t2 : Tok} {x0 x1 x2 : List Nat} {ww wv : Value} {rest : List (Addr × Obj)} (G : LG w loose mean mg mb h₀) (h0 : StrsAre v0 S0) (l0 : S0.length ≤ 16) (hS : ∀ t ∈ S0, t.cps.toList.length ≤ 16 ∧ ∀ c ∈ t.cps.toList, c < 128) (hx1 : x1.length ≤ 16 ∧ ∀ c ∈ x1, c < 128) (hc3 : c3.data = .cell (some (.ref lt)))
    (S : At h₀ L xh [(Str.ofString "words", ww), (Str.ofString "decks", .ref ld), (Str.ofString "word", wv)] ((ld, listOf #[.ref e0, .ref e1, .ref e2] 3) :: (e0, listOf v0.toArray n0) :: (lt, listOf #[.str ⟨x0.toArray⟩ t0, .str ⟨x1.toArray⟩ t1, .str ⟨x2.toArray⟩ t2] 3) :: (L + 1 + 1 + 1 + 1, c3) :: rest))
    (k : ∀ h tk df vf, IntsAre vf (S0.map (farF x1)) → At h₀ L h [(Str.ofString "fars", .ref df), (Str.ofString "words", ww), (Str.ofString "decks", .ref ld), (Str.ofString "word", wv)] ((df, LCg.lst vf) :: (ld, listOf #[.ref e0, .ref e1, .ref e2] 3) :: (e0, listOf v0.toArray n0) :: (lt, listOf #[.str ⟨x0.toArray⟩ t0, .str ⟨x1.toArray⟩ t1, .str ⟨x2.toArray⟩ t2] 3) :: (L + 1 + 1 + 1 + 1, c3) :: rest) → Q .next ⟨h, xg, xd, tk, xo⟩) :
    wpAny (LM w) (LA L fa cd) (exec (lawSt 19) (lawEnv L fa cd)) Q E ⟨xh, xg, xd, xt, xo⟩ := by
  have K0 := G.K0
  have KX := G.KX
  have T := G.T
  refine At.use S ?_
  clear S
  intro m₀ mq F N
  conv in lawSt 19 => whnf
  (k_dflt (refine LCg.Assign_ListComp_U (F₀ := F) (by rfl) (by with_unfolding_all rfl) (by with_unfolding_all rfl) (by decide) (by rfl) (by decide) (by rfl) (by rfl) (by rfl) ?_))
  k_dflt lcg_toSrc
  k_steps
  delta Stop
  rename Fr _ _ _ _ => F'
  rename News _ _ _ _ => N'
  have hl := h0.length
  refine LCg.CompSrc.ledger rfl F' N' (.tail _ (.head _)) (by simp [sizeLine]; lia) ?_
  intro g
  refine comp_Jn (fun i vs => IntsAre vs ((S0.take i).map (farF x1))) .nil ?_ ?_
  · clear F' N'
    rintro i vs hi hvs v I oI C oC D m₂ h tk E' hv hC' hx F N off ne
    obtain ⟨⟨⟨x⟩⟩, t, hx0, rfl⟩ := strs_turn h0 (by simpa using hv)
    have hf : (S0.take (i + 1)).map (farF x1) = (S0.take i).map (farF x1) ++ [farF x1 ⟨⟨x⟩⟩] := by
      rw [List.take_add_one, hx0, List.map_append]; rfl
    have hb := hS _ (List.mem_of_getElem? hx0)
    k_steps
    delta Stop
    refine call_CV (lev_spec (xs := x) (ys := x1)) G ‹_› ‹_› ⟨hb.1, hx1.1, hb.2, hx1.2, by decide⟩ (by decide) ?_
    intro tr h tk F N
    generalize hq : levV x x1 2 = q
    k_steps
    refine LCg.CompEnd.intro (by assumption) (by assumption) _ (fun p hp => hp) off (Or.inr ⟨_, .tail _ (.head _), rfl, _, rfl⟩) ⟨rfl, ?_⟩
    have e : farF x1 ⟨⟨x⟩⟩ = if 3 < q then 3 else q := by
      show min (levV x x1 2) 3 = _
      rw [hq]
      split <;> lia
    rw [hf, e]
    exact hvs.append (.cons _ _ .nil)
  · rintro vs hvs
    rw [List.take_of_length_le (by simp; lia)] at hvs
    delta LCg.FinA
    intro D2 h2 tk2 F2 N2 off2
    exact k _ _ D2 vs hvs (At.mk F2 N2 ⟨rfl, rfl, rfl, rfl, trivial⟩ fun p hp => hp)
end
theorem rs_42_2 {M : Model} {A : Around} {Q : Value → Shared → Prop} {E : Value → Shared → Prop} {s : Shared} (h : wpAny M A (call .none [.none]) Q E s) : wpAny M A (call .none [.none]) Q E s := by first | (walk1; fail "") | exact h
section
variable {w : World} {loose : List Str} {mean : ExcName → Option Value} {mg mb : Str → Option Value} {h₀ : Heap} {L fa : Addr} {cd : Value} {xh : Heap} {xg : Array GenState} {xd : Drawn} {xt : Nat} {xo : OsState} {m : Str → Option Value} {Q : Flow → Shared → Prop} {E : Value → Shared → Prop}
noncomputable def twoF (ls : List Str) (t : Str) : Int := if ls.contains t then 2 else 3
theorem st_20 {ld e0 e1 e2 df dl : Addr} {c7 : Obj} {v0 vf vl : List Value} {n0 cl : Nat} {S0 ls : List Str} {zs : List Int} {ww wv : Value} {rest : List (Addr × Obj)} (G : LG w loose mean mg mb h₀) (h0 : StrsAre v0 S0) (l0 : S0.length ≤ 16) (hf : IntsAre vf zs) (hl : StrsAre vl ls) (l1 : ls.length ≤ 16) (hz : zs = S0.map (twoF ls)) (hc7 : c7.data = .cell (some (.ref dl)))
    (S : At h₀ L xh [(Str.ofString "fars", .ref df), (Str.ofString "words", ww), (Str.ofString "decks", .ref ld), (Str.ofString "word", wv)] ((df, LCg.lst vf) :: (ld, listOf #[.ref e0, .ref e1, .ref e2] 3) :: (e0, listOf v0.toArray n0) :: (dl, listOf vl.toArray cl) :: (L + 1 + 1 + 1 + 1 + 1 + 1 + 1 + 1, c7) :: rest))
    (k : ∀ h tk, At h₀ L h [(Str.ofString "words", ww), (Str.ofString "decks", .ref ld), (Str.ofString "word", wv)] ((ld, listOf #[.ref e0, .ref e1, .ref e2] 3) :: (e0, listOf v0.toArray n0) :: (dl, listOf vl.toArray cl) :: (L + 1 + 1 + 1 + 1 + 1 + 1 + 1 + 1, c7) :: rest) → Q .next ⟨h, xg, xd, tk, xo⟩) :
    wpAny (LM w) (LA L fa cd) (exec (lawSt 20) (lawEnv L fa cd)) Q E ⟨xh, xg, xd, xt, xo⟩ := by
  have K0 := G.K0
  have KX := G.KX
  have T := G.T
  refine At.use S ?_
  clear S
  intro m₀ mq F N
  conv in lawSt 20 => whnf
  k_steps
  all_goals (delta Stop)
  rename Fr _ _ _ _ => F'
  rename News _ _ _ _ => N'
  have hl0 := h0.length
  refine LCg.CompSrc.ledger rfl F' N' (.tail _ (.tail _ (.head _))) (by simp [sizeLine]; lia) ?_
  intro g
  refine comp_Jn (fun i vs => IntsAre vs ((S0.take i).map (twoF ls))) .nil ?_ ?_
  · clear F' N'
    rintro i vs hi hvs v I oI C oC D m₂ h tk E' hv hC' hx F N off ne
    obtain ⟨x, t, hx0, rfl⟩ := strs_turn h0 (by simpa using hv)
    have hf : (S0.take (i + 1)).map (twoF ls) = (S0.take i).map (twoF ls) ++ [twoF ls x] := by
      rw [List.take_add_one, hx0, List.map_append]; rfl
    k_steps
    · have hA : (ls.any fun y => y == x) = true := ‹_›
      rw [any_contains] at hA
      refine LCg.CompEnd.intro F N _ (fun p hp => hp) off (Or.inr ⟨_, .tail _ (.tail _ (.head _)), rfl, _, rfl⟩) ⟨rfl, ?_⟩
      rw [hf, twoF, if_pos hA]
      exact hvs.append (.cons _ _ .nil)
    · have hA : (ls.any fun y => y == x) = false := ‹_›
      rw [any_contains] at hA
      refine LCg.CompEnd.intro F N _ (fun p hp => hp) off (Or.inr ⟨_, .tail _ (.tail _ (.head _)), rfl, _, rfl⟩) ⟨rfl, ?_⟩
      rw [hf, twoF, if_neg (by rw [hA]; decide)]
      exact hvs.append (.cons _ _ .nil)
  · rintro vs hvs
    rw [List.take_of_length_le (by simp; lia), ← hz] at hvs
    delta LCg.FinE
    intro D2 h2 tk2 F2 N2 off2
    k_steps
    delta Stop
    refine ke_ne_ints (xs := vf) (ys := vs) (News.isList N2 (.tail _ (.head _))) (News.isList N2 (.head _)) hf hvs (by show (LA 0 0 .none).units + 64 < cLine; decide) ?_
    rw [decide_eq_true rfl]
    k_steps
    exact k _ _ (At.mk F2 N2 ⟨rfl, rfl, rfl, trivial⟩ fun q hq => .tail _ (.tail _ hq))
end

theorem rs_428_1 {M : Model} {A : Around} {Q : Value → Shared → Prop} {E : Value → Shared → Prop} {s : Shared} (h : wpAny M A (call .none [.none]) Q E s) : wpAny M A (call .none [.none]) Q E s := by first | (walk1; fail "") | exact h
section
variable {prog : Program} {w : World} {A : Around} {E : Value → Shared → Prop} {s : Shared}
noncomputable abbrev tells (w : World) : Bool := w.params.followText "set-order"
noncomputable abbrev setObj (led : Bool) : Obj := { cls := .type "set", dict := none, data := .set #[] 0 (.fresh 0 0 led) }
theorem set_new (a : Value) {Q₁ : Value → Shared → Prop} (h : Q₁ (.ref s.heap.objs.size) { s with heap := s.heap.push (setObj (!tells w)) }) :
    codeAny (model prog w) A (.call (.builtin "set.__new__") ⟨[.type "set", a], []⟩) (wants Q₁ E) s := by
  refine codeAny_of_tree ?_
  show wpAny _ A.in1 (do checkBuiltinCall "set.__new__" ⟨[.type "set", a], []⟩; again (.builtin "set.__new__" ⟨[.type "set", a], []⟩)) _ _ s
  refine wpAny_bind (wpAny_of_eq (F.newCall_set_1 a) (wpAny_pure ⟨plainId_quiet F.plain_set_new _, codeAny_builtin F.entry_set_new ?_⟩))
  rw [Around.under_plainId F.plain_set_new _]
  unfold Builtin.«set.__new__» Builtin.Frozenset.newClass
  have hsub := sub_set_self
  obtain ⟨hp, g, d, tk, os⟩ := s
  dsimp only
  wp_walk
  refine wpAny_askSetting (wpAny_pure ?_)
  dsimp only
  simp only [newObj]
  refine wpAny_bind (wpAny_alloc (wpAny_pure ?_))
  exact wpAny_pure h
theorem call_set_strs {l : Addr} {vs : List Value} {ds : List Str} {Q : Value → Shared → Prop} (hh : A.handled = none) (hl : s.heap.IsList l vs.toArray) (hi : StrsAre vs ds) (hb : ds.length + 1 < scanBound)
    (h : ∀ (h' : Heap) (tk : Nat), SetL prog w h' s.heap.objs.size (fun k' => (onceS ds).contains k') (onceS ds).length (!tells w) →
      (∀ b o, b < s.heap.objs.size → s.heap.get? b = some o → h'.get? b = some o) → Q (.ref s.heap.objs.size) { s with heap := h', toks := tk }) :
    wpAny (model prog w) A (call (.type "set") [.ref l]) Q E s := by
  obtain ⟨c, tl, hmro⟩ := F.called_set.mro
  have hmade := F.called_set.made
  have hsub := F.called_set.sub
  refine wpAny_call (codeAny_of_tree ?_)
  show wpAny _ _ (callAny (.type "set") _) _ _ _
  refine wpAny_pure ⟨Code.quiet_builtin _ (by decide +kernel), codeAny_builtin F.entry_type_call ?_⟩
  rw [Around.under_plain (weight_type_call_type "set" [.ref l] []) rfl]
  have h1 := F.called_set.notType
  have h2 := F.called_set.canCreate
  have hct := F.typeCall_set_1 (.ref l)
  repeat (any_goals (first | assumption | wp_step))
  refine codeAny_mono (set_new (.ref l) (E := E) (Q₁ := fun obj s₁ => obj = .ref s.heap.objs.size ∧ s₁ = { s with heap := s.heap.push (setObj (!tells w)) }) ⟨rfl, rfl⟩) fun r s₁ hr => ?_
  cases r with
  | error e => exact hr
  | ok fl =>
    cases fl with
    | ret obj =>
      obtain ⟨rfl, rfl⟩ := hr
      generalize hled : (!tells w) = led at *
      have hS : (s.heap.push (setObj led)).get? s.heap.objs.size = some (setObj led) := Heap.get?_push_size _ rfl
      have hT : Shared.TypeIs { s with heap := s.heap.push (setObj led) } (.ref s.heap.objs.size) "set" := ⟨_, hS, rfl⟩
      have hli := F.called_set.init.lookup
      have hbi := F.called_set.init.bind (.ref s.heap.objs.size)
      repeat (any_goals (first | assumption | wp_step))
      refine codeAny_mono (codeAny_call_builtin (R := wants (fun r s₂ => r = .none ∧ ∃ h' tk, s₂ = { s with heap := h', toks := tk } ∧ SetL prog w h' s.heap.objs.size (fun k' => (onceS ds).contains k') (onceS ds).length led ∧
          (∀ b o, b < s.heap.objs.size → s.heap.get? b = some o → h'.get? b = some o)) E) F.called_set.init.plain F.entry_set_init (check_set_init_1 hT ?_)) fun r₂ s₂ hr₂ => ?_
      · obtain ⟨ol, hol, hcl, nl, hdl⟩ := hl
        obtain ⟨ocls, odict, odata, oslots⟩ := ol
        simp only at hcl hdl
        subst hcl; subst hdl
        have hol' : (s.heap.push (setObj led)).get? l = some { cls := .type "list", dict := odict, data := .seq vs.toArray nl, slots := oslots } := Heap.get?_push_of_some _ hol
        have hsls := F.sub_list_set
        have hslf := F.sub_list_frozenset
        have hne : (Value.type "list" == Value.type "dict") = false := by decide
        have hl1 : (s.heap.push (setObj led)).IsList l vs.toArray := ⟨_, hol', rfl, nl, rfl⟩
        unfold Builtin.«set.__init__» noKeywords Builtin.Frozenset.updateFrom
        generalize hPI : pyIter = PI
        wp_walk
        subst hPI
        refine wpAny_pyIter_list hl1 ?_
        refine wpAny_bind (wpAny_runValue ?_)
        have hlS : l < s.heap.objs.size := Heap.lt_size hol
        have hh3 : A.in1.in1.in1.handled = none := by simp [hh]
        have hneI : l ≠ (s.heap.push (setObj led)).objs.size := by
          rw [Heap.size_push]; exact Nat.ne_of_lt (Nat.lt_succ_of_lt hlS)
        have hSf : s.heap.objs.size ∉ [(s.heap.push (setObj led)).objs.size, l] := by
          rw [Heap.size_push]; simp only [List.mem_cons, List.mem_singleton, List.not_mem_nil, or_false, not_or]
          exact ⟨Nat.ne_of_lt (Nat.lt_succ_self _), Nat.ne_of_gt hlS⟩
        refine setL_loop ((Walks.list hh3 _ l hneI vs.toArray).toS) s.heap.objs.size hSf (ds := ds) (led := led) (fun i v hv => strs_turn hi (by simpa using hv)) (by rw [← hi.length]; simp) (by rw [List.size_toArray, hi.length]; exact hb) (vs.toArray.size - 0) 0 _ (by lia) (Nat.zero_le _)
          ⟨⟨_, Heap.get?_push_size _ rfl, rfl, rfl⟩, (hl1.push _)⟩ ?hS0 ?hR
        case hS0 =>
          exact ⟨_, #[], 0, .fresh 0 0 led, Heap.get?_push_of_some _ hS, ⟨rfl, rfl, rfl⟩, rfl, by intro e he; simp at he, fun k => by simp [onceS], by decide, rfl, rfl, rfl, fun h => absurd h (by simp [onceS])⟩
        case hR =>
          intro s' hm hS'
          obtain ⟨h', g', d', tk', os'⟩ := s'
          have eg : g' = s.gens := hm.gens
          have ed : d' = s.drawn := hm.drawn
          have eo : os' = s.os := hm.os
          subst eg; subst ed; subst eo
          show wpAny _ _ _ _ _ _
          refine wpAny_pure ?_
          show wpAny _ _ (ret Value.none) _ _ _
          refine wpAny_pure ⟨rfl, h', tk', rfl, hS', fun b o hb e => ?_⟩
          have hb1 : b ≠ s.heap.objs.size := Nat.ne_of_lt hb
          have hb2 : b ≠ (s.heap.push (setObj led)).objs.size := by
            rw [Heap.size_push]; exact Nat.ne_of_lt (Nat.lt_succ_of_lt hb)
          exact hm.heap b o (by simp only [List.mem_cons, List.mem_singleton, List.not_mem_nil, or_false, not_or]; exact ⟨hb1, hb2⟩) (Heap.get?_push_of_some _ (Heap.get?_push_of_some _ e))
      · cases r₂ with
        | error e => exact hr₂
        | ok fl₂ =>
          cases fl₂ with
          | ret r =>
            obtain ⟨rfl, h', tk, rfl, hS', hk'⟩ := hr₂
            repeat (any_goals (first | assumption | wp_step))
            exact h _ _ hS' hk'
          | _ => exact hr₂.elim
    | _ => exact hr.elim
end

theorem erase_perm {α : Type} : ∀ (l : List α) (i : Nat) (h : i < l.length), (l[i] :: l.eraseIdx i).Perm l
  | [], i, h => absurd h (Nat.not_lt_zero _)
  | a :: l, 0, _ => List.Perm.refl _
  | a :: l, i + 1, h => (List.Perm.swap _ _ _).trans ((erase_perm l i (Nat.lt_of_succ_lt_succ h)).cons a)
theorem pickGo_perm {α : Type} (next : Nat → Nat) : ∀ (fuel k : Nat) (left : List α) (out : Array α), left.length ≤ fuel → (pickOrder.go next fuel k left out).toList.Perm (out.toList ++ left) := by
  intro fuel
  induction fuel with
  | zero =>
    intro k left out h
    have : left = [] := List.length_eq_zero_iff.mp (Nat.le_zero.mp h)
    subst this
    rw [List.append_nil]; exact List.Perm.refl _
  | succ fuel ih =>
    intro k left out h
    unfold pickOrder.go
    cases left with
    | nil => rw [List.append_nil]; exact List.Perm.refl _
    | cons a l =>
      have hlt : next k % (a :: l).length < (a :: l).length := Nat.mod_lt _ (Nat.succ_pos _)
      rw [List.getElem?_eq_getElem hlt]
      refine (ih (k + 1) _ _ (by rw [List.length_eraseIdx_of_lt hlt]; simp only [List.length_cons] at h ⊢; lia)).trans ?_
      rw [Array.toList_push, List.append_assoc]
      exact (erase_perm _ _ hlt).append_left _
theorem pickOrder_perm {α : Type} (next : Nat → Nat) (xs : Array α) : (pickOrder next xs).toList.Perm xs.toList := by
  unfold pickOrder
  have := pickGo_perm next xs.size 0 xs.toList #[] (by simp)
  rw [List.nil_append] at this
  exact this
namespace SI
theorem owner_set_iterator : Manifest.owners.lookup (String.ofList ['r', 'o', 't', 'a', 'r', 'e', 't', 'i', '_', 't', 'e', 's'].reverse) = some Manifest.sig_set_iterator := by kernel_rfl
theorem slot_next : Slot "set_iterator" "__next__" "set_iterator.__next__" :=
  .of (owner := "set_iterator") (n := "__next__") (by rw [typeLookup_type, builtinLookup_eq_fast]; kernel_rfl) (by decide +kernel) (by decide +kernel) (by decide +kernel)
    (by first | exact .inl (by decide +kernel) | exact .inr (by decide +kernel)) (by rw [isSubtype_type]; kernel_rfl)
theorem entry_next : entryFor table "set_iterator.__next__" = some Builtin.«set_iterator.__next__» := entryFor_of_tree (by kernel_rfl)
theorem args_next (a : Value) : argsOk "set_iterator.__next__" ⟨[a], []⟩ := by
  unfold argsOk; rw [signature?_of (id := "set_iterator.__next__") (n := ['_', '_', 't', 'x', 'e', 'n', '_', '_']) (o := ['r', 'o', 't', 'a', 'r', 'e', 't', 'i', '_', 't', 'e', 's']) (by kernel_rfl) owner_set_iterator]; kernel_rfl
theorem entry_iter : entryFor table "set.__iter__" = some Builtin.«frozenset.__iter__» :=
  entryFor_alias (id' := "frozenset.__iter__") (by kernel_rfl) rfl (by decide +kernel) (by kernel_rfl)
end SI
theorem rs_429_1 {M : Model} {A : Around} {Q : Value → Shared → Prop} {E : Value → Shared → Prop} {s : Shared} (h : wpAny M A (call .none [.none]) Q E s) : wpAny M A (call .none [.none]) Q E s := by first | (walk1; fail "") | exact h
section
variable {prog : Program} {w : World} {A : Around} {E : Value → Shared → Prop} {s : Shared}
theorem wpAny_choose {src : Source} {n : Nat} {Q : Nat → Shared → Prop} (hn : n ≠ 0) (h : ∀ d i, i < n → Q i { s with drawn := d }) : wpAny (model prog w) A (choose src n) Q E s := by
  intro Γ p hΓ
  unfold choose
  rw [Sem.wp_choose]
  exact ⟨hn, h _ _ (Nat.mod_lt _ (Nat.pos_of_ne_zero hn))⟩
theorem wpAny_drawOrder : ∀ (n : Nat) (xs : List Nat) (s : Shared) (Q : List Nat → Shared → Prop), xs.length = n → (∀ ys d, ys.Perm xs → Q ys { s with drawn := d }) →
    wpAny (model prog w) A (drawOrder n xs) Q E s := by
  intro n
  induction n with
  | zero =>
    intro xs s Q h hQ
    have : xs = [] := List.length_eq_zero_iff.mp h
    subst this
    exact wpAny_pure (hQ [] s.drawn (List.Perm.refl _))
  | succ n ih =>
    intro xs s Q h hQ
    cases xs with
    | nil => cases h
    | cons a l =>
      unfold drawOrder
      refine wpAny_bind (wpAny_choose (by rw [h]; exact Nat.succ_ne_zero _) fun d i hi => ?_)
      rw [List.getElem?_eq_getElem hi]
      refine wpAny_bind (ih _ _ _ (by rw [List.length_eraseIdx_of_lt hi, h]; rfl) fun ys d' hp => wpAny_pure (hQ _ d' ?_))
      exact (hp.cons _).trans (erase_perm _ _ hi)
noncomputable def IsSetIter (h : Heap) (I S : Addr) (first : Value) (i n ep : Nat) : Prop :=
  ∃ o, h.get? I = some o ∧ o.cls = .type "set_iterator" ∧ o.data = .fields #[first, .int i 0, .ref S, .int n 0, .int ep 0]
theorem IsSetIter.typeIs {s : Shared} {I S : Addr} {first : Value} {i n ep : Nat} (x : IsSetIter s.heap I S first i n ep) : s.TypeIs (.ref I) "set_iterator" :=
  let ⟨o, ho, hc, _⟩ := x; ⟨o, ho, hc⟩
theorem set_next_item {I S : Addr} {i slot next n ep : Nat} {es : Array (Int × Value)} {t : SetTable} {so : Obj} {x : Value} {Q : Option Value → Shared → Prop} (hit : IsSetIter s.heap I S (.int slot 0) i n ep)
    (hS : s.heap.get? S = some so) (hd : so.data = .set es ep t) (hf : t.fits es.size = true) (hn : es.size = n)
    (hN : ∀ (A' : Around) (Q' : Option (Value × Nat) → Shared → Prop) (E' : Value → Shared → Prop), Q' (some (x, next)) s → wpAny (model prog w) A' (setNext S slot i ep) Q' E' s)
    (hQ : ∀ h', IsSetIter h' I S (.int next 0) (i + 1) n ep → Heap.SameBut I s.heap h' → Q (some x) { s with heap := h' }) : wpAny (model prog w) A (pyNext (.ref I)) Q E s := by
  have hT := hit.typeIs
  obtain ⟨o, ho, hc, hdd⟩ := hit
  unfold pyNext
  refine wpAny_bind (wpAny_attempt (wpAny_callSpecial?_slot (name := Str.ofString "__next__") hT SI.slot_next
    (wpAny_call_entry SI.slot_next hT SI.entry_next ?_ (SI.args_next _))))
  show wpAny _ _ (fieldsOf (.ref I) >>= _) _ _ s
  refine wpAny_bind (wpAny_fieldsOf ho hdd ?_)
  show wpAny _ _ (setEntries S >>= _) _ _ s
  refine wpAny_bind (wpAny_setEntries_of hS hd hf ?_)
  rw [hn]
  rw [if_neg (show ¬ (((n : Int) != (n : Int)) = true) by simp)]
  show wpAny _ _ (setNext S _ _ _ >>= _) _ _ s
  simp only [Int.toNat_natCast]
  refine wpAny_bind (hN _ _ _ ?_)
  dsimp only
  refine wpAny_bind (wpAny_setField ho hdd (by simp) ?_)
  have ho1 := Heap.get?_update_self (Obj.mapFields fun xs => xs.setIfInBounds 0 (rawInt next)) ho (Obj.isFreed_of_fields (Obj.data_mapFields hdd _))
  have hd1 := Obj.data_mapFields hdd (fun xs => xs.setIfInBounds 0 (rawInt next))
  refine wpAny_bind (wpAny_setField ho1 hd1 (by simp) (wpAny_pure ⟨x, rfl, wpAny_pure (hQ _ ?_ ((Heap.SameBut.update ..).trans (Heap.SameBut.update ..)))⟩))
  exact ⟨_, Heap.get?_update_self _ ho1 (Obj.isFreed_of_fields (Obj.data_mapFields hd1 _)), (Obj.cls_mapFields ..).trans ((Obj.cls_mapFields ..).trans hc), by
    rw [Obj.data_mapFields hd1]; simp [rawInt]⟩
theorem set_next_end {I S : Addr} {i slot n ep : Nat} {es : Array (Int × Value)} {t : SetTable} {so : Obj} {Q : Option Value → Shared → Prop} (hh : A.handled = none) (hit : IsSetIter s.heap I S (.int slot 0) i n ep)
    (hS : s.heap.get? S = some so) (hd : so.data = .set es ep t) (hf : t.fits es.size = true) (hn : es.size = n)
    (hN : ∀ (A' : Around) (Q' : Option (Value × Nat) → Shared → Prop) (E' : Value → Shared → Prop), Q' none s → wpAny (model prog w) A' (setNext S slot i ep) Q' E' s)
    (hQ : ∀ h', Heap.ExtBut I s.heap h' → Q none { s with heap := h' }) : wpAny (model prog w) A (pyNext (.ref I)) Q E s := by
  have hT := hit.typeIs
  obtain ⟨o, ho, hc, hdd⟩ := hit
  unfold pyNext
  refine wpAny_bind (wpAny_attempt (wpAny_callSpecial?_slot (name := Str.ofString "__next__") hT SI.slot_next
    (wpAny_call_entry SI.slot_next hT SI.entry_next ?_ (SI.args_next _))))
  show wpAny _ _ (fieldsOf (.ref I) >>= _) _ _ s
  refine wpAny_bind (wpAny_fieldsOf ho hdd ?_)
  show wpAny _ _ (setEntries S >>= _) _ _ s
  refine wpAny_bind (wpAny_setEntries_of hS hd hf ?_)
  rw [hn]
  rw [if_neg (show ¬ (((n : Int) != (n : Int)) = true) by simp)]
  show wpAny _ _ (setNext S _ _ _ >>= _) _ _ s
  simp only [Int.toNat_natCast]
  refine wpAny_bind (hN _ _ _ ?_)
  dsimp only
  refine wpAny_bind (wpAny_setField ho hdd (by simp) ?_)
  show wpAny _ _ (newExc (.type "StopIteration") [] >>= _) _ _ _
  refine wpAny_bind ?_
  simp only [newExc, newTuple]
  refine wpAny_bind (wpAny_newObj_type ?_ (by size_fits))
  refine wpAny_bind (m := firstArgMember _ _) (wpAny_of_eq (a := Value.none) (by first | rfl | (simp only [firstArgMember]; rfl)) ?_)
  refine wpAny_newObj_type ?_ (by size_fits)
  simp only [raiseNew]
  refine wpAny_bind (wpAny_handled ?_)
  first | rw [show A.in1.handled = none from hh] | rw [hh]
  refine wpAny_bind (wpAny_pure (wpAny_throw ?_))
  refine wpAny_bind (wpAny_isInstance (T := "StopIteration") (b := true) ⟨_, Heap.get?_push_size _ rfl, rfl⟩ isSubtype_stop ?_)
  exact wpAny_pure (hQ _ (((Heap.SameBut.update ..).extBut.push _).push _))
theorem set_drawn_item {I S T : Addr} {i place n ep : Nat} {es : Array (Int × Value)} {t : SetTable} {so : Obj} {places : Array Value} {e : Int × Value} {Q : Option Value → Shared → Prop} (hit : IsSetIter s.heap I S (.ref T) i n ep)
    (hS : s.heap.get? S = some so) (hd : so.data = .set es ep t) (hf : t.fits es.size = true) (hn : es.size = n) (hP : s.heap.IsTuple T places) (hp : places[i]? = some (.int place 0)) (he : es[place]? = some e)
    (hQ : ∀ h', IsSetIter h' I S (.ref T) (i + 1) n ep → Heap.SameBut I s.heap h' → Q (some e.2) { s with heap := h' }) : wpAny (model prog w) A (pyNext (.ref I)) Q E s := by
  have hT := hit.typeIs
  obtain ⟨o, ho, hc, hdd⟩ := hit
  obtain ⟨op, hop, _, np, hdp⟩ := hP
  unfold pyNext
  refine wpAny_bind (wpAny_attempt (wpAny_callSpecial?_slot (name := Str.ofString "__next__") hT SI.slot_next
    (wpAny_call_entry SI.slot_next hT SI.entry_next ?_ (SI.args_next _))))
  show wpAny _ _ (fieldsOf (.ref I) >>= _) _ _ s
  refine wpAny_bind (wpAny_fieldsOf ho hdd ?_)
  show wpAny _ _ (setEntries S >>= _) _ _ s
  refine wpAny_bind (wpAny_setEntries_of hS hd hf ?_)
  rw [hn]
  rw [if_neg (show ¬ (((n : Int) != (n : Int)) = true) by simp)]
  show wpAny _ _ (seqItems? (.ref T) >>= _) _ _ s
  refine wpAny_bind (wpAny_seqItems hop hdp ?_)
  simp only [Int.toNat_natCast, hp]
  show wpAny _ _ (setNextDrawn S _ _ >>= _) _ _ s
  unfold setNextDrawn
  simp only [Int.toNat_natCast]
  refine wpAny_bind (wpAny_bind (wpAny_setState_of hS hd hf ?_))
  dsimp only
  rw [if_neg (show ¬ ((ep != ep) = true) by simp), he]
  refine wpAny_pure ?_
  refine wpAny_bind (wpAny_setField ho hdd (by simp) (wpAny_pure ⟨e.2, rfl, wpAny_pure (hQ _ ?_ (Heap.SameBut.update ..))⟩))
  exact ⟨_, Heap.get?_update_self _ ho (Obj.isFreed_of_fields (Obj.data_mapFields hdd _)), (Obj.cls_mapFields ..).trans hc, by
    rw [Obj.data_mapFields hdd]; simp [rawInt]⟩
theorem set_drawn_end {I S T : Addr} {i n ep : Nat} {es : Array (Int × Value)} {t : SetTable} {so : Obj} {places : Array Value} {Q : Option Value → Shared → Prop} (hh : A.handled = none) (hit : IsSetIter s.heap I S (.ref T) i n ep)
    (hS : s.heap.get? S = some so) (hd : so.data = .set es ep t) (hf : t.fits es.size = true) (hn : es.size = n) (hP : s.heap.IsTuple T places) (hp : places[i]? = none)
    (hQ : ∀ h', Heap.ExtBut I s.heap h' → Q none { s with heap := h' }) : wpAny (model prog w) A (pyNext (.ref I)) Q E s := by
  have hT := hit.typeIs
  obtain ⟨o, ho, hc, hdd⟩ := hit
  obtain ⟨op, hop, _, np, hdp⟩ := hP
  unfold pyNext
  refine wpAny_bind (wpAny_attempt (wpAny_callSpecial?_slot (name := Str.ofString "__next__") hT SI.slot_next
    (wpAny_call_entry SI.slot_next hT SI.entry_next ?_ (SI.args_next _))))
  show wpAny _ _ (fieldsOf (.ref I) >>= _) _ _ s
  refine wpAny_bind (wpAny_fieldsOf ho hdd ?_)
  show wpAny _ _ (setEntries S >>= _) _ _ s
  refine wpAny_bind (wpAny_setEntries_of hS hd hf ?_)
  rw [hn]
  rw [if_neg (show ¬ (((n : Int) != (n : Int)) = true) by simp)]
  show wpAny _ _ (seqItems? (.ref T) >>= _) _ _ s
  refine wpAny_bind (wpAny_seqItems hop hdp ?_)
  simp only [Int.toNat_natCast, hp]
  refine wpAny_bind (wpAny_setField ho hdd (by simp) ?_)
  have ho1 := Heap.get?_update_self (Obj.mapFields fun xs => xs.setIfInBounds 0 (rawInt 0)) ho (Obj.isFreed_of_fields (Obj.data_mapFields hdd _))
  have hd1 := Obj.data_mapFields hdd (fun xs => xs.setIfInBounds 0 (rawInt 0))
  refine wpAny_bind (wpAny_setField ho1 hd1 (by simp) ?_)
  show wpAny _ _ (newExc (.type "StopIteration") [] >>= _) _ _ _
  refine wpAny_bind ?_
  simp only [newExc, newTuple]
  refine wpAny_bind (wpAny_newObj_type ?_ (by size_fits))
  refine wpAny_bind (m := firstArgMember _ _) (wpAny_of_eq (a := Value.none) (by first | rfl | (simp only [firstArgMember]; rfl)) ?_)
  refine wpAny_newObj_type ?_ (by size_fits)
  simp only [raiseNew]
  refine wpAny_bind (wpAny_handled ?_)
  first | rw [show A.in1.handled = none from hh] | rw [hh]
  refine wpAny_bind (wpAny_pure (wpAny_throw ?_))
  refine wpAny_bind (wpAny_isInstance (T := "StopIteration") (b := true) ⟨_, Heap.get?_push_size _ rfl, rfl⟩ isSubtype_stop ?_)
  exact wpAny_pure (hQ _ ((((Heap.SameBut.update ..).trans (Heap.SameBut.update ..)).extBut.push _).push _))
end

namespace SI
theorem slot_iter : Slot "set_iterator" "__iter__" "set_iterator.__iter__" :=
  .of (owner := "set_iterator") (n := "__iter__") (by rw [typeLookup_type, builtinLookup_eq_fast]; kernel_rfl) (by decide +kernel) (by decide +kernel) (by decide +kernel)
    (by first | exact .inl (by decide +kernel) | exact .inr (by decide +kernel)) (by rw [isSubtype_type]; kernel_rfl)
theorem args_iter (a : Value) : argsOk "set_iterator.__iter__" ⟨[a], []⟩ := by
  unfold argsOk; rw [signature?_of (id := "set_iterator.__iter__") (n := ['_', '_', 'r', 'e', 't', 'i', '_', '_']) (o := ['r', 'o', 't', 'a', 'r', 'e', 't', 'i', '_', 't', 'e', 's']) (by kernel_rfl) owner_set_iterator]; kernel_rfl
theorem entry_iter2 : entryFor table "set_iterator.__iter__" = some Builtin.«dict_keyiterator.__iter__» :=
  entryFor_alias (id' := "dict_keyiterator.__iter__") (by kernel_rfl) rfl (by decide +kernel) (by kernel_rfl)
end SI
theorem rs_4295_1 {M : Model} {A : Around} {Q : Value → Shared → Prop} {E : Value → Shared → Prop} {s : Shared} (h : wpAny M A (call .none [.none]) Q E s) : wpAny M A (call .none [.none]) Q E s := by first | (walk1; fail "") | exact h
section
variable {prog : Program} {w : World} {A : Around} {E : Value → Shared → Prop} {s : Shared}
theorem set_iter_self {I S : Addr} {first : Value} {i n ep : Nat} {Q : Value → Shared → Prop} (hit : IsSetIter s.heap I S first i n ep) (h : Q (.ref I) s) : wpAny (model prog w) A (pyIter (.ref I)) Q E s := by
  refine wpAny_pyIter_slot hit.typeIs SI.slot_iter (wpAny_call_entry SI.slot_iter hit.typeIs SI.entry_iter2 ?_ (SI.args_iter _))
  show wpAny _ _ (ret (.ref I)) _ _ s
  exact wpAny_pure ⟨_, rfl, "set_iterator", _, hit.typeIs, SI.slot_next.lookup, h⟩
theorem IsSetIter.at {h h' : Heap} {I S : Addr} {first : Value} {i n ep : Nat} (x : IsSetIter h I S first i n ep) (e : ∀ o, h.get? I = some o → h'.get? I = some o) : IsSetIter h' I S first i n ep :=
  let ⟨o, ho, r⟩ := x; ⟨o, e _ ho, r⟩
theorem set_walks {I S : Addr} {es : Array (Int × Value)} {ep : Nat} {t : SetTable} {so : Obj} (hIS : S ≠ I) (hh : A.handled = none) (hd : so.data = .set es ep t) (hf : t.fits es.size = true)
    (out : List Value) (slots : Nat → Nat) (hlen : out.length = es.size)
    (hN : ∀ (i : Nat) (s : Shared) (A' : Around) (Q' : Option (Value × Nat) → Shared → Prop) (E' : Value → Shared → Prop), s.heap.get? S = some so → Q' (out[i]?.map fun x => (x, slots (i + 1))) s → wpAny (model prog w) A' (setNext S (slots i) i ep) Q' E' s) :
    Walks prog w A I [I, S] [I] es.size (fun i v => out[i]? = some v) (fun i h => IsSetIter h I S (.int (slots i) 0) i es.size ep ∧ h.get? S = some so) where
  sub := fun b hb => by simp at hb; simp [hb]
  frame := fun _ _ _ st hk => ⟨st.1.at fun o e => hk I (by simp) o e, hk S (by simp) _ st.2⟩
  item := fun i s Q E hi st hQ => by
    have hx : out[i]? = some (out[i]'(by lia)) := List.getElem?_eq_getElem (by lia)
    refine set_next_item (x := out[i]'(by lia)) (next := slots (i + 1)) st.1 st.2 hd hf rfl (fun A' Q' E' q => hN i s A' Q' E' st.2 (by rw [hx]; exact q)) fun h' hit' hs' => ?_
    exact hQ _ h' s.toks hx ⟨hit', hs'.extBut _ _ hIS st.2⟩ fun b o hb e => hs'.extBut b o (fun h => hb (by simp [h])) e
  done := fun s Q E st hQ => by
    have hx : out[es.size]? = none := List.getElem?_eq_none (by lia)
    exact set_next_end hh st.1 st.2 hd hf rfl (fun A' Q' E' q => hN _ s A' Q' E' st.2 (by rw [hx]; exact q)) fun h' he' => hQ h' s.toks fun b o hb e => he' b o (fun h => hb (by simp [h])) e
  self := fun _ _ _ _ st hQ => set_iter_self st.1 hQ
theorem set_walks_drawn {I S T : Addr} {es : Array (Int × Value)} {ep : Nat} {t : SetTable} {so : Obj} (hIS : S ≠ I) (hIT : T ≠ I) (hh : A.handled = none) (hd : so.data = .set es ep t) (hf : t.fits es.size = true)
    (ps : List Nat) (hlen : ps.length = es.size) (hps : ∀ p ∈ ps, p < es.size) :
    Walks prog w A I [I, S, T] [I] es.size (fun i v => (ps.map fun p => (es.getD p (0, .none)).2)[i]? = some v)
      (fun i h => IsSetIter h I S (.ref T) i es.size ep ∧ h.get? S = some so ∧ h.IsTuple T (ps.map fun (i : Nat) => rawInt i).toArray) where
  sub := fun b hb => by simp at hb; simp [hb]
  frame := fun _ _ _ st hk => ⟨st.1.at fun o e => hk I (by simp) o e, hk S (by simp) _ st.2.1, let ⟨o, ho, r⟩ := st.2.2; ⟨o, hk T (by simp) _ ho, r⟩⟩
  item := fun i s Q E hi st hQ => by
    have hi' : i < ps.length := by lia
    have hp : es[ps[i]]? = some (es[ps[i]]'(hps _ (List.getElem_mem hi'))) := Array.getElem?_eq_getElem _
    refine set_drawn_item (place := ps[i]) (e := es[ps[i]]'(hps _ (List.getElem_mem hi'))) st.1 st.2.1 hd hf rfl st.2.2 (by simp [hi', rawInt]) hp fun h' hit' hs' => ?_
    exact hQ _ h' s.toks (by rw [List.getElem?_map, List.getElem?_eq_getElem hi', Option.map_some, Array.getD_eq_getD_getElem?, hp]; rfl) ⟨hit', hs'.extBut _ _ hIS st.2.1, st.2.2.extBut hs'.extBut hIT⟩ fun b o hb e => hs'.extBut b o (fun h => hb (by simp [h])) e
  done := fun s Q E st hQ => by
    exact set_drawn_end hh st.1 st.2.1 hd hf rfl st.2.2 (by simp [hlen]) fun h' he' => hQ h' s.toks fun b o hb e => he' b o (fun h => hb (by simp [h])) e
  self := fun _ _ _ _ st hQ => set_iter_self st.1 hQ
theorem below_zero (xs : Array Nat) : SetTable.below xs 0 = 0 := by
  unfold SetTable.below
  suffices ∀ fuel hi, SetTable.below.go xs 0 fuel 0 hi = 0 from this _ _
  intro fuel
  induction fuel with
  | zero => intro hi; rfl
  | succ fuel ih =>
    intro hi
    unfold SetTable.below.go
    split
    · simp only [Nat.not_lt_zero, ↓reduceIte]; exact ih _
    · rfl
theorem below_one (xs : Array Nat) (h : xs.size = 1) (j : Nat) (hj : xs[0]? = some j) : SetTable.below xs (j + 1) = 1 := by
  have h0 : xs.getD 0 (j + 1) = j := by rw [Array.getD_eq_getD_getElem?, hj]; rfl
  unfold SetTable.below
  rw [h]
  unfold SetTable.below.go
  simp only [Nat.zero_lt_one, ↓reduceIte]
  unfold SetTable.below.go
  simp [h0]
end

theorem rs_4296_1 {M : Model} {A : Around} {Q : Value → Shared → Prop} {E : Value → Shared → Prop} {s : Shared} (h : wpAny M A (call .none [.none]) Q E s) : wpAny M A (call .none [.none]) Q E s := by first | (walk1; fail "") | exact h
section
variable {prog : Program} {w : World} {A : Around} {E : Value → Shared → Prop} {s : Shared}
noncomputable def GoodIter (prog : Program) (w : World) (I S : Addr) (es : Array (Int × Value)) (h h' : Heap) : Prop :=
  ∃ (fp : List Addr) (St : Nat → Heap → Prop) (out : List Value), out.Perm (es.toList.map (·.2)) ∧ (∀ A' : Around, A'.handled = none → Walks prog w A' I fp [I] es.size (fun i v => out[i]? = some v) St) ∧
    St 0 h' ∧ (∀ b ∈ fp, b = S ∨ h.objs.size ≤ b) ∧ h.objs.size ≤ I ∧ (∀ b o, h.get? b = some o → h'.get? b = some o) ∧ h.objs.size ≤ h'.objs.size
theorem map_places {es : Array (Int × Value)} {ps : List Nat} (h : ps.Perm (List.range es.size)) : (ps.map fun p => (es.getD p (0, .none)).2).Perm (es.toList.map (·.2)) := by
  have h1 := h.map fun p => (es.getD p (0, .none)).2
  refine h1.trans (List.Perm.of_eq ?_)
  refine List.ext_getElem (by simp) fun i h2 h3 => ?_
  simp only [List.length_map, List.length_range] at h2
  simp [Array.getD_eq_getD_getElem?, h2]
theorem pyIter_set {S : Addr} {so : Obj} {es : Array (Int × Value)} {ep : Nat} {t : SetTable} {Q : Value → Shared → Prop} (hS : s.heap.get? S = some so) (hex : so.ExactSet) (hd : so.data = .set es ep t) (hf : t.fits es.size = true) (hl : t.led = !tells w)
    (hp : 0 < es.size → t.plain = false) (hb : es.size < scanBound) (hQ : ∀ h' d I, GoodIter prog w I S es s.heap h' → Q (.ref I) { s with heap := h', drawn := d }) : wpAny (model prog w) A (pyIter (.ref S)) Q E s := by
  have hT : s.TypeIs (.ref S) "set" := ⟨so, hS, hex.1⟩
  have hlt : S < s.heap.objs.size := Heap.lt_size hS
  refine wpAny_pyIter_slot hT F.slot_set_iter (wpAny_call_entry F.slot_set_iter hT SI.entry_iter ?_ (F.args_set_iter_1 _))
  unfold Builtin.«frozenset.__iter__» Builtin.Frozenset.slot0 slotArgs
  simp only [List.isEmpty_nil, Bool.not_true, Bool.false_eq_true, ↓reduceIte, bind_assoc, List.length_nil, bne_self_eq_false]
  unfold Builtin.Frozenset.addrOf Builtin.Frozenset.sizeOf
  refine wpAny_bind (wpAny_pure ?_)
  try dsimp only
  refine wpAny_bind (wpAny_pure ?_)
  refine wpAny_bind (wpAny_bind (wpAny_setEntries_of hS hd hf (wpAny_pure ?_)))
  unfold setDrawn
  refine wpAny_bind (wpAny_bind (wpAny_setState_of hS hd hf ?_))
  refine wpAny_bind ?_
  unfold setsByText
  refine wpAny_bind (wpAny_askSetting (wpAny_pure ?_))
  show wpAny _ _ (pure (!(tells w) && (!t.plain && decide (es.size > 1)))) _ _ s
  refine wpAny_pure ?_
  by_cases hdr : (!(tells w) && (!t.plain && decide (es.size > 1))) = true
  · rw [if_pos hdr]
    rw [Bool.and_eq_true, Bool.and_eq_true, decide_eq_true_eq] at hdr
    refine wpAny_bind (wpAny_drawOrder es.size (List.range es.size) _ _ (List.length_range) fun ps d hps => ?_)
    have hlen : ps.length = es.size := by rw [hps.length_eq, List.length_range]
    refine wpAny_bind (wpAny_newTuple ?_ (by rw [List.length_map, hlen]; exact Nat.le_of_lt (Nat.lt_of_lt_of_le hb (by decide))))
    unfold setEpoch
    have hS1 : (s.heap.push { cls := .type "tuple", data := .seq (ps.map fun (i : Nat) => rawInt i).toArray }).get? S = some so := Heap.get?_push_of_some _ hS
    refine wpAny_bind (wpAny_bind (wpAny_setState_of (s := { s with drawn := d, heap := s.heap.push { cls := .type "tuple", data := .seq (ps.map fun (i : Nat) => rawInt i).toArray } }) hS1 hd hf (wpAny_pure ?_)))
    refine wpAny_bind (wpAny_newObj_type ?_)
    refine wpAny_pure ⟨_, rfl, "set_iterator", _, ⟨_, Heap.get?_push_size _ rfl, rfl⟩, SI.slot_next.lookup, hQ _ d _ ?_⟩
    refine ⟨_, _, _, map_places hps, fun A' hh => set_walks_drawn (S := S) (T := s.heap.objs.size) (ep := ep) (t := t) (so := so) ?_ ?_ hh hd hf ps hlen (fun p hp => by
      have := hps.mem_iff.mp hp
      exact List.mem_range.mp this), ⟨⟨_, Heap.get?_push_size _ rfl, rfl, rfl⟩, Heap.get?_push_of_some _ hS1, _, Heap.get?_push_of_some _ (Heap.get?_push_size _ rfl), rfl, _, rfl⟩, ?_, ?_, fun b o e => Heap.get?_push_of_some _ (Heap.get?_push_of_some _ e), ?_⟩
    · rw [Heap.size_push]; exact Nat.ne_of_lt (Nat.lt_succ_of_lt hlt)
    · rw [Heap.size_push]; exact Nat.ne_of_lt (Nat.lt_succ_self _)
    · intro b hb
      simp only [List.mem_cons, List.not_mem_nil, or_false] at hb
      rcases hb with rfl | rfl | rfl
      · exact .inr (by rw [Heap.size_push]; exact Nat.le_succ _)
      · exact .inl rfl
      · exact .inr (Nat.le_refl _)
    · rw [Heap.size_push]; omega
    · rw [Heap.size_push, Heap.size_push]; omega
  · rw [if_neg hdr]
    refine wpAny_bind (wpAny_pure ?_)
    unfold setEpoch
    refine wpAny_bind (wpAny_bind (wpAny_setState_of hS hd hf (wpAny_pure ?_)))
    refine wpAny_bind (wpAny_newObj_type ?_)
    refine wpAny_pure ⟨_, rfl, "set_iterator", _, ⟨_, Heap.get?_push_size _ rfl, rfl⟩, SI.slot_next.lookup, ?_⟩
    refine hQ _ s.drawn _ ?_
    have hSI : S ≠ s.heap.objs.size := Nat.ne_of_lt hlt
    have common : ∀ (out : List Value) (slots : Nat → Nat), out.Perm (es.toList.map (·.2)) → slots 0 = 0 →
      (∀ (i : Nat) (s : Shared) (A' : Around) (Q' : Option (Value × Nat) → Shared → Prop) (E' : Value → Shared → Prop), s.heap.get? S = some so → Q' (out[i]?.map fun x => (x, slots (i + 1))) s → wpAny (model prog w) A' (setNext S (slots i) i ep) Q' E' s) →
      GoodIter prog w s.heap.objs.size S es s.heap (s.heap.push { cls := .type "set_iterator", data := .fields #[rawInt 0, rawInt 0, .ref S, rawInt es.size, rawInt ep] }) := by
      intro out slots hout h0 hN
      refine ⟨_, _, out, hout, fun A' hh => set_walks hSI hh hd hf out slots (by rw [hout.length_eq]; simp) hN, ⟨⟨_, Heap.get?_push_size _ rfl, rfl, by rw [h0]; rfl⟩, Heap.get?_push_of_some _ hS⟩, ?_, Nat.le_refl _, fun b o e => Heap.get?_push_of_some _ e, ?_⟩
      · intro b hb
        simp only [List.mem_cons, List.not_mem_nil, or_false] at hb
        exact hb.elim (fun e => .inr (Nat.le_of_eq e.symm)) .inl
      · rw [Heap.size_push]; exact Nat.le_succ _
    by_cases ht : tells w = true
    · refine common ((pickOrder (w.params.setOrder S ep) es).toList.map (·.2)) (fun _ => 0) ((pickOrder_perm _ es).map _) rfl fun i s A' Q' E' hS' q => ?_
      unfold setNext
      refine wpAny_bind (wpAny_setState_of hS' hd hf ?_)
      unfold setsByText
      refine wpAny_bind (wpAny_bind (wpAny_askSetting (wpAny_pure ?_)))
      show wpAny _ _ (ite (tells w = true) _ _) _ _ _
      rw [if_pos ht, if_neg (show ¬ ((ep != ep) = true) by simp)]
      unfold setWalk
      refine wpAny_bind (wpAny_bind (wpAny_setState_of hS' hd hf ?_))
      unfold setsByText
      refine wpAny_bind (wpAny_bind (wpAny_askSetting (wpAny_pure ?_)))
      show wpAny _ _ (ite (tells w = true) _ _) _ _ _
      rw [if_pos ht]
      refine wpAny_bind (wpAny_askSetting (wpAny_pure (wpAny_pure ?_)))
      have e : (List.map (fun x => x.2) (pickOrder (w.params.setOrder S ep) es).toList)[i]?.map (fun x => (x, 0)) = (pickOrder (w.params.setOrder S ep) es)[i]?.map fun e => (e.2, 0) := by
        rw [List.getElem?_map, Option.map_map, Array.getElem?_toList]; rfl
      rw [e] at q; exact q
    · have ht' : tells w = false := by cases h : tells w <;> simp_all
      rw [ht'] at hdr hl
      have hled : t.led = true := hl
      have h1 : es.size ≤ 1 := by
        rcases Nat.lt_or_ge 1 es.size with h | h
        · rw [hp (by omega)] at hdr
          exact absurd (by simp [h]) hdr
        · exact h
      have hpl : t.place.size = es.size := by
        unfold SetTable.fits at hf
        rw [Bool.and_eq_true] at hf
        exact eq_of_beq hf.1
      have hsn : ∀ (slot i : Nat) (s : Shared) (A' : Around) (Q' : Option (Value × Nat) → Shared → Prop) (E' : Value → Shared → Prop), s.heap.get? S = some so →
          Q' (match es[SetTable.below t.place slot]?, t.place[SetTable.below t.place slot]? with | some (_, x), some j => some (x, j + 1) | _, _ => none) s → wpAny (model prog w) A' (setNext S slot i ep) Q' E' s := by
        intro slot i s A' Q' E' hS' q
        unfold setNext
        refine wpAny_bind (wpAny_setState_of hS' hd hf ?_)
        unfold setsByText
        refine wpAny_bind (wpAny_bind (wpAny_askSetting (wpAny_pure ?_)))
        show wpAny _ _ (ite (tells w = true) _ _) _ _ _
        rw [if_neg ht]
        show wpAny _ _ (ite ((!t.plain && decide (es.size > 1)) = true) _ _) _ _ _
        rw [if_neg (by rw [decide_eq_false (by omega)]; simp)]
        show wpAny _ _ ((ite ((!t.led && !es.isEmpty) = true) _ _) >>= _) _ _ _
        rw [if_neg (by rw [hled]; simp)]
        refine wpAny_bind (wpAny_pure (wpAny_pure ?_))
        exact q
      rcases Nat.lt_or_ge 0 es.size with h0 | h0
      · have hsz : es.size = 1 := by omega
        have he : es[0]? = some (es[0]'h0) := Array.getElem?_eq_getElem h0
        have hp0 : t.place[0]? = some (t.place[0]'(by omega)) := Array.getElem?_eq_getElem (by omega)
        have hl1 : es.toList = [es[0]'h0] := List.ext_getElem (by simp [hsz]) fun i h1 h2 => by
          have : i = 0 := by simp at h2; omega
          subst this; simp
        refine common [(es[0]'h0).2] (fun i => if i = 0 then 0 else t.place[0]'(by omega) + 1) (by rw [hl1]; exact List.Perm.refl _) rfl fun i s A' Q' E' hS' q => hsn _ _ _ _ _ _ hS' ?_
        cases i with
        | zero =>
          rw [if_pos rfl, below_zero, he, hp0]
          exact q
        | succ i =>
          rw [if_neg (Nat.succ_ne_zero _), below_one _ (by omega) _ hp0, Array.getElem?_eq_none (by omega)]
          rw [List.getElem?_eq_none (by simp)] at q
          exact q
      · have hsz : es = #[] := Array.eq_empty_of_size_eq_zero (by omega)
        refine common [] (fun _ => 0) (by rw [hsz]; exact List.Perm.refl _) rfl fun i s A' Q' E' hS' q => hsn _ _ _ _ _ _ hS' ?_
        rw [below_zero, Array.getElem?_eq_none (by omega)]
        exact q
theorem listHint_set {S : Addr} {Q : Bool → Shared → Prop} (hT : s.TypeIs (.ref S) "set") (h : Q false s) : wpAny (model prog w) A (Builtin.List.listLengthHint (.ref S)) Q E s := by
  unfold Builtin.List.listLengthHint
  refine wpAny_bind (wpAny_specialOf hT F.slot_set_len.lookup ?_)
  have e : splitId "set.__len__" = some ("set", "__len__") := by decide +kernel
  dsimp only
  rw [e]
  dsimp only
  refine wpAny_bind (wpAny_isInstance hT sub_set_self ?_)
  rw [if_neg (show ¬ ((!true) = true) by decide)]
  rw [if_pos]
  rotate_left
  · decide +kernel
  refine wpAny_bind (wpAny_typeOf hT ?_)
  exact wpAny_pure h
theorem collect_set {S : Addr} {so : Obj} {es : Array (Int × Value)} {ep : Nat} {t : SetTable} {Q : List Value → Shared → Prop} (hh : A.handled = none) (hS : s.heap.get? S = some so) (hex : so.ExactSet) (hd : so.data = .set es ep t) (hf : t.fits es.size = true) (hl : t.led = !tells w)
    (hp : 0 < es.size → t.plain = false) (hb : es.size < scanBound) (hQ : ∀ h' d tk vs, vs.Perm (es.toList.map (·.2)) → (∀ b o, s.heap.get? b = some o → h'.get? b = some o) → s.heap.objs.size ≤ h'.objs.size → Q vs { s with heap := h', drawn := d, toks := tk }) :
    wpAny (model prog w) A (collect (.ref S)) Q E s := by
  have hlt : S < s.heap.objs.size := Heap.lt_size hS
  unfold collect
  refine wpAny_bind (wpAny_runValue (codeAny_builtin F.entry_proto_collect ?_))
  rw [Around.under_plainId F.plain_proto_collect _]
  show wpAny _ A.in1 (newList [] >>= fun l => again (.builtin "list.__iadd__" ⟨[l, .ref S], []⟩)) _ _ s
  refine wpAny_bind (wpAny_newObj_type ?_)
  refine wpAny_pure ⟨plainId_quiet F.plain_list_iadd _, codeAny_builtin F.entry_list_iadd ?_⟩
  rw [Around.under_plainId F.plain_list_iadd _]
  have hS1 : (s.heap.push { cls := .type "list", data := .seq ([] : List Value).toArray }).get? S = some so := Heap.get?_push_of_some _ hS
  have hT1 : Shared.TypeIs { s with heap := s.heap.push { cls := .type "list", data := .seq ([] : List Value).toArray } } (.ref S) "set" := ⟨so, hS1, hex.1⟩
  show wpAny _ A.in1 (Builtin.List.listExtendWith (.ref s.heap.objs.size) (.ref S) (.ref s.heap.objs.size)) _ _ _
  unfold Builtin.List.listExtendWith
  refine wpAny_bind (wpAny_typeOf hT1 ?_)
  have h1 : Builtin.List.listSameRef (.ref s.heap.objs.size) (.ref S) = false := by
    have : s.heap.objs.size ≠ S := Ne.symm (Nat.ne_of_lt hlt)
    simp [Builtin.List.listSameRef, this]
  have h2 : (Value.type "set" == Value.type "list") = false := by decide
  have h3 : (Value.type "set" == Value.type "tuple") = false := by decide
  simp only [h1, h2, h3, Bool.or_false, Bool.false_eq_true, if_false]
  refine wpAny_bind (pyIter_set hS1 hex hd hf hl hp hb fun h' d I hG => ?_)
  obtain ⟨fp, St, out, hout, hW, hSt, hfp, hI, hk, hsz⟩ := hG
  have hS2 := hk _ _ hS1
  refine wpAny_bind (wpAny_holding (listHint_set ⟨so, hS2, hex.1⟩ ?_))
  rw [if_pos]
  rotate_left
  · decide +kernel
  refine wpAny_bind (wpAny_rule ?_)
  have hX : (s.heap.push { cls := .type "list", data := .seq ([] : List Value).toArray }).get? s.heap.objs.size = some { cls := .type "list", data := .seq ([] : List Value).toArray } := Heap.get?_push_size _ rfl
  have hX1 := hk _ _ hX
  have hXf : s.heap.objs.size ∉ fp := fun hm => by
    rcases hfp _ hm with e | e
    · exact absurd e (Ne.symm (Nat.ne_of_lt hlt))
    · rw [Heap.size_push] at e; exact absurd e (Nat.not_succ_le_self _)
  have hXI : s.heap.objs.size ≠ I := fun e => by
    rw [← e, Heap.size_push] at hI; exact absurd hI (Nat.not_succ_le_self _)
  refine wpAny_bind ?_
  show wpAny _ A.in1 (updateSeq s.heap.objs.size (·.push .none) >>= fun _ => updateSeq s.heap.objs.size (·.pop)) _ _ _
  refine wpAny_bind (wpAny_updateSeq hX1 rfl ?_)
  have hX2 := Heap.get?_update_self (Obj.mapSeq (·.push Value.none)) hX1 rfl
  refine wpAny_updateSeq hX2 rfl ?_
  have hX3 := Heap.get?_update_self (Obj.mapSeq (·.pop)) hX2 rfl
  have oth : ∀ b o, b ≠ s.heap.objs.size → h'.get? b = some o → ((h'.update s.heap.objs.size (Obj.mapSeq (·.push Value.none))).update s.heap.objs.size (Obj.mapSeq (·.pop))).get? b = some o :=
    fun b o hb e => (Heap.get?_update_other _ _ (Ne.symm hb)).trans ((Heap.get?_update_other _ _ (Ne.symm hb)).trans e)
  have W := hW A.in1 hh
  refine wpAny_pure ⟨plainId_quiet F.plain_extend_loop _, codeAny_extend_loopS W.toS (Nat.le_of_lt (Nat.lt_of_lt_of_le hb (by decide))) _ hXf _ es.size 0 _ _ _ rfl (Nat.zero_le _)
    (W.frame 0 _ _ hSt fun b hb o e => oth b o (fun h => hXf (h ▸ hb)) e) hX3 (ItemsOf.nil _) fun s' acc' c' hm hS' hacc => ?_⟩
  show wpAny _ A (load s.heap.objs.size >>= _) _ _ s'
  refine wpAny_bind (wpAny_load hS' ?_)
  have eout : acc'.toList = out := by
    refine List.ext_getElem? fun i => ?_
    rcases Nat.lt_or_ge i acc'.size with hi | hi
    · rw [Array.getElem?_toList]
      have e := Array.getElem?_eq_getElem hi
      rw [e]; exact (hacc.2 i _ e).symm
    · rw [List.getElem?_eq_none (by simpa using hi), List.getElem?_eq_none (by rw [hout.length_eq]; have := hacc.1; simp; omega)]
  obtain ⟨hp', g', d', tk', os'⟩ := s'
  have eg : g' = s.gens := hm.gens
  have ed : d' = d := hm.drawn
  have eo : os' = s.os := hm.os
  subst eg; subst ed; subst eo
  refine wpAny_pure (hQ _ _ _ _ (eout ▸ hout) (fun b o e => ?_) ?_)
  · refine hm.heap b o (fun hmm => ?_) (oth b o (Nat.ne_of_lt (Heap.lt_size e)) (hk _ _ (Heap.get?_push_of_some _ e)))
    have hbs := Heap.lt_size e
    rcases List.mem_cons.mp hmm with e1 | e1
    · exact absurd e1 (Nat.ne_of_lt hbs)
    · have e2 := List.mem_singleton.mp e1
      rw [e2] at hbs
      rw [Heap.size_push] at hI
      exact absurd (Nat.lt_of_lt_of_le hbs (Nat.le_of_succ_le hI)) (Nat.lt_irrefl _)
  · exact Nat.le_of_lt (Heap.lt_size hS')
end

theorem perm_of_sub : ∀ (l₁ l₂ : List Str), l₁.Nodup → (∀ x ∈ l₁, x ∈ l₂) → l₂.length ≤ l₁.length → l₁.Perm l₂
  | [], l₂, _, _, h => by
    have : l₂ = [] := List.length_eq_zero_iff.mp (Nat.le_zero.mp h)
    rw [this]
  | a :: l₁, l₂, hn, hs, h => by
    have ha : a ∈ l₂ := hs a (.head _)
    rw [List.nodup_cons] at hn
    refine List.Perm.trans (List.Perm.cons a (perm_of_sub l₁ (l₂.erase a) hn.2 (fun x hx => ?_) ?_)) (List.perm_cons_erase ha).symm
    · exact (List.mem_erase_of_ne (fun (e : x = a) => hn.1 (e ▸ hx))).mpr (hs x (.tail _ hx))
    · rw [List.length_erase_of_mem ha]; simp only [List.length_cons] at h; omega
theorem rs_4297_1 {M : Model} {A : Around} {Q : Value → Shared → Prop} {E : Value → Shared → Prop} {s : Shared} (h : wpAny M A (call .none [.none]) Q E s) : wpAny M A (call .none [.none]) Q E s := by first | (walk1; fail "") | exact h
section
variable {prog : Program} {w : World} {A : Around} {E : Value → Shared → Prop} {s : Shared}
theorem elems_texts {es : List (Int × Value)} (h : ElemsOf (PySem.strKind prog w) es) : ∀ v ∈ es.map (·.2), ∃ x t, v = .str x t := by
  intro v hv
  obtain ⟨e, he, rfl⟩ := List.mem_map.mp hv
  obtain ⟨⟨k, hk, _⟩, _⟩ := h e he
  obtain ⟨t, ht⟩ := Value.isStrOf_shape hk
  exact ⟨k, t, ht⟩
theorem sorted_setL {S : Addr} {ds : List Str} {Q : Value → Shared → Prop} (hh : A.handled = none) (hS : SetL prog w s.heap S (fun k => (onceS ds).contains k) (onceS ds).length (!tells w)) (h64 : (onceS ds).length < 64)
    (h : ∀ (h' : Heap) (d : Drawn) (tk : Nat) (a : Addr) (e : Nat) (vs' : List Value) (ss' : List Str), (∀ b o, s.heap.get? b = some o → h'.get? b = some o) → s.heap.objs.size ≤ a → h'.get? a = some (seqObj "list" vs'.toArray e) → StrsAre vs' ss' → ss'.Perm (onceS ds) → sortedS ss' = true → Q (.ref a) { s with heap := h', drawn := d, toks := tk }) :
    wpAny (model prog w) A (call (.builtin "sorted") [.ref S]) Q E s := by
  obtain ⟨so, es, ep, t, hS, hex, hd, hel, hmem, hb, hf, hn, hl, hp⟩ := hS
  refine Calls.call_function_entry kind_sorted plain_sorted entry_sorted (args_sorted1 _) ?_
  unfold Builtin.«sorted»
  refine wpAny_bind (m := checkCount "sorted" 1 1 _) (wpAny_pure ?_)
  refine wpAny_bind (collect_set (A := A.in1) hh hS hex hd hf hl (fun h => hp (by omega)) hb fun h1 d tk vs hvs hk hsz => ?_)
  have hvl : vs.length = (onceS ds).length := by rw [hvs.length_eq, List.length_map, Array.length_toList, hn]
  have hst : StrsAre vs (vs.map strOf) := strsAre_map vs fun v hv => elems_texts hel v (hvs.mem_iff.mp hv)
  have hpm : (onceS ds).Perm (vs.map strOf) := by
    refine perm_of_sub _ _ (onceS_nodup ds) (fun x hx => ?_) (by rw [List.length_map, hvl]; exact Nat.le_refl _)
    obtain ⟨e, he, hk⟩ := (hmem x).mp (List.contains_iff_mem.mpr hx)
    obtain ⟨t, ht⟩ := Value.isStrOf_shape hk
    exact List.mem_map.mpr ⟨e.2, hvs.mem_iff.mpr (List.mem_map.mpr ⟨e, he, rfl⟩), by rw [ht]; rfl⟩
  refine wpAny_bind (wpAny_newList ?_ (by rw [hvl]; exact Nat.le_of_lt (Nat.lt_of_lt_of_le h64 (by decide))))
  have hoL : (h1.push (seqObj "list" vs.toArray 0)).get? h1.objs.size = some (seqObj "list" vs.toArray 0) := Heap.get?_push_size _ rfl
  refine wpAny_bind (wpAny_holding (wpAny_call_entry slot_list_sort ⟨_, hoL, rfl⟩ entry_list_sort (list_sort_treeK strKind_oneLt hoL hst.keysOf (fun v₁ v₂ rest e => keyKind_strs (by rw [← e]; exact hst)) (by omega) fun st' a1 a2 => ⟨_, rfl, ?_⟩) (args_list_sort _)))
  obtain ⟨ss', b1, b2, b3⟩ := sorted_out_str hst a1 a2
  obtain ⟨e, he⟩ := sortedHeap_at (h := h1.push (seqObj "list" vs.toArray 0)) (a := h1.objs.size) (vs := vs) (out := (arrOf st').map (·.2)) hoL
  refine wpAny_pure ⟨_, rfl, h _ d tk _ e ((arrOf st').map (·.2)).toList ss' (fun b o hbo => ?_) hsz he b1 (b2.trans hpm.symm) b3⟩
  have hb1 := hk b o hbo
  have hlt := Heap.lt_size hb1
  rw [sortedHeap_old (Nat.ne_of_lt hlt) (by rw [Heap.size_push]; exact Nat.lt_succ_of_lt hlt)]
  exact Heap.get?_push_of_some _ hb1
theorem sortedset_N {h₀ : Heap} {L : Addr} {m : Str → Option Value} {news : List (Addr × Obj)} {S : Addr} {h' : Heap} {tk : Nat} {ds : List Str} {Q : Value → Shared → Prop} (hh : A.handled = none)
    (F : Fr h₀ L s.heap m) (N : News h₀ L s.heap news) (hS : SetL prog w h' S (fun k => (onceS ds).contains k) (onceS ds).length (!tells w)) (hk : ∀ b o, b < s.heap.objs.size → s.heap.get? b = some o → h'.get? b = some o) (hSs : S = s.heap.objs.size) (h64 : (onceS ds).length < 64)
    (h : ∀ (h2 : Heap) (d : Drawn) (tk : Nat) (a : Addr) (vs' : List Value) (ss' : List Str) (e : Nat), Fr h₀ L h2 m → News h₀ L h2 ((a, seqObj "list" vs'.toArray e) :: news) →
      (∀ p ∈ news, p.1 ≠ a) → StrsAre vs' ss' → ss'.Perm (onceS ds) → sortedS ss' = true → Q (.ref a) { s with heap := h2, drawn := d, toks := tk }) :
    wpAny (model prog w) A (call (.builtin "sorted") [.ref S]) Q E { s with heap := h', toks := tk } := by
  have hk' : ∀ b o, s.heap.get? b = some o → h'.get? b = some o := fun b o e => hk b o (Heap.lt_size e) e
  have hle : s.heap.objs.size ≤ h'.objs.size := by
    obtain ⟨so, _, _, _, ho, _⟩ := hS
    rw [hSs] at ho
    exact Nat.le_of_lt (Heap.lt_size ho)
  refine sorted_setL hh hS h64 fun h2 d tk a e vs' ss' hk2 ha he q1 q2 q3 => ?_
  have hk3 : ∀ b o, s.heap.get? b = some o → h2.get? b = some o := fun b o x => hk2 b o (hk' b o x)
  have hsa : s.heap.objs.size ≤ a := Nat.le_trans hle ha
  refine h h2 d tk a vs' ss' e (F.kept hk3) (N.kept_cons F hk3 hsa he) (fun p hp x => ?_) q1 q2 q3
  have := Heap.lt_size (N p hp).1
  rw [x] at this
  exact absurd (Nat.lt_of_lt_of_le this hsa) (Nat.lt_irrefl _)
end

theorem rs_43_1 {M : Model} {A : Around} {Q : Value → Shared → Prop} {E : Value → Shared → Prop} {s : Shared} (h : wpAny M A (call .none [.none]) Q E s) : wpAny M A (call .none [.none]) Q E s := by first | (walk1; fail "") | exact h
section
variable {w : World} {loose : List Str} {mean : ExcName → Option Value} {mg mb : Str → Option Value} {h₀ : Heap} {L fa : Addr} {cd : Value} {xh : Heap} {xg : Array GenState} {xd : Drawn} {xt : Nat} {xo : OsState} {m : Str → Option Value} {Q : Flow → Shared → Prop} {E : Value → Shared → Prop}
theorem st_21 {dl : Addr} {c7 : Obj} {vl : List Value} {cl : Nat} {ls : List Str} {ps : List (Str × Value)} {rest : List (Addr × Obj)} (G : LG w loose mean mg mb h₀) (hl : StrsAre vl ls) (l1 : ls.length ≤ 16) (hc7 : c7.data = .cell (some (.ref dl)))
    (S : At h₀ L xh ps ((dl, listOf vl.toArray cl) :: (L + 1 + 1 + 1 + 1 + 1 + 1 + 1 + 1, c7) :: rest))
    (hne : ∀ p ∈ (dl, listOf vl.toArray cl) :: rest, p.1 ≠ L + 1 + 1 + 1 + 1 + 1 + 1 + 1 + 1)
    (k : ∀ h d tk c7' dl' vl' cl' ls', c7'.data = .cell (some (.ref dl')) → StrsAre vl' ls' → ls'.Perm (onceS ls) → sortedS ls' = true → At h₀ L h ps ((dl', listOf vl'.toArray cl') :: (L + 1 + 1 + 1 + 1 + 1 + 1 + 1 + 1, c7') :: rest) →
      (∀ p ∈ (L + 1 + 1 + 1 + 1 + 1 + 1 + 1 + 1, c7') :: rest, p.1 ≠ dl') → Q .next ⟨h, xg, d, tk, xo⟩) :
    wpAny (LM w) (LA L fa cd) (exec (lawSt 21) (lawEnv L fa cd)) Q E ⟨xh, xg, xd, xt, xo⟩ := by
  have K0 := G.K0
  have KX := G.KX
  have T := G.T
  refine At.use S ?_
  clear S
  intro m₀ mq F N
  conv in lawSt 21 => whnf
  k_steps
  have h64 := onceS_len ls
  refine call_set_strs (by rfl) ⟨_, (N _ (.head _)).1, rfl, _, rfl⟩ hl (by rw [show scanBound = 4096 from rfl]; omega) fun h' tk hS hk => ?_
  k_steps
  refine sortedset_N (by rfl) F N hS hk rfl (by omega) fun h2 d tk a vs' ss' e F' N' na q1 q2 q3 => ?_
  clear hS hk F N
  have n0 : @Ne Nat a (L + 1 + 1 + 1 + 1 + 1 + 1 + 1 + 1) := Ne.symm (na _ (.tail _ (.head _)))
  have n1 : @Ne Nat dl (L + 1 + 1 + 1 + 1 + 1 + 1 + 1 + 1) := hne _ (.head _)
  have n2 : ∀ p ∈ rest, p.1 ≠ L + 1 + 1 + 1 + 1 + 1 + 1 + 1 + 1 := fun p hp => hne p (.tail _ hp)
  clear hne
  replace N' : News h₀ L h2 ((a, listOf vs'.toArray e) :: (dl, listOf vl.toArray cl) :: (L + 1 + 1 + 1 + 1 + 1 + 1 + 1 + 1, c7) :: rest) := N'
  k_steps
  rename Fr _ _ _ _ => F'
  rename News _ _ _ _ => N'
  refine k _ _ _ _ a vs' _ ss' ‹_› q1 q2 q3 ⟨_, F', news_sub N' (fm_c (.head _) (fun q hq => .tail _ (.tail _ hq)))⟩ fun p hp => ?_
  rcases List.mem_cons.mp hp with rfl | hp
  · exact Ne.symm n0
  · exact na p (.tail _ (.tail _ hp))
end

theorem rs_44_1 {M : Model} {A : Around} {Q : Value → Shared → Prop} {E : Value → Shared → Prop} {s : Shared} (h : wpAny M A (call .none [.none]) Q E s) : wpAny M A (call .none [.none]) Q E s := by first | (walk1; fail "") | exact h
section
variable {prog : Program} {w : World} {A : Around} {E : Value → Shared → Prop} {s : Shared}
theorem ints_same {a : Addr} {xs ys : List Value} {ns ms : List Int} (ha : s.heap.IsList a xs.toArray) (hb : s.heap.IsList a ys.toArray) (hi : IntsAre xs ns) (hj : IntsAre ys ms) : ns = ms := by
  obtain ⟨o, e1, _, n, e2⟩ := ha
  obtain ⟨o', e3, _, n', e4⟩ := hb
  rw [e1] at e3; cases e3
  rw [e2] at e4
  have e5 : xs = ys := by
    have := congrArg (fun d => match d with | Data.seq a _ => a.toList | _ => []) e4
    simpa using this
  subst e5
  clear e1 e2 e4
  induction hi generalizing ms with
  | nil => cases hj; rfl
  | cons x t _ ih =>
    cases hj with
    | cons y u r => rw [ih r]
theorem eqAt_ints {a b : Addr} {xs ys : List Value} {ns ms : List Int} (ha : s.heap.IsList a xs.toArray) (hb : s.heap.IsList b ys.toArray) (hi : IntsAre xs ns) (hj : IntsAre ys ms) (hu : A.units + 64 < cLine) : SeqAt.EqAt A s (.ref a) (.ref b) (decide (ns = ms)) := by
  by_cases hab : a = b
  · subst hab
    rw [decide_eq_true (ints_same ha hb hi hj)]
    exact SeqAt.EqAt.same _
  · exact SeqAt.EqAt.of_refs hab fun prog w E Q h => ke_eq_ints ha hb hi hj hu h
theorem in_two {l a b c : Addr} {xs ys zs : List Value} {ns ms qs : List Int} {Q : Value → Shared → Prop} (hl : s.heap.IsList l #[.ref a, .ref b]) (ha : s.heap.IsList a xs.toArray) (hb : s.heap.IsList b ys.toArray) (hc : s.heap.IsList c zs.toArray) (hi : IntsAre xs ns) (hj : IntsAre ys ms) (hk : IntsAre zs qs) (hu : A.units + 1 + 64 < cLine)
    (h : Q (.bool (decide (ns = qs ∨ ms = qs))) s) : wpAny (model prog w) A (compareOp .In (.ref c) (.ref l)) Q E s := by
  by_cases hab : a = b
  · subst hab
    have e := ints_same ha hb hi hj
    subst e
    refine SeqAt.in_listAt (fun _ => decide (ns = qs)) hl (fun y hy => ?_) (by simpa using h)
    simp only [List.mem_toArray, List.mem_cons, List.not_mem_nil, or_false, or_self] at hy
    subst hy
    exact eqAt_ints ha hc hi hk hu
  · refine SeqAt.in_listAt (fun v => if v = .ref a then decide (ns = qs) else decide (ms = qs)) hl (fun y hy => ?_) (by
      have e : (#[Value.ref a, .ref b] : Array Value).any (fun v => if v = .ref a then decide (ns = qs) else decide (ms = qs)) = decide (ns = qs ∨ ms = qs) := by
        have hne : (Value.ref b = .ref a) = False := eq_false fun e => hab (by injection e with e; exact e.symm)
        simp [hne]
      rw [e]; exact h)
    simp only [List.mem_toArray, List.mem_cons, List.not_mem_nil, or_false] at hy
    rcases hy with rfl | rfl
    · rw [if_pos rfl]; exact eqAt_ints ha hc hi hk hu
    · rw [if_neg (fun e => hab (by injection e with e; exact e.symm))]; exact eqAt_ints hb hc hj hk hu
end
theorem rs_44_2 {M : Model} {A : Around} {Q : Value → Shared → Prop} {E : Value → Shared → Prop} {s : Shared} (h : wpAny M A (call .none [.none]) Q E s) : wpAny M A (call .none [.none]) Q E s := by first | (walk1; fail "") | exact h
section
variable {w : World} {loose : List Str} {mean : ExcName → Option Value} {mg mb : Str → Option Value} {h₀ : Heap} {L fa : Addr} {cd : Value} {xh : Heap} {xg : Array GenState} {xd : Drawn} {xt : Nat} {xo : OsState} {m : Str → Option Value} {Q : Flow → Shared → Prop} {E : Value → Shared → Prop}
theorem st_22 {la a0 a1 a2 dl lw : Addr} {c2 c7 : Obj} {us0 us1 us2 vl vw : List Value} {cl cw : Nat} {A0 A1 A2 W : List Int} {ls : List Str} {ww dv : Value} {rest : List (Addr × Obj)} (G : LG w loose mean mg mb h₀) (i0 : IntsAre us0 A0) (i1 : IntsAre us1 A1) (i2 : IntsAre us2 A2) (f0 : Five A0) (f1 : Five A1) (f2 : Five A2)
    (iw : IntsAre vw W) (hW : W.length = 4 ∧ ∀ n ∈ W, 0 ≤ n ∧ n < 68) (hZ : ∀ z ∈ sharedV A0 A2, z.length = 4 ∧ ∀ n ∈ z, 0 ≤ n ∧ n < 68) (hZl : (sharedV A0 A2).length ≤ 5) (hl : StrsAre vl ls) (hc2 : c2.data = .cell (some (.ref la))) (hc7 : c7.data = .cell (some (.ref dl)))
    (S : At h₀ L xh [(Str.ofString "words", ww), (Str.ofString "decks", dv), (Str.ofString "word", .ref lw)] ((la, listOf #[.ref a0, .ref a1, .ref a2] 3) :: (a0, listOf us0.toArray 0) :: (a1, listOf us1.toArray 0) :: (a2, listOf us2.toArray 0) :: (dl, listOf vl.toArray cl) :: (lw, listOf vw.toArray cw) :: (L + 1 + 1 + 1, c2) :: (L + 1 + 1 + 1 + 1 + 1 + 1 + 1 + 1, c7) :: rest))
    (k : ∀ h tk db vb cb B, StrsAre vb B → B = (if A0 = A2 ∨ A1 = A2 then ls else if A0 = A1 then (sharedV A0 A2).map textOf else [textOf W]) → At h₀ L h [(Str.ofString "both", .ref db), (Str.ofString "words", ww), (Str.ofString "decks", dv), (Str.ofString "word", .ref lw)] ((db, listOf vb.toArray cb) :: (la, listOf #[.ref a0, .ref a1, .ref a2] 3) :: (a0, listOf us0.toArray 0) :: (a1, listOf us1.toArray 0) :: (a2, listOf us2.toArray 0) :: (dl, listOf vl.toArray cl) :: (lw, listOf vw.toArray cw) :: (L + 1 + 1 + 1, c2) :: (L + 1 + 1 + 1 + 1 + 1 + 1 + 1 + 1, c7) :: rest) →
      (db = dl ∨ ∀ p ∈ (la, listOf #[.ref a0, .ref a1, .ref a2] 3) :: (a0, listOf us0.toArray 0) :: (a1, listOf us1.toArray 0) :: (a2, listOf us2.toArray 0) :: (dl, listOf vl.toArray cl) :: (lw, listOf vw.toArray cw) :: (L + 1 + 1 + 1, c2) :: (L + 1 + 1 + 1 + 1 + 1 + 1 + 1 + 1, c7) :: rest, p.1 ≠ db) → Q .next ⟨h, xg, xd, tk, xo⟩) :
    wpAny (LM w) (LA L fa cd) (exec (lawSt 22) (lawEnv L fa cd)) Q E ⟨xh, xg, xd, xt, xo⟩ := by
  have K0 := G.K0
  have KX := G.KX
  have T := G.T
  refine At.use S ?_
  clear S
  intro m₀ mq F N
  conv in lawSt 22 => whnf
  have mk1 := mark 21
  have mk2 := mark 22
  k_steps
  delta Stop
  clear mk1
  rename Fr _ _ _ _ => F'
  rename News _ _ _ _ => N'
  refine in_two (News.isList N' (.head _)) (News.isList N' (.tail _ (.tail _ (.head _)))) (News.isList N' (.tail _ (.tail _ (.tail _ (.head _))))) (News.isList N' (.tail _ (.tail _ (.tail _ (.tail _ (.head _)))))) i0 i1 i2 (by show (LA 0 0 .none).units + 1 + 64 < cLine; decide) ?_
  by_cases hc : A0 = A2 ∨ A1 = A2
  · rw [decide_eq_true hc]
    k_steps
    rename Fr _ _ _ _ => F'
    rename News _ _ _ _ => N'
    exact k _ _ dl vl cl ls hl (if_pos hc).symm (At.mk F' (news_sub N' (fm_c (.tail _ (.tail _ (.tail _ (.tail _ (.tail _ (.head _)))))) (fun q hq => .tail _ hq))) ⟨rfl, rfl, rfl, rfl, trivial⟩ fun q hq => hq) (.inl rfl)
  · rw [decide_eq_false hc]
    k_steps
    delta Stop
    rename Fr _ _ _ _ => F'
    rename News _ _ _ _ => N'
    refine ke_eq_ints (News.isList N' (.tail _ (.tail _ (.head _)))) (News.isList N' (.tail _ (.tail _ (.tail _ (.head _))))) i0 i1 (by show (LA 0 0 .none).units + 64 < cLine; decide) ?_
    by_cases he : A0 = A1
    · rw [decide_eq_true he]
      k_steps
      delta Stop
      k_dflt (refine LCg.Assign_ListComp_U (F₀ := by k_asm) (by rfl) (by with_unfolding_all rfl) (by with_unfolding_all rfl) (by decide) (by rfl) (by decide) (by rfl) (by rfl) (by rfl) ?_)
      clear mk2
      k_steps
      delta Stop
      rename Fr _ _ _ _ => F'
      rename News _ _ _ _ => N'
      refine call_shared G F' N' (News.isList N' (.tail _ (.tail _ (.head _)))) (News.isList N' (.tail _ (.tail _ (.tail _ (.tail _ (.head _)))))) i0 i2 f0.1 f2.1 ?_
      intro r c cells h tk F N hne hI
      k_steps
      delta Stop
      have hcl := hI.len
      refine LCg.CompSrc.ledger rfl F N (.head _) (by simp [sizeLine]; lia) ?_
      intro g
      refine comp_Jn (fun i vs => StrsAre vs (((sharedV A0 A2).take i).map textOf)) .nil ?_ ?_
      · clear F' N'
        rintro i vs hi hvs v I oI C oC D m₂ h tk E' hv hC' hx F N off ne
        obtain ⟨a, us, n, z, e, hm, hI', hz, ht⟩ := hI.turn (i := i) (v := v) (by simpa using hv)
        subst e
        have N2 := N.isList (.tail _ (.tail _ (.tail _ (.tail _ (List.mem_append_left _ hm)))))
        k_steps
        delta Stop
        refine call_CV (text_spec (vs := us) (ns := z)) G ‹_› ‹_› ⟨News.isList ‹_› (.tail _ (.tail _ (.tail _ (.tail _ (List.mem_append_left _ hm))))), hI', (hZ z hz).2, by have := (hZ z hz).1; lia⟩ (by decide) ?_
        intro t0 h tk F N
        k_steps
        refine LCg.CompEnd.intro F N _ (fun p hp => hp) off (Or.inr ⟨_, .head _, rfl, _, rfl⟩) ⟨rfl, ?_⟩
        rw [ht, List.map_append]
        exact strsAre_snoc hvs
      · rintro vs hvs
        delta LCg.FinA
        intro D2 h2 tk2 F2 N2 off2
        have o2 := off1_mem off2
        rw [List.take_of_length_le (by simp; lia)] at hvs
        k_steps
        rename Fr _ _ _ _ => F'
        rename News _ _ _ _ => N'
        refine k _ _ D2 vs _ _ hvs ?_ (At.mk F' (news_sub N' (fm_c (.head _) (fun q hq => .tail _ (.tail _ (List.mem_append_right _ (.tail _ hq)))))) ⟨rfl, rfl, rfl, rfl, trivial⟩ fun q hq => hq) (.inr fun p hp => o2 p (.tail _ (List.mem_append_right _ (.tail _ hp))))
        rw [if_neg hc, if_pos he]
    · rw [decide_eq_false he]
      k_steps
      delta Stop
      refine call_CV (text_spec (vs := vw) (ns := W)) G ‹_› ‹_› ⟨News.isList ‹_› (.tail _ (.tail _ (.tail _ (.tail _ (.tail _ (.tail _ (.head _))))))), iw, hW.2, by lia⟩ (by decide) ?_
      intro t0 h tk F N
      k_steps
      rename Fr _ _ _ _ => F'
      rename News _ _ _ _ => N'
      refine k _ _ _ _ _ [textOf W] (.cons _ _ .nil) ?_ (At.mk F' (news_sub N' (fm_c (.head _) (fun q hq => .tail _ (.tail _ hq)))) ⟨rfl, rfl, rfl, rfl, trivial⟩ fun q hq => hq) (.inr fun p hp => ?_)
      · rw [if_neg hc, if_neg he]
      · rename (_ ∧ _ ∧ _ ∧ _ ∧ _ ∧ _ ∧ _ ∧ _ ∧ _ ∧ AllLt _ rest) => b0
        refine allLt_ne ?_ p hp
        exact b0.2
end

theorem rs_45_1 {M : Model} {A : Around} {Q : Value → Shared → Prop} {E : Value → Shared → Prop} {s : Shared} (h : wpAny M A (call .none [.none]) Q E s) : wpAny M A (call .none [.none]) Q E s := by first | (walk1; fail "") | exact h
section
variable {w : World} {loose : List Str} {mean : ExcName → Option Value} {mg mb : Str → Option Value} {h₀ : Heap} {L fa : Addr} {cd : Value} {xh : Heap} {xg : Array GenState} {xd : Drawn} {xt : Nat} {xo : OsState} {m : Str → Option Value} {Q : Flow → Shared → Prop} {E : Value → Shared → Prop}
theorem st23_told {ld e0 e1 e2 dl : Addr} {c6 c7 : Obj} {vl v2 : List Value} {cl n2 : Nat} {S0 S2 : List Str} {bv ww wv : Value} {rest : List (Addr × Obj)} (G : LG w loose mean mg mb h₀) (h0 : StrsAre vl S0) (h2 : StrsAre v2 S2) (l0 : S0.length ≤ 16) (l1 : S2.length ≤ 16) (hc6 : ∃ v, c6.data = .cell v) (hc7 : c7.data = .cell (some (.ref dl)))
    (S : At h₀ L xh [(Str.ofString "both", bv), (Str.ofString "words", ww), (Str.ofString "decks", .ref ld), (Str.ofString "word", wv)] ((ld, listOf #[.ref e0, .ref e1, .ref e2] 3) :: (dl, listOf vl.toArray cl) :: (e2, listOf v2.toArray n2) :: (L + 1 + 1 + 1 + 1 + 1 + 1 + 1 + 1, c7) :: (L + 1 + 1 + 1 + 1 + 1 + 1 + 1, c6) :: rest))
    (hne : ∀ p ∈ (ld, listOf #[.ref e0, .ref e1, .ref e2] 3) :: (dl, listOf vl.toArray cl) :: (e2, listOf v2.toArray n2) :: (L + 1 + 1 + 1 + 1 + 1 + 1 + 1 + 1, c7) :: rest, p.1 ≠ L + 1 + 1 + 1 + 1 + 1 + 1 + 1)
    (k : ∀ h tk c6' r lm lu vm vu cm cu, c6'.data = .cell (some (.ref r)) → StrsAre vm (sldV S0 S2).1 → StrsAre vu (sldV S0 S2).2 → At h₀ L h [(Str.ofString "both", bv), (Str.ofString "words", ww), (Str.ofString "decks", .ref ld), (Str.ofString "word", wv)] ((r, pairObj lm lu) :: (lm, listOf vm.toArray cm) :: (lu, listOf vu.toArray cu) :: (L + 1 + 1 + 1 + 1 + 1 + 1 + 1, c6') :: (ld, listOf #[.ref e0, .ref e1, .ref e2] 3) :: (dl, listOf vl.toArray cl) :: (e2, listOf v2.toArray n2) :: (L + 1 + 1 + 1 + 1 + 1 + 1 + 1 + 1, c7) :: rest) → Q .next ⟨h, xg, xd, tk, xo⟩) :
    wpAny (LM w) (LA L fa cd) (exec (lawSt 23) (lawEnv L fa cd)) Q E ⟨xh, xg, xd, xt, xo⟩ := by
  have K0 := G.K0
  have KX := G.KX
  have T := G.T
  refine At.use S ?_
  clear S
  intro m₀ mq F N
  obtain ⟨vc, hc6⟩ := hc6
  conv in lawSt 23 => whnf
  k_steps
  all_goals (delta Stop)
  refine call_sld G F N (by is_list) (by is_list) h0 h2 l0 l1 ?_
  intro r lm lu vm vu cm cu h tk F N hN hm hu
  have n0 : ∀ p ∈ rest, p.1 ≠ L + 1 + 1 + 1 + 1 + 1 + 1 + 1 := fun p hp => hne p (.tail _ (.tail _ (.tail _ (.tail _ hp))))
  have n1 : @Ne Nat ld (L + 1 + 1 + 1 + 1 + 1 + 1 + 1) := hne _ (.head _)
  have n2 : @Ne Nat dl (L + 1 + 1 + 1 + 1 + 1 + 1 + 1) := hne _ (.tail _ (.head _))
  have n3 : @Ne Nat e2 (L + 1 + 1 + 1 + 1 + 1 + 1 + 1) := hne _ (.tail _ (.tail _ (.head _)))
  have n7 : @Ne Nat (L + 1 + 1 + 1 + 1 + 1 + 1 + 1 + 1) (L + 1 + 1 + 1 + 1 + 1 + 1 + 1) := hne _ (.tail _ (.tail _ (.tail _ (.head _))))
  have hc := hN _ (.tail _ (.tail _ (.tail _ (.tail _ (.head _)))))
  have n4 : @Ne Nat r (L + 1 + 1 + 1 + 1 + 1 + 1 + 1) := Ne.symm hc.1
  have n5 : @Ne Nat lm (L + 1 + 1 + 1 + 1 + 1 + 1 + 1) := Ne.symm hc.2.1
  have n6 : @Ne Nat lu (L + 1 + 1 + 1 + 1 + 1 + 1 + 1) := Ne.symm hc.2.2
  clear hne
  k_steps
  rename Fr _ _ _ _ => F'
  rename News _ _ _ _ => N'
  refine k _ _ _ r lm lu vm vu cm cu ‹_› hm hu ⟨_, F', news_sub N' (fm_c (.head _) (fm_c (.tail _ (.head _)) (fm_c (.tail _ (.tail _ (.head _))) (fm_c (mem_mid [_, _, _, _, _, _, _] (.head _)) (fun q hq => .tail _ (.tail _ (.tail _ (mem_skip [_, _, _, _] hq))))))))⟩
theorem st24_check {ld e0 e1 e2 r lm lu lb dl : Addr} {c6 c7 : Obj} {vl v2 vm vu vb : List Value} {cl n2 cb cm cu : Nat} {S0 S2 SS M U : List Str} {ww wv : Value} {rest : List (Addr × Obj)} (G : LG w loose mean mg mb h₀) (h0 : StrsAre vl S0) (h2 : StrsAre v2 S2) (hs : StrsAre vb SS) (hm : StrsAre vm M) (hu : StrsAre vu U)
    (l0 : S0.length ≤ 16) (l1 : S2.length ≤ 16) (p0 : 0 < S0.length) (p1 : 0 < S2.length) (l2 : SS.length ≤ 16) (eM : M = aloneV S0 S2 SS S0.length) (eU : U = aloneV S2 S0 SS S2.length) (hc6 : c6.data = .cell (some (.ref r))) (hc7 : c7.data = .cell (some (.ref dl)))
    (S : At h₀ L xh [(Str.ofString "both", .ref lb), (Str.ofString "words", ww), (Str.ofString "decks", .ref ld), (Str.ofString "word", wv)] ((lb, listOf vb.toArray cb) :: (r, pairObj lm lu) :: (lm, listOf vm.toArray cm) :: (lu, listOf vu.toArray cu) :: (L + 1 + 1 + 1 + 1 + 1 + 1 + 1, c6) :: (ld, listOf #[.ref e0, .ref e1, .ref e2] 3) :: (dl, listOf vl.toArray cl) :: (e2, listOf v2.toArray n2) :: (L + 1 + 1 + 1 + 1 + 1 + 1 + 1 + 1, c7) :: rest))
    (k : ∀ h tk, At h₀ L h [(Str.ofString "words", ww)] rest → Q .next ⟨h, xg, xd, tk, xo⟩) :
    wpAny (LM w) (LA L fa cd) (exec (lawSt 24) (lawEnv L fa cd)) Q E ⟨xh, xg, xd, xt, xo⟩ := by
  have K0 := G.K0
  have KX := G.KX
  have T := G.T
  refine At.use S ?_
  clear S
  intro m₀ mq F N
  conv in lawSt 24 => whnf
  k_steps
  all_goals (delta Stop)
  refine call_alone G F N (by is_list) (by is_list) (by is_list) h0 h2 hs l0 ⟨l1, p1⟩ l2 ?_
  intro r1 vr1 cr1 h tk F N hN1 hr1
  k_steps
  all_goals (delta Stop)
  refine call_alone G ‹_› ‹_› (by is_list) (by is_list) (by is_list) h2 h0 hs l1 ⟨l0, p0⟩ l2 ?_
  intro r2 vr2 cr2 h tk F N hN2 hr2
  rw [← eM] at hr1
  rw [← eU] at hr2
  k_steps
  all_goals (delta Stop)
  rename Fr _ _ _ _ => F'
  rename News _ _ _ _ => N'
  refine ne_told N' (.tail _ (.tail _ (.tail _ (.tail _ (.head _))))) (.head _) (.tail _ (.tail _ (.tail _ (.tail _ (.tail _ (.head _)))))) (.tail _ (.tail _ (.tail _ (.tail _ (.tail _ (.tail _ (.head _))))))) (.tail _ (.tail _ (.head _))) (.tail _ (.head _)) hm hr1 hu hr2 la_in1 ?_
  k_steps
  refine k _ _ (At.mk F' N' ⟨rfl, trivial⟩ fun q hq => List.mem_append_right [_, _, _, _, _, _, _, _, _, _, _, _] hq)
end

theorem read4 {z0 z1 z2 z3 : Int} (h : ∀ n ∈ [z0, z1, z2, z3], 0 ≤ n ∧ n < 68) (hlt : ∀ n ∈ [z0, z1, z2, z3], n < 64) : A2Good true (codesI (textOf [z0, z1, z2, z3])) ∧ byteArr (a2bF (codesI (textOf [z0, z1, z2, z3]))).1 = octB z0 z1 z2 z3 ∧ Word4 z0 z1 z2 z3 := by
  have W : Word4 z0 z1 z2 z3 := ⟨(h _ mem0).1, hlt _ mem0, (h _ mem1).1, hlt _ mem1, (h _ mem2).1, hlt _ mem2, (h _ mem3).1, hlt _ mem3⟩
  have e : [z0, z1, z2, z3].filter (fun n => decide (n < 64)) = [z0, z1, z2, z3] := List.filter_eq_self.mpr fun n hn => decide_eq_true (hlt n hn)
  refine ⟨(good_figs h).mpr ⟨fun _ => hlt, by rw [e, quad' W]⟩, ?_, W⟩
  rw [a2b_figs h, e, quad' W]
  rfl
theorem CellsI.obj {cells : List (Addr × Obj)} {Z : List (List Int)} (hC : CellsI cells Z) : ∀ {p : Addr × Obj}, p ∈ cells → ∃ us n z, p.2 = listOf us.toArray n ∧ IntsAre us z ∧ z ∈ Z := by
  induction hC with
  | nil => intro p h; cases h
  | @cons a us n z cs zss h r ih =>
    intro p hp
    rcases List.mem_cons.mp hp with rfl | hp
    · exact ⟨us, n, z, rfl, h, .head _⟩
    · obtain ⟨us', n', z', e, hi, hz⟩ := ih hp
      exact ⟨us', n', z', e, hi, .tail _ hz⟩
theorem rs_47_1 {M : Model} {A : Around} {Q : Value → Shared → Prop} {E : Value → Shared → Prop} {s : Shared} (h : wpAny M A (call .none [.none]) Q E s) : wpAny M A (call .none [.none]) Q E s := by first | (walk1; fail "") | exact h
section
variable {w : World} {loose : List Str} {mean : ExcName → Option Value} {mg mb : Str → Option Value} {h₀ : Heap} {L fa : Addr} {cd : Value} {xh : Heap} {xg : Array GenState} {xd : Drawn} {xt : Nat} {xo : OsState} {m : Str → Option Value} {Q : Flow → Shared → Prop} {E : Value → Shared → Prop}
theorem st_25 {r : Addr} {c : Nat} {cells : List (Addr × Obj)} {Z : List (List Int)} (G : LG w loose mean mg mb h₀) (hE : PassesOwn (LM w) (LA L fa cd) (lawEnv L fa cd) E) (hC : CellsI cells Z) (hZ : ∀ z ∈ Z, z.length = 4 ∧ ∀ n ∈ z, 0 ≤ n ∧ n < 68)
    (S : At h₀ L xh [(Str.ofString "words", .ref r)] ((r, listOf (cells.map fun p => Value.ref p.1).toArray c) :: cells))
    (k : ∀ h tk m, Fr h₀ L h m → Q .next ⟨h, xg, xd, tk, xo⟩) :
    wpAny (LM w) (LA L fa cd) (exec (lawSt 25) (lawEnv L fa cd)) Q E ⟨xh, xg, xd, xt, xo⟩ := by
  have K0 := G.K0
  have KX := G.KX
  have T := G.T
  refine At.use S ?_
  clear S
  intro m₀ mq F N
  conv in lawSt 25 => whnf
  with_unfolding_all refine' For_invVF F ?k1 ?k2 ?_ (hE := hE)
  case k1 => exact rfl
  case k2 => exact rfl
  k_steps
  delta Stop
  rename Fr _ _ _ _ => F'
  rename News _ _ _ _ => N'
  have hne : ∀ p ∈ cells, p.1 ≠ r := by
    intro p hp e
    obtain ⟨h1, _⟩ := N' p (.tail _ hp)
    obtain ⟨h2, _⟩ := N' _ (.head _)
    rw [e] at h1
    rw [h2] at h1
    have e2 := (Option.some.inj h1).symm
    obtain ⟨us, n, z, e3, hI, hz⟩ := hC.obj hp
    have hz4 := (hZ z hz).1
    rw [e3] at e2
    have e4 : us = cells.map fun p => Value.ref p.1 := by
      have := congrArg (fun o : Obj => match o.data with | Data.seq a _ => a.toList | _ => []) e2
      simpa using this
    subst e4
    match cells, hp, hI with
    | q :: cs, _, hI => cases hI
  refine iter_list_T (fun _ _ nx => nx = cells) (News.isList N' (.head _)) rfl F' (news_sub N' fun p hp => .tail _ hp) hne (Ne.symm (N' _ (.head _)).2.1) rfl ?turn ?done
  case turn =>
    rintro i v m₁ nx h tk own hv hoff rfl F₁ N₁
    obtain ⟨a, us, n, z, e, hm, hI, hz, ht⟩ := hC.turn (i := i) (v := v) (by simpa using hv)
    subst e
    have hz4 := hZ z hz
    clear hC hv hZ ht hne N' F'
    obtain ⟨z0, z1, z2, z3, rfl⟩ : ∃ z0 z1 z2 z3, z = [z0, z1, z2, z3] := by
      match z, hz4.1 with
      | [a, b, c, d], _ => exact ⟨a, b, c, d, rfl⟩
    have ha := hz4.2
    obtain ⟨t0, t1, t2, t3, rfl⟩ := ints4 hI
    have hm' : (a, listOf [Value.int z0 t0, .int z1 t1, .int z2 t2, .int z3 t3].toArray n) ∈ nx ++ own := List.mem_append_left _ hm
    k_steps
    delta Stop
    refine call_CV (text_spec (vs := [Value.int z0 t0, .int z1 t1, .int z2 t2, .int z3 t3]) (ns := [z0, z1, z2, z3])) G ‹_› ‹_› ⟨News.isList ‹_› hm', hI, ha, by simp⟩ (by decide) ?_
    intro tt h tk F N
    k_steps
    delta Stop
    refine call_read G F N ⟨textOf_lt ha, by rw [textOf_len]; simp, codes_ne ha⟩ ?_ ?_
    · intro hgood r' t' c' h' tk' F N
      have hlt := ((good_figs (strict := true) ha).mp hgood).1 rfl
      obtain ⟨_, e2, W⟩ := read4 ha hlt
      rw [e2] at N
      have hm2 : (a, listOf [Value.int z0 t0, .int z1 t1, .int z2 t2, .int z3 t3].toArray n) ∈ (r', listOf #[.bool true, .bytes (octB z0 z1 z2 z3) t'] c') :: (nx ++ own) := .tail _ hm'
      k_steps
      · delta Stop
        refine call_CV octets_spec G ‹_› ‹_› ⟨News.isList ‹_› hm2, W.h⟩ (by decide) ?_
        intro tb h tk F N
        k_steps
        delta Stop
        refine ne_TB (by is_list) (by is_list) (by show callerA.units + 3 < cLine; decide) ?_
        k_steps
        · exact absurd ‹(_ != _) = true› (by simp)
        rename Fr _ _ _ _ => F'
        rename News _ _ _ _ => N'
        exact tend nx F' N' rfl (fun p hp => .tail _ (.tail _ (List.mem_append_left _ hp))) (fun p hp => .tail _ (.tail _ (List.mem_append_right _ hp))) rfl
      · rename (_ ∨ _ ∨ _ ∨ _) => a'
        rename (¬ _ < 64) => a3
        exact absurd (hlt _ (by simpa only [List.mem_cons, List.not_mem_nil, or_false] using a')) a3
    · intro hgood h' tk' F N
      k_steps
      · rename (_ ∧ _ ∧ _ ∧ _) => b'
        refine absurd (read4 ha ?_).1 hgood
        have hM := ‹_ < (64 : Int)›
        exact fm_c (Int.lt_of_le_of_lt b'.1 hM) (fm_c (Int.lt_of_le_of_lt b'.2.1 hM) (fm_c (Int.lt_of_le_of_lt b'.2.2.1 hM) (fm_c (Int.lt_of_le_of_lt b'.2.2.2 hM) (List.forall_mem_nil _))))
      · rename Fr _ _ _ _ => F'
        rename News _ _ _ _ => N'
        refine tend nx F' N' rfl (fun p hp => List.mem_append_left _ hp) (fun p hp => List.mem_append_right _ hp) rfl
  case done =>
    rintro m₁ nx h tk rfl F₁ N₁
    exact k _ _ _ F₁
end

theorem sign_inj0 : ∀ x < 68, ∀ y < 68, signC ((x : Nat) : Int) = signC ((y : Nat) : Int) → x = y := by decide +kernel
theorem sign_inj {x y : Int} (hx : 0 ≤ x ∧ x < 68) (hy : 0 ≤ y ∧ y < 68) (h : signC x = signC y) : x = y := by
  have := sign_inj0 x.toNat (by lia) y.toNat (by lia)
  rw [Int.toNat_of_nonneg hx.1, Int.toNat_of_nonneg hy.1] at this
  rw [← Int.toNat_of_nonneg hx.1, this h, Int.toNat_of_nonneg hy.1]
theorem map_sign_inj : ∀ {a b : List Int}, (∀ n ∈ a, 0 ≤ n ∧ n < 68) → (∀ n ∈ b, 0 ≤ n ∧ n < 68) → a.map signC = b.map signC → a = b
  | [], [], _, _, _ => rfl
  | [], _ :: _, _, _, h => by cases h
  | _ :: _, [], _, _, h => by cases h
  | x :: a, y :: b, ha, hb, h => by
    rw [List.map_cons, List.map_cons, List.cons.injEq] at h
    rw [sign_inj (ha x (.head _)) (hb y (.head _)) h.1, map_sign_inj (fun n hn => ha n (.tail _ hn)) (fun n hn => hb n (.tail _ hn)) h.2]
theorem textOf_inj {a b : List Int} (ha : ∀ n ∈ a, 0 ≤ n ∧ n < 68) (hb : ∀ n ∈ b, 0 ≤ n ∧ n < 68) (h : textOf a = textOf b) : a = b := by
  refine map_sign_inj ha hb ?_
  have := congrArg (fun s : Str => s.cps.toList) h
  exact this
theorem del_in {X : List Int} {p : Nat} (hX : Five X) : ∀ n ∈ del X p, 0 ≤ n ∧ n < 68 := fun n hn => by
  rcases List.mem_append.mp hn with hn | hn
  · exact hX.2 n (List.mem_of_mem_take hn)
  · exact hX.2 n (List.mem_of_mem_drop hn)
theorem deck_mem {X : List Int} {S0 : List Str} (D : Deck (X.map signC) S0) (t : Str) : t ∈ S0 ↔ ∃ p < 5, t = textOf (del X p) := by
  rw [D.perm.mem_iff]
  have e : ∀ p, cutS (X.map signC) p = textOf (del X p) := fun p => by
    unfold cutS textOf del
    rw [List.map_append, List.map_take, List.map_drop]
  unfold cutL
  rw [List.mem_map]
  constructor
  · rintro ⟨p, hp, rfl⟩; exact ⟨p, List.mem_range.mp hp, e p⟩
  · rintro ⟨p, hp, rfl⟩; exact ⟨p, List.mem_range.mpr hp, e p⟩
theorem common_mem {X Y : List Int} {S0 S1 : List Str} (fX : Five X) (fY : Five Y) (D0 : Deck (X.map signC) S0) (D1 : Deck (Y.map signC) S1) (t : Str) : t ∈ (sharedV X Y).map textOf ↔ t ∈ S0 ∧ t ∈ S1 := by
  rw [deck_mem D0, deck_mem D1, List.mem_map]
  constructor
  · rintro ⟨z, hz, rfl⟩
    obtain ⟨⟨p, hp, e1⟩, q, hq, e2⟩ := (shared_mem fX.1 fY.1).mp hz
    exact ⟨⟨p, hp, by rw [e1]⟩, q, hq, by rw [e2]⟩
  · rintro ⟨⟨p, hp, e1⟩, q, hq, e2⟩
    have e := textOf_inj (del_in fX) (del_in fY) (e1.symm.trans e2)
    exact ⟨del X p, (shared_mem fX.1 fY.1).mpr ⟨⟨p, hp, rfl⟩, q, hq, e⟩, e1.symm⟩
theorem contains_iff {a b : List Str} {x : Str} (h : x ∈ a ↔ x ∈ b) : a.contains x = b.contains x := by
  rw [Bool.eq_iff_iff, List.contains_iff_mem, List.contains_iff_mem, h]
theorem ne_nil_of {S : List Str} {xs : List Nat} (D : Deck xs S) : S ≠ [] := fun e => by
  have := D.len
  rw [e] at this; cases this
theorem pl_told {W X Y : List Int} {S0 S1 : List Str} (hW : W.length = 4 ∧ ∀ n ∈ W, 0 ≤ n ∧ n < 68) (hX : Arr W X) (hY : Arr W Y) (D0 : Deck (X.map signC) S0) (D1 : Deck (Y.map signC) S1) :
    (sldV S0 S1).1 = aloneV S0 S1 ((sharedV X Y).map textOf) S0.length ∧ (sldV S0 S1).2 = aloneV S1 S0 ((sharedV X Y).map textOf) S1.length := by
  have hc := common_mem (five_of hW hX) (five_of hW hY) D0 D1
  exact ⟨sld_alone (srt_of D0.sorted) (srt_of D1.sorted) (ne_nil_of D1) fun x hx => contains_iff ((hc x).trans ⟨fun h => h.2, fun h => ⟨hx, h⟩⟩),
    sld_alone2 (srt_of D0.sorted) (srt_of D1.sorted) (ne_nil_of D0) fun x hx => contains_iff ((hc x).trans ⟨fun h => h.1, fun h => ⟨h, hx⟩⟩)⟩
theorem ed_zero {u v : List Nat} (hl : u.length = v.length) (h : ed u v ≤ 0) : u = v := Classical.byContradiction fun hne => by
  have h1 := ed_ge_scs u v hl
  have h2 := scs_pos u v hl hne
  lia
theorem one_del : ∀ u v : List Nat, v.length = u.length + 1 → ed u v ≤ 2 → ∃ q < v.length, u = del v q
  | [], [y], _, _ => ⟨0, by simp, rfl⟩
  | [], [], h, _ => by cases h
  | [], _ :: _ :: _, h, _ => by simp at h
  | x :: u, [], h, _ => by cases h
  | x :: u, y :: v, hl, h => by
    simp only [List.length_cons, Nat.add_right_cancel_iff] at hl
    have h1 := (ed_len u (y :: v)).2
    have h2 := (ed_len u v).2
    have h3 := sc_in x y
    simp only [List.length_cons] at h1
    rw [ed_cons] at h
    by_cases hb : ed (x :: u) v ≤ 0
    · have := ed_zero (by simp [hl]) hb
      exact ⟨0, by simp, by simp [del, this]⟩
    · have hA : 0 < ed u (y :: v) ∧ 2 ≤ ed u v := by
        rw [hl] at h1 h2
        clear hb h h3
        lia
      have hcs : ed u v + sc x y ≤ 2 := Classical.byContradiction fun hn => absurd h (Int.not_le.mpr (Int.lt_min.mpr ⟨Int.add_lt_add_right (Int.lt_min.mpr ⟨hA.1, Int.not_le.mp hb⟩) 2, Int.not_le.mp hn⟩))
      have hc : ed u v ≤ 2 ∧ sc x y = 0 := by
        have h4 := hA.2
        have h5 := h3.1
        clear h h1 h2 h3 hb hA
        lia
      have hxy : x = y := Classical.byContradiction fun hne => by
        have := sc_pos hne
        lia
      subst hxy
      obtain ⟨q, hq, e⟩ := one_del u v hl hc.1
      refine ⟨q + 1, by simp only [List.length_cons]; lia, ?_⟩
      rw [e]
      simp [del]
theorem ed_del {v : List Nat} {q : Nat} (hq : q < v.length) : ed (del v q) v ≤ 2 := by
  have h := ed_ins (v[q]) (v.drop (q + 1)) (v.take q) (del v q)
  have e : v.take q ++ v[q] :: v.drop (q + 1) = v := by
    rw [← List.drop_eq_getElem_cons hq, List.take_append_drop]
  rw [e] at h
  have h2 := ed_self (del v q)
  rw [ed_comm]
  have h3 : ed (v.take q ++ v.drop (q + 1)) (del v q) = 0 := h2
  lia
theorem left_mem {S0 S1 : List Str} (h0 : Srt S0) (h1 : Srt S1) (t : Str) : t ∈ (S0.filter fun t => !(sldV S0 S1).1.contains t) ↔ t ∈ S0 ∧ t ∈ S1 := by
  rw [List.mem_filter, Bool.not_eq_true']
  refine and_congr_right fun ht => ?_
  have := sld_mem h0 h1 t
  constructor
  · intro h
    refine Classical.byContradiction fun hn => ?_
    have := List.contains_iff_mem.mpr (this.mpr ⟨ht, hn⟩)
    rw [h] at this; cases this
  · intro h
    cases hc : (sldV S0 S1).1.contains t with
    | false => rfl
    | true => exact absurd h (this.mp (List.contains_iff_mem.mp hc)).2
theorem pl_far {W X Y : List Int} {S0 S1 : List Str} (hW : W.length = 4 ∧ ∀ n ∈ W, 0 ≤ n ∧ n < 68) (hX : Arr W X) (hY : Arr W Y) (D0 : Deck (X.map signC) S0) (D1 : Deck (Y.map signC) S1) :
    S0.map (farF (Y.map signC)) = S0.map (twoF (S0.filter fun t => !(sldV S0 S1).1.contains t)) := by
  have fX := five_of hW hX
  have fY := five_of hW hY
  refine List.map_congr_left fun t ht => ?_
  have hleft := left_mem (srt_of D0.sorted) (srt_of D1.sorted) t
  obtain ⟨p, hp, rfl⟩ := (deck_mem D0 t).mp ht
  have e1 : (textOf (del X p)).cps.toList = (del X p).map signC := rfl
  have l1 : ((del X p).map signC).length = 4 := by
    have := del_len (X := X) (p := p) (by rw [fX.1]; exact hp)
    rw [fX.1] at this
    rw [List.length_map]; lia
  have l2 : (Y.map signC).length = 5 := by rw [List.length_map, fY.1]
  have hge := (ed_len ((del X p).map signC) (Y.map signC)).2
  rw [l1, l2] at hge
  unfold farF twoF
  rw [e1]
  by_cases hm : textOf (del X p) ∈ S1
  · rw [if_pos (List.contains_iff_mem.mpr (hleft.mpr ⟨ht, hm⟩))]
    obtain ⟨q, hq, e⟩ := (deck_mem D1 _).mp hm
    have e2 := textOf_inj (del_in fX) (del_in fY) e
    have h2 : ed ((del X p).map signC) (Y.map signC) ≤ 2 := by
      have := ed_del (v := Y.map signC) (q := q) (by lia)
      have e3 : (del X p).map signC = del (Y.map signC) q := by
        rw [e2]; unfold del; rw [List.map_append, List.map_take, List.map_drop]
      rw [e3]; exact this
    rw [levV_le (by decide) h2]; lia
  · rw [if_neg (fun h => hm (hleft.mp (List.contains_iff_mem.mp h)).2)]
    have h2 : 2 < ed ((del X p).map signC) (Y.map signC) := by
      refine Int.lt_of_not_ge fun h => hm ?_
      obtain ⟨q, hq, e⟩ := one_del _ _ (by lia) h
      refine (deck_mem D1 _).mpr ⟨q, by lia, ?_⟩
      have e3 : (del X p).map signC = (del Y q).map signC := by
        rw [e]; unfold del; rw [List.map_append, List.map_take, List.map_drop]
      unfold textOf
      rw [e3]
    have := levV_gt (mc := 2) (by decide) (fun e => by rw [e] at l1; lia) h2
    lia
theorem sup_of {X W z : List Int} {p q d : Nat} (hX : X.length = 5) (hp : p < 5) (hq : q < 5) (hW : W = del X p) (hz : z = del X q) (hd : W.getD d 0 ≠ z.getD d 0) :
    (∀ i, X.getD i 0 = if i ≤ d then z.getD i 0 else W.getD (i - 1) 0) ∨ (∀ i, X.getD i 0 = if i ≤ d then W.getD i 0 else z.getD (i - 1) 0) := by
  have gW : ∀ i, W.getD i 0 = if i < p then X.getD i 0 else X.getD (i + 1) 0 := fun i => by rw [hW, del_getD (by lia)]
  have gz : ∀ i, z.getD i 0 = if i < q then X.getD i 0 else X.getD (i + 1) 0 := fun i => by rw [hz, del_getD (by lia)]
  clear hW hz
  rw [gW, gz] at hd
  by_cases h1 : d < p
  · by_cases h2 : d < q
    · rw [if_pos h1, if_pos h2] at hd; exact absurd rfl hd
    · refine .inr fun i => ?_
      split
      · rw [gW, if_pos (by lia)]
      · rw [gz, if_neg (by lia), show i - 1 + 1 = i by lia]
  · by_cases h2 : d < q
    · refine .inl fun i => ?_
      split
      · rw [gz, if_pos (by lia)]
      · rw [gW, if_neg (by lia), show i - 1 + 1 = i by lia]
    · rw [if_neg h1, if_neg h2] at hd; exact absurd rfl hd
theorem three_tell {X Y Z W z : List Int} (hX : X.length = 5) (hY : Y.length = 5) (hZ : Z.length = 5) (hW : W.length = 4) (hz : z.length = 4) (w1 : ∃ p < 5, W = del X p) (w2 : ∃ p < 5, W = del Y p) (w3 : ∃ p < 5, W = del Z p)
    (z1 : ∃ p < 5, z = del X p) (z2 : ∃ p < 5, z = del Y p) (z3 : ∃ p < 5, z = del Z p) (hne : z ≠ W) : X = Y ∨ X = Z ∨ Y = Z := by
  obtain ⟨d, hd⟩ : ∃ d, W.getD d 0 ≠ z.getD d 0 := Classical.byContradiction fun h => hne (ext_getD (d := 0) (by lia) fun i _ => Classical.byContradiction fun hn => h ⟨i, Ne.symm hn⟩)
  obtain ⟨p1, hp1, w1⟩ := w1
  obtain ⟨p2, hp2, w2⟩ := w2
  obtain ⟨p3, hp3, w3⟩ := w3
  obtain ⟨q1, hq1, z1⟩ := z1
  obtain ⟨q2, hq2, z2⟩ := z2
  obtain ⟨q3, hq3, z3⟩ := z3
  have s1 := sup_of hX hp1 hq1 w1 z1 hd
  have s2 := sup_of hY hp2 hq2 w2 z2 hd
  have s3 := sup_of hZ hp3 hq3 w3 z3 hd
  have eq : ∀ {A B : List Int} {F : Nat → Int}, A.length = 5 → B.length = 5 → (∀ i, A.getD i 0 = F i) → (∀ i, B.getD i 0 = F i) → A = B := fun ha hb h1 h2 =>
    ext_getD (d := 0) (by lia) fun i _ => (h1 i).trans (h2 i).symm
  rcases s1 with s1 | s1 <;> rcases s2 with s2 | s2 <;> rcases s3 with s3 | s3
  · exact .inl (eq hX hY s1 s2)
  · exact .inl (eq hX hY s1 s2)
  · exact .inr (.inl (eq hX hZ s1 s3))
  · exact .inr (.inr (eq hY hZ s2 s3))
  · exact .inr (.inr (eq hY hZ s2 s3))
  · exact .inr (.inl (eq hX hZ s1 s3))
  · exact .inl (eq hX hY s1 s2)
  · exact .inl (eq hX hY s1 s2)
theorem arr_del {W X : List Int} (hW : W.length = 4) (h : Arr W X) : ∃ p < 5, W = del X p := by
  obtain ⟨p, g, hp, _, _, rfl⟩ := h
  refine ⟨p, hp, ?_⟩
  have l : (W.take p).length = p := by rw [List.length_take]; lia
  unfold del
  rw [List.take_left' l, show p + 1 = (W.take p ++ [g]).length by rw [List.length_append, l]; rfl, show W.take p ++ g :: W.drop p = (W.take p ++ [g]) ++ W.drop p by simp, List.drop_left, List.take_append_drop]
theorem pl_both {W X Y Z : List Int} {S0 S1 S2 ls : List Str} (hW : W.length = 4 ∧ ∀ n ∈ W, 0 ≤ n ∧ n < 68) (hX : Arr W X) (hY : Arr W Y) (hZ : Arr W Z) (D0 : Deck (X.map signC) S0) (D1 : Deck (Y.map signC) S1) (D2 : Deck (Z.map signC) S2)
    (hl : ls.Perm (onceS (S0.filter fun t => !(sldV S0 S1).1.contains t))) (hs : sortedS ls = true) {B : List Str} (hB : B = if X = Z ∨ Y = Z then ls else if X = Y then (sharedV X Z).map textOf else [textOf W]) :
    0 < ls.length ∧ B.length ≤ 16 ∧ (sldV ls S2).1 = aloneV ls S2 B ls.length ∧ (sldV ls S2).2 = aloneV S2 ls B S2.length := by
  have fX := five_of hW hX
  have fY := five_of hW hY
  have fZ := five_of hW hZ
  have wX := arr_del hW.1 hX
  have wY := arr_del hW.1 hY
  have wZ := arr_del hW.1 hZ
  have wm : ∀ {A : List Int} {S : List Str}, (∃ p < 5, W = del A p) → Deck (A.map signC) S → textOf W ∈ S := fun ⟨p, hp, e⟩ D => (deck_mem D _).mpr ⟨p, hp, by rw [← e]⟩
  have hm : ∀ t, t ∈ ls ↔ t ∈ S0 ∧ t ∈ S1 := fun t => by
    rw [hl.mem_iff, ← List.contains_iff_mem, onceS_mem, List.contains_iff_mem]
    exact left_mem (srt_of D0.sorted) (srt_of D1.sorted) t
  have hWl : textOf W ∈ ls := (hm _).mpr ⟨wm wX D0, wm wY D1⟩
  have hll : ls.length ≤ 5 := by
    rw [hl.length_eq]
    exact Nat.le_trans (onceS_len _) (Nat.le_trans (List.length_filter_le _ _) (Nat.le_of_eq D0.len))
  have hne : ls ≠ [] := fun e => by rw [e] at hWl; cases hWl
  have key : B.length ≤ 16 ∧ (∀ x ∈ ls, x ∈ B ↔ x ∈ S2) ∧ (∀ x ∈ S2, x ∈ B ↔ x ∈ ls) := by
    by_cases h1 : X = Z ∨ Y = Z
    · rw [if_pos h1] at hB
      subst hB
      refine ⟨by lia, fun x hx => ⟨fun _ => ?_, fun _ => hx⟩, fun x _ => Iff.rfl⟩
      have := (hm x).mp hx
      rcases h1 with h1 | h1
      · subst h1; exact (deck_mem D2 x).mpr ((deck_mem D0 x).mp this.1)
      · subst h1; exact (deck_mem D2 x).mpr ((deck_mem D1 x).mp this.2)
    rw [if_neg h1] at hB
    by_cases h2 : X = Y
    · rw [if_pos h2] at hB
      subst h2
      have hc := common_mem fX fZ D0 D2
      rw [← hB] at hc
      have h01 : ∀ x, x ∈ S0 ↔ x ∈ S1 := fun x => (deck_mem D0 x).trans (deck_mem D1 x).symm
      refine ⟨?_, fun x hx => ?_, fun x hx => ?_⟩
      · rw [hB, List.length_map]
        exact Nat.le_trans (shared_len X Z) (by decide)
      · rw [hc]; exact ⟨fun h => h.2, fun h => ⟨((hm x).mp hx).1, h⟩⟩
      · rw [hc, hm, ← h01]; exact ⟨fun h => ⟨h.1, h.1⟩, fun h => ⟨h.1, hx⟩⟩
    rw [if_neg h2] at hB
    subst hB
    have only : ∀ x, x ∈ S0 → x ∈ S1 → x ∈ S2 → x = textOf W := by
      intro x a0 a1 a2
      obtain ⟨p, hp, rfl⟩ := (deck_mem D0 x).mp a0
      obtain ⟨q, hq, e1⟩ := (deck_mem D1 _).mp a1
      obtain ⟨r, hr, e2⟩ := (deck_mem D2 _).mp a2
      have e1 := textOf_inj (del_in fX) (del_in fY) e1
      have e2 := textOf_inj (del_in fX) (del_in fZ) e2
      refine Classical.byContradiction fun hn => ?_
      have hlen := del_len (X := X) (p := p) (by rw [fX.1]; exact hp)
      rw [fX.1] at hlen
      rcases three_tell fX.1 fY.1 fZ.1 hW.1 (by lia) wX wY wZ ⟨p, hp, rfl⟩ ⟨q, hq, e1⟩ ⟨r, hr, e2⟩ (fun e => hn (by rw [e])) with h | h | h
      · exact h2 h
      · exact h1 (.inl h)
      · exact h1 (.inr h)
    refine ⟨by simp, fun x hx => ?_, fun x hx => ?_⟩
    · rw [List.mem_singleton]
      refine ⟨fun e => by rw [e]; exact wm wZ D2, fun h => ?_⟩
      have := (hm x).mp hx
      exact only x this.1 this.2 h
    · rw [List.mem_singleton]
      refine ⟨fun e => by rw [e]; exact hWl, fun h => ?_⟩
      have := (hm x).mp h
      exact only x this.1 this.2 hx
  refine ⟨List.length_pos_iff.mpr hne, key.1, sld_alone (srt_of hs) (srt_of D2.sorted) (ne_nil_of D2) fun x hx => contains_iff (key.2.1 x hx), sld_alone2 (srt_of hs) (srt_of D2.sorted) hne fun x hx => contains_iff (key.2.2 x hx)⟩

theorem rs_50_1 {M : Model} {A : Around} {Q : Value → Shared → Prop} {E : Value → Shared → Prop} {s : Shared} (h : wpAny M A (call .none [.none]) Q E s) : wpAny M A (call .none [.none]) Q E s := by first | (walk1; fail "") | exact h
section
theorem four_of {ds : List Int} (h : 4 ≤ ds.length) : ∃ d0 d1 d2 d3, ds.take 4 = [d0, d1, d2, d3] := by
  match ds, h with
  | a0 :: a1 :: a2 :: a3 :: r, _ => exact ⟨a0, a1, a2, a3, rfl⟩
theorem lawB_len : lawB.length = 27 := rfl
theorem law_exec {M : Model} {A : Around} {env : Env} {Q : Flow → Shared → Prop} {E : Value → Shared → Prop} {s : Shared} (n : Nat) (hn : n < 27) (h : wpAny M A (exec (lawSt n) env) (fun f s' => match f with | .next => wpAny M A (execs (lawB.drop (n + 1)) env) Q E s' | f => Q f s') E s) :
    wpAny M A (execs (lawB.drop n) env) Q E s := by
  have e : lawB.drop n = lawSt n :: lawB.drop (n + 1) := by
    rw [List.drop_eq_getElem_cons (by rw [lawB_len]; exact hn)]
    congr 1
    unfold lawSt
    rw [List.getD_eq_getElem?_getD, List.getElem?_eq_getElem (by rw [lawB_len]; exact hn)]
    rfl
  rw [e]
  exact wpAny_execs_cons h
theorem arr_of {w0 w1 w2 w3 : Int} (ds : List Int) (k : Nat) : Arr [w0, w1, w2, w3] (arrV w0 w1 w2 w3 ds k) := by
  have h := signF_in (ds.getD (k + 1) 0)
  refine ⟨arrP (ds.getD k 0), signF (ds.getD (k + 1) 0), (arrP_lt _).1, h.1, h.2, ?_⟩
  unfold arrV putIn
  rw [List.append_assoc]; rfl
theorem At.re {h₀ h : Heap} {L : Addr} {ps : List (Str × Value)} {news : List (Addr × Obj)} (S : At h₀ L h ps news) (qs : List (Str × Value)) (nx : List (Addr × Obj)) (hp : ∀ m₀, Hs (kstB m₀ ps) qs) (hn : ∀ p ∈ nx, p ∈ news) : At h₀ L h qs nx := S.sub hp hn
variable {w : World} {loose : List Str} {mean : ExcName → Option Value} {mg mb : Str → Option Value} {h₀ : Heap} {L fa : Addr} {cd : Value} {xh : Heap} {xg : Array GenState} {xd : Drawn} {xt : Nat} {xo : OsState} {m : Str → Option Value} {Q : Flow → Shared → Prop} {E : Value → Shared → Prop}
noncomputable def noCell (o : Obj) : Bool := match o.data with | .cell _ => false | _ => true
theorem At.offs {h₀ h : Heap} {L b : Addr} {c : Obj} {v : Option Value} {ps : List (Str × Value)} {news R : List (Addr × Obj)} (S : At h₀ L h ps news) (hb : (b, c) ∈ news) (hc : c.data = .cell v) (hR : ∀ p ∈ R, p ∈ news) (hd : ∀ p ∈ R, noCell p.2 = true ∨ p.1 ≠ b) : ∀ p ∈ R, p.1 ≠ b := by
  refine At.use S ?_
  clear S
  intro m₀ mq F N
  intro p hp
  rcases hd p hp with h1 | h1
  · intro e
    have h2 := (N p (hR p hp)).1
    rw [e, (N _ hb).1] at h2
    have h3 := Option.some.inj h2
    rw [← h3] at h1
    unfold noCell at h1
    rw [hc] at h1
    cases h1
  · exact h1
end
theorem rs_50_2 {M : Model} {A : Around} {Q : Value → Shared → Prop} {E : Value → Shared → Prop} {s : Shared} (h : wpAny M A (call .none [.none]) Q E s) : wpAny M A (call .none [.none]) Q E s := by first | (walk1; fail "") | exact h
section
variable {w : World} {loose : List Str} {mean : ExcName → Option Value} {mg mb : Str → Option Value} {h₀ : Heap} {L fa : Addr} {cd : Value} {xh : Heap} {xg : Array GenState} {xd : Drawn} {xt : Nat} {xo : OsState} {m : Str → Option Value} {Q : Flow → Shared → Prop} {E : Value → Shared → Prop}
theorem join_a {lsc : Addr} {vsc : List Value} {ns : List Int} {c0 c1 c2 c3 c4 c5 c6 c7 : Obj} (G : LG w loose mean mg mb h₀) (hE : PassesOwn (LM w) (LA L fa cd) (lawEnv L fa cd) E) (hL : h₀.IsList lsc vsc.toArray) (hI : IntsAre vsc ns) (hvl : vsc.toArray.size ≤ sizeLine)
    (F : Fr h₀ L xh m) (N : News h₀ L xh [(L + 1 + 1, c1), (L + 1, c0), (L + 1 + 1 + 1, c2), (L + 1 + 1 + 1 + 1, c3), (L + 1 + 1 + 1 + 1 + 1, c4), (L + 1 + 1 + 1 + 1 + 1 + 1, c5), (L + 1 + 1 + 1 + 1 + 1 + 1 + 1, c6), (L + 1 + 1 + 1 + 1 + 1 + 1 + 1 + 1, c7)]) (d0 : c0.data = .cell (some (.ref lsc))) (d1 : c1.data = .cell none) (d2 : c2.data = .cell none)
    (k : ∀ h tk la lw a0 a1 a2 us0 us1 us2 vw n c2' W A0 A1 A2, c2'.data = .cell (some (.ref la)) → W.length = 4 ∧ (∀ n ∈ W, 0 ≤ n ∧ n < 68) → Arr W A0 → Arr W A1 → Arr W A2 → IntsAre us0 A0 → IntsAre us1 A1 → IntsAre us2 A2 → IntsAre vw W →
      At h₀ L h [(Str.ofString "word", .ref lw)] [(la, listOf #[.ref a0, .ref a1, .ref a2] 3), (a0, listOf us0.toArray 0), (a1, listOf us1.toArray 0), (a2, listOf us2.toArray 0), (L + 1 + 1 + 1, c2'), (L + 1 + 1 + 1 + 1, c3), (lw, listOf vw.toArray n), (L + 1 + 1 + 1 + 1 + 1, c4), (L + 1 + 1 + 1 + 1 + 1 + 1, c5), (L + 1 + 1 + 1 + 1 + 1 + 1 + 1, c6), (L + 1 + 1 + 1 + 1 + 1 + 1 + 1 + 1, c7)] →
      (∀ q ∈ [(L + 1 + 1 + 1 + 1, c3), (L + 1 + 1 + 1 + 1 + 1, c4), (L + 1 + 1 + 1 + 1 + 1 + 1, c5), (L + 1 + 1 + 1 + 1 + 1 + 1 + 1, c6), (L + 1 + 1 + 1 + 1 + 1 + 1 + 1 + 1, c7)], q.1 ≠ la ∧ q.1 ≠ lw ∧ q.1 ≠ a0 ∧ q.1 ≠ a1 ∧ q.1 ≠ a2) →
      wpAny (LM w) (LA L fa cd) (execs (lawB.drop 9) (lawEnv L fa cd)) Q E ⟨h, xg, xd, tk, xo⟩) :
    wpAny (LM w) (LA L fa cd) (execs lawB (lawEnv L fa cd)) Q E ⟨xh, xg, xd, xt, xo⟩ := by
  with_reducible refine st_01 G hL hI hvl F N ?_ d0 d1 fun h tk ld vd S hld hvd => ?_
  · ((repeat ((with_reducible refine fm_c ?_ ?_); (focus ((first | assumption | (apply Ne.symm; assumption) | exact (show @Ne Nat _ _ by lia)))))); first | exact List.forall_mem_nil _ | assumption)
  with_reducible refine st_23 G hE S hld hvd (drawL_len ns 10) fun h tk lw us c S hlw hus => ?_
  have hdl := drawL_len ns 10
  generalize hds : drawL ns 10 = ds at *
  obtain ⟨w0, w1, w2, w3, ew, W⟩ : ∃ w0 w1 w2 w3, (ds.take 4).map figF = [w0, w1, w2, w3] ∧ Word4 w0 w1 w2 w3 := by
    obtain ⟨q0, q1, q2, q3, eq4⟩ := four_of (ds := ds) (by omega)
    rw [eq4]
    have b0 := figF_in q0
    have b1 := figF_in q1
    have b2 := figF_in q2
    have b3 := figF_in q3
    exact ⟨_, _, _, _, rfl, ⟨b0.1, b0.2, b1.1, b1.2, b2.1, b2.2, b3.1, b3.2⟩⟩
  rw [ew] at hus
  obtain ⟨t0, t1, t2, t3, rfl⟩ := ints4 hus
  with_reducible refine st_456 G W S fun h tk tr S => ?_
  refine law_exec 7 (by decide) ?_
  have S' := S.re [(Str.ofString "word", .ref lw), (Str.ofString "row", .bytes (octB w0 w1 w2 w3) tr), (Str.ofString "draws", .ref ld)] ((L + 1 + 1 + 1, c2) :: [(lw, listOf #[.int w0 t0, .int w1 t1, .int w2 t2, .int w3 t3] c), (ld, LCg.lst vd), (L + 1 + 1 + 1 + 1, c3), (L + 1 + 1 + 1 + 1 + 1, c4), (L + 1 + 1 + 1 + 1 + 1 + 1, c5), (L + 1 + 1 + 1 + 1 + 1 + 1 + 1, c6), (L + 1 + 1 + 1 + 1 + 1 + 1 + 1 + 1, c7)]) (fun _ => ⟨rfl, rfl, rfl, trivial⟩) (by ((repeat ((with_reducible refine sub_c ?_ ?_); (focus (((with_reducible first | assumption | exact mem0 | exact mem1 | exact mem2 | exact mem3 | exact mem4 | exact mem5 | exact mem6 | exact mem7 | (refine mem_t ?_; first | exact mem0 | exact mem1 | exact mem2 | exact mem3 | exact mem4 | exact mem5 | exact mem6 | exact mem7 | (refine mem_t ?_; first | exact mem0 | exact mem1 | exact mem2 | exact mem3 | exact mem4 | exact mem5 | exact mem6 | exact mem7)) | (repeat first | assumption | exact List.mem_cons_self | apply List.mem_cons_of_mem | apply List.mem_append_right))))))); first | exact sub_n | assumption | exact sub_d 1 | exact sub_d 2 | exact sub_d 3 | exact sub_d 4 | exact sub_d 5 | exact sub_d 6 | exact sub_d 7 | exact sub_d 8 | exact sub_d 9 | exact sub_d 10 | exact sub_d 11 | exact sub_d 12 | exact sub_d 13 | exact sub_d 14 | exact sub_d 15 | exact sub_d 16 | exact sub_d 17 | exact sub_d 18 | exact sub_d 0 | (intro p hp; ((with_reducible (repeat first | assumption | (apply List.mem_append_left; assumption) | apply List.mem_cons_of_mem | apply List.mem_append_right))))))
  clear S
  have n1 : lw ≠ L + 1 + 1 + 1 := Ne.symm (hlw _ (.tail _ (.head _)))
  have n2 : ld ≠ L + 1 + 1 + 1 := Ne.symm (hld _ (.head _))
  with_reducible refine st_7 (front := []) G d2 S' ?_ fun h tk la c2' hc2 S hla => ?_
  · ((repeat ((with_reducible refine fm_c ?_ ?_); (focus ((first | assumption | (apply Ne.symm; assumption) | exact (show @Ne Nat _ _ by lia)))))); first | exact List.forall_mem_nil _ | assumption)
  refine law_exec 8 (by decide) ?_
  with_reducible refine st_8 G hE W hvd hdl hc2 S hla fun h tk a0 a1 a2 us0 us1 us2 S ha i0 i1 i2 => ?_
  with_reducible refine k _ _ la lw a0 a1 a2 us0 us1 us2 _ c c2' [w0, w1, w2, w3] _ _ _ hc2 ⟨rfl, W.all⟩ (arr_of ds 4) (arr_of ds 6) (arr_of ds 8) i0 i1 i2 hus (S.re _ _ ?_ ?_) fun q hq => ?_
  · exact fun _ => ⟨rfl, trivial⟩
  · ((repeat ((with_reducible refine sub_c ?_ ?_); (focus (((with_reducible first | assumption | exact mem0 | exact mem1 | exact mem2 | exact mem3 | exact mem4 | exact mem5 | exact mem6 | exact mem7 | (refine mem_t ?_; first | exact mem0 | exact mem1 | exact mem2 | exact mem3 | exact mem4 | exact mem5 | exact mem6 | exact mem7 | (refine mem_t ?_; first | exact mem0 | exact mem1 | exact mem2 | exact mem3 | exact mem4 | exact mem5 | exact mem6 | exact mem7)) | (repeat first | assumption | exact List.mem_cons_self | apply List.mem_cons_of_mem | apply List.mem_append_right))))))); first | exact sub_n | assumption | exact sub_d 1 | exact sub_d 2 | exact sub_d 3 | exact sub_d 4 | exact sub_d 5 | exact sub_d 6 | exact sub_d 7 | exact sub_d 8 | exact sub_d 9 | exact sub_d 10 | exact sub_d 11 | exact sub_d 12 | exact sub_d 13 | exact sub_d 14 | exact sub_d 15 | exact sub_d 16 | exact sub_d 17 | exact sub_d 18 | exact sub_d 0 | (intro p hp; ((with_reducible (repeat first | assumption | (apply List.mem_append_left; assumption) | apply List.mem_cons_of_mem | apply List.mem_append_right)))))
  have h1 := ha q hq
  refine ⟨hla q ?_, hlw q ?_, h1⟩
  · exact .tail _ (.tail _ (.tail _ hq))
  · exact .tail _ (.tail _ hq)
end

theorem rs_51_1 {M : Model} {A : Around} {Q : Value → Shared → Prop} {E : Value → Shared → Prop} {s : Shared} (h : wpAny M A (call .none [.none]) Q E s) : wpAny M A (call .none [.none]) Q E s := by first | (walk1; fail "") | exact h
section
variable {w : World} {loose : List Str} {mean : ExcName → Option Value} {mg mb : Str → Option Value} {h₀ : Heap} {L fa : Addr} {cd : Value} {xh : Heap} {xg : Array GenState} {xd : Drawn} {xt : Nat} {xo : OsState} {m : Str → Option Value} {Q : Flow → Shared → Prop} {E : Value → Shared → Prop}
theorem join_b {la lw a0 a1 a2 : Addr} {us0 us1 us2 vw : List Value} {n : Nat} {c2 c3 c4 c5 c6 c7 : Obj} {W A0 A1 A2 : List Int} (G : LG w loose mean mg mb h₀) (hE : PassesOwn (LM w) (LA L fa cd) (lawEnv L fa cd) E) (hc2 : c2.data = .cell (some (.ref la))) (hW : W.length = 4 ∧ (∀ n ∈ W, 0 ≤ n ∧ n < 68)) (r0 : Arr W A0) (r1 : Arr W A1) (r2 : Arr W A2)
    (i0 : IntsAre us0 A0) (i1 : IntsAre us1 A1) (i2 : IntsAre us2 A2) (hc3 : c3.data = .cell none) (hc4 : c4.data = .cell none) (hc5 : c5.data = .cell none) (hc6 : c6.data = .cell none)
    (S : At h₀ L xh [(Str.ofString "word", .ref lw)] [(la, listOf #[.ref a0, .ref a1, .ref a2] 3), (a0, listOf us0.toArray 0), (a1, listOf us1.toArray 0), (a2, listOf us2.toArray 0), (L + 1 + 1 + 1, c2), (L + 1 + 1 + 1 + 1, c3), (lw, listOf vw.toArray n), (L + 1 + 1 + 1 + 1 + 1, c4), (L + 1 + 1 + 1 + 1 + 1 + 1, c5), (L + 1 + 1 + 1 + 1 + 1 + 1 + 1, c6), (L + 1 + 1 + 1 + 1 + 1 + 1 + 1 + 1, c7)])
    (hq : ∀ q ∈ [(L + 1 + 1 + 1 + 1, c3), (L + 1 + 1 + 1 + 1 + 1, c4), (L + 1 + 1 + 1 + 1 + 1 + 1, c5), (L + 1 + 1 + 1 + 1 + 1 + 1 + 1, c6), (L + 1 + 1 + 1 + 1 + 1 + 1 + 1 + 1, c7)], q.1 ≠ la ∧ q.1 ≠ lw ∧ q.1 ≠ a0 ∧ q.1 ≠ a1 ∧ q.1 ≠ a2)
    (k : ∀ h tk ld e0 e1 e2 lt v0 v1 v2 n0 n1 n2 S0 S1 S2 t0 t1 t2 c3' c6' v6', c3'.data = .cell (some (.ref lt)) → c6'.data = .cell v6' → Deck (A0.map signC) S0 → Deck (A1.map signC) S1 → Deck (A2.map signC) S2 → StrsAre v0 S0 → StrsAre v1 S1 → StrsAre v2 S2 →
      At h₀ L h [(Str.ofString "decks", .ref ld), (Str.ofString "word", .ref lw)] [(ld, listOf #[.ref e0, .ref e1, .ref e2] 3), (e0, listOf v0.toArray n0), (e1, listOf v1.toArray n1), (e2, listOf v2.toArray n2), (lt, listOf #[.str ⟨(A0.map signC).toArray⟩ t0, .str ⟨(A1.map signC).toArray⟩ t1, .str ⟨(A2.map signC).toArray⟩ t2] 3), (L + 1 + 1 + 1 + 1, c3'), (L + 1 + 1 + 1 + 1 + 1 + 1 + 1, c6'), (la, listOf #[.ref a0, .ref a1, .ref a2] 3), (a0, listOf us0.toArray 0), (a1, listOf us1.toArray 0), (a2, listOf us2.toArray 0), (L + 1 + 1 + 1, c2), (lw, listOf vw.toArray n), (L + 1 + 1 + 1 + 1 + 1 + 1 + 1 + 1, c7)] → wpAny (LM w) (LA L fa cd) (execs (lawB.drop 12) (lawEnv L fa cd)) Q E ⟨h, xg, xd, tk, xo⟩) :
    wpAny (LM w) (LA L fa cd) (execs (lawB.drop 9) (lawEnv L fa cd)) Q E ⟨xh, xg, xd, xt, xo⟩ := by
  have f0 := five_of hW r0
  have f1 := five_of hW r1
  have f2 := five_of hW r2
  have ⟨g0, b0⟩ := f0
  have ⟨g1, b1⟩ := f1
  have ⟨g2, b2⟩ := f2
  simp only [List.forall_mem_cons, List.not_mem_nil, false_implies, implies_true, and_true] at hq
  obtain ⟨⟨q1, q2, q3, q4, q5⟩, ⟨q6, q7, q8, q9, q10⟩, ⟨q11, q12, q13, q14, q15⟩, ⟨q16, q17, q18, q19, q20⟩, q21, q22, q23, q24, q25⟩ := hq
  refine law_exec 9 (by decide) ?_
  with_reducible refine st_9 (ps := [(Str.ofString "word", .ref lw)]) (a0 := a0) (a1 := a1) (a2 := a2) (rest := [(lw, listOf vw.toArray n), (L + 1 + 1 + 1 + 1 + 1, c4), (L + 1 + 1 + 1 + 1 + 1 + 1, c5), (L + 1 + 1 + 1 + 1 + 1 + 1 + 1, c6), (L + 1 + 1 + 1 + 1 + 1 + 1 + 1 + 1, c7)]) G hc2 hc3 i0 i1 i2 b0 b1 b2 g0 g1 g2 (S.re _ _ ?_ ?_) ?_ fun h tk lt c3' t0 t1 t2 hc3' S hlt => ?_
  · exact fun _ => ⟨rfl, trivial⟩
  · ((repeat ((with_reducible refine sub_c ?_ ?_); (focus (((with_reducible first | assumption | exact mem0 | exact mem1 | exact mem2 | exact mem3 | exact mem4 | exact mem5 | exact mem6 | exact mem7 | (refine mem_t ?_; first | exact mem0 | exact mem1 | exact mem2 | exact mem3 | exact mem4 | exact mem5 | exact mem6 | exact mem7 | (refine mem_t ?_; first | exact mem0 | exact mem1 | exact mem2 | exact mem3 | exact mem4 | exact mem5 | exact mem6 | exact mem7)) | (repeat first | assumption | exact List.mem_cons_self | apply List.mem_cons_of_mem | apply List.mem_append_right))))))); first | exact sub_n | assumption | exact sub_d 1 | exact sub_d 2 | exact sub_d 3 | exact sub_d 4 | exact sub_d 5 | exact sub_d 6 | exact sub_d 7 | exact sub_d 8 | exact sub_d 9 | exact sub_d 10 | exact sub_d 11 | exact sub_d 12 | exact sub_d 13 | exact sub_d 14 | exact sub_d 15 | exact sub_d 16 | exact sub_d 17 | exact sub_d 18 | exact sub_d 0 | (intro p hp; ((with_reducible (repeat first | assumption | (apply List.mem_append_left; assumption) | apply List.mem_cons_of_mem | apply List.mem_append_right)))))
  · ((repeat ((with_reducible refine fm_c ?_ ?_); (focus ((first | assumption | (apply Ne.symm; assumption) | exact (show @Ne Nat _ _ by lia)))))); first | exact List.forall_mem_nil _ | assumption)
  simp only [List.forall_mem_cons, List.not_mem_nil, false_implies, implies_true, and_true] at hlt
  obtain ⟨_, l2, l3, l4, l5⟩ := hlt
  refine law_exec 10 (by decide) ?_
  with_reducible refine st_10 (wv := .ref lw) (a0 := a0) (a1 := a1) (a2 := a2) (t0 := t0) (t1 := t1) (t2 := t2) (rest := [(lw, listOf vw.toArray n), (L + 1 + 1 + 1 + 1 + 1 + 1 + 1 + 1, c7)]) G hE i0 i1 i2 f0 f1 f2 (pl_pair hW r0 r1) (pl_pair hW r0 r2) (pl_pair hW r1 r2) hc2 hc3' hc4 hc5 hc6 (S.re _ _ ?_ ?_) ?_ fun h tk c6' v6' hc6' S => ?_
  · exact fun _ => ⟨rfl, trivial⟩
  · ((repeat ((with_reducible refine sub_c ?_ ?_); (focus (((with_reducible first | assumption | exact mem0 | exact mem1 | exact mem2 | exact mem3 | exact mem4 | exact mem5 | exact mem6 | exact mem7 | (refine mem_t ?_; first | exact mem0 | exact mem1 | exact mem2 | exact mem3 | exact mem4 | exact mem5 | exact mem6 | exact mem7 | (refine mem_t ?_; first | exact mem0 | exact mem1 | exact mem2 | exact mem3 | exact mem4 | exact mem5 | exact mem6 | exact mem7)) | (repeat first | assumption | exact List.mem_cons_self | apply List.mem_cons_of_mem | apply List.mem_append_right))))))); first | exact sub_n | assumption | exact sub_d 1 | exact sub_d 2 | exact sub_d 3 | exact sub_d 4 | exact sub_d 5 | exact sub_d 6 | exact sub_d 7 | exact sub_d 8 | exact sub_d 9 | exact sub_d 10 | exact sub_d 11 | exact sub_d 12 | exact sub_d 13 | exact sub_d 14 | exact sub_d 15 | exact sub_d 16 | exact sub_d 17 | exact sub_d 18 | exact sub_d 0 | (intro p hp; ((with_reducible (repeat first | assumption | (apply List.mem_append_left; assumption) | apply List.mem_cons_of_mem | apply List.mem_append_right)))))
  · simp only [List.forall_mem_cons, List.not_mem_nil, false_implies, implies_true, and_true]
    refine ⟨⟨Ne.symm l2, Ne.symm l3, Ne.symm l4⟩, ⟨?_, ?_, ?_⟩, ⟨Ne.symm q6, Ne.symm q11, Ne.symm q16⟩, ⟨Ne.symm q8, Ne.symm q13, Ne.symm q18⟩, ⟨Ne.symm q9, Ne.symm q14, Ne.symm q19⟩, ⟨Ne.symm q10, Ne.symm q15, Ne.symm q20⟩, ⟨?_, ?_, ?_⟩, ⟨Ne.symm q7, Ne.symm q12, Ne.symm q17⟩, ?_, ?_, ?_⟩ <;> exact (show @Ne Nat _ _ by lia)
  unfold textOf at S
  refine law_exec 11 (by decide) ?_
  with_reducible refine st_11 (wv := .ref lw) (t0 := t0) (t1 := t1) (t2 := t2) (x0 := A0.map signC) (x1 := A1.map signC) (x2 := A2.map signC) (rest := [(L + 1 + 1 + 1 + 1 + 1 + 1 + 1, c6'), (la, listOf #[.ref a0, .ref a1, .ref a2] 3), (a0, listOf us0.toArray 0), (a1, listOf us1.toArray 0), (a2, listOf us2.toArray 0), (L + 1 + 1 + 1, c2), (lw, listOf vw.toArray n), (L + 1 + 1 + 1 + 1 + 1 + 1 + 1 + 1, c7)]) G ?_ ?_ ?_ hc3' (S.re _ _ ?_ ?_) fun h tk ld e0 e1 e2 v0 v1 v2 n0 n1 n2 S0 S1 S2 D0 D1 D2 s0 s1 s2 S hd => ?_
  · rw [List.length_map, g0]
  · rw [List.length_map, g1]
  · rw [List.length_map, g2]
  · exact fun _ => ⟨rfl, trivial⟩
  · ((repeat ((with_reducible refine sub_c ?_ ?_); (focus (((with_reducible first | assumption | exact mem0 | exact mem1 | exact mem2 | exact mem3 | exact mem4 | exact mem5 | exact mem6 | exact mem7 | (refine mem_t ?_; first | exact mem0 | exact mem1 | exact mem2 | exact mem3 | exact mem4 | exact mem5 | exact mem6 | exact mem7 | (refine mem_t ?_; first | exact mem0 | exact mem1 | exact mem2 | exact mem3 | exact mem4 | exact mem5 | exact mem6 | exact mem7)) | (repeat first | assumption | exact List.mem_cons_self | apply List.mem_cons_of_mem | apply List.mem_append_right))))))); first | exact sub_n | assumption | exact sub_d 1 | exact sub_d 2 | exact sub_d 3 | exact sub_d 4 | exact sub_d 5 | exact sub_d 6 | exact sub_d 7 | exact sub_d 8 | exact sub_d 9 | exact sub_d 10 | exact sub_d 11 | exact sub_d 12 | exact sub_d 13 | exact sub_d 14 | exact sub_d 15 | exact sub_d 16 | exact sub_d 17 | exact sub_d 18 | exact sub_d 0 | (intro p hp; ((with_reducible (repeat first | assumption | (apply List.mem_append_left; assumption) | apply List.mem_cons_of_mem | apply List.mem_append_right)))))
  with_reducible refine k _ _ ld e0 e1 e2 lt v0 v1 v2 n0 n1 n2 S0 S1 S2 t0 t1 t2 c3' c6' v6' hc3' hc6' D0 D1 D2 s0 s1 s2 (S.re _ _ ?_ ?_)
  · exact fun _ => ⟨rfl, rfl, trivial⟩
  · ((repeat ((with_reducible refine sub_c ?_ ?_); (focus (((with_reducible first | assumption | exact mem0 | exact mem1 | exact mem2 | exact mem3 | exact mem4 | exact mem5 | exact mem6 | exact mem7 | (refine mem_t ?_; first | exact mem0 | exact mem1 | exact mem2 | exact mem3 | exact mem4 | exact mem5 | exact mem6 | exact mem7 | (refine mem_t ?_; first | exact mem0 | exact mem1 | exact mem2 | exact mem3 | exact mem4 | exact mem5 | exact mem6 | exact mem7)) | (repeat first | assumption | exact List.mem_cons_self | apply List.mem_cons_of_mem | apply List.mem_append_right))))))); first | exact sub_n | assumption | exact sub_d 1 | exact sub_d 2 | exact sub_d 3 | exact sub_d 4 | exact sub_d 5 | exact sub_d 6 | exact sub_d 7 | exact sub_d 8 | exact sub_d 9 | exact sub_d 10 | exact sub_d 11 | exact sub_d 12 | exact sub_d 13 | exact sub_d 14 | exact sub_d 15 | exact sub_d 16 | exact sub_d 17 | exact sub_d 18 | exact sub_d 0 | (intro p hp; ((with_reducible (repeat first | assumption | (apply List.mem_append_left; assumption) | apply List.mem_cons_of_mem | apply List.mem_append_right)))))
end

theorem rs_52_1 {M : Model} {A : Around} {Q : Value → Shared → Prop} {E : Value → Shared → Prop} {s : Shared} (h : wpAny M A (call .none [.none]) Q E s) : wpAny M A (call .none [.none]) Q E s := by first | (walk1; fail "") | exact h
section
variable {w : World} {loose : List Str} {mean : ExcName → Option Value} {mg mb : Str → Option Value} {h₀ : Heap} {L fa : Addr} {cd : Value} {xh : Heap} {xg : Array GenState} {xd : Drawn} {xt : Nat} {xo : OsState} {m : Str → Option Value} {Q : Flow → Shared → Prop} {E : Value → Shared → Prop}
theorem CellsI.noCell {cells : List (Addr × Obj)} {Z : List (List Int)} {b : Addr} (hC : CellsI cells Z) : ∀ p ∈ cells, noCell p.2 = true ∨ p.1 ≠ b := fun p hp => by
  obtain ⟨us, n, z, e, _⟩ := hC.obj hp
  rw [e]; exact .inl rfl
theorem join_c {la lw a0 a1 a2 ld e0 e1 e2 lt : Addr} {us0 us1 us2 vw v0 v1 v2 : List Value} {n n0 n1 n2 : Nat} {c2 c3 c6 c7 : Obj} {v6 : Option Value} {W A0 A1 A2 : List Int} {S0 S1 : List Str} {t0 t1 t2 : Tok} (G : LG w loose mean mg mb h₀) (hc2 : c2.data = .cell (some (.ref la))) (hW : W.length = 4 ∧ (∀ n ∈ W, 0 ≤ n ∧ n < 68)) (r0 : Arr W A0) (r1 : Arr W A1)
    (i0 : IntsAre us0 A0) (i1 : IntsAre us1 A1) (hc6 : c6.data = .cell v6) (D0 : Deck (A0.map signC) S0) (D1 : Deck (A1.map signC) S1) (s0 : StrsAre v0 S0) (s1 : StrsAre v1 S1)
    (S : At h₀ L xh [(Str.ofString "decks", .ref ld), (Str.ofString "word", .ref lw)] [(ld, listOf #[.ref e0, .ref e1, .ref e2] 3), (e0, listOf v0.toArray n0), (e1, listOf v1.toArray n1), (e2, listOf v2.toArray n2), (lt, listOf #[.str ⟨(A0.map signC).toArray⟩ t0, .str ⟨(A1.map signC).toArray⟩ t1, .str ⟨(A2.map signC).toArray⟩ t2] 3), (L + 1 + 1 + 1 + 1, c3), (L + 1 + 1 + 1 + 1 + 1 + 1 + 1, c6), (la, listOf #[.ref a0, .ref a1, .ref a2] 3), (a0, listOf us0.toArray 0), (a1, listOf us1.toArray 0), (a2, listOf us2.toArray 0), (L + 1 + 1 + 1, c2), (lw, listOf vw.toArray n), (L + 1 + 1 + 1 + 1 + 1 + 1 + 1 + 1, c7)])
    (k : ∀ h tk r c cells rp lm lu vm vu cm cu c6', c6'.data = .cell (some (.ref rp)) → CellsI cells (sharedV A0 A1) → StrsAre vm (sldV S0 S1).1 → StrsAre vu (sldV S0 S1).2 →
      At h₀ L h [(Str.ofString "words", .ref r), (Str.ofString "decks", .ref ld), (Str.ofString "word", .ref lw)] ((L + 1 + 1 + 1 + 1 + 1 + 1 + 1, c6') :: (L + 1 + 1 + 1 + 1 + 1 + 1 + 1 + 1, c7) :: (rp, pairObj lm lu) :: (lm, listOf vm.toArray cm) :: (lu, listOf vu.toArray cu) :: (ld, listOf #[.ref e0, .ref e1, .ref e2] 3) :: (e0, listOf v0.toArray n0) :: (e1, listOf v1.toArray n1) :: (e2, listOf v2.toArray n2) :: (lt, listOf #[.str ⟨(A0.map signC).toArray⟩ t0, .str ⟨(A1.map signC).toArray⟩ t1, .str ⟨(A2.map signC).toArray⟩ t2] 3) :: (L + 1 + 1 + 1 + 1, c3) :: (la, listOf #[.ref a0, .ref a1, .ref a2] 3) :: (a0, listOf us0.toArray 0) :: (a1, listOf us1.toArray 0) :: (a2, listOf us2.toArray 0) :: (L + 1 + 1 + 1, c2) :: (lw, listOf vw.toArray n) :: (r, listOf (cells.map fun p => Value.ref p.1).toArray c) :: cells) →
      wpAny (LM w) (LA L fa cd) (execs (lawB.drop 16) (lawEnv L fa cd)) Q E ⟨h, xg, xd, tk, xo⟩) :
    wpAny (LM w) (LA L fa cd) (execs (lawB.drop 12) (lawEnv L fa cd)) Q E ⟨xh, xg, xd, xt, xo⟩ := by
  have f0 := five_of hW r0
  have f1 := five_of hW r1
  have hZ := pl_shared hW r0 r1
  have hT := pl_told hW r0 r1 D0 D1
  have l0 := D0.len
  have l1 := D1.len
  refine law_exec 12 (by decide) ?_
  with_reducible refine st_12 (a0 := a0) (a1 := a1) (a2 := a2) (dv := .ref ld) (wv := .ref lw) (rest := [(ld, listOf #[.ref e0, .ref e1, .ref e2] 3), (e0, listOf v0.toArray n0), (e1, listOf v1.toArray n1), (e2, listOf v2.toArray n2), (lt, listOf #[.str ⟨(A0.map signC).toArray⟩ t0, .str ⟨(A1.map signC).toArray⟩ t1, .str ⟨(A2.map signC).toArray⟩ t2] 3), (L + 1 + 1 + 1 + 1, c3), (L + 1 + 1 + 1 + 1 + 1 + 1 + 1, c6), (a2, listOf us2.toArray 0), (lw, listOf vw.toArray n), (L + 1 + 1 + 1 + 1 + 1 + 1 + 1 + 1, c7)]) G i0 i1 f0 f1 hc2 (S.re _ _ ?_ ?_) fun h tk r c cells S hne hI => ?_
  · exact fun _ => ⟨rfl, rfl, trivial⟩
  · ((repeat ((with_reducible refine sub_c ?_ ?_); (focus (((with_reducible first | assumption | exact mem0 | exact mem1 | exact mem2 | exact mem3 | exact mem4 | exact mem5 | exact mem6 | exact mem7 | (refine mem_t ?_; first | exact mem0 | exact mem1 | exact mem2 | exact mem3 | exact mem4 | exact mem5 | exact mem6 | exact mem7 | (refine mem_t ?_; first | exact mem0 | exact mem1 | exact mem2 | exact mem3 | exact mem4 | exact mem5 | exact mem6 | exact mem7)) | (repeat first | assumption | exact List.mem_cons_self | apply List.mem_cons_of_mem | apply List.mem_append_right))))))); first | exact sub_n | assumption | exact sub_d 1 | exact sub_d 2 | exact sub_d 3 | exact sub_d 4 | exact sub_d 5 | exact sub_d 6 | exact sub_d 7 | exact sub_d 8 | exact sub_d 9 | exact sub_d 10 | exact sub_d 11 | exact sub_d 12 | exact sub_d 13 | exact sub_d 14 | exact sub_d 15 | exact sub_d 16 | exact sub_d 17 | exact sub_d 18 | exact sub_d 0 | (intro p hp; ((with_reducible (repeat first | assumption | (apply List.mem_append_left; assumption) | apply List.mem_cons_of_mem | apply List.mem_append_right)))))
  clear hne
  refine law_exec 13 (by decide) ?_
  with_reducible refine st_13 (dv := .ref ld) (wv := .ref lw) G hI hZ.1 hZ.2 S fun h tk d e vs hvs S hne => ?_
  clear hne
  have hvl : ((sharedV A0 A1).map textOf).length ≤ 16 := by
    have := hZ.2
    rw [List.length_map]; lia
  refine law_exec 14 (by decide) ?_
  have S' := S.re [(Str.ofString "shared", .ref d), (Str.ofString "words", .ref r), (Str.ofString "decks", .ref ld), (Str.ofString "word", .ref lw)] ((ld, listOf #[.ref e0, .ref e1, .ref e2] 3) :: (e0, listOf v0.toArray n0) :: (e1, listOf v1.toArray n1) :: (L + 1 + 1 + 1 + 1 + 1 + 1 + 1, c6) :: (d, listOf vs.toArray e) :: (e2, listOf v2.toArray n2) :: (lt, listOf #[.str ⟨(A0.map signC).toArray⟩ t0, .str ⟨(A1.map signC).toArray⟩ t1, .str ⟨(A2.map signC).toArray⟩ t2] 3) :: (L + 1 + 1 + 1 + 1, c3) :: (la, listOf #[.ref a0, .ref a1, .ref a2] 3) :: (a0, listOf us0.toArray 0) :: (a1, listOf us1.toArray 0) :: (a2, listOf us2.toArray 0) :: (L + 1 + 1 + 1, c2) :: (lw, listOf vw.toArray n) :: (L + 1 + 1 + 1 + 1 + 1 + 1 + 1 + 1, c7) :: (r, listOf (cells.map fun p => Value.ref p.1).toArray c) :: cells) (fun _ => ⟨rfl, rfl, rfl, rfl, trivial⟩) (by ((repeat ((with_reducible refine sub_c ?_ ?_); (focus (((with_reducible first | assumption | exact mem0 | exact mem1 | exact mem2 | exact mem3 | exact mem4 | exact mem5 | exact mem6 | exact mem7 | (refine mem_t ?_; first | exact mem0 | exact mem1 | exact mem2 | exact mem3 | exact mem4 | exact mem5 | exact mem6 | exact mem7 | (refine mem_t ?_; first | exact mem0 | exact mem1 | exact mem2 | exact mem3 | exact mem4 | exact mem5 | exact mem6 | exact mem7)) | (repeat first | assumption | exact List.mem_cons_self | apply List.mem_cons_of_mem | apply List.mem_append_right))))))); first | exact sub_n | assumption | exact sub_d 1 | exact sub_d 2 | exact sub_d 3 | exact sub_d 4 | exact sub_d 5 | exact sub_d 6 | exact sub_d 7 | exact sub_d 8 | exact sub_d 9 | exact sub_d 10 | exact sub_d 11 | exact sub_d 12 | exact sub_d 13 | exact sub_d 14 | exact sub_d 15 | exact sub_d 16 | exact sub_d 17 | exact sub_d 18 | exact sub_d 0 | (intro p hp; ((with_reducible (repeat first | assumption | (apply List.mem_append_left; assumption) | apply List.mem_cons_of_mem | apply List.mem_append_right))))))
  clear S
  with_reducible refine st_14 G s0 s1 ?_ ?_ ?_ S' ?_ fun h tk c6' rp lm lu vm vu cm cu hc6' hm hu S hne => ?_
  · lia
  · lia
  · exact ⟨_, hc6⟩
  · refine S'.offs (.tail _ (.tail _ (.tail _ (.head _)))) hc6 (by ((repeat ((with_reducible refine sub_c ?_ ?_); (focus (((with_reducible first | assumption | exact mem0 | exact mem1 | exact mem2 | exact mem3 | exact mem4 | exact mem5 | exact mem6 | exact mem7 | (refine mem_t ?_; first | exact mem0 | exact mem1 | exact mem2 | exact mem3 | exact mem4 | exact mem5 | exact mem6 | exact mem7 | (refine mem_t ?_; first | exact mem0 | exact mem1 | exact mem2 | exact mem3 | exact mem4 | exact mem5 | exact mem6 | exact mem7)) | (repeat first | assumption | exact List.mem_cons_self | apply List.mem_cons_of_mem | apply List.mem_append_right))))))); first | exact sub_n | assumption | exact sub_d 1 | exact sub_d 2 | exact sub_d 3 | exact sub_d 4 | exact sub_d 5 | exact sub_d 6 | exact sub_d 7 | exact sub_d 8 | exact sub_d 9 | exact sub_d 10 | exact sub_d 11 | exact sub_d 12 | exact sub_d 13 | exact sub_d 14 | exact sub_d 15 | exact sub_d 16 | exact sub_d 17 | exact sub_d 18 | exact sub_d 0 | (intro p hp; ((with_reducible (repeat first | assumption | (apply List.mem_append_left; assumption) | apply List.mem_cons_of_mem | apply List.mem_append_right)))))) ?_
    have hcl := hI.noCell (b := L + 1 + 1 + 1 + 1 + 1 + 1 + 1)
    ((repeat ((with_reducible refine fm_c ?_ ?_); (focus (first | exact Or.inl rfl | exact Or.inr (show @Ne Nat _ _ by lia))))); first | exact List.forall_mem_nil _ | assumption)
  clear hne S'
  refine law_exec 15 (by decide) ?_
  have S' := S.re [(Str.ofString "shared", .ref d), (Str.ofString "words", .ref r), (Str.ofString "decks", .ref ld), (Str.ofString "word", .ref lw)] ((d, listOf vs.toArray e) :: (rp, pairObj lm lu) :: (lm, listOf vm.toArray cm) :: (lu, listOf vu.toArray cu) :: (L + 1 + 1 + 1 + 1 + 1 + 1 + 1, c6') :: (ld, listOf #[.ref e0, .ref e1, .ref e2] 3) :: (e0, listOf v0.toArray n0) :: (e1, listOf v1.toArray n1) :: (e2, listOf v2.toArray n2) :: (lt, listOf #[.str ⟨(A0.map signC).toArray⟩ t0, .str ⟨(A1.map signC).toArray⟩ t1, .str ⟨(A2.map signC).toArray⟩ t2] 3) :: (L + 1 + 1 + 1 + 1, c3) :: (la, listOf #[.ref a0, .ref a1, .ref a2] 3) :: (a0, listOf us0.toArray 0) :: (a1, listOf us1.toArray 0) :: (a2, listOf us2.toArray 0) :: (L + 1 + 1 + 1, c2) :: (lw, listOf vw.toArray n) :: (L + 1 + 1 + 1 + 1 + 1 + 1 + 1 + 1, c7) :: (r, listOf (cells.map fun p => Value.ref p.1).toArray c) :: cells) (fun _ => ⟨rfl, rfl, rfl, rfl, trivial⟩) (by ((repeat ((with_reducible refine sub_c ?_ ?_); (focus (((with_reducible first | assumption | exact mem0 | exact mem1 | exact mem2 | exact mem3 | exact mem4 | exact mem5 | exact mem6 | exact mem7 | (refine mem_t ?_; first | exact mem0 | exact mem1 | exact mem2 | exact mem3 | exact mem4 | exact mem5 | exact mem6 | exact mem7 | (refine mem_t ?_; first | exact mem0 | exact mem1 | exact mem2 | exact mem3 | exact mem4 | exact mem5 | exact mem6 | exact mem7)) | (repeat first | assumption | exact List.mem_cons_self | apply List.mem_cons_of_mem | apply List.mem_append_right))))))); first | exact sub_n | assumption | exact sub_d 1 | exact sub_d 2 | exact sub_d 3 | exact sub_d 4 | exact sub_d 5 | exact sub_d 6 | exact sub_d 7 | exact sub_d 8 | exact sub_d 9 | exact sub_d 10 | exact sub_d 11 | exact sub_d 12 | exact sub_d 13 | exact sub_d 14 | exact sub_d 15 | exact sub_d 16 | exact sub_d 17 | exact sub_d 18 | exact sub_d 0 | (intro p hp; ((with_reducible (repeat first | assumption | (apply List.mem_append_left; assumption) | apply List.mem_cons_of_mem | apply List.mem_append_right))))))
  clear S
  with_reducible refine st_15 G s0 s1 hvs hm hu ?_ ?_ ?_ ?_ hvl hT.1 hT.2 hc6' S' fun h tk S => ?_
  · lia
  · lia
  · lia
  · lia
  with_reducible refine k _ _ r c cells rp lm lu vm vu cm cu c6' hc6' hI hm hu (S.re _ _ ?_ ?_)
  · exact fun _ => ⟨rfl, rfl, rfl, trivial⟩
  · ((repeat ((with_reducible refine sub_c ?_ ?_); (focus (((with_reducible first | assumption | exact mem0 | exact mem1 | exact mem2 | exact mem3 | exact mem4 | exact mem5 | exact mem6 | exact mem7 | (refine mem_t ?_; first | exact mem0 | exact mem1 | exact mem2 | exact mem3 | exact mem4 | exact mem5 | exact mem6 | exact mem7 | (refine mem_t ?_; first | exact mem0 | exact mem1 | exact mem2 | exact mem3 | exact mem4 | exact mem5 | exact mem6 | exact mem7)) | (repeat first | assumption | exact List.mem_cons_self | apply List.mem_cons_of_mem | apply List.mem_append_right))))))); first | exact sub_n | assumption | exact sub_d 1 | exact sub_d 2 | exact sub_d 3 | exact sub_d 4 | exact sub_d 5 | exact sub_d 6 | exact sub_d 7 | exact sub_d 8 | exact sub_d 9 | exact sub_d 10 | exact sub_d 11 | exact sub_d 12 | exact sub_d 13 | exact sub_d 14 | exact sub_d 15 | exact sub_d 16 | exact sub_d 17 | exact sub_d 18 | exact sub_d 0 | (intro p hp; ((with_reducible (repeat first | assumption | (apply List.mem_append_left; assumption) | apply List.mem_cons_of_mem | apply List.mem_append_right)))))
end

theorem rs_53_1 {M : Model} {A : Around} {Q : Value → Shared → Prop} {E : Value → Shared → Prop} {s : Shared} (h : wpAny M A (call .none [.none]) Q E s) : wpAny M A (call .none [.none]) Q E s := by first | (walk1; fail "") | exact h
section
variable {w : World} {loose : List Str} {mean : ExcName → Option Value} {mg mb : Str → Option Value} {h₀ : Heap} {L fa : Addr} {cd : Value} {xh : Heap} {xg : Array GenState} {xd : Drawn} {xt : Nat} {xo : OsState} {m : Str → Option Value} {Q : Flow → Shared → Prop} {E : Value → Shared → Prop}
theorem deck_small {X : List Int} {S0 : List Str} (hX : Five X) (D : Deck (X.map signC) S0) : ∀ t ∈ S0, t.cps.toList.length ≤ 16 ∧ ∀ c ∈ t.cps.toList, c < 128 := by
  intro t ht
  have h1 := D.perm.mem_iff.mp ht
  obtain ⟨p, hp, rfl⟩ := List.mem_map.mp h1
  have hl : (X.map signC).length = 5 := by rw [List.length_map, hX.1]
  have hsub : ∀ c ∈ (cutS (X.map signC) p).cps.toList, c ∈ X.map signC := by
    intro c hc
    unfold cutS at hc
    rcases List.mem_append.mp hc with h | h
    · exact List.mem_of_mem_take h
    · exact List.mem_of_mem_drop h
  refine ⟨?_, fun c hc => ?_⟩
  · unfold cutS
    simp only [List.length_append, List.length_take, List.length_drop, hl]
    lia
  · obtain ⟨n, hn, rfl⟩ := List.mem_map.mp (hsub c hc)
    exact (signC_lt (hX.2 n hn)).1
theorem join_d {la lw a0 a1 a2 ld e0 e1 e2 lt r rp lm lu : Addr} {us0 us1 us2 vw v0 v1 v2 vm vu : List Value} {n n0 n1 n2 c cm cu : Nat} {c2 c3 c6 c7 : Obj} {W A0 A1 A2 : List Int} {S0 S1 : List Str} {t0 t1 t2 : Tok} {cells : List (Addr × Obj)} {Z : List (List Int)} (G : LG w loose mean mg mb h₀) (hW : W.length = 4 ∧ (∀ n ∈ W, 0 ≤ n ∧ n < 68)) (r0 : Arr W A0) (r1 : Arr W A1)
    (hc3 : c3.data = .cell (some (.ref lt))) (hc6 : c6.data = .cell (some (.ref rp))) (hc7 : c7.data = .cell none) (D0 : Deck (A0.map signC) S0) (D1 : Deck (A1.map signC) S1) (s0 : StrsAre v0 S0) (s1 : StrsAre v1 S1) (hm : StrsAre vm (sldV S0 S1).1) (hC : CellsI cells Z)
    (S : At h₀ L xh [(Str.ofString "words", .ref r), (Str.ofString "decks", .ref ld), (Str.ofString "word", .ref lw)] ((L + 1 + 1 + 1 + 1 + 1 + 1 + 1, c6) :: (L + 1 + 1 + 1 + 1 + 1 + 1 + 1 + 1, c7) :: (rp, pairObj lm lu) :: (lm, listOf vm.toArray cm) :: (lu, listOf vu.toArray cu) :: (ld, listOf #[.ref e0, .ref e1, .ref e2] 3) :: (e0, listOf v0.toArray n0) :: (e1, listOf v1.toArray n1) :: (e2, listOf v2.toArray n2) :: (lt, listOf #[.str ⟨(A0.map signC).toArray⟩ t0, .str ⟨(A1.map signC).toArray⟩ t1, .str ⟨(A2.map signC).toArray⟩ t2] 3) :: (L + 1 + 1 + 1 + 1, c3) :: (la, listOf #[.ref a0, .ref a1, .ref a2] 3) :: (a0, listOf us0.toArray 0) :: (a1, listOf us1.toArray 0) :: (a2, listOf us2.toArray 0) :: (L + 1 + 1 + 1, c2) :: (lw, listOf vw.toArray n) :: (r, listOf (cells.map fun p => Value.ref p.1).toArray c) :: cells))
    (k : ∀ h d tk dl vl cl ls c7', c7'.data = .cell (some (.ref dl)) → StrsAre vl ls → ls.Perm (onceS (S0.filter fun t => !(sldV S0 S1).1.contains t)) → sortedS ls = true →
      At h₀ L h [(Str.ofString "words", .ref r), (Str.ofString "decks", .ref ld), (Str.ofString "word", .ref lw)] ((dl, listOf vl.toArray cl) :: (L + 1 + 1 + 1 + 1 + 1 + 1 + 1 + 1, c7') :: (L + 1 + 1 + 1 + 1 + 1 + 1 + 1, c6) :: (ld, listOf #[.ref e0, .ref e1, .ref e2] 3) :: (e0, listOf v0.toArray n0) :: (e2, listOf v2.toArray n2) :: (la, listOf #[.ref a0, .ref a1, .ref a2] 3) :: (a0, listOf us0.toArray 0) :: (a1, listOf us1.toArray 0) :: (a2, listOf us2.toArray 0) :: (L + 1 + 1 + 1, c2) :: (lw, listOf vw.toArray n) :: (r, listOf (cells.map fun p => Value.ref p.1).toArray c) :: cells) →
      wpAny (LM w) (LA L fa cd) (execs (lawB.drop 22) (lawEnv L fa cd)) Q E ⟨h, xg, d, tk, xo⟩) :
    wpAny (LM w) (LA L fa cd) (execs (lawB.drop 16) (lawEnv L fa cd)) Q E ⟨xh, xg, xd, xt, xo⟩ := by
  have f0 := five_of hW r0
  have f1 := five_of hW r1
  have hT := pl_told hW r0 r1 D0 D1
  have l0 := D0.len
  have l1 := D1.len
  have lM : (sldV S0 S1).1.length ≤ 16 := by
    rw [hT.1]
    have := aloneV_len S0 S1 ((sharedV A0 A1).map textOf) S0.length
    lia
  have hcl := fun b => hC.noCell (b := b)
  have hds := deck_small f0 D0
  have hx1 : (A1.map signC).length ≤ 16 ∧ ∀ c ∈ A1.map signC, c < 128 := ⟨by rw [List.length_map, f1.1]; lia, fun c hc => by
    obtain ⟨n, hn, rfl⟩ := List.mem_map.mp hc
    exact (signC_lt (f1.2 n hn)).1⟩
  have n8 := hcl (L + 1 + 1 + 1 + 1 + 1 + 1 + 1 + 1)
  refine law_exec 16 (by decide) ?_
  have S' := S.re [(Str.ofString "words", .ref r), (Str.ofString "decks", .ref ld), (Str.ofString "word", .ref lw)] ((ld, listOf #[.ref e0, .ref e1, .ref e2] 3) :: (e1, listOf v1.toArray n1) :: (e0, listOf v0.toArray n0) :: (L + 1 + 1 + 1 + 1 + 1 + 1 + 1, c6) :: (L + 1 + 1 + 1 + 1 + 1 + 1 + 1 + 1, c7) :: (rp, pairObj lm lu) :: (lm, listOf vm.toArray cm) :: (lt, listOf #[.str ⟨(A0.map signC).toArray⟩ t0, .str ⟨(A1.map signC).toArray⟩ t1, .str ⟨(A2.map signC).toArray⟩ t2] 3) :: (L + 1 + 1 + 1 + 1, c3) :: (e2, listOf v2.toArray n2) :: (la, listOf #[.ref a0, .ref a1, .ref a2] 3) :: (a0, listOf us0.toArray 0) :: (a1, listOf us1.toArray 0) :: (a2, listOf us2.toArray 0) :: (L + 1 + 1 + 1, c2) :: (lw, listOf vw.toArray n) :: (r, listOf (cells.map fun p => Value.ref p.1).toArray c) :: cells) (fun _ => ⟨rfl, rfl, rfl, trivial⟩) (by ((repeat ((with_reducible refine sub_c ?_ ?_); (focus (((with_reducible first | assumption | exact mem0 | exact mem1 | exact mem2 | exact mem3 | exact mem4 | exact mem5 | exact mem6 | exact mem7 | (refine mem_t ?_; first | exact mem0 | exact mem1 | exact mem2 | exact mem3 | exact mem4 | exact mem5 | exact mem6 | exact mem7 | (refine mem_t ?_; first | exact mem0 | exact mem1 | exact mem2 | exact mem3 | exact mem4 | exact mem5 | exact mem6 | exact mem7)) | (repeat first | assumption | exact List.mem_cons_self | apply List.mem_cons_of_mem | apply List.mem_append_right))))))); first | exact sub_n | assumption | exact sub_d 1 | exact sub_d 2 | exact sub_d 3 | exact sub_d 4 | exact sub_d 5 | exact sub_d 6 | exact sub_d 7 | exact sub_d 8 | exact sub_d 9 | exact sub_d 10 | exact sub_d 11 | exact sub_d 12 | exact sub_d 13 | exact sub_d 14 | exact sub_d 15 | exact sub_d 16 | exact sub_d 17 | exact sub_d 18 | exact sub_d 0 | (intro p hp; ((with_reducible (repeat first | assumption | (apply List.mem_append_left; assumption) | apply List.mem_cons_of_mem | apply List.mem_append_right))))))
  clear S
  with_reducible refine st_16 G s1 ?_ S' fun h tk S => ?_
  · lia
  clear S'
  refine law_exec 17 (by decide) ?_
  have S' := S.re [(Str.ofString "words", .ref r), (Str.ofString "decks", .ref ld), (Str.ofString "word", .ref lw)] ((ld, listOf #[.ref e0, .ref e1, .ref e2] 3) :: (e0, listOf v0.toArray n0) :: (L + 1 + 1 + 1 + 1 + 1 + 1 + 1, c6) :: (L + 1 + 1 + 1 + 1 + 1 + 1 + 1 + 1, c7) :: (rp, pairObj lm lu) :: (lm, listOf vm.toArray cm) :: (lt, listOf #[.str ⟨(A0.map signC).toArray⟩ t0, .str ⟨(A1.map signC).toArray⟩ t1, .str ⟨(A2.map signC).toArray⟩ t2] 3) :: (L + 1 + 1 + 1 + 1, c3) :: (e2, listOf v2.toArray n2) :: (la, listOf #[.ref a0, .ref a1, .ref a2] 3) :: (a0, listOf us0.toArray 0) :: (a1, listOf us1.toArray 0) :: (a2, listOf us2.toArray 0) :: (L + 1 + 1 + 1, c2) :: (lw, listOf vw.toArray n) :: (r, listOf (cells.map fun p => Value.ref p.1).toArray c) :: cells) (fun _ => ⟨rfl, rfl, rfl, trivial⟩) (by ((repeat ((with_reducible refine sub_c ?_ ?_); (focus (((with_reducible first | assumption | exact mem0 | exact mem1 | exact mem2 | exact mem3 | exact mem4 | exact mem5 | exact mem6 | exact mem7 | (refine mem_t ?_; first | exact mem0 | exact mem1 | exact mem2 | exact mem3 | exact mem4 | exact mem5 | exact mem6 | exact mem7 | (refine mem_t ?_; first | exact mem0 | exact mem1 | exact mem2 | exact mem3 | exact mem4 | exact mem5 | exact mem6 | exact mem7)) | (repeat first | assumption | exact List.mem_cons_self | apply List.mem_cons_of_mem | apply List.mem_append_right))))))); first | exact sub_n | assumption | exact sub_d 1 | exact sub_d 2 | exact sub_d 3 | exact sub_d 4 | exact sub_d 5 | exact sub_d 6 | exact sub_d 7 | exact sub_d 8 | exact sub_d 9 | exact sub_d 10 | exact sub_d 11 | exact sub_d 12 | exact sub_d 13 | exact sub_d 14 | exact sub_d 15 | exact sub_d 16 | exact sub_d 17 | exact sub_d 18 | exact sub_d 0 | (intro p hp; ((with_reducible (repeat first | assumption | (apply List.mem_append_left; assumption) | apply List.mem_cons_of_mem | apply List.mem_append_right))))))
  clear S
  with_reducible refine st_17 G s0 ?_ S' fun h tk S => ?_
  · lia
  clear S'
  refine law_exec 18 (by decide) ?_
  have S' := S.re [(Str.ofString "words", .ref r), (Str.ofString "decks", .ref ld), (Str.ofString "word", .ref lw)] ((rp, pairObj lm lu) :: (lm, listOf vm.toArray cm) :: (ld, listOf #[.ref e0, .ref e1, .ref e2] 3) :: (e0, listOf v0.toArray n0) :: (L + 1 + 1 + 1 + 1 + 1 + 1 + 1, c6) :: (L + 1 + 1 + 1 + 1 + 1 + 1 + 1 + 1, c7) :: (lt, listOf #[.str ⟨(A0.map signC).toArray⟩ t0, .str ⟨(A1.map signC).toArray⟩ t1, .str ⟨(A2.map signC).toArray⟩ t2] 3) :: (L + 1 + 1 + 1 + 1, c3) :: (e2, listOf v2.toArray n2) :: (la, listOf #[.ref a0, .ref a1, .ref a2] 3) :: (a0, listOf us0.toArray 0) :: (a1, listOf us1.toArray 0) :: (a2, listOf us2.toArray 0) :: (L + 1 + 1 + 1, c2) :: (lw, listOf vw.toArray n) :: (r, listOf (cells.map fun p => Value.ref p.1).toArray c) :: cells) (fun _ => ⟨rfl, rfl, rfl, trivial⟩) (by ((repeat ((with_reducible refine sub_c ?_ ?_); (focus (((with_reducible first | assumption | exact mem0 | exact mem1 | exact mem2 | exact mem3 | exact mem4 | exact mem5 | exact mem6 | exact mem7 | (refine mem_t ?_; first | exact mem0 | exact mem1 | exact mem2 | exact mem3 | exact mem4 | exact mem5 | exact mem6 | exact mem7 | (refine mem_t ?_; first | exact mem0 | exact mem1 | exact mem2 | exact mem3 | exact mem4 | exact mem5 | exact mem6 | exact mem7)) | (repeat first | assumption | exact List.mem_cons_self | apply List.mem_cons_of_mem | apply List.mem_append_right))))))); first | exact sub_n | assumption | exact sub_d 1 | exact sub_d 2 | exact sub_d 3 | exact sub_d 4 | exact sub_d 5 | exact sub_d 6 | exact sub_d 7 | exact sub_d 8 | exact sub_d 9 | exact sub_d 10 | exact sub_d 11 | exact sub_d 12 | exact sub_d 13 | exact sub_d 14 | exact sub_d 15 | exact sub_d 16 | exact sub_d 17 | exact sub_d 18 | exact sub_d 0 | (intro p hp; ((with_reducible (repeat first | assumption | (apply List.mem_append_left; assumption) | apply List.mem_cons_of_mem | apply List.mem_append_right))))))
  clear S
  with_reducible refine st_18 G s0 hm ?_ lM hc6 hc7 S' ?_ fun h tk c7' dl vl cl hc7' hvl S _ => ?_
  · lia
  · refine S'.offs (.tail _ (.tail _ (.tail _ (.tail _ (.tail _ (.head _)))))) hc7 (by ((repeat ((with_reducible refine sub_c ?_ ?_); (focus (((with_reducible first | assumption | exact mem0 | exact mem1 | exact mem2 | exact mem3 | exact mem4 | exact mem5 | exact mem6 | exact mem7 | (refine mem_t ?_; first | exact mem0 | exact mem1 | exact mem2 | exact mem3 | exact mem4 | exact mem5 | exact mem6 | exact mem7 | (refine mem_t ?_; first | exact mem0 | exact mem1 | exact mem2 | exact mem3 | exact mem4 | exact mem5 | exact mem6 | exact mem7)) | (repeat first | assumption | exact List.mem_cons_self | apply List.mem_cons_of_mem | apply List.mem_append_right))))))); first | exact sub_n | assumption | exact sub_d 1 | exact sub_d 2 | exact sub_d 3 | exact sub_d 4 | exact sub_d 5 | exact sub_d 6 | exact sub_d 7 | exact sub_d 8 | exact sub_d 9 | exact sub_d 10 | exact sub_d 11 | exact sub_d 12 | exact sub_d 13 | exact sub_d 14 | exact sub_d 15 | exact sub_d 16 | exact sub_d 17 | exact sub_d 18 | exact sub_d 0 | (intro p hp; ((with_reducible (repeat first | assumption | (apply List.mem_append_left; assumption) | apply List.mem_cons_of_mem | apply List.mem_append_right)))))) ?_
    ((repeat ((with_reducible refine fm_c ?_ ?_); (focus (first | exact Or.inl rfl | exact Or.inr (show @Ne Nat _ _ by lia))))); first | exact List.forall_mem_nil _ | assumption)
  clear S'
  have hfl : (S0.filter fun t => !(sldV S0 S1).1.contains t).length ≤ 16 := Nat.le_trans (List.length_filter_le _ _) (by lia)
  refine law_exec 19 (by decide) ?_
  have S' := S.re [(Str.ofString "words", .ref r), (Str.ofString "decks", .ref ld), (Str.ofString "word", .ref lw)] ((ld, listOf #[.ref e0, .ref e1, .ref e2] 3) :: (e0, listOf v0.toArray n0) :: (lt, listOf #[.str ⟨(A0.map signC).toArray⟩ t0, .str ⟨(A1.map signC).toArray⟩ t1, .str ⟨(A2.map signC).toArray⟩ t2] 3) :: (L + 1 + 1 + 1 + 1, c3) :: (dl, listOf vl.toArray cl) :: (L + 1 + 1 + 1 + 1 + 1 + 1 + 1 + 1, c7') :: (L + 1 + 1 + 1 + 1 + 1 + 1 + 1, c6) :: (e2, listOf v2.toArray n2) :: (la, listOf #[.ref a0, .ref a1, .ref a2] 3) :: (a0, listOf us0.toArray 0) :: (a1, listOf us1.toArray 0) :: (a2, listOf us2.toArray 0) :: (L + 1 + 1 + 1, c2) :: (lw, listOf vw.toArray n) :: (r, listOf (cells.map fun p => Value.ref p.1).toArray c) :: cells) (fun _ => ⟨rfl, rfl, rfl, trivial⟩) (by ((repeat ((with_reducible refine sub_c ?_ ?_); (focus (((with_reducible first | assumption | exact mem0 | exact mem1 | exact mem2 | exact mem3 | exact mem4 | exact mem5 | exact mem6 | exact mem7 | (refine mem_t ?_; first | exact mem0 | exact mem1 | exact mem2 | exact mem3 | exact mem4 | exact mem5 | exact mem6 | exact mem7 | (refine mem_t ?_; first | exact mem0 | exact mem1 | exact mem2 | exact mem3 | exact mem4 | exact mem5 | exact mem6 | exact mem7)) | (repeat first | assumption | exact List.mem_cons_self | apply List.mem_cons_of_mem | apply List.mem_append_right))))))); first | exact sub_n | assumption | exact sub_d 1 | exact sub_d 2 | exact sub_d 3 | exact sub_d 4 | exact sub_d 5 | exact sub_d 6 | exact sub_d 7 | exact sub_d 8 | exact sub_d 9 | exact sub_d 10 | exact sub_d 11 | exact sub_d 12 | exact sub_d 13 | exact sub_d 14 | exact sub_d 15 | exact sub_d 16 | exact sub_d 17 | exact sub_d 18 | exact sub_d 0 | (intro p hp; ((with_reducible (repeat first | assumption | (apply List.mem_append_left; assumption) | apply List.mem_cons_of_mem | apply List.mem_append_right))))))
  clear S
  with_reducible refine st_19 G s0 ?_ hds hx1 hc3 S' fun h tk df vf hvf S => ?_
  · lia
  clear S'
  refine law_exec 20 (by decide) ?_
  have S' := S.re [(Str.ofString "fars", .ref df), (Str.ofString "words", .ref r), (Str.ofString "decks", .ref ld), (Str.ofString "word", .ref lw)] ((df, LCg.lst vf) :: (ld, listOf #[.ref e0, .ref e1, .ref e2] 3) :: (e0, listOf v0.toArray n0) :: (dl, listOf vl.toArray cl) :: (L + 1 + 1 + 1 + 1 + 1 + 1 + 1 + 1, c7') :: (L + 1 + 1 + 1 + 1 + 1 + 1 + 1, c6) :: (e2, listOf v2.toArray n2) :: (la, listOf #[.ref a0, .ref a1, .ref a2] 3) :: (a0, listOf us0.toArray 0) :: (a1, listOf us1.toArray 0) :: (a2, listOf us2.toArray 0) :: (L + 1 + 1 + 1, c2) :: (lw, listOf vw.toArray n) :: (r, listOf (cells.map fun p => Value.ref p.1).toArray c) :: cells) (fun _ => ⟨rfl, rfl, rfl, rfl, trivial⟩) (by ((repeat ((with_reducible refine sub_c ?_ ?_); (focus (((with_reducible first | assumption | exact mem0 | exact mem1 | exact mem2 | exact mem3 | exact mem4 | exact mem5 | exact mem6 | exact mem7 | (refine mem_t ?_; first | exact mem0 | exact mem1 | exact mem2 | exact mem3 | exact mem4 | exact mem5 | exact mem6 | exact mem7 | (refine mem_t ?_; first | exact mem0 | exact mem1 | exact mem2 | exact mem3 | exact mem4 | exact mem5 | exact mem6 | exact mem7)) | (repeat first | assumption | exact List.mem_cons_self | apply List.mem_cons_of_mem | apply List.mem_append_right))))))); first | exact sub_n | assumption | exact sub_d 1 | exact sub_d 2 | exact sub_d 3 | exact sub_d 4 | exact sub_d 5 | exact sub_d 6 | exact sub_d 7 | exact sub_d 8 | exact sub_d 9 | exact sub_d 10 | exact sub_d 11 | exact sub_d 12 | exact sub_d 13 | exact sub_d 14 | exact sub_d 15 | exact sub_d 16 | exact sub_d 17 | exact sub_d 18 | exact sub_d 0 | (intro p hp; ((with_reducible (repeat first | assumption | (apply List.mem_append_left; assumption) | apply List.mem_cons_of_mem | apply List.mem_append_right))))))
  clear S
  with_reducible refine st_20 G s0 ?_ hvf hvl hfl (pl_far hW r0 r1 D0 D1) hc7' S' fun h tk S => ?_
  · lia
  clear S'
  refine law_exec 21 (by decide) ?_
  have S' := S.re [(Str.ofString "words", .ref r), (Str.ofString "decks", .ref ld), (Str.ofString "word", .ref lw)] ((dl, listOf vl.toArray cl) :: (L + 1 + 1 + 1 + 1 + 1 + 1 + 1 + 1, c7') :: (ld, listOf #[.ref e0, .ref e1, .ref e2] 3) :: (e0, listOf v0.toArray n0) :: (L + 1 + 1 + 1 + 1 + 1 + 1 + 1, c6) :: (e2, listOf v2.toArray n2) :: (la, listOf #[.ref a0, .ref a1, .ref a2] 3) :: (a0, listOf us0.toArray 0) :: (a1, listOf us1.toArray 0) :: (a2, listOf us2.toArray 0) :: (L + 1 + 1 + 1, c2) :: (lw, listOf vw.toArray n) :: (r, listOf (cells.map fun p => Value.ref p.1).toArray c) :: cells) (fun _ => ⟨rfl, rfl, rfl, trivial⟩) (by ((repeat ((with_reducible refine sub_c ?_ ?_); (focus (((with_reducible first | assumption | exact mem0 | exact mem1 | exact mem2 | exact mem3 | exact mem4 | exact mem5 | exact mem6 | exact mem7 | (refine mem_t ?_; first | exact mem0 | exact mem1 | exact mem2 | exact mem3 | exact mem4 | exact mem5 | exact mem6 | exact mem7 | (refine mem_t ?_; first | exact mem0 | exact mem1 | exact mem2 | exact mem3 | exact mem4 | exact mem5 | exact mem6 | exact mem7)) | (repeat first | assumption | exact List.mem_cons_self | apply List.mem_cons_of_mem | apply List.mem_append_right))))))); first | exact sub_n | assumption | exact sub_d 1 | exact sub_d 2 | exact sub_d 3 | exact sub_d 4 | exact sub_d 5 | exact sub_d 6 | exact sub_d 7 | exact sub_d 8 | exact sub_d 9 | exact sub_d 10 | exact sub_d 11 | exact sub_d 12 | exact sub_d 13 | exact sub_d 14 | exact sub_d 15 | exact sub_d 16 | exact sub_d 17 | exact sub_d 18 | exact sub_d 0 | (intro p hp; ((with_reducible (repeat first | assumption | (apply List.mem_append_left; assumption) | apply List.mem_cons_of_mem | apply List.mem_append_right))))))
  clear S
  with_reducible refine st_21 G hvl hfl hc7' S' ?_ fun h d tk c7'' dl' vl' cl' ls' hc7'' hvl' hp hs S _ => ?_
  · refine S'.offs (.tail _ (.head _)) hc7' (by ((repeat ((with_reducible refine sub_c ?_ ?_); (focus (((with_reducible first | assumption | exact mem0 | exact mem1 | exact mem2 | exact mem3 | exact mem4 | exact mem5 | exact mem6 | exact mem7 | (refine mem_t ?_; first | exact mem0 | exact mem1 | exact mem2 | exact mem3 | exact mem4 | exact mem5 | exact mem6 | exact mem7 | (refine mem_t ?_; first | exact mem0 | exact mem1 | exact mem2 | exact mem3 | exact mem4 | exact mem5 | exact mem6 | exact mem7)) | (repeat first | assumption | exact List.mem_cons_self | apply List.mem_cons_of_mem | apply List.mem_append_right))))))); first | exact sub_n | assumption | exact sub_d 1 | exact sub_d 2 | exact sub_d 3 | exact sub_d 4 | exact sub_d 5 | exact sub_d 6 | exact sub_d 7 | exact sub_d 8 | exact sub_d 9 | exact sub_d 10 | exact sub_d 11 | exact sub_d 12 | exact sub_d 13 | exact sub_d 14 | exact sub_d 15 | exact sub_d 16 | exact sub_d 17 | exact sub_d 18 | exact sub_d 0 | (intro p hp; ((with_reducible (repeat first | assumption | (apply List.mem_append_left; assumption) | apply List.mem_cons_of_mem | apply List.mem_append_right)))))) ?_
    ((repeat ((with_reducible refine fm_c ?_ ?_); (focus (first | exact Or.inl rfl | exact Or.inr (show @Ne Nat _ _ by lia))))); first | exact List.forall_mem_nil _ | assumption)
  with_reducible refine k _ d _ dl' vl' cl' ls' c7'' hc7'' hvl' hp hs (S.re _ _ ?_ ?_)
  · exact fun _ => ⟨rfl, rfl, rfl, trivial⟩
  · ((repeat ((with_reducible refine sub_c ?_ ?_); (focus (((with_reducible first | assumption | exact mem0 | exact mem1 | exact mem2 | exact mem3 | exact mem4 | exact mem5 | exact mem6 | exact mem7 | (refine mem_t ?_; first | exact mem0 | exact mem1 | exact mem2 | exact mem3 | exact mem4 | exact mem5 | exact mem6 | exact mem7 | (refine mem_t ?_; first | exact mem0 | exact mem1 | exact mem2 | exact mem3 | exact mem4 | exact mem5 | exact mem6 | exact mem7)) | (repeat first | assumption | exact List.mem_cons_self | apply List.mem_cons_of_mem | apply List.mem_append_right))))))); first | exact sub_n | assumption | exact sub_d 1 | exact sub_d 2 | exact sub_d 3 | exact sub_d 4 | exact sub_d 5 | exact sub_d 6 | exact sub_d 7 | exact sub_d 8 | exact sub_d 9 | exact sub_d 10 | exact sub_d 11 | exact sub_d 12 | exact sub_d 13 | exact sub_d 14 | exact sub_d 15 | exact sub_d 16 | exact sub_d 17 | exact sub_d 18 | exact sub_d 0 | (intro p hp; ((with_reducible (repeat first | assumption | (apply List.mem_append_left; assumption) | apply List.mem_cons_of_mem | apply List.mem_append_right)))))
end

theorem rs_54_1 {M : Model} {A : Around} {Q : Value → Shared → Prop} {E : Value → Shared → Prop} {s : Shared} (h : wpAny M A (call .none [.none]) Q E s) : wpAny M A (call .none [.none]) Q E s := by first | (walk1; fail "") | exact h
section
variable {w : World} {loose : List Str} {mean : ExcName → Option Value} {mg mb : Str → Option Value} {h₀ : Heap} {L fa : Addr} {cd : Value} {xh : Heap} {xg : Array GenState} {xd : Drawn} {xt : Nat} {xo : OsState} {m : Str → Option Value} {Q : Flow → Shared → Prop} {E : Value → Shared → Prop}
theorem st_26 (k : ∀ s', s' = s → Q (.ret (.bool true)) s') : wpAny (LM w) (LA L fa cd) (exec (lawSt 26) (lawEnv L fa cd)) Q E s := by
  conv in lawSt 26 => whnf
  k_steps
  exact k _ rfl
theorem join_e {la lw a0 a1 a2 ld e0 e1 e2 r dl : Addr} {us0 us1 us2 vw v0 v2 vl : List Value} {n n0 n2 c cl : Nat} {c2 c6 c7 : Obj} {v6 : Option Value} {W A0 A1 A2 : List Int} {S0 S1 S2 ls : List Str} {cells : List (Addr × Obj)} (G : LG w loose mean mg mb h₀) (hE : PassesOwn (LM w) (LA L fa cd) (lawEnv L fa cd) E) (hW : W.length = 4 ∧ (∀ n ∈ W, 0 ≤ n ∧ n < 68)) (r0 : Arr W A0) (r1 : Arr W A1) (r2 : Arr W A2)
    (i0 : IntsAre us0 A0) (i1 : IntsAre us1 A1) (i2 : IntsAre us2 A2) (iw : IntsAre vw W) (hc2 : c2.data = .cell (some (.ref la))) (hc6 : c6.data = .cell v6) (hc7 : c7.data = .cell (some (.ref dl))) (D0 : Deck (A0.map signC) S0) (D1 : Deck (A1.map signC) S1) (D2 : Deck (A2.map signC) S2) (s2 : StrsAre v2 S2) (hC : CellsI cells (sharedV A0 A1))
    (hvl : StrsAre vl ls) (hp : ls.Perm (onceS (S0.filter fun t => !(sldV S0 S1).1.contains t))) (hs : sortedS ls = true)
    (S : At h₀ L xh [(Str.ofString "words", .ref r), (Str.ofString "decks", .ref ld), (Str.ofString "word", .ref lw)] ((dl, listOf vl.toArray cl) :: (L + 1 + 1 + 1 + 1 + 1 + 1 + 1 + 1, c7) :: (L + 1 + 1 + 1 + 1 + 1 + 1 + 1, c6) :: (ld, listOf #[.ref e0, .ref e1, .ref e2] 3) :: (e0, listOf v0.toArray n0) :: (e2, listOf v2.toArray n2) :: (la, listOf #[.ref a0, .ref a1, .ref a2] 3) :: (a0, listOf us0.toArray 0) :: (a1, listOf us1.toArray 0) :: (a2, listOf us2.toArray 0) :: (L + 1 + 1 + 1, c2) :: (lw, listOf vw.toArray n) :: (r, listOf (cells.map fun p => Value.ref p.1).toArray c) :: cells))
    (k : ∀ h tk m, Fr h₀ L h m → Q (.ret (.bool true)) ⟨h, xg, xd, tk, xo⟩) :
    wpAny (LM w) (LA L fa cd) (execs (lawB.drop 22) (lawEnv L fa cd)) Q E ⟨xh, xg, xd, xt, xo⟩ := by
  have f0 := five_of hW r0
  have f1 := five_of hW r1
  have f2 := five_of hW r2
  have hZ := pl_shared hW r0 r2
  have hZ1 := pl_shared hW r0 r1
  have l0 := D0.len
  have l2 := D2.len
  have hll : ls.length ≤ 16 := by
    rw [hp.length_eq]
    exact Nat.le_trans (onceS_len _) (Nat.le_trans (List.length_filter_le _ _) (by lia))
  have hcl := fun b => hC.noCell (b := b)
  refine law_exec 22 (by decide) ?_
  have S' := S.re [(Str.ofString "words", .ref r), (Str.ofString "decks", .ref ld), (Str.ofString "word", .ref lw)] ((la, listOf #[.ref a0, .ref a1, .ref a2] 3) :: (a0, listOf us0.toArray 0) :: (a1, listOf us1.toArray 0) :: (a2, listOf us2.toArray 0) :: (dl, listOf vl.toArray cl) :: (lw, listOf vw.toArray n) :: (L + 1 + 1 + 1, c2) :: (L + 1 + 1 + 1 + 1 + 1 + 1 + 1 + 1, c7) :: (L + 1 + 1 + 1 + 1 + 1 + 1 + 1, c6) :: (ld, listOf #[.ref e0, .ref e1, .ref e2] 3) :: (e2, listOf v2.toArray n2) :: (r, listOf (cells.map fun p => Value.ref p.1).toArray c) :: cells) (fun _ => ⟨rfl, rfl, rfl, trivial⟩) (by ((repeat ((with_reducible refine sub_c ?_ ?_); (focus (((with_reducible first | assumption | exact mem0 | exact mem1 | exact mem2 | exact mem3 | exact mem4 | exact mem5 | exact mem6 | exact mem7 | (refine mem_t ?_; first | exact mem0 | exact mem1 | exact mem2 | exact mem3 | exact mem4 | exact mem5 | exact mem6 | exact mem7 | (refine mem_t ?_; first | exact mem0 | exact mem1 | exact mem2 | exact mem3 | exact mem4 | exact mem5 | exact mem6 | exact mem7)) | (repeat first | assumption | exact List.mem_cons_self | apply List.mem_cons_of_mem | apply List.mem_append_right))))))); first | exact sub_n | assumption | exact sub_d 1 | exact sub_d 2 | exact sub_d 3 | exact sub_d 4 | exact sub_d 5 | exact sub_d 6 | exact sub_d 7 | exact sub_d 8 | exact sub_d 9 | exact sub_d 10 | exact sub_d 11 | exact sub_d 12 | exact sub_d 13 | exact sub_d 14 | exact sub_d 15 | exact sub_d 16 | exact sub_d 17 | exact sub_d 18 | exact sub_d 0 | (intro p hp; ((with_reducible (repeat first | assumption | (apply List.mem_append_left; assumption) | apply List.mem_cons_of_mem | apply List.mem_append_right))))))
  clear S
  with_reducible refine st_22 G i0 i1 i2 f0 f1 f2 iw hW hZ.1 hZ.2 hvl hc2 hc7 S' fun h tk db vb cb B hvb hB S _ => ?_
  clear S'
  have hpl := pl_both hW r0 r1 r2 D0 D1 D2 hp hs hB
  refine law_exec 23 (by decide) ?_
  have S' := S.re [(Str.ofString "both", .ref db), (Str.ofString "words", .ref r), (Str.ofString "decks", .ref ld), (Str.ofString "word", .ref lw)] ((ld, listOf #[.ref e0, .ref e1, .ref e2] 3) :: (dl, listOf vl.toArray cl) :: (e2, listOf v2.toArray n2) :: (L + 1 + 1 + 1 + 1 + 1 + 1 + 1 + 1, c7) :: (L + 1 + 1 + 1 + 1 + 1 + 1 + 1, c6) :: (db, listOf vb.toArray cb) :: (r, listOf (cells.map fun p => Value.ref p.1).toArray c) :: cells) (fun _ => ⟨rfl, rfl, rfl, rfl, trivial⟩) (by ((repeat ((with_reducible refine sub_c ?_ ?_); (focus (((with_reducible first | assumption | exact mem0 | exact mem1 | exact mem2 | exact mem3 | exact mem4 | exact mem5 | exact mem6 | exact mem7 | (refine mem_t ?_; first | exact mem0 | exact mem1 | exact mem2 | exact mem3 | exact mem4 | exact mem5 | exact mem6 | exact mem7 | (refine mem_t ?_; first | exact mem0 | exact mem1 | exact mem2 | exact mem3 | exact mem4 | exact mem5 | exact mem6 | exact mem7)) | (repeat first | assumption | exact List.mem_cons_self | apply List.mem_cons_of_mem | apply List.mem_append_right))))))); first | exact sub_n | assumption | exact sub_d 1 | exact sub_d 2 | exact sub_d 3 | exact sub_d 4 | exact sub_d 5 | exact sub_d 6 | exact sub_d 7 | exact sub_d 8 | exact sub_d 9 | exact sub_d 10 | exact sub_d 11 | exact sub_d 12 | exact sub_d 13 | exact sub_d 14 | exact sub_d 15 | exact sub_d 16 | exact sub_d 17 | exact sub_d 18 | exact sub_d 0 | (intro p hp; ((with_reducible (repeat first | assumption | (apply List.mem_append_left; assumption) | apply List.mem_cons_of_mem | apply List.mem_append_right))))))
  clear S
  have n7 := hcl (L + 1 + 1 + 1 + 1 + 1 + 1 + 1)
  with_reducible refine st23_told G hvl s2 hll ?_ ?_ hc7 S' ?_ fun h tk c6' rp lm lu vm vu cm cu hc6' hm hu S => ?_
  · lia
  · exact ⟨_, hc6⟩
  · refine S'.offs (.tail _ (.tail _ (.tail _ (.tail _ (.head _))))) hc6 (by ((repeat ((with_reducible refine sub_c ?_ ?_); (focus (((with_reducible first | assumption | exact mem0 | exact mem1 | exact mem2 | exact mem3 | exact mem4 | exact mem5 | exact mem6 | exact mem7 | (refine mem_t ?_; first | exact mem0 | exact mem1 | exact mem2 | exact mem3 | exact mem4 | exact mem5 | exact mem6 | exact mem7 | (refine mem_t ?_; first | exact mem0 | exact mem1 | exact mem2 | exact mem3 | exact mem4 | exact mem5 | exact mem6 | exact mem7)) | (repeat first | assumption | exact List.mem_cons_self | apply List.mem_cons_of_mem | apply List.mem_append_right))))))); first | exact sub_n | assumption | exact sub_d 1 | exact sub_d 2 | exact sub_d 3 | exact sub_d 4 | exact sub_d 5 | exact sub_d 6 | exact sub_d 7 | exact sub_d 8 | exact sub_d 9 | exact sub_d 10 | exact sub_d 11 | exact sub_d 12 | exact sub_d 13 | exact sub_d 14 | exact sub_d 15 | exact sub_d 16 | exact sub_d 17 | exact sub_d 18 | exact sub_d 0 | (intro p hp; ((with_reducible (repeat first | assumption | (apply List.mem_append_left; assumption) | apply List.mem_cons_of_mem | apply List.mem_append_right)))))) ?_
    ((repeat ((with_reducible refine fm_c ?_ ?_); (focus (first | exact Or.inl rfl | exact Or.inr (show @Ne Nat _ _ by lia))))); first | exact List.forall_mem_nil _ | assumption)
  clear S'
  refine law_exec 24 (by decide) ?_
  have S' := S.re [(Str.ofString "both", .ref db), (Str.ofString "words", .ref r), (Str.ofString "decks", .ref ld), (Str.ofString "word", .ref lw)] ((db, listOf vb.toArray cb) :: (rp, pairObj lm lu) :: (lm, listOf vm.toArray cm) :: (lu, listOf vu.toArray cu) :: (L + 1 + 1 + 1 + 1 + 1 + 1 + 1, c6') :: (ld, listOf #[.ref e0, .ref e1, .ref e2] 3) :: (dl, listOf vl.toArray cl) :: (e2, listOf v2.toArray n2) :: (L + 1 + 1 + 1 + 1 + 1 + 1 + 1 + 1, c7) :: (r, listOf (cells.map fun p => Value.ref p.1).toArray c) :: cells) (fun _ => ⟨rfl, rfl, rfl, rfl, trivial⟩) (by ((repeat ((with_reducible refine sub_c ?_ ?_); (focus (((with_reducible first | assumption | exact mem0 | exact mem1 | exact mem2 | exact mem3 | exact mem4 | exact mem5 | exact mem6 | exact mem7 | (refine mem_t ?_; first | exact mem0 | exact mem1 | exact mem2 | exact mem3 | exact mem4 | exact mem5 | exact mem6 | exact mem7 | (refine mem_t ?_; first | exact mem0 | exact mem1 | exact mem2 | exact mem3 | exact mem4 | exact mem5 | exact mem6 | exact mem7)) | (repeat first | assumption | exact List.mem_cons_self | apply List.mem_cons_of_mem | apply List.mem_append_right))))))); first | exact sub_n | assumption | exact sub_d 1 | exact sub_d 2 | exact sub_d 3 | exact sub_d 4 | exact sub_d 5 | exact sub_d 6 | exact sub_d 7 | exact sub_d 8 | exact sub_d 9 | exact sub_d 10 | exact sub_d 11 | exact sub_d 12 | exact sub_d 13 | exact sub_d 14 | exact sub_d 15 | exact sub_d 16 | exact sub_d 17 | exact sub_d 18 | exact sub_d 0 | (intro p hp; ((with_reducible (repeat first | assumption | (apply List.mem_append_left; assumption) | apply List.mem_cons_of_mem | apply List.mem_append_right))))))
  clear S
  with_reducible refine st24_check G hvl s2 hvb hm hu hll ?_ hpl.1 ?_ hpl.2.1 hpl.2.2.1 hpl.2.2.2 hc6' hc7 S' fun h tk S => ?_
  · lia
  · lia
  clear S'
  refine law_exec 25 (by decide) ?_
  with_reducible refine st_25 G hE hC hZ1.1 S fun h tk m F => ?_
  refine law_exec 26 (by decide) ?_
  with_reducible refine st_26 fun s' e => ?_
  subst e
  exact k _ _ _ F
end

theorem rs_55_1 {M : Model} {A : Around} {Q : Value → Shared → Prop} {E : Value → Shared → Prop} {s : Shared} (h : wpAny M A (call .none [.none]) Q E s) : wpAny M A (call .none [.none]) Q E s := by first | (walk1; fail "") | exact h
section
variable {w : World} {loose : List Str} {mean : ExcName → Option Value} {mg mb : Str → Option Value} {h₀ : Heap} {L fa : Addr} {cd : Value} {xh : Heap} {xg : Array GenState} {xd : Drawn} {xt : Nat} {xo : OsState} {m : Str → Option Value} {Q : Flow → Shared → Prop} {E : Value → Shared → Prop}
theorem law_walk {lsc : Addr} {vsc : List Value} {ns : List Int} {c0 c1 c2 c3 c4 c5 c6 c7 : Obj} (G : LG w loose mean mg mb h₀) (hE : PassesOwn (LM w) (LA L fa cd) (lawEnv L fa cd) E) (hL : h₀.IsList lsc vsc.toArray) (hI : IntsAre vsc ns) (hvl : vsc.toArray.size ≤ sizeLine)
    (F : Fr h₀ L xh m) (N : News h₀ L xh [(L + 1 + 1, c1), (L + 1, c0), (L + 1 + 1 + 1, c2), (L + 1 + 1 + 1 + 1, c3), (L + 1 + 1 + 1 + 1 + 1, c4), (L + 1 + 1 + 1 + 1 + 1 + 1, c5), (L + 1 + 1 + 1 + 1 + 1 + 1 + 1, c6), (L + 1 + 1 + 1 + 1 + 1 + 1 + 1 + 1, c7)]) (d0 : c0.data = .cell (some (.ref lsc))) (d1 : c1.data = .cell none) (d2 : c2.data = .cell none) (d3 : c3.data = .cell none) (d4 : c4.data = .cell none) (d5 : c5.data = .cell none) (d6 : c6.data = .cell none) (d7 : c7.data = .cell none)
    (k : ∀ h d tk m, Fr h₀ L h m → Q (.ret (.bool true)) ⟨h, xg, d, tk, xo⟩) :
    wpAny (LM w) (LA L fa cd) (execs lawB (lawEnv L fa cd)) Q E ⟨xh, xg, xd, xt, xo⟩ := by
  with_reducible refine join_a G hE hL hI hvl F N d0 d1 d2 fun h tk la lw a0 a1 a2 us0 us1 us2 vw n c2' W A0 A1 A2 hc2 hW r0 r1 r2 i0 i1 i2 iw S hq => ?_
  with_reducible refine join_b G hE hc2 hW r0 r1 r2 i0 i1 i2 d3 d4 d5 d6 S hq fun h tk ld e0 e1 e2 lt v0 v1 v2 n0 n1 n2 S0 S1 S2 t0 t1 t2 c3' c6' v6' hc3 hc6 D0 D1 D2 s0 s1 s2 S => ?_
  with_reducible refine join_c G hc2 hW r0 r1 i0 i1 hc6 D0 D1 s0 s1 S fun h tk r c cells rp lm lu vm vu cm cu c6' hc6 hI hm hu S => ?_
  with_reducible refine join_d G hW r0 r1 hc3 hc6 d7 D0 D1 s0 s1 hm hI S fun h d tk dl vl cl ls c7' hc7 hvl hp hs S => ?_
  with_reducible refine join_e G hE hW r0 r1 r2 i0 i1 i2 iw hc2 hc6 hc7 D0 D1 D2 s2 hI hvl hp hs S fun h tk m F => ?_
  exact k h d tk m F
end

theorem law_holds : PySem.Challenge.rw_op0087_01.Holds := hd (by
  k_go0
  all_goals (try k_fold)
  rename_i w s₀ s₁ mg mb G Y fa o pm doc ho hg KX X V GL T B TE TW w17 w16 M w15 w14 hcd ns hs hlay0 hLay hr1 hl2 w12 w11 lsc vsc w8 hL ra w1 r0 hI hr hcond hcond2 K0 hD h₁ tk₁ F c7 c6 c5 c4 c3 c2 c1 c0 d6 d5 d4 d3 d2 d1 d0 dr N0 X0
  have hvl : vsc.toArray.size ≤ sizeLine := by
    have := hI.length
    simp only [List.size_toArray, sizeLine]; omega
  replace d6 : c7.data = .cell none := d6
  replace d5 : c6.data = .cell none := d5
  replace d4 : c5.data = .cell none := d4
  replace d3 : c4.data = .cell none := d3
  replace d2 : c3.data = .cell none := d2
  replace d1 : c2.data = .cell none := d1
  replace d0 : c1.data = .cell none := d0
  replace dr : c0.data = .cell (some (.ref lsc)) := dr
  change wpAny (LM w) (LA s₁.heap.objs.size fa (.ref w15)) (execs lawB (lawEnv s₁.heap.objs.size fa (.ref w15))) _ _ _
  have hN : News s₁.heap s₁.heap.objs.size h₁ [(s₁.heap.objs.size + 1 + 1, c1), (s₁.heap.objs.size + 1, c0), (s₁.heap.objs.size + 1 + 1 + 1, c2), (s₁.heap.objs.size + 1 + 1 + 1 + 1, c3), (s₁.heap.objs.size + 1 + 1 + 1 + 1 + 1, c4), (s₁.heap.objs.size + 1 + 1 + 1 + 1 + 1 + 1, c5), (s₁.heap.objs.size + 1 + 1 + 1 + 1 + 1 + 1 + 1, c6), (s₁.heap.objs.size + 1 + 1 + 1 + 1 + 1 + 1 + 1 + 1, c7)] := news_sub N0 (by ((repeat ((with_reducible refine sub_c ?_ ?_); (focus (((with_reducible first | assumption | exact mem0 | exact mem1 | exact mem2 | exact mem3 | exact mem4 | exact mem5 | exact mem6 | exact mem7 | (refine mem_t ?_; first | exact mem0 | exact mem1 | exact mem2 | exact mem3 | exact mem4 | exact mem5 | exact mem6 | exact mem7 | (refine mem_t ?_; first | exact mem0 | exact mem1 | exact mem2 | exact mem3 | exact mem4 | exact mem5 | exact mem6 | exact mem7)) | (repeat first | assumption | exact List.mem_cons_self | apply List.mem_cons_of_mem | apply List.mem_append_right))))))); first | exact sub_n | assumption | exact sub_d 1 | exact sub_d 2 | exact sub_d 3 | exact sub_d 4 | exact sub_d 5 | exact sub_d 6 | exact sub_d 7 | exact sub_d 8 | exact sub_d 9 | exact sub_d 10 | exact sub_d 11 | exact sub_d 12 | exact sub_d 13 | exact sub_d 14 | exact sub_d 15 | exact sub_d 16 | exact sub_d 17 | exact sub_d 18 | exact sub_d 0 | (intro p hp; ((with_reducible (repeat first | assumption | (apply List.mem_append_left; assumption) | apply List.mem_cons_of_mem | apply List.mem_append_right))))))
  with_reducible refine law_walk ⟨K0, KX, T⟩ ?_ hL hI hvl F hN dr d0 d1 d2 d3 d4 d5 d6 fun h d tk m' F' => ?_
  · passes_own
  clear F N0 hN
  k_steps
  all_goals (try k_data))

end Mine
theorem PySem.Challenge.cw_op0087_01_holds : PySem.Challenge.rw_op0087_01.Holds :=
  Mine.law_holds
